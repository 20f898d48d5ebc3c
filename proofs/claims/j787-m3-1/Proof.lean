import JvmDerived
import JvmDerived.Pilot.@@N@@Statement
import JvmDerived.Pilot.@@N@@Code
set_option linter.unusedVariables false
set_option linter.unusedSimpArgs false
namespace Jvm.OwnKit
open Sem ClassFile Op Lib Jvm.Stand Jvm.Free Jvm.LawKit Jvm.RoadKit
section Own
variable {p : Program} {l : Launch} {e : Env} {R : Room} {s : State} {m : MethodId} {args : Array Value} {below : List Frame} {meth : Method} {c : Code} {T : State} {locs : List Loc} {cells slots : Nat} {Z : State} {a0 : Array Value} {h : Heap} {bytes : ByteArray} {pc : Nat} {Ls : Array Slot} {st : List Value} {cs ss : Nat} {Q : Option Value → Heap → List Loc → Prop}

def zEnds (p : Program) (e : Env) (below : List Frame) (s T : State) (F : JFrame) (cs ss : Nat) (Q : Option Value → Heap → List Loc → Prop) : Prop :=
  ∃ s₂ o, Steps p.tables e below (T.setTop F) s₂ ∧ s₂.status = .running ∧ Ended s₂ below o ∧ ∃ v L, o = .returned v ∧ Q v s₂.heap L ∧ FrameEnd s o s₂ L cs ss
theorem zstp {T T' : State} {F F' : JFrame} (st : ∀ target, Steps p.tables e below (T'.setTop F') target → Steps p.tables e below (T.setTop F) target) (k : zEnds p e below s T' F' cs ss Q) : zEnds p e below s T F cs ss Q := by
  obtain ⟨s2, o, h1, r⟩ := k; exact ⟨s2, o, st _ h1, r⟩
def zCon (l : Launch) (Z : State) (y : MethodName) (bytes : ByteArray) (maxL : Nat) (ret : Option FieldType) (ws : List Jvm.Cond) (rm : Room) (as' : Array Value) (h0 : Heap) (Q : Option Value → Heap → List Loc → Prop) : Prop :=
  MetFree l y (head1 (Jvm.Cond.code y bytes maxL ret :: ws) rm) (fun a U => a = as' ∧ Z.Warmed39 U.vm ∧ U.heap = h0) (fun _ _ _ _ _ => True) (fun _ U o U' => ∃ v L, o = .returned v ∧ Q v U'.heap L ∧ FrameEnd U o U' L rm.cells rm.slots)
def zSame (v : Option Value) (h0 : Heap) : Option Value → Heap → List Loc → Prop := fun v' h L => v' = v ∧ h = h0 ∧ L = []
theorem zenter {y : MethodName} {maxL : Nat} {ret : Option FieldType} {ws : List Jvm.Cond} {rm : Room} {as' : Array Value} {h0 : Heap} (hpl : plainFor y = true) {L0 : Array Slot} (hef : ∀ m, entryFrame m as' maxL = mkF m 0 L0 [])
    (H : ∀ (p : Program) (e : Env) (s : State) (m : MethodId) (below : List Frame) (meth : Method) (c : Code) (T : State), p.tables.exec = Jvm.exec → Z.Warmed39 s.vm → c.code = bytes → c.maxLocals = maxL → s.vm.findClass y.cls = some m.cls → meth.name = y.name → meth.sig.returnType = ret → meth.locks = false →
      Stand p l e rm s m as' below meth c T [] 0 0 → T.heap = h0 → zEnds p e below s T (mkF m 0 L0 []) rm.cells rm.slots Q) : zCon l Z y bytes maxL ret ws rm as' h0 Q := by
  refine MetFree.of_bodySF hpl hisR ?_
  intro p e s m args below meth c s₁ Bd hml0 hP hK
  obtain ⟨rfl, hZ, hh⟩ := hP
  have := H p e s m below meth c s₁ Bd.exec hZ Bd.bytes hml0 (findClass_of_methodNamed Bd.named) (name_of_methodNamed Bd.named Bd.method).1 Bd.returns Bd.notSynchronized (Stand.of_body Bd) (by rw [← hh, Bd.state]; rfl)
  rw [← hef m] at this
  exact this
theorem zjoin {T T' : State} {F F' : JFrame} (k : zEnds p e below s T' F' cs ss Q → zEnds p e below s T F cs ss Q) (r : zEnds p e below s T' F' cs ss Q) : zEnds p e below s T F cs ss Q := k r
theorem zretG {w : Value} {t : FieldType} {i : Instr} (X : Stand p l e R s m args below meth c T locs cells slots) (hx : p.tables.exec = Jvm.exec) (hby : c.code = bytes) (hd : decode bytes pc = .ok (i, 1)) (hret : meth.sig.returnType = some t) (hlk : meth.locks = false) (hn : narrow t w = w)
    (hi : (i = .ireturn ∧ (t = .int ∨ t = .boolean ∨ t = .byte ∨ t = .char ∨ t = .short) ∧ ∃ z, w = .int z) ∨ (i = .lreturn ∧ t = .long ∧ ∃ z, w = .long z) ∨ (i = .dreturn ∧ t = .double ∧ ∃ z, w = .double z) ∨ (i = .freturn ∧ t = .float ∧ ∃ z, w = .float z) ∨ (i = .areturn ∧ t.isReference = true ∧ w.isRef = true))
    (hc : cells ≤ cs) (hs : slots ≤ ss) (hq : Q (some w) T.heap locs) : zEnds p e below s T (mkF m pc Ls (w :: st)) cs ss Q := by
  obtain ⟨fs, hr, hrun, hended, hW, hsame⟩ := X.leave (v := some w) (fun q => by rw [hret] at q; cases q) hlk
  exact ⟨_, _, retOut X hx hret hn hi (hb hby hd) hr, hrun, hended, _, _, rfl, hq, ⟨_, rfl⟩, hW, hsame.mono hc hs⟩
theorem zretI {z : Int32} (X : Stand p l e R s m args below meth c T locs cells slots) (hx : p.tables.exec = Jvm.exec) (hby : c.code = bytes) (hd : decode bytes pc = .ok (.ireturn, 1)) (hret : meth.sig.returnType = some .int) (hlk : meth.locks = false) (hc : cells ≤ cs) (hs : slots ≤ ss) (hq : Q (some (.int z)) T.heap locs) : zEnds p e below s T (mkF m pc Ls (.int z :: st)) cs ss Q :=
  zretG X hx hby hd hret hlk rfl (Or.inl ⟨rfl, Or.inl rfl, z, rfl⟩) hc hs hq
theorem zretZ {z : Int32} {t : FieldType} (X : Stand p l e R s m args below meth c T locs cells slots) (hx : p.tables.exec = Jvm.exec) (hby : c.code = bytes) (hd : decode bytes pc = .ok (.ireturn, 1)) (hret : meth.sig.returnType = some t) (hlk : meth.locks = false) (ht : t = .boolean ∨ t = .byte ∨ t = .char ∨ t = .short) (hn : narrow t (.int z) = .int z) (hc : cells ≤ cs) (hs : slots ≤ ss) (hq : Q (some (.int z)) T.heap locs) : zEnds p e below s T (mkF m pc Ls (.int z :: st)) cs ss Q :=
  zretG X hx hby hd hret hlk hn (Or.inl ⟨rfl, Or.inr ht, z, rfl⟩) hc hs hq
theorem ziloadN (X : Stand p l e R s m args below meth c T locs cells slots) (hx : p.tables.exec = Jvm.exec) (hby : c.code = bytes) {k : Fin 4} {v : Int32} (hd : decode bytes pc = .ok (.iload_n k, 1)) (hl : Ls[k.val]? = some (.val (.int v))) (r : zEnds p e below s T (mkF m (pc + 1) Ls (.int v :: st)) cs ss Q) : zEnds p e below s T (mkF m pc Ls st) cs ss Q := zstp (fun _ k => XS.iloadN X.here hx rfl (hb hby hd) hl k) r
theorem ziload (X : Stand p l e R s m args below meth c T locs cells slots) (hx : p.tables.exec = Jvm.exec) (hby : c.code = bytes) {k : Nat} {v : Int32} (hd : decode bytes pc = .ok (.iload k, 2)) (hl : Ls[k]? = some (.val (.int v))) (r : zEnds p e below s T (mkF m (pc + 2) Ls (.int v :: st)) cs ss Q) : zEnds p e below s T (mkF m pc Ls st) cs ss Q := zstp (fun _ k => XS.iload X.here hx rfl (hb hby hd) hl k) r
theorem zaloadN (X : Stand p l e R s m args below meth c T locs cells slots) (hx : p.tables.exec = Jvm.exec) (hby : c.code = bytes) {k : Fin 4} {v : Value} (hd : decode bytes pc = .ok (.aload_n k, 1)) (hl : Ls[k.val]? = some (.val v)) (hv : v.isRef = true) (r : zEnds p e below s T (mkF m (pc + 1) Ls (v :: st)) cs ss Q) : zEnds p e below s T (mkF m pc Ls st) cs ss Q := zstp (fun _ k => XS.aloadN X.here hx rfl (hb hby hd) hl hv k) r
theorem zaload (X : Stand p l e R s m args below meth c T locs cells slots) (hx : p.tables.exec = Jvm.exec) (hby : c.code = bytes) {k : Nat} {v : Value} (hd : decode bytes pc = .ok (.aload k, 2)) (hl : Ls[k]? = some (.val v)) (hv : v.isRef = true) (r : zEnds p e below s T (mkF m (pc + 2) Ls (v :: st)) cs ss Q) : zEnds p e below s T (mkF m pc Ls st) cs ss Q := zstp (fun _ k => XS.aload X.here hx rfl (hb hby hd) hl hv k) r
theorem zistoreN (X : Stand p l e R s m args below meth c T locs cells slots) (hx : p.tables.exec = Jvm.exec) (hby : c.code = bytes) {k : Fin 4} {v : Int32} (hd : decode bytes pc = .ok (.istore_n k, 1)) (L' : Array Slot) (hl : storeLocals Ls k.val (.int v) = some L') (r : zEnds p e below s T (mkF m (pc + 1) L' st) cs ss Q) : zEnds p e below s T (mkF m pc Ls (.int v :: st)) cs ss Q := zstp (fun _ k => XS.istoreN X.here hx rfl (hb hby hd) rfl hl k) r
theorem zistore (X : Stand p l e R s m args below meth c T locs cells slots) (hx : p.tables.exec = Jvm.exec) (hby : c.code = bytes) {k : Nat} {v : Int32} (hd : decode bytes pc = .ok (.istore k, 2)) (L' : Array Slot) (hl : storeLocals Ls k (.int v) = some L') (r : zEnds p e below s T (mkF m (pc + 2) L' st) cs ss Q) : zEnds p e below s T (mkF m pc Ls (.int v :: st)) cs ss Q := zstp (fun _ k => XS.istore X.here hx rfl (hb hby hd) rfl hl k) r
theorem zastore (X : Stand p l e R s m args below meth c T locs cells slots) (hx : p.tables.exec = Jvm.exec) (hby : c.code = bytes) {k : Nat} {v : Value} (hd : decode bytes pc = .ok (.astore k, 2)) (L' : Array Slot) (hv : v.isRef = true) (hl : storeLocals Ls k v = some L') (r : zEnds p e below s T (mkF m (pc + 2) L' st) cs ss Q) : zEnds p e below s T (mkF m pc Ls (v :: st)) cs ss Q := zstp (fun _ k => XS.astore X.here hx rfl (hb hby hd) rfl hv hl k) r
theorem ziconst (X : Stand p l e R s m args below meth c T locs cells slots) (hx : p.tables.exec = Jvm.exec) (hby : c.code = bytes) {i : Int} (hd : decode bytes pc = .ok (.iconst i, 1)) (z : Int32) (hz : Int32.ofInt i = z) (r : zEnds p e below s T (mkF m (pc + 1) Ls (.int z :: st)) cs ss Q) : zEnds p e below s T (mkF m pc Ls st) cs ss Q := zstp (fun _ k => XS.iconst X.here hx rfl (hb hby hd) (hz ▸ k)) r
theorem zbipush (X : Stand p l e R s m args below meth c T locs cells slots) (hx : p.tables.exec = Jvm.exec) (hby : c.code = bytes) {i : Int} (hd : decode bytes pc = .ok (.bipush i, 2)) (z : Int32) (hz : (Int8.ofInt i).toInt32 = z) (r : zEnds p e below s T (mkF m (pc + 2) Ls (.int z :: st)) cs ss Q) : zEnds p e below s T (mkF m pc Ls st) cs ss Q := zstp (fun _ k => XS.bipush X.here hx rfl (hb hby hd) (hz ▸ k)) r
theorem zsipush (X : Stand p l e R s m args below meth c T locs cells slots) (hx : p.tables.exec = Jvm.exec) (hby : c.code = bytes) {i : Int} (hd : decode bytes pc = .ok (.sipush i, 3)) (z : Int32) (hz : (Int16.ofInt i).toInt32 = z) (r : zEnds p e below s T (mkF m (pc + 3) Ls (.int z :: st)) cs ss Q) : zEnds p e below s T (mkF m pc Ls st) cs ss Q := zstp (fun _ k => XS.sipush X.here hx rfl (hb hby hd) (hz ▸ k)) r
theorem ziadd (X : Stand p l e R s m args below meth c T locs cells slots) (hx : p.tables.exec = Jvm.exec) (hby : c.code = bytes) {x y : Int32} (hd : decode bytes pc = .ok (.iadd, 1)) (z : Int32) (hz : x + y = z) (r : zEnds p e below s T (mkF m (pc + 1) Ls (.int z :: st)) cs ss Q) : zEnds p e below s T (mkF m pc Ls (.int y :: .int x :: st)) cs ss Q := zstp (fun _ k => XS.iadd X.here hx rfl (hb hby hd) rfl (hz ▸ k)) r
theorem ziand (X : Stand p l e R s m args below meth c T locs cells slots) (hx : p.tables.exec = Jvm.exec) (hby : c.code = bytes) {x y : Int32} (hd : decode bytes pc = .ok (.iand, 1)) (z : Int32) (hz : x &&& y = z) (r : zEnds p e below s T (mkF m (pc + 1) Ls (.int z :: st)) cs ss Q) : zEnds p e below s T (mkF m pc Ls (.int y :: .int x :: st)) cs ss Q := zstp (fun _ k => XS.iand X.here hx rfl (hb hby hd) rfl (hz ▸ k)) r
theorem ziushr (X : Stand p l e R s m args below meth c T locs cells slots) (hx : p.tables.exec = Jvm.exec) (hby : c.code = bytes) {x y : Int32} (hd : decode bytes pc = .ok (.iushr, 1)) (z : Int32) (hz : (x.toUInt32 >>> (y &&& 31).toUInt32).toInt32 = z) (r : zEnds p e below s T (mkF m (pc + 1) Ls (.int z :: st)) cs ss Q) : zEnds p e below s T (mkF m pc Ls (.int y :: .int x :: st)) cs ss Q := zstp (fun _ k => XS.iushr X.here hx rfl (hb hby hd) rfl (hz ▸ k)) r
theorem zirem (X : Stand p l e R s m args below meth c T locs cells slots) (hx : p.tables.exec = Jvm.exec) (hby : c.code = bytes) {x y : Int32} (hd : decode bytes pc = .ok (.irem, 1)) (z : Int32) (hy : y ≠ 0) (hz : x % y = z) (r : zEnds p e below s T (mkF m (pc + 1) Ls (.int z :: st)) cs ss Q) : zEnds p e below s T (mkF m pc Ls (.int y :: .int x :: st)) cs ss Q := zstp (fun _ k => iremM X hx rfl (hb hby hd) rfl hy (hz ▸ k)) r
theorem zi2b (X : Stand p l e R s m args below meth c T locs cells slots) (hx : p.tables.exec = Jvm.exec) (hby : c.code = bytes) {v : Int32} (hd : decode bytes pc = .ok (.i2b, 1)) (z : Int32) (hz : v.toInt8.toInt32 = z) (r : zEnds p e below s T (mkF m (pc + 1) Ls (.int z :: st)) cs ss Q) : zEnds p e below s T (mkF m pc Ls (.int v :: st)) cs ss Q := zstp (fun _ k => XS.i2b X.here hx rfl (hb hby hd) rfl (hz ▸ k)) r
theorem zgoto (X : Stand p l e R s m args below meth c T locs cells slots) (hx : p.tables.exec = Jvm.exec) (hby : c.code = bytes) {o : Int} (hd : decode bytes pc = .ok (.goto o, 3)) (pc' : Nat) (ho : 0 ≤ (pc : Int) + o) (hp : ((pc : Int) + o).toNat = pc') (r : zEnds p e below s T (mkF m pc' Ls st) cs ss Q) : zEnds p e below s T (mkF m pc Ls st) cs ss Q := zstp (fun _ k => XS.goto X.here hx rfl rfl (hb hby hd) ho hp k) r
theorem zifYes (X : Stand p l e R s m args below meth c T locs cells slots) (hx : p.tables.exec = Jvm.exec) (hby : c.code = bytes) {cd : ClassFile.Cond} {x : Int32} {o : Int} (hd : decode bytes pc = .ok (.ifCond cd o, 3)) (pc' : Nat) (hc : ifCond.holds cd x = true) (ho : 0 ≤ (pc : Int) + o) (hp : ((pc : Int) + o).toNat = pc') (r : zEnds p e below s T (mkF m pc' Ls st) cs ss Q) : zEnds p e below s T (mkF m pc Ls (.int x :: st)) cs ss Q := zstp (fun _ k => XS.ifYes X.here hx rfl rfl (hb hby hd) rfl hc ho hp k) r
theorem zifNo (X : Stand p l e R s m args below meth c T locs cells slots) (hx : p.tables.exec = Jvm.exec) (hby : c.code = bytes) {cd : ClassFile.Cond} {x : Int32} {o : Int} (hd : decode bytes pc = .ok (.ifCond cd o, 3)) (hc : ifCond.holds cd x = false) (r : zEnds p e below s T (mkF m (pc + 3) Ls st) cs ss Q) : zEnds p e below s T (mkF m pc Ls (.int x :: st)) cs ss Q := zstp (fun _ k => XS.ifNo X.here hx rfl (hb hby hd) rfl hc k) r
theorem zicmpYes (X : Stand p l e R s m args below meth c T locs cells slots) (hx : p.tables.exec = Jvm.exec) (hby : c.code = bytes) {cd : ClassFile.Cond} {x y : Int32} {o : Int} (hd : decode bytes pc = .ok (.if_icmp cd o, 3)) (pc' : Nat) (hc : if_icmp.holds cd x y = true) (ho : 0 ≤ (pc : Int) + o) (hp : ((pc : Int) + o).toNat = pc') (r : zEnds p e below s T (mkF m pc' Ls st) cs ss Q) : zEnds p e below s T (mkF m pc Ls (.int y :: .int x :: st)) cs ss Q := zstp (fun _ k => XS.icmpYes X.here hx rfl rfl (hb hby hd) rfl hc ho hp k) r
theorem zicmpNo (X : Stand p l e R s m args below meth c T locs cells slots) (hx : p.tables.exec = Jvm.exec) (hby : c.code = bytes) {cd : ClassFile.Cond} {x y : Int32} {o : Int} (hd : decode bytes pc = .ok (.if_icmp cd o, 3)) (hc : if_icmp.holds cd x y = false) (r : zEnds p e below s T (mkF m (pc + 3) Ls st) cs ss Q) : zEnds p e below s T (mkF m pc Ls (.int y :: .int x :: st)) cs ss Q := zstp (fun _ k => XS.icmpNo X.here hx rfl (hb hby hd) rfl hc k) r
theorem zldcI (X : Stand p l e R s m args below meth c T locs cells slots) (hx : p.tables.exec = Jvm.exec) (hby : c.code = bytes) {own : String} {i : Nat} (hd : decode bytes pc = .ok (.ldc i, 2)) (z : Int32) (hZ : Z.Warmed39 s.vm) (hown : s.vm.findClass own = some m.cls) (w : (Jvm.Cond.constant own i z).before a0 Z = true) (r : zEnds p e below s T (mkF m (pc + 2) Ls (.int z :: st)) cs ss Q) : zEnds p e below s T (mkF m pc Ls st) cs ss Q := zstp (fun _ k => X.ldcInt hx hown (mvT hZ w) (g := mkF m pc Ls st) rfl (hb hby hd) _ k) r
theorem zgetstat (X : Stand p l e R s m args below meth c T locs cells slots) (hx : p.tables.exec = Jvm.exec) (hby : c.code = bytes) {own R0 O n d host : String} {i : Nat} (hd : decode bytes pc = .ok (.getstatic i, 3)) (hZ : Z.Warmed39 s.vm) (hown : s.vm.findClass own = some m.cls) (w : (Jvm.Cond.fieldLink own i R0 n d).before a0 Z = true ∨ (Jvm.Cond.fieldLinkNest own i R0 n d host).before a0 Z = true) (via : Via Z R0 O n d) (eT : T.heap = h) {v : Value} (F : Sta Z h O n d v)
    (r : ∀ T', Stand p l e R s m args below meth c T' locs cells slots → T'.heap = h → zEnds p e below s T' (mkF m (pc + 3) Ls (v :: st)) cs ss Q) : zEnds p e below s T (mkF m pc Ls st) cs ss Q := by
  obtain ⟨T', X', e', k⟩ := getS2 X hx hZ hown w via eT F (g := mkF m pc Ls st) rfl (hb hby hd)
  exact zstp k (r T' X' e')
def zLst (Z : State) (h : Heap) (a : Addr) (ty : FieldType) (vs : List Value) : Prop := ∃ cl : Cell, Arr Z h a cl ty ∧ cl.slots.toList = vs
theorem zLst.ext {h' : Heap} {a : Addr} {ty : FieldType} {vs : List Value} (F : zLst Z h a ty vs) (E : Ext h h') : zLst Z h' a ty vs := by obtain ⟨c, A, r⟩ := F; exact ⟨c, A.ext E, r⟩
theorem zLst.keep {h' : Heap} {a : Addr} {ty : FieldType} {vs : List Value} {ws : List Addr} (F : zLst Z h a ty vs) (K : Keep h h' ws) (q : a ∉ ws) : zLst Z h' a ty vs := by obtain ⟨c, A, r⟩ := F; exact ⟨c, ⟨K.2.1 a c A.1 q, A.2⟩, r⟩
theorem zLst.same {h' : Heap} {a : Addr} {sl : Nat} {v : Value} {ty : FieldType} {vs : List Value} (F : zLst Z h a ty vs) (W : Wr h h' a sl v) : zLst Z h' a ty (vs.set sl v) := by
  obtain ⟨c, A, r⟩ := F
  refine ⟨_, A.same W, ?_⟩
  show (c.slots.setIfInBounds sl v).toList = _
  rw [Array.toList_setIfInBounds, r]
theorem zlst_in {cl : Cell} {vs : List Value} {j : Int32} (r : cl.slots.toList = vs) (hj : ¬ j < 0) (hlt : j.toNatClampNeg < vs.length) : ¬ (j < 0 ∨ cl.slots.size ≤ j.toNatClampNeg) := by
  rintro (q | q)
  · exact hj q
  · rw [← r, Array.length_toList] at hlt; exact absurd q (Nat.not_le.mpr hlt)
theorem zlst_at {cl : Cell} {vs : List Value} {k : Nat} {v : Value} (r : cl.slots.toList = vs) (hv : vs[k]? = some v) : cl.slots[k]? = some v := by
  rw [← r, Array.getElem?_toList] at hv; exact hv
theorem znewprim (X : Stand p l e R s m args below meth c T locs cells slots) (hx : p.tables.exec = Jvm.exec) (hby : c.code = bytes) {aty : ArrayType} (hd : decode bytes pc = .ok (.newarray aty, 2)) (hZ : Z.Warmed39 s.vm) (w : (Jvm.Cond.arrayClass (newarray.typeOf aty)).before a0 Z = true) (eT : T.heap = h) {n : Int32} (hn : ¬ n < 0) (cap : Nat) (hcap : n.toNatClampNeg ≤ cap) (hb8 : cap * 8 ≤ 536870912) (hc : cells + 1 ≤ R.cells) (hl : slots + cap ≤ R.slots)
    (r : ∀ T' h' b, Stand p l e R s m args below meth c T' locs (cells + 1) (slots + cap) → T'.heap = h' → b = h.size → Ext h h' → zLst Z h' b (newarray.typeOf aty) (List.replicate n.toNatClampNeg (defaultValue (newarray.typeOf aty))) → zEnds p e below s T' (mkF m (pc + 2) Ls (.ref b :: st)) cs ss Q) : zEnds p e below s T (mkF m pc Ls (.int n :: st)) cs ss Q := by
  obtain ⟨T', h', cA, X', e', E, A, k⟩ := newP X hx hZ w eT (g := mkF m pc Ls (.int n :: st)) rfl (hb hby hd) rfl hn hcap hb8 hc hl
  exact zstp k (r T' h' _ X' e' rfl E ⟨_, A, by simp [newA]⟩)
theorem zbaload (X : Stand p l e R s m args below meth c T locs cells slots) (hx : p.tables.exec = Jvm.exec) (hby : c.code = bytes) (hd : decode bytes pc = .ok (.baload, 1)) (hZ : Z.Warmed39 s.vm) (eT : T.heap = h) {a : Addr} {vs : List Value} (A : zLst Z h a .byte vs) {j : Int32} (hj : ¬ j < 0) {v : Value} (hv : vs[j.toNatClampNeg]? = some v)
    (r : zEnds p e below s T (mkF m (pc + 1) Ls (v :: st)) cs ss Q) : zEnds p e below s T (mkF m pc Ls (.int j :: .ref a :: st)) cs ss Q := by
  obtain ⟨cl, A, q⟩ := A
  exact zstp (fun _ k => X.baloadBytes hx (by rw [eT]; exact A.1) (State.isArrayOf_alike hZ.alike A.2.1) A.2.2 (zlst_in q hj (List.getElem?_eq_some_iff.mp hv).1) (zlst_at q hv) (g := mkF m pc Ls (.int j :: .ref a :: st)) rfl rfl (hb hby hd) _ k) r
theorem zalenC (X : Stand p l e R s m args below meth c T locs cells slots) (hx : p.tables.exec = Jvm.exec) (hby : c.code = bytes) (hd : decode bytes pc = .ok (.arraylength, 1)) (hZ : Z.Warmed39 s.vm) (eT : T.heap = h) {a : Addr} {cl : Cell} {ty : FieldType} (A : Arr Z h a cl ty) (z : Int32) (hz : cl.slots.size.toInt32 = z)
    (r : zEnds p e below s T (mkF m (pc + 1) Ls (.int z :: st)) cs ss Q) : zEnds p e below s T (mkF m pc Ls (.ref a :: st)) cs ss Q :=
  zstp (fun _ k => X.arraylength hx (by rw [eT]; exact A.1) (State.isArrayOf_alike hZ.alike A.2.1) (g := mkF m pc Ls (.ref a :: st)) rfl rfl (hb hby hd) _ (hz ▸ k)) r
theorem zbastore (X : Stand p l e R s m args below meth c T locs cells slots) (hx : p.tables.exec = Jvm.exec) (hby : c.code = bytes) (hd : decode bytes pc = .ok (.bastore, 1)) (hZ : Z.Warmed39 s.vm) (eT : T.heap = h) {a : Addr} {vs : List Value} (A : zLst Z h a .byte vs) {j x : Int32} (hj : ¬ j < 0) (hlt : j.toNatClampNeg < vs.length) (x' : Int32) (hx' : nar .byte x = x')
    (r : ∀ T' h', Stand p l e R s m args below meth c T' (locs ++ [⟨a, j.toNatClampNeg⟩]) cells slots → T'.heap = h' → Wr h h' a j.toNatClampNeg (.int x') → zLst Z h' a .byte (vs.set j.toNatClampNeg (.int x')) → zEnds p e below s T' (mkF m (pc + 1) Ls st) cs ss Q) : zEnds p e below s T (mkF m pc Ls (.int x :: .int j :: .ref a :: st)) cs ss Q := by
  obtain ⟨cl, A', q⟩ := A
  subst hx'
  obtain ⟨T', h', X', e', W, k⟩ := stB X hx hZ eT A' (j := j) (x := x) (zlst_in q hj hlt) (g := mkF m pc Ls (.int x :: .int j :: .ref a :: st)) rfl rfl (hb hby hd)
  exact zstp k (r T' h' X' e' W (zLst.same ⟨cl, A', q⟩ W))
theorem zcalls (X : Stand p l e R s m args below meth c T locs cells slots) (hx : p.tables.exec = Jvm.exec) (hby : c.code = bytes) {own : String} {i : Nat} {y : MethodName} {by' : ByteArray} {maxL : Nat} {rt : Option FieldType} {rm : Room} {argsL : List Value} {Q' : Option Value → Heap → List Loc → Prop} (hd : decode bytes pc = .ok (.invokestatic i, 3)) (hZ : Z.Warmed39 s.vm) (hown : s.vm.findClass own = some m.cls) (w1 : (Jvm.Cond.methodLink own i y).before a0 Z = true) (w2 : (Jvm.Cond.static y).before a0 Z = true) (w3 : (Jvm.Cond.initialized y.cls).before a0 Z = true) (w4 : (Jvm.Cond.code y by' maxL rt).before a0 Z = true) (eT : T.heap = h)
    (con : zCon l Z y by' maxL rt [] rm argsL.toArray h Q') {nl : Nat} (hmx : c.maxLocals = nl) (W : Nat) {ps : List FieldType} {rv : Option FieldType} (hp : parseMethodDescriptor y.desc = some ⟨ps, rv⟩) {S0 : List Value}
    (r : ∀ T' h' v L, T'.heap = h' → Stand p l e R s m args below meth c T' (locs ++ L) (cells + rm.cells) (slots + rm.slots) → Q' v h' L → zEnds p e below s T' (mkF m (pc + 3) Ls (v.toList ++ st)) cs ss Q)
    (hy : y.cls ≠ "java/lang/invoke/MethodHandle" ∧ y.cls ≠ "java/lang/invoke/VarHandle" := by decide) (hml : Ls.size = nl := by rfl) (hW : (st.map fun v => v.category).sum ≤ W := by exact Nat.le_of_eq rfl) (hf : rm.frames + 1 ≤ R.frames := by decide) (hl : W + (maxL + 11) + rm.locals ≤ R.locals := by decide) (hcl : cells + rm.cells ≤ R.cells := by decide) (hsl : slots + rm.slots ≤ R.slots := by decide) (hn : argsL.length = ps.length := by rfl) (hS : S0 = argsL.reverse ++ st := by rfl) : zEnds p e below s T (mkF m pc Ls S0) cs ss Q := by
  obtain ⟨v, _, ⟨T', L', k', n'⟩, -, X', ⟨L, hq, l1, l2, l3⟩, k⟩ := Jvm.LawKit.callS X hx (y := y) hown (mvT hZ w1) (mvT hZ w2) (mvT hZ w3) (mvT hZ w4) hy (backOf (W := W) con hZ w4 w3 hf hl) (g := mkF m pc Ls S0) rfl (hml.trans hmx.symm) (argsL := argsL) (rest := st) (lenOf hp hn) hS (by show 2 * 0 + _ ≤ _; rw [Nat.mul_zero, Nat.zero_add]; exact hW) (hb hby hd) (fun _ _ => ⟨rfl, eT, hcl, hsl⟩)
  dsimp only [Pt.U, Pt.locs, Pt.cells, Pt.slots] at X' l1 l2 l3 k hq
  subst l1 l2 l3
  exact zstp k (r T' _ v L rfl X' hq)
theorem zpureK {w : Option Value} {rm : Room} (hr : rm.cells = 0 ∧ rm.slots = 0) (r : ∀ T', Stand p l e R s m args below meth c T' locs cells slots → T'.heap = h → zEnds p e below s T' (mkF m pc Ls (w.toList ++ st)) cs ss Q) :
    ∀ T' h' v L, T'.heap = h' → Stand p l e R s m args below meth c T' (locs ++ L) (cells + rm.cells) (slots + rm.slots) → zSame w h v h' L → zEnds p e below s T' (mkF m pc Ls (v.toList ++ st)) cs ss Q := by
  rintro T' h' v L e' X ⟨rfl, rfl, rfl⟩
  rw [hr.1, hr.2, List.append_nil] at X
  exact r T' X e'
theorem zsz {n0 : Nat} (O : Old Z n0 h) : n0 ≤ h.size := by rw [← O.1]; exact O.2.1
theorem zlen_is {t : Term} {x : Addr} {k : Int32} {cl : Cell} {ty : FieldType} {args : Array Value} {s : State} (ev : t.eval args s none [] s = some (.ref x)) (A : Arr s s.heap x cl ty) (q : (Jvm.Cond.eq (Term.length t) (Term.int k)).value args s none s [] = some true) : cl.slots.size.toInt32 = k := by
  obtain ⟨u, w, e1, e2, k1, k2⟩ := cmp_v (Or.inl q)
  cases (Term.int_eval k).symm.trans e2
  obtain ⟨z, rfl⟩ := k2
  have h0 : z = k := by simpa [Jvm.Cond.value, e1, Term.int_eval] using q
  subst h0
  have h1 : s.arrayAt? x = some cl := Arr.fin (Vm.Alike.refl _) A
  by_cases hl : cl.slots.size < 2 ^ 31
  · have := (len_f (args := args) (first := s) (o := none) (idx := []) ev h1 hl).symm.trans e1
    exact Value.int.inj (Option.some.inj this)
  · exfalso; simp [Term.eval, ev, h1, hl] at e1
end Own
end Jvm.OwnKit
namespace Jvm.Pilot.@@N@@
open Jvm Jvm.ClassFile Sem Op Lib Jvm.Free Jvm.Stand Jvm.LawKit Jvm.RoadKit Jvm.OwnKit Bundle Jvm.Pilot.@@N@@.Jvm.D
theorem w0 {Z : State} {a0 : Array Value} (hw : ∀ d ∈ tables_1, d.before a0 Z = true) : (Jvm.Cond.arrayClass Jvm.ClassFile.FieldType.byte).before a0 Z = true := hw _ (List.mem_of_getElem? (i := 0) rfl)
theorem w1 {Z : State} {a0 : Array Value} (hw : ∀ d ∈ tables_1, d.before a0 Z = true) : (Jvm.Cond.constant "com/example/kakehashi/kakehashi/message/Iso2022FirstCharacterPinLaw" (7 : Nat) (2147483647 : Int32)).before a0 Z = true := hw _ (List.mem_of_getElem? (i := 1) rfl)
theorem w2 {Z : State} {a0 : Array Value} (hw : ∀ d ∈ tables_1, d.before a0 Z = true) : (Jvm.Cond.methodLink "com/example/kakehashi/kakehashi/message/Iso2022FirstCharacterPinLaw" (8 : Nat) ({ cls := "com/example/kakehashi/kakehashi/message/Iso2022FirstCharacterPinLaw", name := "esc", desc := "([BII)I" } : Jvm.MethodName)).before a0 Z = true := hw _ (List.mem_of_getElem? (i := 2) rfl)
theorem w3 {Z : State} {a0 : Array Value} (hw : ∀ d ∈ tables_1, d.before a0 Z = true) : (Jvm.Cond.static ({ cls := "com/example/kakehashi/kakehashi/message/Iso2022FirstCharacterPinLaw", name := "esc", desc := "([BII)I" } : Jvm.MethodName)).before a0 Z = true := hw _ (List.mem_of_getElem? (i := 3) rfl)
theorem w4 {Z : State} {a0 : Array Value} (hw : ∀ d ∈ tables_1, d.before a0 Z = true) : (Jvm.Cond.initialized "com/example/kakehashi/kakehashi/message/Iso2022FirstCharacterPinLaw").before a0 Z = true := hw _ (List.mem_of_getElem? (i := 4) rfl)
theorem w5 {Z : State} {a0 : Array Value} (hw : ∀ d ∈ tables_1, d.before a0 Z = true) : (Jvm.Cond.code ({ cls := "com/example/kakehashi/kakehashi/message/Iso2022FirstCharacterPinLaw", name := "esc", desc := "([BII)I" } : Jvm.MethodName) method_2_code (4 : Nat) (Option.some Jvm.ClassFile.FieldType.int)).before a0 Z = true := hw _ (List.mem_of_getElem? (i := 5) rfl)
theorem w6 {Z : State} {a0 : Array Value} (hw : ∀ d ∈ tables_1, d.before a0 Z = true) : (Jvm.Cond.methodLink "com/example/kakehashi/kakehashi/message/Iso2022FirstCharacterPinLaw" (14 : Nat) ({ cls := "com/example/kakehashi/kakehashi/message/Iso2022", name := "firstCharacter", desc := "([BII)I" } : Jvm.MethodName)).before a0 Z = true := hw _ (List.mem_of_getElem? (i := 6) rfl)
theorem w7 {Z : State} {a0 : Array Value} (hw : ∀ d ∈ tables_1, d.before a0 Z = true) : (Jvm.Cond.static ({ cls := "com/example/kakehashi/kakehashi/message/Iso2022", name := "firstCharacter", desc := "([BII)I" } : Jvm.MethodName)).before a0 Z = true := hw _ (List.mem_of_getElem? (i := 7) rfl)
theorem w8 {Z : State} {a0 : Array Value} (hw : ∀ d ∈ tables_1, d.before a0 Z = true) : (Jvm.Cond.initialized "com/example/kakehashi/kakehashi/message/Iso2022").before a0 Z = true := hw _ (List.mem_of_getElem? (i := 8) rfl)
theorem w9 {Z : State} {a0 : Array Value} (hw : ∀ d ∈ tables_1, d.before a0 Z = true) : (Jvm.Cond.code ({ cls := "com/example/kakehashi/kakehashi/message/Iso2022", name := "firstCharacter", desc := "([BII)I" } : Jvm.MethodName) prog_46_method_12_code (4 : Nat) (Option.some Jvm.ClassFile.FieldType.int)).before a0 Z = true := hw _ (List.mem_of_getElem? (i := 9) rfl)
theorem w10 {Z : State} {a0 : Array Value} (hw : ∀ d ∈ tables_1, d.before a0 Z = true) : (Jvm.Cond.fieldLink "com/example/kakehashi/kakehashi/message/Iso2022" (40 : Nat) "com/example/kakehashi/kakehashi/message/Iso2022" "TO_ASCII" "[B").before a0 Z = true := hw _ (List.mem_of_getElem? (i := 10) rfl)
theorem w11 {Z : State} {a0 : Array Value} (hw : ∀ d ∈ tables_1, d.before a0 Z = true) : (Jvm.Cond.laysStatic "com/example/kakehashi/kakehashi/message/Iso2022" "TO_ASCII" "[B").before a0 Z = true := hw _ (List.mem_of_getElem? (i := 11) rfl)
theorem d_method_2_0 : decode method_2_code 0 = .ok (.iload_n 2, 1) := by decide +kernel
theorem d_method_2_1 : decode method_2_code 1 = .ok (.iconst 3, 1) := by decide +kernel
theorem d_method_2_2 : decode method_2_code 2 = .ok (.irem, 1) := by decide +kernel
theorem d_method_2_3 : decode method_2_code 3 = .ok (.istore_n 3, 1) := by decide +kernel
theorem d_method_2_4 : decode method_2_code 4 = .ok (.aload_n 0, 1) := by decide +kernel
theorem d_method_2_5 : decode method_2_code 5 = .ok (.iload_n 1, 1) := by decide +kernel
theorem d_method_2_6 : decode method_2_code 6 = .ok (.bipush 27, 2) := by decide +kernel
theorem d_method_2_8 : decode method_2_code 8 = .ok (.bastore, 1) := by decide +kernel
theorem d_method_2_9 : decode method_2_code 9 = .ok (.aload_n 0, 1) := by decide +kernel
theorem d_method_2_10 : decode method_2_code 10 = .ok (.iload_n 1, 1) := by decide +kernel
theorem d_method_2_11 : decode method_2_code 11 = .ok (.iconst 1, 1) := by decide +kernel
theorem d_method_2_12 : decode method_2_code 12 = .ok (.iadd, 1) := by decide +kernel
theorem d_method_2_13 : decode method_2_code 13 = .ok (.iload_n 3, 1) := by decide +kernel
theorem d_method_2_14 : decode method_2_code 14 = .ok (.ifCond .ne 8, 3) := by decide +kernel
theorem d_method_2_17 : decode method_2_code 17 = .ok (.bipush 36, 2) := by decide +kernel
theorem d_method_2_19 : decode method_2_code 19 = .ok (.goto 5, 3) := by decide +kernel
theorem d_method_2_22 : decode method_2_code 22 = .ok (.bipush 40, 2) := by decide +kernel
theorem d_method_2_24 : decode method_2_code 24 = .ok (.i2b, 1) := by decide +kernel
theorem d_method_2_25 : decode method_2_code 25 = .ok (.bastore, 1) := by decide +kernel
theorem d_method_2_26 : decode method_2_code 26 = .ok (.aload_n 0, 1) := by decide +kernel
theorem d_method_2_27 : decode method_2_code 27 = .ok (.iload_n 1, 1) := by decide +kernel
theorem d_method_2_28 : decode method_2_code 28 = .ok (.iconst 2, 1) := by decide +kernel
theorem d_method_2_29 : decode method_2_code 29 = .ok (.iadd, 1) := by decide +kernel
theorem d_method_2_30 : decode method_2_code 30 = .ok (.iload_n 3, 1) := by decide +kernel
theorem d_method_2_31 : decode method_2_code 31 = .ok (.iconst 2, 1) := by decide +kernel
theorem d_method_2_32 : decode method_2_code 32 = .ok (.if_icmp .ne 8, 3) := by decide +kernel
theorem d_method_2_35 : decode method_2_code 35 = .ok (.bipush 74, 2) := by decide +kernel
theorem d_method_2_37 : decode method_2_code 37 = .ok (.goto 5, 3) := by decide +kernel
theorem d_method_2_40 : decode method_2_code 40 = .ok (.bipush 66, 2) := by decide +kernel
theorem d_method_2_42 : decode method_2_code 42 = .ok (.i2b, 1) := by decide +kernel
theorem d_method_2_43 : decode method_2_code 43 = .ok (.bastore, 1) := by decide +kernel
theorem d_method_2_44 : decode method_2_code 44 = .ok (.iload_n 1, 1) := by decide +kernel
theorem d_method_2_45 : decode method_2_code 45 = .ok (.iconst 3, 1) := by decide +kernel
theorem d_method_2_46 : decode method_2_code 46 = .ok (.iadd, 1) := by decide +kernel
theorem d_method_2_47 : decode method_2_code 47 = .ok (.ireturn, 1) := by decide +kernel
theorem d_prog_46_method_12_0 : decode prog_46_method_12_code 0 = .ok (.iload_n 1, 1) := by decide +kernel
theorem d_prog_46_method_12_1 : decode prog_46_method_12_code 1 = .ok (.istore_n 3, 1) := by decide +kernel
theorem d_prog_46_method_12_2 : decode prog_46_method_12_code 2 = .ok (.iload_n 3, 1) := by decide +kernel
theorem d_prog_46_method_12_3 : decode prog_46_method_12_code 3 = .ok (.iload_n 2, 1) := by decide +kernel
theorem d_prog_46_method_12_4 : decode prog_46_method_12_code 4 = .ok (.if_icmp .ge 21, 3) := by decide +kernel
theorem d_prog_46_method_12_7 : decode prog_46_method_12_code 7 = .ok (.aload_n 0, 1) := by decide +kernel
theorem d_prog_46_method_12_8 : decode prog_46_method_12_code 8 = .ok (.iload_n 3, 1) := by decide +kernel
theorem d_prog_46_method_12_9 : decode prog_46_method_12_code 9 = .ok (.baload, 1) := by decide +kernel
theorem d_prog_46_method_12_10 : decode prog_46_method_12_code 10 = .ok (.bipush 27, 2) := by decide +kernel
theorem d_prog_46_method_12_12 : decode prog_46_method_12_code 12 = .ok (.if_icmp .ne 13, 3) := by decide +kernel
theorem d_prog_46_method_12_15 : decode prog_46_method_12_code 15 = .ok (.iload_n 3, 1) := by decide +kernel
theorem d_prog_46_method_12_16 : decode prog_46_method_12_code 16 = .ok (.getstatic 40, 3) := by decide +kernel
theorem d_prog_46_method_12_19 : decode prog_46_method_12_code 19 = .ok (.arraylength, 1) := by decide +kernel
theorem d_prog_46_method_12_20 : decode prog_46_method_12_code 20 = .ok (.iadd, 1) := by decide +kernel
theorem d_prog_46_method_12_21 : decode prog_46_method_12_code 21 = .ok (.istore_n 3, 1) := by decide +kernel
theorem d_prog_46_method_12_22 : decode prog_46_method_12_code 22 = .ok (.goto (-20), 3) := by decide +kernel
theorem d_prog_46_method_12_25 : decode prog_46_method_12_code 25 = .ok (.iload_n 3, 1) := by decide +kernel
theorem d_prog_46_method_12_26 : decode prog_46_method_12_code 26 = .ok (.ireturn, 1) := by decide +kernel
theorem pd_0 : parseMethodDescriptor "([BII)I" = some ⟨[(.array .byte), .int, .int], some .int⟩ := by decide +kernel
theorem pn_0 : plainName "com/example/kakehashi/kakehashi/message/Iso2022" = true := by first | (simp [plainName, overriddenIn]; done) | decide +kernel
theorem pn_1 : plainName "com/example/kakehashi/kakehashi/message/Iso2022FirstCharacterPinLaw" = true := by first | (simp [plainName, overriddenIn]; done) | decide +kernel
theorem oneof_3 (z : Int32) (h1 : 0 ≤ z.toInt) (h2 : z.toInt < 3) : z = 0 ∨ z = 1 ∨ z = 2 := by
  have q : z.toInt = 0 ∨ z.toInt = 1 ∨ z.toInt = 2 := by omega
  rcases q with q | q | q
  · exact Or.inl (Int32.toInt_inj.mp (q.trans rfl))
  · exact Or.inr (Or.inl (Int32.toInt_inj.mp (q.trans rfl)))
  · exact Or.inr (Or.inr ((Int32.toInt_inj.mp (q.trans rfl))))
theorem oneof_4 (z : Int32) (h1 : 0 ≤ z.toInt) (h2 : z.toInt < 4) : z = 0 ∨ z = 1 ∨ z = 2 ∨ z = 3 := by
  have q : z.toInt = 0 ∨ z.toInt = 1 ∨ z.toInt = 2 ∨ z.toInt = 3 := by omega
  rcases q with q | q | q | q
  · exact Or.inl (Int32.toInt_inj.mp (q.trans rfl))
  · exact Or.inr (Or.inl (Int32.toInt_inj.mp (q.trans rfl)))
  · exact Or.inr (Or.inr (Or.inl (Int32.toInt_inj.mp (q.trans rfl))))
  · exact Or.inr (Or.inr (Or.inr ((Int32.toInt_inj.mp (q.trans rfl)))))
theorem and_3 (x : Int32) : x &&& (3 : Int32) = (0 : Int32) ∨ x &&& (3 : Int32) = (1 : Int32) ∨ x &&& (3 : Int32) = (2 : Int32) ∨ x &&& (3 : Int32) = (3 : Int32) := by
  have p := c_and x 3 (by decide)
  have q : (3 : Int32).toInt = 3 := rfl
  exact oneof_4 _ p.1 (by omega)
theorem rem_3 (x : Int32) : (x &&& (2147483647 : Int32)) % (3 : Int32) = (0 : Int32) ∨ (x &&& (2147483647 : Int32)) % (3 : Int32) = (1 : Int32) ∨ (x &&& (2147483647 : Int32)) % (3 : Int32) = (2 : Int32) := by
  have h0 : 0 ≤ (x &&& (2147483647 : Int32)).toInt := (c_andS x 2147483647).2.2 (by decide)
  have p := (c_irem (x &&& (2147483647 : Int32)) 3 3 rfl).1 h0
  exact oneof_3 _ (by rw [p]; omega) (by rw [p]; omega)
theorem own_nar8 (x : Int32) : nar .byte (x.toInt8.toInt32) = x.toInt8.toInt32 := by simp [nar]
def e1v (x : Int32) : Int32 := if x % (3 : Int32) = (0 : Int32) then 36 else 40
def e2v (x : Int32) : Int32 := if x % (3 : Int32) = (2 : Int32) then 74 else 66
theorem own_c (x : Int32) : 0 ≤ (x &&& (127 : Int32)).toInt ∧ (x &&& (127 : Int32)).toInt ≤ 127 := by
  have h1 := c_and x 127 (by decide); have e : (127 : Int32).toInt = 127 := rfl
  omega
theorem own_27 {c : Int32} (kc : 0 ≤ c.toInt ∧ c.toInt ≤ 127) (h : ¬ (c = (27 : Int32))) : ¬ ((c.toInt8.toInt32) = (27 : Int32)) := by
  intro q; apply h; apply Int32.toInt_inj.mp
  have h1 := c_i2b c; rw [q] at h1; have e : (27 : Int32).toInt = 27 := rfl
  omega
theorem own_48 (x : Int32) : ¬ ((((48 : Int32) + ((x &&& (255 : Int32)) % (31 : Int32))).toInt8.toInt32) = (27 : Int32)) := by
  intro q
  have h0 : 0 ≤ (x &&& (255 : Int32)).toInt := (c_andS x 255).2.2 (by decide)
  have p := (c_irem (x &&& (255 : Int32)) 31 31 rfl).1 h0
  have a := c_iadd (48 : Int32) ((x &&& (255 : Int32)) % (31 : Int32)); have r := rng32 ((48 : Int32) + ((x &&& (255 : Int32)) % (31 : Int32)))
  have h1 := c_i2b ((48 : Int32) + ((x &&& (255 : Int32)) % (31 : Int32))); rw [q] at h1
  have e : (27 : Int32).toInt = 27 := rfl
  have e2 : (48 : Int32).toInt = 48 := rfl
  omega
def Ctx (Z : State) (w_arr0 : Addr) (cl_arr0 : Cell) : Prop := Sta Z Z.heap "com/example/kakehashi/kakehashi/message/Iso2022" "TO_ASCII" "[B" (.ref w_arr0) ∧ Arr Z Z.heap w_arr0 cl_arr0 .byte ∧ cl_arr0.slots.size.toInt32 = (3 : Int32)
set_option maxRecDepth 65536 in
set_option maxHeartbeats 40000000 in
theorem c1_firstCharacter (l : Launch) {Z : State} {a0 : Array Value} (hw : ∀ d ∈ tables_1, d.before a0 Z = true) (ws : List Jvm.Cond) {w_arr0 : Addr} {cl_arr0 : Cell} {n0 : Nat} {h0 : Heap} (C : Ctx Z w_arr0 cl_arr0) (O0 : Old Z n0 h0) (Z0 : n0 ≤ h0.size) (b900 : Addr) (x2 : Int32) (x3 : Int32) (g_b900 : n0 ≤ b900) (A_b900 : zLst Z h0 b900 .byte [(.int x2), (.int x3), (.int 0), (.int 0), (.int 0), (.int 0), (.int 0), (.int 0), (.int 0), (.int 0), (.int 0), (.int 0), (.int 0), (.int 0), (.int 0), (.int 0), (.int 0), (.int 0), (.int 0), (.int 0)]) : zCon l Z (⟨"com/example/kakehashi/kakehashi/message/Iso2022", "firstCharacter", "([BII)I"⟩ : MethodName) prog_46_method_12_code 4 (some .int) ws ({ frames := 0, cells := 0, slots := 0, locals := 0 } : Room) #[(.ref b900), (.int 0), (.int 0)] h0 (zSame (some (.int 0)) h0) := by
  obtain ⟨S_w_arr0, A_w_arr0, Al_w_arr0⟩ := C
  refine zenter (plainFor_of_name pn_0) (L0 := #[rv b900, iv 0, iv 0, .unset]) (fun m => by first | rfl | simp [entryFrame, mkF, argsToLocals, Value.category, maxLocals]) ?_
  intro p e s m below meth c T0 hx hZ hby hml hown0 hnm hret hlk X0 e0
  have hown : s.vm.findClass "com/example/kakehashi/kakehashi/message/Iso2022" = some m.cls := hown0
  have K0 := Keep.refl h0 []
  have N0 := Fr.nil n0
  show zEnds p e below s T0 (mkF m 0 #[rv b900, iv 0, iv 0, .unset] []) _ _ _
  refine ziloadN X0 hx hby d_prog_46_method_12_0 rfl (zistoreN X0 hx hby d_prog_46_method_12_1 (L' := #[rv b900, iv 0, iv 0, iv 0]) rfl (ziloadN X0 hx hby d_prog_46_method_12_2 rfl (ziloadN X0 hx hby d_prog_46_method_12_3 rfl (zicmpYes X0 hx hby d_prog_46_method_12_4 25 (by decide) (by decide) (by decide) (ziloadN X0 hx hby d_prog_46_method_12_25 rfl ?_)))))
  show zEnds p e below s T0 (mkF m 26 #[rv b900, iv 0, iv 0, iv 0] [(.int 0)]) _ _ _
  exact zretI X0 hx hby d_prog_46_method_12_26 hret hlk (by decide) (by decide) ⟨rfl, e0, rfl⟩
set_option maxRecDepth 65536 in
set_option maxHeartbeats 40000000 in
theorem c3_firstCharacter (l : Launch) {Z : State} {a0 : Array Value} (hw : ∀ d ∈ tables_1, d.before a0 Z = true) (ws : List Jvm.Cond) {w_arr0 : Addr} {cl_arr0 : Cell} {n0 : Nat} {h0 : Heap} (C : Ctx Z w_arr0 cl_arr0) (O0 : Old Z n0 h0) (Z0 : n0 ≤ h0.size) (b900 : Addr) (x2 : Int32) (x3 : Int32) (x4 : Int32) (g_b900 : n0 ≤ b900) (A_b900 : zLst Z h0 b900 .byte [(.int x2), (.int x3), (.int x4), (.int 0), (.int 0), (.int 0), (.int 0), (.int 0), (.int 0), (.int 0), (.int 0), (.int 0), (.int 0), (.int 0), (.int 0), (.int 0), (.int 0), (.int 0), (.int 0), (.int 0)]) (k0 : ¬ (x2 = (27 : Int32))) : zCon l Z (⟨"com/example/kakehashi/kakehashi/message/Iso2022", "firstCharacter", "([BII)I"⟩ : MethodName) prog_46_method_12_code 4 (some .int) ws ({ frames := 0, cells := 0, slots := 0, locals := 0 } : Room) #[(.ref b900), (.int 0), (.int 1)] h0 (zSame (some (.int 0)) h0) := by
  obtain ⟨S_w_arr0, A_w_arr0, Al_w_arr0⟩ := C
  refine zenter (plainFor_of_name pn_0) (L0 := #[rv b900, iv 0, iv 1, .unset]) (fun m => by first | rfl | simp [entryFrame, mkF, argsToLocals, Value.category, maxLocals]) ?_
  intro p e s m below meth c T0 hx hZ hby hml hown0 hnm hret hlk X0 e0
  have hown : s.vm.findClass "com/example/kakehashi/kakehashi/message/Iso2022" = some m.cls := hown0
  have K0 := Keep.refl h0 []
  have N0 := Fr.nil n0
  show zEnds p e below s T0 (mkF m 0 #[rv b900, iv 0, iv 1, .unset] []) _ _ _
  refine ziloadN X0 hx hby d_prog_46_method_12_0 rfl (zistoreN X0 hx hby d_prog_46_method_12_1 (L' := #[rv b900, iv 0, iv 1, iv 0]) rfl (ziloadN X0 hx hby d_prog_46_method_12_2 rfl (ziloadN X0 hx hby d_prog_46_method_12_3 rfl (zicmpNo X0 hx hby d_prog_46_method_12_4 (by decide) (zaloadN X0 hx hby d_prog_46_method_12_7 rfl rfl (ziloadN X0 hx hby d_prog_46_method_12_8 rfl (zbaload X0 hx hby d_prog_46_method_12_9 hZ e0 A_b900 (by decide) (v := (.int x2)) rfl (zbipush X0 hx hby d_prog_46_method_12_10 (z := (27 : Int32)) rfl (zicmpYes X0 hx hby d_prog_46_method_12_12 25 (feq k0).2 (by decide) (by decide) ?_)))))))))
  show zEnds p e below s T0 (mkF m 25 #[rv b900, iv 0, iv 1, iv 0] []) _ _ _
  refine ziloadN X0 hx hby d_prog_46_method_12_25 rfl ?_
  show zEnds p e below s T0 (mkF m 26 #[rv b900, iv 0, iv 1, iv 0] [(.int 0)]) _ _ _
  exact zretI X0 hx hby d_prog_46_method_12_26 hret hlk (by decide) (by decide) ⟨rfl, e0, rfl⟩
set_option maxRecDepth 65536 in
set_option maxHeartbeats 40000000 in
theorem c5_firstCharacter (l : Launch) {Z : State} {a0 : Array Value} (hw : ∀ d ∈ tables_1, d.before a0 Z = true) (ws : List Jvm.Cond) {w_arr0 : Addr} {cl_arr0 : Cell} {n0 : Nat} {h0 : Heap} (C : Ctx Z w_arr0 cl_arr0) (O0 : Old Z n0 h0) (Z0 : n0 ≤ h0.size) (b900 : Addr) (x2 : Int32) (x3 : Int32) (x4 : Int32) (x5 : Int32) (g_b900 : n0 ≤ b900) (A_b900 : zLst Z h0 b900 .byte [(.int x2), (.int x3), (.int x4), (.int x5), (.int 0), (.int 0), (.int 0), (.int 0), (.int 0), (.int 0), (.int 0), (.int 0), (.int 0), (.int 0), (.int 0), (.int 0), (.int 0), (.int 0), (.int 0), (.int 0)]) (k0 : ¬ (x2 = (27 : Int32))) : zCon l Z (⟨"com/example/kakehashi/kakehashi/message/Iso2022", "firstCharacter", "([BII)I"⟩ : MethodName) prog_46_method_12_code 4 (some .int) ws ({ frames := 0, cells := 0, slots := 0, locals := 0 } : Room) #[(.ref b900), (.int 0), (.int 2)] h0 (zSame (some (.int 0)) h0) := by
  obtain ⟨S_w_arr0, A_w_arr0, Al_w_arr0⟩ := C
  refine zenter (plainFor_of_name pn_0) (L0 := #[rv b900, iv 0, iv 2, .unset]) (fun m => by first | rfl | simp [entryFrame, mkF, argsToLocals, Value.category, maxLocals]) ?_
  intro p e s m below meth c T0 hx hZ hby hml hown0 hnm hret hlk X0 e0
  have hown : s.vm.findClass "com/example/kakehashi/kakehashi/message/Iso2022" = some m.cls := hown0
  have K0 := Keep.refl h0 []
  have N0 := Fr.nil n0
  show zEnds p e below s T0 (mkF m 0 #[rv b900, iv 0, iv 2, .unset] []) _ _ _
  refine ziloadN X0 hx hby d_prog_46_method_12_0 rfl (zistoreN X0 hx hby d_prog_46_method_12_1 (L' := #[rv b900, iv 0, iv 2, iv 0]) rfl (ziloadN X0 hx hby d_prog_46_method_12_2 rfl (ziloadN X0 hx hby d_prog_46_method_12_3 rfl (zicmpNo X0 hx hby d_prog_46_method_12_4 (by decide) (zaloadN X0 hx hby d_prog_46_method_12_7 rfl rfl (ziloadN X0 hx hby d_prog_46_method_12_8 rfl (zbaload X0 hx hby d_prog_46_method_12_9 hZ e0 A_b900 (by decide) (v := (.int x2)) rfl (zbipush X0 hx hby d_prog_46_method_12_10 (z := (27 : Int32)) rfl (zicmpYes X0 hx hby d_prog_46_method_12_12 25 (feq k0).2 (by decide) (by decide) ?_)))))))))
  show zEnds p e below s T0 (mkF m 25 #[rv b900, iv 0, iv 2, iv 0] []) _ _ _
  refine ziloadN X0 hx hby d_prog_46_method_12_25 rfl ?_
  show zEnds p e below s T0 (mkF m 26 #[rv b900, iv 0, iv 2, iv 0] [(.int 0)]) _ _ _
  exact zretI X0 hx hby d_prog_46_method_12_26 hret hlk (by decide) (by decide) ⟨rfl, e0, rfl⟩
set_option maxRecDepth 65536 in
set_option maxHeartbeats 40000000 in
theorem c7_esc (l : Launch) {Z : State} {a0 : Array Value} (hw : ∀ d ∈ tables_1, d.before a0 Z = true) (ws : List Jvm.Cond) {w_arr0 : Addr} {cl_arr0 : Cell} {n0 : Nat} {h0 : Heap} (C : Ctx Z w_arr0 cl_arr0) (O0 : Old Z n0 h0) (Z0 : n0 ≤ h0.size) (x2 : Int32) (b900 : Addr) (x3 : Int32) (x4 : Int32) (x5 : Int32) (x6 : Int32) (x7 : Int32) (x8 : Int32) (x9 : Int32) (x10 : Int32) (x11 : Int32) (x12 : Int32) (x13 : Int32) (x14 : Int32) (x15 : Int32) (x16 : Int32) (x17 : Int32) (x18 : Int32) (x19 : Int32) (x20 : Int32) (x21 : Int32) (x22 : Int32) (g_b900 : n0 ≤ b900) (A_b900 : zLst Z h0 b900 .byte [(.int x3), (.int x4), (.int x5), (.int x6), (.int x7), (.int x8), (.int x9), (.int x10), (.int x11), (.int x12), (.int x13), (.int x14), (.int x15), (.int x16), (.int x17), (.int x18), (.int x19), (.int x20), (.int x21), (.int x22)]) (k0 : ¬ (x3 = (27 : Int32))) : zCon l Z (⟨"com/example/kakehashi/kakehashi/message/Iso2022FirstCharacterPinLaw", "esc", "([BII)I"⟩ : MethodName) method_2_code 4 (some .int) ws ({ frames := 0, cells := 0, slots := 0, locals := 0 } : Room) #[(.ref b900), (.int 1), (.int x2)] h0 (fun v h L => v = some (.int 4) ∧ Fr n0 L ∧ Keep h0 h [b900] ∧ zLst Z h b900 .byte [(.int x3), (.int 27), (.int ((e1v x2).toInt8.toInt32)), (.int ((e2v x2).toInt8.toInt32)), (.int x7), (.int x8), (.int x9), (.int x10), (.int x11), (.int x12), (.int x13), (.int x14), (.int x15), (.int x16), (.int x17), (.int x18), (.int x19), (.int x20), (.int x21), (.int x22)]) := by
  obtain ⟨S_w_arr0, A_w_arr0, Al_w_arr0⟩ := C
  refine zenter (plainFor_of_name pn_1) (L0 := #[rv b900, iv 1, iv x2, .unset]) (fun m => by first | rfl | simp [entryFrame, mkF, argsToLocals, Value.category, maxLocals]) ?_
  intro p e s m below meth c T0 hx hZ hby hml hown0 hnm hret hlk X0 e0
  have hown : s.vm.findClass "com/example/kakehashi/kakehashi/message/Iso2022FirstCharacterPinLaw" = some m.cls := hown0
  have K0 := Keep.refl h0 [b900]
  have N0 := Fr.nil n0
  show zEnds p e below s T0 (mkF m 0 #[rv b900, iv 1, iv x2, .unset] []) _ _ _
  refine ziloadN X0 hx hby d_method_2_0 rfl (ziconst X0 hx hby d_method_2_1 (z := (3 : Int32)) rfl (zirem X0 hx hby d_method_2_2 (x2 % (3 : Int32)) (by decide) rfl (zistoreN X0 hx hby d_method_2_3 (L' := #[rv b900, iv 1, iv x2, iv (x2 % (3 : Int32))]) rfl (zaloadN X0 hx hby d_method_2_4 rfl rfl (ziloadN X0 hx hby d_method_2_5 rfl (zbipush X0 hx hby d_method_2_6 (z := (27 : Int32)) rfl (zbastore X0 hx hby d_method_2_8 hZ e0 A_b900 (by decide) (by show Int32.toNatClampNeg 1 < 20; decide) (27 : Int32) (by decide) fun T1 h1 X1 e1 W1 A1_b900 => ?_)))))))
  change zLst Z h1 b900 .byte [(.int x3), (.int 27), (.int x5), (.int x6), (.int x7), (.int x8), (.int x9), (.int x10), (.int x11), (.int x12), (.int x13), (.int x14), (.int x15), (.int x16), (.int x17), (.int x18), (.int x19), (.int x20), (.int x21), (.int x22)] at A1_b900
  have O1 := O0.wr W1 g_b900
  have K1 := Keep.wr K0 W1 (Or.inl (List.mem_of_getElem? (i := 0) rfl))
  have N1 := Fr.snoc X1 N0 g_b900
  refine zaloadN X1 hx hby d_method_2_9 rfl rfl (ziloadN X1 hx hby d_method_2_10 rfl (ziconst X1 hx hby d_method_2_11 (z := (1 : Int32)) rfl (ziadd X1 hx hby d_method_2_12 (2 : Int32) (by decide) (ziloadN X1 hx hby d_method_2_13 rfl ?_))))
  show zEnds p e below s T1 (mkF m 14 #[rv b900, iv 1, iv x2, iv (x2 % (3 : Int32))] [(.int (x2 % (3 : Int32))), (.int 2), (.ref b900)]) _ _ _
  refine zjoin (T' := T1) (F' := (mkF m 24 #[rv b900, iv 1, iv x2, iv (x2 % (3 : Int32))] [(.int (e1v x2)), (.int 2), (.ref b900)])) (fun K => ?_) ?_
  · show zEnds p e below s T1 (mkF m 14 #[rv b900, iv 1, iv x2, iv (x2 % (3 : Int32))] [(.int (x2 % (3 : Int32))), (.int 2), (.ref b900)]) _ _ _
    by_cases hc2 : (x2 % (3 : Int32)) = (0 : Int32)
    · refine zifNo X1 hx hby d_method_2_14 ((if0 _ _).trans (teq hc2).2) (zbipush X1 hx hby d_method_2_17 (z := (36 : Int32)) rfl (zgoto X1 hx hby d_method_2_19 24 (by decide) (by decide) ?_))
      show zEnds p e below s T1 (mkF m 24 #[rv b900, iv 1, iv x2, iv (x2 % (3 : Int32))] [(.int 36), (.int 2), (.ref b900)]) _ _ _
      rw [show (36 : Int32) = (e1v x2) from by simp +decide [e1v, k0, hc2]]; exact K
    · refine zifYes X1 hx hby d_method_2_14 22 ((if0 _ _).trans (feq hc2).2) (by decide) (by decide) (zbipush X1 hx hby d_method_2_22 (z := (40 : Int32)) rfl ?_)
      show zEnds p e below s T1 (mkF m 24 #[rv b900, iv 1, iv x2, iv (x2 % (3 : Int32))] [(.int 40), (.int 2), (.ref b900)]) _ _ _
      rw [show (40 : Int32) = (e1v x2) from by simp +decide [e1v, k0, hc2]]; exact K
  refine zi2b X1 hx hby d_method_2_24 ((e1v x2).toInt8.toInt32) rfl (zbastore X1 hx hby d_method_2_25 hZ e1 A1_b900 (by decide) (by show Int32.toNatClampNeg 2 < 20; decide) ((e1v x2).toInt8.toInt32) (own_nar8 _) fun T3 h3 X3 e3 W3 A3_b900 => ?_)
  change zLst Z h3 b900 .byte [(.int x3), (.int 27), (.int ((e1v x2).toInt8.toInt32)), (.int x6), (.int x7), (.int x8), (.int x9), (.int x10), (.int x11), (.int x12), (.int x13), (.int x14), (.int x15), (.int x16), (.int x17), (.int x18), (.int x19), (.int x20), (.int x21), (.int x22)] at A3_b900
  have O3 := O1.wr W3 g_b900
  have K3 := Keep.wr K1 W3 (Or.inl (List.mem_of_getElem? (i := 0) rfl))
  have N3 := Fr.snoc X3 N1 g_b900
  refine zaloadN X3 hx hby d_method_2_26 rfl rfl (ziloadN X3 hx hby d_method_2_27 rfl (ziconst X3 hx hby d_method_2_28 (z := (2 : Int32)) rfl (ziadd X3 hx hby d_method_2_29 (3 : Int32) (by decide) (ziloadN X3 hx hby d_method_2_30 rfl (ziconst X3 hx hby d_method_2_31 (z := (2 : Int32)) rfl ?_)))))
  show zEnds p e below s T3 (mkF m 32 #[rv b900, iv 1, iv x2, iv (x2 % (3 : Int32))] [(.int 2), (.int (x2 % (3 : Int32))), (.int 3), (.ref b900)]) _ _ _
  refine zjoin (T' := T3) (F' := (mkF m 42 #[rv b900, iv 1, iv x2, iv (x2 % (3 : Int32))] [(.int (e2v x2)), (.int 3), (.ref b900)])) (fun K => ?_) ?_
  · show zEnds p e below s T3 (mkF m 32 #[rv b900, iv 1, iv x2, iv (x2 % (3 : Int32))] [(.int 2), (.int (x2 % (3 : Int32))), (.int 3), (.ref b900)]) _ _ _
    by_cases hc4 : (x2 % (3 : Int32)) = (2 : Int32)
    · refine zicmpNo X3 hx hby d_method_2_32 (teq hc4).2 (zbipush X3 hx hby d_method_2_35 (z := (74 : Int32)) rfl (zgoto X3 hx hby d_method_2_37 42 (by decide) (by decide) ?_))
      show zEnds p e below s T3 (mkF m 42 #[rv b900, iv 1, iv x2, iv (x2 % (3 : Int32))] [(.int 74), (.int 3), (.ref b900)]) _ _ _
      rw [show (74 : Int32) = (e2v x2) from by simp +decide [e2v, k0, hc4]]; exact K
    · refine zicmpYes X3 hx hby d_method_2_32 40 (feq hc4).2 (by decide) (by decide) (zbipush X3 hx hby d_method_2_40 (z := (66 : Int32)) rfl ?_)
      show zEnds p e below s T3 (mkF m 42 #[rv b900, iv 1, iv x2, iv (x2 % (3 : Int32))] [(.int 66), (.int 3), (.ref b900)]) _ _ _
      rw [show (66 : Int32) = (e2v x2) from by simp +decide [e2v, k0, hc4]]; exact K
  refine zi2b X3 hx hby d_method_2_42 ((e2v x2).toInt8.toInt32) rfl (zbastore X3 hx hby d_method_2_43 hZ e3 A3_b900 (by decide) (by show Int32.toNatClampNeg 3 < 20; decide) ((e2v x2).toInt8.toInt32) (own_nar8 _) fun T5 h5 X5 e5 W5 A5_b900 => ?_)
  change zLst Z h5 b900 .byte [(.int x3), (.int 27), (.int ((e1v x2).toInt8.toInt32)), (.int ((e2v x2).toInt8.toInt32)), (.int x7), (.int x8), (.int x9), (.int x10), (.int x11), (.int x12), (.int x13), (.int x14), (.int x15), (.int x16), (.int x17), (.int x18), (.int x19), (.int x20), (.int x21), (.int x22)] at A5_b900
  have O5 := O3.wr W5 g_b900
  have K5 := Keep.wr K3 W5 (Or.inl (List.mem_of_getElem? (i := 0) rfl))
  have N5 := Fr.snoc X5 N3 g_b900
  refine ziloadN X5 hx hby d_method_2_44 rfl (ziconst X5 hx hby d_method_2_45 (z := (3 : Int32)) rfl (ziadd X5 hx hby d_method_2_46 (4 : Int32) (by decide) ?_))
  show zEnds p e below s T5 (mkF m 47 #[rv b900, iv 1, iv x2, iv (x2 % (3 : Int32))] [(.int 4)]) _ _ _
  exact zretI X5 hx hby d_method_2_47 hret hlk (by decide) (by decide) (by rw [e5]; exact ⟨rfl, N5, K5, A5_b900⟩)
set_option maxRecDepth 65536 in
set_option maxHeartbeats 40000000 in
theorem c9_firstCharacter (l : Launch) {Z : State} {a0 : Array Value} (hw : ∀ d ∈ tables_1, d.before a0 Z = true) (ws : List Jvm.Cond) {w_arr0 : Addr} {cl_arr0 : Cell} {n0 : Nat} {h0 : Heap} (C : Ctx Z w_arr0 cl_arr0) (O0 : Old Z n0 h0) (Z0 : n0 ≤ h0.size) (b900 : Addr) (x2 : Int32) (x3 : Int32) (x4 : Int32) (x5 : Int32) (x6 : Int32) (g_b900 : n0 ≤ b900) (A_b900 : zLst Z h0 b900 .byte [(.int x2), (.int 27), (.int x3), (.int x4), (.int x5), (.int x6), (.int 0), (.int 0), (.int 0), (.int 0), (.int 0), (.int 0), (.int 0), (.int 0), (.int 0), (.int 0), (.int 0), (.int 0), (.int 0), (.int 0)]) (k0 : ¬ (x2 = (27 : Int32))) : zCon l Z (⟨"com/example/kakehashi/kakehashi/message/Iso2022", "firstCharacter", "([BII)I"⟩ : MethodName) prog_46_method_12_code 4 (some .int) ws ({ frames := 0, cells := 0, slots := 0, locals := 0 } : Room) #[(.ref b900), (.int 0), (.int 4)] h0 (zSame (some (.int 0)) h0) := by
  obtain ⟨S_w_arr0, A_w_arr0, Al_w_arr0⟩ := C
  refine zenter (plainFor_of_name pn_0) (L0 := #[rv b900, iv 0, iv 4, .unset]) (fun m => by first | rfl | simp [entryFrame, mkF, argsToLocals, Value.category, maxLocals]) ?_
  intro p e s m below meth c T0 hx hZ hby hml hown0 hnm hret hlk X0 e0
  have hown : s.vm.findClass "com/example/kakehashi/kakehashi/message/Iso2022" = some m.cls := hown0
  have K0 := Keep.refl h0 []
  have N0 := Fr.nil n0
  show zEnds p e below s T0 (mkF m 0 #[rv b900, iv 0, iv 4, .unset] []) _ _ _
  refine ziloadN X0 hx hby d_prog_46_method_12_0 rfl (zistoreN X0 hx hby d_prog_46_method_12_1 (L' := #[rv b900, iv 0, iv 4, iv 0]) rfl (ziloadN X0 hx hby d_prog_46_method_12_2 rfl (ziloadN X0 hx hby d_prog_46_method_12_3 rfl (zicmpNo X0 hx hby d_prog_46_method_12_4 (by decide) (zaloadN X0 hx hby d_prog_46_method_12_7 rfl rfl (ziloadN X0 hx hby d_prog_46_method_12_8 rfl (zbaload X0 hx hby d_prog_46_method_12_9 hZ e0 A_b900 (by decide) (v := (.int x2)) rfl (zbipush X0 hx hby d_prog_46_method_12_10 (z := (27 : Int32)) rfl (zicmpYes X0 hx hby d_prog_46_method_12_12 25 (feq k0).2 (by decide) (by decide) ?_)))))))))
  show zEnds p e below s T0 (mkF m 25 #[rv b900, iv 0, iv 4, iv 0] []) _ _ _
  refine ziloadN X0 hx hby d_prog_46_method_12_25 rfl ?_
  show zEnds p e below s T0 (mkF m 26 #[rv b900, iv 0, iv 4, iv 0] [(.int 0)]) _ _ _
  exact zretI X0 hx hby d_prog_46_method_12_26 hret hlk (by decide) (by decide) ⟨rfl, e0, rfl⟩
set_option maxRecDepth 65536 in
set_option maxHeartbeats 40000000 in
theorem c11_esc (l : Launch) {Z : State} {a0 : Array Value} (hw : ∀ d ∈ tables_1, d.before a0 Z = true) (ws : List Jvm.Cond) {w_arr0 : Addr} {cl_arr0 : Cell} {n0 : Nat} {h0 : Heap} (C : Ctx Z w_arr0 cl_arr0) (O0 : Old Z n0 h0) (Z0 : n0 ≤ h0.size) (x2 : Int32) (b900 : Addr) (x3 : Int32) (x4 : Int32) (x5 : Int32) (x6 : Int32) (x7 : Int32) (x8 : Int32) (x9 : Int32) (x10 : Int32) (x11 : Int32) (x12 : Int32) (x13 : Int32) (x14 : Int32) (x15 : Int32) (x16 : Int32) (x17 : Int32) (x18 : Int32) (x19 : Int32) (x20 : Int32) (x21 : Int32) (x22 : Int32) (g_b900 : n0 ≤ b900) (A_b900 : zLst Z h0 b900 .byte [(.int x3), (.int x4), (.int x5), (.int x6), (.int x7), (.int x8), (.int x9), (.int x10), (.int x11), (.int x12), (.int x13), (.int x14), (.int x15), (.int x16), (.int x17), (.int x18), (.int x19), (.int x20), (.int x21), (.int x22)]) : zCon l Z (⟨"com/example/kakehashi/kakehashi/message/Iso2022FirstCharacterPinLaw", "esc", "([BII)I"⟩ : MethodName) method_2_code 4 (some .int) ws ({ frames := 0, cells := 0, slots := 0, locals := 0 } : Room) #[(.ref b900), (.int 0), (.int x2)] h0 (fun v h L => v = some (.int 3) ∧ Fr n0 L ∧ Keep h0 h [b900] ∧ zLst Z h b900 .byte [(.int 27), (.int ((e1v x2).toInt8.toInt32)), (.int ((e2v x2).toInt8.toInt32)), (.int x6), (.int x7), (.int x8), (.int x9), (.int x10), (.int x11), (.int x12), (.int x13), (.int x14), (.int x15), (.int x16), (.int x17), (.int x18), (.int x19), (.int x20), (.int x21), (.int x22)]) := by
  obtain ⟨S_w_arr0, A_w_arr0, Al_w_arr0⟩ := C
  refine zenter (plainFor_of_name pn_1) (L0 := #[rv b900, iv 0, iv x2, .unset]) (fun m => by first | rfl | simp [entryFrame, mkF, argsToLocals, Value.category, maxLocals]) ?_
  intro p e s m below meth c T0 hx hZ hby hml hown0 hnm hret hlk X0 e0
  have hown : s.vm.findClass "com/example/kakehashi/kakehashi/message/Iso2022FirstCharacterPinLaw" = some m.cls := hown0
  have K0 := Keep.refl h0 [b900]
  have N0 := Fr.nil n0
  show zEnds p e below s T0 (mkF m 0 #[rv b900, iv 0, iv x2, .unset] []) _ _ _
  refine ziloadN X0 hx hby d_method_2_0 rfl (ziconst X0 hx hby d_method_2_1 (z := (3 : Int32)) rfl (zirem X0 hx hby d_method_2_2 (x2 % (3 : Int32)) (by decide) rfl (zistoreN X0 hx hby d_method_2_3 (L' := #[rv b900, iv 0, iv x2, iv (x2 % (3 : Int32))]) rfl (zaloadN X0 hx hby d_method_2_4 rfl rfl (ziloadN X0 hx hby d_method_2_5 rfl (zbipush X0 hx hby d_method_2_6 (z := (27 : Int32)) rfl (zbastore X0 hx hby d_method_2_8 hZ e0 A_b900 (by decide) (by show Int32.toNatClampNeg 0 < 20; decide) (27 : Int32) (by decide) fun T1 h1 X1 e1 W1 A1_b900 => ?_)))))))
  change zLst Z h1 b900 .byte [(.int 27), (.int x4), (.int x5), (.int x6), (.int x7), (.int x8), (.int x9), (.int x10), (.int x11), (.int x12), (.int x13), (.int x14), (.int x15), (.int x16), (.int x17), (.int x18), (.int x19), (.int x20), (.int x21), (.int x22)] at A1_b900
  have O1 := O0.wr W1 g_b900
  have K1 := Keep.wr K0 W1 (Or.inl (List.mem_of_getElem? (i := 0) rfl))
  have N1 := Fr.snoc X1 N0 g_b900
  refine zaloadN X1 hx hby d_method_2_9 rfl rfl (ziloadN X1 hx hby d_method_2_10 rfl (ziconst X1 hx hby d_method_2_11 (z := (1 : Int32)) rfl (ziadd X1 hx hby d_method_2_12 (1 : Int32) (by decide) (ziloadN X1 hx hby d_method_2_13 rfl ?_))))
  show zEnds p e below s T1 (mkF m 14 #[rv b900, iv 0, iv x2, iv (x2 % (3 : Int32))] [(.int (x2 % (3 : Int32))), (.int 1), (.ref b900)]) _ _ _
  refine zjoin (T' := T1) (F' := (mkF m 24 #[rv b900, iv 0, iv x2, iv (x2 % (3 : Int32))] [(.int (e1v x2)), (.int 1), (.ref b900)])) (fun K => ?_) ?_
  · show zEnds p e below s T1 (mkF m 14 #[rv b900, iv 0, iv x2, iv (x2 % (3 : Int32))] [(.int (x2 % (3 : Int32))), (.int 1), (.ref b900)]) _ _ _
    by_cases hc2 : (x2 % (3 : Int32)) = (0 : Int32)
    · refine zifNo X1 hx hby d_method_2_14 ((if0 _ _).trans (teq hc2).2) (zbipush X1 hx hby d_method_2_17 (z := (36 : Int32)) rfl (zgoto X1 hx hby d_method_2_19 24 (by decide) (by decide) ?_))
      show zEnds p e below s T1 (mkF m 24 #[rv b900, iv 0, iv x2, iv (x2 % (3 : Int32))] [(.int 36), (.int 1), (.ref b900)]) _ _ _
      rw [show (36 : Int32) = (e1v x2) from by simp +decide [e1v, hc2]]; exact K
    · refine zifYes X1 hx hby d_method_2_14 22 ((if0 _ _).trans (feq hc2).2) (by decide) (by decide) (zbipush X1 hx hby d_method_2_22 (z := (40 : Int32)) rfl ?_)
      show zEnds p e below s T1 (mkF m 24 #[rv b900, iv 0, iv x2, iv (x2 % (3 : Int32))] [(.int 40), (.int 1), (.ref b900)]) _ _ _
      rw [show (40 : Int32) = (e1v x2) from by simp +decide [e1v, hc2]]; exact K
  refine zi2b X1 hx hby d_method_2_24 ((e1v x2).toInt8.toInt32) rfl (zbastore X1 hx hby d_method_2_25 hZ e1 A1_b900 (by decide) (by show Int32.toNatClampNeg 1 < 20; decide) ((e1v x2).toInt8.toInt32) (own_nar8 _) fun T3 h3 X3 e3 W3 A3_b900 => ?_)
  change zLst Z h3 b900 .byte [(.int 27), (.int ((e1v x2).toInt8.toInt32)), (.int x5), (.int x6), (.int x7), (.int x8), (.int x9), (.int x10), (.int x11), (.int x12), (.int x13), (.int x14), (.int x15), (.int x16), (.int x17), (.int x18), (.int x19), (.int x20), (.int x21), (.int x22)] at A3_b900
  have O3 := O1.wr W3 g_b900
  have K3 := Keep.wr K1 W3 (Or.inl (List.mem_of_getElem? (i := 0) rfl))
  have N3 := Fr.snoc X3 N1 g_b900
  refine zaloadN X3 hx hby d_method_2_26 rfl rfl (ziloadN X3 hx hby d_method_2_27 rfl (ziconst X3 hx hby d_method_2_28 (z := (2 : Int32)) rfl (ziadd X3 hx hby d_method_2_29 (2 : Int32) (by decide) (ziloadN X3 hx hby d_method_2_30 rfl (ziconst X3 hx hby d_method_2_31 (z := (2 : Int32)) rfl ?_)))))
  show zEnds p e below s T3 (mkF m 32 #[rv b900, iv 0, iv x2, iv (x2 % (3 : Int32))] [(.int 2), (.int (x2 % (3 : Int32))), (.int 2), (.ref b900)]) _ _ _
  refine zjoin (T' := T3) (F' := (mkF m 42 #[rv b900, iv 0, iv x2, iv (x2 % (3 : Int32))] [(.int (e2v x2)), (.int 2), (.ref b900)])) (fun K => ?_) ?_
  · show zEnds p e below s T3 (mkF m 32 #[rv b900, iv 0, iv x2, iv (x2 % (3 : Int32))] [(.int 2), (.int (x2 % (3 : Int32))), (.int 2), (.ref b900)]) _ _ _
    by_cases hc4 : (x2 % (3 : Int32)) = (2 : Int32)
    · refine zicmpNo X3 hx hby d_method_2_32 (teq hc4).2 (zbipush X3 hx hby d_method_2_35 (z := (74 : Int32)) rfl (zgoto X3 hx hby d_method_2_37 42 (by decide) (by decide) ?_))
      show zEnds p e below s T3 (mkF m 42 #[rv b900, iv 0, iv x2, iv (x2 % (3 : Int32))] [(.int 74), (.int 2), (.ref b900)]) _ _ _
      rw [show (74 : Int32) = (e2v x2) from by simp +decide [e2v, hc4]]; exact K
    · refine zicmpYes X3 hx hby d_method_2_32 40 (feq hc4).2 (by decide) (by decide) (zbipush X3 hx hby d_method_2_40 (z := (66 : Int32)) rfl ?_)
      show zEnds p e below s T3 (mkF m 42 #[rv b900, iv 0, iv x2, iv (x2 % (3 : Int32))] [(.int 66), (.int 2), (.ref b900)]) _ _ _
      rw [show (66 : Int32) = (e2v x2) from by simp +decide [e2v, hc4]]; exact K
  refine zi2b X3 hx hby d_method_2_42 ((e2v x2).toInt8.toInt32) rfl (zbastore X3 hx hby d_method_2_43 hZ e3 A3_b900 (by decide) (by show Int32.toNatClampNeg 2 < 20; decide) ((e2v x2).toInt8.toInt32) (own_nar8 _) fun T5 h5 X5 e5 W5 A5_b900 => ?_)
  change zLst Z h5 b900 .byte [(.int 27), (.int ((e1v x2).toInt8.toInt32)), (.int ((e2v x2).toInt8.toInt32)), (.int x6), (.int x7), (.int x8), (.int x9), (.int x10), (.int x11), (.int x12), (.int x13), (.int x14), (.int x15), (.int x16), (.int x17), (.int x18), (.int x19), (.int x20), (.int x21), (.int x22)] at A5_b900
  have O5 := O3.wr W5 g_b900
  have K5 := Keep.wr K3 W5 (Or.inl (List.mem_of_getElem? (i := 0) rfl))
  have N5 := Fr.snoc X5 N3 g_b900
  refine ziloadN X5 hx hby d_method_2_44 rfl (ziconst X5 hx hby d_method_2_45 (z := (3 : Int32)) rfl (ziadd X5 hx hby d_method_2_46 (3 : Int32) (by decide) ?_))
  show zEnds p e below s T5 (mkF m 47 #[rv b900, iv 0, iv x2, iv (x2 % (3 : Int32))] [(.int 3)]) _ _ _
  exact zretI X5 hx hby d_method_2_47 hret hlk (by decide) (by decide) (by rw [e5]; exact ⟨rfl, N5, K5, A5_b900⟩)
set_option maxRecDepth 65536 in
set_option maxHeartbeats 40000000 in
theorem c13_firstCharacter (l : Launch) {Z : State} {a0 : Array Value} (hw : ∀ d ∈ tables_1, d.before a0 Z = true) (ws : List Jvm.Cond) {w_arr0 : Addr} {cl_arr0 : Cell} {n0 : Nat} {h0 : Heap} (C : Ctx Z w_arr0 cl_arr0) (O0 : Old Z n0 h0) (Z0 : n0 ≤ h0.size) (b900 : Addr) (x2 : Int32) (x3 : Int32) (x4 : Int32) (x5 : Int32) (g_b900 : n0 ≤ b900) (A_b900 : zLst Z h0 b900 .byte [(.int 27), (.int x2), (.int x3), (.int x4), (.int x5), (.int 0), (.int 0), (.int 0), (.int 0), (.int 0), (.int 0), (.int 0), (.int 0), (.int 0), (.int 0), (.int 0), (.int 0), (.int 0), (.int 0), (.int 0)]) : zCon l Z (⟨"com/example/kakehashi/kakehashi/message/Iso2022", "firstCharacter", "([BII)I"⟩ : MethodName) prog_46_method_12_code 4 (some .int) ws ({ frames := 0, cells := 0, slots := 0, locals := 0 } : Room) #[(.ref b900), (.int 0), (.int 3)] h0 (zSame (some (.int 3)) h0) := by
  obtain ⟨S_w_arr0, A_w_arr0, Al_w_arr0⟩ := C
  refine zenter (plainFor_of_name pn_0) (L0 := #[rv b900, iv 0, iv 3, .unset]) (fun m => by first | rfl | simp [entryFrame, mkF, argsToLocals, Value.category, maxLocals]) ?_
  intro p e s m below meth c T0 hx hZ hby hml hown0 hnm hret hlk X0 e0
  have hown : s.vm.findClass "com/example/kakehashi/kakehashi/message/Iso2022" = some m.cls := hown0
  have K0 := Keep.refl h0 []
  have N0 := Fr.nil n0
  show zEnds p e below s T0 (mkF m 0 #[rv b900, iv 0, iv 3, .unset] []) _ _ _
  refine ziloadN X0 hx hby d_prog_46_method_12_0 rfl (zistoreN X0 hx hby d_prog_46_method_12_1 (L' := #[rv b900, iv 0, iv 3, iv 0]) rfl (ziloadN X0 hx hby d_prog_46_method_12_2 rfl (ziloadN X0 hx hby d_prog_46_method_12_3 rfl (zicmpNo X0 hx hby d_prog_46_method_12_4 (by decide) (zaloadN X0 hx hby d_prog_46_method_12_7 rfl rfl (ziloadN X0 hx hby d_prog_46_method_12_8 rfl (zbaload X0 hx hby d_prog_46_method_12_9 hZ e0 A_b900 (by decide) (v := (.int 27)) rfl (zbipush X0 hx hby d_prog_46_method_12_10 (z := (27 : Int32)) rfl (zicmpNo X0 hx hby d_prog_46_method_12_12 (by decide) ?_)))))))))
  show zEnds p e below s T0 (mkF m 15 #[rv b900, iv 0, iv 3, iv 0] []) _ _ _
  refine ziloadN X0 hx hby d_prog_46_method_12_15 rfl (zgetstat X0 hx hby d_prog_46_method_12_16 hZ hown (host := "") (Or.inl (w10 hw)) Via.refl e0 (S_w_arr0.ext O0.2) fun T1 X1 e1 => (zalenC X1 hx hby d_prog_46_method_12_19 hZ e1 (A_w_arr0.ext O0.2) (3 : Int32) Al_w_arr0 (ziadd X1 hx hby d_prog_46_method_12_20 (3 : Int32) (by decide) (zistoreN X1 hx hby d_prog_46_method_12_21 (L' := #[rv b900, iv 0, iv 3, iv 3]) rfl (zgoto X1 hx hby d_prog_46_method_12_22 2 (by decide) (by decide) (ziloadN X1 hx hby d_prog_46_method_12_2 rfl (ziloadN X1 hx hby d_prog_46_method_12_3 rfl (zicmpYes X1 hx hby d_prog_46_method_12_4 25 (by decide) (by decide) (by decide) (ziloadN X1 hx hby d_prog_46_method_12_25 rfl ?_)))))))))
  show zEnds p e below s T1 (mkF m 26 #[rv b900, iv 0, iv 3, iv 3] [(.int 3)]) _ _ _
  exact zretI X1 hx hby d_prog_46_method_12_26 hret hlk (by decide) (by decide) ⟨rfl, e1, rfl⟩
set_option maxRecDepth 65536 in
set_option maxHeartbeats 40000000 in
theorem c15_firstCharacter (l : Launch) {Z : State} {a0 : Array Value} (hw : ∀ d ∈ tables_1, d.before a0 Z = true) (ws : List Jvm.Cond) {w_arr0 : Addr} {cl_arr0 : Cell} {n0 : Nat} {h0 : Heap} (C : Ctx Z w_arr0 cl_arr0) (O0 : Old Z n0 h0) (Z0 : n0 ≤ h0.size) (b900 : Addr) (x2 : Int32) (x3 : Int32) (x4 : Int32) (x5 : Int32) (x6 : Int32) (g_b900 : n0 ≤ b900) (A_b900 : zLst Z h0 b900 .byte [(.int 27), (.int x2), (.int x3), (.int x4), (.int x5), (.int x6), (.int 0), (.int 0), (.int 0), (.int 0), (.int 0), (.int 0), (.int 0), (.int 0), (.int 0), (.int 0), (.int 0), (.int 0), (.int 0), (.int 0)]) (k0 : ¬ (x4 = (27 : Int32))) : zCon l Z (⟨"com/example/kakehashi/kakehashi/message/Iso2022", "firstCharacter", "([BII)I"⟩ : MethodName) prog_46_method_12_code 4 (some .int) ws ({ frames := 0, cells := 0, slots := 0, locals := 0 } : Room) #[(.ref b900), (.int 0), (.int 4)] h0 (zSame (some (.int 3)) h0) := by
  obtain ⟨S_w_arr0, A_w_arr0, Al_w_arr0⟩ := C
  refine zenter (plainFor_of_name pn_0) (L0 := #[rv b900, iv 0, iv 4, .unset]) (fun m => by first | rfl | simp [entryFrame, mkF, argsToLocals, Value.category, maxLocals]) ?_
  intro p e s m below meth c T0 hx hZ hby hml hown0 hnm hret hlk X0 e0
  have hown : s.vm.findClass "com/example/kakehashi/kakehashi/message/Iso2022" = some m.cls := hown0
  have K0 := Keep.refl h0 []
  have N0 := Fr.nil n0
  show zEnds p e below s T0 (mkF m 0 #[rv b900, iv 0, iv 4, .unset] []) _ _ _
  refine ziloadN X0 hx hby d_prog_46_method_12_0 rfl (zistoreN X0 hx hby d_prog_46_method_12_1 (L' := #[rv b900, iv 0, iv 4, iv 0]) rfl (ziloadN X0 hx hby d_prog_46_method_12_2 rfl (ziloadN X0 hx hby d_prog_46_method_12_3 rfl (zicmpNo X0 hx hby d_prog_46_method_12_4 (by decide) (zaloadN X0 hx hby d_prog_46_method_12_7 rfl rfl (ziloadN X0 hx hby d_prog_46_method_12_8 rfl (zbaload X0 hx hby d_prog_46_method_12_9 hZ e0 A_b900 (by decide) (v := (.int 27)) rfl (zbipush X0 hx hby d_prog_46_method_12_10 (z := (27 : Int32)) rfl (zicmpNo X0 hx hby d_prog_46_method_12_12 (by decide) ?_)))))))))
  show zEnds p e below s T0 (mkF m 15 #[rv b900, iv 0, iv 4, iv 0] []) _ _ _
  refine ziloadN X0 hx hby d_prog_46_method_12_15 rfl (zgetstat X0 hx hby d_prog_46_method_12_16 hZ hown (host := "") (Or.inl (w10 hw)) Via.refl e0 (S_w_arr0.ext O0.2) fun T1 X1 e1 => (zalenC X1 hx hby d_prog_46_method_12_19 hZ e1 (A_w_arr0.ext O0.2) (3 : Int32) Al_w_arr0 (ziadd X1 hx hby d_prog_46_method_12_20 (3 : Int32) (by decide) (zistoreN X1 hx hby d_prog_46_method_12_21 (L' := #[rv b900, iv 0, iv 4, iv 3]) rfl (zgoto X1 hx hby d_prog_46_method_12_22 2 (by decide) (by decide) (ziloadN X1 hx hby d_prog_46_method_12_2 rfl (ziloadN X1 hx hby d_prog_46_method_12_3 rfl (zicmpNo X1 hx hby d_prog_46_method_12_4 (by decide) (zaloadN X1 hx hby d_prog_46_method_12_7 rfl rfl ?_)))))))))
  show zEnds p e below s T1 (mkF m 8 #[rv b900, iv 0, iv 4, iv 3] [(.ref b900)]) _ _ _
  refine ziloadN X1 hx hby d_prog_46_method_12_8 rfl (zbaload X1 hx hby d_prog_46_method_12_9 hZ e1 A_b900 (by decide) (v := (.int x4)) rfl (zbipush X1 hx hby d_prog_46_method_12_10 (z := (27 : Int32)) rfl (zicmpYes X1 hx hby d_prog_46_method_12_12 25 (feq k0).2 (by decide) (by decide) (ziloadN X1 hx hby d_prog_46_method_12_25 rfl ?_))))
  show zEnds p e below s T1 (mkF m 26 #[rv b900, iv 0, iv 4, iv 3] [(.int 3)]) _ _ _
  exact zretI X1 hx hby d_prog_46_method_12_26 hret hlk (by decide) (by decide) ⟨rfl, e1, rfl⟩
set_option maxRecDepth 65536 in
set_option maxHeartbeats 40000000 in
theorem c17_firstCharacter (l : Launch) {Z : State} {a0 : Array Value} (hw : ∀ d ∈ tables_1, d.before a0 Z = true) (ws : List Jvm.Cond) {w_arr0 : Addr} {cl_arr0 : Cell} {n0 : Nat} {h0 : Heap} (C : Ctx Z w_arr0 cl_arr0) (O0 : Old Z n0 h0) (Z0 : n0 ≤ h0.size) (b900 : Addr) (x2 : Int32) (x3 : Int32) (x4 : Int32) (x5 : Int32) (x6 : Int32) (x7 : Int32) (g_b900 : n0 ≤ b900) (A_b900 : zLst Z h0 b900 .byte [(.int 27), (.int x2), (.int x3), (.int x4), (.int x5), (.int x6), (.int x7), (.int 0), (.int 0), (.int 0), (.int 0), (.int 0), (.int 0), (.int 0), (.int 0), (.int 0), (.int 0), (.int 0), (.int 0), (.int 0)]) (k0 : ¬ (x4 = (27 : Int32))) : zCon l Z (⟨"com/example/kakehashi/kakehashi/message/Iso2022", "firstCharacter", "([BII)I"⟩ : MethodName) prog_46_method_12_code 4 (some .int) ws ({ frames := 0, cells := 0, slots := 0, locals := 0 } : Room) #[(.ref b900), (.int 0), (.int 5)] h0 (zSame (some (.int 3)) h0) := by
  obtain ⟨S_w_arr0, A_w_arr0, Al_w_arr0⟩ := C
  refine zenter (plainFor_of_name pn_0) (L0 := #[rv b900, iv 0, iv 5, .unset]) (fun m => by first | rfl | simp [entryFrame, mkF, argsToLocals, Value.category, maxLocals]) ?_
  intro p e s m below meth c T0 hx hZ hby hml hown0 hnm hret hlk X0 e0
  have hown : s.vm.findClass "com/example/kakehashi/kakehashi/message/Iso2022" = some m.cls := hown0
  have K0 := Keep.refl h0 []
  have N0 := Fr.nil n0
  show zEnds p e below s T0 (mkF m 0 #[rv b900, iv 0, iv 5, .unset] []) _ _ _
  refine ziloadN X0 hx hby d_prog_46_method_12_0 rfl (zistoreN X0 hx hby d_prog_46_method_12_1 (L' := #[rv b900, iv 0, iv 5, iv 0]) rfl (ziloadN X0 hx hby d_prog_46_method_12_2 rfl (ziloadN X0 hx hby d_prog_46_method_12_3 rfl (zicmpNo X0 hx hby d_prog_46_method_12_4 (by decide) (zaloadN X0 hx hby d_prog_46_method_12_7 rfl rfl (ziloadN X0 hx hby d_prog_46_method_12_8 rfl (zbaload X0 hx hby d_prog_46_method_12_9 hZ e0 A_b900 (by decide) (v := (.int 27)) rfl (zbipush X0 hx hby d_prog_46_method_12_10 (z := (27 : Int32)) rfl (zicmpNo X0 hx hby d_prog_46_method_12_12 (by decide) ?_)))))))))
  show zEnds p e below s T0 (mkF m 15 #[rv b900, iv 0, iv 5, iv 0] []) _ _ _
  refine ziloadN X0 hx hby d_prog_46_method_12_15 rfl (zgetstat X0 hx hby d_prog_46_method_12_16 hZ hown (host := "") (Or.inl (w10 hw)) Via.refl e0 (S_w_arr0.ext O0.2) fun T1 X1 e1 => (zalenC X1 hx hby d_prog_46_method_12_19 hZ e1 (A_w_arr0.ext O0.2) (3 : Int32) Al_w_arr0 (ziadd X1 hx hby d_prog_46_method_12_20 (3 : Int32) (by decide) (zistoreN X1 hx hby d_prog_46_method_12_21 (L' := #[rv b900, iv 0, iv 5, iv 3]) rfl (zgoto X1 hx hby d_prog_46_method_12_22 2 (by decide) (by decide) (ziloadN X1 hx hby d_prog_46_method_12_2 rfl (ziloadN X1 hx hby d_prog_46_method_12_3 rfl (zicmpNo X1 hx hby d_prog_46_method_12_4 (by decide) (zaloadN X1 hx hby d_prog_46_method_12_7 rfl rfl ?_)))))))))
  show zEnds p e below s T1 (mkF m 8 #[rv b900, iv 0, iv 5, iv 3] [(.ref b900)]) _ _ _
  refine ziloadN X1 hx hby d_prog_46_method_12_8 rfl (zbaload X1 hx hby d_prog_46_method_12_9 hZ e1 A_b900 (by decide) (v := (.int x4)) rfl (zbipush X1 hx hby d_prog_46_method_12_10 (z := (27 : Int32)) rfl (zicmpYes X1 hx hby d_prog_46_method_12_12 25 (feq k0).2 (by decide) (by decide) (ziloadN X1 hx hby d_prog_46_method_12_25 rfl ?_))))
  show zEnds p e below s T1 (mkF m 26 #[rv b900, iv 0, iv 5, iv 3] [(.int 3)]) _ _ _
  exact zretI X1 hx hby d_prog_46_method_12_26 hret hlk (by decide) (by decide) ⟨rfl, e1, rfl⟩
set_option maxRecDepth 65536 in
set_option maxHeartbeats 40000000 in
theorem c19_esc (l : Launch) {Z : State} {a0 : Array Value} (hw : ∀ d ∈ tables_1, d.before a0 Z = true) (ws : List Jvm.Cond) {w_arr0 : Addr} {cl_arr0 : Cell} {n0 : Nat} {h0 : Heap} (C : Ctx Z w_arr0 cl_arr0) (O0 : Old Z n0 h0) (Z0 : n0 ≤ h0.size) (x2 : Int32) (b900 : Addr) (x3 : Int32) (x4 : Int32) (x5 : Int32) (x6 : Int32) (x7 : Int32) (x8 : Int32) (x9 : Int32) (x10 : Int32) (x11 : Int32) (x12 : Int32) (x13 : Int32) (x14 : Int32) (x15 : Int32) (x16 : Int32) (x17 : Int32) (x18 : Int32) (x19 : Int32) (x20 : Int32) (x21 : Int32) (x22 : Int32) (g_b900 : n0 ≤ b900) (A_b900 : zLst Z h0 b900 .byte [(.int x3), (.int x4), (.int x5), (.int x6), (.int x7), (.int x8), (.int x9), (.int x10), (.int x11), (.int x12), (.int x13), (.int x14), (.int x15), (.int x16), (.int x17), (.int x18), (.int x19), (.int x20), (.int x21), (.int x22)]) (k0 : ¬ (x6 = (27 : Int32))) : zCon l Z (⟨"com/example/kakehashi/kakehashi/message/Iso2022FirstCharacterPinLaw", "esc", "([BII)I"⟩ : MethodName) method_2_code 4 (some .int) ws ({ frames := 0, cells := 0, slots := 0, locals := 0 } : Room) #[(.ref b900), (.int 4), (.int x2)] h0 (fun v h L => v = some (.int 7) ∧ Fr n0 L ∧ Keep h0 h [b900] ∧ zLst Z h b900 .byte [(.int x3), (.int x4), (.int x5), (.int x6), (.int 27), (.int ((e1v x2).toInt8.toInt32)), (.int ((e2v x2).toInt8.toInt32)), (.int x10), (.int x11), (.int x12), (.int x13), (.int x14), (.int x15), (.int x16), (.int x17), (.int x18), (.int x19), (.int x20), (.int x21), (.int x22)]) := by
  obtain ⟨S_w_arr0, A_w_arr0, Al_w_arr0⟩ := C
  refine zenter (plainFor_of_name pn_1) (L0 := #[rv b900, iv 4, iv x2, .unset]) (fun m => by first | rfl | simp [entryFrame, mkF, argsToLocals, Value.category, maxLocals]) ?_
  intro p e s m below meth c T0 hx hZ hby hml hown0 hnm hret hlk X0 e0
  have hown : s.vm.findClass "com/example/kakehashi/kakehashi/message/Iso2022FirstCharacterPinLaw" = some m.cls := hown0
  have K0 := Keep.refl h0 [b900]
  have N0 := Fr.nil n0
  show zEnds p e below s T0 (mkF m 0 #[rv b900, iv 4, iv x2, .unset] []) _ _ _
  refine ziloadN X0 hx hby d_method_2_0 rfl (ziconst X0 hx hby d_method_2_1 (z := (3 : Int32)) rfl (zirem X0 hx hby d_method_2_2 (x2 % (3 : Int32)) (by decide) rfl (zistoreN X0 hx hby d_method_2_3 (L' := #[rv b900, iv 4, iv x2, iv (x2 % (3 : Int32))]) rfl (zaloadN X0 hx hby d_method_2_4 rfl rfl (ziloadN X0 hx hby d_method_2_5 rfl (zbipush X0 hx hby d_method_2_6 (z := (27 : Int32)) rfl (zbastore X0 hx hby d_method_2_8 hZ e0 A_b900 (by decide) (by show Int32.toNatClampNeg 4 < 20; decide) (27 : Int32) (by decide) fun T1 h1 X1 e1 W1 A1_b900 => ?_)))))))
  change zLst Z h1 b900 .byte [(.int x3), (.int x4), (.int x5), (.int x6), (.int 27), (.int x8), (.int x9), (.int x10), (.int x11), (.int x12), (.int x13), (.int x14), (.int x15), (.int x16), (.int x17), (.int x18), (.int x19), (.int x20), (.int x21), (.int x22)] at A1_b900
  have O1 := O0.wr W1 g_b900
  have K1 := Keep.wr K0 W1 (Or.inl (List.mem_of_getElem? (i := 0) rfl))
  have N1 := Fr.snoc X1 N0 g_b900
  refine zaloadN X1 hx hby d_method_2_9 rfl rfl (ziloadN X1 hx hby d_method_2_10 rfl (ziconst X1 hx hby d_method_2_11 (z := (1 : Int32)) rfl (ziadd X1 hx hby d_method_2_12 (5 : Int32) (by decide) (ziloadN X1 hx hby d_method_2_13 rfl ?_))))
  show zEnds p e below s T1 (mkF m 14 #[rv b900, iv 4, iv x2, iv (x2 % (3 : Int32))] [(.int (x2 % (3 : Int32))), (.int 5), (.ref b900)]) _ _ _
  refine zjoin (T' := T1) (F' := (mkF m 24 #[rv b900, iv 4, iv x2, iv (x2 % (3 : Int32))] [(.int (e1v x2)), (.int 5), (.ref b900)])) (fun K => ?_) ?_
  · show zEnds p e below s T1 (mkF m 14 #[rv b900, iv 4, iv x2, iv (x2 % (3 : Int32))] [(.int (x2 % (3 : Int32))), (.int 5), (.ref b900)]) _ _ _
    by_cases hc2 : (x2 % (3 : Int32)) = (0 : Int32)
    · refine zifNo X1 hx hby d_method_2_14 ((if0 _ _).trans (teq hc2).2) (zbipush X1 hx hby d_method_2_17 (z := (36 : Int32)) rfl (zgoto X1 hx hby d_method_2_19 24 (by decide) (by decide) ?_))
      show zEnds p e below s T1 (mkF m 24 #[rv b900, iv 4, iv x2, iv (x2 % (3 : Int32))] [(.int 36), (.int 5), (.ref b900)]) _ _ _
      rw [show (36 : Int32) = (e1v x2) from by simp +decide [e1v, k0, hc2]]; exact K
    · refine zifYes X1 hx hby d_method_2_14 22 ((if0 _ _).trans (feq hc2).2) (by decide) (by decide) (zbipush X1 hx hby d_method_2_22 (z := (40 : Int32)) rfl ?_)
      show zEnds p e below s T1 (mkF m 24 #[rv b900, iv 4, iv x2, iv (x2 % (3 : Int32))] [(.int 40), (.int 5), (.ref b900)]) _ _ _
      rw [show (40 : Int32) = (e1v x2) from by simp +decide [e1v, k0, hc2]]; exact K
  refine zi2b X1 hx hby d_method_2_24 ((e1v x2).toInt8.toInt32) rfl (zbastore X1 hx hby d_method_2_25 hZ e1 A1_b900 (by decide) (by show Int32.toNatClampNeg 5 < 20; decide) ((e1v x2).toInt8.toInt32) (own_nar8 _) fun T3 h3 X3 e3 W3 A3_b900 => ?_)
  change zLst Z h3 b900 .byte [(.int x3), (.int x4), (.int x5), (.int x6), (.int 27), (.int ((e1v x2).toInt8.toInt32)), (.int x9), (.int x10), (.int x11), (.int x12), (.int x13), (.int x14), (.int x15), (.int x16), (.int x17), (.int x18), (.int x19), (.int x20), (.int x21), (.int x22)] at A3_b900
  have O3 := O1.wr W3 g_b900
  have K3 := Keep.wr K1 W3 (Or.inl (List.mem_of_getElem? (i := 0) rfl))
  have N3 := Fr.snoc X3 N1 g_b900
  refine zaloadN X3 hx hby d_method_2_26 rfl rfl (ziloadN X3 hx hby d_method_2_27 rfl (ziconst X3 hx hby d_method_2_28 (z := (2 : Int32)) rfl (ziadd X3 hx hby d_method_2_29 (6 : Int32) (by decide) (ziloadN X3 hx hby d_method_2_30 rfl (ziconst X3 hx hby d_method_2_31 (z := (2 : Int32)) rfl ?_)))))
  show zEnds p e below s T3 (mkF m 32 #[rv b900, iv 4, iv x2, iv (x2 % (3 : Int32))] [(.int 2), (.int (x2 % (3 : Int32))), (.int 6), (.ref b900)]) _ _ _
  refine zjoin (T' := T3) (F' := (mkF m 42 #[rv b900, iv 4, iv x2, iv (x2 % (3 : Int32))] [(.int (e2v x2)), (.int 6), (.ref b900)])) (fun K => ?_) ?_
  · show zEnds p e below s T3 (mkF m 32 #[rv b900, iv 4, iv x2, iv (x2 % (3 : Int32))] [(.int 2), (.int (x2 % (3 : Int32))), (.int 6), (.ref b900)]) _ _ _
    by_cases hc4 : (x2 % (3 : Int32)) = (2 : Int32)
    · refine zicmpNo X3 hx hby d_method_2_32 (teq hc4).2 (zbipush X3 hx hby d_method_2_35 (z := (74 : Int32)) rfl (zgoto X3 hx hby d_method_2_37 42 (by decide) (by decide) ?_))
      show zEnds p e below s T3 (mkF m 42 #[rv b900, iv 4, iv x2, iv (x2 % (3 : Int32))] [(.int 74), (.int 6), (.ref b900)]) _ _ _
      rw [show (74 : Int32) = (e2v x2) from by simp +decide [e2v, k0, hc4]]; exact K
    · refine zicmpYes X3 hx hby d_method_2_32 40 (feq hc4).2 (by decide) (by decide) (zbipush X3 hx hby d_method_2_40 (z := (66 : Int32)) rfl ?_)
      show zEnds p e below s T3 (mkF m 42 #[rv b900, iv 4, iv x2, iv (x2 % (3 : Int32))] [(.int 66), (.int 6), (.ref b900)]) _ _ _
      rw [show (66 : Int32) = (e2v x2) from by simp +decide [e2v, k0, hc4]]; exact K
  refine zi2b X3 hx hby d_method_2_42 ((e2v x2).toInt8.toInt32) rfl (zbastore X3 hx hby d_method_2_43 hZ e3 A3_b900 (by decide) (by show Int32.toNatClampNeg 6 < 20; decide) ((e2v x2).toInt8.toInt32) (own_nar8 _) fun T5 h5 X5 e5 W5 A5_b900 => ?_)
  change zLst Z h5 b900 .byte [(.int x3), (.int x4), (.int x5), (.int x6), (.int 27), (.int ((e1v x2).toInt8.toInt32)), (.int ((e2v x2).toInt8.toInt32)), (.int x10), (.int x11), (.int x12), (.int x13), (.int x14), (.int x15), (.int x16), (.int x17), (.int x18), (.int x19), (.int x20), (.int x21), (.int x22)] at A5_b900
  have O5 := O3.wr W5 g_b900
  have K5 := Keep.wr K3 W5 (Or.inl (List.mem_of_getElem? (i := 0) rfl))
  have N5 := Fr.snoc X5 N3 g_b900
  refine ziloadN X5 hx hby d_method_2_44 rfl (ziconst X5 hx hby d_method_2_45 (z := (3 : Int32)) rfl (ziadd X5 hx hby d_method_2_46 (7 : Int32) (by decide) ?_))
  show zEnds p e below s T5 (mkF m 47 #[rv b900, iv 4, iv x2, iv (x2 % (3 : Int32))] [(.int 7)]) _ _ _
  exact zretI X5 hx hby d_method_2_47 hret hlk (by decide) (by decide) (by rw [e5]; exact ⟨rfl, N5, K5, A5_b900⟩)
set_option maxRecDepth 65536 in
set_option maxHeartbeats 40000000 in
theorem c21_firstCharacter (l : Launch) {Z : State} {a0 : Array Value} (hw : ∀ d ∈ tables_1, d.before a0 Z = true) (ws : List Jvm.Cond) {w_arr0 : Addr} {cl_arr0 : Cell} {n0 : Nat} {h0 : Heap} (C : Ctx Z w_arr0 cl_arr0) (O0 : Old Z n0 h0) (Z0 : n0 ≤ h0.size) (b900 : Addr) (x2 : Int32) (x3 : Int32) (x4 : Int32) (x5 : Int32) (x6 : Int32) (x7 : Int32) (x8 : Int32) (g_b900 : n0 ≤ b900) (A_b900 : zLst Z h0 b900 .byte [(.int 27), (.int x2), (.int x3), (.int x4), (.int 27), (.int x5), (.int x6), (.int x7), (.int x8), (.int 0), (.int 0), (.int 0), (.int 0), (.int 0), (.int 0), (.int 0), (.int 0), (.int 0), (.int 0), (.int 0)]) (k0 : ¬ (x4 = (27 : Int32))) : zCon l Z (⟨"com/example/kakehashi/kakehashi/message/Iso2022", "firstCharacter", "([BII)I"⟩ : MethodName) prog_46_method_12_code 4 (some .int) ws ({ frames := 0, cells := 0, slots := 0, locals := 0 } : Room) #[(.ref b900), (.int 0), (.int 7)] h0 (zSame (some (.int 3)) h0) := by
  obtain ⟨S_w_arr0, A_w_arr0, Al_w_arr0⟩ := C
  refine zenter (plainFor_of_name pn_0) (L0 := #[rv b900, iv 0, iv 7, .unset]) (fun m => by first | rfl | simp [entryFrame, mkF, argsToLocals, Value.category, maxLocals]) ?_
  intro p e s m below meth c T0 hx hZ hby hml hown0 hnm hret hlk X0 e0
  have hown : s.vm.findClass "com/example/kakehashi/kakehashi/message/Iso2022" = some m.cls := hown0
  have K0 := Keep.refl h0 []
  have N0 := Fr.nil n0
  show zEnds p e below s T0 (mkF m 0 #[rv b900, iv 0, iv 7, .unset] []) _ _ _
  refine ziloadN X0 hx hby d_prog_46_method_12_0 rfl (zistoreN X0 hx hby d_prog_46_method_12_1 (L' := #[rv b900, iv 0, iv 7, iv 0]) rfl (ziloadN X0 hx hby d_prog_46_method_12_2 rfl (ziloadN X0 hx hby d_prog_46_method_12_3 rfl (zicmpNo X0 hx hby d_prog_46_method_12_4 (by decide) (zaloadN X0 hx hby d_prog_46_method_12_7 rfl rfl (ziloadN X0 hx hby d_prog_46_method_12_8 rfl (zbaload X0 hx hby d_prog_46_method_12_9 hZ e0 A_b900 (by decide) (v := (.int 27)) rfl (zbipush X0 hx hby d_prog_46_method_12_10 (z := (27 : Int32)) rfl (zicmpNo X0 hx hby d_prog_46_method_12_12 (by decide) ?_)))))))))
  show zEnds p e below s T0 (mkF m 15 #[rv b900, iv 0, iv 7, iv 0] []) _ _ _
  refine ziloadN X0 hx hby d_prog_46_method_12_15 rfl (zgetstat X0 hx hby d_prog_46_method_12_16 hZ hown (host := "") (Or.inl (w10 hw)) Via.refl e0 (S_w_arr0.ext O0.2) fun T1 X1 e1 => (zalenC X1 hx hby d_prog_46_method_12_19 hZ e1 (A_w_arr0.ext O0.2) (3 : Int32) Al_w_arr0 (ziadd X1 hx hby d_prog_46_method_12_20 (3 : Int32) (by decide) (zistoreN X1 hx hby d_prog_46_method_12_21 (L' := #[rv b900, iv 0, iv 7, iv 3]) rfl (zgoto X1 hx hby d_prog_46_method_12_22 2 (by decide) (by decide) (ziloadN X1 hx hby d_prog_46_method_12_2 rfl (ziloadN X1 hx hby d_prog_46_method_12_3 rfl (zicmpNo X1 hx hby d_prog_46_method_12_4 (by decide) (zaloadN X1 hx hby d_prog_46_method_12_7 rfl rfl ?_)))))))))
  show zEnds p e below s T1 (mkF m 8 #[rv b900, iv 0, iv 7, iv 3] [(.ref b900)]) _ _ _
  refine ziloadN X1 hx hby d_prog_46_method_12_8 rfl (zbaload X1 hx hby d_prog_46_method_12_9 hZ e1 A_b900 (by decide) (v := (.int x4)) rfl (zbipush X1 hx hby d_prog_46_method_12_10 (z := (27 : Int32)) rfl (zicmpYes X1 hx hby d_prog_46_method_12_12 25 (feq k0).2 (by decide) (by decide) (ziloadN X1 hx hby d_prog_46_method_12_25 rfl ?_))))
  show zEnds p e below s T1 (mkF m 26 #[rv b900, iv 0, iv 7, iv 3] [(.int 3)]) _ _ _
  exact zretI X1 hx hby d_prog_46_method_12_26 hret hlk (by decide) (by decide) ⟨rfl, e1, rfl⟩
set_option maxRecDepth 65536 in
set_option maxHeartbeats 40000000 in
theorem c23_esc (l : Launch) {Z : State} {a0 : Array Value} (hw : ∀ d ∈ tables_1, d.before a0 Z = true) (ws : List Jvm.Cond) {w_arr0 : Addr} {cl_arr0 : Cell} {n0 : Nat} {h0 : Heap} (C : Ctx Z w_arr0 cl_arr0) (O0 : Old Z n0 h0) (Z0 : n0 ≤ h0.size) (x2 : Int32) (b900 : Addr) (x3 : Int32) (x4 : Int32) (x5 : Int32) (x6 : Int32) (x7 : Int32) (x8 : Int32) (x9 : Int32) (x10 : Int32) (x11 : Int32) (x12 : Int32) (x13 : Int32) (x14 : Int32) (x15 : Int32) (x16 : Int32) (x17 : Int32) (x18 : Int32) (x19 : Int32) (x20 : Int32) (x21 : Int32) (x22 : Int32) (g_b900 : n0 ≤ b900) (A_b900 : zLst Z h0 b900 .byte [(.int x3), (.int x4), (.int x5), (.int x6), (.int x7), (.int x8), (.int x9), (.int x10), (.int x11), (.int x12), (.int x13), (.int x14), (.int x15), (.int x16), (.int x17), (.int x18), (.int x19), (.int x20), (.int x21), (.int x22)]) : zCon l Z (⟨"com/example/kakehashi/kakehashi/message/Iso2022FirstCharacterPinLaw", "esc", "([BII)I"⟩ : MethodName) method_2_code 4 (some .int) ws ({ frames := 0, cells := 0, slots := 0, locals := 0 } : Room) #[(.ref b900), (.int 3), (.int x2)] h0 (fun v h L => v = some (.int 6) ∧ Fr n0 L ∧ Keep h0 h [b900] ∧ zLst Z h b900 .byte [(.int x3), (.int x4), (.int x5), (.int 27), (.int ((e1v x2).toInt8.toInt32)), (.int ((e2v x2).toInt8.toInt32)), (.int x9), (.int x10), (.int x11), (.int x12), (.int x13), (.int x14), (.int x15), (.int x16), (.int x17), (.int x18), (.int x19), (.int x20), (.int x21), (.int x22)]) := by
  obtain ⟨S_w_arr0, A_w_arr0, Al_w_arr0⟩ := C
  refine zenter (plainFor_of_name pn_1) (L0 := #[rv b900, iv 3, iv x2, .unset]) (fun m => by first | rfl | simp [entryFrame, mkF, argsToLocals, Value.category, maxLocals]) ?_
  intro p e s m below meth c T0 hx hZ hby hml hown0 hnm hret hlk X0 e0
  have hown : s.vm.findClass "com/example/kakehashi/kakehashi/message/Iso2022FirstCharacterPinLaw" = some m.cls := hown0
  have K0 := Keep.refl h0 [b900]
  have N0 := Fr.nil n0
  show zEnds p e below s T0 (mkF m 0 #[rv b900, iv 3, iv x2, .unset] []) _ _ _
  refine ziloadN X0 hx hby d_method_2_0 rfl (ziconst X0 hx hby d_method_2_1 (z := (3 : Int32)) rfl (zirem X0 hx hby d_method_2_2 (x2 % (3 : Int32)) (by decide) rfl (zistoreN X0 hx hby d_method_2_3 (L' := #[rv b900, iv 3, iv x2, iv (x2 % (3 : Int32))]) rfl (zaloadN X0 hx hby d_method_2_4 rfl rfl (ziloadN X0 hx hby d_method_2_5 rfl (zbipush X0 hx hby d_method_2_6 (z := (27 : Int32)) rfl (zbastore X0 hx hby d_method_2_8 hZ e0 A_b900 (by decide) (by show Int32.toNatClampNeg 3 < 20; decide) (27 : Int32) (by decide) fun T1 h1 X1 e1 W1 A1_b900 => ?_)))))))
  change zLst Z h1 b900 .byte [(.int x3), (.int x4), (.int x5), (.int 27), (.int x7), (.int x8), (.int x9), (.int x10), (.int x11), (.int x12), (.int x13), (.int x14), (.int x15), (.int x16), (.int x17), (.int x18), (.int x19), (.int x20), (.int x21), (.int x22)] at A1_b900
  have O1 := O0.wr W1 g_b900
  have K1 := Keep.wr K0 W1 (Or.inl (List.mem_of_getElem? (i := 0) rfl))
  have N1 := Fr.snoc X1 N0 g_b900
  refine zaloadN X1 hx hby d_method_2_9 rfl rfl (ziloadN X1 hx hby d_method_2_10 rfl (ziconst X1 hx hby d_method_2_11 (z := (1 : Int32)) rfl (ziadd X1 hx hby d_method_2_12 (4 : Int32) (by decide) (ziloadN X1 hx hby d_method_2_13 rfl ?_))))
  show zEnds p e below s T1 (mkF m 14 #[rv b900, iv 3, iv x2, iv (x2 % (3 : Int32))] [(.int (x2 % (3 : Int32))), (.int 4), (.ref b900)]) _ _ _
  refine zjoin (T' := T1) (F' := (mkF m 24 #[rv b900, iv 3, iv x2, iv (x2 % (3 : Int32))] [(.int (e1v x2)), (.int 4), (.ref b900)])) (fun K => ?_) ?_
  · show zEnds p e below s T1 (mkF m 14 #[rv b900, iv 3, iv x2, iv (x2 % (3 : Int32))] [(.int (x2 % (3 : Int32))), (.int 4), (.ref b900)]) _ _ _
    by_cases hc2 : (x2 % (3 : Int32)) = (0 : Int32)
    · refine zifNo X1 hx hby d_method_2_14 ((if0 _ _).trans (teq hc2).2) (zbipush X1 hx hby d_method_2_17 (z := (36 : Int32)) rfl (zgoto X1 hx hby d_method_2_19 24 (by decide) (by decide) ?_))
      show zEnds p e below s T1 (mkF m 24 #[rv b900, iv 3, iv x2, iv (x2 % (3 : Int32))] [(.int 36), (.int 4), (.ref b900)]) _ _ _
      rw [show (36 : Int32) = (e1v x2) from by simp +decide [e1v, hc2]]; exact K
    · refine zifYes X1 hx hby d_method_2_14 22 ((if0 _ _).trans (feq hc2).2) (by decide) (by decide) (zbipush X1 hx hby d_method_2_22 (z := (40 : Int32)) rfl ?_)
      show zEnds p e below s T1 (mkF m 24 #[rv b900, iv 3, iv x2, iv (x2 % (3 : Int32))] [(.int 40), (.int 4), (.ref b900)]) _ _ _
      rw [show (40 : Int32) = (e1v x2) from by simp +decide [e1v, hc2]]; exact K
  refine zi2b X1 hx hby d_method_2_24 ((e1v x2).toInt8.toInt32) rfl (zbastore X1 hx hby d_method_2_25 hZ e1 A1_b900 (by decide) (by show Int32.toNatClampNeg 4 < 20; decide) ((e1v x2).toInt8.toInt32) (own_nar8 _) fun T3 h3 X3 e3 W3 A3_b900 => ?_)
  change zLst Z h3 b900 .byte [(.int x3), (.int x4), (.int x5), (.int 27), (.int ((e1v x2).toInt8.toInt32)), (.int x8), (.int x9), (.int x10), (.int x11), (.int x12), (.int x13), (.int x14), (.int x15), (.int x16), (.int x17), (.int x18), (.int x19), (.int x20), (.int x21), (.int x22)] at A3_b900
  have O3 := O1.wr W3 g_b900
  have K3 := Keep.wr K1 W3 (Or.inl (List.mem_of_getElem? (i := 0) rfl))
  have N3 := Fr.snoc X3 N1 g_b900
  refine zaloadN X3 hx hby d_method_2_26 rfl rfl (ziloadN X3 hx hby d_method_2_27 rfl (ziconst X3 hx hby d_method_2_28 (z := (2 : Int32)) rfl (ziadd X3 hx hby d_method_2_29 (5 : Int32) (by decide) (ziloadN X3 hx hby d_method_2_30 rfl (ziconst X3 hx hby d_method_2_31 (z := (2 : Int32)) rfl ?_)))))
  show zEnds p e below s T3 (mkF m 32 #[rv b900, iv 3, iv x2, iv (x2 % (3 : Int32))] [(.int 2), (.int (x2 % (3 : Int32))), (.int 5), (.ref b900)]) _ _ _
  refine zjoin (T' := T3) (F' := (mkF m 42 #[rv b900, iv 3, iv x2, iv (x2 % (3 : Int32))] [(.int (e2v x2)), (.int 5), (.ref b900)])) (fun K => ?_) ?_
  · show zEnds p e below s T3 (mkF m 32 #[rv b900, iv 3, iv x2, iv (x2 % (3 : Int32))] [(.int 2), (.int (x2 % (3 : Int32))), (.int 5), (.ref b900)]) _ _ _
    by_cases hc4 : (x2 % (3 : Int32)) = (2 : Int32)
    · refine zicmpNo X3 hx hby d_method_2_32 (teq hc4).2 (zbipush X3 hx hby d_method_2_35 (z := (74 : Int32)) rfl (zgoto X3 hx hby d_method_2_37 42 (by decide) (by decide) ?_))
      show zEnds p e below s T3 (mkF m 42 #[rv b900, iv 3, iv x2, iv (x2 % (3 : Int32))] [(.int 74), (.int 5), (.ref b900)]) _ _ _
      rw [show (74 : Int32) = (e2v x2) from by simp +decide [e2v, hc4]]; exact K
    · refine zicmpYes X3 hx hby d_method_2_32 40 (feq hc4).2 (by decide) (by decide) (zbipush X3 hx hby d_method_2_40 (z := (66 : Int32)) rfl ?_)
      show zEnds p e below s T3 (mkF m 42 #[rv b900, iv 3, iv x2, iv (x2 % (3 : Int32))] [(.int 66), (.int 5), (.ref b900)]) _ _ _
      rw [show (66 : Int32) = (e2v x2) from by simp +decide [e2v, hc4]]; exact K
  refine zi2b X3 hx hby d_method_2_42 ((e2v x2).toInt8.toInt32) rfl (zbastore X3 hx hby d_method_2_43 hZ e3 A3_b900 (by decide) (by show Int32.toNatClampNeg 5 < 20; decide) ((e2v x2).toInt8.toInt32) (own_nar8 _) fun T5 h5 X5 e5 W5 A5_b900 => ?_)
  change zLst Z h5 b900 .byte [(.int x3), (.int x4), (.int x5), (.int 27), (.int ((e1v x2).toInt8.toInt32)), (.int ((e2v x2).toInt8.toInt32)), (.int x9), (.int x10), (.int x11), (.int x12), (.int x13), (.int x14), (.int x15), (.int x16), (.int x17), (.int x18), (.int x19), (.int x20), (.int x21), (.int x22)] at A5_b900
  have O5 := O3.wr W5 g_b900
  have K5 := Keep.wr K3 W5 (Or.inl (List.mem_of_getElem? (i := 0) rfl))
  have N5 := Fr.snoc X5 N3 g_b900
  refine ziloadN X5 hx hby d_method_2_44 rfl (ziconst X5 hx hby d_method_2_45 (z := (3 : Int32)) rfl (ziadd X5 hx hby d_method_2_46 (6 : Int32) (by decide) ?_))
  show zEnds p e below s T5 (mkF m 47 #[rv b900, iv 3, iv x2, iv (x2 % (3 : Int32))] [(.int 6)]) _ _ _
  exact zretI X5 hx hby d_method_2_47 hret hlk (by decide) (by decide) (by rw [e5]; exact ⟨rfl, N5, K5, A5_b900⟩)
set_option maxRecDepth 65536 in
set_option maxHeartbeats 40000000 in
theorem c25_firstCharacter (l : Launch) {Z : State} {a0 : Array Value} (hw : ∀ d ∈ tables_1, d.before a0 Z = true) (ws : List Jvm.Cond) {w_arr0 : Addr} {cl_arr0 : Cell} {n0 : Nat} {h0 : Heap} (C : Ctx Z w_arr0 cl_arr0) (O0 : Old Z n0 h0) (Z0 : n0 ≤ h0.size) (b900 : Addr) (x2 : Int32) (x3 : Int32) (x4 : Int32) (x5 : Int32) (x6 : Int32) (x7 : Int32) (g_b900 : n0 ≤ b900) (A_b900 : zLst Z h0 b900 .byte [(.int 27), (.int x2), (.int x3), (.int 27), (.int x4), (.int x5), (.int x6), (.int x7), (.int 0), (.int 0), (.int 0), (.int 0), (.int 0), (.int 0), (.int 0), (.int 0), (.int 0), (.int 0), (.int 0), (.int 0)]) : zCon l Z (⟨"com/example/kakehashi/kakehashi/message/Iso2022", "firstCharacter", "([BII)I"⟩ : MethodName) prog_46_method_12_code 4 (some .int) ws ({ frames := 0, cells := 0, slots := 0, locals := 0 } : Room) #[(.ref b900), (.int 0), (.int 6)] h0 (zSame (some (.int 6)) h0) := by
  obtain ⟨S_w_arr0, A_w_arr0, Al_w_arr0⟩ := C
  refine zenter (plainFor_of_name pn_0) (L0 := #[rv b900, iv 0, iv 6, .unset]) (fun m => by first | rfl | simp [entryFrame, mkF, argsToLocals, Value.category, maxLocals]) ?_
  intro p e s m below meth c T0 hx hZ hby hml hown0 hnm hret hlk X0 e0
  have hown : s.vm.findClass "com/example/kakehashi/kakehashi/message/Iso2022" = some m.cls := hown0
  have K0 := Keep.refl h0 []
  have N0 := Fr.nil n0
  show zEnds p e below s T0 (mkF m 0 #[rv b900, iv 0, iv 6, .unset] []) _ _ _
  refine ziloadN X0 hx hby d_prog_46_method_12_0 rfl (zistoreN X0 hx hby d_prog_46_method_12_1 (L' := #[rv b900, iv 0, iv 6, iv 0]) rfl (ziloadN X0 hx hby d_prog_46_method_12_2 rfl (ziloadN X0 hx hby d_prog_46_method_12_3 rfl (zicmpNo X0 hx hby d_prog_46_method_12_4 (by decide) (zaloadN X0 hx hby d_prog_46_method_12_7 rfl rfl (ziloadN X0 hx hby d_prog_46_method_12_8 rfl (zbaload X0 hx hby d_prog_46_method_12_9 hZ e0 A_b900 (by decide) (v := (.int 27)) rfl (zbipush X0 hx hby d_prog_46_method_12_10 (z := (27 : Int32)) rfl (zicmpNo X0 hx hby d_prog_46_method_12_12 (by decide) ?_)))))))))
  show zEnds p e below s T0 (mkF m 15 #[rv b900, iv 0, iv 6, iv 0] []) _ _ _
  refine ziloadN X0 hx hby d_prog_46_method_12_15 rfl (zgetstat X0 hx hby d_prog_46_method_12_16 hZ hown (host := "") (Or.inl (w10 hw)) Via.refl e0 (S_w_arr0.ext O0.2) fun T1 X1 e1 => (zalenC X1 hx hby d_prog_46_method_12_19 hZ e1 (A_w_arr0.ext O0.2) (3 : Int32) Al_w_arr0 (ziadd X1 hx hby d_prog_46_method_12_20 (3 : Int32) (by decide) (zistoreN X1 hx hby d_prog_46_method_12_21 (L' := #[rv b900, iv 0, iv 6, iv 3]) rfl (zgoto X1 hx hby d_prog_46_method_12_22 2 (by decide) (by decide) (ziloadN X1 hx hby d_prog_46_method_12_2 rfl (ziloadN X1 hx hby d_prog_46_method_12_3 rfl (zicmpNo X1 hx hby d_prog_46_method_12_4 (by decide) (zaloadN X1 hx hby d_prog_46_method_12_7 rfl rfl ?_)))))))))
  show zEnds p e below s T1 (mkF m 8 #[rv b900, iv 0, iv 6, iv 3] [(.ref b900)]) _ _ _
  refine ziloadN X1 hx hby d_prog_46_method_12_8 rfl (zbaload X1 hx hby d_prog_46_method_12_9 hZ e1 A_b900 (by decide) (v := (.int 27)) rfl (zbipush X1 hx hby d_prog_46_method_12_10 (z := (27 : Int32)) rfl (zicmpNo X1 hx hby d_prog_46_method_12_12 (by decide) (ziloadN X1 hx hby d_prog_46_method_12_15 rfl (zgetstat X1 hx hby d_prog_46_method_12_16 hZ hown (host := "") (Or.inl (w10 hw)) Via.refl e1 (S_w_arr0.ext O0.2) fun T2 X2 e2 => (zalenC X2 hx hby d_prog_46_method_12_19 hZ e2 (A_w_arr0.ext O0.2) (3 : Int32) Al_w_arr0 (ziadd X2 hx hby d_prog_46_method_12_20 (6 : Int32) (by decide) (zistoreN X2 hx hby d_prog_46_method_12_21 (L' := #[rv b900, iv 0, iv 6, iv 6]) rfl (zgoto X2 hx hby d_prog_46_method_12_22 2 (by decide) (by decide) ?_)))))))))
  show zEnds p e below s T2 (mkF m 2 #[rv b900, iv 0, iv 6, iv 6] []) _ _ _
  refine ziloadN X2 hx hby d_prog_46_method_12_2 rfl (ziloadN X2 hx hby d_prog_46_method_12_3 rfl (zicmpYes X2 hx hby d_prog_46_method_12_4 25 (by decide) (by decide) (by decide) (ziloadN X2 hx hby d_prog_46_method_12_25 rfl ?_)))
  show zEnds p e below s T2 (mkF m 26 #[rv b900, iv 0, iv 6, iv 6] [(.int 6)]) _ _ _
  exact zretI X2 hx hby d_prog_46_method_12_26 hret hlk (by decide) (by decide) ⟨rfl, e2, rfl⟩
set_option maxRecDepth 65536 in
set_option maxHeartbeats 40000000 in
theorem c27_firstCharacter (l : Launch) {Z : State} {a0 : Array Value} (hw : ∀ d ∈ tables_1, d.before a0 Z = true) (ws : List Jvm.Cond) {w_arr0 : Addr} {cl_arr0 : Cell} {n0 : Nat} {h0 : Heap} (C : Ctx Z w_arr0 cl_arr0) (O0 : Old Z n0 h0) (Z0 : n0 ≤ h0.size) (b900 : Addr) (x2 : Int32) (x3 : Int32) (x4 : Int32) (x5 : Int32) (x6 : Int32) (x7 : Int32) (x8 : Int32) (g_b900 : n0 ≤ b900) (A_b900 : zLst Z h0 b900 .byte [(.int 27), (.int x2), (.int x3), (.int 27), (.int x4), (.int x5), (.int x6), (.int x7), (.int x8), (.int 0), (.int 0), (.int 0), (.int 0), (.int 0), (.int 0), (.int 0), (.int 0), (.int 0), (.int 0), (.int 0)]) (k0 : ¬ (x6 = (27 : Int32))) : zCon l Z (⟨"com/example/kakehashi/kakehashi/message/Iso2022", "firstCharacter", "([BII)I"⟩ : MethodName) prog_46_method_12_code 4 (some .int) ws ({ frames := 0, cells := 0, slots := 0, locals := 0 } : Room) #[(.ref b900), (.int 0), (.int 7)] h0 (zSame (some (.int 6)) h0) := by
  obtain ⟨S_w_arr0, A_w_arr0, Al_w_arr0⟩ := C
  refine zenter (plainFor_of_name pn_0) (L0 := #[rv b900, iv 0, iv 7, .unset]) (fun m => by first | rfl | simp [entryFrame, mkF, argsToLocals, Value.category, maxLocals]) ?_
  intro p e s m below meth c T0 hx hZ hby hml hown0 hnm hret hlk X0 e0
  have hown : s.vm.findClass "com/example/kakehashi/kakehashi/message/Iso2022" = some m.cls := hown0
  have K0 := Keep.refl h0 []
  have N0 := Fr.nil n0
  show zEnds p e below s T0 (mkF m 0 #[rv b900, iv 0, iv 7, .unset] []) _ _ _
  refine ziloadN X0 hx hby d_prog_46_method_12_0 rfl (zistoreN X0 hx hby d_prog_46_method_12_1 (L' := #[rv b900, iv 0, iv 7, iv 0]) rfl (ziloadN X0 hx hby d_prog_46_method_12_2 rfl (ziloadN X0 hx hby d_prog_46_method_12_3 rfl (zicmpNo X0 hx hby d_prog_46_method_12_4 (by decide) (zaloadN X0 hx hby d_prog_46_method_12_7 rfl rfl (ziloadN X0 hx hby d_prog_46_method_12_8 rfl (zbaload X0 hx hby d_prog_46_method_12_9 hZ e0 A_b900 (by decide) (v := (.int 27)) rfl (zbipush X0 hx hby d_prog_46_method_12_10 (z := (27 : Int32)) rfl (zicmpNo X0 hx hby d_prog_46_method_12_12 (by decide) ?_)))))))))
  show zEnds p e below s T0 (mkF m 15 #[rv b900, iv 0, iv 7, iv 0] []) _ _ _
  refine ziloadN X0 hx hby d_prog_46_method_12_15 rfl (zgetstat X0 hx hby d_prog_46_method_12_16 hZ hown (host := "") (Or.inl (w10 hw)) Via.refl e0 (S_w_arr0.ext O0.2) fun T1 X1 e1 => (zalenC X1 hx hby d_prog_46_method_12_19 hZ e1 (A_w_arr0.ext O0.2) (3 : Int32) Al_w_arr0 (ziadd X1 hx hby d_prog_46_method_12_20 (3 : Int32) (by decide) (zistoreN X1 hx hby d_prog_46_method_12_21 (L' := #[rv b900, iv 0, iv 7, iv 3]) rfl (zgoto X1 hx hby d_prog_46_method_12_22 2 (by decide) (by decide) (ziloadN X1 hx hby d_prog_46_method_12_2 rfl (ziloadN X1 hx hby d_prog_46_method_12_3 rfl (zicmpNo X1 hx hby d_prog_46_method_12_4 (by decide) (zaloadN X1 hx hby d_prog_46_method_12_7 rfl rfl ?_)))))))))
  show zEnds p e below s T1 (mkF m 8 #[rv b900, iv 0, iv 7, iv 3] [(.ref b900)]) _ _ _
  refine ziloadN X1 hx hby d_prog_46_method_12_8 rfl (zbaload X1 hx hby d_prog_46_method_12_9 hZ e1 A_b900 (by decide) (v := (.int 27)) rfl (zbipush X1 hx hby d_prog_46_method_12_10 (z := (27 : Int32)) rfl (zicmpNo X1 hx hby d_prog_46_method_12_12 (by decide) (ziloadN X1 hx hby d_prog_46_method_12_15 rfl (zgetstat X1 hx hby d_prog_46_method_12_16 hZ hown (host := "") (Or.inl (w10 hw)) Via.refl e1 (S_w_arr0.ext O0.2) fun T2 X2 e2 => (zalenC X2 hx hby d_prog_46_method_12_19 hZ e2 (A_w_arr0.ext O0.2) (3 : Int32) Al_w_arr0 (ziadd X2 hx hby d_prog_46_method_12_20 (6 : Int32) (by decide) (zistoreN X2 hx hby d_prog_46_method_12_21 (L' := #[rv b900, iv 0, iv 7, iv 6]) rfl (zgoto X2 hx hby d_prog_46_method_12_22 2 (by decide) (by decide) ?_)))))))))
  show zEnds p e below s T2 (mkF m 2 #[rv b900, iv 0, iv 7, iv 6] []) _ _ _
  refine ziloadN X2 hx hby d_prog_46_method_12_2 rfl (ziloadN X2 hx hby d_prog_46_method_12_3 rfl (zicmpNo X2 hx hby d_prog_46_method_12_4 (by decide) (zaloadN X2 hx hby d_prog_46_method_12_7 rfl rfl (ziloadN X2 hx hby d_prog_46_method_12_8 rfl (zbaload X2 hx hby d_prog_46_method_12_9 hZ e2 A_b900 (by decide) (v := (.int x6)) rfl (zbipush X2 hx hby d_prog_46_method_12_10 (z := (27 : Int32)) rfl (zicmpYes X2 hx hby d_prog_46_method_12_12 25 (feq k0).2 (by decide) (by decide) (ziloadN X2 hx hby d_prog_46_method_12_25 rfl ?_))))))))
  show zEnds p e below s T2 (mkF m 26 #[rv b900, iv 0, iv 7, iv 6] [(.int 6)]) _ _ _
  exact zretI X2 hx hby d_prog_46_method_12_26 hret hlk (by decide) (by decide) ⟨rfl, e2, rfl⟩
set_option maxRecDepth 65536 in
set_option maxHeartbeats 40000000 in
theorem c29_firstCharacter (l : Launch) {Z : State} {a0 : Array Value} (hw : ∀ d ∈ tables_1, d.before a0 Z = true) (ws : List Jvm.Cond) {w_arr0 : Addr} {cl_arr0 : Cell} {n0 : Nat} {h0 : Heap} (C : Ctx Z w_arr0 cl_arr0) (O0 : Old Z n0 h0) (Z0 : n0 ≤ h0.size) (b900 : Addr) (x2 : Int32) (x3 : Int32) (x4 : Int32) (x5 : Int32) (x6 : Int32) (x7 : Int32) (x8 : Int32) (x9 : Int32) (g_b900 : n0 ≤ b900) (A_b900 : zLst Z h0 b900 .byte [(.int 27), (.int x2), (.int x3), (.int 27), (.int x4), (.int x5), (.int x6), (.int x7), (.int x8), (.int x9), (.int 0), (.int 0), (.int 0), (.int 0), (.int 0), (.int 0), (.int 0), (.int 0), (.int 0), (.int 0)]) (k0 : ¬ (x6 = (27 : Int32))) : zCon l Z (⟨"com/example/kakehashi/kakehashi/message/Iso2022", "firstCharacter", "([BII)I"⟩ : MethodName) prog_46_method_12_code 4 (some .int) ws ({ frames := 0, cells := 0, slots := 0, locals := 0 } : Room) #[(.ref b900), (.int 0), (.int 8)] h0 (zSame (some (.int 6)) h0) := by
  obtain ⟨S_w_arr0, A_w_arr0, Al_w_arr0⟩ := C
  refine zenter (plainFor_of_name pn_0) (L0 := #[rv b900, iv 0, iv 8, .unset]) (fun m => by first | rfl | simp [entryFrame, mkF, argsToLocals, Value.category, maxLocals]) ?_
  intro p e s m below meth c T0 hx hZ hby hml hown0 hnm hret hlk X0 e0
  have hown : s.vm.findClass "com/example/kakehashi/kakehashi/message/Iso2022" = some m.cls := hown0
  have K0 := Keep.refl h0 []
  have N0 := Fr.nil n0
  show zEnds p e below s T0 (mkF m 0 #[rv b900, iv 0, iv 8, .unset] []) _ _ _
  refine ziloadN X0 hx hby d_prog_46_method_12_0 rfl (zistoreN X0 hx hby d_prog_46_method_12_1 (L' := #[rv b900, iv 0, iv 8, iv 0]) rfl (ziloadN X0 hx hby d_prog_46_method_12_2 rfl (ziloadN X0 hx hby d_prog_46_method_12_3 rfl (zicmpNo X0 hx hby d_prog_46_method_12_4 (by decide) (zaloadN X0 hx hby d_prog_46_method_12_7 rfl rfl (ziloadN X0 hx hby d_prog_46_method_12_8 rfl (zbaload X0 hx hby d_prog_46_method_12_9 hZ e0 A_b900 (by decide) (v := (.int 27)) rfl (zbipush X0 hx hby d_prog_46_method_12_10 (z := (27 : Int32)) rfl (zicmpNo X0 hx hby d_prog_46_method_12_12 (by decide) ?_)))))))))
  show zEnds p e below s T0 (mkF m 15 #[rv b900, iv 0, iv 8, iv 0] []) _ _ _
  refine ziloadN X0 hx hby d_prog_46_method_12_15 rfl (zgetstat X0 hx hby d_prog_46_method_12_16 hZ hown (host := "") (Or.inl (w10 hw)) Via.refl e0 (S_w_arr0.ext O0.2) fun T1 X1 e1 => (zalenC X1 hx hby d_prog_46_method_12_19 hZ e1 (A_w_arr0.ext O0.2) (3 : Int32) Al_w_arr0 (ziadd X1 hx hby d_prog_46_method_12_20 (3 : Int32) (by decide) (zistoreN X1 hx hby d_prog_46_method_12_21 (L' := #[rv b900, iv 0, iv 8, iv 3]) rfl (zgoto X1 hx hby d_prog_46_method_12_22 2 (by decide) (by decide) (ziloadN X1 hx hby d_prog_46_method_12_2 rfl (ziloadN X1 hx hby d_prog_46_method_12_3 rfl (zicmpNo X1 hx hby d_prog_46_method_12_4 (by decide) (zaloadN X1 hx hby d_prog_46_method_12_7 rfl rfl ?_)))))))))
  show zEnds p e below s T1 (mkF m 8 #[rv b900, iv 0, iv 8, iv 3] [(.ref b900)]) _ _ _
  refine ziloadN X1 hx hby d_prog_46_method_12_8 rfl (zbaload X1 hx hby d_prog_46_method_12_9 hZ e1 A_b900 (by decide) (v := (.int 27)) rfl (zbipush X1 hx hby d_prog_46_method_12_10 (z := (27 : Int32)) rfl (zicmpNo X1 hx hby d_prog_46_method_12_12 (by decide) (ziloadN X1 hx hby d_prog_46_method_12_15 rfl (zgetstat X1 hx hby d_prog_46_method_12_16 hZ hown (host := "") (Or.inl (w10 hw)) Via.refl e1 (S_w_arr0.ext O0.2) fun T2 X2 e2 => (zalenC X2 hx hby d_prog_46_method_12_19 hZ e2 (A_w_arr0.ext O0.2) (3 : Int32) Al_w_arr0 (ziadd X2 hx hby d_prog_46_method_12_20 (6 : Int32) (by decide) (zistoreN X2 hx hby d_prog_46_method_12_21 (L' := #[rv b900, iv 0, iv 8, iv 6]) rfl (zgoto X2 hx hby d_prog_46_method_12_22 2 (by decide) (by decide) ?_)))))))))
  show zEnds p e below s T2 (mkF m 2 #[rv b900, iv 0, iv 8, iv 6] []) _ _ _
  refine ziloadN X2 hx hby d_prog_46_method_12_2 rfl (ziloadN X2 hx hby d_prog_46_method_12_3 rfl (zicmpNo X2 hx hby d_prog_46_method_12_4 (by decide) (zaloadN X2 hx hby d_prog_46_method_12_7 rfl rfl (ziloadN X2 hx hby d_prog_46_method_12_8 rfl (zbaload X2 hx hby d_prog_46_method_12_9 hZ e2 A_b900 (by decide) (v := (.int x6)) rfl (zbipush X2 hx hby d_prog_46_method_12_10 (z := (27 : Int32)) rfl (zicmpYes X2 hx hby d_prog_46_method_12_12 25 (feq k0).2 (by decide) (by decide) (ziloadN X2 hx hby d_prog_46_method_12_25 rfl ?_))))))))
  show zEnds p e below s T2 (mkF m 26 #[rv b900, iv 0, iv 8, iv 6] [(.int 6)]) _ _ _
  exact zretI X2 hx hby d_prog_46_method_12_26 hret hlk (by decide) (by decide) ⟨rfl, e2, rfl⟩
set_option maxRecDepth 65536 in
set_option maxHeartbeats 40000000 in
theorem c31_esc (l : Launch) {Z : State} {a0 : Array Value} (hw : ∀ d ∈ tables_1, d.before a0 Z = true) (ws : List Jvm.Cond) {w_arr0 : Addr} {cl_arr0 : Cell} {n0 : Nat} {h0 : Heap} (C : Ctx Z w_arr0 cl_arr0) (O0 : Old Z n0 h0) (Z0 : n0 ≤ h0.size) (x2 : Int32) (b900 : Addr) (x3 : Int32) (x4 : Int32) (x5 : Int32) (x6 : Int32) (x7 : Int32) (x8 : Int32) (x9 : Int32) (x10 : Int32) (x11 : Int32) (x12 : Int32) (x13 : Int32) (x14 : Int32) (x15 : Int32) (x16 : Int32) (x17 : Int32) (x18 : Int32) (x19 : Int32) (x20 : Int32) (x21 : Int32) (x22 : Int32) (g_b900 : n0 ≤ b900) (A_b900 : zLst Z h0 b900 .byte [(.int x3), (.int x4), (.int x5), (.int x6), (.int x7), (.int x8), (.int x9), (.int x10), (.int x11), (.int x12), (.int x13), (.int x14), (.int x15), (.int x16), (.int x17), (.int x18), (.int x19), (.int x20), (.int x21), (.int x22)]) (k0 : ¬ (x9 = (27 : Int32))) : zCon l Z (⟨"com/example/kakehashi/kakehashi/message/Iso2022FirstCharacterPinLaw", "esc", "([BII)I"⟩ : MethodName) method_2_code 4 (some .int) ws ({ frames := 0, cells := 0, slots := 0, locals := 0 } : Room) #[(.ref b900), (.int 7), (.int x2)] h0 (fun v h L => v = some (.int 10) ∧ Fr n0 L ∧ Keep h0 h [b900] ∧ zLst Z h b900 .byte [(.int x3), (.int x4), (.int x5), (.int x6), (.int x7), (.int x8), (.int x9), (.int 27), (.int ((e1v x2).toInt8.toInt32)), (.int ((e2v x2).toInt8.toInt32)), (.int x13), (.int x14), (.int x15), (.int x16), (.int x17), (.int x18), (.int x19), (.int x20), (.int x21), (.int x22)]) := by
  obtain ⟨S_w_arr0, A_w_arr0, Al_w_arr0⟩ := C
  refine zenter (plainFor_of_name pn_1) (L0 := #[rv b900, iv 7, iv x2, .unset]) (fun m => by first | rfl | simp [entryFrame, mkF, argsToLocals, Value.category, maxLocals]) ?_
  intro p e s m below meth c T0 hx hZ hby hml hown0 hnm hret hlk X0 e0
  have hown : s.vm.findClass "com/example/kakehashi/kakehashi/message/Iso2022FirstCharacterPinLaw" = some m.cls := hown0
  have K0 := Keep.refl h0 [b900]
  have N0 := Fr.nil n0
  show zEnds p e below s T0 (mkF m 0 #[rv b900, iv 7, iv x2, .unset] []) _ _ _
  refine ziloadN X0 hx hby d_method_2_0 rfl (ziconst X0 hx hby d_method_2_1 (z := (3 : Int32)) rfl (zirem X0 hx hby d_method_2_2 (x2 % (3 : Int32)) (by decide) rfl (zistoreN X0 hx hby d_method_2_3 (L' := #[rv b900, iv 7, iv x2, iv (x2 % (3 : Int32))]) rfl (zaloadN X0 hx hby d_method_2_4 rfl rfl (ziloadN X0 hx hby d_method_2_5 rfl (zbipush X0 hx hby d_method_2_6 (z := (27 : Int32)) rfl (zbastore X0 hx hby d_method_2_8 hZ e0 A_b900 (by decide) (by show Int32.toNatClampNeg 7 < 20; decide) (27 : Int32) (by decide) fun T1 h1 X1 e1 W1 A1_b900 => ?_)))))))
  change zLst Z h1 b900 .byte [(.int x3), (.int x4), (.int x5), (.int x6), (.int x7), (.int x8), (.int x9), (.int 27), (.int x11), (.int x12), (.int x13), (.int x14), (.int x15), (.int x16), (.int x17), (.int x18), (.int x19), (.int x20), (.int x21), (.int x22)] at A1_b900
  have O1 := O0.wr W1 g_b900
  have K1 := Keep.wr K0 W1 (Or.inl (List.mem_of_getElem? (i := 0) rfl))
  have N1 := Fr.snoc X1 N0 g_b900
  refine zaloadN X1 hx hby d_method_2_9 rfl rfl (ziloadN X1 hx hby d_method_2_10 rfl (ziconst X1 hx hby d_method_2_11 (z := (1 : Int32)) rfl (ziadd X1 hx hby d_method_2_12 (8 : Int32) (by decide) (ziloadN X1 hx hby d_method_2_13 rfl ?_))))
  show zEnds p e below s T1 (mkF m 14 #[rv b900, iv 7, iv x2, iv (x2 % (3 : Int32))] [(.int (x2 % (3 : Int32))), (.int 8), (.ref b900)]) _ _ _
  refine zjoin (T' := T1) (F' := (mkF m 24 #[rv b900, iv 7, iv x2, iv (x2 % (3 : Int32))] [(.int (e1v x2)), (.int 8), (.ref b900)])) (fun K => ?_) ?_
  · show zEnds p e below s T1 (mkF m 14 #[rv b900, iv 7, iv x2, iv (x2 % (3 : Int32))] [(.int (x2 % (3 : Int32))), (.int 8), (.ref b900)]) _ _ _
    by_cases hc2 : (x2 % (3 : Int32)) = (0 : Int32)
    · refine zifNo X1 hx hby d_method_2_14 ((if0 _ _).trans (teq hc2).2) (zbipush X1 hx hby d_method_2_17 (z := (36 : Int32)) rfl (zgoto X1 hx hby d_method_2_19 24 (by decide) (by decide) ?_))
      show zEnds p e below s T1 (mkF m 24 #[rv b900, iv 7, iv x2, iv (x2 % (3 : Int32))] [(.int 36), (.int 8), (.ref b900)]) _ _ _
      rw [show (36 : Int32) = (e1v x2) from by simp +decide [e1v, k0, hc2]]; exact K
    · refine zifYes X1 hx hby d_method_2_14 22 ((if0 _ _).trans (feq hc2).2) (by decide) (by decide) (zbipush X1 hx hby d_method_2_22 (z := (40 : Int32)) rfl ?_)
      show zEnds p e below s T1 (mkF m 24 #[rv b900, iv 7, iv x2, iv (x2 % (3 : Int32))] [(.int 40), (.int 8), (.ref b900)]) _ _ _
      rw [show (40 : Int32) = (e1v x2) from by simp +decide [e1v, k0, hc2]]; exact K
  refine zi2b X1 hx hby d_method_2_24 ((e1v x2).toInt8.toInt32) rfl (zbastore X1 hx hby d_method_2_25 hZ e1 A1_b900 (by decide) (by show Int32.toNatClampNeg 8 < 20; decide) ((e1v x2).toInt8.toInt32) (own_nar8 _) fun T3 h3 X3 e3 W3 A3_b900 => ?_)
  change zLst Z h3 b900 .byte [(.int x3), (.int x4), (.int x5), (.int x6), (.int x7), (.int x8), (.int x9), (.int 27), (.int ((e1v x2).toInt8.toInt32)), (.int x12), (.int x13), (.int x14), (.int x15), (.int x16), (.int x17), (.int x18), (.int x19), (.int x20), (.int x21), (.int x22)] at A3_b900
  have O3 := O1.wr W3 g_b900
  have K3 := Keep.wr K1 W3 (Or.inl (List.mem_of_getElem? (i := 0) rfl))
  have N3 := Fr.snoc X3 N1 g_b900
  refine zaloadN X3 hx hby d_method_2_26 rfl rfl (ziloadN X3 hx hby d_method_2_27 rfl (ziconst X3 hx hby d_method_2_28 (z := (2 : Int32)) rfl (ziadd X3 hx hby d_method_2_29 (9 : Int32) (by decide) (ziloadN X3 hx hby d_method_2_30 rfl (ziconst X3 hx hby d_method_2_31 (z := (2 : Int32)) rfl ?_)))))
  show zEnds p e below s T3 (mkF m 32 #[rv b900, iv 7, iv x2, iv (x2 % (3 : Int32))] [(.int 2), (.int (x2 % (3 : Int32))), (.int 9), (.ref b900)]) _ _ _
  refine zjoin (T' := T3) (F' := (mkF m 42 #[rv b900, iv 7, iv x2, iv (x2 % (3 : Int32))] [(.int (e2v x2)), (.int 9), (.ref b900)])) (fun K => ?_) ?_
  · show zEnds p e below s T3 (mkF m 32 #[rv b900, iv 7, iv x2, iv (x2 % (3 : Int32))] [(.int 2), (.int (x2 % (3 : Int32))), (.int 9), (.ref b900)]) _ _ _
    by_cases hc4 : (x2 % (3 : Int32)) = (2 : Int32)
    · refine zicmpNo X3 hx hby d_method_2_32 (teq hc4).2 (zbipush X3 hx hby d_method_2_35 (z := (74 : Int32)) rfl (zgoto X3 hx hby d_method_2_37 42 (by decide) (by decide) ?_))
      show zEnds p e below s T3 (mkF m 42 #[rv b900, iv 7, iv x2, iv (x2 % (3 : Int32))] [(.int 74), (.int 9), (.ref b900)]) _ _ _
      rw [show (74 : Int32) = (e2v x2) from by simp +decide [e2v, k0, hc4]]; exact K
    · refine zicmpYes X3 hx hby d_method_2_32 40 (feq hc4).2 (by decide) (by decide) (zbipush X3 hx hby d_method_2_40 (z := (66 : Int32)) rfl ?_)
      show zEnds p e below s T3 (mkF m 42 #[rv b900, iv 7, iv x2, iv (x2 % (3 : Int32))] [(.int 66), (.int 9), (.ref b900)]) _ _ _
      rw [show (66 : Int32) = (e2v x2) from by simp +decide [e2v, k0, hc4]]; exact K
  refine zi2b X3 hx hby d_method_2_42 ((e2v x2).toInt8.toInt32) rfl (zbastore X3 hx hby d_method_2_43 hZ e3 A3_b900 (by decide) (by show Int32.toNatClampNeg 9 < 20; decide) ((e2v x2).toInt8.toInt32) (own_nar8 _) fun T5 h5 X5 e5 W5 A5_b900 => ?_)
  change zLst Z h5 b900 .byte [(.int x3), (.int x4), (.int x5), (.int x6), (.int x7), (.int x8), (.int x9), (.int 27), (.int ((e1v x2).toInt8.toInt32)), (.int ((e2v x2).toInt8.toInt32)), (.int x13), (.int x14), (.int x15), (.int x16), (.int x17), (.int x18), (.int x19), (.int x20), (.int x21), (.int x22)] at A5_b900
  have O5 := O3.wr W5 g_b900
  have K5 := Keep.wr K3 W5 (Or.inl (List.mem_of_getElem? (i := 0) rfl))
  have N5 := Fr.snoc X5 N3 g_b900
  refine ziloadN X5 hx hby d_method_2_44 rfl (ziconst X5 hx hby d_method_2_45 (z := (3 : Int32)) rfl (ziadd X5 hx hby d_method_2_46 (10 : Int32) (by decide) ?_))
  show zEnds p e below s T5 (mkF m 47 #[rv b900, iv 7, iv x2, iv (x2 % (3 : Int32))] [(.int 10)]) _ _ _
  exact zretI X5 hx hby d_method_2_47 hret hlk (by decide) (by decide) (by rw [e5]; exact ⟨rfl, N5, K5, A5_b900⟩)
set_option maxRecDepth 65536 in
set_option maxHeartbeats 40000000 in
theorem c33_firstCharacter (l : Launch) {Z : State} {a0 : Array Value} (hw : ∀ d ∈ tables_1, d.before a0 Z = true) (ws : List Jvm.Cond) {w_arr0 : Addr} {cl_arr0 : Cell} {n0 : Nat} {h0 : Heap} (C : Ctx Z w_arr0 cl_arr0) (O0 : Old Z n0 h0) (Z0 : n0 ≤ h0.size) (b900 : Addr) (x2 : Int32) (x3 : Int32) (x4 : Int32) (x5 : Int32) (x6 : Int32) (x7 : Int32) (x8 : Int32) (x9 : Int32) (x10 : Int32) (g_b900 : n0 ≤ b900) (A_b900 : zLst Z h0 b900 .byte [(.int 27), (.int x2), (.int x3), (.int 27), (.int x4), (.int x5), (.int x6), (.int 27), (.int x7), (.int x8), (.int x9), (.int x10), (.int 0), (.int 0), (.int 0), (.int 0), (.int 0), (.int 0), (.int 0), (.int 0)]) (k0 : ¬ (x6 = (27 : Int32))) : zCon l Z (⟨"com/example/kakehashi/kakehashi/message/Iso2022", "firstCharacter", "([BII)I"⟩ : MethodName) prog_46_method_12_code 4 (some .int) ws ({ frames := 0, cells := 0, slots := 0, locals := 0 } : Room) #[(.ref b900), (.int 0), (.int 10)] h0 (zSame (some (.int 6)) h0) := by
  obtain ⟨S_w_arr0, A_w_arr0, Al_w_arr0⟩ := C
  refine zenter (plainFor_of_name pn_0) (L0 := #[rv b900, iv 0, iv 10, .unset]) (fun m => by first | rfl | simp [entryFrame, mkF, argsToLocals, Value.category, maxLocals]) ?_
  intro p e s m below meth c T0 hx hZ hby hml hown0 hnm hret hlk X0 e0
  have hown : s.vm.findClass "com/example/kakehashi/kakehashi/message/Iso2022" = some m.cls := hown0
  have K0 := Keep.refl h0 []
  have N0 := Fr.nil n0
  show zEnds p e below s T0 (mkF m 0 #[rv b900, iv 0, iv 10, .unset] []) _ _ _
  refine ziloadN X0 hx hby d_prog_46_method_12_0 rfl (zistoreN X0 hx hby d_prog_46_method_12_1 (L' := #[rv b900, iv 0, iv 10, iv 0]) rfl (ziloadN X0 hx hby d_prog_46_method_12_2 rfl (ziloadN X0 hx hby d_prog_46_method_12_3 rfl (zicmpNo X0 hx hby d_prog_46_method_12_4 (by decide) (zaloadN X0 hx hby d_prog_46_method_12_7 rfl rfl (ziloadN X0 hx hby d_prog_46_method_12_8 rfl (zbaload X0 hx hby d_prog_46_method_12_9 hZ e0 A_b900 (by decide) (v := (.int 27)) rfl (zbipush X0 hx hby d_prog_46_method_12_10 (z := (27 : Int32)) rfl (zicmpNo X0 hx hby d_prog_46_method_12_12 (by decide) ?_)))))))))
  show zEnds p e below s T0 (mkF m 15 #[rv b900, iv 0, iv 10, iv 0] []) _ _ _
  refine ziloadN X0 hx hby d_prog_46_method_12_15 rfl (zgetstat X0 hx hby d_prog_46_method_12_16 hZ hown (host := "") (Or.inl (w10 hw)) Via.refl e0 (S_w_arr0.ext O0.2) fun T1 X1 e1 => (zalenC X1 hx hby d_prog_46_method_12_19 hZ e1 (A_w_arr0.ext O0.2) (3 : Int32) Al_w_arr0 (ziadd X1 hx hby d_prog_46_method_12_20 (3 : Int32) (by decide) (zistoreN X1 hx hby d_prog_46_method_12_21 (L' := #[rv b900, iv 0, iv 10, iv 3]) rfl (zgoto X1 hx hby d_prog_46_method_12_22 2 (by decide) (by decide) (ziloadN X1 hx hby d_prog_46_method_12_2 rfl (ziloadN X1 hx hby d_prog_46_method_12_3 rfl (zicmpNo X1 hx hby d_prog_46_method_12_4 (by decide) (zaloadN X1 hx hby d_prog_46_method_12_7 rfl rfl ?_)))))))))
  show zEnds p e below s T1 (mkF m 8 #[rv b900, iv 0, iv 10, iv 3] [(.ref b900)]) _ _ _
  refine ziloadN X1 hx hby d_prog_46_method_12_8 rfl (zbaload X1 hx hby d_prog_46_method_12_9 hZ e1 A_b900 (by decide) (v := (.int 27)) rfl (zbipush X1 hx hby d_prog_46_method_12_10 (z := (27 : Int32)) rfl (zicmpNo X1 hx hby d_prog_46_method_12_12 (by decide) (ziloadN X1 hx hby d_prog_46_method_12_15 rfl (zgetstat X1 hx hby d_prog_46_method_12_16 hZ hown (host := "") (Or.inl (w10 hw)) Via.refl e1 (S_w_arr0.ext O0.2) fun T2 X2 e2 => (zalenC X2 hx hby d_prog_46_method_12_19 hZ e2 (A_w_arr0.ext O0.2) (3 : Int32) Al_w_arr0 (ziadd X2 hx hby d_prog_46_method_12_20 (6 : Int32) (by decide) (zistoreN X2 hx hby d_prog_46_method_12_21 (L' := #[rv b900, iv 0, iv 10, iv 6]) rfl (zgoto X2 hx hby d_prog_46_method_12_22 2 (by decide) (by decide) ?_)))))))))
  show zEnds p e below s T2 (mkF m 2 #[rv b900, iv 0, iv 10, iv 6] []) _ _ _
  refine ziloadN X2 hx hby d_prog_46_method_12_2 rfl (ziloadN X2 hx hby d_prog_46_method_12_3 rfl (zicmpNo X2 hx hby d_prog_46_method_12_4 (by decide) (zaloadN X2 hx hby d_prog_46_method_12_7 rfl rfl (ziloadN X2 hx hby d_prog_46_method_12_8 rfl (zbaload X2 hx hby d_prog_46_method_12_9 hZ e2 A_b900 (by decide) (v := (.int x6)) rfl (zbipush X2 hx hby d_prog_46_method_12_10 (z := (27 : Int32)) rfl (zicmpYes X2 hx hby d_prog_46_method_12_12 25 (feq k0).2 (by decide) (by decide) (ziloadN X2 hx hby d_prog_46_method_12_25 rfl ?_))))))))
  show zEnds p e below s T2 (mkF m 26 #[rv b900, iv 0, iv 10, iv 6] [(.int 6)]) _ _ _
  exact zretI X2 hx hby d_prog_46_method_12_26 hret hlk (by decide) (by decide) ⟨rfl, e2, rfl⟩
set_option maxRecDepth 65536 in
set_option maxHeartbeats 40000000 in
theorem c35_esc (l : Launch) {Z : State} {a0 : Array Value} (hw : ∀ d ∈ tables_1, d.before a0 Z = true) (ws : List Jvm.Cond) {w_arr0 : Addr} {cl_arr0 : Cell} {n0 : Nat} {h0 : Heap} (C : Ctx Z w_arr0 cl_arr0) (O0 : Old Z n0 h0) (Z0 : n0 ≤ h0.size) (x2 : Int32) (b900 : Addr) (x3 : Int32) (x4 : Int32) (x5 : Int32) (x6 : Int32) (x7 : Int32) (x8 : Int32) (x9 : Int32) (x10 : Int32) (x11 : Int32) (x12 : Int32) (x13 : Int32) (x14 : Int32) (x15 : Int32) (x16 : Int32) (x17 : Int32) (x18 : Int32) (x19 : Int32) (x20 : Int32) (x21 : Int32) (x22 : Int32) (g_b900 : n0 ≤ b900) (A_b900 : zLst Z h0 b900 .byte [(.int x3), (.int x4), (.int x5), (.int x6), (.int x7), (.int x8), (.int x9), (.int x10), (.int x11), (.int x12), (.int x13), (.int x14), (.int x15), (.int x16), (.int x17), (.int x18), (.int x19), (.int x20), (.int x21), (.int x22)]) : zCon l Z (⟨"com/example/kakehashi/kakehashi/message/Iso2022FirstCharacterPinLaw", "esc", "([BII)I"⟩ : MethodName) method_2_code 4 (some .int) ws ({ frames := 0, cells := 0, slots := 0, locals := 0 } : Room) #[(.ref b900), (.int 6), (.int x2)] h0 (fun v h L => v = some (.int 9) ∧ Fr n0 L ∧ Keep h0 h [b900] ∧ zLst Z h b900 .byte [(.int x3), (.int x4), (.int x5), (.int x6), (.int x7), (.int x8), (.int 27), (.int ((e1v x2).toInt8.toInt32)), (.int ((e2v x2).toInt8.toInt32)), (.int x12), (.int x13), (.int x14), (.int x15), (.int x16), (.int x17), (.int x18), (.int x19), (.int x20), (.int x21), (.int x22)]) := by
  obtain ⟨S_w_arr0, A_w_arr0, Al_w_arr0⟩ := C
  refine zenter (plainFor_of_name pn_1) (L0 := #[rv b900, iv 6, iv x2, .unset]) (fun m => by first | rfl | simp [entryFrame, mkF, argsToLocals, Value.category, maxLocals]) ?_
  intro p e s m below meth c T0 hx hZ hby hml hown0 hnm hret hlk X0 e0
  have hown : s.vm.findClass "com/example/kakehashi/kakehashi/message/Iso2022FirstCharacterPinLaw" = some m.cls := hown0
  have K0 := Keep.refl h0 [b900]
  have N0 := Fr.nil n0
  show zEnds p e below s T0 (mkF m 0 #[rv b900, iv 6, iv x2, .unset] []) _ _ _
  refine ziloadN X0 hx hby d_method_2_0 rfl (ziconst X0 hx hby d_method_2_1 (z := (3 : Int32)) rfl (zirem X0 hx hby d_method_2_2 (x2 % (3 : Int32)) (by decide) rfl (zistoreN X0 hx hby d_method_2_3 (L' := #[rv b900, iv 6, iv x2, iv (x2 % (3 : Int32))]) rfl (zaloadN X0 hx hby d_method_2_4 rfl rfl (ziloadN X0 hx hby d_method_2_5 rfl (zbipush X0 hx hby d_method_2_6 (z := (27 : Int32)) rfl (zbastore X0 hx hby d_method_2_8 hZ e0 A_b900 (by decide) (by show Int32.toNatClampNeg 6 < 20; decide) (27 : Int32) (by decide) fun T1 h1 X1 e1 W1 A1_b900 => ?_)))))))
  change zLst Z h1 b900 .byte [(.int x3), (.int x4), (.int x5), (.int x6), (.int x7), (.int x8), (.int 27), (.int x10), (.int x11), (.int x12), (.int x13), (.int x14), (.int x15), (.int x16), (.int x17), (.int x18), (.int x19), (.int x20), (.int x21), (.int x22)] at A1_b900
  have O1 := O0.wr W1 g_b900
  have K1 := Keep.wr K0 W1 (Or.inl (List.mem_of_getElem? (i := 0) rfl))
  have N1 := Fr.snoc X1 N0 g_b900
  refine zaloadN X1 hx hby d_method_2_9 rfl rfl (ziloadN X1 hx hby d_method_2_10 rfl (ziconst X1 hx hby d_method_2_11 (z := (1 : Int32)) rfl (ziadd X1 hx hby d_method_2_12 (7 : Int32) (by decide) (ziloadN X1 hx hby d_method_2_13 rfl ?_))))
  show zEnds p e below s T1 (mkF m 14 #[rv b900, iv 6, iv x2, iv (x2 % (3 : Int32))] [(.int (x2 % (3 : Int32))), (.int 7), (.ref b900)]) _ _ _
  refine zjoin (T' := T1) (F' := (mkF m 24 #[rv b900, iv 6, iv x2, iv (x2 % (3 : Int32))] [(.int (e1v x2)), (.int 7), (.ref b900)])) (fun K => ?_) ?_
  · show zEnds p e below s T1 (mkF m 14 #[rv b900, iv 6, iv x2, iv (x2 % (3 : Int32))] [(.int (x2 % (3 : Int32))), (.int 7), (.ref b900)]) _ _ _
    by_cases hc2 : (x2 % (3 : Int32)) = (0 : Int32)
    · refine zifNo X1 hx hby d_method_2_14 ((if0 _ _).trans (teq hc2).2) (zbipush X1 hx hby d_method_2_17 (z := (36 : Int32)) rfl (zgoto X1 hx hby d_method_2_19 24 (by decide) (by decide) ?_))
      show zEnds p e below s T1 (mkF m 24 #[rv b900, iv 6, iv x2, iv (x2 % (3 : Int32))] [(.int 36), (.int 7), (.ref b900)]) _ _ _
      rw [show (36 : Int32) = (e1v x2) from by simp +decide [e1v, hc2]]; exact K
    · refine zifYes X1 hx hby d_method_2_14 22 ((if0 _ _).trans (feq hc2).2) (by decide) (by decide) (zbipush X1 hx hby d_method_2_22 (z := (40 : Int32)) rfl ?_)
      show zEnds p e below s T1 (mkF m 24 #[rv b900, iv 6, iv x2, iv (x2 % (3 : Int32))] [(.int 40), (.int 7), (.ref b900)]) _ _ _
      rw [show (40 : Int32) = (e1v x2) from by simp +decide [e1v, hc2]]; exact K
  refine zi2b X1 hx hby d_method_2_24 ((e1v x2).toInt8.toInt32) rfl (zbastore X1 hx hby d_method_2_25 hZ e1 A1_b900 (by decide) (by show Int32.toNatClampNeg 7 < 20; decide) ((e1v x2).toInt8.toInt32) (own_nar8 _) fun T3 h3 X3 e3 W3 A3_b900 => ?_)
  change zLst Z h3 b900 .byte [(.int x3), (.int x4), (.int x5), (.int x6), (.int x7), (.int x8), (.int 27), (.int ((e1v x2).toInt8.toInt32)), (.int x11), (.int x12), (.int x13), (.int x14), (.int x15), (.int x16), (.int x17), (.int x18), (.int x19), (.int x20), (.int x21), (.int x22)] at A3_b900
  have O3 := O1.wr W3 g_b900
  have K3 := Keep.wr K1 W3 (Or.inl (List.mem_of_getElem? (i := 0) rfl))
  have N3 := Fr.snoc X3 N1 g_b900
  refine zaloadN X3 hx hby d_method_2_26 rfl rfl (ziloadN X3 hx hby d_method_2_27 rfl (ziconst X3 hx hby d_method_2_28 (z := (2 : Int32)) rfl (ziadd X3 hx hby d_method_2_29 (8 : Int32) (by decide) (ziloadN X3 hx hby d_method_2_30 rfl (ziconst X3 hx hby d_method_2_31 (z := (2 : Int32)) rfl ?_)))))
  show zEnds p e below s T3 (mkF m 32 #[rv b900, iv 6, iv x2, iv (x2 % (3 : Int32))] [(.int 2), (.int (x2 % (3 : Int32))), (.int 8), (.ref b900)]) _ _ _
  refine zjoin (T' := T3) (F' := (mkF m 42 #[rv b900, iv 6, iv x2, iv (x2 % (3 : Int32))] [(.int (e2v x2)), (.int 8), (.ref b900)])) (fun K => ?_) ?_
  · show zEnds p e below s T3 (mkF m 32 #[rv b900, iv 6, iv x2, iv (x2 % (3 : Int32))] [(.int 2), (.int (x2 % (3 : Int32))), (.int 8), (.ref b900)]) _ _ _
    by_cases hc4 : (x2 % (3 : Int32)) = (2 : Int32)
    · refine zicmpNo X3 hx hby d_method_2_32 (teq hc4).2 (zbipush X3 hx hby d_method_2_35 (z := (74 : Int32)) rfl (zgoto X3 hx hby d_method_2_37 42 (by decide) (by decide) ?_))
      show zEnds p e below s T3 (mkF m 42 #[rv b900, iv 6, iv x2, iv (x2 % (3 : Int32))] [(.int 74), (.int 8), (.ref b900)]) _ _ _
      rw [show (74 : Int32) = (e2v x2) from by simp +decide [e2v, hc4]]; exact K
    · refine zicmpYes X3 hx hby d_method_2_32 40 (feq hc4).2 (by decide) (by decide) (zbipush X3 hx hby d_method_2_40 (z := (66 : Int32)) rfl ?_)
      show zEnds p e below s T3 (mkF m 42 #[rv b900, iv 6, iv x2, iv (x2 % (3 : Int32))] [(.int 66), (.int 8), (.ref b900)]) _ _ _
      rw [show (66 : Int32) = (e2v x2) from by simp +decide [e2v, hc4]]; exact K
  refine zi2b X3 hx hby d_method_2_42 ((e2v x2).toInt8.toInt32) rfl (zbastore X3 hx hby d_method_2_43 hZ e3 A3_b900 (by decide) (by show Int32.toNatClampNeg 8 < 20; decide) ((e2v x2).toInt8.toInt32) (own_nar8 _) fun T5 h5 X5 e5 W5 A5_b900 => ?_)
  change zLst Z h5 b900 .byte [(.int x3), (.int x4), (.int x5), (.int x6), (.int x7), (.int x8), (.int 27), (.int ((e1v x2).toInt8.toInt32)), (.int ((e2v x2).toInt8.toInt32)), (.int x12), (.int x13), (.int x14), (.int x15), (.int x16), (.int x17), (.int x18), (.int x19), (.int x20), (.int x21), (.int x22)] at A5_b900
  have O5 := O3.wr W5 g_b900
  have K5 := Keep.wr K3 W5 (Or.inl (List.mem_of_getElem? (i := 0) rfl))
  have N5 := Fr.snoc X5 N3 g_b900
  refine ziloadN X5 hx hby d_method_2_44 rfl (ziconst X5 hx hby d_method_2_45 (z := (3 : Int32)) rfl (ziadd X5 hx hby d_method_2_46 (9 : Int32) (by decide) ?_))
  show zEnds p e below s T5 (mkF m 47 #[rv b900, iv 6, iv x2, iv (x2 % (3 : Int32))] [(.int 9)]) _ _ _
  exact zretI X5 hx hby d_method_2_47 hret hlk (by decide) (by decide) (by rw [e5]; exact ⟨rfl, N5, K5, A5_b900⟩)
set_option maxRecDepth 65536 in
set_option maxHeartbeats 40000000 in
theorem c37_firstCharacter (l : Launch) {Z : State} {a0 : Array Value} (hw : ∀ d ∈ tables_1, d.before a0 Z = true) (ws : List Jvm.Cond) {w_arr0 : Addr} {cl_arr0 : Cell} {n0 : Nat} {h0 : Heap} (C : Ctx Z w_arr0 cl_arr0) (O0 : Old Z n0 h0) (Z0 : n0 ≤ h0.size) (b900 : Addr) (x2 : Int32) (x3 : Int32) (x4 : Int32) (x5 : Int32) (x6 : Int32) (x7 : Int32) (x8 : Int32) (x9 : Int32) (g_b900 : n0 ≤ b900) (A_b900 : zLst Z h0 b900 .byte [(.int 27), (.int x2), (.int x3), (.int 27), (.int x4), (.int x5), (.int 27), (.int x6), (.int x7), (.int x8), (.int x9), (.int 0), (.int 0), (.int 0), (.int 0), (.int 0), (.int 0), (.int 0), (.int 0), (.int 0)]) : zCon l Z (⟨"com/example/kakehashi/kakehashi/message/Iso2022", "firstCharacter", "([BII)I"⟩ : MethodName) prog_46_method_12_code 4 (some .int) ws ({ frames := 0, cells := 0, slots := 0, locals := 0 } : Room) #[(.ref b900), (.int 0), (.int 9)] h0 (zSame (some (.int 9)) h0) := by
  obtain ⟨S_w_arr0, A_w_arr0, Al_w_arr0⟩ := C
  refine zenter (plainFor_of_name pn_0) (L0 := #[rv b900, iv 0, iv 9, .unset]) (fun m => by first | rfl | simp [entryFrame, mkF, argsToLocals, Value.category, maxLocals]) ?_
  intro p e s m below meth c T0 hx hZ hby hml hown0 hnm hret hlk X0 e0
  have hown : s.vm.findClass "com/example/kakehashi/kakehashi/message/Iso2022" = some m.cls := hown0
  have K0 := Keep.refl h0 []
  have N0 := Fr.nil n0
  show zEnds p e below s T0 (mkF m 0 #[rv b900, iv 0, iv 9, .unset] []) _ _ _
  refine ziloadN X0 hx hby d_prog_46_method_12_0 rfl (zistoreN X0 hx hby d_prog_46_method_12_1 (L' := #[rv b900, iv 0, iv 9, iv 0]) rfl (ziloadN X0 hx hby d_prog_46_method_12_2 rfl (ziloadN X0 hx hby d_prog_46_method_12_3 rfl (zicmpNo X0 hx hby d_prog_46_method_12_4 (by decide) (zaloadN X0 hx hby d_prog_46_method_12_7 rfl rfl (ziloadN X0 hx hby d_prog_46_method_12_8 rfl (zbaload X0 hx hby d_prog_46_method_12_9 hZ e0 A_b900 (by decide) (v := (.int 27)) rfl (zbipush X0 hx hby d_prog_46_method_12_10 (z := (27 : Int32)) rfl (zicmpNo X0 hx hby d_prog_46_method_12_12 (by decide) ?_)))))))))
  show zEnds p e below s T0 (mkF m 15 #[rv b900, iv 0, iv 9, iv 0] []) _ _ _
  refine ziloadN X0 hx hby d_prog_46_method_12_15 rfl (zgetstat X0 hx hby d_prog_46_method_12_16 hZ hown (host := "") (Or.inl (w10 hw)) Via.refl e0 (S_w_arr0.ext O0.2) fun T1 X1 e1 => (zalenC X1 hx hby d_prog_46_method_12_19 hZ e1 (A_w_arr0.ext O0.2) (3 : Int32) Al_w_arr0 (ziadd X1 hx hby d_prog_46_method_12_20 (3 : Int32) (by decide) (zistoreN X1 hx hby d_prog_46_method_12_21 (L' := #[rv b900, iv 0, iv 9, iv 3]) rfl (zgoto X1 hx hby d_prog_46_method_12_22 2 (by decide) (by decide) (ziloadN X1 hx hby d_prog_46_method_12_2 rfl (ziloadN X1 hx hby d_prog_46_method_12_3 rfl (zicmpNo X1 hx hby d_prog_46_method_12_4 (by decide) (zaloadN X1 hx hby d_prog_46_method_12_7 rfl rfl ?_)))))))))
  show zEnds p e below s T1 (mkF m 8 #[rv b900, iv 0, iv 9, iv 3] [(.ref b900)]) _ _ _
  refine ziloadN X1 hx hby d_prog_46_method_12_8 rfl (zbaload X1 hx hby d_prog_46_method_12_9 hZ e1 A_b900 (by decide) (v := (.int 27)) rfl (zbipush X1 hx hby d_prog_46_method_12_10 (z := (27 : Int32)) rfl (zicmpNo X1 hx hby d_prog_46_method_12_12 (by decide) (ziloadN X1 hx hby d_prog_46_method_12_15 rfl (zgetstat X1 hx hby d_prog_46_method_12_16 hZ hown (host := "") (Or.inl (w10 hw)) Via.refl e1 (S_w_arr0.ext O0.2) fun T2 X2 e2 => (zalenC X2 hx hby d_prog_46_method_12_19 hZ e2 (A_w_arr0.ext O0.2) (3 : Int32) Al_w_arr0 (ziadd X2 hx hby d_prog_46_method_12_20 (6 : Int32) (by decide) (zistoreN X2 hx hby d_prog_46_method_12_21 (L' := #[rv b900, iv 0, iv 9, iv 6]) rfl (zgoto X2 hx hby d_prog_46_method_12_22 2 (by decide) (by decide) ?_)))))))))
  show zEnds p e below s T2 (mkF m 2 #[rv b900, iv 0, iv 9, iv 6] []) _ _ _
  refine ziloadN X2 hx hby d_prog_46_method_12_2 rfl (ziloadN X2 hx hby d_prog_46_method_12_3 rfl (zicmpNo X2 hx hby d_prog_46_method_12_4 (by decide) (zaloadN X2 hx hby d_prog_46_method_12_7 rfl rfl (ziloadN X2 hx hby d_prog_46_method_12_8 rfl (zbaload X2 hx hby d_prog_46_method_12_9 hZ e2 A_b900 (by decide) (v := (.int 27)) rfl (zbipush X2 hx hby d_prog_46_method_12_10 (z := (27 : Int32)) rfl (zicmpNo X2 hx hby d_prog_46_method_12_12 (by decide) (ziloadN X2 hx hby d_prog_46_method_12_15 rfl (zgetstat X2 hx hby d_prog_46_method_12_16 hZ hown (host := "") (Or.inl (w10 hw)) Via.refl e2 (S_w_arr0.ext O0.2) fun T3 X3 e3 => ?_)))))))))
  show zEnds p e below s T3 (mkF m 19 #[rv b900, iv 0, iv 9, iv 6] [(.ref w_arr0), (.int 6)]) _ _ _
  refine zalenC X3 hx hby d_prog_46_method_12_19 hZ e3 (A_w_arr0.ext O0.2) (3 : Int32) Al_w_arr0 (ziadd X3 hx hby d_prog_46_method_12_20 (9 : Int32) (by decide) (zistoreN X3 hx hby d_prog_46_method_12_21 (L' := #[rv b900, iv 0, iv 9, iv 9]) rfl (zgoto X3 hx hby d_prog_46_method_12_22 2 (by decide) (by decide) (ziloadN X3 hx hby d_prog_46_method_12_2 rfl (ziloadN X3 hx hby d_prog_46_method_12_3 rfl (zicmpYes X3 hx hby d_prog_46_method_12_4 25 (by decide) (by decide) (by decide) (ziloadN X3 hx hby d_prog_46_method_12_25 rfl ?_)))))))
  show zEnds p e below s T3 (mkF m 26 #[rv b900, iv 0, iv 9, iv 9] [(.int 9)]) _ _ _
  exact zretI X3 hx hby d_prog_46_method_12_26 hret hlk (by decide) (by decide) ⟨rfl, e3, rfl⟩
set_option maxRecDepth 65536 in
set_option maxHeartbeats 40000000 in
theorem c39_firstCharacter (l : Launch) {Z : State} {a0 : Array Value} (hw : ∀ d ∈ tables_1, d.before a0 Z = true) (ws : List Jvm.Cond) {w_arr0 : Addr} {cl_arr0 : Cell} {n0 : Nat} {h0 : Heap} (C : Ctx Z w_arr0 cl_arr0) (O0 : Old Z n0 h0) (Z0 : n0 ≤ h0.size) (b900 : Addr) (x2 : Int32) (x3 : Int32) (x4 : Int32) (x5 : Int32) (x6 : Int32) (x7 : Int32) (x8 : Int32) (x9 : Int32) (x10 : Int32) (g_b900 : n0 ≤ b900) (A_b900 : zLst Z h0 b900 .byte [(.int 27), (.int x2), (.int x3), (.int 27), (.int x4), (.int x5), (.int 27), (.int x6), (.int x7), (.int x8), (.int x9), (.int x10), (.int 0), (.int 0), (.int 0), (.int 0), (.int 0), (.int 0), (.int 0), (.int 0)]) (k0 : ¬ (x8 = (27 : Int32))) : zCon l Z (⟨"com/example/kakehashi/kakehashi/message/Iso2022", "firstCharacter", "([BII)I"⟩ : MethodName) prog_46_method_12_code 4 (some .int) ws ({ frames := 0, cells := 0, slots := 0, locals := 0 } : Room) #[(.ref b900), (.int 0), (.int 10)] h0 (zSame (some (.int 9)) h0) := by
  obtain ⟨S_w_arr0, A_w_arr0, Al_w_arr0⟩ := C
  refine zenter (plainFor_of_name pn_0) (L0 := #[rv b900, iv 0, iv 10, .unset]) (fun m => by first | rfl | simp [entryFrame, mkF, argsToLocals, Value.category, maxLocals]) ?_
  intro p e s m below meth c T0 hx hZ hby hml hown0 hnm hret hlk X0 e0
  have hown : s.vm.findClass "com/example/kakehashi/kakehashi/message/Iso2022" = some m.cls := hown0
  have K0 := Keep.refl h0 []
  have N0 := Fr.nil n0
  show zEnds p e below s T0 (mkF m 0 #[rv b900, iv 0, iv 10, .unset] []) _ _ _
  refine ziloadN X0 hx hby d_prog_46_method_12_0 rfl (zistoreN X0 hx hby d_prog_46_method_12_1 (L' := #[rv b900, iv 0, iv 10, iv 0]) rfl (ziloadN X0 hx hby d_prog_46_method_12_2 rfl (ziloadN X0 hx hby d_prog_46_method_12_3 rfl (zicmpNo X0 hx hby d_prog_46_method_12_4 (by decide) (zaloadN X0 hx hby d_prog_46_method_12_7 rfl rfl (ziloadN X0 hx hby d_prog_46_method_12_8 rfl (zbaload X0 hx hby d_prog_46_method_12_9 hZ e0 A_b900 (by decide) (v := (.int 27)) rfl (zbipush X0 hx hby d_prog_46_method_12_10 (z := (27 : Int32)) rfl (zicmpNo X0 hx hby d_prog_46_method_12_12 (by decide) ?_)))))))))
  show zEnds p e below s T0 (mkF m 15 #[rv b900, iv 0, iv 10, iv 0] []) _ _ _
  refine ziloadN X0 hx hby d_prog_46_method_12_15 rfl (zgetstat X0 hx hby d_prog_46_method_12_16 hZ hown (host := "") (Or.inl (w10 hw)) Via.refl e0 (S_w_arr0.ext O0.2) fun T1 X1 e1 => (zalenC X1 hx hby d_prog_46_method_12_19 hZ e1 (A_w_arr0.ext O0.2) (3 : Int32) Al_w_arr0 (ziadd X1 hx hby d_prog_46_method_12_20 (3 : Int32) (by decide) (zistoreN X1 hx hby d_prog_46_method_12_21 (L' := #[rv b900, iv 0, iv 10, iv 3]) rfl (zgoto X1 hx hby d_prog_46_method_12_22 2 (by decide) (by decide) (ziloadN X1 hx hby d_prog_46_method_12_2 rfl (ziloadN X1 hx hby d_prog_46_method_12_3 rfl (zicmpNo X1 hx hby d_prog_46_method_12_4 (by decide) (zaloadN X1 hx hby d_prog_46_method_12_7 rfl rfl ?_)))))))))
  show zEnds p e below s T1 (mkF m 8 #[rv b900, iv 0, iv 10, iv 3] [(.ref b900)]) _ _ _
  refine ziloadN X1 hx hby d_prog_46_method_12_8 rfl (zbaload X1 hx hby d_prog_46_method_12_9 hZ e1 A_b900 (by decide) (v := (.int 27)) rfl (zbipush X1 hx hby d_prog_46_method_12_10 (z := (27 : Int32)) rfl (zicmpNo X1 hx hby d_prog_46_method_12_12 (by decide) (ziloadN X1 hx hby d_prog_46_method_12_15 rfl (zgetstat X1 hx hby d_prog_46_method_12_16 hZ hown (host := "") (Or.inl (w10 hw)) Via.refl e1 (S_w_arr0.ext O0.2) fun T2 X2 e2 => (zalenC X2 hx hby d_prog_46_method_12_19 hZ e2 (A_w_arr0.ext O0.2) (3 : Int32) Al_w_arr0 (ziadd X2 hx hby d_prog_46_method_12_20 (6 : Int32) (by decide) (zistoreN X2 hx hby d_prog_46_method_12_21 (L' := #[rv b900, iv 0, iv 10, iv 6]) rfl (zgoto X2 hx hby d_prog_46_method_12_22 2 (by decide) (by decide) ?_)))))))))
  show zEnds p e below s T2 (mkF m 2 #[rv b900, iv 0, iv 10, iv 6] []) _ _ _
  refine ziloadN X2 hx hby d_prog_46_method_12_2 rfl (ziloadN X2 hx hby d_prog_46_method_12_3 rfl (zicmpNo X2 hx hby d_prog_46_method_12_4 (by decide) (zaloadN X2 hx hby d_prog_46_method_12_7 rfl rfl (ziloadN X2 hx hby d_prog_46_method_12_8 rfl (zbaload X2 hx hby d_prog_46_method_12_9 hZ e2 A_b900 (by decide) (v := (.int 27)) rfl (zbipush X2 hx hby d_prog_46_method_12_10 (z := (27 : Int32)) rfl (zicmpNo X2 hx hby d_prog_46_method_12_12 (by decide) (ziloadN X2 hx hby d_prog_46_method_12_15 rfl (zgetstat X2 hx hby d_prog_46_method_12_16 hZ hown (host := "") (Or.inl (w10 hw)) Via.refl e2 (S_w_arr0.ext O0.2) fun T3 X3 e3 => ?_)))))))))
  show zEnds p e below s T3 (mkF m 19 #[rv b900, iv 0, iv 10, iv 6] [(.ref w_arr0), (.int 6)]) _ _ _
  refine zalenC X3 hx hby d_prog_46_method_12_19 hZ e3 (A_w_arr0.ext O0.2) (3 : Int32) Al_w_arr0 (ziadd X3 hx hby d_prog_46_method_12_20 (9 : Int32) (by decide) (zistoreN X3 hx hby d_prog_46_method_12_21 (L' := #[rv b900, iv 0, iv 10, iv 9]) rfl (zgoto X3 hx hby d_prog_46_method_12_22 2 (by decide) (by decide) (ziloadN X3 hx hby d_prog_46_method_12_2 rfl (ziloadN X3 hx hby d_prog_46_method_12_3 rfl (zicmpNo X3 hx hby d_prog_46_method_12_4 (by decide) (zaloadN X3 hx hby d_prog_46_method_12_7 rfl rfl (ziloadN X3 hx hby d_prog_46_method_12_8 rfl (zbaload X3 hx hby d_prog_46_method_12_9 hZ e3 A_b900 (by decide) (v := (.int x8)) rfl ?_)))))))))
  show zEnds p e below s T3 (mkF m 10 #[rv b900, iv 0, iv 10, iv 9] [(.int x8)]) _ _ _
  refine zbipush X3 hx hby d_prog_46_method_12_10 (z := (27 : Int32)) rfl (zicmpYes X3 hx hby d_prog_46_method_12_12 25 (feq k0).2 (by decide) (by decide) (ziloadN X3 hx hby d_prog_46_method_12_25 rfl ?_))
  show zEnds p e below s T3 (mkF m 26 #[rv b900, iv 0, iv 10, iv 9] [(.int 9)]) _ _ _
  exact zretI X3 hx hby d_prog_46_method_12_26 hret hlk (by decide) (by decide) ⟨rfl, e3, rfl⟩
set_option maxRecDepth 65536 in
set_option maxHeartbeats 40000000 in
theorem c41_firstCharacter (l : Launch) {Z : State} {a0 : Array Value} (hw : ∀ d ∈ tables_1, d.before a0 Z = true) (ws : List Jvm.Cond) {w_arr0 : Addr} {cl_arr0 : Cell} {n0 : Nat} {h0 : Heap} (C : Ctx Z w_arr0 cl_arr0) (O0 : Old Z n0 h0) (Z0 : n0 ≤ h0.size) (b900 : Addr) (x2 : Int32) (x3 : Int32) (x4 : Int32) (x5 : Int32) (x6 : Int32) (x7 : Int32) (x8 : Int32) (x9 : Int32) (x10 : Int32) (x11 : Int32) (g_b900 : n0 ≤ b900) (A_b900 : zLst Z h0 b900 .byte [(.int 27), (.int x2), (.int x3), (.int 27), (.int x4), (.int x5), (.int 27), (.int x6), (.int x7), (.int x8), (.int x9), (.int x10), (.int x11), (.int 0), (.int 0), (.int 0), (.int 0), (.int 0), (.int 0), (.int 0)]) (k0 : ¬ (x8 = (27 : Int32))) : zCon l Z (⟨"com/example/kakehashi/kakehashi/message/Iso2022", "firstCharacter", "([BII)I"⟩ : MethodName) prog_46_method_12_code 4 (some .int) ws ({ frames := 0, cells := 0, slots := 0, locals := 0 } : Room) #[(.ref b900), (.int 0), (.int 11)] h0 (zSame (some (.int 9)) h0) := by
  obtain ⟨S_w_arr0, A_w_arr0, Al_w_arr0⟩ := C
  refine zenter (plainFor_of_name pn_0) (L0 := #[rv b900, iv 0, iv 11, .unset]) (fun m => by first | rfl | simp [entryFrame, mkF, argsToLocals, Value.category, maxLocals]) ?_
  intro p e s m below meth c T0 hx hZ hby hml hown0 hnm hret hlk X0 e0
  have hown : s.vm.findClass "com/example/kakehashi/kakehashi/message/Iso2022" = some m.cls := hown0
  have K0 := Keep.refl h0 []
  have N0 := Fr.nil n0
  show zEnds p e below s T0 (mkF m 0 #[rv b900, iv 0, iv 11, .unset] []) _ _ _
  refine ziloadN X0 hx hby d_prog_46_method_12_0 rfl (zistoreN X0 hx hby d_prog_46_method_12_1 (L' := #[rv b900, iv 0, iv 11, iv 0]) rfl (ziloadN X0 hx hby d_prog_46_method_12_2 rfl (ziloadN X0 hx hby d_prog_46_method_12_3 rfl (zicmpNo X0 hx hby d_prog_46_method_12_4 (by decide) (zaloadN X0 hx hby d_prog_46_method_12_7 rfl rfl (ziloadN X0 hx hby d_prog_46_method_12_8 rfl (zbaload X0 hx hby d_prog_46_method_12_9 hZ e0 A_b900 (by decide) (v := (.int 27)) rfl (zbipush X0 hx hby d_prog_46_method_12_10 (z := (27 : Int32)) rfl (zicmpNo X0 hx hby d_prog_46_method_12_12 (by decide) ?_)))))))))
  show zEnds p e below s T0 (mkF m 15 #[rv b900, iv 0, iv 11, iv 0] []) _ _ _
  refine ziloadN X0 hx hby d_prog_46_method_12_15 rfl (zgetstat X0 hx hby d_prog_46_method_12_16 hZ hown (host := "") (Or.inl (w10 hw)) Via.refl e0 (S_w_arr0.ext O0.2) fun T1 X1 e1 => (zalenC X1 hx hby d_prog_46_method_12_19 hZ e1 (A_w_arr0.ext O0.2) (3 : Int32) Al_w_arr0 (ziadd X1 hx hby d_prog_46_method_12_20 (3 : Int32) (by decide) (zistoreN X1 hx hby d_prog_46_method_12_21 (L' := #[rv b900, iv 0, iv 11, iv 3]) rfl (zgoto X1 hx hby d_prog_46_method_12_22 2 (by decide) (by decide) (ziloadN X1 hx hby d_prog_46_method_12_2 rfl (ziloadN X1 hx hby d_prog_46_method_12_3 rfl (zicmpNo X1 hx hby d_prog_46_method_12_4 (by decide) (zaloadN X1 hx hby d_prog_46_method_12_7 rfl rfl ?_)))))))))
  show zEnds p e below s T1 (mkF m 8 #[rv b900, iv 0, iv 11, iv 3] [(.ref b900)]) _ _ _
  refine ziloadN X1 hx hby d_prog_46_method_12_8 rfl (zbaload X1 hx hby d_prog_46_method_12_9 hZ e1 A_b900 (by decide) (v := (.int 27)) rfl (zbipush X1 hx hby d_prog_46_method_12_10 (z := (27 : Int32)) rfl (zicmpNo X1 hx hby d_prog_46_method_12_12 (by decide) (ziloadN X1 hx hby d_prog_46_method_12_15 rfl (zgetstat X1 hx hby d_prog_46_method_12_16 hZ hown (host := "") (Or.inl (w10 hw)) Via.refl e1 (S_w_arr0.ext O0.2) fun T2 X2 e2 => (zalenC X2 hx hby d_prog_46_method_12_19 hZ e2 (A_w_arr0.ext O0.2) (3 : Int32) Al_w_arr0 (ziadd X2 hx hby d_prog_46_method_12_20 (6 : Int32) (by decide) (zistoreN X2 hx hby d_prog_46_method_12_21 (L' := #[rv b900, iv 0, iv 11, iv 6]) rfl (zgoto X2 hx hby d_prog_46_method_12_22 2 (by decide) (by decide) ?_)))))))))
  show zEnds p e below s T2 (mkF m 2 #[rv b900, iv 0, iv 11, iv 6] []) _ _ _
  refine ziloadN X2 hx hby d_prog_46_method_12_2 rfl (ziloadN X2 hx hby d_prog_46_method_12_3 rfl (zicmpNo X2 hx hby d_prog_46_method_12_4 (by decide) (zaloadN X2 hx hby d_prog_46_method_12_7 rfl rfl (ziloadN X2 hx hby d_prog_46_method_12_8 rfl (zbaload X2 hx hby d_prog_46_method_12_9 hZ e2 A_b900 (by decide) (v := (.int 27)) rfl (zbipush X2 hx hby d_prog_46_method_12_10 (z := (27 : Int32)) rfl (zicmpNo X2 hx hby d_prog_46_method_12_12 (by decide) (ziloadN X2 hx hby d_prog_46_method_12_15 rfl (zgetstat X2 hx hby d_prog_46_method_12_16 hZ hown (host := "") (Or.inl (w10 hw)) Via.refl e2 (S_w_arr0.ext O0.2) fun T3 X3 e3 => ?_)))))))))
  show zEnds p e below s T3 (mkF m 19 #[rv b900, iv 0, iv 11, iv 6] [(.ref w_arr0), (.int 6)]) _ _ _
  refine zalenC X3 hx hby d_prog_46_method_12_19 hZ e3 (A_w_arr0.ext O0.2) (3 : Int32) Al_w_arr0 (ziadd X3 hx hby d_prog_46_method_12_20 (9 : Int32) (by decide) (zistoreN X3 hx hby d_prog_46_method_12_21 (L' := #[rv b900, iv 0, iv 11, iv 9]) rfl (zgoto X3 hx hby d_prog_46_method_12_22 2 (by decide) (by decide) (ziloadN X3 hx hby d_prog_46_method_12_2 rfl (ziloadN X3 hx hby d_prog_46_method_12_3 rfl (zicmpNo X3 hx hby d_prog_46_method_12_4 (by decide) (zaloadN X3 hx hby d_prog_46_method_12_7 rfl rfl (ziloadN X3 hx hby d_prog_46_method_12_8 rfl (zbaload X3 hx hby d_prog_46_method_12_9 hZ e3 A_b900 (by decide) (v := (.int x8)) rfl ?_)))))))))
  show zEnds p e below s T3 (mkF m 10 #[rv b900, iv 0, iv 11, iv 9] [(.int x8)]) _ _ _
  refine zbipush X3 hx hby d_prog_46_method_12_10 (z := (27 : Int32)) rfl (zicmpYes X3 hx hby d_prog_46_method_12_12 25 (feq k0).2 (by decide) (by decide) (ziloadN X3 hx hby d_prog_46_method_12_25 rfl ?_))
  show zEnds p e below s T3 (mkF m 26 #[rv b900, iv 0, iv 11, iv 9] [(.int 9)]) _ _ _
  exact zretI X3 hx hby d_prog_46_method_12_26 hret hlk (by decide) (by decide) ⟨rfl, e3, rfl⟩
set_option maxRecDepth 65536 in
set_option maxHeartbeats 40000000 in
theorem c43_esc (l : Launch) {Z : State} {a0 : Array Value} (hw : ∀ d ∈ tables_1, d.before a0 Z = true) (ws : List Jvm.Cond) {w_arr0 : Addr} {cl_arr0 : Cell} {n0 : Nat} {h0 : Heap} (C : Ctx Z w_arr0 cl_arr0) (O0 : Old Z n0 h0) (Z0 : n0 ≤ h0.size) (x2 : Int32) (b900 : Addr) (x3 : Int32) (x4 : Int32) (x5 : Int32) (x6 : Int32) (x7 : Int32) (x8 : Int32) (x9 : Int32) (x10 : Int32) (x11 : Int32) (x12 : Int32) (x13 : Int32) (x14 : Int32) (x15 : Int32) (x16 : Int32) (x17 : Int32) (x18 : Int32) (x19 : Int32) (x20 : Int32) (x21 : Int32) (x22 : Int32) (g_b900 : n0 ≤ b900) (A_b900 : zLst Z h0 b900 .byte [(.int x3), (.int x4), (.int x5), (.int x6), (.int x7), (.int x8), (.int x9), (.int x10), (.int x11), (.int x12), (.int x13), (.int x14), (.int x15), (.int x16), (.int x17), (.int x18), (.int x19), (.int x20), (.int x21), (.int x22)]) (k0 : ¬ (x12 = (27 : Int32))) : zCon l Z (⟨"com/example/kakehashi/kakehashi/message/Iso2022FirstCharacterPinLaw", "esc", "([BII)I"⟩ : MethodName) method_2_code 4 (some .int) ws ({ frames := 0, cells := 0, slots := 0, locals := 0 } : Room) #[(.ref b900), (.int 10), (.int x2)] h0 (fun v h L => v = some (.int 13) ∧ Fr n0 L ∧ Keep h0 h [b900] ∧ zLst Z h b900 .byte [(.int x3), (.int x4), (.int x5), (.int x6), (.int x7), (.int x8), (.int x9), (.int x10), (.int x11), (.int x12), (.int 27), (.int ((e1v x2).toInt8.toInt32)), (.int ((e2v x2).toInt8.toInt32)), (.int x16), (.int x17), (.int x18), (.int x19), (.int x20), (.int x21), (.int x22)]) := by
  obtain ⟨S_w_arr0, A_w_arr0, Al_w_arr0⟩ := C
  refine zenter (plainFor_of_name pn_1) (L0 := #[rv b900, iv 10, iv x2, .unset]) (fun m => by first | rfl | simp [entryFrame, mkF, argsToLocals, Value.category, maxLocals]) ?_
  intro p e s m below meth c T0 hx hZ hby hml hown0 hnm hret hlk X0 e0
  have hown : s.vm.findClass "com/example/kakehashi/kakehashi/message/Iso2022FirstCharacterPinLaw" = some m.cls := hown0
  have K0 := Keep.refl h0 [b900]
  have N0 := Fr.nil n0
  show zEnds p e below s T0 (mkF m 0 #[rv b900, iv 10, iv x2, .unset] []) _ _ _
  refine ziloadN X0 hx hby d_method_2_0 rfl (ziconst X0 hx hby d_method_2_1 (z := (3 : Int32)) rfl (zirem X0 hx hby d_method_2_2 (x2 % (3 : Int32)) (by decide) rfl (zistoreN X0 hx hby d_method_2_3 (L' := #[rv b900, iv 10, iv x2, iv (x2 % (3 : Int32))]) rfl (zaloadN X0 hx hby d_method_2_4 rfl rfl (ziloadN X0 hx hby d_method_2_5 rfl (zbipush X0 hx hby d_method_2_6 (z := (27 : Int32)) rfl (zbastore X0 hx hby d_method_2_8 hZ e0 A_b900 (by decide) (by show Int32.toNatClampNeg 10 < 20; decide) (27 : Int32) (by decide) fun T1 h1 X1 e1 W1 A1_b900 => ?_)))))))
  change zLst Z h1 b900 .byte [(.int x3), (.int x4), (.int x5), (.int x6), (.int x7), (.int x8), (.int x9), (.int x10), (.int x11), (.int x12), (.int 27), (.int x14), (.int x15), (.int x16), (.int x17), (.int x18), (.int x19), (.int x20), (.int x21), (.int x22)] at A1_b900
  have O1 := O0.wr W1 g_b900
  have K1 := Keep.wr K0 W1 (Or.inl (List.mem_of_getElem? (i := 0) rfl))
  have N1 := Fr.snoc X1 N0 g_b900
  refine zaloadN X1 hx hby d_method_2_9 rfl rfl (ziloadN X1 hx hby d_method_2_10 rfl (ziconst X1 hx hby d_method_2_11 (z := (1 : Int32)) rfl (ziadd X1 hx hby d_method_2_12 (11 : Int32) (by decide) (ziloadN X1 hx hby d_method_2_13 rfl ?_))))
  show zEnds p e below s T1 (mkF m 14 #[rv b900, iv 10, iv x2, iv (x2 % (3 : Int32))] [(.int (x2 % (3 : Int32))), (.int 11), (.ref b900)]) _ _ _
  refine zjoin (T' := T1) (F' := (mkF m 24 #[rv b900, iv 10, iv x2, iv (x2 % (3 : Int32))] [(.int (e1v x2)), (.int 11), (.ref b900)])) (fun K => ?_) ?_
  · show zEnds p e below s T1 (mkF m 14 #[rv b900, iv 10, iv x2, iv (x2 % (3 : Int32))] [(.int (x2 % (3 : Int32))), (.int 11), (.ref b900)]) _ _ _
    by_cases hc2 : (x2 % (3 : Int32)) = (0 : Int32)
    · refine zifNo X1 hx hby d_method_2_14 ((if0 _ _).trans (teq hc2).2) (zbipush X1 hx hby d_method_2_17 (z := (36 : Int32)) rfl (zgoto X1 hx hby d_method_2_19 24 (by decide) (by decide) ?_))
      show zEnds p e below s T1 (mkF m 24 #[rv b900, iv 10, iv x2, iv (x2 % (3 : Int32))] [(.int 36), (.int 11), (.ref b900)]) _ _ _
      rw [show (36 : Int32) = (e1v x2) from by simp +decide [e1v, k0, hc2]]; exact K
    · refine zifYes X1 hx hby d_method_2_14 22 ((if0 _ _).trans (feq hc2).2) (by decide) (by decide) (zbipush X1 hx hby d_method_2_22 (z := (40 : Int32)) rfl ?_)
      show zEnds p e below s T1 (mkF m 24 #[rv b900, iv 10, iv x2, iv (x2 % (3 : Int32))] [(.int 40), (.int 11), (.ref b900)]) _ _ _
      rw [show (40 : Int32) = (e1v x2) from by simp +decide [e1v, k0, hc2]]; exact K
  refine zi2b X1 hx hby d_method_2_24 ((e1v x2).toInt8.toInt32) rfl (zbastore X1 hx hby d_method_2_25 hZ e1 A1_b900 (by decide) (by show Int32.toNatClampNeg 11 < 20; decide) ((e1v x2).toInt8.toInt32) (own_nar8 _) fun T3 h3 X3 e3 W3 A3_b900 => ?_)
  change zLst Z h3 b900 .byte [(.int x3), (.int x4), (.int x5), (.int x6), (.int x7), (.int x8), (.int x9), (.int x10), (.int x11), (.int x12), (.int 27), (.int ((e1v x2).toInt8.toInt32)), (.int x15), (.int x16), (.int x17), (.int x18), (.int x19), (.int x20), (.int x21), (.int x22)] at A3_b900
  have O3 := O1.wr W3 g_b900
  have K3 := Keep.wr K1 W3 (Or.inl (List.mem_of_getElem? (i := 0) rfl))
  have N3 := Fr.snoc X3 N1 g_b900
  refine zaloadN X3 hx hby d_method_2_26 rfl rfl (ziloadN X3 hx hby d_method_2_27 rfl (ziconst X3 hx hby d_method_2_28 (z := (2 : Int32)) rfl (ziadd X3 hx hby d_method_2_29 (12 : Int32) (by decide) (ziloadN X3 hx hby d_method_2_30 rfl (ziconst X3 hx hby d_method_2_31 (z := (2 : Int32)) rfl ?_)))))
  show zEnds p e below s T3 (mkF m 32 #[rv b900, iv 10, iv x2, iv (x2 % (3 : Int32))] [(.int 2), (.int (x2 % (3 : Int32))), (.int 12), (.ref b900)]) _ _ _
  refine zjoin (T' := T3) (F' := (mkF m 42 #[rv b900, iv 10, iv x2, iv (x2 % (3 : Int32))] [(.int (e2v x2)), (.int 12), (.ref b900)])) (fun K => ?_) ?_
  · show zEnds p e below s T3 (mkF m 32 #[rv b900, iv 10, iv x2, iv (x2 % (3 : Int32))] [(.int 2), (.int (x2 % (3 : Int32))), (.int 12), (.ref b900)]) _ _ _
    by_cases hc4 : (x2 % (3 : Int32)) = (2 : Int32)
    · refine zicmpNo X3 hx hby d_method_2_32 (teq hc4).2 (zbipush X3 hx hby d_method_2_35 (z := (74 : Int32)) rfl (zgoto X3 hx hby d_method_2_37 42 (by decide) (by decide) ?_))
      show zEnds p e below s T3 (mkF m 42 #[rv b900, iv 10, iv x2, iv (x2 % (3 : Int32))] [(.int 74), (.int 12), (.ref b900)]) _ _ _
      rw [show (74 : Int32) = (e2v x2) from by simp +decide [e2v, k0, hc4]]; exact K
    · refine zicmpYes X3 hx hby d_method_2_32 40 (feq hc4).2 (by decide) (by decide) (zbipush X3 hx hby d_method_2_40 (z := (66 : Int32)) rfl ?_)
      show zEnds p e below s T3 (mkF m 42 #[rv b900, iv 10, iv x2, iv (x2 % (3 : Int32))] [(.int 66), (.int 12), (.ref b900)]) _ _ _
      rw [show (66 : Int32) = (e2v x2) from by simp +decide [e2v, k0, hc4]]; exact K
  refine zi2b X3 hx hby d_method_2_42 ((e2v x2).toInt8.toInt32) rfl (zbastore X3 hx hby d_method_2_43 hZ e3 A3_b900 (by decide) (by show Int32.toNatClampNeg 12 < 20; decide) ((e2v x2).toInt8.toInt32) (own_nar8 _) fun T5 h5 X5 e5 W5 A5_b900 => ?_)
  change zLst Z h5 b900 .byte [(.int x3), (.int x4), (.int x5), (.int x6), (.int x7), (.int x8), (.int x9), (.int x10), (.int x11), (.int x12), (.int 27), (.int ((e1v x2).toInt8.toInt32)), (.int ((e2v x2).toInt8.toInt32)), (.int x16), (.int x17), (.int x18), (.int x19), (.int x20), (.int x21), (.int x22)] at A5_b900
  have O5 := O3.wr W5 g_b900
  have K5 := Keep.wr K3 W5 (Or.inl (List.mem_of_getElem? (i := 0) rfl))
  have N5 := Fr.snoc X5 N3 g_b900
  refine ziloadN X5 hx hby d_method_2_44 rfl (ziconst X5 hx hby d_method_2_45 (z := (3 : Int32)) rfl (ziadd X5 hx hby d_method_2_46 (13 : Int32) (by decide) ?_))
  show zEnds p e below s T5 (mkF m 47 #[rv b900, iv 10, iv x2, iv (x2 % (3 : Int32))] [(.int 13)]) _ _ _
  exact zretI X5 hx hby d_method_2_47 hret hlk (by decide) (by decide) (by rw [e5]; exact ⟨rfl, N5, K5, A5_b900⟩)
set_option maxRecDepth 65536 in
set_option maxHeartbeats 40000000 in
theorem c45_firstCharacter (l : Launch) {Z : State} {a0 : Array Value} (hw : ∀ d ∈ tables_1, d.before a0 Z = true) (ws : List Jvm.Cond) {w_arr0 : Addr} {cl_arr0 : Cell} {n0 : Nat} {h0 : Heap} (C : Ctx Z w_arr0 cl_arr0) (O0 : Old Z n0 h0) (Z0 : n0 ≤ h0.size) (b900 : Addr) (x2 : Int32) (x3 : Int32) (x4 : Int32) (x5 : Int32) (x6 : Int32) (x7 : Int32) (x8 : Int32) (x9 : Int32) (x10 : Int32) (x11 : Int32) (x12 : Int32) (g_b900 : n0 ≤ b900) (A_b900 : zLst Z h0 b900 .byte [(.int 27), (.int x2), (.int x3), (.int 27), (.int x4), (.int x5), (.int 27), (.int x6), (.int x7), (.int x8), (.int 27), (.int x9), (.int x10), (.int x11), (.int x12), (.int 0), (.int 0), (.int 0), (.int 0), (.int 0)]) (k0 : ¬ (x8 = (27 : Int32))) : zCon l Z (⟨"com/example/kakehashi/kakehashi/message/Iso2022", "firstCharacter", "([BII)I"⟩ : MethodName) prog_46_method_12_code 4 (some .int) ws ({ frames := 0, cells := 0, slots := 0, locals := 0 } : Room) #[(.ref b900), (.int 0), (.int 13)] h0 (zSame (some (.int 9)) h0) := by
  obtain ⟨S_w_arr0, A_w_arr0, Al_w_arr0⟩ := C
  refine zenter (plainFor_of_name pn_0) (L0 := #[rv b900, iv 0, iv 13, .unset]) (fun m => by first | rfl | simp [entryFrame, mkF, argsToLocals, Value.category, maxLocals]) ?_
  intro p e s m below meth c T0 hx hZ hby hml hown0 hnm hret hlk X0 e0
  have hown : s.vm.findClass "com/example/kakehashi/kakehashi/message/Iso2022" = some m.cls := hown0
  have K0 := Keep.refl h0 []
  have N0 := Fr.nil n0
  show zEnds p e below s T0 (mkF m 0 #[rv b900, iv 0, iv 13, .unset] []) _ _ _
  refine ziloadN X0 hx hby d_prog_46_method_12_0 rfl (zistoreN X0 hx hby d_prog_46_method_12_1 (L' := #[rv b900, iv 0, iv 13, iv 0]) rfl (ziloadN X0 hx hby d_prog_46_method_12_2 rfl (ziloadN X0 hx hby d_prog_46_method_12_3 rfl (zicmpNo X0 hx hby d_prog_46_method_12_4 (by decide) (zaloadN X0 hx hby d_prog_46_method_12_7 rfl rfl (ziloadN X0 hx hby d_prog_46_method_12_8 rfl (zbaload X0 hx hby d_prog_46_method_12_9 hZ e0 A_b900 (by decide) (v := (.int 27)) rfl (zbipush X0 hx hby d_prog_46_method_12_10 (z := (27 : Int32)) rfl (zicmpNo X0 hx hby d_prog_46_method_12_12 (by decide) ?_)))))))))
  show zEnds p e below s T0 (mkF m 15 #[rv b900, iv 0, iv 13, iv 0] []) _ _ _
  refine ziloadN X0 hx hby d_prog_46_method_12_15 rfl (zgetstat X0 hx hby d_prog_46_method_12_16 hZ hown (host := "") (Or.inl (w10 hw)) Via.refl e0 (S_w_arr0.ext O0.2) fun T1 X1 e1 => (zalenC X1 hx hby d_prog_46_method_12_19 hZ e1 (A_w_arr0.ext O0.2) (3 : Int32) Al_w_arr0 (ziadd X1 hx hby d_prog_46_method_12_20 (3 : Int32) (by decide) (zistoreN X1 hx hby d_prog_46_method_12_21 (L' := #[rv b900, iv 0, iv 13, iv 3]) rfl (zgoto X1 hx hby d_prog_46_method_12_22 2 (by decide) (by decide) (ziloadN X1 hx hby d_prog_46_method_12_2 rfl (ziloadN X1 hx hby d_prog_46_method_12_3 rfl (zicmpNo X1 hx hby d_prog_46_method_12_4 (by decide) (zaloadN X1 hx hby d_prog_46_method_12_7 rfl rfl ?_)))))))))
  show zEnds p e below s T1 (mkF m 8 #[rv b900, iv 0, iv 13, iv 3] [(.ref b900)]) _ _ _
  refine ziloadN X1 hx hby d_prog_46_method_12_8 rfl (zbaload X1 hx hby d_prog_46_method_12_9 hZ e1 A_b900 (by decide) (v := (.int 27)) rfl (zbipush X1 hx hby d_prog_46_method_12_10 (z := (27 : Int32)) rfl (zicmpNo X1 hx hby d_prog_46_method_12_12 (by decide) (ziloadN X1 hx hby d_prog_46_method_12_15 rfl (zgetstat X1 hx hby d_prog_46_method_12_16 hZ hown (host := "") (Or.inl (w10 hw)) Via.refl e1 (S_w_arr0.ext O0.2) fun T2 X2 e2 => (zalenC X2 hx hby d_prog_46_method_12_19 hZ e2 (A_w_arr0.ext O0.2) (3 : Int32) Al_w_arr0 (ziadd X2 hx hby d_prog_46_method_12_20 (6 : Int32) (by decide) (zistoreN X2 hx hby d_prog_46_method_12_21 (L' := #[rv b900, iv 0, iv 13, iv 6]) rfl (zgoto X2 hx hby d_prog_46_method_12_22 2 (by decide) (by decide) ?_)))))))))
  show zEnds p e below s T2 (mkF m 2 #[rv b900, iv 0, iv 13, iv 6] []) _ _ _
  refine ziloadN X2 hx hby d_prog_46_method_12_2 rfl (ziloadN X2 hx hby d_prog_46_method_12_3 rfl (zicmpNo X2 hx hby d_prog_46_method_12_4 (by decide) (zaloadN X2 hx hby d_prog_46_method_12_7 rfl rfl (ziloadN X2 hx hby d_prog_46_method_12_8 rfl (zbaload X2 hx hby d_prog_46_method_12_9 hZ e2 A_b900 (by decide) (v := (.int 27)) rfl (zbipush X2 hx hby d_prog_46_method_12_10 (z := (27 : Int32)) rfl (zicmpNo X2 hx hby d_prog_46_method_12_12 (by decide) (ziloadN X2 hx hby d_prog_46_method_12_15 rfl (zgetstat X2 hx hby d_prog_46_method_12_16 hZ hown (host := "") (Or.inl (w10 hw)) Via.refl e2 (S_w_arr0.ext O0.2) fun T3 X3 e3 => ?_)))))))))
  show zEnds p e below s T3 (mkF m 19 #[rv b900, iv 0, iv 13, iv 6] [(.ref w_arr0), (.int 6)]) _ _ _
  refine zalenC X3 hx hby d_prog_46_method_12_19 hZ e3 (A_w_arr0.ext O0.2) (3 : Int32) Al_w_arr0 (ziadd X3 hx hby d_prog_46_method_12_20 (9 : Int32) (by decide) (zistoreN X3 hx hby d_prog_46_method_12_21 (L' := #[rv b900, iv 0, iv 13, iv 9]) rfl (zgoto X3 hx hby d_prog_46_method_12_22 2 (by decide) (by decide) (ziloadN X3 hx hby d_prog_46_method_12_2 rfl (ziloadN X3 hx hby d_prog_46_method_12_3 rfl (zicmpNo X3 hx hby d_prog_46_method_12_4 (by decide) (zaloadN X3 hx hby d_prog_46_method_12_7 rfl rfl (ziloadN X3 hx hby d_prog_46_method_12_8 rfl (zbaload X3 hx hby d_prog_46_method_12_9 hZ e3 A_b900 (by decide) (v := (.int x8)) rfl ?_)))))))))
  show zEnds p e below s T3 (mkF m 10 #[rv b900, iv 0, iv 13, iv 9] [(.int x8)]) _ _ _
  refine zbipush X3 hx hby d_prog_46_method_12_10 (z := (27 : Int32)) rfl (zicmpYes X3 hx hby d_prog_46_method_12_12 25 (feq k0).2 (by decide) (by decide) (ziloadN X3 hx hby d_prog_46_method_12_25 rfl ?_))
  show zEnds p e below s T3 (mkF m 26 #[rv b900, iv 0, iv 13, iv 9] [(.int 9)]) _ _ _
  exact zretI X3 hx hby d_prog_46_method_12_26 hret hlk (by decide) (by decide) ⟨rfl, e3, rfl⟩
set_option maxRecDepth 65536 in
set_option maxHeartbeats 40000000 in
theorem c47_firstCharacter (l : Launch) {Z : State} {a0 : Array Value} (hw : ∀ d ∈ tables_1, d.before a0 Z = true) (ws : List Jvm.Cond) {w_arr0 : Addr} {cl_arr0 : Cell} {n0 : Nat} {h0 : Heap} (C : Ctx Z w_arr0 cl_arr0) (O0 : Old Z n0 h0) (Z0 : n0 ≤ h0.size) (b900 : Addr) (x2 : Int32) (x3 : Int32) (x4 : Int32) (g_b900 : n0 ≤ b900) (A_b900 : zLst Z h0 b900 .byte [(.int x2), (.int x3), (.int x4), (.int 0), (.int 0), (.int 0), (.int 0), (.int 0), (.int 0), (.int 0), (.int 0), (.int 0), (.int 0), (.int 0), (.int 0), (.int 0), (.int 0), (.int 0), (.int 0), (.int 0)]) : zCon l Z (⟨"com/example/kakehashi/kakehashi/message/Iso2022", "firstCharacter", "([BII)I"⟩ : MethodName) prog_46_method_12_code 4 (some .int) ws ({ frames := 0, cells := 0, slots := 0, locals := 0 } : Room) #[(.ref b900), (.int 1), (.int 1)] h0 (zSame (some (.int 1)) h0) := by
  obtain ⟨S_w_arr0, A_w_arr0, Al_w_arr0⟩ := C
  refine zenter (plainFor_of_name pn_0) (L0 := #[rv b900, iv 1, iv 1, .unset]) (fun m => by first | rfl | simp [entryFrame, mkF, argsToLocals, Value.category, maxLocals]) ?_
  intro p e s m below meth c T0 hx hZ hby hml hown0 hnm hret hlk X0 e0
  have hown : s.vm.findClass "com/example/kakehashi/kakehashi/message/Iso2022" = some m.cls := hown0
  have K0 := Keep.refl h0 []
  have N0 := Fr.nil n0
  show zEnds p e below s T0 (mkF m 0 #[rv b900, iv 1, iv 1, .unset] []) _ _ _
  refine ziloadN X0 hx hby d_prog_46_method_12_0 rfl (zistoreN X0 hx hby d_prog_46_method_12_1 (L' := #[rv b900, iv 1, iv 1, iv 1]) rfl (ziloadN X0 hx hby d_prog_46_method_12_2 rfl (ziloadN X0 hx hby d_prog_46_method_12_3 rfl (zicmpYes X0 hx hby d_prog_46_method_12_4 25 (by decide) (by decide) (by decide) (ziloadN X0 hx hby d_prog_46_method_12_25 rfl ?_)))))
  show zEnds p e below s T0 (mkF m 26 #[rv b900, iv 1, iv 1, iv 1] [(.int 1)]) _ _ _
  exact zretI X0 hx hby d_prog_46_method_12_26 hret hlk (by decide) (by decide) ⟨rfl, e0, rfl⟩
set_option maxRecDepth 65536 in
set_option maxHeartbeats 40000000 in
theorem c49_firstCharacter (l : Launch) {Z : State} {a0 : Array Value} (hw : ∀ d ∈ tables_1, d.before a0 Z = true) (ws : List Jvm.Cond) {w_arr0 : Addr} {cl_arr0 : Cell} {n0 : Nat} {h0 : Heap} (C : Ctx Z w_arr0 cl_arr0) (O0 : Old Z n0 h0) (Z0 : n0 ≤ h0.size) (b900 : Addr) (x2 : Int32) (x3 : Int32) (x4 : Int32) (x5 : Int32) (g_b900 : n0 ≤ b900) (A_b900 : zLst Z h0 b900 .byte [(.int x2), (.int x3), (.int x4), (.int x5), (.int 0), (.int 0), (.int 0), (.int 0), (.int 0), (.int 0), (.int 0), (.int 0), (.int 0), (.int 0), (.int 0), (.int 0), (.int 0), (.int 0), (.int 0), (.int 0)]) (k0 : ¬ (x3 = (27 : Int32))) : zCon l Z (⟨"com/example/kakehashi/kakehashi/message/Iso2022", "firstCharacter", "([BII)I"⟩ : MethodName) prog_46_method_12_code 4 (some .int) ws ({ frames := 0, cells := 0, slots := 0, locals := 0 } : Room) #[(.ref b900), (.int 1), (.int 2)] h0 (zSame (some (.int 1)) h0) := by
  obtain ⟨S_w_arr0, A_w_arr0, Al_w_arr0⟩ := C
  refine zenter (plainFor_of_name pn_0) (L0 := #[rv b900, iv 1, iv 2, .unset]) (fun m => by first | rfl | simp [entryFrame, mkF, argsToLocals, Value.category, maxLocals]) ?_
  intro p e s m below meth c T0 hx hZ hby hml hown0 hnm hret hlk X0 e0
  have hown : s.vm.findClass "com/example/kakehashi/kakehashi/message/Iso2022" = some m.cls := hown0
  have K0 := Keep.refl h0 []
  have N0 := Fr.nil n0
  show zEnds p e below s T0 (mkF m 0 #[rv b900, iv 1, iv 2, .unset] []) _ _ _
  refine ziloadN X0 hx hby d_prog_46_method_12_0 rfl (zistoreN X0 hx hby d_prog_46_method_12_1 (L' := #[rv b900, iv 1, iv 2, iv 1]) rfl (ziloadN X0 hx hby d_prog_46_method_12_2 rfl (ziloadN X0 hx hby d_prog_46_method_12_3 rfl (zicmpNo X0 hx hby d_prog_46_method_12_4 (by decide) (zaloadN X0 hx hby d_prog_46_method_12_7 rfl rfl (ziloadN X0 hx hby d_prog_46_method_12_8 rfl (zbaload X0 hx hby d_prog_46_method_12_9 hZ e0 A_b900 (by decide) (v := (.int x3)) rfl (zbipush X0 hx hby d_prog_46_method_12_10 (z := (27 : Int32)) rfl (zicmpYes X0 hx hby d_prog_46_method_12_12 25 (feq k0).2 (by decide) (by decide) ?_)))))))))
  show zEnds p e below s T0 (mkF m 25 #[rv b900, iv 1, iv 2, iv 1] []) _ _ _
  refine ziloadN X0 hx hby d_prog_46_method_12_25 rfl ?_
  show zEnds p e below s T0 (mkF m 26 #[rv b900, iv 1, iv 2, iv 1] [(.int 1)]) _ _ _
  exact zretI X0 hx hby d_prog_46_method_12_26 hret hlk (by decide) (by decide) ⟨rfl, e0, rfl⟩
set_option maxRecDepth 65536 in
set_option maxHeartbeats 40000000 in
theorem c51_firstCharacter (l : Launch) {Z : State} {a0 : Array Value} (hw : ∀ d ∈ tables_1, d.before a0 Z = true) (ws : List Jvm.Cond) {w_arr0 : Addr} {cl_arr0 : Cell} {n0 : Nat} {h0 : Heap} (C : Ctx Z w_arr0 cl_arr0) (O0 : Old Z n0 h0) (Z0 : n0 ≤ h0.size) (b900 : Addr) (x2 : Int32) (x3 : Int32) (x4 : Int32) (x5 : Int32) (x6 : Int32) (g_b900 : n0 ≤ b900) (A_b900 : zLst Z h0 b900 .byte [(.int x2), (.int x3), (.int x4), (.int x5), (.int x6), (.int 0), (.int 0), (.int 0), (.int 0), (.int 0), (.int 0), (.int 0), (.int 0), (.int 0), (.int 0), (.int 0), (.int 0), (.int 0), (.int 0), (.int 0)]) (k0 : ¬ (x3 = (27 : Int32))) : zCon l Z (⟨"com/example/kakehashi/kakehashi/message/Iso2022", "firstCharacter", "([BII)I"⟩ : MethodName) prog_46_method_12_code 4 (some .int) ws ({ frames := 0, cells := 0, slots := 0, locals := 0 } : Room) #[(.ref b900), (.int 1), (.int 3)] h0 (zSame (some (.int 1)) h0) := by
  obtain ⟨S_w_arr0, A_w_arr0, Al_w_arr0⟩ := C
  refine zenter (plainFor_of_name pn_0) (L0 := #[rv b900, iv 1, iv 3, .unset]) (fun m => by first | rfl | simp [entryFrame, mkF, argsToLocals, Value.category, maxLocals]) ?_
  intro p e s m below meth c T0 hx hZ hby hml hown0 hnm hret hlk X0 e0
  have hown : s.vm.findClass "com/example/kakehashi/kakehashi/message/Iso2022" = some m.cls := hown0
  have K0 := Keep.refl h0 []
  have N0 := Fr.nil n0
  show zEnds p e below s T0 (mkF m 0 #[rv b900, iv 1, iv 3, .unset] []) _ _ _
  refine ziloadN X0 hx hby d_prog_46_method_12_0 rfl (zistoreN X0 hx hby d_prog_46_method_12_1 (L' := #[rv b900, iv 1, iv 3, iv 1]) rfl (ziloadN X0 hx hby d_prog_46_method_12_2 rfl (ziloadN X0 hx hby d_prog_46_method_12_3 rfl (zicmpNo X0 hx hby d_prog_46_method_12_4 (by decide) (zaloadN X0 hx hby d_prog_46_method_12_7 rfl rfl (ziloadN X0 hx hby d_prog_46_method_12_8 rfl (zbaload X0 hx hby d_prog_46_method_12_9 hZ e0 A_b900 (by decide) (v := (.int x3)) rfl (zbipush X0 hx hby d_prog_46_method_12_10 (z := (27 : Int32)) rfl (zicmpYes X0 hx hby d_prog_46_method_12_12 25 (feq k0).2 (by decide) (by decide) ?_)))))))))
  show zEnds p e below s T0 (mkF m 25 #[rv b900, iv 1, iv 3, iv 1] []) _ _ _
  refine ziloadN X0 hx hby d_prog_46_method_12_25 rfl ?_
  show zEnds p e below s T0 (mkF m 26 #[rv b900, iv 1, iv 3, iv 1] [(.int 1)]) _ _ _
  exact zretI X0 hx hby d_prog_46_method_12_26 hret hlk (by decide) (by decide) ⟨rfl, e0, rfl⟩
set_option maxRecDepth 65536 in
set_option maxHeartbeats 40000000 in
theorem c53_esc (l : Launch) {Z : State} {a0 : Array Value} (hw : ∀ d ∈ tables_1, d.before a0 Z = true) (ws : List Jvm.Cond) {w_arr0 : Addr} {cl_arr0 : Cell} {n0 : Nat} {h0 : Heap} (C : Ctx Z w_arr0 cl_arr0) (O0 : Old Z n0 h0) (Z0 : n0 ≤ h0.size) (x2 : Int32) (b900 : Addr) (x3 : Int32) (x4 : Int32) (x5 : Int32) (x6 : Int32) (x7 : Int32) (x8 : Int32) (x9 : Int32) (x10 : Int32) (x11 : Int32) (x12 : Int32) (x13 : Int32) (x14 : Int32) (x15 : Int32) (x16 : Int32) (x17 : Int32) (x18 : Int32) (x19 : Int32) (x20 : Int32) (x21 : Int32) (x22 : Int32) (g_b900 : n0 ≤ b900) (A_b900 : zLst Z h0 b900 .byte [(.int x3), (.int x4), (.int x5), (.int x6), (.int x7), (.int x8), (.int x9), (.int x10), (.int x11), (.int x12), (.int x13), (.int x14), (.int x15), (.int x16), (.int x17), (.int x18), (.int x19), (.int x20), (.int x21), (.int x22)]) (k0 : ¬ (x4 = (27 : Int32))) : zCon l Z (⟨"com/example/kakehashi/kakehashi/message/Iso2022FirstCharacterPinLaw", "esc", "([BII)I"⟩ : MethodName) method_2_code 4 (some .int) ws ({ frames := 0, cells := 0, slots := 0, locals := 0 } : Room) #[(.ref b900), (.int 2), (.int x2)] h0 (fun v h L => v = some (.int 5) ∧ Fr n0 L ∧ Keep h0 h [b900] ∧ zLst Z h b900 .byte [(.int x3), (.int x4), (.int 27), (.int ((e1v x2).toInt8.toInt32)), (.int ((e2v x2).toInt8.toInt32)), (.int x8), (.int x9), (.int x10), (.int x11), (.int x12), (.int x13), (.int x14), (.int x15), (.int x16), (.int x17), (.int x18), (.int x19), (.int x20), (.int x21), (.int x22)]) := by
  obtain ⟨S_w_arr0, A_w_arr0, Al_w_arr0⟩ := C
  refine zenter (plainFor_of_name pn_1) (L0 := #[rv b900, iv 2, iv x2, .unset]) (fun m => by first | rfl | simp [entryFrame, mkF, argsToLocals, Value.category, maxLocals]) ?_
  intro p e s m below meth c T0 hx hZ hby hml hown0 hnm hret hlk X0 e0
  have hown : s.vm.findClass "com/example/kakehashi/kakehashi/message/Iso2022FirstCharacterPinLaw" = some m.cls := hown0
  have K0 := Keep.refl h0 [b900]
  have N0 := Fr.nil n0
  show zEnds p e below s T0 (mkF m 0 #[rv b900, iv 2, iv x2, .unset] []) _ _ _
  refine ziloadN X0 hx hby d_method_2_0 rfl (ziconst X0 hx hby d_method_2_1 (z := (3 : Int32)) rfl (zirem X0 hx hby d_method_2_2 (x2 % (3 : Int32)) (by decide) rfl (zistoreN X0 hx hby d_method_2_3 (L' := #[rv b900, iv 2, iv x2, iv (x2 % (3 : Int32))]) rfl (zaloadN X0 hx hby d_method_2_4 rfl rfl (ziloadN X0 hx hby d_method_2_5 rfl (zbipush X0 hx hby d_method_2_6 (z := (27 : Int32)) rfl (zbastore X0 hx hby d_method_2_8 hZ e0 A_b900 (by decide) (by show Int32.toNatClampNeg 2 < 20; decide) (27 : Int32) (by decide) fun T1 h1 X1 e1 W1 A1_b900 => ?_)))))))
  change zLst Z h1 b900 .byte [(.int x3), (.int x4), (.int 27), (.int x6), (.int x7), (.int x8), (.int x9), (.int x10), (.int x11), (.int x12), (.int x13), (.int x14), (.int x15), (.int x16), (.int x17), (.int x18), (.int x19), (.int x20), (.int x21), (.int x22)] at A1_b900
  have O1 := O0.wr W1 g_b900
  have K1 := Keep.wr K0 W1 (Or.inl (List.mem_of_getElem? (i := 0) rfl))
  have N1 := Fr.snoc X1 N0 g_b900
  refine zaloadN X1 hx hby d_method_2_9 rfl rfl (ziloadN X1 hx hby d_method_2_10 rfl (ziconst X1 hx hby d_method_2_11 (z := (1 : Int32)) rfl (ziadd X1 hx hby d_method_2_12 (3 : Int32) (by decide) (ziloadN X1 hx hby d_method_2_13 rfl ?_))))
  show zEnds p e below s T1 (mkF m 14 #[rv b900, iv 2, iv x2, iv (x2 % (3 : Int32))] [(.int (x2 % (3 : Int32))), (.int 3), (.ref b900)]) _ _ _
  refine zjoin (T' := T1) (F' := (mkF m 24 #[rv b900, iv 2, iv x2, iv (x2 % (3 : Int32))] [(.int (e1v x2)), (.int 3), (.ref b900)])) (fun K => ?_) ?_
  · show zEnds p e below s T1 (mkF m 14 #[rv b900, iv 2, iv x2, iv (x2 % (3 : Int32))] [(.int (x2 % (3 : Int32))), (.int 3), (.ref b900)]) _ _ _
    by_cases hc2 : (x2 % (3 : Int32)) = (0 : Int32)
    · refine zifNo X1 hx hby d_method_2_14 ((if0 _ _).trans (teq hc2).2) (zbipush X1 hx hby d_method_2_17 (z := (36 : Int32)) rfl (zgoto X1 hx hby d_method_2_19 24 (by decide) (by decide) ?_))
      show zEnds p e below s T1 (mkF m 24 #[rv b900, iv 2, iv x2, iv (x2 % (3 : Int32))] [(.int 36), (.int 3), (.ref b900)]) _ _ _
      rw [show (36 : Int32) = (e1v x2) from by simp +decide [e1v, k0, hc2]]; exact K
    · refine zifYes X1 hx hby d_method_2_14 22 ((if0 _ _).trans (feq hc2).2) (by decide) (by decide) (zbipush X1 hx hby d_method_2_22 (z := (40 : Int32)) rfl ?_)
      show zEnds p e below s T1 (mkF m 24 #[rv b900, iv 2, iv x2, iv (x2 % (3 : Int32))] [(.int 40), (.int 3), (.ref b900)]) _ _ _
      rw [show (40 : Int32) = (e1v x2) from by simp +decide [e1v, k0, hc2]]; exact K
  refine zi2b X1 hx hby d_method_2_24 ((e1v x2).toInt8.toInt32) rfl (zbastore X1 hx hby d_method_2_25 hZ e1 A1_b900 (by decide) (by show Int32.toNatClampNeg 3 < 20; decide) ((e1v x2).toInt8.toInt32) (own_nar8 _) fun T3 h3 X3 e3 W3 A3_b900 => ?_)
  change zLst Z h3 b900 .byte [(.int x3), (.int x4), (.int 27), (.int ((e1v x2).toInt8.toInt32)), (.int x7), (.int x8), (.int x9), (.int x10), (.int x11), (.int x12), (.int x13), (.int x14), (.int x15), (.int x16), (.int x17), (.int x18), (.int x19), (.int x20), (.int x21), (.int x22)] at A3_b900
  have O3 := O1.wr W3 g_b900
  have K3 := Keep.wr K1 W3 (Or.inl (List.mem_of_getElem? (i := 0) rfl))
  have N3 := Fr.snoc X3 N1 g_b900
  refine zaloadN X3 hx hby d_method_2_26 rfl rfl (ziloadN X3 hx hby d_method_2_27 rfl (ziconst X3 hx hby d_method_2_28 (z := (2 : Int32)) rfl (ziadd X3 hx hby d_method_2_29 (4 : Int32) (by decide) (ziloadN X3 hx hby d_method_2_30 rfl (ziconst X3 hx hby d_method_2_31 (z := (2 : Int32)) rfl ?_)))))
  show zEnds p e below s T3 (mkF m 32 #[rv b900, iv 2, iv x2, iv (x2 % (3 : Int32))] [(.int 2), (.int (x2 % (3 : Int32))), (.int 4), (.ref b900)]) _ _ _
  refine zjoin (T' := T3) (F' := (mkF m 42 #[rv b900, iv 2, iv x2, iv (x2 % (3 : Int32))] [(.int (e2v x2)), (.int 4), (.ref b900)])) (fun K => ?_) ?_
  · show zEnds p e below s T3 (mkF m 32 #[rv b900, iv 2, iv x2, iv (x2 % (3 : Int32))] [(.int 2), (.int (x2 % (3 : Int32))), (.int 4), (.ref b900)]) _ _ _
    by_cases hc4 : (x2 % (3 : Int32)) = (2 : Int32)
    · refine zicmpNo X3 hx hby d_method_2_32 (teq hc4).2 (zbipush X3 hx hby d_method_2_35 (z := (74 : Int32)) rfl (zgoto X3 hx hby d_method_2_37 42 (by decide) (by decide) ?_))
      show zEnds p e below s T3 (mkF m 42 #[rv b900, iv 2, iv x2, iv (x2 % (3 : Int32))] [(.int 74), (.int 4), (.ref b900)]) _ _ _
      rw [show (74 : Int32) = (e2v x2) from by simp +decide [e2v, k0, hc4]]; exact K
    · refine zicmpYes X3 hx hby d_method_2_32 40 (feq hc4).2 (by decide) (by decide) (zbipush X3 hx hby d_method_2_40 (z := (66 : Int32)) rfl ?_)
      show zEnds p e below s T3 (mkF m 42 #[rv b900, iv 2, iv x2, iv (x2 % (3 : Int32))] [(.int 66), (.int 4), (.ref b900)]) _ _ _
      rw [show (66 : Int32) = (e2v x2) from by simp +decide [e2v, k0, hc4]]; exact K
  refine zi2b X3 hx hby d_method_2_42 ((e2v x2).toInt8.toInt32) rfl (zbastore X3 hx hby d_method_2_43 hZ e3 A3_b900 (by decide) (by show Int32.toNatClampNeg 4 < 20; decide) ((e2v x2).toInt8.toInt32) (own_nar8 _) fun T5 h5 X5 e5 W5 A5_b900 => ?_)
  change zLst Z h5 b900 .byte [(.int x3), (.int x4), (.int 27), (.int ((e1v x2).toInt8.toInt32)), (.int ((e2v x2).toInt8.toInt32)), (.int x8), (.int x9), (.int x10), (.int x11), (.int x12), (.int x13), (.int x14), (.int x15), (.int x16), (.int x17), (.int x18), (.int x19), (.int x20), (.int x21), (.int x22)] at A5_b900
  have O5 := O3.wr W5 g_b900
  have K5 := Keep.wr K3 W5 (Or.inl (List.mem_of_getElem? (i := 0) rfl))
  have N5 := Fr.snoc X5 N3 g_b900
  refine ziloadN X5 hx hby d_method_2_44 rfl (ziconst X5 hx hby d_method_2_45 (z := (3 : Int32)) rfl (ziadd X5 hx hby d_method_2_46 (5 : Int32) (by decide) ?_))
  show zEnds p e below s T5 (mkF m 47 #[rv b900, iv 2, iv x2, iv (x2 % (3 : Int32))] [(.int 5)]) _ _ _
  exact zretI X5 hx hby d_method_2_47 hret hlk (by decide) (by decide) (by rw [e5]; exact ⟨rfl, N5, K5, A5_b900⟩)
set_option maxRecDepth 65536 in
set_option maxHeartbeats 40000000 in
theorem c55_firstCharacter (l : Launch) {Z : State} {a0 : Array Value} (hw : ∀ d ∈ tables_1, d.before a0 Z = true) (ws : List Jvm.Cond) {w_arr0 : Addr} {cl_arr0 : Cell} {n0 : Nat} {h0 : Heap} (C : Ctx Z w_arr0 cl_arr0) (O0 : Old Z n0 h0) (Z0 : n0 ≤ h0.size) (b900 : Addr) (x2 : Int32) (x3 : Int32) (x4 : Int32) (x5 : Int32) (x6 : Int32) (x7 : Int32) (g_b900 : n0 ≤ b900) (A_b900 : zLst Z h0 b900 .byte [(.int x2), (.int x3), (.int 27), (.int x4), (.int x5), (.int x6), (.int x7), (.int 0), (.int 0), (.int 0), (.int 0), (.int 0), (.int 0), (.int 0), (.int 0), (.int 0), (.int 0), (.int 0), (.int 0), (.int 0)]) (k0 : ¬ (x3 = (27 : Int32))) : zCon l Z (⟨"com/example/kakehashi/kakehashi/message/Iso2022", "firstCharacter", "([BII)I"⟩ : MethodName) prog_46_method_12_code 4 (some .int) ws ({ frames := 0, cells := 0, slots := 0, locals := 0 } : Room) #[(.ref b900), (.int 1), (.int 5)] h0 (zSame (some (.int 1)) h0) := by
  obtain ⟨S_w_arr0, A_w_arr0, Al_w_arr0⟩ := C
  refine zenter (plainFor_of_name pn_0) (L0 := #[rv b900, iv 1, iv 5, .unset]) (fun m => by first | rfl | simp [entryFrame, mkF, argsToLocals, Value.category, maxLocals]) ?_
  intro p e s m below meth c T0 hx hZ hby hml hown0 hnm hret hlk X0 e0
  have hown : s.vm.findClass "com/example/kakehashi/kakehashi/message/Iso2022" = some m.cls := hown0
  have K0 := Keep.refl h0 []
  have N0 := Fr.nil n0
  show zEnds p e below s T0 (mkF m 0 #[rv b900, iv 1, iv 5, .unset] []) _ _ _
  refine ziloadN X0 hx hby d_prog_46_method_12_0 rfl (zistoreN X0 hx hby d_prog_46_method_12_1 (L' := #[rv b900, iv 1, iv 5, iv 1]) rfl (ziloadN X0 hx hby d_prog_46_method_12_2 rfl (ziloadN X0 hx hby d_prog_46_method_12_3 rfl (zicmpNo X0 hx hby d_prog_46_method_12_4 (by decide) (zaloadN X0 hx hby d_prog_46_method_12_7 rfl rfl (ziloadN X0 hx hby d_prog_46_method_12_8 rfl (zbaload X0 hx hby d_prog_46_method_12_9 hZ e0 A_b900 (by decide) (v := (.int x3)) rfl (zbipush X0 hx hby d_prog_46_method_12_10 (z := (27 : Int32)) rfl (zicmpYes X0 hx hby d_prog_46_method_12_12 25 (feq k0).2 (by decide) (by decide) ?_)))))))))
  show zEnds p e below s T0 (mkF m 25 #[rv b900, iv 1, iv 5, iv 1] []) _ _ _
  refine ziloadN X0 hx hby d_prog_46_method_12_25 rfl ?_
  show zEnds p e below s T0 (mkF m 26 #[rv b900, iv 1, iv 5, iv 1] [(.int 1)]) _ _ _
  exact zretI X0 hx hby d_prog_46_method_12_26 hret hlk (by decide) (by decide) ⟨rfl, e0, rfl⟩
set_option maxRecDepth 65536 in
set_option maxHeartbeats 40000000 in
theorem c57_esc (l : Launch) {Z : State} {a0 : Array Value} (hw : ∀ d ∈ tables_1, d.before a0 Z = true) (ws : List Jvm.Cond) {w_arr0 : Addr} {cl_arr0 : Cell} {n0 : Nat} {h0 : Heap} (C : Ctx Z w_arr0 cl_arr0) (O0 : Old Z n0 h0) (Z0 : n0 ≤ h0.size) (x2 : Int32) (b900 : Addr) (x3 : Int32) (x4 : Int32) (x5 : Int32) (x6 : Int32) (x7 : Int32) (x8 : Int32) (x9 : Int32) (x10 : Int32) (x11 : Int32) (x12 : Int32) (x13 : Int32) (x14 : Int32) (x15 : Int32) (x16 : Int32) (x17 : Int32) (x18 : Int32) (x19 : Int32) (x20 : Int32) (x21 : Int32) (x22 : Int32) (g_b900 : n0 ≤ b900) (A_b900 : zLst Z h0 b900 .byte [(.int x3), (.int x4), (.int x5), (.int x6), (.int x7), (.int x8), (.int x9), (.int x10), (.int x11), (.int x12), (.int x13), (.int x14), (.int x15), (.int x16), (.int x17), (.int x18), (.int x19), (.int x20), (.int x21), (.int x22)]) : zCon l Z (⟨"com/example/kakehashi/kakehashi/message/Iso2022FirstCharacterPinLaw", "esc", "([BII)I"⟩ : MethodName) method_2_code 4 (some .int) ws ({ frames := 0, cells := 0, slots := 0, locals := 0 } : Room) #[(.ref b900), (.int 1), (.int x2)] h0 (fun v h L => v = some (.int 4) ∧ Fr n0 L ∧ Keep h0 h [b900] ∧ zLst Z h b900 .byte [(.int x3), (.int 27), (.int ((e1v x2).toInt8.toInt32)), (.int ((e2v x2).toInt8.toInt32)), (.int x7), (.int x8), (.int x9), (.int x10), (.int x11), (.int x12), (.int x13), (.int x14), (.int x15), (.int x16), (.int x17), (.int x18), (.int x19), (.int x20), (.int x21), (.int x22)]) := by
  obtain ⟨S_w_arr0, A_w_arr0, Al_w_arr0⟩ := C
  refine zenter (plainFor_of_name pn_1) (L0 := #[rv b900, iv 1, iv x2, .unset]) (fun m => by first | rfl | simp [entryFrame, mkF, argsToLocals, Value.category, maxLocals]) ?_
  intro p e s m below meth c T0 hx hZ hby hml hown0 hnm hret hlk X0 e0
  have hown : s.vm.findClass "com/example/kakehashi/kakehashi/message/Iso2022FirstCharacterPinLaw" = some m.cls := hown0
  have K0 := Keep.refl h0 [b900]
  have N0 := Fr.nil n0
  show zEnds p e below s T0 (mkF m 0 #[rv b900, iv 1, iv x2, .unset] []) _ _ _
  refine ziloadN X0 hx hby d_method_2_0 rfl (ziconst X0 hx hby d_method_2_1 (z := (3 : Int32)) rfl (zirem X0 hx hby d_method_2_2 (x2 % (3 : Int32)) (by decide) rfl (zistoreN X0 hx hby d_method_2_3 (L' := #[rv b900, iv 1, iv x2, iv (x2 % (3 : Int32))]) rfl (zaloadN X0 hx hby d_method_2_4 rfl rfl (ziloadN X0 hx hby d_method_2_5 rfl (zbipush X0 hx hby d_method_2_6 (z := (27 : Int32)) rfl (zbastore X0 hx hby d_method_2_8 hZ e0 A_b900 (by decide) (by show Int32.toNatClampNeg 1 < 20; decide) (27 : Int32) (by decide) fun T1 h1 X1 e1 W1 A1_b900 => ?_)))))))
  change zLst Z h1 b900 .byte [(.int x3), (.int 27), (.int x5), (.int x6), (.int x7), (.int x8), (.int x9), (.int x10), (.int x11), (.int x12), (.int x13), (.int x14), (.int x15), (.int x16), (.int x17), (.int x18), (.int x19), (.int x20), (.int x21), (.int x22)] at A1_b900
  have O1 := O0.wr W1 g_b900
  have K1 := Keep.wr K0 W1 (Or.inl (List.mem_of_getElem? (i := 0) rfl))
  have N1 := Fr.snoc X1 N0 g_b900
  refine zaloadN X1 hx hby d_method_2_9 rfl rfl (ziloadN X1 hx hby d_method_2_10 rfl (ziconst X1 hx hby d_method_2_11 (z := (1 : Int32)) rfl (ziadd X1 hx hby d_method_2_12 (2 : Int32) (by decide) (ziloadN X1 hx hby d_method_2_13 rfl ?_))))
  show zEnds p e below s T1 (mkF m 14 #[rv b900, iv 1, iv x2, iv (x2 % (3 : Int32))] [(.int (x2 % (3 : Int32))), (.int 2), (.ref b900)]) _ _ _
  refine zjoin (T' := T1) (F' := (mkF m 24 #[rv b900, iv 1, iv x2, iv (x2 % (3 : Int32))] [(.int (e1v x2)), (.int 2), (.ref b900)])) (fun K => ?_) ?_
  · show zEnds p e below s T1 (mkF m 14 #[rv b900, iv 1, iv x2, iv (x2 % (3 : Int32))] [(.int (x2 % (3 : Int32))), (.int 2), (.ref b900)]) _ _ _
    by_cases hc2 : (x2 % (3 : Int32)) = (0 : Int32)
    · refine zifNo X1 hx hby d_method_2_14 ((if0 _ _).trans (teq hc2).2) (zbipush X1 hx hby d_method_2_17 (z := (36 : Int32)) rfl (zgoto X1 hx hby d_method_2_19 24 (by decide) (by decide) ?_))
      show zEnds p e below s T1 (mkF m 24 #[rv b900, iv 1, iv x2, iv (x2 % (3 : Int32))] [(.int 36), (.int 2), (.ref b900)]) _ _ _
      rw [show (36 : Int32) = (e1v x2) from by simp +decide [e1v, hc2]]; exact K
    · refine zifYes X1 hx hby d_method_2_14 22 ((if0 _ _).trans (feq hc2).2) (by decide) (by decide) (zbipush X1 hx hby d_method_2_22 (z := (40 : Int32)) rfl ?_)
      show zEnds p e below s T1 (mkF m 24 #[rv b900, iv 1, iv x2, iv (x2 % (3 : Int32))] [(.int 40), (.int 2), (.ref b900)]) _ _ _
      rw [show (40 : Int32) = (e1v x2) from by simp +decide [e1v, hc2]]; exact K
  refine zi2b X1 hx hby d_method_2_24 ((e1v x2).toInt8.toInt32) rfl (zbastore X1 hx hby d_method_2_25 hZ e1 A1_b900 (by decide) (by show Int32.toNatClampNeg 2 < 20; decide) ((e1v x2).toInt8.toInt32) (own_nar8 _) fun T3 h3 X3 e3 W3 A3_b900 => ?_)
  change zLst Z h3 b900 .byte [(.int x3), (.int 27), (.int ((e1v x2).toInt8.toInt32)), (.int x6), (.int x7), (.int x8), (.int x9), (.int x10), (.int x11), (.int x12), (.int x13), (.int x14), (.int x15), (.int x16), (.int x17), (.int x18), (.int x19), (.int x20), (.int x21), (.int x22)] at A3_b900
  have O3 := O1.wr W3 g_b900
  have K3 := Keep.wr K1 W3 (Or.inl (List.mem_of_getElem? (i := 0) rfl))
  have N3 := Fr.snoc X3 N1 g_b900
  refine zaloadN X3 hx hby d_method_2_26 rfl rfl (ziloadN X3 hx hby d_method_2_27 rfl (ziconst X3 hx hby d_method_2_28 (z := (2 : Int32)) rfl (ziadd X3 hx hby d_method_2_29 (3 : Int32) (by decide) (ziloadN X3 hx hby d_method_2_30 rfl (ziconst X3 hx hby d_method_2_31 (z := (2 : Int32)) rfl ?_)))))
  show zEnds p e below s T3 (mkF m 32 #[rv b900, iv 1, iv x2, iv (x2 % (3 : Int32))] [(.int 2), (.int (x2 % (3 : Int32))), (.int 3), (.ref b900)]) _ _ _
  refine zjoin (T' := T3) (F' := (mkF m 42 #[rv b900, iv 1, iv x2, iv (x2 % (3 : Int32))] [(.int (e2v x2)), (.int 3), (.ref b900)])) (fun K => ?_) ?_
  · show zEnds p e below s T3 (mkF m 32 #[rv b900, iv 1, iv x2, iv (x2 % (3 : Int32))] [(.int 2), (.int (x2 % (3 : Int32))), (.int 3), (.ref b900)]) _ _ _
    by_cases hc4 : (x2 % (3 : Int32)) = (2 : Int32)
    · refine zicmpNo X3 hx hby d_method_2_32 (teq hc4).2 (zbipush X3 hx hby d_method_2_35 (z := (74 : Int32)) rfl (zgoto X3 hx hby d_method_2_37 42 (by decide) (by decide) ?_))
      show zEnds p e below s T3 (mkF m 42 #[rv b900, iv 1, iv x2, iv (x2 % (3 : Int32))] [(.int 74), (.int 3), (.ref b900)]) _ _ _
      rw [show (74 : Int32) = (e2v x2) from by simp +decide [e2v, hc4]]; exact K
    · refine zicmpYes X3 hx hby d_method_2_32 40 (feq hc4).2 (by decide) (by decide) (zbipush X3 hx hby d_method_2_40 (z := (66 : Int32)) rfl ?_)
      show zEnds p e below s T3 (mkF m 42 #[rv b900, iv 1, iv x2, iv (x2 % (3 : Int32))] [(.int 66), (.int 3), (.ref b900)]) _ _ _
      rw [show (66 : Int32) = (e2v x2) from by simp +decide [e2v, hc4]]; exact K
  refine zi2b X3 hx hby d_method_2_42 ((e2v x2).toInt8.toInt32) rfl (zbastore X3 hx hby d_method_2_43 hZ e3 A3_b900 (by decide) (by show Int32.toNatClampNeg 3 < 20; decide) ((e2v x2).toInt8.toInt32) (own_nar8 _) fun T5 h5 X5 e5 W5 A5_b900 => ?_)
  change zLst Z h5 b900 .byte [(.int x3), (.int 27), (.int ((e1v x2).toInt8.toInt32)), (.int ((e2v x2).toInt8.toInt32)), (.int x7), (.int x8), (.int x9), (.int x10), (.int x11), (.int x12), (.int x13), (.int x14), (.int x15), (.int x16), (.int x17), (.int x18), (.int x19), (.int x20), (.int x21), (.int x22)] at A5_b900
  have O5 := O3.wr W5 g_b900
  have K5 := Keep.wr K3 W5 (Or.inl (List.mem_of_getElem? (i := 0) rfl))
  have N5 := Fr.snoc X5 N3 g_b900
  refine ziloadN X5 hx hby d_method_2_44 rfl (ziconst X5 hx hby d_method_2_45 (z := (3 : Int32)) rfl (ziadd X5 hx hby d_method_2_46 (4 : Int32) (by decide) ?_))
  show zEnds p e below s T5 (mkF m 47 #[rv b900, iv 1, iv x2, iv (x2 % (3 : Int32))] [(.int 4)]) _ _ _
  exact zretI X5 hx hby d_method_2_47 hret hlk (by decide) (by decide) (by rw [e5]; exact ⟨rfl, N5, K5, A5_b900⟩)
set_option maxRecDepth 65536 in
set_option maxHeartbeats 40000000 in
theorem c59_firstCharacter (l : Launch) {Z : State} {a0 : Array Value} (hw : ∀ d ∈ tables_1, d.before a0 Z = true) (ws : List Jvm.Cond) {w_arr0 : Addr} {cl_arr0 : Cell} {n0 : Nat} {h0 : Heap} (C : Ctx Z w_arr0 cl_arr0) (O0 : Old Z n0 h0) (Z0 : n0 ≤ h0.size) (b900 : Addr) (x2 : Int32) (x3 : Int32) (x4 : Int32) (x5 : Int32) (x6 : Int32) (g_b900 : n0 ≤ b900) (A_b900 : zLst Z h0 b900 .byte [(.int x2), (.int 27), (.int x3), (.int x4), (.int x5), (.int x6), (.int 0), (.int 0), (.int 0), (.int 0), (.int 0), (.int 0), (.int 0), (.int 0), (.int 0), (.int 0), (.int 0), (.int 0), (.int 0), (.int 0)]) : zCon l Z (⟨"com/example/kakehashi/kakehashi/message/Iso2022", "firstCharacter", "([BII)I"⟩ : MethodName) prog_46_method_12_code 4 (some .int) ws ({ frames := 0, cells := 0, slots := 0, locals := 0 } : Room) #[(.ref b900), (.int 1), (.int 4)] h0 (zSame (some (.int 4)) h0) := by
  obtain ⟨S_w_arr0, A_w_arr0, Al_w_arr0⟩ := C
  refine zenter (plainFor_of_name pn_0) (L0 := #[rv b900, iv 1, iv 4, .unset]) (fun m => by first | rfl | simp [entryFrame, mkF, argsToLocals, Value.category, maxLocals]) ?_
  intro p e s m below meth c T0 hx hZ hby hml hown0 hnm hret hlk X0 e0
  have hown : s.vm.findClass "com/example/kakehashi/kakehashi/message/Iso2022" = some m.cls := hown0
  have K0 := Keep.refl h0 []
  have N0 := Fr.nil n0
  show zEnds p e below s T0 (mkF m 0 #[rv b900, iv 1, iv 4, .unset] []) _ _ _
  refine ziloadN X0 hx hby d_prog_46_method_12_0 rfl (zistoreN X0 hx hby d_prog_46_method_12_1 (L' := #[rv b900, iv 1, iv 4, iv 1]) rfl (ziloadN X0 hx hby d_prog_46_method_12_2 rfl (ziloadN X0 hx hby d_prog_46_method_12_3 rfl (zicmpNo X0 hx hby d_prog_46_method_12_4 (by decide) (zaloadN X0 hx hby d_prog_46_method_12_7 rfl rfl (ziloadN X0 hx hby d_prog_46_method_12_8 rfl (zbaload X0 hx hby d_prog_46_method_12_9 hZ e0 A_b900 (by decide) (v := (.int 27)) rfl (zbipush X0 hx hby d_prog_46_method_12_10 (z := (27 : Int32)) rfl (zicmpNo X0 hx hby d_prog_46_method_12_12 (by decide) ?_)))))))))
  show zEnds p e below s T0 (mkF m 15 #[rv b900, iv 1, iv 4, iv 1] []) _ _ _
  refine ziloadN X0 hx hby d_prog_46_method_12_15 rfl (zgetstat X0 hx hby d_prog_46_method_12_16 hZ hown (host := "") (Or.inl (w10 hw)) Via.refl e0 (S_w_arr0.ext O0.2) fun T1 X1 e1 => (zalenC X1 hx hby d_prog_46_method_12_19 hZ e1 (A_w_arr0.ext O0.2) (3 : Int32) Al_w_arr0 (ziadd X1 hx hby d_prog_46_method_12_20 (4 : Int32) (by decide) (zistoreN X1 hx hby d_prog_46_method_12_21 (L' := #[rv b900, iv 1, iv 4, iv 4]) rfl (zgoto X1 hx hby d_prog_46_method_12_22 2 (by decide) (by decide) (ziloadN X1 hx hby d_prog_46_method_12_2 rfl (ziloadN X1 hx hby d_prog_46_method_12_3 rfl (zicmpYes X1 hx hby d_prog_46_method_12_4 25 (by decide) (by decide) (by decide) (ziloadN X1 hx hby d_prog_46_method_12_25 rfl ?_)))))))))
  show zEnds p e below s T1 (mkF m 26 #[rv b900, iv 1, iv 4, iv 4] [(.int 4)]) _ _ _
  exact zretI X1 hx hby d_prog_46_method_12_26 hret hlk (by decide) (by decide) ⟨rfl, e1, rfl⟩
set_option maxRecDepth 65536 in
set_option maxHeartbeats 40000000 in
theorem c61_firstCharacter (l : Launch) {Z : State} {a0 : Array Value} (hw : ∀ d ∈ tables_1, d.before a0 Z = true) (ws : List Jvm.Cond) {w_arr0 : Addr} {cl_arr0 : Cell} {n0 : Nat} {h0 : Heap} (C : Ctx Z w_arr0 cl_arr0) (O0 : Old Z n0 h0) (Z0 : n0 ≤ h0.size) (b900 : Addr) (x2 : Int32) (x3 : Int32) (x4 : Int32) (x5 : Int32) (x6 : Int32) (x7 : Int32) (g_b900 : n0 ≤ b900) (A_b900 : zLst Z h0 b900 .byte [(.int x2), (.int 27), (.int x3), (.int x4), (.int x5), (.int x6), (.int x7), (.int 0), (.int 0), (.int 0), (.int 0), (.int 0), (.int 0), (.int 0), (.int 0), (.int 0), (.int 0), (.int 0), (.int 0), (.int 0)]) (k0 : ¬ (x5 = (27 : Int32))) : zCon l Z (⟨"com/example/kakehashi/kakehashi/message/Iso2022", "firstCharacter", "([BII)I"⟩ : MethodName) prog_46_method_12_code 4 (some .int) ws ({ frames := 0, cells := 0, slots := 0, locals := 0 } : Room) #[(.ref b900), (.int 1), (.int 5)] h0 (zSame (some (.int 4)) h0) := by
  obtain ⟨S_w_arr0, A_w_arr0, Al_w_arr0⟩ := C
  refine zenter (plainFor_of_name pn_0) (L0 := #[rv b900, iv 1, iv 5, .unset]) (fun m => by first | rfl | simp [entryFrame, mkF, argsToLocals, Value.category, maxLocals]) ?_
  intro p e s m below meth c T0 hx hZ hby hml hown0 hnm hret hlk X0 e0
  have hown : s.vm.findClass "com/example/kakehashi/kakehashi/message/Iso2022" = some m.cls := hown0
  have K0 := Keep.refl h0 []
  have N0 := Fr.nil n0
  show zEnds p e below s T0 (mkF m 0 #[rv b900, iv 1, iv 5, .unset] []) _ _ _
  refine ziloadN X0 hx hby d_prog_46_method_12_0 rfl (zistoreN X0 hx hby d_prog_46_method_12_1 (L' := #[rv b900, iv 1, iv 5, iv 1]) rfl (ziloadN X0 hx hby d_prog_46_method_12_2 rfl (ziloadN X0 hx hby d_prog_46_method_12_3 rfl (zicmpNo X0 hx hby d_prog_46_method_12_4 (by decide) (zaloadN X0 hx hby d_prog_46_method_12_7 rfl rfl (ziloadN X0 hx hby d_prog_46_method_12_8 rfl (zbaload X0 hx hby d_prog_46_method_12_9 hZ e0 A_b900 (by decide) (v := (.int 27)) rfl (zbipush X0 hx hby d_prog_46_method_12_10 (z := (27 : Int32)) rfl (zicmpNo X0 hx hby d_prog_46_method_12_12 (by decide) ?_)))))))))
  show zEnds p e below s T0 (mkF m 15 #[rv b900, iv 1, iv 5, iv 1] []) _ _ _
  refine ziloadN X0 hx hby d_prog_46_method_12_15 rfl (zgetstat X0 hx hby d_prog_46_method_12_16 hZ hown (host := "") (Or.inl (w10 hw)) Via.refl e0 (S_w_arr0.ext O0.2) fun T1 X1 e1 => (zalenC X1 hx hby d_prog_46_method_12_19 hZ e1 (A_w_arr0.ext O0.2) (3 : Int32) Al_w_arr0 (ziadd X1 hx hby d_prog_46_method_12_20 (4 : Int32) (by decide) (zistoreN X1 hx hby d_prog_46_method_12_21 (L' := #[rv b900, iv 1, iv 5, iv 4]) rfl (zgoto X1 hx hby d_prog_46_method_12_22 2 (by decide) (by decide) (ziloadN X1 hx hby d_prog_46_method_12_2 rfl (ziloadN X1 hx hby d_prog_46_method_12_3 rfl (zicmpNo X1 hx hby d_prog_46_method_12_4 (by decide) (zaloadN X1 hx hby d_prog_46_method_12_7 rfl rfl ?_)))))))))
  show zEnds p e below s T1 (mkF m 8 #[rv b900, iv 1, iv 5, iv 4] [(.ref b900)]) _ _ _
  refine ziloadN X1 hx hby d_prog_46_method_12_8 rfl (zbaload X1 hx hby d_prog_46_method_12_9 hZ e1 A_b900 (by decide) (v := (.int x5)) rfl (zbipush X1 hx hby d_prog_46_method_12_10 (z := (27 : Int32)) rfl (zicmpYes X1 hx hby d_prog_46_method_12_12 25 (feq k0).2 (by decide) (by decide) (ziloadN X1 hx hby d_prog_46_method_12_25 rfl ?_))))
  show zEnds p e below s T1 (mkF m 26 #[rv b900, iv 1, iv 5, iv 4] [(.int 4)]) _ _ _
  exact zretI X1 hx hby d_prog_46_method_12_26 hret hlk (by decide) (by decide) ⟨rfl, e1, rfl⟩
set_option maxRecDepth 65536 in
set_option maxHeartbeats 40000000 in
theorem c63_firstCharacter (l : Launch) {Z : State} {a0 : Array Value} (hw : ∀ d ∈ tables_1, d.before a0 Z = true) (ws : List Jvm.Cond) {w_arr0 : Addr} {cl_arr0 : Cell} {n0 : Nat} {h0 : Heap} (C : Ctx Z w_arr0 cl_arr0) (O0 : Old Z n0 h0) (Z0 : n0 ≤ h0.size) (b900 : Addr) (x2 : Int32) (x3 : Int32) (x4 : Int32) (x5 : Int32) (x6 : Int32) (x7 : Int32) (x8 : Int32) (g_b900 : n0 ≤ b900) (A_b900 : zLst Z h0 b900 .byte [(.int x2), (.int 27), (.int x3), (.int x4), (.int x5), (.int x6), (.int x7), (.int x8), (.int 0), (.int 0), (.int 0), (.int 0), (.int 0), (.int 0), (.int 0), (.int 0), (.int 0), (.int 0), (.int 0), (.int 0)]) (k0 : ¬ (x5 = (27 : Int32))) : zCon l Z (⟨"com/example/kakehashi/kakehashi/message/Iso2022", "firstCharacter", "([BII)I"⟩ : MethodName) prog_46_method_12_code 4 (some .int) ws ({ frames := 0, cells := 0, slots := 0, locals := 0 } : Room) #[(.ref b900), (.int 1), (.int 6)] h0 (zSame (some (.int 4)) h0) := by
  obtain ⟨S_w_arr0, A_w_arr0, Al_w_arr0⟩ := C
  refine zenter (plainFor_of_name pn_0) (L0 := #[rv b900, iv 1, iv 6, .unset]) (fun m => by first | rfl | simp [entryFrame, mkF, argsToLocals, Value.category, maxLocals]) ?_
  intro p e s m below meth c T0 hx hZ hby hml hown0 hnm hret hlk X0 e0
  have hown : s.vm.findClass "com/example/kakehashi/kakehashi/message/Iso2022" = some m.cls := hown0
  have K0 := Keep.refl h0 []
  have N0 := Fr.nil n0
  show zEnds p e below s T0 (mkF m 0 #[rv b900, iv 1, iv 6, .unset] []) _ _ _
  refine ziloadN X0 hx hby d_prog_46_method_12_0 rfl (zistoreN X0 hx hby d_prog_46_method_12_1 (L' := #[rv b900, iv 1, iv 6, iv 1]) rfl (ziloadN X0 hx hby d_prog_46_method_12_2 rfl (ziloadN X0 hx hby d_prog_46_method_12_3 rfl (zicmpNo X0 hx hby d_prog_46_method_12_4 (by decide) (zaloadN X0 hx hby d_prog_46_method_12_7 rfl rfl (ziloadN X0 hx hby d_prog_46_method_12_8 rfl (zbaload X0 hx hby d_prog_46_method_12_9 hZ e0 A_b900 (by decide) (v := (.int 27)) rfl (zbipush X0 hx hby d_prog_46_method_12_10 (z := (27 : Int32)) rfl (zicmpNo X0 hx hby d_prog_46_method_12_12 (by decide) ?_)))))))))
  show zEnds p e below s T0 (mkF m 15 #[rv b900, iv 1, iv 6, iv 1] []) _ _ _
  refine ziloadN X0 hx hby d_prog_46_method_12_15 rfl (zgetstat X0 hx hby d_prog_46_method_12_16 hZ hown (host := "") (Or.inl (w10 hw)) Via.refl e0 (S_w_arr0.ext O0.2) fun T1 X1 e1 => (zalenC X1 hx hby d_prog_46_method_12_19 hZ e1 (A_w_arr0.ext O0.2) (3 : Int32) Al_w_arr0 (ziadd X1 hx hby d_prog_46_method_12_20 (4 : Int32) (by decide) (zistoreN X1 hx hby d_prog_46_method_12_21 (L' := #[rv b900, iv 1, iv 6, iv 4]) rfl (zgoto X1 hx hby d_prog_46_method_12_22 2 (by decide) (by decide) (ziloadN X1 hx hby d_prog_46_method_12_2 rfl (ziloadN X1 hx hby d_prog_46_method_12_3 rfl (zicmpNo X1 hx hby d_prog_46_method_12_4 (by decide) (zaloadN X1 hx hby d_prog_46_method_12_7 rfl rfl ?_)))))))))
  show zEnds p e below s T1 (mkF m 8 #[rv b900, iv 1, iv 6, iv 4] [(.ref b900)]) _ _ _
  refine ziloadN X1 hx hby d_prog_46_method_12_8 rfl (zbaload X1 hx hby d_prog_46_method_12_9 hZ e1 A_b900 (by decide) (v := (.int x5)) rfl (zbipush X1 hx hby d_prog_46_method_12_10 (z := (27 : Int32)) rfl (zicmpYes X1 hx hby d_prog_46_method_12_12 25 (feq k0).2 (by decide) (by decide) (ziloadN X1 hx hby d_prog_46_method_12_25 rfl ?_))))
  show zEnds p e below s T1 (mkF m 26 #[rv b900, iv 1, iv 6, iv 4] [(.int 4)]) _ _ _
  exact zretI X1 hx hby d_prog_46_method_12_26 hret hlk (by decide) (by decide) ⟨rfl, e1, rfl⟩
set_option maxRecDepth 65536 in
set_option maxHeartbeats 40000000 in
theorem c65_esc (l : Launch) {Z : State} {a0 : Array Value} (hw : ∀ d ∈ tables_1, d.before a0 Z = true) (ws : List Jvm.Cond) {w_arr0 : Addr} {cl_arr0 : Cell} {n0 : Nat} {h0 : Heap} (C : Ctx Z w_arr0 cl_arr0) (O0 : Old Z n0 h0) (Z0 : n0 ≤ h0.size) (x2 : Int32) (b900 : Addr) (x3 : Int32) (x4 : Int32) (x5 : Int32) (x6 : Int32) (x7 : Int32) (x8 : Int32) (x9 : Int32) (x10 : Int32) (x11 : Int32) (x12 : Int32) (x13 : Int32) (x14 : Int32) (x15 : Int32) (x16 : Int32) (x17 : Int32) (x18 : Int32) (x19 : Int32) (x20 : Int32) (x21 : Int32) (x22 : Int32) (g_b900 : n0 ≤ b900) (A_b900 : zLst Z h0 b900 .byte [(.int x3), (.int x4), (.int x5), (.int x6), (.int x7), (.int x8), (.int x9), (.int x10), (.int x11), (.int x12), (.int x13), (.int x14), (.int x15), (.int x16), (.int x17), (.int x18), (.int x19), (.int x20), (.int x21), (.int x22)]) (k0 : ¬ (x7 = (27 : Int32))) : zCon l Z (⟨"com/example/kakehashi/kakehashi/message/Iso2022FirstCharacterPinLaw", "esc", "([BII)I"⟩ : MethodName) method_2_code 4 (some .int) ws ({ frames := 0, cells := 0, slots := 0, locals := 0 } : Room) #[(.ref b900), (.int 5), (.int x2)] h0 (fun v h L => v = some (.int 8) ∧ Fr n0 L ∧ Keep h0 h [b900] ∧ zLst Z h b900 .byte [(.int x3), (.int x4), (.int x5), (.int x6), (.int x7), (.int 27), (.int ((e1v x2).toInt8.toInt32)), (.int ((e2v x2).toInt8.toInt32)), (.int x11), (.int x12), (.int x13), (.int x14), (.int x15), (.int x16), (.int x17), (.int x18), (.int x19), (.int x20), (.int x21), (.int x22)]) := by
  obtain ⟨S_w_arr0, A_w_arr0, Al_w_arr0⟩ := C
  refine zenter (plainFor_of_name pn_1) (L0 := #[rv b900, iv 5, iv x2, .unset]) (fun m => by first | rfl | simp [entryFrame, mkF, argsToLocals, Value.category, maxLocals]) ?_
  intro p e s m below meth c T0 hx hZ hby hml hown0 hnm hret hlk X0 e0
  have hown : s.vm.findClass "com/example/kakehashi/kakehashi/message/Iso2022FirstCharacterPinLaw" = some m.cls := hown0
  have K0 := Keep.refl h0 [b900]
  have N0 := Fr.nil n0
  show zEnds p e below s T0 (mkF m 0 #[rv b900, iv 5, iv x2, .unset] []) _ _ _
  refine ziloadN X0 hx hby d_method_2_0 rfl (ziconst X0 hx hby d_method_2_1 (z := (3 : Int32)) rfl (zirem X0 hx hby d_method_2_2 (x2 % (3 : Int32)) (by decide) rfl (zistoreN X0 hx hby d_method_2_3 (L' := #[rv b900, iv 5, iv x2, iv (x2 % (3 : Int32))]) rfl (zaloadN X0 hx hby d_method_2_4 rfl rfl (ziloadN X0 hx hby d_method_2_5 rfl (zbipush X0 hx hby d_method_2_6 (z := (27 : Int32)) rfl (zbastore X0 hx hby d_method_2_8 hZ e0 A_b900 (by decide) (by show Int32.toNatClampNeg 5 < 20; decide) (27 : Int32) (by decide) fun T1 h1 X1 e1 W1 A1_b900 => ?_)))))))
  change zLst Z h1 b900 .byte [(.int x3), (.int x4), (.int x5), (.int x6), (.int x7), (.int 27), (.int x9), (.int x10), (.int x11), (.int x12), (.int x13), (.int x14), (.int x15), (.int x16), (.int x17), (.int x18), (.int x19), (.int x20), (.int x21), (.int x22)] at A1_b900
  have O1 := O0.wr W1 g_b900
  have K1 := Keep.wr K0 W1 (Or.inl (List.mem_of_getElem? (i := 0) rfl))
  have N1 := Fr.snoc X1 N0 g_b900
  refine zaloadN X1 hx hby d_method_2_9 rfl rfl (ziloadN X1 hx hby d_method_2_10 rfl (ziconst X1 hx hby d_method_2_11 (z := (1 : Int32)) rfl (ziadd X1 hx hby d_method_2_12 (6 : Int32) (by decide) (ziloadN X1 hx hby d_method_2_13 rfl ?_))))
  show zEnds p e below s T1 (mkF m 14 #[rv b900, iv 5, iv x2, iv (x2 % (3 : Int32))] [(.int (x2 % (3 : Int32))), (.int 6), (.ref b900)]) _ _ _
  refine zjoin (T' := T1) (F' := (mkF m 24 #[rv b900, iv 5, iv x2, iv (x2 % (3 : Int32))] [(.int (e1v x2)), (.int 6), (.ref b900)])) (fun K => ?_) ?_
  · show zEnds p e below s T1 (mkF m 14 #[rv b900, iv 5, iv x2, iv (x2 % (3 : Int32))] [(.int (x2 % (3 : Int32))), (.int 6), (.ref b900)]) _ _ _
    by_cases hc2 : (x2 % (3 : Int32)) = (0 : Int32)
    · refine zifNo X1 hx hby d_method_2_14 ((if0 _ _).trans (teq hc2).2) (zbipush X1 hx hby d_method_2_17 (z := (36 : Int32)) rfl (zgoto X1 hx hby d_method_2_19 24 (by decide) (by decide) ?_))
      show zEnds p e below s T1 (mkF m 24 #[rv b900, iv 5, iv x2, iv (x2 % (3 : Int32))] [(.int 36), (.int 6), (.ref b900)]) _ _ _
      rw [show (36 : Int32) = (e1v x2) from by simp +decide [e1v, k0, hc2]]; exact K
    · refine zifYes X1 hx hby d_method_2_14 22 ((if0 _ _).trans (feq hc2).2) (by decide) (by decide) (zbipush X1 hx hby d_method_2_22 (z := (40 : Int32)) rfl ?_)
      show zEnds p e below s T1 (mkF m 24 #[rv b900, iv 5, iv x2, iv (x2 % (3 : Int32))] [(.int 40), (.int 6), (.ref b900)]) _ _ _
      rw [show (40 : Int32) = (e1v x2) from by simp +decide [e1v, k0, hc2]]; exact K
  refine zi2b X1 hx hby d_method_2_24 ((e1v x2).toInt8.toInt32) rfl (zbastore X1 hx hby d_method_2_25 hZ e1 A1_b900 (by decide) (by show Int32.toNatClampNeg 6 < 20; decide) ((e1v x2).toInt8.toInt32) (own_nar8 _) fun T3 h3 X3 e3 W3 A3_b900 => ?_)
  change zLst Z h3 b900 .byte [(.int x3), (.int x4), (.int x5), (.int x6), (.int x7), (.int 27), (.int ((e1v x2).toInt8.toInt32)), (.int x10), (.int x11), (.int x12), (.int x13), (.int x14), (.int x15), (.int x16), (.int x17), (.int x18), (.int x19), (.int x20), (.int x21), (.int x22)] at A3_b900
  have O3 := O1.wr W3 g_b900
  have K3 := Keep.wr K1 W3 (Or.inl (List.mem_of_getElem? (i := 0) rfl))
  have N3 := Fr.snoc X3 N1 g_b900
  refine zaloadN X3 hx hby d_method_2_26 rfl rfl (ziloadN X3 hx hby d_method_2_27 rfl (ziconst X3 hx hby d_method_2_28 (z := (2 : Int32)) rfl (ziadd X3 hx hby d_method_2_29 (7 : Int32) (by decide) (ziloadN X3 hx hby d_method_2_30 rfl (ziconst X3 hx hby d_method_2_31 (z := (2 : Int32)) rfl ?_)))))
  show zEnds p e below s T3 (mkF m 32 #[rv b900, iv 5, iv x2, iv (x2 % (3 : Int32))] [(.int 2), (.int (x2 % (3 : Int32))), (.int 7), (.ref b900)]) _ _ _
  refine zjoin (T' := T3) (F' := (mkF m 42 #[rv b900, iv 5, iv x2, iv (x2 % (3 : Int32))] [(.int (e2v x2)), (.int 7), (.ref b900)])) (fun K => ?_) ?_
  · show zEnds p e below s T3 (mkF m 32 #[rv b900, iv 5, iv x2, iv (x2 % (3 : Int32))] [(.int 2), (.int (x2 % (3 : Int32))), (.int 7), (.ref b900)]) _ _ _
    by_cases hc4 : (x2 % (3 : Int32)) = (2 : Int32)
    · refine zicmpNo X3 hx hby d_method_2_32 (teq hc4).2 (zbipush X3 hx hby d_method_2_35 (z := (74 : Int32)) rfl (zgoto X3 hx hby d_method_2_37 42 (by decide) (by decide) ?_))
      show zEnds p e below s T3 (mkF m 42 #[rv b900, iv 5, iv x2, iv (x2 % (3 : Int32))] [(.int 74), (.int 7), (.ref b900)]) _ _ _
      rw [show (74 : Int32) = (e2v x2) from by simp +decide [e2v, k0, hc4]]; exact K
    · refine zicmpYes X3 hx hby d_method_2_32 40 (feq hc4).2 (by decide) (by decide) (zbipush X3 hx hby d_method_2_40 (z := (66 : Int32)) rfl ?_)
      show zEnds p e below s T3 (mkF m 42 #[rv b900, iv 5, iv x2, iv (x2 % (3 : Int32))] [(.int 66), (.int 7), (.ref b900)]) _ _ _
      rw [show (66 : Int32) = (e2v x2) from by simp +decide [e2v, k0, hc4]]; exact K
  refine zi2b X3 hx hby d_method_2_42 ((e2v x2).toInt8.toInt32) rfl (zbastore X3 hx hby d_method_2_43 hZ e3 A3_b900 (by decide) (by show Int32.toNatClampNeg 7 < 20; decide) ((e2v x2).toInt8.toInt32) (own_nar8 _) fun T5 h5 X5 e5 W5 A5_b900 => ?_)
  change zLst Z h5 b900 .byte [(.int x3), (.int x4), (.int x5), (.int x6), (.int x7), (.int 27), (.int ((e1v x2).toInt8.toInt32)), (.int ((e2v x2).toInt8.toInt32)), (.int x11), (.int x12), (.int x13), (.int x14), (.int x15), (.int x16), (.int x17), (.int x18), (.int x19), (.int x20), (.int x21), (.int x22)] at A5_b900
  have O5 := O3.wr W5 g_b900
  have K5 := Keep.wr K3 W5 (Or.inl (List.mem_of_getElem? (i := 0) rfl))
  have N5 := Fr.snoc X5 N3 g_b900
  refine ziloadN X5 hx hby d_method_2_44 rfl (ziconst X5 hx hby d_method_2_45 (z := (3 : Int32)) rfl (ziadd X5 hx hby d_method_2_46 (8 : Int32) (by decide) ?_))
  show zEnds p e below s T5 (mkF m 47 #[rv b900, iv 5, iv x2, iv (x2 % (3 : Int32))] [(.int 8)]) _ _ _
  exact zretI X5 hx hby d_method_2_47 hret hlk (by decide) (by decide) (by rw [e5]; exact ⟨rfl, N5, K5, A5_b900⟩)
set_option maxRecDepth 65536 in
set_option maxHeartbeats 40000000 in
theorem c67_firstCharacter (l : Launch) {Z : State} {a0 : Array Value} (hw : ∀ d ∈ tables_1, d.before a0 Z = true) (ws : List Jvm.Cond) {w_arr0 : Addr} {cl_arr0 : Cell} {n0 : Nat} {h0 : Heap} (C : Ctx Z w_arr0 cl_arr0) (O0 : Old Z n0 h0) (Z0 : n0 ≤ h0.size) (b900 : Addr) (x2 : Int32) (x3 : Int32) (x4 : Int32) (x5 : Int32) (x6 : Int32) (x7 : Int32) (x8 : Int32) (x9 : Int32) (g_b900 : n0 ≤ b900) (A_b900 : zLst Z h0 b900 .byte [(.int x2), (.int 27), (.int x3), (.int x4), (.int x5), (.int 27), (.int x6), (.int x7), (.int x8), (.int x9), (.int 0), (.int 0), (.int 0), (.int 0), (.int 0), (.int 0), (.int 0), (.int 0), (.int 0), (.int 0)]) (k0 : ¬ (x5 = (27 : Int32))) : zCon l Z (⟨"com/example/kakehashi/kakehashi/message/Iso2022", "firstCharacter", "([BII)I"⟩ : MethodName) prog_46_method_12_code 4 (some .int) ws ({ frames := 0, cells := 0, slots := 0, locals := 0 } : Room) #[(.ref b900), (.int 1), (.int 8)] h0 (zSame (some (.int 4)) h0) := by
  obtain ⟨S_w_arr0, A_w_arr0, Al_w_arr0⟩ := C
  refine zenter (plainFor_of_name pn_0) (L0 := #[rv b900, iv 1, iv 8, .unset]) (fun m => by first | rfl | simp [entryFrame, mkF, argsToLocals, Value.category, maxLocals]) ?_
  intro p e s m below meth c T0 hx hZ hby hml hown0 hnm hret hlk X0 e0
  have hown : s.vm.findClass "com/example/kakehashi/kakehashi/message/Iso2022" = some m.cls := hown0
  have K0 := Keep.refl h0 []
  have N0 := Fr.nil n0
  show zEnds p e below s T0 (mkF m 0 #[rv b900, iv 1, iv 8, .unset] []) _ _ _
  refine ziloadN X0 hx hby d_prog_46_method_12_0 rfl (zistoreN X0 hx hby d_prog_46_method_12_1 (L' := #[rv b900, iv 1, iv 8, iv 1]) rfl (ziloadN X0 hx hby d_prog_46_method_12_2 rfl (ziloadN X0 hx hby d_prog_46_method_12_3 rfl (zicmpNo X0 hx hby d_prog_46_method_12_4 (by decide) (zaloadN X0 hx hby d_prog_46_method_12_7 rfl rfl (ziloadN X0 hx hby d_prog_46_method_12_8 rfl (zbaload X0 hx hby d_prog_46_method_12_9 hZ e0 A_b900 (by decide) (v := (.int 27)) rfl (zbipush X0 hx hby d_prog_46_method_12_10 (z := (27 : Int32)) rfl (zicmpNo X0 hx hby d_prog_46_method_12_12 (by decide) ?_)))))))))
  show zEnds p e below s T0 (mkF m 15 #[rv b900, iv 1, iv 8, iv 1] []) _ _ _
  refine ziloadN X0 hx hby d_prog_46_method_12_15 rfl (zgetstat X0 hx hby d_prog_46_method_12_16 hZ hown (host := "") (Or.inl (w10 hw)) Via.refl e0 (S_w_arr0.ext O0.2) fun T1 X1 e1 => (zalenC X1 hx hby d_prog_46_method_12_19 hZ e1 (A_w_arr0.ext O0.2) (3 : Int32) Al_w_arr0 (ziadd X1 hx hby d_prog_46_method_12_20 (4 : Int32) (by decide) (zistoreN X1 hx hby d_prog_46_method_12_21 (L' := #[rv b900, iv 1, iv 8, iv 4]) rfl (zgoto X1 hx hby d_prog_46_method_12_22 2 (by decide) (by decide) (ziloadN X1 hx hby d_prog_46_method_12_2 rfl (ziloadN X1 hx hby d_prog_46_method_12_3 rfl (zicmpNo X1 hx hby d_prog_46_method_12_4 (by decide) (zaloadN X1 hx hby d_prog_46_method_12_7 rfl rfl ?_)))))))))
  show zEnds p e below s T1 (mkF m 8 #[rv b900, iv 1, iv 8, iv 4] [(.ref b900)]) _ _ _
  refine ziloadN X1 hx hby d_prog_46_method_12_8 rfl (zbaload X1 hx hby d_prog_46_method_12_9 hZ e1 A_b900 (by decide) (v := (.int x5)) rfl (zbipush X1 hx hby d_prog_46_method_12_10 (z := (27 : Int32)) rfl (zicmpYes X1 hx hby d_prog_46_method_12_12 25 (feq k0).2 (by decide) (by decide) (ziloadN X1 hx hby d_prog_46_method_12_25 rfl ?_))))
  show zEnds p e below s T1 (mkF m 26 #[rv b900, iv 1, iv 8, iv 4] [(.int 4)]) _ _ _
  exact zretI X1 hx hby d_prog_46_method_12_26 hret hlk (by decide) (by decide) ⟨rfl, e1, rfl⟩
set_option maxRecDepth 65536 in
set_option maxHeartbeats 40000000 in
theorem c69_esc (l : Launch) {Z : State} {a0 : Array Value} (hw : ∀ d ∈ tables_1, d.before a0 Z = true) (ws : List Jvm.Cond) {w_arr0 : Addr} {cl_arr0 : Cell} {n0 : Nat} {h0 : Heap} (C : Ctx Z w_arr0 cl_arr0) (O0 : Old Z n0 h0) (Z0 : n0 ≤ h0.size) (x2 : Int32) (b900 : Addr) (x3 : Int32) (x4 : Int32) (x5 : Int32) (x6 : Int32) (x7 : Int32) (x8 : Int32) (x9 : Int32) (x10 : Int32) (x11 : Int32) (x12 : Int32) (x13 : Int32) (x14 : Int32) (x15 : Int32) (x16 : Int32) (x17 : Int32) (x18 : Int32) (x19 : Int32) (x20 : Int32) (x21 : Int32) (x22 : Int32) (g_b900 : n0 ≤ b900) (A_b900 : zLst Z h0 b900 .byte [(.int x3), (.int x4), (.int x5), (.int x6), (.int x7), (.int x8), (.int x9), (.int x10), (.int x11), (.int x12), (.int x13), (.int x14), (.int x15), (.int x16), (.int x17), (.int x18), (.int x19), (.int x20), (.int x21), (.int x22)]) : zCon l Z (⟨"com/example/kakehashi/kakehashi/message/Iso2022FirstCharacterPinLaw", "esc", "([BII)I"⟩ : MethodName) method_2_code 4 (some .int) ws ({ frames := 0, cells := 0, slots := 0, locals := 0 } : Room) #[(.ref b900), (.int 4), (.int x2)] h0 (fun v h L => v = some (.int 7) ∧ Fr n0 L ∧ Keep h0 h [b900] ∧ zLst Z h b900 .byte [(.int x3), (.int x4), (.int x5), (.int x6), (.int 27), (.int ((e1v x2).toInt8.toInt32)), (.int ((e2v x2).toInt8.toInt32)), (.int x10), (.int x11), (.int x12), (.int x13), (.int x14), (.int x15), (.int x16), (.int x17), (.int x18), (.int x19), (.int x20), (.int x21), (.int x22)]) := by
  obtain ⟨S_w_arr0, A_w_arr0, Al_w_arr0⟩ := C
  refine zenter (plainFor_of_name pn_1) (L0 := #[rv b900, iv 4, iv x2, .unset]) (fun m => by first | rfl | simp [entryFrame, mkF, argsToLocals, Value.category, maxLocals]) ?_
  intro p e s m below meth c T0 hx hZ hby hml hown0 hnm hret hlk X0 e0
  have hown : s.vm.findClass "com/example/kakehashi/kakehashi/message/Iso2022FirstCharacterPinLaw" = some m.cls := hown0
  have K0 := Keep.refl h0 [b900]
  have N0 := Fr.nil n0
  show zEnds p e below s T0 (mkF m 0 #[rv b900, iv 4, iv x2, .unset] []) _ _ _
  refine ziloadN X0 hx hby d_method_2_0 rfl (ziconst X0 hx hby d_method_2_1 (z := (3 : Int32)) rfl (zirem X0 hx hby d_method_2_2 (x2 % (3 : Int32)) (by decide) rfl (zistoreN X0 hx hby d_method_2_3 (L' := #[rv b900, iv 4, iv x2, iv (x2 % (3 : Int32))]) rfl (zaloadN X0 hx hby d_method_2_4 rfl rfl (ziloadN X0 hx hby d_method_2_5 rfl (zbipush X0 hx hby d_method_2_6 (z := (27 : Int32)) rfl (zbastore X0 hx hby d_method_2_8 hZ e0 A_b900 (by decide) (by show Int32.toNatClampNeg 4 < 20; decide) (27 : Int32) (by decide) fun T1 h1 X1 e1 W1 A1_b900 => ?_)))))))
  change zLst Z h1 b900 .byte [(.int x3), (.int x4), (.int x5), (.int x6), (.int 27), (.int x8), (.int x9), (.int x10), (.int x11), (.int x12), (.int x13), (.int x14), (.int x15), (.int x16), (.int x17), (.int x18), (.int x19), (.int x20), (.int x21), (.int x22)] at A1_b900
  have O1 := O0.wr W1 g_b900
  have K1 := Keep.wr K0 W1 (Or.inl (List.mem_of_getElem? (i := 0) rfl))
  have N1 := Fr.snoc X1 N0 g_b900
  refine zaloadN X1 hx hby d_method_2_9 rfl rfl (ziloadN X1 hx hby d_method_2_10 rfl (ziconst X1 hx hby d_method_2_11 (z := (1 : Int32)) rfl (ziadd X1 hx hby d_method_2_12 (5 : Int32) (by decide) (ziloadN X1 hx hby d_method_2_13 rfl ?_))))
  show zEnds p e below s T1 (mkF m 14 #[rv b900, iv 4, iv x2, iv (x2 % (3 : Int32))] [(.int (x2 % (3 : Int32))), (.int 5), (.ref b900)]) _ _ _
  refine zjoin (T' := T1) (F' := (mkF m 24 #[rv b900, iv 4, iv x2, iv (x2 % (3 : Int32))] [(.int (e1v x2)), (.int 5), (.ref b900)])) (fun K => ?_) ?_
  · show zEnds p e below s T1 (mkF m 14 #[rv b900, iv 4, iv x2, iv (x2 % (3 : Int32))] [(.int (x2 % (3 : Int32))), (.int 5), (.ref b900)]) _ _ _
    by_cases hc2 : (x2 % (3 : Int32)) = (0 : Int32)
    · refine zifNo X1 hx hby d_method_2_14 ((if0 _ _).trans (teq hc2).2) (zbipush X1 hx hby d_method_2_17 (z := (36 : Int32)) rfl (zgoto X1 hx hby d_method_2_19 24 (by decide) (by decide) ?_))
      show zEnds p e below s T1 (mkF m 24 #[rv b900, iv 4, iv x2, iv (x2 % (3 : Int32))] [(.int 36), (.int 5), (.ref b900)]) _ _ _
      rw [show (36 : Int32) = (e1v x2) from by simp +decide [e1v, hc2]]; exact K
    · refine zifYes X1 hx hby d_method_2_14 22 ((if0 _ _).trans (feq hc2).2) (by decide) (by decide) (zbipush X1 hx hby d_method_2_22 (z := (40 : Int32)) rfl ?_)
      show zEnds p e below s T1 (mkF m 24 #[rv b900, iv 4, iv x2, iv (x2 % (3 : Int32))] [(.int 40), (.int 5), (.ref b900)]) _ _ _
      rw [show (40 : Int32) = (e1v x2) from by simp +decide [e1v, hc2]]; exact K
  refine zi2b X1 hx hby d_method_2_24 ((e1v x2).toInt8.toInt32) rfl (zbastore X1 hx hby d_method_2_25 hZ e1 A1_b900 (by decide) (by show Int32.toNatClampNeg 5 < 20; decide) ((e1v x2).toInt8.toInt32) (own_nar8 _) fun T3 h3 X3 e3 W3 A3_b900 => ?_)
  change zLst Z h3 b900 .byte [(.int x3), (.int x4), (.int x5), (.int x6), (.int 27), (.int ((e1v x2).toInt8.toInt32)), (.int x9), (.int x10), (.int x11), (.int x12), (.int x13), (.int x14), (.int x15), (.int x16), (.int x17), (.int x18), (.int x19), (.int x20), (.int x21), (.int x22)] at A3_b900
  have O3 := O1.wr W3 g_b900
  have K3 := Keep.wr K1 W3 (Or.inl (List.mem_of_getElem? (i := 0) rfl))
  have N3 := Fr.snoc X3 N1 g_b900
  refine zaloadN X3 hx hby d_method_2_26 rfl rfl (ziloadN X3 hx hby d_method_2_27 rfl (ziconst X3 hx hby d_method_2_28 (z := (2 : Int32)) rfl (ziadd X3 hx hby d_method_2_29 (6 : Int32) (by decide) (ziloadN X3 hx hby d_method_2_30 rfl (ziconst X3 hx hby d_method_2_31 (z := (2 : Int32)) rfl ?_)))))
  show zEnds p e below s T3 (mkF m 32 #[rv b900, iv 4, iv x2, iv (x2 % (3 : Int32))] [(.int 2), (.int (x2 % (3 : Int32))), (.int 6), (.ref b900)]) _ _ _
  refine zjoin (T' := T3) (F' := (mkF m 42 #[rv b900, iv 4, iv x2, iv (x2 % (3 : Int32))] [(.int (e2v x2)), (.int 6), (.ref b900)])) (fun K => ?_) ?_
  · show zEnds p e below s T3 (mkF m 32 #[rv b900, iv 4, iv x2, iv (x2 % (3 : Int32))] [(.int 2), (.int (x2 % (3 : Int32))), (.int 6), (.ref b900)]) _ _ _
    by_cases hc4 : (x2 % (3 : Int32)) = (2 : Int32)
    · refine zicmpNo X3 hx hby d_method_2_32 (teq hc4).2 (zbipush X3 hx hby d_method_2_35 (z := (74 : Int32)) rfl (zgoto X3 hx hby d_method_2_37 42 (by decide) (by decide) ?_))
      show zEnds p e below s T3 (mkF m 42 #[rv b900, iv 4, iv x2, iv (x2 % (3 : Int32))] [(.int 74), (.int 6), (.ref b900)]) _ _ _
      rw [show (74 : Int32) = (e2v x2) from by simp +decide [e2v, hc4]]; exact K
    · refine zicmpYes X3 hx hby d_method_2_32 40 (feq hc4).2 (by decide) (by decide) (zbipush X3 hx hby d_method_2_40 (z := (66 : Int32)) rfl ?_)
      show zEnds p e below s T3 (mkF m 42 #[rv b900, iv 4, iv x2, iv (x2 % (3 : Int32))] [(.int 66), (.int 6), (.ref b900)]) _ _ _
      rw [show (66 : Int32) = (e2v x2) from by simp +decide [e2v, hc4]]; exact K
  refine zi2b X3 hx hby d_method_2_42 ((e2v x2).toInt8.toInt32) rfl (zbastore X3 hx hby d_method_2_43 hZ e3 A3_b900 (by decide) (by show Int32.toNatClampNeg 6 < 20; decide) ((e2v x2).toInt8.toInt32) (own_nar8 _) fun T5 h5 X5 e5 W5 A5_b900 => ?_)
  change zLst Z h5 b900 .byte [(.int x3), (.int x4), (.int x5), (.int x6), (.int 27), (.int ((e1v x2).toInt8.toInt32)), (.int ((e2v x2).toInt8.toInt32)), (.int x10), (.int x11), (.int x12), (.int x13), (.int x14), (.int x15), (.int x16), (.int x17), (.int x18), (.int x19), (.int x20), (.int x21), (.int x22)] at A5_b900
  have O5 := O3.wr W5 g_b900
  have K5 := Keep.wr K3 W5 (Or.inl (List.mem_of_getElem? (i := 0) rfl))
  have N5 := Fr.snoc X5 N3 g_b900
  refine ziloadN X5 hx hby d_method_2_44 rfl (ziconst X5 hx hby d_method_2_45 (z := (3 : Int32)) rfl (ziadd X5 hx hby d_method_2_46 (7 : Int32) (by decide) ?_))
  show zEnds p e below s T5 (mkF m 47 #[rv b900, iv 4, iv x2, iv (x2 % (3 : Int32))] [(.int 7)]) _ _ _
  exact zretI X5 hx hby d_method_2_47 hret hlk (by decide) (by decide) (by rw [e5]; exact ⟨rfl, N5, K5, A5_b900⟩)
set_option maxRecDepth 65536 in
set_option maxHeartbeats 40000000 in
theorem c71_firstCharacter (l : Launch) {Z : State} {a0 : Array Value} (hw : ∀ d ∈ tables_1, d.before a0 Z = true) (ws : List Jvm.Cond) {w_arr0 : Addr} {cl_arr0 : Cell} {n0 : Nat} {h0 : Heap} (C : Ctx Z w_arr0 cl_arr0) (O0 : Old Z n0 h0) (Z0 : n0 ≤ h0.size) (b900 : Addr) (x2 : Int32) (x3 : Int32) (x4 : Int32) (x5 : Int32) (x6 : Int32) (x7 : Int32) (x8 : Int32) (g_b900 : n0 ≤ b900) (A_b900 : zLst Z h0 b900 .byte [(.int x2), (.int 27), (.int x3), (.int x4), (.int 27), (.int x5), (.int x6), (.int x7), (.int x8), (.int 0), (.int 0), (.int 0), (.int 0), (.int 0), (.int 0), (.int 0), (.int 0), (.int 0), (.int 0), (.int 0)]) : zCon l Z (⟨"com/example/kakehashi/kakehashi/message/Iso2022", "firstCharacter", "([BII)I"⟩ : MethodName) prog_46_method_12_code 4 (some .int) ws ({ frames := 0, cells := 0, slots := 0, locals := 0 } : Room) #[(.ref b900), (.int 1), (.int 7)] h0 (zSame (some (.int 7)) h0) := by
  obtain ⟨S_w_arr0, A_w_arr0, Al_w_arr0⟩ := C
  refine zenter (plainFor_of_name pn_0) (L0 := #[rv b900, iv 1, iv 7, .unset]) (fun m => by first | rfl | simp [entryFrame, mkF, argsToLocals, Value.category, maxLocals]) ?_
  intro p e s m below meth c T0 hx hZ hby hml hown0 hnm hret hlk X0 e0
  have hown : s.vm.findClass "com/example/kakehashi/kakehashi/message/Iso2022" = some m.cls := hown0
  have K0 := Keep.refl h0 []
  have N0 := Fr.nil n0
  show zEnds p e below s T0 (mkF m 0 #[rv b900, iv 1, iv 7, .unset] []) _ _ _
  refine ziloadN X0 hx hby d_prog_46_method_12_0 rfl (zistoreN X0 hx hby d_prog_46_method_12_1 (L' := #[rv b900, iv 1, iv 7, iv 1]) rfl (ziloadN X0 hx hby d_prog_46_method_12_2 rfl (ziloadN X0 hx hby d_prog_46_method_12_3 rfl (zicmpNo X0 hx hby d_prog_46_method_12_4 (by decide) (zaloadN X0 hx hby d_prog_46_method_12_7 rfl rfl (ziloadN X0 hx hby d_prog_46_method_12_8 rfl (zbaload X0 hx hby d_prog_46_method_12_9 hZ e0 A_b900 (by decide) (v := (.int 27)) rfl (zbipush X0 hx hby d_prog_46_method_12_10 (z := (27 : Int32)) rfl (zicmpNo X0 hx hby d_prog_46_method_12_12 (by decide) ?_)))))))))
  show zEnds p e below s T0 (mkF m 15 #[rv b900, iv 1, iv 7, iv 1] []) _ _ _
  refine ziloadN X0 hx hby d_prog_46_method_12_15 rfl (zgetstat X0 hx hby d_prog_46_method_12_16 hZ hown (host := "") (Or.inl (w10 hw)) Via.refl e0 (S_w_arr0.ext O0.2) fun T1 X1 e1 => (zalenC X1 hx hby d_prog_46_method_12_19 hZ e1 (A_w_arr0.ext O0.2) (3 : Int32) Al_w_arr0 (ziadd X1 hx hby d_prog_46_method_12_20 (4 : Int32) (by decide) (zistoreN X1 hx hby d_prog_46_method_12_21 (L' := #[rv b900, iv 1, iv 7, iv 4]) rfl (zgoto X1 hx hby d_prog_46_method_12_22 2 (by decide) (by decide) (ziloadN X1 hx hby d_prog_46_method_12_2 rfl (ziloadN X1 hx hby d_prog_46_method_12_3 rfl (zicmpNo X1 hx hby d_prog_46_method_12_4 (by decide) (zaloadN X1 hx hby d_prog_46_method_12_7 rfl rfl ?_)))))))))
  show zEnds p e below s T1 (mkF m 8 #[rv b900, iv 1, iv 7, iv 4] [(.ref b900)]) _ _ _
  refine ziloadN X1 hx hby d_prog_46_method_12_8 rfl (zbaload X1 hx hby d_prog_46_method_12_9 hZ e1 A_b900 (by decide) (v := (.int 27)) rfl (zbipush X1 hx hby d_prog_46_method_12_10 (z := (27 : Int32)) rfl (zicmpNo X1 hx hby d_prog_46_method_12_12 (by decide) (ziloadN X1 hx hby d_prog_46_method_12_15 rfl (zgetstat X1 hx hby d_prog_46_method_12_16 hZ hown (host := "") (Or.inl (w10 hw)) Via.refl e1 (S_w_arr0.ext O0.2) fun T2 X2 e2 => (zalenC X2 hx hby d_prog_46_method_12_19 hZ e2 (A_w_arr0.ext O0.2) (3 : Int32) Al_w_arr0 (ziadd X2 hx hby d_prog_46_method_12_20 (7 : Int32) (by decide) (zistoreN X2 hx hby d_prog_46_method_12_21 (L' := #[rv b900, iv 1, iv 7, iv 7]) rfl (zgoto X2 hx hby d_prog_46_method_12_22 2 (by decide) (by decide) ?_)))))))))
  show zEnds p e below s T2 (mkF m 2 #[rv b900, iv 1, iv 7, iv 7] []) _ _ _
  refine ziloadN X2 hx hby d_prog_46_method_12_2 rfl (ziloadN X2 hx hby d_prog_46_method_12_3 rfl (zicmpYes X2 hx hby d_prog_46_method_12_4 25 (by decide) (by decide) (by decide) (ziloadN X2 hx hby d_prog_46_method_12_25 rfl ?_)))
  show zEnds p e below s T2 (mkF m 26 #[rv b900, iv 1, iv 7, iv 7] [(.int 7)]) _ _ _
  exact zretI X2 hx hby d_prog_46_method_12_26 hret hlk (by decide) (by decide) ⟨rfl, e2, rfl⟩
set_option maxRecDepth 65536 in
set_option maxHeartbeats 40000000 in
theorem c73_firstCharacter (l : Launch) {Z : State} {a0 : Array Value} (hw : ∀ d ∈ tables_1, d.before a0 Z = true) (ws : List Jvm.Cond) {w_arr0 : Addr} {cl_arr0 : Cell} {n0 : Nat} {h0 : Heap} (C : Ctx Z w_arr0 cl_arr0) (O0 : Old Z n0 h0) (Z0 : n0 ≤ h0.size) (b900 : Addr) (x2 : Int32) (x3 : Int32) (x4 : Int32) (x5 : Int32) (x6 : Int32) (x7 : Int32) (x8 : Int32) (x9 : Int32) (g_b900 : n0 ≤ b900) (A_b900 : zLst Z h0 b900 .byte [(.int x2), (.int 27), (.int x3), (.int x4), (.int 27), (.int x5), (.int x6), (.int x7), (.int x8), (.int x9), (.int 0), (.int 0), (.int 0), (.int 0), (.int 0), (.int 0), (.int 0), (.int 0), (.int 0), (.int 0)]) (k0 : ¬ (x7 = (27 : Int32))) : zCon l Z (⟨"com/example/kakehashi/kakehashi/message/Iso2022", "firstCharacter", "([BII)I"⟩ : MethodName) prog_46_method_12_code 4 (some .int) ws ({ frames := 0, cells := 0, slots := 0, locals := 0 } : Room) #[(.ref b900), (.int 1), (.int 8)] h0 (zSame (some (.int 7)) h0) := by
  obtain ⟨S_w_arr0, A_w_arr0, Al_w_arr0⟩ := C
  refine zenter (plainFor_of_name pn_0) (L0 := #[rv b900, iv 1, iv 8, .unset]) (fun m => by first | rfl | simp [entryFrame, mkF, argsToLocals, Value.category, maxLocals]) ?_
  intro p e s m below meth c T0 hx hZ hby hml hown0 hnm hret hlk X0 e0
  have hown : s.vm.findClass "com/example/kakehashi/kakehashi/message/Iso2022" = some m.cls := hown0
  have K0 := Keep.refl h0 []
  have N0 := Fr.nil n0
  show zEnds p e below s T0 (mkF m 0 #[rv b900, iv 1, iv 8, .unset] []) _ _ _
  refine ziloadN X0 hx hby d_prog_46_method_12_0 rfl (zistoreN X0 hx hby d_prog_46_method_12_1 (L' := #[rv b900, iv 1, iv 8, iv 1]) rfl (ziloadN X0 hx hby d_prog_46_method_12_2 rfl (ziloadN X0 hx hby d_prog_46_method_12_3 rfl (zicmpNo X0 hx hby d_prog_46_method_12_4 (by decide) (zaloadN X0 hx hby d_prog_46_method_12_7 rfl rfl (ziloadN X0 hx hby d_prog_46_method_12_8 rfl (zbaload X0 hx hby d_prog_46_method_12_9 hZ e0 A_b900 (by decide) (v := (.int 27)) rfl (zbipush X0 hx hby d_prog_46_method_12_10 (z := (27 : Int32)) rfl (zicmpNo X0 hx hby d_prog_46_method_12_12 (by decide) ?_)))))))))
  show zEnds p e below s T0 (mkF m 15 #[rv b900, iv 1, iv 8, iv 1] []) _ _ _
  refine ziloadN X0 hx hby d_prog_46_method_12_15 rfl (zgetstat X0 hx hby d_prog_46_method_12_16 hZ hown (host := "") (Or.inl (w10 hw)) Via.refl e0 (S_w_arr0.ext O0.2) fun T1 X1 e1 => (zalenC X1 hx hby d_prog_46_method_12_19 hZ e1 (A_w_arr0.ext O0.2) (3 : Int32) Al_w_arr0 (ziadd X1 hx hby d_prog_46_method_12_20 (4 : Int32) (by decide) (zistoreN X1 hx hby d_prog_46_method_12_21 (L' := #[rv b900, iv 1, iv 8, iv 4]) rfl (zgoto X1 hx hby d_prog_46_method_12_22 2 (by decide) (by decide) (ziloadN X1 hx hby d_prog_46_method_12_2 rfl (ziloadN X1 hx hby d_prog_46_method_12_3 rfl (zicmpNo X1 hx hby d_prog_46_method_12_4 (by decide) (zaloadN X1 hx hby d_prog_46_method_12_7 rfl rfl ?_)))))))))
  show zEnds p e below s T1 (mkF m 8 #[rv b900, iv 1, iv 8, iv 4] [(.ref b900)]) _ _ _
  refine ziloadN X1 hx hby d_prog_46_method_12_8 rfl (zbaload X1 hx hby d_prog_46_method_12_9 hZ e1 A_b900 (by decide) (v := (.int 27)) rfl (zbipush X1 hx hby d_prog_46_method_12_10 (z := (27 : Int32)) rfl (zicmpNo X1 hx hby d_prog_46_method_12_12 (by decide) (ziloadN X1 hx hby d_prog_46_method_12_15 rfl (zgetstat X1 hx hby d_prog_46_method_12_16 hZ hown (host := "") (Or.inl (w10 hw)) Via.refl e1 (S_w_arr0.ext O0.2) fun T2 X2 e2 => (zalenC X2 hx hby d_prog_46_method_12_19 hZ e2 (A_w_arr0.ext O0.2) (3 : Int32) Al_w_arr0 (ziadd X2 hx hby d_prog_46_method_12_20 (7 : Int32) (by decide) (zistoreN X2 hx hby d_prog_46_method_12_21 (L' := #[rv b900, iv 1, iv 8, iv 7]) rfl (zgoto X2 hx hby d_prog_46_method_12_22 2 (by decide) (by decide) ?_)))))))))
  show zEnds p e below s T2 (mkF m 2 #[rv b900, iv 1, iv 8, iv 7] []) _ _ _
  refine ziloadN X2 hx hby d_prog_46_method_12_2 rfl (ziloadN X2 hx hby d_prog_46_method_12_3 rfl (zicmpNo X2 hx hby d_prog_46_method_12_4 (by decide) (zaloadN X2 hx hby d_prog_46_method_12_7 rfl rfl (ziloadN X2 hx hby d_prog_46_method_12_8 rfl (zbaload X2 hx hby d_prog_46_method_12_9 hZ e2 A_b900 (by decide) (v := (.int x7)) rfl (zbipush X2 hx hby d_prog_46_method_12_10 (z := (27 : Int32)) rfl (zicmpYes X2 hx hby d_prog_46_method_12_12 25 (feq k0).2 (by decide) (by decide) (ziloadN X2 hx hby d_prog_46_method_12_25 rfl ?_))))))))
  show zEnds p e below s T2 (mkF m 26 #[rv b900, iv 1, iv 8, iv 7] [(.int 7)]) _ _ _
  exact zretI X2 hx hby d_prog_46_method_12_26 hret hlk (by decide) (by decide) ⟨rfl, e2, rfl⟩
set_option maxRecDepth 65536 in
set_option maxHeartbeats 40000000 in
theorem c75_firstCharacter (l : Launch) {Z : State} {a0 : Array Value} (hw : ∀ d ∈ tables_1, d.before a0 Z = true) (ws : List Jvm.Cond) {w_arr0 : Addr} {cl_arr0 : Cell} {n0 : Nat} {h0 : Heap} (C : Ctx Z w_arr0 cl_arr0) (O0 : Old Z n0 h0) (Z0 : n0 ≤ h0.size) (b900 : Addr) (x2 : Int32) (x3 : Int32) (x4 : Int32) (x5 : Int32) (x6 : Int32) (x7 : Int32) (x8 : Int32) (x9 : Int32) (x10 : Int32) (g_b900 : n0 ≤ b900) (A_b900 : zLst Z h0 b900 .byte [(.int x2), (.int 27), (.int x3), (.int x4), (.int 27), (.int x5), (.int x6), (.int x7), (.int x8), (.int x9), (.int x10), (.int 0), (.int 0), (.int 0), (.int 0), (.int 0), (.int 0), (.int 0), (.int 0), (.int 0)]) (k0 : ¬ (x7 = (27 : Int32))) : zCon l Z (⟨"com/example/kakehashi/kakehashi/message/Iso2022", "firstCharacter", "([BII)I"⟩ : MethodName) prog_46_method_12_code 4 (some .int) ws ({ frames := 0, cells := 0, slots := 0, locals := 0 } : Room) #[(.ref b900), (.int 1), (.int 9)] h0 (zSame (some (.int 7)) h0) := by
  obtain ⟨S_w_arr0, A_w_arr0, Al_w_arr0⟩ := C
  refine zenter (plainFor_of_name pn_0) (L0 := #[rv b900, iv 1, iv 9, .unset]) (fun m => by first | rfl | simp [entryFrame, mkF, argsToLocals, Value.category, maxLocals]) ?_
  intro p e s m below meth c T0 hx hZ hby hml hown0 hnm hret hlk X0 e0
  have hown : s.vm.findClass "com/example/kakehashi/kakehashi/message/Iso2022" = some m.cls := hown0
  have K0 := Keep.refl h0 []
  have N0 := Fr.nil n0
  show zEnds p e below s T0 (mkF m 0 #[rv b900, iv 1, iv 9, .unset] []) _ _ _
  refine ziloadN X0 hx hby d_prog_46_method_12_0 rfl (zistoreN X0 hx hby d_prog_46_method_12_1 (L' := #[rv b900, iv 1, iv 9, iv 1]) rfl (ziloadN X0 hx hby d_prog_46_method_12_2 rfl (ziloadN X0 hx hby d_prog_46_method_12_3 rfl (zicmpNo X0 hx hby d_prog_46_method_12_4 (by decide) (zaloadN X0 hx hby d_prog_46_method_12_7 rfl rfl (ziloadN X0 hx hby d_prog_46_method_12_8 rfl (zbaload X0 hx hby d_prog_46_method_12_9 hZ e0 A_b900 (by decide) (v := (.int 27)) rfl (zbipush X0 hx hby d_prog_46_method_12_10 (z := (27 : Int32)) rfl (zicmpNo X0 hx hby d_prog_46_method_12_12 (by decide) ?_)))))))))
  show zEnds p e below s T0 (mkF m 15 #[rv b900, iv 1, iv 9, iv 1] []) _ _ _
  refine ziloadN X0 hx hby d_prog_46_method_12_15 rfl (zgetstat X0 hx hby d_prog_46_method_12_16 hZ hown (host := "") (Or.inl (w10 hw)) Via.refl e0 (S_w_arr0.ext O0.2) fun T1 X1 e1 => (zalenC X1 hx hby d_prog_46_method_12_19 hZ e1 (A_w_arr0.ext O0.2) (3 : Int32) Al_w_arr0 (ziadd X1 hx hby d_prog_46_method_12_20 (4 : Int32) (by decide) (zistoreN X1 hx hby d_prog_46_method_12_21 (L' := #[rv b900, iv 1, iv 9, iv 4]) rfl (zgoto X1 hx hby d_prog_46_method_12_22 2 (by decide) (by decide) (ziloadN X1 hx hby d_prog_46_method_12_2 rfl (ziloadN X1 hx hby d_prog_46_method_12_3 rfl (zicmpNo X1 hx hby d_prog_46_method_12_4 (by decide) (zaloadN X1 hx hby d_prog_46_method_12_7 rfl rfl ?_)))))))))
  show zEnds p e below s T1 (mkF m 8 #[rv b900, iv 1, iv 9, iv 4] [(.ref b900)]) _ _ _
  refine ziloadN X1 hx hby d_prog_46_method_12_8 rfl (zbaload X1 hx hby d_prog_46_method_12_9 hZ e1 A_b900 (by decide) (v := (.int 27)) rfl (zbipush X1 hx hby d_prog_46_method_12_10 (z := (27 : Int32)) rfl (zicmpNo X1 hx hby d_prog_46_method_12_12 (by decide) (ziloadN X1 hx hby d_prog_46_method_12_15 rfl (zgetstat X1 hx hby d_prog_46_method_12_16 hZ hown (host := "") (Or.inl (w10 hw)) Via.refl e1 (S_w_arr0.ext O0.2) fun T2 X2 e2 => (zalenC X2 hx hby d_prog_46_method_12_19 hZ e2 (A_w_arr0.ext O0.2) (3 : Int32) Al_w_arr0 (ziadd X2 hx hby d_prog_46_method_12_20 (7 : Int32) (by decide) (zistoreN X2 hx hby d_prog_46_method_12_21 (L' := #[rv b900, iv 1, iv 9, iv 7]) rfl (zgoto X2 hx hby d_prog_46_method_12_22 2 (by decide) (by decide) ?_)))))))))
  show zEnds p e below s T2 (mkF m 2 #[rv b900, iv 1, iv 9, iv 7] []) _ _ _
  refine ziloadN X2 hx hby d_prog_46_method_12_2 rfl (ziloadN X2 hx hby d_prog_46_method_12_3 rfl (zicmpNo X2 hx hby d_prog_46_method_12_4 (by decide) (zaloadN X2 hx hby d_prog_46_method_12_7 rfl rfl (ziloadN X2 hx hby d_prog_46_method_12_8 rfl (zbaload X2 hx hby d_prog_46_method_12_9 hZ e2 A_b900 (by decide) (v := (.int x7)) rfl (zbipush X2 hx hby d_prog_46_method_12_10 (z := (27 : Int32)) rfl (zicmpYes X2 hx hby d_prog_46_method_12_12 25 (feq k0).2 (by decide) (by decide) (ziloadN X2 hx hby d_prog_46_method_12_25 rfl ?_))))))))
  show zEnds p e below s T2 (mkF m 26 #[rv b900, iv 1, iv 9, iv 7] [(.int 7)]) _ _ _
  exact zretI X2 hx hby d_prog_46_method_12_26 hret hlk (by decide) (by decide) ⟨rfl, e2, rfl⟩
set_option maxRecDepth 65536 in
set_option maxHeartbeats 40000000 in
theorem c77_esc (l : Launch) {Z : State} {a0 : Array Value} (hw : ∀ d ∈ tables_1, d.before a0 Z = true) (ws : List Jvm.Cond) {w_arr0 : Addr} {cl_arr0 : Cell} {n0 : Nat} {h0 : Heap} (C : Ctx Z w_arr0 cl_arr0) (O0 : Old Z n0 h0) (Z0 : n0 ≤ h0.size) (x2 : Int32) (b900 : Addr) (x3 : Int32) (x4 : Int32) (x5 : Int32) (x6 : Int32) (x7 : Int32) (x8 : Int32) (x9 : Int32) (x10 : Int32) (x11 : Int32) (x12 : Int32) (x13 : Int32) (x14 : Int32) (x15 : Int32) (x16 : Int32) (x17 : Int32) (x18 : Int32) (x19 : Int32) (x20 : Int32) (x21 : Int32) (x22 : Int32) (g_b900 : n0 ≤ b900) (A_b900 : zLst Z h0 b900 .byte [(.int x3), (.int x4), (.int x5), (.int x6), (.int x7), (.int x8), (.int x9), (.int x10), (.int x11), (.int x12), (.int x13), (.int x14), (.int x15), (.int x16), (.int x17), (.int x18), (.int x19), (.int x20), (.int x21), (.int x22)]) (k0 : ¬ (x10 = (27 : Int32))) : zCon l Z (⟨"com/example/kakehashi/kakehashi/message/Iso2022FirstCharacterPinLaw", "esc", "([BII)I"⟩ : MethodName) method_2_code 4 (some .int) ws ({ frames := 0, cells := 0, slots := 0, locals := 0 } : Room) #[(.ref b900), (.int 8), (.int x2)] h0 (fun v h L => v = some (.int 11) ∧ Fr n0 L ∧ Keep h0 h [b900] ∧ zLst Z h b900 .byte [(.int x3), (.int x4), (.int x5), (.int x6), (.int x7), (.int x8), (.int x9), (.int x10), (.int 27), (.int ((e1v x2).toInt8.toInt32)), (.int ((e2v x2).toInt8.toInt32)), (.int x14), (.int x15), (.int x16), (.int x17), (.int x18), (.int x19), (.int x20), (.int x21), (.int x22)]) := by
  obtain ⟨S_w_arr0, A_w_arr0, Al_w_arr0⟩ := C
  refine zenter (plainFor_of_name pn_1) (L0 := #[rv b900, iv 8, iv x2, .unset]) (fun m => by first | rfl | simp [entryFrame, mkF, argsToLocals, Value.category, maxLocals]) ?_
  intro p e s m below meth c T0 hx hZ hby hml hown0 hnm hret hlk X0 e0
  have hown : s.vm.findClass "com/example/kakehashi/kakehashi/message/Iso2022FirstCharacterPinLaw" = some m.cls := hown0
  have K0 := Keep.refl h0 [b900]
  have N0 := Fr.nil n0
  show zEnds p e below s T0 (mkF m 0 #[rv b900, iv 8, iv x2, .unset] []) _ _ _
  refine ziloadN X0 hx hby d_method_2_0 rfl (ziconst X0 hx hby d_method_2_1 (z := (3 : Int32)) rfl (zirem X0 hx hby d_method_2_2 (x2 % (3 : Int32)) (by decide) rfl (zistoreN X0 hx hby d_method_2_3 (L' := #[rv b900, iv 8, iv x2, iv (x2 % (3 : Int32))]) rfl (zaloadN X0 hx hby d_method_2_4 rfl rfl (ziloadN X0 hx hby d_method_2_5 rfl (zbipush X0 hx hby d_method_2_6 (z := (27 : Int32)) rfl (zbastore X0 hx hby d_method_2_8 hZ e0 A_b900 (by decide) (by show Int32.toNatClampNeg 8 < 20; decide) (27 : Int32) (by decide) fun T1 h1 X1 e1 W1 A1_b900 => ?_)))))))
  change zLst Z h1 b900 .byte [(.int x3), (.int x4), (.int x5), (.int x6), (.int x7), (.int x8), (.int x9), (.int x10), (.int 27), (.int x12), (.int x13), (.int x14), (.int x15), (.int x16), (.int x17), (.int x18), (.int x19), (.int x20), (.int x21), (.int x22)] at A1_b900
  have O1 := O0.wr W1 g_b900
  have K1 := Keep.wr K0 W1 (Or.inl (List.mem_of_getElem? (i := 0) rfl))
  have N1 := Fr.snoc X1 N0 g_b900
  refine zaloadN X1 hx hby d_method_2_9 rfl rfl (ziloadN X1 hx hby d_method_2_10 rfl (ziconst X1 hx hby d_method_2_11 (z := (1 : Int32)) rfl (ziadd X1 hx hby d_method_2_12 (9 : Int32) (by decide) (ziloadN X1 hx hby d_method_2_13 rfl ?_))))
  show zEnds p e below s T1 (mkF m 14 #[rv b900, iv 8, iv x2, iv (x2 % (3 : Int32))] [(.int (x2 % (3 : Int32))), (.int 9), (.ref b900)]) _ _ _
  refine zjoin (T' := T1) (F' := (mkF m 24 #[rv b900, iv 8, iv x2, iv (x2 % (3 : Int32))] [(.int (e1v x2)), (.int 9), (.ref b900)])) (fun K => ?_) ?_
  · show zEnds p e below s T1 (mkF m 14 #[rv b900, iv 8, iv x2, iv (x2 % (3 : Int32))] [(.int (x2 % (3 : Int32))), (.int 9), (.ref b900)]) _ _ _
    by_cases hc2 : (x2 % (3 : Int32)) = (0 : Int32)
    · refine zifNo X1 hx hby d_method_2_14 ((if0 _ _).trans (teq hc2).2) (zbipush X1 hx hby d_method_2_17 (z := (36 : Int32)) rfl (zgoto X1 hx hby d_method_2_19 24 (by decide) (by decide) ?_))
      show zEnds p e below s T1 (mkF m 24 #[rv b900, iv 8, iv x2, iv (x2 % (3 : Int32))] [(.int 36), (.int 9), (.ref b900)]) _ _ _
      rw [show (36 : Int32) = (e1v x2) from by simp +decide [e1v, k0, hc2]]; exact K
    · refine zifYes X1 hx hby d_method_2_14 22 ((if0 _ _).trans (feq hc2).2) (by decide) (by decide) (zbipush X1 hx hby d_method_2_22 (z := (40 : Int32)) rfl ?_)
      show zEnds p e below s T1 (mkF m 24 #[rv b900, iv 8, iv x2, iv (x2 % (3 : Int32))] [(.int 40), (.int 9), (.ref b900)]) _ _ _
      rw [show (40 : Int32) = (e1v x2) from by simp +decide [e1v, k0, hc2]]; exact K
  refine zi2b X1 hx hby d_method_2_24 ((e1v x2).toInt8.toInt32) rfl (zbastore X1 hx hby d_method_2_25 hZ e1 A1_b900 (by decide) (by show Int32.toNatClampNeg 9 < 20; decide) ((e1v x2).toInt8.toInt32) (own_nar8 _) fun T3 h3 X3 e3 W3 A3_b900 => ?_)
  change zLst Z h3 b900 .byte [(.int x3), (.int x4), (.int x5), (.int x6), (.int x7), (.int x8), (.int x9), (.int x10), (.int 27), (.int ((e1v x2).toInt8.toInt32)), (.int x13), (.int x14), (.int x15), (.int x16), (.int x17), (.int x18), (.int x19), (.int x20), (.int x21), (.int x22)] at A3_b900
  have O3 := O1.wr W3 g_b900
  have K3 := Keep.wr K1 W3 (Or.inl (List.mem_of_getElem? (i := 0) rfl))
  have N3 := Fr.snoc X3 N1 g_b900
  refine zaloadN X3 hx hby d_method_2_26 rfl rfl (ziloadN X3 hx hby d_method_2_27 rfl (ziconst X3 hx hby d_method_2_28 (z := (2 : Int32)) rfl (ziadd X3 hx hby d_method_2_29 (10 : Int32) (by decide) (ziloadN X3 hx hby d_method_2_30 rfl (ziconst X3 hx hby d_method_2_31 (z := (2 : Int32)) rfl ?_)))))
  show zEnds p e below s T3 (mkF m 32 #[rv b900, iv 8, iv x2, iv (x2 % (3 : Int32))] [(.int 2), (.int (x2 % (3 : Int32))), (.int 10), (.ref b900)]) _ _ _
  refine zjoin (T' := T3) (F' := (mkF m 42 #[rv b900, iv 8, iv x2, iv (x2 % (3 : Int32))] [(.int (e2v x2)), (.int 10), (.ref b900)])) (fun K => ?_) ?_
  · show zEnds p e below s T3 (mkF m 32 #[rv b900, iv 8, iv x2, iv (x2 % (3 : Int32))] [(.int 2), (.int (x2 % (3 : Int32))), (.int 10), (.ref b900)]) _ _ _
    by_cases hc4 : (x2 % (3 : Int32)) = (2 : Int32)
    · refine zicmpNo X3 hx hby d_method_2_32 (teq hc4).2 (zbipush X3 hx hby d_method_2_35 (z := (74 : Int32)) rfl (zgoto X3 hx hby d_method_2_37 42 (by decide) (by decide) ?_))
      show zEnds p e below s T3 (mkF m 42 #[rv b900, iv 8, iv x2, iv (x2 % (3 : Int32))] [(.int 74), (.int 10), (.ref b900)]) _ _ _
      rw [show (74 : Int32) = (e2v x2) from by simp +decide [e2v, k0, hc4]]; exact K
    · refine zicmpYes X3 hx hby d_method_2_32 40 (feq hc4).2 (by decide) (by decide) (zbipush X3 hx hby d_method_2_40 (z := (66 : Int32)) rfl ?_)
      show zEnds p e below s T3 (mkF m 42 #[rv b900, iv 8, iv x2, iv (x2 % (3 : Int32))] [(.int 66), (.int 10), (.ref b900)]) _ _ _
      rw [show (66 : Int32) = (e2v x2) from by simp +decide [e2v, k0, hc4]]; exact K
  refine zi2b X3 hx hby d_method_2_42 ((e2v x2).toInt8.toInt32) rfl (zbastore X3 hx hby d_method_2_43 hZ e3 A3_b900 (by decide) (by show Int32.toNatClampNeg 10 < 20; decide) ((e2v x2).toInt8.toInt32) (own_nar8 _) fun T5 h5 X5 e5 W5 A5_b900 => ?_)
  change zLst Z h5 b900 .byte [(.int x3), (.int x4), (.int x5), (.int x6), (.int x7), (.int x8), (.int x9), (.int x10), (.int 27), (.int ((e1v x2).toInt8.toInt32)), (.int ((e2v x2).toInt8.toInt32)), (.int x14), (.int x15), (.int x16), (.int x17), (.int x18), (.int x19), (.int x20), (.int x21), (.int x22)] at A5_b900
  have O5 := O3.wr W5 g_b900
  have K5 := Keep.wr K3 W5 (Or.inl (List.mem_of_getElem? (i := 0) rfl))
  have N5 := Fr.snoc X5 N3 g_b900
  refine ziloadN X5 hx hby d_method_2_44 rfl (ziconst X5 hx hby d_method_2_45 (z := (3 : Int32)) rfl (ziadd X5 hx hby d_method_2_46 (11 : Int32) (by decide) ?_))
  show zEnds p e below s T5 (mkF m 47 #[rv b900, iv 8, iv x2, iv (x2 % (3 : Int32))] [(.int 11)]) _ _ _
  exact zretI X5 hx hby d_method_2_47 hret hlk (by decide) (by decide) (by rw [e5]; exact ⟨rfl, N5, K5, A5_b900⟩)
set_option maxRecDepth 65536 in
set_option maxHeartbeats 40000000 in
theorem c79_firstCharacter (l : Launch) {Z : State} {a0 : Array Value} (hw : ∀ d ∈ tables_1, d.before a0 Z = true) (ws : List Jvm.Cond) {w_arr0 : Addr} {cl_arr0 : Cell} {n0 : Nat} {h0 : Heap} (C : Ctx Z w_arr0 cl_arr0) (O0 : Old Z n0 h0) (Z0 : n0 ≤ h0.size) (b900 : Addr) (x2 : Int32) (x3 : Int32) (x4 : Int32) (x5 : Int32) (x6 : Int32) (x7 : Int32) (x8 : Int32) (x9 : Int32) (x10 : Int32) (x11 : Int32) (g_b900 : n0 ≤ b900) (A_b900 : zLst Z h0 b900 .byte [(.int x2), (.int 27), (.int x3), (.int x4), (.int 27), (.int x5), (.int x6), (.int x7), (.int 27), (.int x8), (.int x9), (.int x10), (.int x11), (.int 0), (.int 0), (.int 0), (.int 0), (.int 0), (.int 0), (.int 0)]) (k0 : ¬ (x7 = (27 : Int32))) : zCon l Z (⟨"com/example/kakehashi/kakehashi/message/Iso2022", "firstCharacter", "([BII)I"⟩ : MethodName) prog_46_method_12_code 4 (some .int) ws ({ frames := 0, cells := 0, slots := 0, locals := 0 } : Room) #[(.ref b900), (.int 1), (.int 11)] h0 (zSame (some (.int 7)) h0) := by
  obtain ⟨S_w_arr0, A_w_arr0, Al_w_arr0⟩ := C
  refine zenter (plainFor_of_name pn_0) (L0 := #[rv b900, iv 1, iv 11, .unset]) (fun m => by first | rfl | simp [entryFrame, mkF, argsToLocals, Value.category, maxLocals]) ?_
  intro p e s m below meth c T0 hx hZ hby hml hown0 hnm hret hlk X0 e0
  have hown : s.vm.findClass "com/example/kakehashi/kakehashi/message/Iso2022" = some m.cls := hown0
  have K0 := Keep.refl h0 []
  have N0 := Fr.nil n0
  show zEnds p e below s T0 (mkF m 0 #[rv b900, iv 1, iv 11, .unset] []) _ _ _
  refine ziloadN X0 hx hby d_prog_46_method_12_0 rfl (zistoreN X0 hx hby d_prog_46_method_12_1 (L' := #[rv b900, iv 1, iv 11, iv 1]) rfl (ziloadN X0 hx hby d_prog_46_method_12_2 rfl (ziloadN X0 hx hby d_prog_46_method_12_3 rfl (zicmpNo X0 hx hby d_prog_46_method_12_4 (by decide) (zaloadN X0 hx hby d_prog_46_method_12_7 rfl rfl (ziloadN X0 hx hby d_prog_46_method_12_8 rfl (zbaload X0 hx hby d_prog_46_method_12_9 hZ e0 A_b900 (by decide) (v := (.int 27)) rfl (zbipush X0 hx hby d_prog_46_method_12_10 (z := (27 : Int32)) rfl (zicmpNo X0 hx hby d_prog_46_method_12_12 (by decide) ?_)))))))))
  show zEnds p e below s T0 (mkF m 15 #[rv b900, iv 1, iv 11, iv 1] []) _ _ _
  refine ziloadN X0 hx hby d_prog_46_method_12_15 rfl (zgetstat X0 hx hby d_prog_46_method_12_16 hZ hown (host := "") (Or.inl (w10 hw)) Via.refl e0 (S_w_arr0.ext O0.2) fun T1 X1 e1 => (zalenC X1 hx hby d_prog_46_method_12_19 hZ e1 (A_w_arr0.ext O0.2) (3 : Int32) Al_w_arr0 (ziadd X1 hx hby d_prog_46_method_12_20 (4 : Int32) (by decide) (zistoreN X1 hx hby d_prog_46_method_12_21 (L' := #[rv b900, iv 1, iv 11, iv 4]) rfl (zgoto X1 hx hby d_prog_46_method_12_22 2 (by decide) (by decide) (ziloadN X1 hx hby d_prog_46_method_12_2 rfl (ziloadN X1 hx hby d_prog_46_method_12_3 rfl (zicmpNo X1 hx hby d_prog_46_method_12_4 (by decide) (zaloadN X1 hx hby d_prog_46_method_12_7 rfl rfl ?_)))))))))
  show zEnds p e below s T1 (mkF m 8 #[rv b900, iv 1, iv 11, iv 4] [(.ref b900)]) _ _ _
  refine ziloadN X1 hx hby d_prog_46_method_12_8 rfl (zbaload X1 hx hby d_prog_46_method_12_9 hZ e1 A_b900 (by decide) (v := (.int 27)) rfl (zbipush X1 hx hby d_prog_46_method_12_10 (z := (27 : Int32)) rfl (zicmpNo X1 hx hby d_prog_46_method_12_12 (by decide) (ziloadN X1 hx hby d_prog_46_method_12_15 rfl (zgetstat X1 hx hby d_prog_46_method_12_16 hZ hown (host := "") (Or.inl (w10 hw)) Via.refl e1 (S_w_arr0.ext O0.2) fun T2 X2 e2 => (zalenC X2 hx hby d_prog_46_method_12_19 hZ e2 (A_w_arr0.ext O0.2) (3 : Int32) Al_w_arr0 (ziadd X2 hx hby d_prog_46_method_12_20 (7 : Int32) (by decide) (zistoreN X2 hx hby d_prog_46_method_12_21 (L' := #[rv b900, iv 1, iv 11, iv 7]) rfl (zgoto X2 hx hby d_prog_46_method_12_22 2 (by decide) (by decide) ?_)))))))))
  show zEnds p e below s T2 (mkF m 2 #[rv b900, iv 1, iv 11, iv 7] []) _ _ _
  refine ziloadN X2 hx hby d_prog_46_method_12_2 rfl (ziloadN X2 hx hby d_prog_46_method_12_3 rfl (zicmpNo X2 hx hby d_prog_46_method_12_4 (by decide) (zaloadN X2 hx hby d_prog_46_method_12_7 rfl rfl (ziloadN X2 hx hby d_prog_46_method_12_8 rfl (zbaload X2 hx hby d_prog_46_method_12_9 hZ e2 A_b900 (by decide) (v := (.int x7)) rfl (zbipush X2 hx hby d_prog_46_method_12_10 (z := (27 : Int32)) rfl (zicmpYes X2 hx hby d_prog_46_method_12_12 25 (feq k0).2 (by decide) (by decide) (ziloadN X2 hx hby d_prog_46_method_12_25 rfl ?_))))))))
  show zEnds p e below s T2 (mkF m 26 #[rv b900, iv 1, iv 11, iv 7] [(.int 7)]) _ _ _
  exact zretI X2 hx hby d_prog_46_method_12_26 hret hlk (by decide) (by decide) ⟨rfl, e2, rfl⟩
set_option maxRecDepth 65536 in
set_option maxHeartbeats 40000000 in
theorem c81_esc (l : Launch) {Z : State} {a0 : Array Value} (hw : ∀ d ∈ tables_1, d.before a0 Z = true) (ws : List Jvm.Cond) {w_arr0 : Addr} {cl_arr0 : Cell} {n0 : Nat} {h0 : Heap} (C : Ctx Z w_arr0 cl_arr0) (O0 : Old Z n0 h0) (Z0 : n0 ≤ h0.size) (x2 : Int32) (b900 : Addr) (x3 : Int32) (x4 : Int32) (x5 : Int32) (x6 : Int32) (x7 : Int32) (x8 : Int32) (x9 : Int32) (x10 : Int32) (x11 : Int32) (x12 : Int32) (x13 : Int32) (x14 : Int32) (x15 : Int32) (x16 : Int32) (x17 : Int32) (x18 : Int32) (x19 : Int32) (x20 : Int32) (x21 : Int32) (x22 : Int32) (g_b900 : n0 ≤ b900) (A_b900 : zLst Z h0 b900 .byte [(.int x3), (.int x4), (.int x5), (.int x6), (.int x7), (.int x8), (.int x9), (.int x10), (.int x11), (.int x12), (.int x13), (.int x14), (.int x15), (.int x16), (.int x17), (.int x18), (.int x19), (.int x20), (.int x21), (.int x22)]) : zCon l Z (⟨"com/example/kakehashi/kakehashi/message/Iso2022FirstCharacterPinLaw", "esc", "([BII)I"⟩ : MethodName) method_2_code 4 (some .int) ws ({ frames := 0, cells := 0, slots := 0, locals := 0 } : Room) #[(.ref b900), (.int 7), (.int x2)] h0 (fun v h L => v = some (.int 10) ∧ Fr n0 L ∧ Keep h0 h [b900] ∧ zLst Z h b900 .byte [(.int x3), (.int x4), (.int x5), (.int x6), (.int x7), (.int x8), (.int x9), (.int 27), (.int ((e1v x2).toInt8.toInt32)), (.int ((e2v x2).toInt8.toInt32)), (.int x13), (.int x14), (.int x15), (.int x16), (.int x17), (.int x18), (.int x19), (.int x20), (.int x21), (.int x22)]) := by
  obtain ⟨S_w_arr0, A_w_arr0, Al_w_arr0⟩ := C
  refine zenter (plainFor_of_name pn_1) (L0 := #[rv b900, iv 7, iv x2, .unset]) (fun m => by first | rfl | simp [entryFrame, mkF, argsToLocals, Value.category, maxLocals]) ?_
  intro p e s m below meth c T0 hx hZ hby hml hown0 hnm hret hlk X0 e0
  have hown : s.vm.findClass "com/example/kakehashi/kakehashi/message/Iso2022FirstCharacterPinLaw" = some m.cls := hown0
  have K0 := Keep.refl h0 [b900]
  have N0 := Fr.nil n0
  show zEnds p e below s T0 (mkF m 0 #[rv b900, iv 7, iv x2, .unset] []) _ _ _
  refine ziloadN X0 hx hby d_method_2_0 rfl (ziconst X0 hx hby d_method_2_1 (z := (3 : Int32)) rfl (zirem X0 hx hby d_method_2_2 (x2 % (3 : Int32)) (by decide) rfl (zistoreN X0 hx hby d_method_2_3 (L' := #[rv b900, iv 7, iv x2, iv (x2 % (3 : Int32))]) rfl (zaloadN X0 hx hby d_method_2_4 rfl rfl (ziloadN X0 hx hby d_method_2_5 rfl (zbipush X0 hx hby d_method_2_6 (z := (27 : Int32)) rfl (zbastore X0 hx hby d_method_2_8 hZ e0 A_b900 (by decide) (by show Int32.toNatClampNeg 7 < 20; decide) (27 : Int32) (by decide) fun T1 h1 X1 e1 W1 A1_b900 => ?_)))))))
  change zLst Z h1 b900 .byte [(.int x3), (.int x4), (.int x5), (.int x6), (.int x7), (.int x8), (.int x9), (.int 27), (.int x11), (.int x12), (.int x13), (.int x14), (.int x15), (.int x16), (.int x17), (.int x18), (.int x19), (.int x20), (.int x21), (.int x22)] at A1_b900
  have O1 := O0.wr W1 g_b900
  have K1 := Keep.wr K0 W1 (Or.inl (List.mem_of_getElem? (i := 0) rfl))
  have N1 := Fr.snoc X1 N0 g_b900
  refine zaloadN X1 hx hby d_method_2_9 rfl rfl (ziloadN X1 hx hby d_method_2_10 rfl (ziconst X1 hx hby d_method_2_11 (z := (1 : Int32)) rfl (ziadd X1 hx hby d_method_2_12 (8 : Int32) (by decide) (ziloadN X1 hx hby d_method_2_13 rfl ?_))))
  show zEnds p e below s T1 (mkF m 14 #[rv b900, iv 7, iv x2, iv (x2 % (3 : Int32))] [(.int (x2 % (3 : Int32))), (.int 8), (.ref b900)]) _ _ _
  refine zjoin (T' := T1) (F' := (mkF m 24 #[rv b900, iv 7, iv x2, iv (x2 % (3 : Int32))] [(.int (e1v x2)), (.int 8), (.ref b900)])) (fun K => ?_) ?_
  · show zEnds p e below s T1 (mkF m 14 #[rv b900, iv 7, iv x2, iv (x2 % (3 : Int32))] [(.int (x2 % (3 : Int32))), (.int 8), (.ref b900)]) _ _ _
    by_cases hc2 : (x2 % (3 : Int32)) = (0 : Int32)
    · refine zifNo X1 hx hby d_method_2_14 ((if0 _ _).trans (teq hc2).2) (zbipush X1 hx hby d_method_2_17 (z := (36 : Int32)) rfl (zgoto X1 hx hby d_method_2_19 24 (by decide) (by decide) ?_))
      show zEnds p e below s T1 (mkF m 24 #[rv b900, iv 7, iv x2, iv (x2 % (3 : Int32))] [(.int 36), (.int 8), (.ref b900)]) _ _ _
      rw [show (36 : Int32) = (e1v x2) from by simp +decide [e1v, hc2]]; exact K
    · refine zifYes X1 hx hby d_method_2_14 22 ((if0 _ _).trans (feq hc2).2) (by decide) (by decide) (zbipush X1 hx hby d_method_2_22 (z := (40 : Int32)) rfl ?_)
      show zEnds p e below s T1 (mkF m 24 #[rv b900, iv 7, iv x2, iv (x2 % (3 : Int32))] [(.int 40), (.int 8), (.ref b900)]) _ _ _
      rw [show (40 : Int32) = (e1v x2) from by simp +decide [e1v, hc2]]; exact K
  refine zi2b X1 hx hby d_method_2_24 ((e1v x2).toInt8.toInt32) rfl (zbastore X1 hx hby d_method_2_25 hZ e1 A1_b900 (by decide) (by show Int32.toNatClampNeg 8 < 20; decide) ((e1v x2).toInt8.toInt32) (own_nar8 _) fun T3 h3 X3 e3 W3 A3_b900 => ?_)
  change zLst Z h3 b900 .byte [(.int x3), (.int x4), (.int x5), (.int x6), (.int x7), (.int x8), (.int x9), (.int 27), (.int ((e1v x2).toInt8.toInt32)), (.int x12), (.int x13), (.int x14), (.int x15), (.int x16), (.int x17), (.int x18), (.int x19), (.int x20), (.int x21), (.int x22)] at A3_b900
  have O3 := O1.wr W3 g_b900
  have K3 := Keep.wr K1 W3 (Or.inl (List.mem_of_getElem? (i := 0) rfl))
  have N3 := Fr.snoc X3 N1 g_b900
  refine zaloadN X3 hx hby d_method_2_26 rfl rfl (ziloadN X3 hx hby d_method_2_27 rfl (ziconst X3 hx hby d_method_2_28 (z := (2 : Int32)) rfl (ziadd X3 hx hby d_method_2_29 (9 : Int32) (by decide) (ziloadN X3 hx hby d_method_2_30 rfl (ziconst X3 hx hby d_method_2_31 (z := (2 : Int32)) rfl ?_)))))
  show zEnds p e below s T3 (mkF m 32 #[rv b900, iv 7, iv x2, iv (x2 % (3 : Int32))] [(.int 2), (.int (x2 % (3 : Int32))), (.int 9), (.ref b900)]) _ _ _
  refine zjoin (T' := T3) (F' := (mkF m 42 #[rv b900, iv 7, iv x2, iv (x2 % (3 : Int32))] [(.int (e2v x2)), (.int 9), (.ref b900)])) (fun K => ?_) ?_
  · show zEnds p e below s T3 (mkF m 32 #[rv b900, iv 7, iv x2, iv (x2 % (3 : Int32))] [(.int 2), (.int (x2 % (3 : Int32))), (.int 9), (.ref b900)]) _ _ _
    by_cases hc4 : (x2 % (3 : Int32)) = (2 : Int32)
    · refine zicmpNo X3 hx hby d_method_2_32 (teq hc4).2 (zbipush X3 hx hby d_method_2_35 (z := (74 : Int32)) rfl (zgoto X3 hx hby d_method_2_37 42 (by decide) (by decide) ?_))
      show zEnds p e below s T3 (mkF m 42 #[rv b900, iv 7, iv x2, iv (x2 % (3 : Int32))] [(.int 74), (.int 9), (.ref b900)]) _ _ _
      rw [show (74 : Int32) = (e2v x2) from by simp +decide [e2v, hc4]]; exact K
    · refine zicmpYes X3 hx hby d_method_2_32 40 (feq hc4).2 (by decide) (by decide) (zbipush X3 hx hby d_method_2_40 (z := (66 : Int32)) rfl ?_)
      show zEnds p e below s T3 (mkF m 42 #[rv b900, iv 7, iv x2, iv (x2 % (3 : Int32))] [(.int 66), (.int 9), (.ref b900)]) _ _ _
      rw [show (66 : Int32) = (e2v x2) from by simp +decide [e2v, hc4]]; exact K
  refine zi2b X3 hx hby d_method_2_42 ((e2v x2).toInt8.toInt32) rfl (zbastore X3 hx hby d_method_2_43 hZ e3 A3_b900 (by decide) (by show Int32.toNatClampNeg 9 < 20; decide) ((e2v x2).toInt8.toInt32) (own_nar8 _) fun T5 h5 X5 e5 W5 A5_b900 => ?_)
  change zLst Z h5 b900 .byte [(.int x3), (.int x4), (.int x5), (.int x6), (.int x7), (.int x8), (.int x9), (.int 27), (.int ((e1v x2).toInt8.toInt32)), (.int ((e2v x2).toInt8.toInt32)), (.int x13), (.int x14), (.int x15), (.int x16), (.int x17), (.int x18), (.int x19), (.int x20), (.int x21), (.int x22)] at A5_b900
  have O5 := O3.wr W5 g_b900
  have K5 := Keep.wr K3 W5 (Or.inl (List.mem_of_getElem? (i := 0) rfl))
  have N5 := Fr.snoc X5 N3 g_b900
  refine ziloadN X5 hx hby d_method_2_44 rfl (ziconst X5 hx hby d_method_2_45 (z := (3 : Int32)) rfl (ziadd X5 hx hby d_method_2_46 (10 : Int32) (by decide) ?_))
  show zEnds p e below s T5 (mkF m 47 #[rv b900, iv 7, iv x2, iv (x2 % (3 : Int32))] [(.int 10)]) _ _ _
  exact zretI X5 hx hby d_method_2_47 hret hlk (by decide) (by decide) (by rw [e5]; exact ⟨rfl, N5, K5, A5_b900⟩)
set_option maxRecDepth 65536 in
set_option maxHeartbeats 40000000 in
theorem c83_firstCharacter (l : Launch) {Z : State} {a0 : Array Value} (hw : ∀ d ∈ tables_1, d.before a0 Z = true) (ws : List Jvm.Cond) {w_arr0 : Addr} {cl_arr0 : Cell} {n0 : Nat} {h0 : Heap} (C : Ctx Z w_arr0 cl_arr0) (O0 : Old Z n0 h0) (Z0 : n0 ≤ h0.size) (b900 : Addr) (x2 : Int32) (x3 : Int32) (x4 : Int32) (x5 : Int32) (x6 : Int32) (x7 : Int32) (x8 : Int32) (x9 : Int32) (x10 : Int32) (g_b900 : n0 ≤ b900) (A_b900 : zLst Z h0 b900 .byte [(.int x2), (.int 27), (.int x3), (.int x4), (.int 27), (.int x5), (.int x6), (.int 27), (.int x7), (.int x8), (.int x9), (.int x10), (.int 0), (.int 0), (.int 0), (.int 0), (.int 0), (.int 0), (.int 0), (.int 0)]) : zCon l Z (⟨"com/example/kakehashi/kakehashi/message/Iso2022", "firstCharacter", "([BII)I"⟩ : MethodName) prog_46_method_12_code 4 (some .int) ws ({ frames := 0, cells := 0, slots := 0, locals := 0 } : Room) #[(.ref b900), (.int 1), (.int 10)] h0 (zSame (some (.int 10)) h0) := by
  obtain ⟨S_w_arr0, A_w_arr0, Al_w_arr0⟩ := C
  refine zenter (plainFor_of_name pn_0) (L0 := #[rv b900, iv 1, iv 10, .unset]) (fun m => by first | rfl | simp [entryFrame, mkF, argsToLocals, Value.category, maxLocals]) ?_
  intro p e s m below meth c T0 hx hZ hby hml hown0 hnm hret hlk X0 e0
  have hown : s.vm.findClass "com/example/kakehashi/kakehashi/message/Iso2022" = some m.cls := hown0
  have K0 := Keep.refl h0 []
  have N0 := Fr.nil n0
  show zEnds p e below s T0 (mkF m 0 #[rv b900, iv 1, iv 10, .unset] []) _ _ _
  refine ziloadN X0 hx hby d_prog_46_method_12_0 rfl (zistoreN X0 hx hby d_prog_46_method_12_1 (L' := #[rv b900, iv 1, iv 10, iv 1]) rfl (ziloadN X0 hx hby d_prog_46_method_12_2 rfl (ziloadN X0 hx hby d_prog_46_method_12_3 rfl (zicmpNo X0 hx hby d_prog_46_method_12_4 (by decide) (zaloadN X0 hx hby d_prog_46_method_12_7 rfl rfl (ziloadN X0 hx hby d_prog_46_method_12_8 rfl (zbaload X0 hx hby d_prog_46_method_12_9 hZ e0 A_b900 (by decide) (v := (.int 27)) rfl (zbipush X0 hx hby d_prog_46_method_12_10 (z := (27 : Int32)) rfl (zicmpNo X0 hx hby d_prog_46_method_12_12 (by decide) ?_)))))))))
  show zEnds p e below s T0 (mkF m 15 #[rv b900, iv 1, iv 10, iv 1] []) _ _ _
  refine ziloadN X0 hx hby d_prog_46_method_12_15 rfl (zgetstat X0 hx hby d_prog_46_method_12_16 hZ hown (host := "") (Or.inl (w10 hw)) Via.refl e0 (S_w_arr0.ext O0.2) fun T1 X1 e1 => (zalenC X1 hx hby d_prog_46_method_12_19 hZ e1 (A_w_arr0.ext O0.2) (3 : Int32) Al_w_arr0 (ziadd X1 hx hby d_prog_46_method_12_20 (4 : Int32) (by decide) (zistoreN X1 hx hby d_prog_46_method_12_21 (L' := #[rv b900, iv 1, iv 10, iv 4]) rfl (zgoto X1 hx hby d_prog_46_method_12_22 2 (by decide) (by decide) (ziloadN X1 hx hby d_prog_46_method_12_2 rfl (ziloadN X1 hx hby d_prog_46_method_12_3 rfl (zicmpNo X1 hx hby d_prog_46_method_12_4 (by decide) (zaloadN X1 hx hby d_prog_46_method_12_7 rfl rfl ?_)))))))))
  show zEnds p e below s T1 (mkF m 8 #[rv b900, iv 1, iv 10, iv 4] [(.ref b900)]) _ _ _
  refine ziloadN X1 hx hby d_prog_46_method_12_8 rfl (zbaload X1 hx hby d_prog_46_method_12_9 hZ e1 A_b900 (by decide) (v := (.int 27)) rfl (zbipush X1 hx hby d_prog_46_method_12_10 (z := (27 : Int32)) rfl (zicmpNo X1 hx hby d_prog_46_method_12_12 (by decide) (ziloadN X1 hx hby d_prog_46_method_12_15 rfl (zgetstat X1 hx hby d_prog_46_method_12_16 hZ hown (host := "") (Or.inl (w10 hw)) Via.refl e1 (S_w_arr0.ext O0.2) fun T2 X2 e2 => (zalenC X2 hx hby d_prog_46_method_12_19 hZ e2 (A_w_arr0.ext O0.2) (3 : Int32) Al_w_arr0 (ziadd X2 hx hby d_prog_46_method_12_20 (7 : Int32) (by decide) (zistoreN X2 hx hby d_prog_46_method_12_21 (L' := #[rv b900, iv 1, iv 10, iv 7]) rfl (zgoto X2 hx hby d_prog_46_method_12_22 2 (by decide) (by decide) ?_)))))))))
  show zEnds p e below s T2 (mkF m 2 #[rv b900, iv 1, iv 10, iv 7] []) _ _ _
  refine ziloadN X2 hx hby d_prog_46_method_12_2 rfl (ziloadN X2 hx hby d_prog_46_method_12_3 rfl (zicmpNo X2 hx hby d_prog_46_method_12_4 (by decide) (zaloadN X2 hx hby d_prog_46_method_12_7 rfl rfl (ziloadN X2 hx hby d_prog_46_method_12_8 rfl (zbaload X2 hx hby d_prog_46_method_12_9 hZ e2 A_b900 (by decide) (v := (.int 27)) rfl (zbipush X2 hx hby d_prog_46_method_12_10 (z := (27 : Int32)) rfl (zicmpNo X2 hx hby d_prog_46_method_12_12 (by decide) (ziloadN X2 hx hby d_prog_46_method_12_15 rfl (zgetstat X2 hx hby d_prog_46_method_12_16 hZ hown (host := "") (Or.inl (w10 hw)) Via.refl e2 (S_w_arr0.ext O0.2) fun T3 X3 e3 => ?_)))))))))
  show zEnds p e below s T3 (mkF m 19 #[rv b900, iv 1, iv 10, iv 7] [(.ref w_arr0), (.int 7)]) _ _ _
  refine zalenC X3 hx hby d_prog_46_method_12_19 hZ e3 (A_w_arr0.ext O0.2) (3 : Int32) Al_w_arr0 (ziadd X3 hx hby d_prog_46_method_12_20 (10 : Int32) (by decide) (zistoreN X3 hx hby d_prog_46_method_12_21 (L' := #[rv b900, iv 1, iv 10, iv 10]) rfl (zgoto X3 hx hby d_prog_46_method_12_22 2 (by decide) (by decide) (ziloadN X3 hx hby d_prog_46_method_12_2 rfl (ziloadN X3 hx hby d_prog_46_method_12_3 rfl (zicmpYes X3 hx hby d_prog_46_method_12_4 25 (by decide) (by decide) (by decide) (ziloadN X3 hx hby d_prog_46_method_12_25 rfl ?_)))))))
  show zEnds p e below s T3 (mkF m 26 #[rv b900, iv 1, iv 10, iv 10] [(.int 10)]) _ _ _
  exact zretI X3 hx hby d_prog_46_method_12_26 hret hlk (by decide) (by decide) ⟨rfl, e3, rfl⟩
set_option maxRecDepth 65536 in
set_option maxHeartbeats 40000000 in
theorem c85_firstCharacter (l : Launch) {Z : State} {a0 : Array Value} (hw : ∀ d ∈ tables_1, d.before a0 Z = true) (ws : List Jvm.Cond) {w_arr0 : Addr} {cl_arr0 : Cell} {n0 : Nat} {h0 : Heap} (C : Ctx Z w_arr0 cl_arr0) (O0 : Old Z n0 h0) (Z0 : n0 ≤ h0.size) (b900 : Addr) (x2 : Int32) (x3 : Int32) (x4 : Int32) (x5 : Int32) (x6 : Int32) (x7 : Int32) (x8 : Int32) (x9 : Int32) (x10 : Int32) (x11 : Int32) (g_b900 : n0 ≤ b900) (A_b900 : zLst Z h0 b900 .byte [(.int x2), (.int 27), (.int x3), (.int x4), (.int 27), (.int x5), (.int x6), (.int 27), (.int x7), (.int x8), (.int x9), (.int x10), (.int x11), (.int 0), (.int 0), (.int 0), (.int 0), (.int 0), (.int 0), (.int 0)]) (k0 : ¬ (x9 = (27 : Int32))) : zCon l Z (⟨"com/example/kakehashi/kakehashi/message/Iso2022", "firstCharacter", "([BII)I"⟩ : MethodName) prog_46_method_12_code 4 (some .int) ws ({ frames := 0, cells := 0, slots := 0, locals := 0 } : Room) #[(.ref b900), (.int 1), (.int 11)] h0 (zSame (some (.int 10)) h0) := by
  obtain ⟨S_w_arr0, A_w_arr0, Al_w_arr0⟩ := C
  refine zenter (plainFor_of_name pn_0) (L0 := #[rv b900, iv 1, iv 11, .unset]) (fun m => by first | rfl | simp [entryFrame, mkF, argsToLocals, Value.category, maxLocals]) ?_
  intro p e s m below meth c T0 hx hZ hby hml hown0 hnm hret hlk X0 e0
  have hown : s.vm.findClass "com/example/kakehashi/kakehashi/message/Iso2022" = some m.cls := hown0
  have K0 := Keep.refl h0 []
  have N0 := Fr.nil n0
  show zEnds p e below s T0 (mkF m 0 #[rv b900, iv 1, iv 11, .unset] []) _ _ _
  refine ziloadN X0 hx hby d_prog_46_method_12_0 rfl (zistoreN X0 hx hby d_prog_46_method_12_1 (L' := #[rv b900, iv 1, iv 11, iv 1]) rfl (ziloadN X0 hx hby d_prog_46_method_12_2 rfl (ziloadN X0 hx hby d_prog_46_method_12_3 rfl (zicmpNo X0 hx hby d_prog_46_method_12_4 (by decide) (zaloadN X0 hx hby d_prog_46_method_12_7 rfl rfl (ziloadN X0 hx hby d_prog_46_method_12_8 rfl (zbaload X0 hx hby d_prog_46_method_12_9 hZ e0 A_b900 (by decide) (v := (.int 27)) rfl (zbipush X0 hx hby d_prog_46_method_12_10 (z := (27 : Int32)) rfl (zicmpNo X0 hx hby d_prog_46_method_12_12 (by decide) ?_)))))))))
  show zEnds p e below s T0 (mkF m 15 #[rv b900, iv 1, iv 11, iv 1] []) _ _ _
  refine ziloadN X0 hx hby d_prog_46_method_12_15 rfl (zgetstat X0 hx hby d_prog_46_method_12_16 hZ hown (host := "") (Or.inl (w10 hw)) Via.refl e0 (S_w_arr0.ext O0.2) fun T1 X1 e1 => (zalenC X1 hx hby d_prog_46_method_12_19 hZ e1 (A_w_arr0.ext O0.2) (3 : Int32) Al_w_arr0 (ziadd X1 hx hby d_prog_46_method_12_20 (4 : Int32) (by decide) (zistoreN X1 hx hby d_prog_46_method_12_21 (L' := #[rv b900, iv 1, iv 11, iv 4]) rfl (zgoto X1 hx hby d_prog_46_method_12_22 2 (by decide) (by decide) (ziloadN X1 hx hby d_prog_46_method_12_2 rfl (ziloadN X1 hx hby d_prog_46_method_12_3 rfl (zicmpNo X1 hx hby d_prog_46_method_12_4 (by decide) (zaloadN X1 hx hby d_prog_46_method_12_7 rfl rfl ?_)))))))))
  show zEnds p e below s T1 (mkF m 8 #[rv b900, iv 1, iv 11, iv 4] [(.ref b900)]) _ _ _
  refine ziloadN X1 hx hby d_prog_46_method_12_8 rfl (zbaload X1 hx hby d_prog_46_method_12_9 hZ e1 A_b900 (by decide) (v := (.int 27)) rfl (zbipush X1 hx hby d_prog_46_method_12_10 (z := (27 : Int32)) rfl (zicmpNo X1 hx hby d_prog_46_method_12_12 (by decide) (ziloadN X1 hx hby d_prog_46_method_12_15 rfl (zgetstat X1 hx hby d_prog_46_method_12_16 hZ hown (host := "") (Or.inl (w10 hw)) Via.refl e1 (S_w_arr0.ext O0.2) fun T2 X2 e2 => (zalenC X2 hx hby d_prog_46_method_12_19 hZ e2 (A_w_arr0.ext O0.2) (3 : Int32) Al_w_arr0 (ziadd X2 hx hby d_prog_46_method_12_20 (7 : Int32) (by decide) (zistoreN X2 hx hby d_prog_46_method_12_21 (L' := #[rv b900, iv 1, iv 11, iv 7]) rfl (zgoto X2 hx hby d_prog_46_method_12_22 2 (by decide) (by decide) ?_)))))))))
  show zEnds p e below s T2 (mkF m 2 #[rv b900, iv 1, iv 11, iv 7] []) _ _ _
  refine ziloadN X2 hx hby d_prog_46_method_12_2 rfl (ziloadN X2 hx hby d_prog_46_method_12_3 rfl (zicmpNo X2 hx hby d_prog_46_method_12_4 (by decide) (zaloadN X2 hx hby d_prog_46_method_12_7 rfl rfl (ziloadN X2 hx hby d_prog_46_method_12_8 rfl (zbaload X2 hx hby d_prog_46_method_12_9 hZ e2 A_b900 (by decide) (v := (.int 27)) rfl (zbipush X2 hx hby d_prog_46_method_12_10 (z := (27 : Int32)) rfl (zicmpNo X2 hx hby d_prog_46_method_12_12 (by decide) (ziloadN X2 hx hby d_prog_46_method_12_15 rfl (zgetstat X2 hx hby d_prog_46_method_12_16 hZ hown (host := "") (Or.inl (w10 hw)) Via.refl e2 (S_w_arr0.ext O0.2) fun T3 X3 e3 => ?_)))))))))
  show zEnds p e below s T3 (mkF m 19 #[rv b900, iv 1, iv 11, iv 7] [(.ref w_arr0), (.int 7)]) _ _ _
  refine zalenC X3 hx hby d_prog_46_method_12_19 hZ e3 (A_w_arr0.ext O0.2) (3 : Int32) Al_w_arr0 (ziadd X3 hx hby d_prog_46_method_12_20 (10 : Int32) (by decide) (zistoreN X3 hx hby d_prog_46_method_12_21 (L' := #[rv b900, iv 1, iv 11, iv 10]) rfl (zgoto X3 hx hby d_prog_46_method_12_22 2 (by decide) (by decide) (ziloadN X3 hx hby d_prog_46_method_12_2 rfl (ziloadN X3 hx hby d_prog_46_method_12_3 rfl (zicmpNo X3 hx hby d_prog_46_method_12_4 (by decide) (zaloadN X3 hx hby d_prog_46_method_12_7 rfl rfl (ziloadN X3 hx hby d_prog_46_method_12_8 rfl (zbaload X3 hx hby d_prog_46_method_12_9 hZ e3 A_b900 (by decide) (v := (.int x9)) rfl ?_)))))))))
  show zEnds p e below s T3 (mkF m 10 #[rv b900, iv 1, iv 11, iv 10] [(.int x9)]) _ _ _
  refine zbipush X3 hx hby d_prog_46_method_12_10 (z := (27 : Int32)) rfl (zicmpYes X3 hx hby d_prog_46_method_12_12 25 (feq k0).2 (by decide) (by decide) (ziloadN X3 hx hby d_prog_46_method_12_25 rfl ?_))
  show zEnds p e below s T3 (mkF m 26 #[rv b900, iv 1, iv 11, iv 10] [(.int 10)]) _ _ _
  exact zretI X3 hx hby d_prog_46_method_12_26 hret hlk (by decide) (by decide) ⟨rfl, e3, rfl⟩
set_option maxRecDepth 65536 in
set_option maxHeartbeats 40000000 in
theorem c87_firstCharacter (l : Launch) {Z : State} {a0 : Array Value} (hw : ∀ d ∈ tables_1, d.before a0 Z = true) (ws : List Jvm.Cond) {w_arr0 : Addr} {cl_arr0 : Cell} {n0 : Nat} {h0 : Heap} (C : Ctx Z w_arr0 cl_arr0) (O0 : Old Z n0 h0) (Z0 : n0 ≤ h0.size) (b900 : Addr) (x2 : Int32) (x3 : Int32) (x4 : Int32) (x5 : Int32) (x6 : Int32) (x7 : Int32) (x8 : Int32) (x9 : Int32) (x10 : Int32) (x11 : Int32) (x12 : Int32) (g_b900 : n0 ≤ b900) (A_b900 : zLst Z h0 b900 .byte [(.int x2), (.int 27), (.int x3), (.int x4), (.int 27), (.int x5), (.int x6), (.int 27), (.int x7), (.int x8), (.int x9), (.int x10), (.int x11), (.int x12), (.int 0), (.int 0), (.int 0), (.int 0), (.int 0), (.int 0)]) (k0 : ¬ (x9 = (27 : Int32))) : zCon l Z (⟨"com/example/kakehashi/kakehashi/message/Iso2022", "firstCharacter", "([BII)I"⟩ : MethodName) prog_46_method_12_code 4 (some .int) ws ({ frames := 0, cells := 0, slots := 0, locals := 0 } : Room) #[(.ref b900), (.int 1), (.int 12)] h0 (zSame (some (.int 10)) h0) := by
  obtain ⟨S_w_arr0, A_w_arr0, Al_w_arr0⟩ := C
  refine zenter (plainFor_of_name pn_0) (L0 := #[rv b900, iv 1, iv 12, .unset]) (fun m => by first | rfl | simp [entryFrame, mkF, argsToLocals, Value.category, maxLocals]) ?_
  intro p e s m below meth c T0 hx hZ hby hml hown0 hnm hret hlk X0 e0
  have hown : s.vm.findClass "com/example/kakehashi/kakehashi/message/Iso2022" = some m.cls := hown0
  have K0 := Keep.refl h0 []
  have N0 := Fr.nil n0
  show zEnds p e below s T0 (mkF m 0 #[rv b900, iv 1, iv 12, .unset] []) _ _ _
  refine ziloadN X0 hx hby d_prog_46_method_12_0 rfl (zistoreN X0 hx hby d_prog_46_method_12_1 (L' := #[rv b900, iv 1, iv 12, iv 1]) rfl (ziloadN X0 hx hby d_prog_46_method_12_2 rfl (ziloadN X0 hx hby d_prog_46_method_12_3 rfl (zicmpNo X0 hx hby d_prog_46_method_12_4 (by decide) (zaloadN X0 hx hby d_prog_46_method_12_7 rfl rfl (ziloadN X0 hx hby d_prog_46_method_12_8 rfl (zbaload X0 hx hby d_prog_46_method_12_9 hZ e0 A_b900 (by decide) (v := (.int 27)) rfl (zbipush X0 hx hby d_prog_46_method_12_10 (z := (27 : Int32)) rfl (zicmpNo X0 hx hby d_prog_46_method_12_12 (by decide) ?_)))))))))
  show zEnds p e below s T0 (mkF m 15 #[rv b900, iv 1, iv 12, iv 1] []) _ _ _
  refine ziloadN X0 hx hby d_prog_46_method_12_15 rfl (zgetstat X0 hx hby d_prog_46_method_12_16 hZ hown (host := "") (Or.inl (w10 hw)) Via.refl e0 (S_w_arr0.ext O0.2) fun T1 X1 e1 => (zalenC X1 hx hby d_prog_46_method_12_19 hZ e1 (A_w_arr0.ext O0.2) (3 : Int32) Al_w_arr0 (ziadd X1 hx hby d_prog_46_method_12_20 (4 : Int32) (by decide) (zistoreN X1 hx hby d_prog_46_method_12_21 (L' := #[rv b900, iv 1, iv 12, iv 4]) rfl (zgoto X1 hx hby d_prog_46_method_12_22 2 (by decide) (by decide) (ziloadN X1 hx hby d_prog_46_method_12_2 rfl (ziloadN X1 hx hby d_prog_46_method_12_3 rfl (zicmpNo X1 hx hby d_prog_46_method_12_4 (by decide) (zaloadN X1 hx hby d_prog_46_method_12_7 rfl rfl ?_)))))))))
  show zEnds p e below s T1 (mkF m 8 #[rv b900, iv 1, iv 12, iv 4] [(.ref b900)]) _ _ _
  refine ziloadN X1 hx hby d_prog_46_method_12_8 rfl (zbaload X1 hx hby d_prog_46_method_12_9 hZ e1 A_b900 (by decide) (v := (.int 27)) rfl (zbipush X1 hx hby d_prog_46_method_12_10 (z := (27 : Int32)) rfl (zicmpNo X1 hx hby d_prog_46_method_12_12 (by decide) (ziloadN X1 hx hby d_prog_46_method_12_15 rfl (zgetstat X1 hx hby d_prog_46_method_12_16 hZ hown (host := "") (Or.inl (w10 hw)) Via.refl e1 (S_w_arr0.ext O0.2) fun T2 X2 e2 => (zalenC X2 hx hby d_prog_46_method_12_19 hZ e2 (A_w_arr0.ext O0.2) (3 : Int32) Al_w_arr0 (ziadd X2 hx hby d_prog_46_method_12_20 (7 : Int32) (by decide) (zistoreN X2 hx hby d_prog_46_method_12_21 (L' := #[rv b900, iv 1, iv 12, iv 7]) rfl (zgoto X2 hx hby d_prog_46_method_12_22 2 (by decide) (by decide) ?_)))))))))
  show zEnds p e below s T2 (mkF m 2 #[rv b900, iv 1, iv 12, iv 7] []) _ _ _
  refine ziloadN X2 hx hby d_prog_46_method_12_2 rfl (ziloadN X2 hx hby d_prog_46_method_12_3 rfl (zicmpNo X2 hx hby d_prog_46_method_12_4 (by decide) (zaloadN X2 hx hby d_prog_46_method_12_7 rfl rfl (ziloadN X2 hx hby d_prog_46_method_12_8 rfl (zbaload X2 hx hby d_prog_46_method_12_9 hZ e2 A_b900 (by decide) (v := (.int 27)) rfl (zbipush X2 hx hby d_prog_46_method_12_10 (z := (27 : Int32)) rfl (zicmpNo X2 hx hby d_prog_46_method_12_12 (by decide) (ziloadN X2 hx hby d_prog_46_method_12_15 rfl (zgetstat X2 hx hby d_prog_46_method_12_16 hZ hown (host := "") (Or.inl (w10 hw)) Via.refl e2 (S_w_arr0.ext O0.2) fun T3 X3 e3 => ?_)))))))))
  show zEnds p e below s T3 (mkF m 19 #[rv b900, iv 1, iv 12, iv 7] [(.ref w_arr0), (.int 7)]) _ _ _
  refine zalenC X3 hx hby d_prog_46_method_12_19 hZ e3 (A_w_arr0.ext O0.2) (3 : Int32) Al_w_arr0 (ziadd X3 hx hby d_prog_46_method_12_20 (10 : Int32) (by decide) (zistoreN X3 hx hby d_prog_46_method_12_21 (L' := #[rv b900, iv 1, iv 12, iv 10]) rfl (zgoto X3 hx hby d_prog_46_method_12_22 2 (by decide) (by decide) (ziloadN X3 hx hby d_prog_46_method_12_2 rfl (ziloadN X3 hx hby d_prog_46_method_12_3 rfl (zicmpNo X3 hx hby d_prog_46_method_12_4 (by decide) (zaloadN X3 hx hby d_prog_46_method_12_7 rfl rfl (ziloadN X3 hx hby d_prog_46_method_12_8 rfl (zbaload X3 hx hby d_prog_46_method_12_9 hZ e3 A_b900 (by decide) (v := (.int x9)) rfl ?_)))))))))
  show zEnds p e below s T3 (mkF m 10 #[rv b900, iv 1, iv 12, iv 10] [(.int x9)]) _ _ _
  refine zbipush X3 hx hby d_prog_46_method_12_10 (z := (27 : Int32)) rfl (zicmpYes X3 hx hby d_prog_46_method_12_12 25 (feq k0).2 (by decide) (by decide) (ziloadN X3 hx hby d_prog_46_method_12_25 rfl ?_))
  show zEnds p e below s T3 (mkF m 26 #[rv b900, iv 1, iv 12, iv 10] [(.int 10)]) _ _ _
  exact zretI X3 hx hby d_prog_46_method_12_26 hret hlk (by decide) (by decide) ⟨rfl, e3, rfl⟩
set_option maxRecDepth 65536 in
set_option maxHeartbeats 40000000 in
theorem c89_esc (l : Launch) {Z : State} {a0 : Array Value} (hw : ∀ d ∈ tables_1, d.before a0 Z = true) (ws : List Jvm.Cond) {w_arr0 : Addr} {cl_arr0 : Cell} {n0 : Nat} {h0 : Heap} (C : Ctx Z w_arr0 cl_arr0) (O0 : Old Z n0 h0) (Z0 : n0 ≤ h0.size) (x2 : Int32) (b900 : Addr) (x3 : Int32) (x4 : Int32) (x5 : Int32) (x6 : Int32) (x7 : Int32) (x8 : Int32) (x9 : Int32) (x10 : Int32) (x11 : Int32) (x12 : Int32) (x13 : Int32) (x14 : Int32) (x15 : Int32) (x16 : Int32) (x17 : Int32) (x18 : Int32) (x19 : Int32) (x20 : Int32) (x21 : Int32) (x22 : Int32) (g_b900 : n0 ≤ b900) (A_b900 : zLst Z h0 b900 .byte [(.int x3), (.int x4), (.int x5), (.int x6), (.int x7), (.int x8), (.int x9), (.int x10), (.int x11), (.int x12), (.int x13), (.int x14), (.int x15), (.int x16), (.int x17), (.int x18), (.int x19), (.int x20), (.int x21), (.int x22)]) (k0 : ¬ (x13 = (27 : Int32))) : zCon l Z (⟨"com/example/kakehashi/kakehashi/message/Iso2022FirstCharacterPinLaw", "esc", "([BII)I"⟩ : MethodName) method_2_code 4 (some .int) ws ({ frames := 0, cells := 0, slots := 0, locals := 0 } : Room) #[(.ref b900), (.int 11), (.int x2)] h0 (fun v h L => v = some (.int 14) ∧ Fr n0 L ∧ Keep h0 h [b900] ∧ zLst Z h b900 .byte [(.int x3), (.int x4), (.int x5), (.int x6), (.int x7), (.int x8), (.int x9), (.int x10), (.int x11), (.int x12), (.int x13), (.int 27), (.int ((e1v x2).toInt8.toInt32)), (.int ((e2v x2).toInt8.toInt32)), (.int x17), (.int x18), (.int x19), (.int x20), (.int x21), (.int x22)]) := by
  obtain ⟨S_w_arr0, A_w_arr0, Al_w_arr0⟩ := C
  refine zenter (plainFor_of_name pn_1) (L0 := #[rv b900, iv 11, iv x2, .unset]) (fun m => by first | rfl | simp [entryFrame, mkF, argsToLocals, Value.category, maxLocals]) ?_
  intro p e s m below meth c T0 hx hZ hby hml hown0 hnm hret hlk X0 e0
  have hown : s.vm.findClass "com/example/kakehashi/kakehashi/message/Iso2022FirstCharacterPinLaw" = some m.cls := hown0
  have K0 := Keep.refl h0 [b900]
  have N0 := Fr.nil n0
  show zEnds p e below s T0 (mkF m 0 #[rv b900, iv 11, iv x2, .unset] []) _ _ _
  refine ziloadN X0 hx hby d_method_2_0 rfl (ziconst X0 hx hby d_method_2_1 (z := (3 : Int32)) rfl (zirem X0 hx hby d_method_2_2 (x2 % (3 : Int32)) (by decide) rfl (zistoreN X0 hx hby d_method_2_3 (L' := #[rv b900, iv 11, iv x2, iv (x2 % (3 : Int32))]) rfl (zaloadN X0 hx hby d_method_2_4 rfl rfl (ziloadN X0 hx hby d_method_2_5 rfl (zbipush X0 hx hby d_method_2_6 (z := (27 : Int32)) rfl (zbastore X0 hx hby d_method_2_8 hZ e0 A_b900 (by decide) (by show Int32.toNatClampNeg 11 < 20; decide) (27 : Int32) (by decide) fun T1 h1 X1 e1 W1 A1_b900 => ?_)))))))
  change zLst Z h1 b900 .byte [(.int x3), (.int x4), (.int x5), (.int x6), (.int x7), (.int x8), (.int x9), (.int x10), (.int x11), (.int x12), (.int x13), (.int 27), (.int x15), (.int x16), (.int x17), (.int x18), (.int x19), (.int x20), (.int x21), (.int x22)] at A1_b900
  have O1 := O0.wr W1 g_b900
  have K1 := Keep.wr K0 W1 (Or.inl (List.mem_of_getElem? (i := 0) rfl))
  have N1 := Fr.snoc X1 N0 g_b900
  refine zaloadN X1 hx hby d_method_2_9 rfl rfl (ziloadN X1 hx hby d_method_2_10 rfl (ziconst X1 hx hby d_method_2_11 (z := (1 : Int32)) rfl (ziadd X1 hx hby d_method_2_12 (12 : Int32) (by decide) (ziloadN X1 hx hby d_method_2_13 rfl ?_))))
  show zEnds p e below s T1 (mkF m 14 #[rv b900, iv 11, iv x2, iv (x2 % (3 : Int32))] [(.int (x2 % (3 : Int32))), (.int 12), (.ref b900)]) _ _ _
  refine zjoin (T' := T1) (F' := (mkF m 24 #[rv b900, iv 11, iv x2, iv (x2 % (3 : Int32))] [(.int (e1v x2)), (.int 12), (.ref b900)])) (fun K => ?_) ?_
  · show zEnds p e below s T1 (mkF m 14 #[rv b900, iv 11, iv x2, iv (x2 % (3 : Int32))] [(.int (x2 % (3 : Int32))), (.int 12), (.ref b900)]) _ _ _
    by_cases hc2 : (x2 % (3 : Int32)) = (0 : Int32)
    · refine zifNo X1 hx hby d_method_2_14 ((if0 _ _).trans (teq hc2).2) (zbipush X1 hx hby d_method_2_17 (z := (36 : Int32)) rfl (zgoto X1 hx hby d_method_2_19 24 (by decide) (by decide) ?_))
      show zEnds p e below s T1 (mkF m 24 #[rv b900, iv 11, iv x2, iv (x2 % (3 : Int32))] [(.int 36), (.int 12), (.ref b900)]) _ _ _
      rw [show (36 : Int32) = (e1v x2) from by simp +decide [e1v, k0, hc2]]; exact K
    · refine zifYes X1 hx hby d_method_2_14 22 ((if0 _ _).trans (feq hc2).2) (by decide) (by decide) (zbipush X1 hx hby d_method_2_22 (z := (40 : Int32)) rfl ?_)
      show zEnds p e below s T1 (mkF m 24 #[rv b900, iv 11, iv x2, iv (x2 % (3 : Int32))] [(.int 40), (.int 12), (.ref b900)]) _ _ _
      rw [show (40 : Int32) = (e1v x2) from by simp +decide [e1v, k0, hc2]]; exact K
  refine zi2b X1 hx hby d_method_2_24 ((e1v x2).toInt8.toInt32) rfl (zbastore X1 hx hby d_method_2_25 hZ e1 A1_b900 (by decide) (by show Int32.toNatClampNeg 12 < 20; decide) ((e1v x2).toInt8.toInt32) (own_nar8 _) fun T3 h3 X3 e3 W3 A3_b900 => ?_)
  change zLst Z h3 b900 .byte [(.int x3), (.int x4), (.int x5), (.int x6), (.int x7), (.int x8), (.int x9), (.int x10), (.int x11), (.int x12), (.int x13), (.int 27), (.int ((e1v x2).toInt8.toInt32)), (.int x16), (.int x17), (.int x18), (.int x19), (.int x20), (.int x21), (.int x22)] at A3_b900
  have O3 := O1.wr W3 g_b900
  have K3 := Keep.wr K1 W3 (Or.inl (List.mem_of_getElem? (i := 0) rfl))
  have N3 := Fr.snoc X3 N1 g_b900
  refine zaloadN X3 hx hby d_method_2_26 rfl rfl (ziloadN X3 hx hby d_method_2_27 rfl (ziconst X3 hx hby d_method_2_28 (z := (2 : Int32)) rfl (ziadd X3 hx hby d_method_2_29 (13 : Int32) (by decide) (ziloadN X3 hx hby d_method_2_30 rfl (ziconst X3 hx hby d_method_2_31 (z := (2 : Int32)) rfl ?_)))))
  show zEnds p e below s T3 (mkF m 32 #[rv b900, iv 11, iv x2, iv (x2 % (3 : Int32))] [(.int 2), (.int (x2 % (3 : Int32))), (.int 13), (.ref b900)]) _ _ _
  refine zjoin (T' := T3) (F' := (mkF m 42 #[rv b900, iv 11, iv x2, iv (x2 % (3 : Int32))] [(.int (e2v x2)), (.int 13), (.ref b900)])) (fun K => ?_) ?_
  · show zEnds p e below s T3 (mkF m 32 #[rv b900, iv 11, iv x2, iv (x2 % (3 : Int32))] [(.int 2), (.int (x2 % (3 : Int32))), (.int 13), (.ref b900)]) _ _ _
    by_cases hc4 : (x2 % (3 : Int32)) = (2 : Int32)
    · refine zicmpNo X3 hx hby d_method_2_32 (teq hc4).2 (zbipush X3 hx hby d_method_2_35 (z := (74 : Int32)) rfl (zgoto X3 hx hby d_method_2_37 42 (by decide) (by decide) ?_))
      show zEnds p e below s T3 (mkF m 42 #[rv b900, iv 11, iv x2, iv (x2 % (3 : Int32))] [(.int 74), (.int 13), (.ref b900)]) _ _ _
      rw [show (74 : Int32) = (e2v x2) from by simp +decide [e2v, k0, hc4]]; exact K
    · refine zicmpYes X3 hx hby d_method_2_32 40 (feq hc4).2 (by decide) (by decide) (zbipush X3 hx hby d_method_2_40 (z := (66 : Int32)) rfl ?_)
      show zEnds p e below s T3 (mkF m 42 #[rv b900, iv 11, iv x2, iv (x2 % (3 : Int32))] [(.int 66), (.int 13), (.ref b900)]) _ _ _
      rw [show (66 : Int32) = (e2v x2) from by simp +decide [e2v, k0, hc4]]; exact K
  refine zi2b X3 hx hby d_method_2_42 ((e2v x2).toInt8.toInt32) rfl (zbastore X3 hx hby d_method_2_43 hZ e3 A3_b900 (by decide) (by show Int32.toNatClampNeg 13 < 20; decide) ((e2v x2).toInt8.toInt32) (own_nar8 _) fun T5 h5 X5 e5 W5 A5_b900 => ?_)
  change zLst Z h5 b900 .byte [(.int x3), (.int x4), (.int x5), (.int x6), (.int x7), (.int x8), (.int x9), (.int x10), (.int x11), (.int x12), (.int x13), (.int 27), (.int ((e1v x2).toInt8.toInt32)), (.int ((e2v x2).toInt8.toInt32)), (.int x17), (.int x18), (.int x19), (.int x20), (.int x21), (.int x22)] at A5_b900
  have O5 := O3.wr W5 g_b900
  have K5 := Keep.wr K3 W5 (Or.inl (List.mem_of_getElem? (i := 0) rfl))
  have N5 := Fr.snoc X5 N3 g_b900
  refine ziloadN X5 hx hby d_method_2_44 rfl (ziconst X5 hx hby d_method_2_45 (z := (3 : Int32)) rfl (ziadd X5 hx hby d_method_2_46 (14 : Int32) (by decide) ?_))
  show zEnds p e below s T5 (mkF m 47 #[rv b900, iv 11, iv x2, iv (x2 % (3 : Int32))] [(.int 14)]) _ _ _
  exact zretI X5 hx hby d_method_2_47 hret hlk (by decide) (by decide) (by rw [e5]; exact ⟨rfl, N5, K5, A5_b900⟩)
set_option maxRecDepth 65536 in
set_option maxHeartbeats 40000000 in
theorem c91_firstCharacter (l : Launch) {Z : State} {a0 : Array Value} (hw : ∀ d ∈ tables_1, d.before a0 Z = true) (ws : List Jvm.Cond) {w_arr0 : Addr} {cl_arr0 : Cell} {n0 : Nat} {h0 : Heap} (C : Ctx Z w_arr0 cl_arr0) (O0 : Old Z n0 h0) (Z0 : n0 ≤ h0.size) (b900 : Addr) (x2 : Int32) (x3 : Int32) (x4 : Int32) (x5 : Int32) (x6 : Int32) (x7 : Int32) (x8 : Int32) (x9 : Int32) (x10 : Int32) (x11 : Int32) (x12 : Int32) (x13 : Int32) (g_b900 : n0 ≤ b900) (A_b900 : zLst Z h0 b900 .byte [(.int x2), (.int 27), (.int x3), (.int x4), (.int 27), (.int x5), (.int x6), (.int 27), (.int x7), (.int x8), (.int x9), (.int 27), (.int x10), (.int x11), (.int x12), (.int x13), (.int 0), (.int 0), (.int 0), (.int 0)]) (k0 : ¬ (x9 = (27 : Int32))) : zCon l Z (⟨"com/example/kakehashi/kakehashi/message/Iso2022", "firstCharacter", "([BII)I"⟩ : MethodName) prog_46_method_12_code 4 (some .int) ws ({ frames := 0, cells := 0, slots := 0, locals := 0 } : Room) #[(.ref b900), (.int 1), (.int 14)] h0 (zSame (some (.int 10)) h0) := by
  obtain ⟨S_w_arr0, A_w_arr0, Al_w_arr0⟩ := C
  refine zenter (plainFor_of_name pn_0) (L0 := #[rv b900, iv 1, iv 14, .unset]) (fun m => by first | rfl | simp [entryFrame, mkF, argsToLocals, Value.category, maxLocals]) ?_
  intro p e s m below meth c T0 hx hZ hby hml hown0 hnm hret hlk X0 e0
  have hown : s.vm.findClass "com/example/kakehashi/kakehashi/message/Iso2022" = some m.cls := hown0
  have K0 := Keep.refl h0 []
  have N0 := Fr.nil n0
  show zEnds p e below s T0 (mkF m 0 #[rv b900, iv 1, iv 14, .unset] []) _ _ _
  refine ziloadN X0 hx hby d_prog_46_method_12_0 rfl (zistoreN X0 hx hby d_prog_46_method_12_1 (L' := #[rv b900, iv 1, iv 14, iv 1]) rfl (ziloadN X0 hx hby d_prog_46_method_12_2 rfl (ziloadN X0 hx hby d_prog_46_method_12_3 rfl (zicmpNo X0 hx hby d_prog_46_method_12_4 (by decide) (zaloadN X0 hx hby d_prog_46_method_12_7 rfl rfl (ziloadN X0 hx hby d_prog_46_method_12_8 rfl (zbaload X0 hx hby d_prog_46_method_12_9 hZ e0 A_b900 (by decide) (v := (.int 27)) rfl (zbipush X0 hx hby d_prog_46_method_12_10 (z := (27 : Int32)) rfl (zicmpNo X0 hx hby d_prog_46_method_12_12 (by decide) ?_)))))))))
  show zEnds p e below s T0 (mkF m 15 #[rv b900, iv 1, iv 14, iv 1] []) _ _ _
  refine ziloadN X0 hx hby d_prog_46_method_12_15 rfl (zgetstat X0 hx hby d_prog_46_method_12_16 hZ hown (host := "") (Or.inl (w10 hw)) Via.refl e0 (S_w_arr0.ext O0.2) fun T1 X1 e1 => (zalenC X1 hx hby d_prog_46_method_12_19 hZ e1 (A_w_arr0.ext O0.2) (3 : Int32) Al_w_arr0 (ziadd X1 hx hby d_prog_46_method_12_20 (4 : Int32) (by decide) (zistoreN X1 hx hby d_prog_46_method_12_21 (L' := #[rv b900, iv 1, iv 14, iv 4]) rfl (zgoto X1 hx hby d_prog_46_method_12_22 2 (by decide) (by decide) (ziloadN X1 hx hby d_prog_46_method_12_2 rfl (ziloadN X1 hx hby d_prog_46_method_12_3 rfl (zicmpNo X1 hx hby d_prog_46_method_12_4 (by decide) (zaloadN X1 hx hby d_prog_46_method_12_7 rfl rfl ?_)))))))))
  show zEnds p e below s T1 (mkF m 8 #[rv b900, iv 1, iv 14, iv 4] [(.ref b900)]) _ _ _
  refine ziloadN X1 hx hby d_prog_46_method_12_8 rfl (zbaload X1 hx hby d_prog_46_method_12_9 hZ e1 A_b900 (by decide) (v := (.int 27)) rfl (zbipush X1 hx hby d_prog_46_method_12_10 (z := (27 : Int32)) rfl (zicmpNo X1 hx hby d_prog_46_method_12_12 (by decide) (ziloadN X1 hx hby d_prog_46_method_12_15 rfl (zgetstat X1 hx hby d_prog_46_method_12_16 hZ hown (host := "") (Or.inl (w10 hw)) Via.refl e1 (S_w_arr0.ext O0.2) fun T2 X2 e2 => (zalenC X2 hx hby d_prog_46_method_12_19 hZ e2 (A_w_arr0.ext O0.2) (3 : Int32) Al_w_arr0 (ziadd X2 hx hby d_prog_46_method_12_20 (7 : Int32) (by decide) (zistoreN X2 hx hby d_prog_46_method_12_21 (L' := #[rv b900, iv 1, iv 14, iv 7]) rfl (zgoto X2 hx hby d_prog_46_method_12_22 2 (by decide) (by decide) ?_)))))))))
  show zEnds p e below s T2 (mkF m 2 #[rv b900, iv 1, iv 14, iv 7] []) _ _ _
  refine ziloadN X2 hx hby d_prog_46_method_12_2 rfl (ziloadN X2 hx hby d_prog_46_method_12_3 rfl (zicmpNo X2 hx hby d_prog_46_method_12_4 (by decide) (zaloadN X2 hx hby d_prog_46_method_12_7 rfl rfl (ziloadN X2 hx hby d_prog_46_method_12_8 rfl (zbaload X2 hx hby d_prog_46_method_12_9 hZ e2 A_b900 (by decide) (v := (.int 27)) rfl (zbipush X2 hx hby d_prog_46_method_12_10 (z := (27 : Int32)) rfl (zicmpNo X2 hx hby d_prog_46_method_12_12 (by decide) (ziloadN X2 hx hby d_prog_46_method_12_15 rfl (zgetstat X2 hx hby d_prog_46_method_12_16 hZ hown (host := "") (Or.inl (w10 hw)) Via.refl e2 (S_w_arr0.ext O0.2) fun T3 X3 e3 => ?_)))))))))
  show zEnds p e below s T3 (mkF m 19 #[rv b900, iv 1, iv 14, iv 7] [(.ref w_arr0), (.int 7)]) _ _ _
  refine zalenC X3 hx hby d_prog_46_method_12_19 hZ e3 (A_w_arr0.ext O0.2) (3 : Int32) Al_w_arr0 (ziadd X3 hx hby d_prog_46_method_12_20 (10 : Int32) (by decide) (zistoreN X3 hx hby d_prog_46_method_12_21 (L' := #[rv b900, iv 1, iv 14, iv 10]) rfl (zgoto X3 hx hby d_prog_46_method_12_22 2 (by decide) (by decide) (ziloadN X3 hx hby d_prog_46_method_12_2 rfl (ziloadN X3 hx hby d_prog_46_method_12_3 rfl (zicmpNo X3 hx hby d_prog_46_method_12_4 (by decide) (zaloadN X3 hx hby d_prog_46_method_12_7 rfl rfl (ziloadN X3 hx hby d_prog_46_method_12_8 rfl (zbaload X3 hx hby d_prog_46_method_12_9 hZ e3 A_b900 (by decide) (v := (.int x9)) rfl ?_)))))))))
  show zEnds p e below s T3 (mkF m 10 #[rv b900, iv 1, iv 14, iv 10] [(.int x9)]) _ _ _
  refine zbipush X3 hx hby d_prog_46_method_12_10 (z := (27 : Int32)) rfl (zicmpYes X3 hx hby d_prog_46_method_12_12 25 (feq k0).2 (by decide) (by decide) (ziloadN X3 hx hby d_prog_46_method_12_25 rfl ?_))
  show zEnds p e below s T3 (mkF m 26 #[rv b900, iv 1, iv 14, iv 10] [(.int 10)]) _ _ _
  exact zretI X3 hx hby d_prog_46_method_12_26 hret hlk (by decide) (by decide) ⟨rfl, e3, rfl⟩
set_option maxRecDepth 65536 in
set_option maxHeartbeats 40000000 in
theorem c93_firstCharacter (l : Launch) {Z : State} {a0 : Array Value} (hw : ∀ d ∈ tables_1, d.before a0 Z = true) (ws : List Jvm.Cond) {w_arr0 : Addr} {cl_arr0 : Cell} {n0 : Nat} {h0 : Heap} (C : Ctx Z w_arr0 cl_arr0) (O0 : Old Z n0 h0) (Z0 : n0 ≤ h0.size) (b900 : Addr) (x2 : Int32) (x3 : Int32) (x4 : Int32) (x5 : Int32) (g_b900 : n0 ≤ b900) (A_b900 : zLst Z h0 b900 .byte [(.int x2), (.int x3), (.int x4), (.int x5), (.int 0), (.int 0), (.int 0), (.int 0), (.int 0), (.int 0), (.int 0), (.int 0), (.int 0), (.int 0), (.int 0), (.int 0), (.int 0), (.int 0), (.int 0), (.int 0)]) : zCon l Z (⟨"com/example/kakehashi/kakehashi/message/Iso2022", "firstCharacter", "([BII)I"⟩ : MethodName) prog_46_method_12_code 4 (some .int) ws ({ frames := 0, cells := 0, slots := 0, locals := 0 } : Room) #[(.ref b900), (.int 2), (.int 2)] h0 (zSame (some (.int 2)) h0) := by
  obtain ⟨S_w_arr0, A_w_arr0, Al_w_arr0⟩ := C
  refine zenter (plainFor_of_name pn_0) (L0 := #[rv b900, iv 2, iv 2, .unset]) (fun m => by first | rfl | simp [entryFrame, mkF, argsToLocals, Value.category, maxLocals]) ?_
  intro p e s m below meth c T0 hx hZ hby hml hown0 hnm hret hlk X0 e0
  have hown : s.vm.findClass "com/example/kakehashi/kakehashi/message/Iso2022" = some m.cls := hown0
  have K0 := Keep.refl h0 []
  have N0 := Fr.nil n0
  show zEnds p e below s T0 (mkF m 0 #[rv b900, iv 2, iv 2, .unset] []) _ _ _
  refine ziloadN X0 hx hby d_prog_46_method_12_0 rfl (zistoreN X0 hx hby d_prog_46_method_12_1 (L' := #[rv b900, iv 2, iv 2, iv 2]) rfl (ziloadN X0 hx hby d_prog_46_method_12_2 rfl (ziloadN X0 hx hby d_prog_46_method_12_3 rfl (zicmpYes X0 hx hby d_prog_46_method_12_4 25 (by decide) (by decide) (by decide) (ziloadN X0 hx hby d_prog_46_method_12_25 rfl ?_)))))
  show zEnds p e below s T0 (mkF m 26 #[rv b900, iv 2, iv 2, iv 2] [(.int 2)]) _ _ _
  exact zretI X0 hx hby d_prog_46_method_12_26 hret hlk (by decide) (by decide) ⟨rfl, e0, rfl⟩
set_option maxRecDepth 65536 in
set_option maxHeartbeats 40000000 in
theorem c95_firstCharacter (l : Launch) {Z : State} {a0 : Array Value} (hw : ∀ d ∈ tables_1, d.before a0 Z = true) (ws : List Jvm.Cond) {w_arr0 : Addr} {cl_arr0 : Cell} {n0 : Nat} {h0 : Heap} (C : Ctx Z w_arr0 cl_arr0) (O0 : Old Z n0 h0) (Z0 : n0 ≤ h0.size) (b900 : Addr) (x2 : Int32) (x3 : Int32) (x4 : Int32) (x5 : Int32) (x6 : Int32) (g_b900 : n0 ≤ b900) (A_b900 : zLst Z h0 b900 .byte [(.int x2), (.int x3), (.int x4), (.int x5), (.int x6), (.int 0), (.int 0), (.int 0), (.int 0), (.int 0), (.int 0), (.int 0), (.int 0), (.int 0), (.int 0), (.int 0), (.int 0), (.int 0), (.int 0), (.int 0)]) (k0 : ¬ (x4 = (27 : Int32))) : zCon l Z (⟨"com/example/kakehashi/kakehashi/message/Iso2022", "firstCharacter", "([BII)I"⟩ : MethodName) prog_46_method_12_code 4 (some .int) ws ({ frames := 0, cells := 0, slots := 0, locals := 0 } : Room) #[(.ref b900), (.int 2), (.int 3)] h0 (zSame (some (.int 2)) h0) := by
  obtain ⟨S_w_arr0, A_w_arr0, Al_w_arr0⟩ := C
  refine zenter (plainFor_of_name pn_0) (L0 := #[rv b900, iv 2, iv 3, .unset]) (fun m => by first | rfl | simp [entryFrame, mkF, argsToLocals, Value.category, maxLocals]) ?_
  intro p e s m below meth c T0 hx hZ hby hml hown0 hnm hret hlk X0 e0
  have hown : s.vm.findClass "com/example/kakehashi/kakehashi/message/Iso2022" = some m.cls := hown0
  have K0 := Keep.refl h0 []
  have N0 := Fr.nil n0
  show zEnds p e below s T0 (mkF m 0 #[rv b900, iv 2, iv 3, .unset] []) _ _ _
  refine ziloadN X0 hx hby d_prog_46_method_12_0 rfl (zistoreN X0 hx hby d_prog_46_method_12_1 (L' := #[rv b900, iv 2, iv 3, iv 2]) rfl (ziloadN X0 hx hby d_prog_46_method_12_2 rfl (ziloadN X0 hx hby d_prog_46_method_12_3 rfl (zicmpNo X0 hx hby d_prog_46_method_12_4 (by decide) (zaloadN X0 hx hby d_prog_46_method_12_7 rfl rfl (ziloadN X0 hx hby d_prog_46_method_12_8 rfl (zbaload X0 hx hby d_prog_46_method_12_9 hZ e0 A_b900 (by decide) (v := (.int x4)) rfl (zbipush X0 hx hby d_prog_46_method_12_10 (z := (27 : Int32)) rfl (zicmpYes X0 hx hby d_prog_46_method_12_12 25 (feq k0).2 (by decide) (by decide) ?_)))))))))
  show zEnds p e below s T0 (mkF m 25 #[rv b900, iv 2, iv 3, iv 2] []) _ _ _
  refine ziloadN X0 hx hby d_prog_46_method_12_25 rfl ?_
  show zEnds p e below s T0 (mkF m 26 #[rv b900, iv 2, iv 3, iv 2] [(.int 2)]) _ _ _
  exact zretI X0 hx hby d_prog_46_method_12_26 hret hlk (by decide) (by decide) ⟨rfl, e0, rfl⟩
set_option maxRecDepth 65536 in
set_option maxHeartbeats 40000000 in
theorem c97_firstCharacter (l : Launch) {Z : State} {a0 : Array Value} (hw : ∀ d ∈ tables_1, d.before a0 Z = true) (ws : List Jvm.Cond) {w_arr0 : Addr} {cl_arr0 : Cell} {n0 : Nat} {h0 : Heap} (C : Ctx Z w_arr0 cl_arr0) (O0 : Old Z n0 h0) (Z0 : n0 ≤ h0.size) (b900 : Addr) (x2 : Int32) (x3 : Int32) (x4 : Int32) (x5 : Int32) (x6 : Int32) (x7 : Int32) (g_b900 : n0 ≤ b900) (A_b900 : zLst Z h0 b900 .byte [(.int x2), (.int x3), (.int x4), (.int x5), (.int x6), (.int x7), (.int 0), (.int 0), (.int 0), (.int 0), (.int 0), (.int 0), (.int 0), (.int 0), (.int 0), (.int 0), (.int 0), (.int 0), (.int 0), (.int 0)]) (k0 : ¬ (x4 = (27 : Int32))) : zCon l Z (⟨"com/example/kakehashi/kakehashi/message/Iso2022", "firstCharacter", "([BII)I"⟩ : MethodName) prog_46_method_12_code 4 (some .int) ws ({ frames := 0, cells := 0, slots := 0, locals := 0 } : Room) #[(.ref b900), (.int 2), (.int 4)] h0 (zSame (some (.int 2)) h0) := by
  obtain ⟨S_w_arr0, A_w_arr0, Al_w_arr0⟩ := C
  refine zenter (plainFor_of_name pn_0) (L0 := #[rv b900, iv 2, iv 4, .unset]) (fun m => by first | rfl | simp [entryFrame, mkF, argsToLocals, Value.category, maxLocals]) ?_
  intro p e s m below meth c T0 hx hZ hby hml hown0 hnm hret hlk X0 e0
  have hown : s.vm.findClass "com/example/kakehashi/kakehashi/message/Iso2022" = some m.cls := hown0
  have K0 := Keep.refl h0 []
  have N0 := Fr.nil n0
  show zEnds p e below s T0 (mkF m 0 #[rv b900, iv 2, iv 4, .unset] []) _ _ _
  refine ziloadN X0 hx hby d_prog_46_method_12_0 rfl (zistoreN X0 hx hby d_prog_46_method_12_1 (L' := #[rv b900, iv 2, iv 4, iv 2]) rfl (ziloadN X0 hx hby d_prog_46_method_12_2 rfl (ziloadN X0 hx hby d_prog_46_method_12_3 rfl (zicmpNo X0 hx hby d_prog_46_method_12_4 (by decide) (zaloadN X0 hx hby d_prog_46_method_12_7 rfl rfl (ziloadN X0 hx hby d_prog_46_method_12_8 rfl (zbaload X0 hx hby d_prog_46_method_12_9 hZ e0 A_b900 (by decide) (v := (.int x4)) rfl (zbipush X0 hx hby d_prog_46_method_12_10 (z := (27 : Int32)) rfl (zicmpYes X0 hx hby d_prog_46_method_12_12 25 (feq k0).2 (by decide) (by decide) ?_)))))))))
  show zEnds p e below s T0 (mkF m 25 #[rv b900, iv 2, iv 4, iv 2] []) _ _ _
  refine ziloadN X0 hx hby d_prog_46_method_12_25 rfl ?_
  show zEnds p e below s T0 (mkF m 26 #[rv b900, iv 2, iv 4, iv 2] [(.int 2)]) _ _ _
  exact zretI X0 hx hby d_prog_46_method_12_26 hret hlk (by decide) (by decide) ⟨rfl, e0, rfl⟩
set_option maxRecDepth 65536 in
set_option maxHeartbeats 40000000 in
theorem c99_esc (l : Launch) {Z : State} {a0 : Array Value} (hw : ∀ d ∈ tables_1, d.before a0 Z = true) (ws : List Jvm.Cond) {w_arr0 : Addr} {cl_arr0 : Cell} {n0 : Nat} {h0 : Heap} (C : Ctx Z w_arr0 cl_arr0) (O0 : Old Z n0 h0) (Z0 : n0 ≤ h0.size) (x2 : Int32) (b900 : Addr) (x3 : Int32) (x4 : Int32) (x5 : Int32) (x6 : Int32) (x7 : Int32) (x8 : Int32) (x9 : Int32) (x10 : Int32) (x11 : Int32) (x12 : Int32) (x13 : Int32) (x14 : Int32) (x15 : Int32) (x16 : Int32) (x17 : Int32) (x18 : Int32) (x19 : Int32) (x20 : Int32) (x21 : Int32) (x22 : Int32) (g_b900 : n0 ≤ b900) (A_b900 : zLst Z h0 b900 .byte [(.int x3), (.int x4), (.int x5), (.int x6), (.int x7), (.int x8), (.int x9), (.int x10), (.int x11), (.int x12), (.int x13), (.int x14), (.int x15), (.int x16), (.int x17), (.int x18), (.int x19), (.int x20), (.int x21), (.int x22)]) (k0 : ¬ (x5 = (27 : Int32))) : zCon l Z (⟨"com/example/kakehashi/kakehashi/message/Iso2022FirstCharacterPinLaw", "esc", "([BII)I"⟩ : MethodName) method_2_code 4 (some .int) ws ({ frames := 0, cells := 0, slots := 0, locals := 0 } : Room) #[(.ref b900), (.int 3), (.int x2)] h0 (fun v h L => v = some (.int 6) ∧ Fr n0 L ∧ Keep h0 h [b900] ∧ zLst Z h b900 .byte [(.int x3), (.int x4), (.int x5), (.int 27), (.int ((e1v x2).toInt8.toInt32)), (.int ((e2v x2).toInt8.toInt32)), (.int x9), (.int x10), (.int x11), (.int x12), (.int x13), (.int x14), (.int x15), (.int x16), (.int x17), (.int x18), (.int x19), (.int x20), (.int x21), (.int x22)]) := by
  obtain ⟨S_w_arr0, A_w_arr0, Al_w_arr0⟩ := C
  refine zenter (plainFor_of_name pn_1) (L0 := #[rv b900, iv 3, iv x2, .unset]) (fun m => by first | rfl | simp [entryFrame, mkF, argsToLocals, Value.category, maxLocals]) ?_
  intro p e s m below meth c T0 hx hZ hby hml hown0 hnm hret hlk X0 e0
  have hown : s.vm.findClass "com/example/kakehashi/kakehashi/message/Iso2022FirstCharacterPinLaw" = some m.cls := hown0
  have K0 := Keep.refl h0 [b900]
  have N0 := Fr.nil n0
  show zEnds p e below s T0 (mkF m 0 #[rv b900, iv 3, iv x2, .unset] []) _ _ _
  refine ziloadN X0 hx hby d_method_2_0 rfl (ziconst X0 hx hby d_method_2_1 (z := (3 : Int32)) rfl (zirem X0 hx hby d_method_2_2 (x2 % (3 : Int32)) (by decide) rfl (zistoreN X0 hx hby d_method_2_3 (L' := #[rv b900, iv 3, iv x2, iv (x2 % (3 : Int32))]) rfl (zaloadN X0 hx hby d_method_2_4 rfl rfl (ziloadN X0 hx hby d_method_2_5 rfl (zbipush X0 hx hby d_method_2_6 (z := (27 : Int32)) rfl (zbastore X0 hx hby d_method_2_8 hZ e0 A_b900 (by decide) (by show Int32.toNatClampNeg 3 < 20; decide) (27 : Int32) (by decide) fun T1 h1 X1 e1 W1 A1_b900 => ?_)))))))
  change zLst Z h1 b900 .byte [(.int x3), (.int x4), (.int x5), (.int 27), (.int x7), (.int x8), (.int x9), (.int x10), (.int x11), (.int x12), (.int x13), (.int x14), (.int x15), (.int x16), (.int x17), (.int x18), (.int x19), (.int x20), (.int x21), (.int x22)] at A1_b900
  have O1 := O0.wr W1 g_b900
  have K1 := Keep.wr K0 W1 (Or.inl (List.mem_of_getElem? (i := 0) rfl))
  have N1 := Fr.snoc X1 N0 g_b900
  refine zaloadN X1 hx hby d_method_2_9 rfl rfl (ziloadN X1 hx hby d_method_2_10 rfl (ziconst X1 hx hby d_method_2_11 (z := (1 : Int32)) rfl (ziadd X1 hx hby d_method_2_12 (4 : Int32) (by decide) (ziloadN X1 hx hby d_method_2_13 rfl ?_))))
  show zEnds p e below s T1 (mkF m 14 #[rv b900, iv 3, iv x2, iv (x2 % (3 : Int32))] [(.int (x2 % (3 : Int32))), (.int 4), (.ref b900)]) _ _ _
  refine zjoin (T' := T1) (F' := (mkF m 24 #[rv b900, iv 3, iv x2, iv (x2 % (3 : Int32))] [(.int (e1v x2)), (.int 4), (.ref b900)])) (fun K => ?_) ?_
  · show zEnds p e below s T1 (mkF m 14 #[rv b900, iv 3, iv x2, iv (x2 % (3 : Int32))] [(.int (x2 % (3 : Int32))), (.int 4), (.ref b900)]) _ _ _
    by_cases hc2 : (x2 % (3 : Int32)) = (0 : Int32)
    · refine zifNo X1 hx hby d_method_2_14 ((if0 _ _).trans (teq hc2).2) (zbipush X1 hx hby d_method_2_17 (z := (36 : Int32)) rfl (zgoto X1 hx hby d_method_2_19 24 (by decide) (by decide) ?_))
      show zEnds p e below s T1 (mkF m 24 #[rv b900, iv 3, iv x2, iv (x2 % (3 : Int32))] [(.int 36), (.int 4), (.ref b900)]) _ _ _
      rw [show (36 : Int32) = (e1v x2) from by simp +decide [e1v, k0, hc2]]; exact K
    · refine zifYes X1 hx hby d_method_2_14 22 ((if0 _ _).trans (feq hc2).2) (by decide) (by decide) (zbipush X1 hx hby d_method_2_22 (z := (40 : Int32)) rfl ?_)
      show zEnds p e below s T1 (mkF m 24 #[rv b900, iv 3, iv x2, iv (x2 % (3 : Int32))] [(.int 40), (.int 4), (.ref b900)]) _ _ _
      rw [show (40 : Int32) = (e1v x2) from by simp +decide [e1v, k0, hc2]]; exact K
  refine zi2b X1 hx hby d_method_2_24 ((e1v x2).toInt8.toInt32) rfl (zbastore X1 hx hby d_method_2_25 hZ e1 A1_b900 (by decide) (by show Int32.toNatClampNeg 4 < 20; decide) ((e1v x2).toInt8.toInt32) (own_nar8 _) fun T3 h3 X3 e3 W3 A3_b900 => ?_)
  change zLst Z h3 b900 .byte [(.int x3), (.int x4), (.int x5), (.int 27), (.int ((e1v x2).toInt8.toInt32)), (.int x8), (.int x9), (.int x10), (.int x11), (.int x12), (.int x13), (.int x14), (.int x15), (.int x16), (.int x17), (.int x18), (.int x19), (.int x20), (.int x21), (.int x22)] at A3_b900
  have O3 := O1.wr W3 g_b900
  have K3 := Keep.wr K1 W3 (Or.inl (List.mem_of_getElem? (i := 0) rfl))
  have N3 := Fr.snoc X3 N1 g_b900
  refine zaloadN X3 hx hby d_method_2_26 rfl rfl (ziloadN X3 hx hby d_method_2_27 rfl (ziconst X3 hx hby d_method_2_28 (z := (2 : Int32)) rfl (ziadd X3 hx hby d_method_2_29 (5 : Int32) (by decide) (ziloadN X3 hx hby d_method_2_30 rfl (ziconst X3 hx hby d_method_2_31 (z := (2 : Int32)) rfl ?_)))))
  show zEnds p e below s T3 (mkF m 32 #[rv b900, iv 3, iv x2, iv (x2 % (3 : Int32))] [(.int 2), (.int (x2 % (3 : Int32))), (.int 5), (.ref b900)]) _ _ _
  refine zjoin (T' := T3) (F' := (mkF m 42 #[rv b900, iv 3, iv x2, iv (x2 % (3 : Int32))] [(.int (e2v x2)), (.int 5), (.ref b900)])) (fun K => ?_) ?_
  · show zEnds p e below s T3 (mkF m 32 #[rv b900, iv 3, iv x2, iv (x2 % (3 : Int32))] [(.int 2), (.int (x2 % (3 : Int32))), (.int 5), (.ref b900)]) _ _ _
    by_cases hc4 : (x2 % (3 : Int32)) = (2 : Int32)
    · refine zicmpNo X3 hx hby d_method_2_32 (teq hc4).2 (zbipush X3 hx hby d_method_2_35 (z := (74 : Int32)) rfl (zgoto X3 hx hby d_method_2_37 42 (by decide) (by decide) ?_))
      show zEnds p e below s T3 (mkF m 42 #[rv b900, iv 3, iv x2, iv (x2 % (3 : Int32))] [(.int 74), (.int 5), (.ref b900)]) _ _ _
      rw [show (74 : Int32) = (e2v x2) from by simp +decide [e2v, k0, hc4]]; exact K
    · refine zicmpYes X3 hx hby d_method_2_32 40 (feq hc4).2 (by decide) (by decide) (zbipush X3 hx hby d_method_2_40 (z := (66 : Int32)) rfl ?_)
      show zEnds p e below s T3 (mkF m 42 #[rv b900, iv 3, iv x2, iv (x2 % (3 : Int32))] [(.int 66), (.int 5), (.ref b900)]) _ _ _
      rw [show (66 : Int32) = (e2v x2) from by simp +decide [e2v, k0, hc4]]; exact K
  refine zi2b X3 hx hby d_method_2_42 ((e2v x2).toInt8.toInt32) rfl (zbastore X3 hx hby d_method_2_43 hZ e3 A3_b900 (by decide) (by show Int32.toNatClampNeg 5 < 20; decide) ((e2v x2).toInt8.toInt32) (own_nar8 _) fun T5 h5 X5 e5 W5 A5_b900 => ?_)
  change zLst Z h5 b900 .byte [(.int x3), (.int x4), (.int x5), (.int 27), (.int ((e1v x2).toInt8.toInt32)), (.int ((e2v x2).toInt8.toInt32)), (.int x9), (.int x10), (.int x11), (.int x12), (.int x13), (.int x14), (.int x15), (.int x16), (.int x17), (.int x18), (.int x19), (.int x20), (.int x21), (.int x22)] at A5_b900
  have O5 := O3.wr W5 g_b900
  have K5 := Keep.wr K3 W5 (Or.inl (List.mem_of_getElem? (i := 0) rfl))
  have N5 := Fr.snoc X5 N3 g_b900
  refine ziloadN X5 hx hby d_method_2_44 rfl (ziconst X5 hx hby d_method_2_45 (z := (3 : Int32)) rfl (ziadd X5 hx hby d_method_2_46 (6 : Int32) (by decide) ?_))
  show zEnds p e below s T5 (mkF m 47 #[rv b900, iv 3, iv x2, iv (x2 % (3 : Int32))] [(.int 6)]) _ _ _
  exact zretI X5 hx hby d_method_2_47 hret hlk (by decide) (by decide) (by rw [e5]; exact ⟨rfl, N5, K5, A5_b900⟩)
set_option maxRecDepth 65536 in
set_option maxHeartbeats 40000000 in
theorem c101_firstCharacter (l : Launch) {Z : State} {a0 : Array Value} (hw : ∀ d ∈ tables_1, d.before a0 Z = true) (ws : List Jvm.Cond) {w_arr0 : Addr} {cl_arr0 : Cell} {n0 : Nat} {h0 : Heap} (C : Ctx Z w_arr0 cl_arr0) (O0 : Old Z n0 h0) (Z0 : n0 ≤ h0.size) (b900 : Addr) (x2 : Int32) (x3 : Int32) (x4 : Int32) (x5 : Int32) (x6 : Int32) (x7 : Int32) (x8 : Int32) (g_b900 : n0 ≤ b900) (A_b900 : zLst Z h0 b900 .byte [(.int x2), (.int x3), (.int x4), (.int 27), (.int x5), (.int x6), (.int x7), (.int x8), (.int 0), (.int 0), (.int 0), (.int 0), (.int 0), (.int 0), (.int 0), (.int 0), (.int 0), (.int 0), (.int 0), (.int 0)]) (k0 : ¬ (x4 = (27 : Int32))) : zCon l Z (⟨"com/example/kakehashi/kakehashi/message/Iso2022", "firstCharacter", "([BII)I"⟩ : MethodName) prog_46_method_12_code 4 (some .int) ws ({ frames := 0, cells := 0, slots := 0, locals := 0 } : Room) #[(.ref b900), (.int 2), (.int 6)] h0 (zSame (some (.int 2)) h0) := by
  obtain ⟨S_w_arr0, A_w_arr0, Al_w_arr0⟩ := C
  refine zenter (plainFor_of_name pn_0) (L0 := #[rv b900, iv 2, iv 6, .unset]) (fun m => by first | rfl | simp [entryFrame, mkF, argsToLocals, Value.category, maxLocals]) ?_
  intro p e s m below meth c T0 hx hZ hby hml hown0 hnm hret hlk X0 e0
  have hown : s.vm.findClass "com/example/kakehashi/kakehashi/message/Iso2022" = some m.cls := hown0
  have K0 := Keep.refl h0 []
  have N0 := Fr.nil n0
  show zEnds p e below s T0 (mkF m 0 #[rv b900, iv 2, iv 6, .unset] []) _ _ _
  refine ziloadN X0 hx hby d_prog_46_method_12_0 rfl (zistoreN X0 hx hby d_prog_46_method_12_1 (L' := #[rv b900, iv 2, iv 6, iv 2]) rfl (ziloadN X0 hx hby d_prog_46_method_12_2 rfl (ziloadN X0 hx hby d_prog_46_method_12_3 rfl (zicmpNo X0 hx hby d_prog_46_method_12_4 (by decide) (zaloadN X0 hx hby d_prog_46_method_12_7 rfl rfl (ziloadN X0 hx hby d_prog_46_method_12_8 rfl (zbaload X0 hx hby d_prog_46_method_12_9 hZ e0 A_b900 (by decide) (v := (.int x4)) rfl (zbipush X0 hx hby d_prog_46_method_12_10 (z := (27 : Int32)) rfl (zicmpYes X0 hx hby d_prog_46_method_12_12 25 (feq k0).2 (by decide) (by decide) ?_)))))))))
  show zEnds p e below s T0 (mkF m 25 #[rv b900, iv 2, iv 6, iv 2] []) _ _ _
  refine ziloadN X0 hx hby d_prog_46_method_12_25 rfl ?_
  show zEnds p e below s T0 (mkF m 26 #[rv b900, iv 2, iv 6, iv 2] [(.int 2)]) _ _ _
  exact zretI X0 hx hby d_prog_46_method_12_26 hret hlk (by decide) (by decide) ⟨rfl, e0, rfl⟩
set_option maxRecDepth 65536 in
set_option maxHeartbeats 40000000 in
theorem c103_esc (l : Launch) {Z : State} {a0 : Array Value} (hw : ∀ d ∈ tables_1, d.before a0 Z = true) (ws : List Jvm.Cond) {w_arr0 : Addr} {cl_arr0 : Cell} {n0 : Nat} {h0 : Heap} (C : Ctx Z w_arr0 cl_arr0) (O0 : Old Z n0 h0) (Z0 : n0 ≤ h0.size) (x2 : Int32) (b900 : Addr) (x3 : Int32) (x4 : Int32) (x5 : Int32) (x6 : Int32) (x7 : Int32) (x8 : Int32) (x9 : Int32) (x10 : Int32) (x11 : Int32) (x12 : Int32) (x13 : Int32) (x14 : Int32) (x15 : Int32) (x16 : Int32) (x17 : Int32) (x18 : Int32) (x19 : Int32) (x20 : Int32) (x21 : Int32) (x22 : Int32) (g_b900 : n0 ≤ b900) (A_b900 : zLst Z h0 b900 .byte [(.int x3), (.int x4), (.int x5), (.int x6), (.int x7), (.int x8), (.int x9), (.int x10), (.int x11), (.int x12), (.int x13), (.int x14), (.int x15), (.int x16), (.int x17), (.int x18), (.int x19), (.int x20), (.int x21), (.int x22)]) : zCon l Z (⟨"com/example/kakehashi/kakehashi/message/Iso2022FirstCharacterPinLaw", "esc", "([BII)I"⟩ : MethodName) method_2_code 4 (some .int) ws ({ frames := 0, cells := 0, slots := 0, locals := 0 } : Room) #[(.ref b900), (.int 2), (.int x2)] h0 (fun v h L => v = some (.int 5) ∧ Fr n0 L ∧ Keep h0 h [b900] ∧ zLst Z h b900 .byte [(.int x3), (.int x4), (.int 27), (.int ((e1v x2).toInt8.toInt32)), (.int ((e2v x2).toInt8.toInt32)), (.int x8), (.int x9), (.int x10), (.int x11), (.int x12), (.int x13), (.int x14), (.int x15), (.int x16), (.int x17), (.int x18), (.int x19), (.int x20), (.int x21), (.int x22)]) := by
  obtain ⟨S_w_arr0, A_w_arr0, Al_w_arr0⟩ := C
  refine zenter (plainFor_of_name pn_1) (L0 := #[rv b900, iv 2, iv x2, .unset]) (fun m => by first | rfl | simp [entryFrame, mkF, argsToLocals, Value.category, maxLocals]) ?_
  intro p e s m below meth c T0 hx hZ hby hml hown0 hnm hret hlk X0 e0
  have hown : s.vm.findClass "com/example/kakehashi/kakehashi/message/Iso2022FirstCharacterPinLaw" = some m.cls := hown0
  have K0 := Keep.refl h0 [b900]
  have N0 := Fr.nil n0
  show zEnds p e below s T0 (mkF m 0 #[rv b900, iv 2, iv x2, .unset] []) _ _ _
  refine ziloadN X0 hx hby d_method_2_0 rfl (ziconst X0 hx hby d_method_2_1 (z := (3 : Int32)) rfl (zirem X0 hx hby d_method_2_2 (x2 % (3 : Int32)) (by decide) rfl (zistoreN X0 hx hby d_method_2_3 (L' := #[rv b900, iv 2, iv x2, iv (x2 % (3 : Int32))]) rfl (zaloadN X0 hx hby d_method_2_4 rfl rfl (ziloadN X0 hx hby d_method_2_5 rfl (zbipush X0 hx hby d_method_2_6 (z := (27 : Int32)) rfl (zbastore X0 hx hby d_method_2_8 hZ e0 A_b900 (by decide) (by show Int32.toNatClampNeg 2 < 20; decide) (27 : Int32) (by decide) fun T1 h1 X1 e1 W1 A1_b900 => ?_)))))))
  change zLst Z h1 b900 .byte [(.int x3), (.int x4), (.int 27), (.int x6), (.int x7), (.int x8), (.int x9), (.int x10), (.int x11), (.int x12), (.int x13), (.int x14), (.int x15), (.int x16), (.int x17), (.int x18), (.int x19), (.int x20), (.int x21), (.int x22)] at A1_b900
  have O1 := O0.wr W1 g_b900
  have K1 := Keep.wr K0 W1 (Or.inl (List.mem_of_getElem? (i := 0) rfl))
  have N1 := Fr.snoc X1 N0 g_b900
  refine zaloadN X1 hx hby d_method_2_9 rfl rfl (ziloadN X1 hx hby d_method_2_10 rfl (ziconst X1 hx hby d_method_2_11 (z := (1 : Int32)) rfl (ziadd X1 hx hby d_method_2_12 (3 : Int32) (by decide) (ziloadN X1 hx hby d_method_2_13 rfl ?_))))
  show zEnds p e below s T1 (mkF m 14 #[rv b900, iv 2, iv x2, iv (x2 % (3 : Int32))] [(.int (x2 % (3 : Int32))), (.int 3), (.ref b900)]) _ _ _
  refine zjoin (T' := T1) (F' := (mkF m 24 #[rv b900, iv 2, iv x2, iv (x2 % (3 : Int32))] [(.int (e1v x2)), (.int 3), (.ref b900)])) (fun K => ?_) ?_
  · show zEnds p e below s T1 (mkF m 14 #[rv b900, iv 2, iv x2, iv (x2 % (3 : Int32))] [(.int (x2 % (3 : Int32))), (.int 3), (.ref b900)]) _ _ _
    by_cases hc2 : (x2 % (3 : Int32)) = (0 : Int32)
    · refine zifNo X1 hx hby d_method_2_14 ((if0 _ _).trans (teq hc2).2) (zbipush X1 hx hby d_method_2_17 (z := (36 : Int32)) rfl (zgoto X1 hx hby d_method_2_19 24 (by decide) (by decide) ?_))
      show zEnds p e below s T1 (mkF m 24 #[rv b900, iv 2, iv x2, iv (x2 % (3 : Int32))] [(.int 36), (.int 3), (.ref b900)]) _ _ _
      rw [show (36 : Int32) = (e1v x2) from by simp +decide [e1v, hc2]]; exact K
    · refine zifYes X1 hx hby d_method_2_14 22 ((if0 _ _).trans (feq hc2).2) (by decide) (by decide) (zbipush X1 hx hby d_method_2_22 (z := (40 : Int32)) rfl ?_)
      show zEnds p e below s T1 (mkF m 24 #[rv b900, iv 2, iv x2, iv (x2 % (3 : Int32))] [(.int 40), (.int 3), (.ref b900)]) _ _ _
      rw [show (40 : Int32) = (e1v x2) from by simp +decide [e1v, hc2]]; exact K
  refine zi2b X1 hx hby d_method_2_24 ((e1v x2).toInt8.toInt32) rfl (zbastore X1 hx hby d_method_2_25 hZ e1 A1_b900 (by decide) (by show Int32.toNatClampNeg 3 < 20; decide) ((e1v x2).toInt8.toInt32) (own_nar8 _) fun T3 h3 X3 e3 W3 A3_b900 => ?_)
  change zLst Z h3 b900 .byte [(.int x3), (.int x4), (.int 27), (.int ((e1v x2).toInt8.toInt32)), (.int x7), (.int x8), (.int x9), (.int x10), (.int x11), (.int x12), (.int x13), (.int x14), (.int x15), (.int x16), (.int x17), (.int x18), (.int x19), (.int x20), (.int x21), (.int x22)] at A3_b900
  have O3 := O1.wr W3 g_b900
  have K3 := Keep.wr K1 W3 (Or.inl (List.mem_of_getElem? (i := 0) rfl))
  have N3 := Fr.snoc X3 N1 g_b900
  refine zaloadN X3 hx hby d_method_2_26 rfl rfl (ziloadN X3 hx hby d_method_2_27 rfl (ziconst X3 hx hby d_method_2_28 (z := (2 : Int32)) rfl (ziadd X3 hx hby d_method_2_29 (4 : Int32) (by decide) (ziloadN X3 hx hby d_method_2_30 rfl (ziconst X3 hx hby d_method_2_31 (z := (2 : Int32)) rfl ?_)))))
  show zEnds p e below s T3 (mkF m 32 #[rv b900, iv 2, iv x2, iv (x2 % (3 : Int32))] [(.int 2), (.int (x2 % (3 : Int32))), (.int 4), (.ref b900)]) _ _ _
  refine zjoin (T' := T3) (F' := (mkF m 42 #[rv b900, iv 2, iv x2, iv (x2 % (3 : Int32))] [(.int (e2v x2)), (.int 4), (.ref b900)])) (fun K => ?_) ?_
  · show zEnds p e below s T3 (mkF m 32 #[rv b900, iv 2, iv x2, iv (x2 % (3 : Int32))] [(.int 2), (.int (x2 % (3 : Int32))), (.int 4), (.ref b900)]) _ _ _
    by_cases hc4 : (x2 % (3 : Int32)) = (2 : Int32)
    · refine zicmpNo X3 hx hby d_method_2_32 (teq hc4).2 (zbipush X3 hx hby d_method_2_35 (z := (74 : Int32)) rfl (zgoto X3 hx hby d_method_2_37 42 (by decide) (by decide) ?_))
      show zEnds p e below s T3 (mkF m 42 #[rv b900, iv 2, iv x2, iv (x2 % (3 : Int32))] [(.int 74), (.int 4), (.ref b900)]) _ _ _
      rw [show (74 : Int32) = (e2v x2) from by simp +decide [e2v, hc4]]; exact K
    · refine zicmpYes X3 hx hby d_method_2_32 40 (feq hc4).2 (by decide) (by decide) (zbipush X3 hx hby d_method_2_40 (z := (66 : Int32)) rfl ?_)
      show zEnds p e below s T3 (mkF m 42 #[rv b900, iv 2, iv x2, iv (x2 % (3 : Int32))] [(.int 66), (.int 4), (.ref b900)]) _ _ _
      rw [show (66 : Int32) = (e2v x2) from by simp +decide [e2v, hc4]]; exact K
  refine zi2b X3 hx hby d_method_2_42 ((e2v x2).toInt8.toInt32) rfl (zbastore X3 hx hby d_method_2_43 hZ e3 A3_b900 (by decide) (by show Int32.toNatClampNeg 4 < 20; decide) ((e2v x2).toInt8.toInt32) (own_nar8 _) fun T5 h5 X5 e5 W5 A5_b900 => ?_)
  change zLst Z h5 b900 .byte [(.int x3), (.int x4), (.int 27), (.int ((e1v x2).toInt8.toInt32)), (.int ((e2v x2).toInt8.toInt32)), (.int x8), (.int x9), (.int x10), (.int x11), (.int x12), (.int x13), (.int x14), (.int x15), (.int x16), (.int x17), (.int x18), (.int x19), (.int x20), (.int x21), (.int x22)] at A5_b900
  have O5 := O3.wr W5 g_b900
  have K5 := Keep.wr K3 W5 (Or.inl (List.mem_of_getElem? (i := 0) rfl))
  have N5 := Fr.snoc X5 N3 g_b900
  refine ziloadN X5 hx hby d_method_2_44 rfl (ziconst X5 hx hby d_method_2_45 (z := (3 : Int32)) rfl (ziadd X5 hx hby d_method_2_46 (5 : Int32) (by decide) ?_))
  show zEnds p e below s T5 (mkF m 47 #[rv b900, iv 2, iv x2, iv (x2 % (3 : Int32))] [(.int 5)]) _ _ _
  exact zretI X5 hx hby d_method_2_47 hret hlk (by decide) (by decide) (by rw [e5]; exact ⟨rfl, N5, K5, A5_b900⟩)
set_option maxRecDepth 65536 in
set_option maxHeartbeats 40000000 in
theorem c105_firstCharacter (l : Launch) {Z : State} {a0 : Array Value} (hw : ∀ d ∈ tables_1, d.before a0 Z = true) (ws : List Jvm.Cond) {w_arr0 : Addr} {cl_arr0 : Cell} {n0 : Nat} {h0 : Heap} (C : Ctx Z w_arr0 cl_arr0) (O0 : Old Z n0 h0) (Z0 : n0 ≤ h0.size) (b900 : Addr) (x2 : Int32) (x3 : Int32) (x4 : Int32) (x5 : Int32) (x6 : Int32) (x7 : Int32) (g_b900 : n0 ≤ b900) (A_b900 : zLst Z h0 b900 .byte [(.int x2), (.int x3), (.int 27), (.int x4), (.int x5), (.int x6), (.int x7), (.int 0), (.int 0), (.int 0), (.int 0), (.int 0), (.int 0), (.int 0), (.int 0), (.int 0), (.int 0), (.int 0), (.int 0), (.int 0)]) : zCon l Z (⟨"com/example/kakehashi/kakehashi/message/Iso2022", "firstCharacter", "([BII)I"⟩ : MethodName) prog_46_method_12_code 4 (some .int) ws ({ frames := 0, cells := 0, slots := 0, locals := 0 } : Room) #[(.ref b900), (.int 2), (.int 5)] h0 (zSame (some (.int 5)) h0) := by
  obtain ⟨S_w_arr0, A_w_arr0, Al_w_arr0⟩ := C
  refine zenter (plainFor_of_name pn_0) (L0 := #[rv b900, iv 2, iv 5, .unset]) (fun m => by first | rfl | simp [entryFrame, mkF, argsToLocals, Value.category, maxLocals]) ?_
  intro p e s m below meth c T0 hx hZ hby hml hown0 hnm hret hlk X0 e0
  have hown : s.vm.findClass "com/example/kakehashi/kakehashi/message/Iso2022" = some m.cls := hown0
  have K0 := Keep.refl h0 []
  have N0 := Fr.nil n0
  show zEnds p e below s T0 (mkF m 0 #[rv b900, iv 2, iv 5, .unset] []) _ _ _
  refine ziloadN X0 hx hby d_prog_46_method_12_0 rfl (zistoreN X0 hx hby d_prog_46_method_12_1 (L' := #[rv b900, iv 2, iv 5, iv 2]) rfl (ziloadN X0 hx hby d_prog_46_method_12_2 rfl (ziloadN X0 hx hby d_prog_46_method_12_3 rfl (zicmpNo X0 hx hby d_prog_46_method_12_4 (by decide) (zaloadN X0 hx hby d_prog_46_method_12_7 rfl rfl (ziloadN X0 hx hby d_prog_46_method_12_8 rfl (zbaload X0 hx hby d_prog_46_method_12_9 hZ e0 A_b900 (by decide) (v := (.int 27)) rfl (zbipush X0 hx hby d_prog_46_method_12_10 (z := (27 : Int32)) rfl (zicmpNo X0 hx hby d_prog_46_method_12_12 (by decide) ?_)))))))))
  show zEnds p e below s T0 (mkF m 15 #[rv b900, iv 2, iv 5, iv 2] []) _ _ _
  refine ziloadN X0 hx hby d_prog_46_method_12_15 rfl (zgetstat X0 hx hby d_prog_46_method_12_16 hZ hown (host := "") (Or.inl (w10 hw)) Via.refl e0 (S_w_arr0.ext O0.2) fun T1 X1 e1 => (zalenC X1 hx hby d_prog_46_method_12_19 hZ e1 (A_w_arr0.ext O0.2) (3 : Int32) Al_w_arr0 (ziadd X1 hx hby d_prog_46_method_12_20 (5 : Int32) (by decide) (zistoreN X1 hx hby d_prog_46_method_12_21 (L' := #[rv b900, iv 2, iv 5, iv 5]) rfl (zgoto X1 hx hby d_prog_46_method_12_22 2 (by decide) (by decide) (ziloadN X1 hx hby d_prog_46_method_12_2 rfl (ziloadN X1 hx hby d_prog_46_method_12_3 rfl (zicmpYes X1 hx hby d_prog_46_method_12_4 25 (by decide) (by decide) (by decide) (ziloadN X1 hx hby d_prog_46_method_12_25 rfl ?_)))))))))
  show zEnds p e below s T1 (mkF m 26 #[rv b900, iv 2, iv 5, iv 5] [(.int 5)]) _ _ _
  exact zretI X1 hx hby d_prog_46_method_12_26 hret hlk (by decide) (by decide) ⟨rfl, e1, rfl⟩
set_option maxRecDepth 65536 in
set_option maxHeartbeats 40000000 in
theorem c107_firstCharacter (l : Launch) {Z : State} {a0 : Array Value} (hw : ∀ d ∈ tables_1, d.before a0 Z = true) (ws : List Jvm.Cond) {w_arr0 : Addr} {cl_arr0 : Cell} {n0 : Nat} {h0 : Heap} (C : Ctx Z w_arr0 cl_arr0) (O0 : Old Z n0 h0) (Z0 : n0 ≤ h0.size) (b900 : Addr) (x2 : Int32) (x3 : Int32) (x4 : Int32) (x5 : Int32) (x6 : Int32) (x7 : Int32) (x8 : Int32) (g_b900 : n0 ≤ b900) (A_b900 : zLst Z h0 b900 .byte [(.int x2), (.int x3), (.int 27), (.int x4), (.int x5), (.int x6), (.int x7), (.int x8), (.int 0), (.int 0), (.int 0), (.int 0), (.int 0), (.int 0), (.int 0), (.int 0), (.int 0), (.int 0), (.int 0), (.int 0)]) (k0 : ¬ (x6 = (27 : Int32))) : zCon l Z (⟨"com/example/kakehashi/kakehashi/message/Iso2022", "firstCharacter", "([BII)I"⟩ : MethodName) prog_46_method_12_code 4 (some .int) ws ({ frames := 0, cells := 0, slots := 0, locals := 0 } : Room) #[(.ref b900), (.int 2), (.int 6)] h0 (zSame (some (.int 5)) h0) := by
  obtain ⟨S_w_arr0, A_w_arr0, Al_w_arr0⟩ := C
  refine zenter (plainFor_of_name pn_0) (L0 := #[rv b900, iv 2, iv 6, .unset]) (fun m => by first | rfl | simp [entryFrame, mkF, argsToLocals, Value.category, maxLocals]) ?_
  intro p e s m below meth c T0 hx hZ hby hml hown0 hnm hret hlk X0 e0
  have hown : s.vm.findClass "com/example/kakehashi/kakehashi/message/Iso2022" = some m.cls := hown0
  have K0 := Keep.refl h0 []
  have N0 := Fr.nil n0
  show zEnds p e below s T0 (mkF m 0 #[rv b900, iv 2, iv 6, .unset] []) _ _ _
  refine ziloadN X0 hx hby d_prog_46_method_12_0 rfl (zistoreN X0 hx hby d_prog_46_method_12_1 (L' := #[rv b900, iv 2, iv 6, iv 2]) rfl (ziloadN X0 hx hby d_prog_46_method_12_2 rfl (ziloadN X0 hx hby d_prog_46_method_12_3 rfl (zicmpNo X0 hx hby d_prog_46_method_12_4 (by decide) (zaloadN X0 hx hby d_prog_46_method_12_7 rfl rfl (ziloadN X0 hx hby d_prog_46_method_12_8 rfl (zbaload X0 hx hby d_prog_46_method_12_9 hZ e0 A_b900 (by decide) (v := (.int 27)) rfl (zbipush X0 hx hby d_prog_46_method_12_10 (z := (27 : Int32)) rfl (zicmpNo X0 hx hby d_prog_46_method_12_12 (by decide) ?_)))))))))
  show zEnds p e below s T0 (mkF m 15 #[rv b900, iv 2, iv 6, iv 2] []) _ _ _
  refine ziloadN X0 hx hby d_prog_46_method_12_15 rfl (zgetstat X0 hx hby d_prog_46_method_12_16 hZ hown (host := "") (Or.inl (w10 hw)) Via.refl e0 (S_w_arr0.ext O0.2) fun T1 X1 e1 => (zalenC X1 hx hby d_prog_46_method_12_19 hZ e1 (A_w_arr0.ext O0.2) (3 : Int32) Al_w_arr0 (ziadd X1 hx hby d_prog_46_method_12_20 (5 : Int32) (by decide) (zistoreN X1 hx hby d_prog_46_method_12_21 (L' := #[rv b900, iv 2, iv 6, iv 5]) rfl (zgoto X1 hx hby d_prog_46_method_12_22 2 (by decide) (by decide) (ziloadN X1 hx hby d_prog_46_method_12_2 rfl (ziloadN X1 hx hby d_prog_46_method_12_3 rfl (zicmpNo X1 hx hby d_prog_46_method_12_4 (by decide) (zaloadN X1 hx hby d_prog_46_method_12_7 rfl rfl ?_)))))))))
  show zEnds p e below s T1 (mkF m 8 #[rv b900, iv 2, iv 6, iv 5] [(.ref b900)]) _ _ _
  refine ziloadN X1 hx hby d_prog_46_method_12_8 rfl (zbaload X1 hx hby d_prog_46_method_12_9 hZ e1 A_b900 (by decide) (v := (.int x6)) rfl (zbipush X1 hx hby d_prog_46_method_12_10 (z := (27 : Int32)) rfl (zicmpYes X1 hx hby d_prog_46_method_12_12 25 (feq k0).2 (by decide) (by decide) (ziloadN X1 hx hby d_prog_46_method_12_25 rfl ?_))))
  show zEnds p e below s T1 (mkF m 26 #[rv b900, iv 2, iv 6, iv 5] [(.int 5)]) _ _ _
  exact zretI X1 hx hby d_prog_46_method_12_26 hret hlk (by decide) (by decide) ⟨rfl, e1, rfl⟩
set_option maxRecDepth 65536 in
set_option maxHeartbeats 40000000 in
theorem c109_firstCharacter (l : Launch) {Z : State} {a0 : Array Value} (hw : ∀ d ∈ tables_1, d.before a0 Z = true) (ws : List Jvm.Cond) {w_arr0 : Addr} {cl_arr0 : Cell} {n0 : Nat} {h0 : Heap} (C : Ctx Z w_arr0 cl_arr0) (O0 : Old Z n0 h0) (Z0 : n0 ≤ h0.size) (b900 : Addr) (x2 : Int32) (x3 : Int32) (x4 : Int32) (x5 : Int32) (x6 : Int32) (x7 : Int32) (x8 : Int32) (x9 : Int32) (g_b900 : n0 ≤ b900) (A_b900 : zLst Z h0 b900 .byte [(.int x2), (.int x3), (.int 27), (.int x4), (.int x5), (.int x6), (.int x7), (.int x8), (.int x9), (.int 0), (.int 0), (.int 0), (.int 0), (.int 0), (.int 0), (.int 0), (.int 0), (.int 0), (.int 0), (.int 0)]) (k0 : ¬ (x6 = (27 : Int32))) : zCon l Z (⟨"com/example/kakehashi/kakehashi/message/Iso2022", "firstCharacter", "([BII)I"⟩ : MethodName) prog_46_method_12_code 4 (some .int) ws ({ frames := 0, cells := 0, slots := 0, locals := 0 } : Room) #[(.ref b900), (.int 2), (.int 7)] h0 (zSame (some (.int 5)) h0) := by
  obtain ⟨S_w_arr0, A_w_arr0, Al_w_arr0⟩ := C
  refine zenter (plainFor_of_name pn_0) (L0 := #[rv b900, iv 2, iv 7, .unset]) (fun m => by first | rfl | simp [entryFrame, mkF, argsToLocals, Value.category, maxLocals]) ?_
  intro p e s m below meth c T0 hx hZ hby hml hown0 hnm hret hlk X0 e0
  have hown : s.vm.findClass "com/example/kakehashi/kakehashi/message/Iso2022" = some m.cls := hown0
  have K0 := Keep.refl h0 []
  have N0 := Fr.nil n0
  show zEnds p e below s T0 (mkF m 0 #[rv b900, iv 2, iv 7, .unset] []) _ _ _
  refine ziloadN X0 hx hby d_prog_46_method_12_0 rfl (zistoreN X0 hx hby d_prog_46_method_12_1 (L' := #[rv b900, iv 2, iv 7, iv 2]) rfl (ziloadN X0 hx hby d_prog_46_method_12_2 rfl (ziloadN X0 hx hby d_prog_46_method_12_3 rfl (zicmpNo X0 hx hby d_prog_46_method_12_4 (by decide) (zaloadN X0 hx hby d_prog_46_method_12_7 rfl rfl (ziloadN X0 hx hby d_prog_46_method_12_8 rfl (zbaload X0 hx hby d_prog_46_method_12_9 hZ e0 A_b900 (by decide) (v := (.int 27)) rfl (zbipush X0 hx hby d_prog_46_method_12_10 (z := (27 : Int32)) rfl (zicmpNo X0 hx hby d_prog_46_method_12_12 (by decide) ?_)))))))))
  show zEnds p e below s T0 (mkF m 15 #[rv b900, iv 2, iv 7, iv 2] []) _ _ _
  refine ziloadN X0 hx hby d_prog_46_method_12_15 rfl (zgetstat X0 hx hby d_prog_46_method_12_16 hZ hown (host := "") (Or.inl (w10 hw)) Via.refl e0 (S_w_arr0.ext O0.2) fun T1 X1 e1 => (zalenC X1 hx hby d_prog_46_method_12_19 hZ e1 (A_w_arr0.ext O0.2) (3 : Int32) Al_w_arr0 (ziadd X1 hx hby d_prog_46_method_12_20 (5 : Int32) (by decide) (zistoreN X1 hx hby d_prog_46_method_12_21 (L' := #[rv b900, iv 2, iv 7, iv 5]) rfl (zgoto X1 hx hby d_prog_46_method_12_22 2 (by decide) (by decide) (ziloadN X1 hx hby d_prog_46_method_12_2 rfl (ziloadN X1 hx hby d_prog_46_method_12_3 rfl (zicmpNo X1 hx hby d_prog_46_method_12_4 (by decide) (zaloadN X1 hx hby d_prog_46_method_12_7 rfl rfl ?_)))))))))
  show zEnds p e below s T1 (mkF m 8 #[rv b900, iv 2, iv 7, iv 5] [(.ref b900)]) _ _ _
  refine ziloadN X1 hx hby d_prog_46_method_12_8 rfl (zbaload X1 hx hby d_prog_46_method_12_9 hZ e1 A_b900 (by decide) (v := (.int x6)) rfl (zbipush X1 hx hby d_prog_46_method_12_10 (z := (27 : Int32)) rfl (zicmpYes X1 hx hby d_prog_46_method_12_12 25 (feq k0).2 (by decide) (by decide) (ziloadN X1 hx hby d_prog_46_method_12_25 rfl ?_))))
  show zEnds p e below s T1 (mkF m 26 #[rv b900, iv 2, iv 7, iv 5] [(.int 5)]) _ _ _
  exact zretI X1 hx hby d_prog_46_method_12_26 hret hlk (by decide) (by decide) ⟨rfl, e1, rfl⟩
set_option maxRecDepth 65536 in
set_option maxHeartbeats 40000000 in
theorem c111_esc (l : Launch) {Z : State} {a0 : Array Value} (hw : ∀ d ∈ tables_1, d.before a0 Z = true) (ws : List Jvm.Cond) {w_arr0 : Addr} {cl_arr0 : Cell} {n0 : Nat} {h0 : Heap} (C : Ctx Z w_arr0 cl_arr0) (O0 : Old Z n0 h0) (Z0 : n0 ≤ h0.size) (x2 : Int32) (b900 : Addr) (x3 : Int32) (x4 : Int32) (x5 : Int32) (x6 : Int32) (x7 : Int32) (x8 : Int32) (x9 : Int32) (x10 : Int32) (x11 : Int32) (x12 : Int32) (x13 : Int32) (x14 : Int32) (x15 : Int32) (x16 : Int32) (x17 : Int32) (x18 : Int32) (x19 : Int32) (x20 : Int32) (x21 : Int32) (x22 : Int32) (g_b900 : n0 ≤ b900) (A_b900 : zLst Z h0 b900 .byte [(.int x3), (.int x4), (.int x5), (.int x6), (.int x7), (.int x8), (.int x9), (.int x10), (.int x11), (.int x12), (.int x13), (.int x14), (.int x15), (.int x16), (.int x17), (.int x18), (.int x19), (.int x20), (.int x21), (.int x22)]) (k0 : ¬ (x8 = (27 : Int32))) : zCon l Z (⟨"com/example/kakehashi/kakehashi/message/Iso2022FirstCharacterPinLaw", "esc", "([BII)I"⟩ : MethodName) method_2_code 4 (some .int) ws ({ frames := 0, cells := 0, slots := 0, locals := 0 } : Room) #[(.ref b900), (.int 6), (.int x2)] h0 (fun v h L => v = some (.int 9) ∧ Fr n0 L ∧ Keep h0 h [b900] ∧ zLst Z h b900 .byte [(.int x3), (.int x4), (.int x5), (.int x6), (.int x7), (.int x8), (.int 27), (.int ((e1v x2).toInt8.toInt32)), (.int ((e2v x2).toInt8.toInt32)), (.int x12), (.int x13), (.int x14), (.int x15), (.int x16), (.int x17), (.int x18), (.int x19), (.int x20), (.int x21), (.int x22)]) := by
  obtain ⟨S_w_arr0, A_w_arr0, Al_w_arr0⟩ := C
  refine zenter (plainFor_of_name pn_1) (L0 := #[rv b900, iv 6, iv x2, .unset]) (fun m => by first | rfl | simp [entryFrame, mkF, argsToLocals, Value.category, maxLocals]) ?_
  intro p e s m below meth c T0 hx hZ hby hml hown0 hnm hret hlk X0 e0
  have hown : s.vm.findClass "com/example/kakehashi/kakehashi/message/Iso2022FirstCharacterPinLaw" = some m.cls := hown0
  have K0 := Keep.refl h0 [b900]
  have N0 := Fr.nil n0
  show zEnds p e below s T0 (mkF m 0 #[rv b900, iv 6, iv x2, .unset] []) _ _ _
  refine ziloadN X0 hx hby d_method_2_0 rfl (ziconst X0 hx hby d_method_2_1 (z := (3 : Int32)) rfl (zirem X0 hx hby d_method_2_2 (x2 % (3 : Int32)) (by decide) rfl (zistoreN X0 hx hby d_method_2_3 (L' := #[rv b900, iv 6, iv x2, iv (x2 % (3 : Int32))]) rfl (zaloadN X0 hx hby d_method_2_4 rfl rfl (ziloadN X0 hx hby d_method_2_5 rfl (zbipush X0 hx hby d_method_2_6 (z := (27 : Int32)) rfl (zbastore X0 hx hby d_method_2_8 hZ e0 A_b900 (by decide) (by show Int32.toNatClampNeg 6 < 20; decide) (27 : Int32) (by decide) fun T1 h1 X1 e1 W1 A1_b900 => ?_)))))))
  change zLst Z h1 b900 .byte [(.int x3), (.int x4), (.int x5), (.int x6), (.int x7), (.int x8), (.int 27), (.int x10), (.int x11), (.int x12), (.int x13), (.int x14), (.int x15), (.int x16), (.int x17), (.int x18), (.int x19), (.int x20), (.int x21), (.int x22)] at A1_b900
  have O1 := O0.wr W1 g_b900
  have K1 := Keep.wr K0 W1 (Or.inl (List.mem_of_getElem? (i := 0) rfl))
  have N1 := Fr.snoc X1 N0 g_b900
  refine zaloadN X1 hx hby d_method_2_9 rfl rfl (ziloadN X1 hx hby d_method_2_10 rfl (ziconst X1 hx hby d_method_2_11 (z := (1 : Int32)) rfl (ziadd X1 hx hby d_method_2_12 (7 : Int32) (by decide) (ziloadN X1 hx hby d_method_2_13 rfl ?_))))
  show zEnds p e below s T1 (mkF m 14 #[rv b900, iv 6, iv x2, iv (x2 % (3 : Int32))] [(.int (x2 % (3 : Int32))), (.int 7), (.ref b900)]) _ _ _
  refine zjoin (T' := T1) (F' := (mkF m 24 #[rv b900, iv 6, iv x2, iv (x2 % (3 : Int32))] [(.int (e1v x2)), (.int 7), (.ref b900)])) (fun K => ?_) ?_
  · show zEnds p e below s T1 (mkF m 14 #[rv b900, iv 6, iv x2, iv (x2 % (3 : Int32))] [(.int (x2 % (3 : Int32))), (.int 7), (.ref b900)]) _ _ _
    by_cases hc2 : (x2 % (3 : Int32)) = (0 : Int32)
    · refine zifNo X1 hx hby d_method_2_14 ((if0 _ _).trans (teq hc2).2) (zbipush X1 hx hby d_method_2_17 (z := (36 : Int32)) rfl (zgoto X1 hx hby d_method_2_19 24 (by decide) (by decide) ?_))
      show zEnds p e below s T1 (mkF m 24 #[rv b900, iv 6, iv x2, iv (x2 % (3 : Int32))] [(.int 36), (.int 7), (.ref b900)]) _ _ _
      rw [show (36 : Int32) = (e1v x2) from by simp +decide [e1v, k0, hc2]]; exact K
    · refine zifYes X1 hx hby d_method_2_14 22 ((if0 _ _).trans (feq hc2).2) (by decide) (by decide) (zbipush X1 hx hby d_method_2_22 (z := (40 : Int32)) rfl ?_)
      show zEnds p e below s T1 (mkF m 24 #[rv b900, iv 6, iv x2, iv (x2 % (3 : Int32))] [(.int 40), (.int 7), (.ref b900)]) _ _ _
      rw [show (40 : Int32) = (e1v x2) from by simp +decide [e1v, k0, hc2]]; exact K
  refine zi2b X1 hx hby d_method_2_24 ((e1v x2).toInt8.toInt32) rfl (zbastore X1 hx hby d_method_2_25 hZ e1 A1_b900 (by decide) (by show Int32.toNatClampNeg 7 < 20; decide) ((e1v x2).toInt8.toInt32) (own_nar8 _) fun T3 h3 X3 e3 W3 A3_b900 => ?_)
  change zLst Z h3 b900 .byte [(.int x3), (.int x4), (.int x5), (.int x6), (.int x7), (.int x8), (.int 27), (.int ((e1v x2).toInt8.toInt32)), (.int x11), (.int x12), (.int x13), (.int x14), (.int x15), (.int x16), (.int x17), (.int x18), (.int x19), (.int x20), (.int x21), (.int x22)] at A3_b900
  have O3 := O1.wr W3 g_b900
  have K3 := Keep.wr K1 W3 (Or.inl (List.mem_of_getElem? (i := 0) rfl))
  have N3 := Fr.snoc X3 N1 g_b900
  refine zaloadN X3 hx hby d_method_2_26 rfl rfl (ziloadN X3 hx hby d_method_2_27 rfl (ziconst X3 hx hby d_method_2_28 (z := (2 : Int32)) rfl (ziadd X3 hx hby d_method_2_29 (8 : Int32) (by decide) (ziloadN X3 hx hby d_method_2_30 rfl (ziconst X3 hx hby d_method_2_31 (z := (2 : Int32)) rfl ?_)))))
  show zEnds p e below s T3 (mkF m 32 #[rv b900, iv 6, iv x2, iv (x2 % (3 : Int32))] [(.int 2), (.int (x2 % (3 : Int32))), (.int 8), (.ref b900)]) _ _ _
  refine zjoin (T' := T3) (F' := (mkF m 42 #[rv b900, iv 6, iv x2, iv (x2 % (3 : Int32))] [(.int (e2v x2)), (.int 8), (.ref b900)])) (fun K => ?_) ?_
  · show zEnds p e below s T3 (mkF m 32 #[rv b900, iv 6, iv x2, iv (x2 % (3 : Int32))] [(.int 2), (.int (x2 % (3 : Int32))), (.int 8), (.ref b900)]) _ _ _
    by_cases hc4 : (x2 % (3 : Int32)) = (2 : Int32)
    · refine zicmpNo X3 hx hby d_method_2_32 (teq hc4).2 (zbipush X3 hx hby d_method_2_35 (z := (74 : Int32)) rfl (zgoto X3 hx hby d_method_2_37 42 (by decide) (by decide) ?_))
      show zEnds p e below s T3 (mkF m 42 #[rv b900, iv 6, iv x2, iv (x2 % (3 : Int32))] [(.int 74), (.int 8), (.ref b900)]) _ _ _
      rw [show (74 : Int32) = (e2v x2) from by simp +decide [e2v, k0, hc4]]; exact K
    · refine zicmpYes X3 hx hby d_method_2_32 40 (feq hc4).2 (by decide) (by decide) (zbipush X3 hx hby d_method_2_40 (z := (66 : Int32)) rfl ?_)
      show zEnds p e below s T3 (mkF m 42 #[rv b900, iv 6, iv x2, iv (x2 % (3 : Int32))] [(.int 66), (.int 8), (.ref b900)]) _ _ _
      rw [show (66 : Int32) = (e2v x2) from by simp +decide [e2v, k0, hc4]]; exact K
  refine zi2b X3 hx hby d_method_2_42 ((e2v x2).toInt8.toInt32) rfl (zbastore X3 hx hby d_method_2_43 hZ e3 A3_b900 (by decide) (by show Int32.toNatClampNeg 8 < 20; decide) ((e2v x2).toInt8.toInt32) (own_nar8 _) fun T5 h5 X5 e5 W5 A5_b900 => ?_)
  change zLst Z h5 b900 .byte [(.int x3), (.int x4), (.int x5), (.int x6), (.int x7), (.int x8), (.int 27), (.int ((e1v x2).toInt8.toInt32)), (.int ((e2v x2).toInt8.toInt32)), (.int x12), (.int x13), (.int x14), (.int x15), (.int x16), (.int x17), (.int x18), (.int x19), (.int x20), (.int x21), (.int x22)] at A5_b900
  have O5 := O3.wr W5 g_b900
  have K5 := Keep.wr K3 W5 (Or.inl (List.mem_of_getElem? (i := 0) rfl))
  have N5 := Fr.snoc X5 N3 g_b900
  refine ziloadN X5 hx hby d_method_2_44 rfl (ziconst X5 hx hby d_method_2_45 (z := (3 : Int32)) rfl (ziadd X5 hx hby d_method_2_46 (9 : Int32) (by decide) ?_))
  show zEnds p e below s T5 (mkF m 47 #[rv b900, iv 6, iv x2, iv (x2 % (3 : Int32))] [(.int 9)]) _ _ _
  exact zretI X5 hx hby d_method_2_47 hret hlk (by decide) (by decide) (by rw [e5]; exact ⟨rfl, N5, K5, A5_b900⟩)
set_option maxRecDepth 65536 in
set_option maxHeartbeats 40000000 in
theorem c113_firstCharacter (l : Launch) {Z : State} {a0 : Array Value} (hw : ∀ d ∈ tables_1, d.before a0 Z = true) (ws : List Jvm.Cond) {w_arr0 : Addr} {cl_arr0 : Cell} {n0 : Nat} {h0 : Heap} (C : Ctx Z w_arr0 cl_arr0) (O0 : Old Z n0 h0) (Z0 : n0 ≤ h0.size) (b900 : Addr) (x2 : Int32) (x3 : Int32) (x4 : Int32) (x5 : Int32) (x6 : Int32) (x7 : Int32) (x8 : Int32) (x9 : Int32) (x10 : Int32) (g_b900 : n0 ≤ b900) (A_b900 : zLst Z h0 b900 .byte [(.int x2), (.int x3), (.int 27), (.int x4), (.int x5), (.int x6), (.int 27), (.int x7), (.int x8), (.int x9), (.int x10), (.int 0), (.int 0), (.int 0), (.int 0), (.int 0), (.int 0), (.int 0), (.int 0), (.int 0)]) (k0 : ¬ (x6 = (27 : Int32))) : zCon l Z (⟨"com/example/kakehashi/kakehashi/message/Iso2022", "firstCharacter", "([BII)I"⟩ : MethodName) prog_46_method_12_code 4 (some .int) ws ({ frames := 0, cells := 0, slots := 0, locals := 0 } : Room) #[(.ref b900), (.int 2), (.int 9)] h0 (zSame (some (.int 5)) h0) := by
  obtain ⟨S_w_arr0, A_w_arr0, Al_w_arr0⟩ := C
  refine zenter (plainFor_of_name pn_0) (L0 := #[rv b900, iv 2, iv 9, .unset]) (fun m => by first | rfl | simp [entryFrame, mkF, argsToLocals, Value.category, maxLocals]) ?_
  intro p e s m below meth c T0 hx hZ hby hml hown0 hnm hret hlk X0 e0
  have hown : s.vm.findClass "com/example/kakehashi/kakehashi/message/Iso2022" = some m.cls := hown0
  have K0 := Keep.refl h0 []
  have N0 := Fr.nil n0
  show zEnds p e below s T0 (mkF m 0 #[rv b900, iv 2, iv 9, .unset] []) _ _ _
  refine ziloadN X0 hx hby d_prog_46_method_12_0 rfl (zistoreN X0 hx hby d_prog_46_method_12_1 (L' := #[rv b900, iv 2, iv 9, iv 2]) rfl (ziloadN X0 hx hby d_prog_46_method_12_2 rfl (ziloadN X0 hx hby d_prog_46_method_12_3 rfl (zicmpNo X0 hx hby d_prog_46_method_12_4 (by decide) (zaloadN X0 hx hby d_prog_46_method_12_7 rfl rfl (ziloadN X0 hx hby d_prog_46_method_12_8 rfl (zbaload X0 hx hby d_prog_46_method_12_9 hZ e0 A_b900 (by decide) (v := (.int 27)) rfl (zbipush X0 hx hby d_prog_46_method_12_10 (z := (27 : Int32)) rfl (zicmpNo X0 hx hby d_prog_46_method_12_12 (by decide) ?_)))))))))
  show zEnds p e below s T0 (mkF m 15 #[rv b900, iv 2, iv 9, iv 2] []) _ _ _
  refine ziloadN X0 hx hby d_prog_46_method_12_15 rfl (zgetstat X0 hx hby d_prog_46_method_12_16 hZ hown (host := "") (Or.inl (w10 hw)) Via.refl e0 (S_w_arr0.ext O0.2) fun T1 X1 e1 => (zalenC X1 hx hby d_prog_46_method_12_19 hZ e1 (A_w_arr0.ext O0.2) (3 : Int32) Al_w_arr0 (ziadd X1 hx hby d_prog_46_method_12_20 (5 : Int32) (by decide) (zistoreN X1 hx hby d_prog_46_method_12_21 (L' := #[rv b900, iv 2, iv 9, iv 5]) rfl (zgoto X1 hx hby d_prog_46_method_12_22 2 (by decide) (by decide) (ziloadN X1 hx hby d_prog_46_method_12_2 rfl (ziloadN X1 hx hby d_prog_46_method_12_3 rfl (zicmpNo X1 hx hby d_prog_46_method_12_4 (by decide) (zaloadN X1 hx hby d_prog_46_method_12_7 rfl rfl ?_)))))))))
  show zEnds p e below s T1 (mkF m 8 #[rv b900, iv 2, iv 9, iv 5] [(.ref b900)]) _ _ _
  refine ziloadN X1 hx hby d_prog_46_method_12_8 rfl (zbaload X1 hx hby d_prog_46_method_12_9 hZ e1 A_b900 (by decide) (v := (.int x6)) rfl (zbipush X1 hx hby d_prog_46_method_12_10 (z := (27 : Int32)) rfl (zicmpYes X1 hx hby d_prog_46_method_12_12 25 (feq k0).2 (by decide) (by decide) (ziloadN X1 hx hby d_prog_46_method_12_25 rfl ?_))))
  show zEnds p e below s T1 (mkF m 26 #[rv b900, iv 2, iv 9, iv 5] [(.int 5)]) _ _ _
  exact zretI X1 hx hby d_prog_46_method_12_26 hret hlk (by decide) (by decide) ⟨rfl, e1, rfl⟩
set_option maxRecDepth 65536 in
set_option maxHeartbeats 40000000 in
theorem c115_esc (l : Launch) {Z : State} {a0 : Array Value} (hw : ∀ d ∈ tables_1, d.before a0 Z = true) (ws : List Jvm.Cond) {w_arr0 : Addr} {cl_arr0 : Cell} {n0 : Nat} {h0 : Heap} (C : Ctx Z w_arr0 cl_arr0) (O0 : Old Z n0 h0) (Z0 : n0 ≤ h0.size) (x2 : Int32) (b900 : Addr) (x3 : Int32) (x4 : Int32) (x5 : Int32) (x6 : Int32) (x7 : Int32) (x8 : Int32) (x9 : Int32) (x10 : Int32) (x11 : Int32) (x12 : Int32) (x13 : Int32) (x14 : Int32) (x15 : Int32) (x16 : Int32) (x17 : Int32) (x18 : Int32) (x19 : Int32) (x20 : Int32) (x21 : Int32) (x22 : Int32) (g_b900 : n0 ≤ b900) (A_b900 : zLst Z h0 b900 .byte [(.int x3), (.int x4), (.int x5), (.int x6), (.int x7), (.int x8), (.int x9), (.int x10), (.int x11), (.int x12), (.int x13), (.int x14), (.int x15), (.int x16), (.int x17), (.int x18), (.int x19), (.int x20), (.int x21), (.int x22)]) : zCon l Z (⟨"com/example/kakehashi/kakehashi/message/Iso2022FirstCharacterPinLaw", "esc", "([BII)I"⟩ : MethodName) method_2_code 4 (some .int) ws ({ frames := 0, cells := 0, slots := 0, locals := 0 } : Room) #[(.ref b900), (.int 5), (.int x2)] h0 (fun v h L => v = some (.int 8) ∧ Fr n0 L ∧ Keep h0 h [b900] ∧ zLst Z h b900 .byte [(.int x3), (.int x4), (.int x5), (.int x6), (.int x7), (.int 27), (.int ((e1v x2).toInt8.toInt32)), (.int ((e2v x2).toInt8.toInt32)), (.int x11), (.int x12), (.int x13), (.int x14), (.int x15), (.int x16), (.int x17), (.int x18), (.int x19), (.int x20), (.int x21), (.int x22)]) := by
  obtain ⟨S_w_arr0, A_w_arr0, Al_w_arr0⟩ := C
  refine zenter (plainFor_of_name pn_1) (L0 := #[rv b900, iv 5, iv x2, .unset]) (fun m => by first | rfl | simp [entryFrame, mkF, argsToLocals, Value.category, maxLocals]) ?_
  intro p e s m below meth c T0 hx hZ hby hml hown0 hnm hret hlk X0 e0
  have hown : s.vm.findClass "com/example/kakehashi/kakehashi/message/Iso2022FirstCharacterPinLaw" = some m.cls := hown0
  have K0 := Keep.refl h0 [b900]
  have N0 := Fr.nil n0
  show zEnds p e below s T0 (mkF m 0 #[rv b900, iv 5, iv x2, .unset] []) _ _ _
  refine ziloadN X0 hx hby d_method_2_0 rfl (ziconst X0 hx hby d_method_2_1 (z := (3 : Int32)) rfl (zirem X0 hx hby d_method_2_2 (x2 % (3 : Int32)) (by decide) rfl (zistoreN X0 hx hby d_method_2_3 (L' := #[rv b900, iv 5, iv x2, iv (x2 % (3 : Int32))]) rfl (zaloadN X0 hx hby d_method_2_4 rfl rfl (ziloadN X0 hx hby d_method_2_5 rfl (zbipush X0 hx hby d_method_2_6 (z := (27 : Int32)) rfl (zbastore X0 hx hby d_method_2_8 hZ e0 A_b900 (by decide) (by show Int32.toNatClampNeg 5 < 20; decide) (27 : Int32) (by decide) fun T1 h1 X1 e1 W1 A1_b900 => ?_)))))))
  change zLst Z h1 b900 .byte [(.int x3), (.int x4), (.int x5), (.int x6), (.int x7), (.int 27), (.int x9), (.int x10), (.int x11), (.int x12), (.int x13), (.int x14), (.int x15), (.int x16), (.int x17), (.int x18), (.int x19), (.int x20), (.int x21), (.int x22)] at A1_b900
  have O1 := O0.wr W1 g_b900
  have K1 := Keep.wr K0 W1 (Or.inl (List.mem_of_getElem? (i := 0) rfl))
  have N1 := Fr.snoc X1 N0 g_b900
  refine zaloadN X1 hx hby d_method_2_9 rfl rfl (ziloadN X1 hx hby d_method_2_10 rfl (ziconst X1 hx hby d_method_2_11 (z := (1 : Int32)) rfl (ziadd X1 hx hby d_method_2_12 (6 : Int32) (by decide) (ziloadN X1 hx hby d_method_2_13 rfl ?_))))
  show zEnds p e below s T1 (mkF m 14 #[rv b900, iv 5, iv x2, iv (x2 % (3 : Int32))] [(.int (x2 % (3 : Int32))), (.int 6), (.ref b900)]) _ _ _
  refine zjoin (T' := T1) (F' := (mkF m 24 #[rv b900, iv 5, iv x2, iv (x2 % (3 : Int32))] [(.int (e1v x2)), (.int 6), (.ref b900)])) (fun K => ?_) ?_
  · show zEnds p e below s T1 (mkF m 14 #[rv b900, iv 5, iv x2, iv (x2 % (3 : Int32))] [(.int (x2 % (3 : Int32))), (.int 6), (.ref b900)]) _ _ _
    by_cases hc2 : (x2 % (3 : Int32)) = (0 : Int32)
    · refine zifNo X1 hx hby d_method_2_14 ((if0 _ _).trans (teq hc2).2) (zbipush X1 hx hby d_method_2_17 (z := (36 : Int32)) rfl (zgoto X1 hx hby d_method_2_19 24 (by decide) (by decide) ?_))
      show zEnds p e below s T1 (mkF m 24 #[rv b900, iv 5, iv x2, iv (x2 % (3 : Int32))] [(.int 36), (.int 6), (.ref b900)]) _ _ _
      rw [show (36 : Int32) = (e1v x2) from by simp +decide [e1v, hc2]]; exact K
    · refine zifYes X1 hx hby d_method_2_14 22 ((if0 _ _).trans (feq hc2).2) (by decide) (by decide) (zbipush X1 hx hby d_method_2_22 (z := (40 : Int32)) rfl ?_)
      show zEnds p e below s T1 (mkF m 24 #[rv b900, iv 5, iv x2, iv (x2 % (3 : Int32))] [(.int 40), (.int 6), (.ref b900)]) _ _ _
      rw [show (40 : Int32) = (e1v x2) from by simp +decide [e1v, hc2]]; exact K
  refine zi2b X1 hx hby d_method_2_24 ((e1v x2).toInt8.toInt32) rfl (zbastore X1 hx hby d_method_2_25 hZ e1 A1_b900 (by decide) (by show Int32.toNatClampNeg 6 < 20; decide) ((e1v x2).toInt8.toInt32) (own_nar8 _) fun T3 h3 X3 e3 W3 A3_b900 => ?_)
  change zLst Z h3 b900 .byte [(.int x3), (.int x4), (.int x5), (.int x6), (.int x7), (.int 27), (.int ((e1v x2).toInt8.toInt32)), (.int x10), (.int x11), (.int x12), (.int x13), (.int x14), (.int x15), (.int x16), (.int x17), (.int x18), (.int x19), (.int x20), (.int x21), (.int x22)] at A3_b900
  have O3 := O1.wr W3 g_b900
  have K3 := Keep.wr K1 W3 (Or.inl (List.mem_of_getElem? (i := 0) rfl))
  have N3 := Fr.snoc X3 N1 g_b900
  refine zaloadN X3 hx hby d_method_2_26 rfl rfl (ziloadN X3 hx hby d_method_2_27 rfl (ziconst X3 hx hby d_method_2_28 (z := (2 : Int32)) rfl (ziadd X3 hx hby d_method_2_29 (7 : Int32) (by decide) (ziloadN X3 hx hby d_method_2_30 rfl (ziconst X3 hx hby d_method_2_31 (z := (2 : Int32)) rfl ?_)))))
  show zEnds p e below s T3 (mkF m 32 #[rv b900, iv 5, iv x2, iv (x2 % (3 : Int32))] [(.int 2), (.int (x2 % (3 : Int32))), (.int 7), (.ref b900)]) _ _ _
  refine zjoin (T' := T3) (F' := (mkF m 42 #[rv b900, iv 5, iv x2, iv (x2 % (3 : Int32))] [(.int (e2v x2)), (.int 7), (.ref b900)])) (fun K => ?_) ?_
  · show zEnds p e below s T3 (mkF m 32 #[rv b900, iv 5, iv x2, iv (x2 % (3 : Int32))] [(.int 2), (.int (x2 % (3 : Int32))), (.int 7), (.ref b900)]) _ _ _
    by_cases hc4 : (x2 % (3 : Int32)) = (2 : Int32)
    · refine zicmpNo X3 hx hby d_method_2_32 (teq hc4).2 (zbipush X3 hx hby d_method_2_35 (z := (74 : Int32)) rfl (zgoto X3 hx hby d_method_2_37 42 (by decide) (by decide) ?_))
      show zEnds p e below s T3 (mkF m 42 #[rv b900, iv 5, iv x2, iv (x2 % (3 : Int32))] [(.int 74), (.int 7), (.ref b900)]) _ _ _
      rw [show (74 : Int32) = (e2v x2) from by simp +decide [e2v, hc4]]; exact K
    · refine zicmpYes X3 hx hby d_method_2_32 40 (feq hc4).2 (by decide) (by decide) (zbipush X3 hx hby d_method_2_40 (z := (66 : Int32)) rfl ?_)
      show zEnds p e below s T3 (mkF m 42 #[rv b900, iv 5, iv x2, iv (x2 % (3 : Int32))] [(.int 66), (.int 7), (.ref b900)]) _ _ _
      rw [show (66 : Int32) = (e2v x2) from by simp +decide [e2v, hc4]]; exact K
  refine zi2b X3 hx hby d_method_2_42 ((e2v x2).toInt8.toInt32) rfl (zbastore X3 hx hby d_method_2_43 hZ e3 A3_b900 (by decide) (by show Int32.toNatClampNeg 7 < 20; decide) ((e2v x2).toInt8.toInt32) (own_nar8 _) fun T5 h5 X5 e5 W5 A5_b900 => ?_)
  change zLst Z h5 b900 .byte [(.int x3), (.int x4), (.int x5), (.int x6), (.int x7), (.int 27), (.int ((e1v x2).toInt8.toInt32)), (.int ((e2v x2).toInt8.toInt32)), (.int x11), (.int x12), (.int x13), (.int x14), (.int x15), (.int x16), (.int x17), (.int x18), (.int x19), (.int x20), (.int x21), (.int x22)] at A5_b900
  have O5 := O3.wr W5 g_b900
  have K5 := Keep.wr K3 W5 (Or.inl (List.mem_of_getElem? (i := 0) rfl))
  have N5 := Fr.snoc X5 N3 g_b900
  refine ziloadN X5 hx hby d_method_2_44 rfl (ziconst X5 hx hby d_method_2_45 (z := (3 : Int32)) rfl (ziadd X5 hx hby d_method_2_46 (8 : Int32) (by decide) ?_))
  show zEnds p e below s T5 (mkF m 47 #[rv b900, iv 5, iv x2, iv (x2 % (3 : Int32))] [(.int 8)]) _ _ _
  exact zretI X5 hx hby d_method_2_47 hret hlk (by decide) (by decide) (by rw [e5]; exact ⟨rfl, N5, K5, A5_b900⟩)
set_option maxRecDepth 65536 in
set_option maxHeartbeats 40000000 in
theorem c117_firstCharacter (l : Launch) {Z : State} {a0 : Array Value} (hw : ∀ d ∈ tables_1, d.before a0 Z = true) (ws : List Jvm.Cond) {w_arr0 : Addr} {cl_arr0 : Cell} {n0 : Nat} {h0 : Heap} (C : Ctx Z w_arr0 cl_arr0) (O0 : Old Z n0 h0) (Z0 : n0 ≤ h0.size) (b900 : Addr) (x2 : Int32) (x3 : Int32) (x4 : Int32) (x5 : Int32) (x6 : Int32) (x7 : Int32) (x8 : Int32) (x9 : Int32) (g_b900 : n0 ≤ b900) (A_b900 : zLst Z h0 b900 .byte [(.int x2), (.int x3), (.int 27), (.int x4), (.int x5), (.int 27), (.int x6), (.int x7), (.int x8), (.int x9), (.int 0), (.int 0), (.int 0), (.int 0), (.int 0), (.int 0), (.int 0), (.int 0), (.int 0), (.int 0)]) : zCon l Z (⟨"com/example/kakehashi/kakehashi/message/Iso2022", "firstCharacter", "([BII)I"⟩ : MethodName) prog_46_method_12_code 4 (some .int) ws ({ frames := 0, cells := 0, slots := 0, locals := 0 } : Room) #[(.ref b900), (.int 2), (.int 8)] h0 (zSame (some (.int 8)) h0) := by
  obtain ⟨S_w_arr0, A_w_arr0, Al_w_arr0⟩ := C
  refine zenter (plainFor_of_name pn_0) (L0 := #[rv b900, iv 2, iv 8, .unset]) (fun m => by first | rfl | simp [entryFrame, mkF, argsToLocals, Value.category, maxLocals]) ?_
  intro p e s m below meth c T0 hx hZ hby hml hown0 hnm hret hlk X0 e0
  have hown : s.vm.findClass "com/example/kakehashi/kakehashi/message/Iso2022" = some m.cls := hown0
  have K0 := Keep.refl h0 []
  have N0 := Fr.nil n0
  show zEnds p e below s T0 (mkF m 0 #[rv b900, iv 2, iv 8, .unset] []) _ _ _
  refine ziloadN X0 hx hby d_prog_46_method_12_0 rfl (zistoreN X0 hx hby d_prog_46_method_12_1 (L' := #[rv b900, iv 2, iv 8, iv 2]) rfl (ziloadN X0 hx hby d_prog_46_method_12_2 rfl (ziloadN X0 hx hby d_prog_46_method_12_3 rfl (zicmpNo X0 hx hby d_prog_46_method_12_4 (by decide) (zaloadN X0 hx hby d_prog_46_method_12_7 rfl rfl (ziloadN X0 hx hby d_prog_46_method_12_8 rfl (zbaload X0 hx hby d_prog_46_method_12_9 hZ e0 A_b900 (by decide) (v := (.int 27)) rfl (zbipush X0 hx hby d_prog_46_method_12_10 (z := (27 : Int32)) rfl (zicmpNo X0 hx hby d_prog_46_method_12_12 (by decide) ?_)))))))))
  show zEnds p e below s T0 (mkF m 15 #[rv b900, iv 2, iv 8, iv 2] []) _ _ _
  refine ziloadN X0 hx hby d_prog_46_method_12_15 rfl (zgetstat X0 hx hby d_prog_46_method_12_16 hZ hown (host := "") (Or.inl (w10 hw)) Via.refl e0 (S_w_arr0.ext O0.2) fun T1 X1 e1 => (zalenC X1 hx hby d_prog_46_method_12_19 hZ e1 (A_w_arr0.ext O0.2) (3 : Int32) Al_w_arr0 (ziadd X1 hx hby d_prog_46_method_12_20 (5 : Int32) (by decide) (zistoreN X1 hx hby d_prog_46_method_12_21 (L' := #[rv b900, iv 2, iv 8, iv 5]) rfl (zgoto X1 hx hby d_prog_46_method_12_22 2 (by decide) (by decide) (ziloadN X1 hx hby d_prog_46_method_12_2 rfl (ziloadN X1 hx hby d_prog_46_method_12_3 rfl (zicmpNo X1 hx hby d_prog_46_method_12_4 (by decide) (zaloadN X1 hx hby d_prog_46_method_12_7 rfl rfl ?_)))))))))
  show zEnds p e below s T1 (mkF m 8 #[rv b900, iv 2, iv 8, iv 5] [(.ref b900)]) _ _ _
  refine ziloadN X1 hx hby d_prog_46_method_12_8 rfl (zbaload X1 hx hby d_prog_46_method_12_9 hZ e1 A_b900 (by decide) (v := (.int 27)) rfl (zbipush X1 hx hby d_prog_46_method_12_10 (z := (27 : Int32)) rfl (zicmpNo X1 hx hby d_prog_46_method_12_12 (by decide) (ziloadN X1 hx hby d_prog_46_method_12_15 rfl (zgetstat X1 hx hby d_prog_46_method_12_16 hZ hown (host := "") (Or.inl (w10 hw)) Via.refl e1 (S_w_arr0.ext O0.2) fun T2 X2 e2 => (zalenC X2 hx hby d_prog_46_method_12_19 hZ e2 (A_w_arr0.ext O0.2) (3 : Int32) Al_w_arr0 (ziadd X2 hx hby d_prog_46_method_12_20 (8 : Int32) (by decide) (zistoreN X2 hx hby d_prog_46_method_12_21 (L' := #[rv b900, iv 2, iv 8, iv 8]) rfl (zgoto X2 hx hby d_prog_46_method_12_22 2 (by decide) (by decide) ?_)))))))))
  show zEnds p e below s T2 (mkF m 2 #[rv b900, iv 2, iv 8, iv 8] []) _ _ _
  refine ziloadN X2 hx hby d_prog_46_method_12_2 rfl (ziloadN X2 hx hby d_prog_46_method_12_3 rfl (zicmpYes X2 hx hby d_prog_46_method_12_4 25 (by decide) (by decide) (by decide) (ziloadN X2 hx hby d_prog_46_method_12_25 rfl ?_)))
  show zEnds p e below s T2 (mkF m 26 #[rv b900, iv 2, iv 8, iv 8] [(.int 8)]) _ _ _
  exact zretI X2 hx hby d_prog_46_method_12_26 hret hlk (by decide) (by decide) ⟨rfl, e2, rfl⟩
set_option maxRecDepth 65536 in
set_option maxHeartbeats 40000000 in
theorem c119_firstCharacter (l : Launch) {Z : State} {a0 : Array Value} (hw : ∀ d ∈ tables_1, d.before a0 Z = true) (ws : List Jvm.Cond) {w_arr0 : Addr} {cl_arr0 : Cell} {n0 : Nat} {h0 : Heap} (C : Ctx Z w_arr0 cl_arr0) (O0 : Old Z n0 h0) (Z0 : n0 ≤ h0.size) (b900 : Addr) (x2 : Int32) (x3 : Int32) (x4 : Int32) (x5 : Int32) (x6 : Int32) (x7 : Int32) (x8 : Int32) (x9 : Int32) (x10 : Int32) (g_b900 : n0 ≤ b900) (A_b900 : zLst Z h0 b900 .byte [(.int x2), (.int x3), (.int 27), (.int x4), (.int x5), (.int 27), (.int x6), (.int x7), (.int x8), (.int x9), (.int x10), (.int 0), (.int 0), (.int 0), (.int 0), (.int 0), (.int 0), (.int 0), (.int 0), (.int 0)]) (k0 : ¬ (x8 = (27 : Int32))) : zCon l Z (⟨"com/example/kakehashi/kakehashi/message/Iso2022", "firstCharacter", "([BII)I"⟩ : MethodName) prog_46_method_12_code 4 (some .int) ws ({ frames := 0, cells := 0, slots := 0, locals := 0 } : Room) #[(.ref b900), (.int 2), (.int 9)] h0 (zSame (some (.int 8)) h0) := by
  obtain ⟨S_w_arr0, A_w_arr0, Al_w_arr0⟩ := C
  refine zenter (plainFor_of_name pn_0) (L0 := #[rv b900, iv 2, iv 9, .unset]) (fun m => by first | rfl | simp [entryFrame, mkF, argsToLocals, Value.category, maxLocals]) ?_
  intro p e s m below meth c T0 hx hZ hby hml hown0 hnm hret hlk X0 e0
  have hown : s.vm.findClass "com/example/kakehashi/kakehashi/message/Iso2022" = some m.cls := hown0
  have K0 := Keep.refl h0 []
  have N0 := Fr.nil n0
  show zEnds p e below s T0 (mkF m 0 #[rv b900, iv 2, iv 9, .unset] []) _ _ _
  refine ziloadN X0 hx hby d_prog_46_method_12_0 rfl (zistoreN X0 hx hby d_prog_46_method_12_1 (L' := #[rv b900, iv 2, iv 9, iv 2]) rfl (ziloadN X0 hx hby d_prog_46_method_12_2 rfl (ziloadN X0 hx hby d_prog_46_method_12_3 rfl (zicmpNo X0 hx hby d_prog_46_method_12_4 (by decide) (zaloadN X0 hx hby d_prog_46_method_12_7 rfl rfl (ziloadN X0 hx hby d_prog_46_method_12_8 rfl (zbaload X0 hx hby d_prog_46_method_12_9 hZ e0 A_b900 (by decide) (v := (.int 27)) rfl (zbipush X0 hx hby d_prog_46_method_12_10 (z := (27 : Int32)) rfl (zicmpNo X0 hx hby d_prog_46_method_12_12 (by decide) ?_)))))))))
  show zEnds p e below s T0 (mkF m 15 #[rv b900, iv 2, iv 9, iv 2] []) _ _ _
  refine ziloadN X0 hx hby d_prog_46_method_12_15 rfl (zgetstat X0 hx hby d_prog_46_method_12_16 hZ hown (host := "") (Or.inl (w10 hw)) Via.refl e0 (S_w_arr0.ext O0.2) fun T1 X1 e1 => (zalenC X1 hx hby d_prog_46_method_12_19 hZ e1 (A_w_arr0.ext O0.2) (3 : Int32) Al_w_arr0 (ziadd X1 hx hby d_prog_46_method_12_20 (5 : Int32) (by decide) (zistoreN X1 hx hby d_prog_46_method_12_21 (L' := #[rv b900, iv 2, iv 9, iv 5]) rfl (zgoto X1 hx hby d_prog_46_method_12_22 2 (by decide) (by decide) (ziloadN X1 hx hby d_prog_46_method_12_2 rfl (ziloadN X1 hx hby d_prog_46_method_12_3 rfl (zicmpNo X1 hx hby d_prog_46_method_12_4 (by decide) (zaloadN X1 hx hby d_prog_46_method_12_7 rfl rfl ?_)))))))))
  show zEnds p e below s T1 (mkF m 8 #[rv b900, iv 2, iv 9, iv 5] [(.ref b900)]) _ _ _
  refine ziloadN X1 hx hby d_prog_46_method_12_8 rfl (zbaload X1 hx hby d_prog_46_method_12_9 hZ e1 A_b900 (by decide) (v := (.int 27)) rfl (zbipush X1 hx hby d_prog_46_method_12_10 (z := (27 : Int32)) rfl (zicmpNo X1 hx hby d_prog_46_method_12_12 (by decide) (ziloadN X1 hx hby d_prog_46_method_12_15 rfl (zgetstat X1 hx hby d_prog_46_method_12_16 hZ hown (host := "") (Or.inl (w10 hw)) Via.refl e1 (S_w_arr0.ext O0.2) fun T2 X2 e2 => (zalenC X2 hx hby d_prog_46_method_12_19 hZ e2 (A_w_arr0.ext O0.2) (3 : Int32) Al_w_arr0 (ziadd X2 hx hby d_prog_46_method_12_20 (8 : Int32) (by decide) (zistoreN X2 hx hby d_prog_46_method_12_21 (L' := #[rv b900, iv 2, iv 9, iv 8]) rfl (zgoto X2 hx hby d_prog_46_method_12_22 2 (by decide) (by decide) ?_)))))))))
  show zEnds p e below s T2 (mkF m 2 #[rv b900, iv 2, iv 9, iv 8] []) _ _ _
  refine ziloadN X2 hx hby d_prog_46_method_12_2 rfl (ziloadN X2 hx hby d_prog_46_method_12_3 rfl (zicmpNo X2 hx hby d_prog_46_method_12_4 (by decide) (zaloadN X2 hx hby d_prog_46_method_12_7 rfl rfl (ziloadN X2 hx hby d_prog_46_method_12_8 rfl (zbaload X2 hx hby d_prog_46_method_12_9 hZ e2 A_b900 (by decide) (v := (.int x8)) rfl (zbipush X2 hx hby d_prog_46_method_12_10 (z := (27 : Int32)) rfl (zicmpYes X2 hx hby d_prog_46_method_12_12 25 (feq k0).2 (by decide) (by decide) (ziloadN X2 hx hby d_prog_46_method_12_25 rfl ?_))))))))
  show zEnds p e below s T2 (mkF m 26 #[rv b900, iv 2, iv 9, iv 8] [(.int 8)]) _ _ _
  exact zretI X2 hx hby d_prog_46_method_12_26 hret hlk (by decide) (by decide) ⟨rfl, e2, rfl⟩
set_option maxRecDepth 65536 in
set_option maxHeartbeats 40000000 in
theorem c121_firstCharacter (l : Launch) {Z : State} {a0 : Array Value} (hw : ∀ d ∈ tables_1, d.before a0 Z = true) (ws : List Jvm.Cond) {w_arr0 : Addr} {cl_arr0 : Cell} {n0 : Nat} {h0 : Heap} (C : Ctx Z w_arr0 cl_arr0) (O0 : Old Z n0 h0) (Z0 : n0 ≤ h0.size) (b900 : Addr) (x2 : Int32) (x3 : Int32) (x4 : Int32) (x5 : Int32) (x6 : Int32) (x7 : Int32) (x8 : Int32) (x9 : Int32) (x10 : Int32) (x11 : Int32) (g_b900 : n0 ≤ b900) (A_b900 : zLst Z h0 b900 .byte [(.int x2), (.int x3), (.int 27), (.int x4), (.int x5), (.int 27), (.int x6), (.int x7), (.int x8), (.int x9), (.int x10), (.int x11), (.int 0), (.int 0), (.int 0), (.int 0), (.int 0), (.int 0), (.int 0), (.int 0)]) (k0 : ¬ (x8 = (27 : Int32))) : zCon l Z (⟨"com/example/kakehashi/kakehashi/message/Iso2022", "firstCharacter", "([BII)I"⟩ : MethodName) prog_46_method_12_code 4 (some .int) ws ({ frames := 0, cells := 0, slots := 0, locals := 0 } : Room) #[(.ref b900), (.int 2), (.int 10)] h0 (zSame (some (.int 8)) h0) := by
  obtain ⟨S_w_arr0, A_w_arr0, Al_w_arr0⟩ := C
  refine zenter (plainFor_of_name pn_0) (L0 := #[rv b900, iv 2, iv 10, .unset]) (fun m => by first | rfl | simp [entryFrame, mkF, argsToLocals, Value.category, maxLocals]) ?_
  intro p e s m below meth c T0 hx hZ hby hml hown0 hnm hret hlk X0 e0
  have hown : s.vm.findClass "com/example/kakehashi/kakehashi/message/Iso2022" = some m.cls := hown0
  have K0 := Keep.refl h0 []
  have N0 := Fr.nil n0
  show zEnds p e below s T0 (mkF m 0 #[rv b900, iv 2, iv 10, .unset] []) _ _ _
  refine ziloadN X0 hx hby d_prog_46_method_12_0 rfl (zistoreN X0 hx hby d_prog_46_method_12_1 (L' := #[rv b900, iv 2, iv 10, iv 2]) rfl (ziloadN X0 hx hby d_prog_46_method_12_2 rfl (ziloadN X0 hx hby d_prog_46_method_12_3 rfl (zicmpNo X0 hx hby d_prog_46_method_12_4 (by decide) (zaloadN X0 hx hby d_prog_46_method_12_7 rfl rfl (ziloadN X0 hx hby d_prog_46_method_12_8 rfl (zbaload X0 hx hby d_prog_46_method_12_9 hZ e0 A_b900 (by decide) (v := (.int 27)) rfl (zbipush X0 hx hby d_prog_46_method_12_10 (z := (27 : Int32)) rfl (zicmpNo X0 hx hby d_prog_46_method_12_12 (by decide) ?_)))))))))
  show zEnds p e below s T0 (mkF m 15 #[rv b900, iv 2, iv 10, iv 2] []) _ _ _
  refine ziloadN X0 hx hby d_prog_46_method_12_15 rfl (zgetstat X0 hx hby d_prog_46_method_12_16 hZ hown (host := "") (Or.inl (w10 hw)) Via.refl e0 (S_w_arr0.ext O0.2) fun T1 X1 e1 => (zalenC X1 hx hby d_prog_46_method_12_19 hZ e1 (A_w_arr0.ext O0.2) (3 : Int32) Al_w_arr0 (ziadd X1 hx hby d_prog_46_method_12_20 (5 : Int32) (by decide) (zistoreN X1 hx hby d_prog_46_method_12_21 (L' := #[rv b900, iv 2, iv 10, iv 5]) rfl (zgoto X1 hx hby d_prog_46_method_12_22 2 (by decide) (by decide) (ziloadN X1 hx hby d_prog_46_method_12_2 rfl (ziloadN X1 hx hby d_prog_46_method_12_3 rfl (zicmpNo X1 hx hby d_prog_46_method_12_4 (by decide) (zaloadN X1 hx hby d_prog_46_method_12_7 rfl rfl ?_)))))))))
  show zEnds p e below s T1 (mkF m 8 #[rv b900, iv 2, iv 10, iv 5] [(.ref b900)]) _ _ _
  refine ziloadN X1 hx hby d_prog_46_method_12_8 rfl (zbaload X1 hx hby d_prog_46_method_12_9 hZ e1 A_b900 (by decide) (v := (.int 27)) rfl (zbipush X1 hx hby d_prog_46_method_12_10 (z := (27 : Int32)) rfl (zicmpNo X1 hx hby d_prog_46_method_12_12 (by decide) (ziloadN X1 hx hby d_prog_46_method_12_15 rfl (zgetstat X1 hx hby d_prog_46_method_12_16 hZ hown (host := "") (Or.inl (w10 hw)) Via.refl e1 (S_w_arr0.ext O0.2) fun T2 X2 e2 => (zalenC X2 hx hby d_prog_46_method_12_19 hZ e2 (A_w_arr0.ext O0.2) (3 : Int32) Al_w_arr0 (ziadd X2 hx hby d_prog_46_method_12_20 (8 : Int32) (by decide) (zistoreN X2 hx hby d_prog_46_method_12_21 (L' := #[rv b900, iv 2, iv 10, iv 8]) rfl (zgoto X2 hx hby d_prog_46_method_12_22 2 (by decide) (by decide) ?_)))))))))
  show zEnds p e below s T2 (mkF m 2 #[rv b900, iv 2, iv 10, iv 8] []) _ _ _
  refine ziloadN X2 hx hby d_prog_46_method_12_2 rfl (ziloadN X2 hx hby d_prog_46_method_12_3 rfl (zicmpNo X2 hx hby d_prog_46_method_12_4 (by decide) (zaloadN X2 hx hby d_prog_46_method_12_7 rfl rfl (ziloadN X2 hx hby d_prog_46_method_12_8 rfl (zbaload X2 hx hby d_prog_46_method_12_9 hZ e2 A_b900 (by decide) (v := (.int x8)) rfl (zbipush X2 hx hby d_prog_46_method_12_10 (z := (27 : Int32)) rfl (zicmpYes X2 hx hby d_prog_46_method_12_12 25 (feq k0).2 (by decide) (by decide) (ziloadN X2 hx hby d_prog_46_method_12_25 rfl ?_))))))))
  show zEnds p e below s T2 (mkF m 26 #[rv b900, iv 2, iv 10, iv 8] [(.int 8)]) _ _ _
  exact zretI X2 hx hby d_prog_46_method_12_26 hret hlk (by decide) (by decide) ⟨rfl, e2, rfl⟩
set_option maxRecDepth 65536 in
set_option maxHeartbeats 40000000 in
theorem c123_esc (l : Launch) {Z : State} {a0 : Array Value} (hw : ∀ d ∈ tables_1, d.before a0 Z = true) (ws : List Jvm.Cond) {w_arr0 : Addr} {cl_arr0 : Cell} {n0 : Nat} {h0 : Heap} (C : Ctx Z w_arr0 cl_arr0) (O0 : Old Z n0 h0) (Z0 : n0 ≤ h0.size) (x2 : Int32) (b900 : Addr) (x3 : Int32) (x4 : Int32) (x5 : Int32) (x6 : Int32) (x7 : Int32) (x8 : Int32) (x9 : Int32) (x10 : Int32) (x11 : Int32) (x12 : Int32) (x13 : Int32) (x14 : Int32) (x15 : Int32) (x16 : Int32) (x17 : Int32) (x18 : Int32) (x19 : Int32) (x20 : Int32) (x21 : Int32) (x22 : Int32) (g_b900 : n0 ≤ b900) (A_b900 : zLst Z h0 b900 .byte [(.int x3), (.int x4), (.int x5), (.int x6), (.int x7), (.int x8), (.int x9), (.int x10), (.int x11), (.int x12), (.int x13), (.int x14), (.int x15), (.int x16), (.int x17), (.int x18), (.int x19), (.int x20), (.int x21), (.int x22)]) (k0 : ¬ (x11 = (27 : Int32))) : zCon l Z (⟨"com/example/kakehashi/kakehashi/message/Iso2022FirstCharacterPinLaw", "esc", "([BII)I"⟩ : MethodName) method_2_code 4 (some .int) ws ({ frames := 0, cells := 0, slots := 0, locals := 0 } : Room) #[(.ref b900), (.int 9), (.int x2)] h0 (fun v h L => v = some (.int 12) ∧ Fr n0 L ∧ Keep h0 h [b900] ∧ zLst Z h b900 .byte [(.int x3), (.int x4), (.int x5), (.int x6), (.int x7), (.int x8), (.int x9), (.int x10), (.int x11), (.int 27), (.int ((e1v x2).toInt8.toInt32)), (.int ((e2v x2).toInt8.toInt32)), (.int x15), (.int x16), (.int x17), (.int x18), (.int x19), (.int x20), (.int x21), (.int x22)]) := by
  obtain ⟨S_w_arr0, A_w_arr0, Al_w_arr0⟩ := C
  refine zenter (plainFor_of_name pn_1) (L0 := #[rv b900, iv 9, iv x2, .unset]) (fun m => by first | rfl | simp [entryFrame, mkF, argsToLocals, Value.category, maxLocals]) ?_
  intro p e s m below meth c T0 hx hZ hby hml hown0 hnm hret hlk X0 e0
  have hown : s.vm.findClass "com/example/kakehashi/kakehashi/message/Iso2022FirstCharacterPinLaw" = some m.cls := hown0
  have K0 := Keep.refl h0 [b900]
  have N0 := Fr.nil n0
  show zEnds p e below s T0 (mkF m 0 #[rv b900, iv 9, iv x2, .unset] []) _ _ _
  refine ziloadN X0 hx hby d_method_2_0 rfl (ziconst X0 hx hby d_method_2_1 (z := (3 : Int32)) rfl (zirem X0 hx hby d_method_2_2 (x2 % (3 : Int32)) (by decide) rfl (zistoreN X0 hx hby d_method_2_3 (L' := #[rv b900, iv 9, iv x2, iv (x2 % (3 : Int32))]) rfl (zaloadN X0 hx hby d_method_2_4 rfl rfl (ziloadN X0 hx hby d_method_2_5 rfl (zbipush X0 hx hby d_method_2_6 (z := (27 : Int32)) rfl (zbastore X0 hx hby d_method_2_8 hZ e0 A_b900 (by decide) (by show Int32.toNatClampNeg 9 < 20; decide) (27 : Int32) (by decide) fun T1 h1 X1 e1 W1 A1_b900 => ?_)))))))
  change zLst Z h1 b900 .byte [(.int x3), (.int x4), (.int x5), (.int x6), (.int x7), (.int x8), (.int x9), (.int x10), (.int x11), (.int 27), (.int x13), (.int x14), (.int x15), (.int x16), (.int x17), (.int x18), (.int x19), (.int x20), (.int x21), (.int x22)] at A1_b900
  have O1 := O0.wr W1 g_b900
  have K1 := Keep.wr K0 W1 (Or.inl (List.mem_of_getElem? (i := 0) rfl))
  have N1 := Fr.snoc X1 N0 g_b900
  refine zaloadN X1 hx hby d_method_2_9 rfl rfl (ziloadN X1 hx hby d_method_2_10 rfl (ziconst X1 hx hby d_method_2_11 (z := (1 : Int32)) rfl (ziadd X1 hx hby d_method_2_12 (10 : Int32) (by decide) (ziloadN X1 hx hby d_method_2_13 rfl ?_))))
  show zEnds p e below s T1 (mkF m 14 #[rv b900, iv 9, iv x2, iv (x2 % (3 : Int32))] [(.int (x2 % (3 : Int32))), (.int 10), (.ref b900)]) _ _ _
  refine zjoin (T' := T1) (F' := (mkF m 24 #[rv b900, iv 9, iv x2, iv (x2 % (3 : Int32))] [(.int (e1v x2)), (.int 10), (.ref b900)])) (fun K => ?_) ?_
  · show zEnds p e below s T1 (mkF m 14 #[rv b900, iv 9, iv x2, iv (x2 % (3 : Int32))] [(.int (x2 % (3 : Int32))), (.int 10), (.ref b900)]) _ _ _
    by_cases hc2 : (x2 % (3 : Int32)) = (0 : Int32)
    · refine zifNo X1 hx hby d_method_2_14 ((if0 _ _).trans (teq hc2).2) (zbipush X1 hx hby d_method_2_17 (z := (36 : Int32)) rfl (zgoto X1 hx hby d_method_2_19 24 (by decide) (by decide) ?_))
      show zEnds p e below s T1 (mkF m 24 #[rv b900, iv 9, iv x2, iv (x2 % (3 : Int32))] [(.int 36), (.int 10), (.ref b900)]) _ _ _
      rw [show (36 : Int32) = (e1v x2) from by simp +decide [e1v, k0, hc2]]; exact K
    · refine zifYes X1 hx hby d_method_2_14 22 ((if0 _ _).trans (feq hc2).2) (by decide) (by decide) (zbipush X1 hx hby d_method_2_22 (z := (40 : Int32)) rfl ?_)
      show zEnds p e below s T1 (mkF m 24 #[rv b900, iv 9, iv x2, iv (x2 % (3 : Int32))] [(.int 40), (.int 10), (.ref b900)]) _ _ _
      rw [show (40 : Int32) = (e1v x2) from by simp +decide [e1v, k0, hc2]]; exact K
  refine zi2b X1 hx hby d_method_2_24 ((e1v x2).toInt8.toInt32) rfl (zbastore X1 hx hby d_method_2_25 hZ e1 A1_b900 (by decide) (by show Int32.toNatClampNeg 10 < 20; decide) ((e1v x2).toInt8.toInt32) (own_nar8 _) fun T3 h3 X3 e3 W3 A3_b900 => ?_)
  change zLst Z h3 b900 .byte [(.int x3), (.int x4), (.int x5), (.int x6), (.int x7), (.int x8), (.int x9), (.int x10), (.int x11), (.int 27), (.int ((e1v x2).toInt8.toInt32)), (.int x14), (.int x15), (.int x16), (.int x17), (.int x18), (.int x19), (.int x20), (.int x21), (.int x22)] at A3_b900
  have O3 := O1.wr W3 g_b900
  have K3 := Keep.wr K1 W3 (Or.inl (List.mem_of_getElem? (i := 0) rfl))
  have N3 := Fr.snoc X3 N1 g_b900
  refine zaloadN X3 hx hby d_method_2_26 rfl rfl (ziloadN X3 hx hby d_method_2_27 rfl (ziconst X3 hx hby d_method_2_28 (z := (2 : Int32)) rfl (ziadd X3 hx hby d_method_2_29 (11 : Int32) (by decide) (ziloadN X3 hx hby d_method_2_30 rfl (ziconst X3 hx hby d_method_2_31 (z := (2 : Int32)) rfl ?_)))))
  show zEnds p e below s T3 (mkF m 32 #[rv b900, iv 9, iv x2, iv (x2 % (3 : Int32))] [(.int 2), (.int (x2 % (3 : Int32))), (.int 11), (.ref b900)]) _ _ _
  refine zjoin (T' := T3) (F' := (mkF m 42 #[rv b900, iv 9, iv x2, iv (x2 % (3 : Int32))] [(.int (e2v x2)), (.int 11), (.ref b900)])) (fun K => ?_) ?_
  · show zEnds p e below s T3 (mkF m 32 #[rv b900, iv 9, iv x2, iv (x2 % (3 : Int32))] [(.int 2), (.int (x2 % (3 : Int32))), (.int 11), (.ref b900)]) _ _ _
    by_cases hc4 : (x2 % (3 : Int32)) = (2 : Int32)
    · refine zicmpNo X3 hx hby d_method_2_32 (teq hc4).2 (zbipush X3 hx hby d_method_2_35 (z := (74 : Int32)) rfl (zgoto X3 hx hby d_method_2_37 42 (by decide) (by decide) ?_))
      show zEnds p e below s T3 (mkF m 42 #[rv b900, iv 9, iv x2, iv (x2 % (3 : Int32))] [(.int 74), (.int 11), (.ref b900)]) _ _ _
      rw [show (74 : Int32) = (e2v x2) from by simp +decide [e2v, k0, hc4]]; exact K
    · refine zicmpYes X3 hx hby d_method_2_32 40 (feq hc4).2 (by decide) (by decide) (zbipush X3 hx hby d_method_2_40 (z := (66 : Int32)) rfl ?_)
      show zEnds p e below s T3 (mkF m 42 #[rv b900, iv 9, iv x2, iv (x2 % (3 : Int32))] [(.int 66), (.int 11), (.ref b900)]) _ _ _
      rw [show (66 : Int32) = (e2v x2) from by simp +decide [e2v, k0, hc4]]; exact K
  refine zi2b X3 hx hby d_method_2_42 ((e2v x2).toInt8.toInt32) rfl (zbastore X3 hx hby d_method_2_43 hZ e3 A3_b900 (by decide) (by show Int32.toNatClampNeg 11 < 20; decide) ((e2v x2).toInt8.toInt32) (own_nar8 _) fun T5 h5 X5 e5 W5 A5_b900 => ?_)
  change zLst Z h5 b900 .byte [(.int x3), (.int x4), (.int x5), (.int x6), (.int x7), (.int x8), (.int x9), (.int x10), (.int x11), (.int 27), (.int ((e1v x2).toInt8.toInt32)), (.int ((e2v x2).toInt8.toInt32)), (.int x15), (.int x16), (.int x17), (.int x18), (.int x19), (.int x20), (.int x21), (.int x22)] at A5_b900
  have O5 := O3.wr W5 g_b900
  have K5 := Keep.wr K3 W5 (Or.inl (List.mem_of_getElem? (i := 0) rfl))
  have N5 := Fr.snoc X5 N3 g_b900
  refine ziloadN X5 hx hby d_method_2_44 rfl (ziconst X5 hx hby d_method_2_45 (z := (3 : Int32)) rfl (ziadd X5 hx hby d_method_2_46 (12 : Int32) (by decide) ?_))
  show zEnds p e below s T5 (mkF m 47 #[rv b900, iv 9, iv x2, iv (x2 % (3 : Int32))] [(.int 12)]) _ _ _
  exact zretI X5 hx hby d_method_2_47 hret hlk (by decide) (by decide) (by rw [e5]; exact ⟨rfl, N5, K5, A5_b900⟩)
set_option maxRecDepth 65536 in
set_option maxHeartbeats 40000000 in
theorem c125_firstCharacter (l : Launch) {Z : State} {a0 : Array Value} (hw : ∀ d ∈ tables_1, d.before a0 Z = true) (ws : List Jvm.Cond) {w_arr0 : Addr} {cl_arr0 : Cell} {n0 : Nat} {h0 : Heap} (C : Ctx Z w_arr0 cl_arr0) (O0 : Old Z n0 h0) (Z0 : n0 ≤ h0.size) (b900 : Addr) (x2 : Int32) (x3 : Int32) (x4 : Int32) (x5 : Int32) (x6 : Int32) (x7 : Int32) (x8 : Int32) (x9 : Int32) (x10 : Int32) (x11 : Int32) (x12 : Int32) (g_b900 : n0 ≤ b900) (A_b900 : zLst Z h0 b900 .byte [(.int x2), (.int x3), (.int 27), (.int x4), (.int x5), (.int 27), (.int x6), (.int x7), (.int x8), (.int 27), (.int x9), (.int x10), (.int x11), (.int x12), (.int 0), (.int 0), (.int 0), (.int 0), (.int 0), (.int 0)]) (k0 : ¬ (x8 = (27 : Int32))) : zCon l Z (⟨"com/example/kakehashi/kakehashi/message/Iso2022", "firstCharacter", "([BII)I"⟩ : MethodName) prog_46_method_12_code 4 (some .int) ws ({ frames := 0, cells := 0, slots := 0, locals := 0 } : Room) #[(.ref b900), (.int 2), (.int 12)] h0 (zSame (some (.int 8)) h0) := by
  obtain ⟨S_w_arr0, A_w_arr0, Al_w_arr0⟩ := C
  refine zenter (plainFor_of_name pn_0) (L0 := #[rv b900, iv 2, iv 12, .unset]) (fun m => by first | rfl | simp [entryFrame, mkF, argsToLocals, Value.category, maxLocals]) ?_
  intro p e s m below meth c T0 hx hZ hby hml hown0 hnm hret hlk X0 e0
  have hown : s.vm.findClass "com/example/kakehashi/kakehashi/message/Iso2022" = some m.cls := hown0
  have K0 := Keep.refl h0 []
  have N0 := Fr.nil n0
  show zEnds p e below s T0 (mkF m 0 #[rv b900, iv 2, iv 12, .unset] []) _ _ _
  refine ziloadN X0 hx hby d_prog_46_method_12_0 rfl (zistoreN X0 hx hby d_prog_46_method_12_1 (L' := #[rv b900, iv 2, iv 12, iv 2]) rfl (ziloadN X0 hx hby d_prog_46_method_12_2 rfl (ziloadN X0 hx hby d_prog_46_method_12_3 rfl (zicmpNo X0 hx hby d_prog_46_method_12_4 (by decide) (zaloadN X0 hx hby d_prog_46_method_12_7 rfl rfl (ziloadN X0 hx hby d_prog_46_method_12_8 rfl (zbaload X0 hx hby d_prog_46_method_12_9 hZ e0 A_b900 (by decide) (v := (.int 27)) rfl (zbipush X0 hx hby d_prog_46_method_12_10 (z := (27 : Int32)) rfl (zicmpNo X0 hx hby d_prog_46_method_12_12 (by decide) ?_)))))))))
  show zEnds p e below s T0 (mkF m 15 #[rv b900, iv 2, iv 12, iv 2] []) _ _ _
  refine ziloadN X0 hx hby d_prog_46_method_12_15 rfl (zgetstat X0 hx hby d_prog_46_method_12_16 hZ hown (host := "") (Or.inl (w10 hw)) Via.refl e0 (S_w_arr0.ext O0.2) fun T1 X1 e1 => (zalenC X1 hx hby d_prog_46_method_12_19 hZ e1 (A_w_arr0.ext O0.2) (3 : Int32) Al_w_arr0 (ziadd X1 hx hby d_prog_46_method_12_20 (5 : Int32) (by decide) (zistoreN X1 hx hby d_prog_46_method_12_21 (L' := #[rv b900, iv 2, iv 12, iv 5]) rfl (zgoto X1 hx hby d_prog_46_method_12_22 2 (by decide) (by decide) (ziloadN X1 hx hby d_prog_46_method_12_2 rfl (ziloadN X1 hx hby d_prog_46_method_12_3 rfl (zicmpNo X1 hx hby d_prog_46_method_12_4 (by decide) (zaloadN X1 hx hby d_prog_46_method_12_7 rfl rfl ?_)))))))))
  show zEnds p e below s T1 (mkF m 8 #[rv b900, iv 2, iv 12, iv 5] [(.ref b900)]) _ _ _
  refine ziloadN X1 hx hby d_prog_46_method_12_8 rfl (zbaload X1 hx hby d_prog_46_method_12_9 hZ e1 A_b900 (by decide) (v := (.int 27)) rfl (zbipush X1 hx hby d_prog_46_method_12_10 (z := (27 : Int32)) rfl (zicmpNo X1 hx hby d_prog_46_method_12_12 (by decide) (ziloadN X1 hx hby d_prog_46_method_12_15 rfl (zgetstat X1 hx hby d_prog_46_method_12_16 hZ hown (host := "") (Or.inl (w10 hw)) Via.refl e1 (S_w_arr0.ext O0.2) fun T2 X2 e2 => (zalenC X2 hx hby d_prog_46_method_12_19 hZ e2 (A_w_arr0.ext O0.2) (3 : Int32) Al_w_arr0 (ziadd X2 hx hby d_prog_46_method_12_20 (8 : Int32) (by decide) (zistoreN X2 hx hby d_prog_46_method_12_21 (L' := #[rv b900, iv 2, iv 12, iv 8]) rfl (zgoto X2 hx hby d_prog_46_method_12_22 2 (by decide) (by decide) ?_)))))))))
  show zEnds p e below s T2 (mkF m 2 #[rv b900, iv 2, iv 12, iv 8] []) _ _ _
  refine ziloadN X2 hx hby d_prog_46_method_12_2 rfl (ziloadN X2 hx hby d_prog_46_method_12_3 rfl (zicmpNo X2 hx hby d_prog_46_method_12_4 (by decide) (zaloadN X2 hx hby d_prog_46_method_12_7 rfl rfl (ziloadN X2 hx hby d_prog_46_method_12_8 rfl (zbaload X2 hx hby d_prog_46_method_12_9 hZ e2 A_b900 (by decide) (v := (.int x8)) rfl (zbipush X2 hx hby d_prog_46_method_12_10 (z := (27 : Int32)) rfl (zicmpYes X2 hx hby d_prog_46_method_12_12 25 (feq k0).2 (by decide) (by decide) (ziloadN X2 hx hby d_prog_46_method_12_25 rfl ?_))))))))
  show zEnds p e below s T2 (mkF m 26 #[rv b900, iv 2, iv 12, iv 8] [(.int 8)]) _ _ _
  exact zretI X2 hx hby d_prog_46_method_12_26 hret hlk (by decide) (by decide) ⟨rfl, e2, rfl⟩
set_option maxRecDepth 65536 in
set_option maxHeartbeats 40000000 in
theorem c127_esc (l : Launch) {Z : State} {a0 : Array Value} (hw : ∀ d ∈ tables_1, d.before a0 Z = true) (ws : List Jvm.Cond) {w_arr0 : Addr} {cl_arr0 : Cell} {n0 : Nat} {h0 : Heap} (C : Ctx Z w_arr0 cl_arr0) (O0 : Old Z n0 h0) (Z0 : n0 ≤ h0.size) (x2 : Int32) (b900 : Addr) (x3 : Int32) (x4 : Int32) (x5 : Int32) (x6 : Int32) (x7 : Int32) (x8 : Int32) (x9 : Int32) (x10 : Int32) (x11 : Int32) (x12 : Int32) (x13 : Int32) (x14 : Int32) (x15 : Int32) (x16 : Int32) (x17 : Int32) (x18 : Int32) (x19 : Int32) (x20 : Int32) (x21 : Int32) (x22 : Int32) (g_b900 : n0 ≤ b900) (A_b900 : zLst Z h0 b900 .byte [(.int x3), (.int x4), (.int x5), (.int x6), (.int x7), (.int x8), (.int x9), (.int x10), (.int x11), (.int x12), (.int x13), (.int x14), (.int x15), (.int x16), (.int x17), (.int x18), (.int x19), (.int x20), (.int x21), (.int x22)]) : zCon l Z (⟨"com/example/kakehashi/kakehashi/message/Iso2022FirstCharacterPinLaw", "esc", "([BII)I"⟩ : MethodName) method_2_code 4 (some .int) ws ({ frames := 0, cells := 0, slots := 0, locals := 0 } : Room) #[(.ref b900), (.int 8), (.int x2)] h0 (fun v h L => v = some (.int 11) ∧ Fr n0 L ∧ Keep h0 h [b900] ∧ zLst Z h b900 .byte [(.int x3), (.int x4), (.int x5), (.int x6), (.int x7), (.int x8), (.int x9), (.int x10), (.int 27), (.int ((e1v x2).toInt8.toInt32)), (.int ((e2v x2).toInt8.toInt32)), (.int x14), (.int x15), (.int x16), (.int x17), (.int x18), (.int x19), (.int x20), (.int x21), (.int x22)]) := by
  obtain ⟨S_w_arr0, A_w_arr0, Al_w_arr0⟩ := C
  refine zenter (plainFor_of_name pn_1) (L0 := #[rv b900, iv 8, iv x2, .unset]) (fun m => by first | rfl | simp [entryFrame, mkF, argsToLocals, Value.category, maxLocals]) ?_
  intro p e s m below meth c T0 hx hZ hby hml hown0 hnm hret hlk X0 e0
  have hown : s.vm.findClass "com/example/kakehashi/kakehashi/message/Iso2022FirstCharacterPinLaw" = some m.cls := hown0
  have K0 := Keep.refl h0 [b900]
  have N0 := Fr.nil n0
  show zEnds p e below s T0 (mkF m 0 #[rv b900, iv 8, iv x2, .unset] []) _ _ _
  refine ziloadN X0 hx hby d_method_2_0 rfl (ziconst X0 hx hby d_method_2_1 (z := (3 : Int32)) rfl (zirem X0 hx hby d_method_2_2 (x2 % (3 : Int32)) (by decide) rfl (zistoreN X0 hx hby d_method_2_3 (L' := #[rv b900, iv 8, iv x2, iv (x2 % (3 : Int32))]) rfl (zaloadN X0 hx hby d_method_2_4 rfl rfl (ziloadN X0 hx hby d_method_2_5 rfl (zbipush X0 hx hby d_method_2_6 (z := (27 : Int32)) rfl (zbastore X0 hx hby d_method_2_8 hZ e0 A_b900 (by decide) (by show Int32.toNatClampNeg 8 < 20; decide) (27 : Int32) (by decide) fun T1 h1 X1 e1 W1 A1_b900 => ?_)))))))
  change zLst Z h1 b900 .byte [(.int x3), (.int x4), (.int x5), (.int x6), (.int x7), (.int x8), (.int x9), (.int x10), (.int 27), (.int x12), (.int x13), (.int x14), (.int x15), (.int x16), (.int x17), (.int x18), (.int x19), (.int x20), (.int x21), (.int x22)] at A1_b900
  have O1 := O0.wr W1 g_b900
  have K1 := Keep.wr K0 W1 (Or.inl (List.mem_of_getElem? (i := 0) rfl))
  have N1 := Fr.snoc X1 N0 g_b900
  refine zaloadN X1 hx hby d_method_2_9 rfl rfl (ziloadN X1 hx hby d_method_2_10 rfl (ziconst X1 hx hby d_method_2_11 (z := (1 : Int32)) rfl (ziadd X1 hx hby d_method_2_12 (9 : Int32) (by decide) (ziloadN X1 hx hby d_method_2_13 rfl ?_))))
  show zEnds p e below s T1 (mkF m 14 #[rv b900, iv 8, iv x2, iv (x2 % (3 : Int32))] [(.int (x2 % (3 : Int32))), (.int 9), (.ref b900)]) _ _ _
  refine zjoin (T' := T1) (F' := (mkF m 24 #[rv b900, iv 8, iv x2, iv (x2 % (3 : Int32))] [(.int (e1v x2)), (.int 9), (.ref b900)])) (fun K => ?_) ?_
  · show zEnds p e below s T1 (mkF m 14 #[rv b900, iv 8, iv x2, iv (x2 % (3 : Int32))] [(.int (x2 % (3 : Int32))), (.int 9), (.ref b900)]) _ _ _
    by_cases hc2 : (x2 % (3 : Int32)) = (0 : Int32)
    · refine zifNo X1 hx hby d_method_2_14 ((if0 _ _).trans (teq hc2).2) (zbipush X1 hx hby d_method_2_17 (z := (36 : Int32)) rfl (zgoto X1 hx hby d_method_2_19 24 (by decide) (by decide) ?_))
      show zEnds p e below s T1 (mkF m 24 #[rv b900, iv 8, iv x2, iv (x2 % (3 : Int32))] [(.int 36), (.int 9), (.ref b900)]) _ _ _
      rw [show (36 : Int32) = (e1v x2) from by simp +decide [e1v, hc2]]; exact K
    · refine zifYes X1 hx hby d_method_2_14 22 ((if0 _ _).trans (feq hc2).2) (by decide) (by decide) (zbipush X1 hx hby d_method_2_22 (z := (40 : Int32)) rfl ?_)
      show zEnds p e below s T1 (mkF m 24 #[rv b900, iv 8, iv x2, iv (x2 % (3 : Int32))] [(.int 40), (.int 9), (.ref b900)]) _ _ _
      rw [show (40 : Int32) = (e1v x2) from by simp +decide [e1v, hc2]]; exact K
  refine zi2b X1 hx hby d_method_2_24 ((e1v x2).toInt8.toInt32) rfl (zbastore X1 hx hby d_method_2_25 hZ e1 A1_b900 (by decide) (by show Int32.toNatClampNeg 9 < 20; decide) ((e1v x2).toInt8.toInt32) (own_nar8 _) fun T3 h3 X3 e3 W3 A3_b900 => ?_)
  change zLst Z h3 b900 .byte [(.int x3), (.int x4), (.int x5), (.int x6), (.int x7), (.int x8), (.int x9), (.int x10), (.int 27), (.int ((e1v x2).toInt8.toInt32)), (.int x13), (.int x14), (.int x15), (.int x16), (.int x17), (.int x18), (.int x19), (.int x20), (.int x21), (.int x22)] at A3_b900
  have O3 := O1.wr W3 g_b900
  have K3 := Keep.wr K1 W3 (Or.inl (List.mem_of_getElem? (i := 0) rfl))
  have N3 := Fr.snoc X3 N1 g_b900
  refine zaloadN X3 hx hby d_method_2_26 rfl rfl (ziloadN X3 hx hby d_method_2_27 rfl (ziconst X3 hx hby d_method_2_28 (z := (2 : Int32)) rfl (ziadd X3 hx hby d_method_2_29 (10 : Int32) (by decide) (ziloadN X3 hx hby d_method_2_30 rfl (ziconst X3 hx hby d_method_2_31 (z := (2 : Int32)) rfl ?_)))))
  show zEnds p e below s T3 (mkF m 32 #[rv b900, iv 8, iv x2, iv (x2 % (3 : Int32))] [(.int 2), (.int (x2 % (3 : Int32))), (.int 10), (.ref b900)]) _ _ _
  refine zjoin (T' := T3) (F' := (mkF m 42 #[rv b900, iv 8, iv x2, iv (x2 % (3 : Int32))] [(.int (e2v x2)), (.int 10), (.ref b900)])) (fun K => ?_) ?_
  · show zEnds p e below s T3 (mkF m 32 #[rv b900, iv 8, iv x2, iv (x2 % (3 : Int32))] [(.int 2), (.int (x2 % (3 : Int32))), (.int 10), (.ref b900)]) _ _ _
    by_cases hc4 : (x2 % (3 : Int32)) = (2 : Int32)
    · refine zicmpNo X3 hx hby d_method_2_32 (teq hc4).2 (zbipush X3 hx hby d_method_2_35 (z := (74 : Int32)) rfl (zgoto X3 hx hby d_method_2_37 42 (by decide) (by decide) ?_))
      show zEnds p e below s T3 (mkF m 42 #[rv b900, iv 8, iv x2, iv (x2 % (3 : Int32))] [(.int 74), (.int 10), (.ref b900)]) _ _ _
      rw [show (74 : Int32) = (e2v x2) from by simp +decide [e2v, hc4]]; exact K
    · refine zicmpYes X3 hx hby d_method_2_32 40 (feq hc4).2 (by decide) (by decide) (zbipush X3 hx hby d_method_2_40 (z := (66 : Int32)) rfl ?_)
      show zEnds p e below s T3 (mkF m 42 #[rv b900, iv 8, iv x2, iv (x2 % (3 : Int32))] [(.int 66), (.int 10), (.ref b900)]) _ _ _
      rw [show (66 : Int32) = (e2v x2) from by simp +decide [e2v, hc4]]; exact K
  refine zi2b X3 hx hby d_method_2_42 ((e2v x2).toInt8.toInt32) rfl (zbastore X3 hx hby d_method_2_43 hZ e3 A3_b900 (by decide) (by show Int32.toNatClampNeg 10 < 20; decide) ((e2v x2).toInt8.toInt32) (own_nar8 _) fun T5 h5 X5 e5 W5 A5_b900 => ?_)
  change zLst Z h5 b900 .byte [(.int x3), (.int x4), (.int x5), (.int x6), (.int x7), (.int x8), (.int x9), (.int x10), (.int 27), (.int ((e1v x2).toInt8.toInt32)), (.int ((e2v x2).toInt8.toInt32)), (.int x14), (.int x15), (.int x16), (.int x17), (.int x18), (.int x19), (.int x20), (.int x21), (.int x22)] at A5_b900
  have O5 := O3.wr W5 g_b900
  have K5 := Keep.wr K3 W5 (Or.inl (List.mem_of_getElem? (i := 0) rfl))
  have N5 := Fr.snoc X5 N3 g_b900
  refine ziloadN X5 hx hby d_method_2_44 rfl (ziconst X5 hx hby d_method_2_45 (z := (3 : Int32)) rfl (ziadd X5 hx hby d_method_2_46 (11 : Int32) (by decide) ?_))
  show zEnds p e below s T5 (mkF m 47 #[rv b900, iv 8, iv x2, iv (x2 % (3 : Int32))] [(.int 11)]) _ _ _
  exact zretI X5 hx hby d_method_2_47 hret hlk (by decide) (by decide) (by rw [e5]; exact ⟨rfl, N5, K5, A5_b900⟩)
set_option maxRecDepth 65536 in
set_option maxHeartbeats 40000000 in
theorem c129_firstCharacter (l : Launch) {Z : State} {a0 : Array Value} (hw : ∀ d ∈ tables_1, d.before a0 Z = true) (ws : List Jvm.Cond) {w_arr0 : Addr} {cl_arr0 : Cell} {n0 : Nat} {h0 : Heap} (C : Ctx Z w_arr0 cl_arr0) (O0 : Old Z n0 h0) (Z0 : n0 ≤ h0.size) (b900 : Addr) (x2 : Int32) (x3 : Int32) (x4 : Int32) (x5 : Int32) (x6 : Int32) (x7 : Int32) (x8 : Int32) (x9 : Int32) (x10 : Int32) (x11 : Int32) (g_b900 : n0 ≤ b900) (A_b900 : zLst Z h0 b900 .byte [(.int x2), (.int x3), (.int 27), (.int x4), (.int x5), (.int 27), (.int x6), (.int x7), (.int 27), (.int x8), (.int x9), (.int x10), (.int x11), (.int 0), (.int 0), (.int 0), (.int 0), (.int 0), (.int 0), (.int 0)]) : zCon l Z (⟨"com/example/kakehashi/kakehashi/message/Iso2022", "firstCharacter", "([BII)I"⟩ : MethodName) prog_46_method_12_code 4 (some .int) ws ({ frames := 0, cells := 0, slots := 0, locals := 0 } : Room) #[(.ref b900), (.int 2), (.int 11)] h0 (zSame (some (.int 11)) h0) := by
  obtain ⟨S_w_arr0, A_w_arr0, Al_w_arr0⟩ := C
  refine zenter (plainFor_of_name pn_0) (L0 := #[rv b900, iv 2, iv 11, .unset]) (fun m => by first | rfl | simp [entryFrame, mkF, argsToLocals, Value.category, maxLocals]) ?_
  intro p e s m below meth c T0 hx hZ hby hml hown0 hnm hret hlk X0 e0
  have hown : s.vm.findClass "com/example/kakehashi/kakehashi/message/Iso2022" = some m.cls := hown0
  have K0 := Keep.refl h0 []
  have N0 := Fr.nil n0
  show zEnds p e below s T0 (mkF m 0 #[rv b900, iv 2, iv 11, .unset] []) _ _ _
  refine ziloadN X0 hx hby d_prog_46_method_12_0 rfl (zistoreN X0 hx hby d_prog_46_method_12_1 (L' := #[rv b900, iv 2, iv 11, iv 2]) rfl (ziloadN X0 hx hby d_prog_46_method_12_2 rfl (ziloadN X0 hx hby d_prog_46_method_12_3 rfl (zicmpNo X0 hx hby d_prog_46_method_12_4 (by decide) (zaloadN X0 hx hby d_prog_46_method_12_7 rfl rfl (ziloadN X0 hx hby d_prog_46_method_12_8 rfl (zbaload X0 hx hby d_prog_46_method_12_9 hZ e0 A_b900 (by decide) (v := (.int 27)) rfl (zbipush X0 hx hby d_prog_46_method_12_10 (z := (27 : Int32)) rfl (zicmpNo X0 hx hby d_prog_46_method_12_12 (by decide) ?_)))))))))
  show zEnds p e below s T0 (mkF m 15 #[rv b900, iv 2, iv 11, iv 2] []) _ _ _
  refine ziloadN X0 hx hby d_prog_46_method_12_15 rfl (zgetstat X0 hx hby d_prog_46_method_12_16 hZ hown (host := "") (Or.inl (w10 hw)) Via.refl e0 (S_w_arr0.ext O0.2) fun T1 X1 e1 => (zalenC X1 hx hby d_prog_46_method_12_19 hZ e1 (A_w_arr0.ext O0.2) (3 : Int32) Al_w_arr0 (ziadd X1 hx hby d_prog_46_method_12_20 (5 : Int32) (by decide) (zistoreN X1 hx hby d_prog_46_method_12_21 (L' := #[rv b900, iv 2, iv 11, iv 5]) rfl (zgoto X1 hx hby d_prog_46_method_12_22 2 (by decide) (by decide) (ziloadN X1 hx hby d_prog_46_method_12_2 rfl (ziloadN X1 hx hby d_prog_46_method_12_3 rfl (zicmpNo X1 hx hby d_prog_46_method_12_4 (by decide) (zaloadN X1 hx hby d_prog_46_method_12_7 rfl rfl ?_)))))))))
  show zEnds p e below s T1 (mkF m 8 #[rv b900, iv 2, iv 11, iv 5] [(.ref b900)]) _ _ _
  refine ziloadN X1 hx hby d_prog_46_method_12_8 rfl (zbaload X1 hx hby d_prog_46_method_12_9 hZ e1 A_b900 (by decide) (v := (.int 27)) rfl (zbipush X1 hx hby d_prog_46_method_12_10 (z := (27 : Int32)) rfl (zicmpNo X1 hx hby d_prog_46_method_12_12 (by decide) (ziloadN X1 hx hby d_prog_46_method_12_15 rfl (zgetstat X1 hx hby d_prog_46_method_12_16 hZ hown (host := "") (Or.inl (w10 hw)) Via.refl e1 (S_w_arr0.ext O0.2) fun T2 X2 e2 => (zalenC X2 hx hby d_prog_46_method_12_19 hZ e2 (A_w_arr0.ext O0.2) (3 : Int32) Al_w_arr0 (ziadd X2 hx hby d_prog_46_method_12_20 (8 : Int32) (by decide) (zistoreN X2 hx hby d_prog_46_method_12_21 (L' := #[rv b900, iv 2, iv 11, iv 8]) rfl (zgoto X2 hx hby d_prog_46_method_12_22 2 (by decide) (by decide) ?_)))))))))
  show zEnds p e below s T2 (mkF m 2 #[rv b900, iv 2, iv 11, iv 8] []) _ _ _
  refine ziloadN X2 hx hby d_prog_46_method_12_2 rfl (ziloadN X2 hx hby d_prog_46_method_12_3 rfl (zicmpNo X2 hx hby d_prog_46_method_12_4 (by decide) (zaloadN X2 hx hby d_prog_46_method_12_7 rfl rfl (ziloadN X2 hx hby d_prog_46_method_12_8 rfl (zbaload X2 hx hby d_prog_46_method_12_9 hZ e2 A_b900 (by decide) (v := (.int 27)) rfl (zbipush X2 hx hby d_prog_46_method_12_10 (z := (27 : Int32)) rfl (zicmpNo X2 hx hby d_prog_46_method_12_12 (by decide) (ziloadN X2 hx hby d_prog_46_method_12_15 rfl (zgetstat X2 hx hby d_prog_46_method_12_16 hZ hown (host := "") (Or.inl (w10 hw)) Via.refl e2 (S_w_arr0.ext O0.2) fun T3 X3 e3 => ?_)))))))))
  show zEnds p e below s T3 (mkF m 19 #[rv b900, iv 2, iv 11, iv 8] [(.ref w_arr0), (.int 8)]) _ _ _
  refine zalenC X3 hx hby d_prog_46_method_12_19 hZ e3 (A_w_arr0.ext O0.2) (3 : Int32) Al_w_arr0 (ziadd X3 hx hby d_prog_46_method_12_20 (11 : Int32) (by decide) (zistoreN X3 hx hby d_prog_46_method_12_21 (L' := #[rv b900, iv 2, iv 11, iv 11]) rfl (zgoto X3 hx hby d_prog_46_method_12_22 2 (by decide) (by decide) (ziloadN X3 hx hby d_prog_46_method_12_2 rfl (ziloadN X3 hx hby d_prog_46_method_12_3 rfl (zicmpYes X3 hx hby d_prog_46_method_12_4 25 (by decide) (by decide) (by decide) (ziloadN X3 hx hby d_prog_46_method_12_25 rfl ?_)))))))
  show zEnds p e below s T3 (mkF m 26 #[rv b900, iv 2, iv 11, iv 11] [(.int 11)]) _ _ _
  exact zretI X3 hx hby d_prog_46_method_12_26 hret hlk (by decide) (by decide) ⟨rfl, e3, rfl⟩
set_option maxRecDepth 65536 in
set_option maxHeartbeats 40000000 in
theorem c131_firstCharacter (l : Launch) {Z : State} {a0 : Array Value} (hw : ∀ d ∈ tables_1, d.before a0 Z = true) (ws : List Jvm.Cond) {w_arr0 : Addr} {cl_arr0 : Cell} {n0 : Nat} {h0 : Heap} (C : Ctx Z w_arr0 cl_arr0) (O0 : Old Z n0 h0) (Z0 : n0 ≤ h0.size) (b900 : Addr) (x2 : Int32) (x3 : Int32) (x4 : Int32) (x5 : Int32) (x6 : Int32) (x7 : Int32) (x8 : Int32) (x9 : Int32) (x10 : Int32) (x11 : Int32) (x12 : Int32) (g_b900 : n0 ≤ b900) (A_b900 : zLst Z h0 b900 .byte [(.int x2), (.int x3), (.int 27), (.int x4), (.int x5), (.int 27), (.int x6), (.int x7), (.int 27), (.int x8), (.int x9), (.int x10), (.int x11), (.int x12), (.int 0), (.int 0), (.int 0), (.int 0), (.int 0), (.int 0)]) (k0 : ¬ (x10 = (27 : Int32))) : zCon l Z (⟨"com/example/kakehashi/kakehashi/message/Iso2022", "firstCharacter", "([BII)I"⟩ : MethodName) prog_46_method_12_code 4 (some .int) ws ({ frames := 0, cells := 0, slots := 0, locals := 0 } : Room) #[(.ref b900), (.int 2), (.int 12)] h0 (zSame (some (.int 11)) h0) := by
  obtain ⟨S_w_arr0, A_w_arr0, Al_w_arr0⟩ := C
  refine zenter (plainFor_of_name pn_0) (L0 := #[rv b900, iv 2, iv 12, .unset]) (fun m => by first | rfl | simp [entryFrame, mkF, argsToLocals, Value.category, maxLocals]) ?_
  intro p e s m below meth c T0 hx hZ hby hml hown0 hnm hret hlk X0 e0
  have hown : s.vm.findClass "com/example/kakehashi/kakehashi/message/Iso2022" = some m.cls := hown0
  have K0 := Keep.refl h0 []
  have N0 := Fr.nil n0
  show zEnds p e below s T0 (mkF m 0 #[rv b900, iv 2, iv 12, .unset] []) _ _ _
  refine ziloadN X0 hx hby d_prog_46_method_12_0 rfl (zistoreN X0 hx hby d_prog_46_method_12_1 (L' := #[rv b900, iv 2, iv 12, iv 2]) rfl (ziloadN X0 hx hby d_prog_46_method_12_2 rfl (ziloadN X0 hx hby d_prog_46_method_12_3 rfl (zicmpNo X0 hx hby d_prog_46_method_12_4 (by decide) (zaloadN X0 hx hby d_prog_46_method_12_7 rfl rfl (ziloadN X0 hx hby d_prog_46_method_12_8 rfl (zbaload X0 hx hby d_prog_46_method_12_9 hZ e0 A_b900 (by decide) (v := (.int 27)) rfl (zbipush X0 hx hby d_prog_46_method_12_10 (z := (27 : Int32)) rfl (zicmpNo X0 hx hby d_prog_46_method_12_12 (by decide) ?_)))))))))
  show zEnds p e below s T0 (mkF m 15 #[rv b900, iv 2, iv 12, iv 2] []) _ _ _
  refine ziloadN X0 hx hby d_prog_46_method_12_15 rfl (zgetstat X0 hx hby d_prog_46_method_12_16 hZ hown (host := "") (Or.inl (w10 hw)) Via.refl e0 (S_w_arr0.ext O0.2) fun T1 X1 e1 => (zalenC X1 hx hby d_prog_46_method_12_19 hZ e1 (A_w_arr0.ext O0.2) (3 : Int32) Al_w_arr0 (ziadd X1 hx hby d_prog_46_method_12_20 (5 : Int32) (by decide) (zistoreN X1 hx hby d_prog_46_method_12_21 (L' := #[rv b900, iv 2, iv 12, iv 5]) rfl (zgoto X1 hx hby d_prog_46_method_12_22 2 (by decide) (by decide) (ziloadN X1 hx hby d_prog_46_method_12_2 rfl (ziloadN X1 hx hby d_prog_46_method_12_3 rfl (zicmpNo X1 hx hby d_prog_46_method_12_4 (by decide) (zaloadN X1 hx hby d_prog_46_method_12_7 rfl rfl ?_)))))))))
  show zEnds p e below s T1 (mkF m 8 #[rv b900, iv 2, iv 12, iv 5] [(.ref b900)]) _ _ _
  refine ziloadN X1 hx hby d_prog_46_method_12_8 rfl (zbaload X1 hx hby d_prog_46_method_12_9 hZ e1 A_b900 (by decide) (v := (.int 27)) rfl (zbipush X1 hx hby d_prog_46_method_12_10 (z := (27 : Int32)) rfl (zicmpNo X1 hx hby d_prog_46_method_12_12 (by decide) (ziloadN X1 hx hby d_prog_46_method_12_15 rfl (zgetstat X1 hx hby d_prog_46_method_12_16 hZ hown (host := "") (Or.inl (w10 hw)) Via.refl e1 (S_w_arr0.ext O0.2) fun T2 X2 e2 => (zalenC X2 hx hby d_prog_46_method_12_19 hZ e2 (A_w_arr0.ext O0.2) (3 : Int32) Al_w_arr0 (ziadd X2 hx hby d_prog_46_method_12_20 (8 : Int32) (by decide) (zistoreN X2 hx hby d_prog_46_method_12_21 (L' := #[rv b900, iv 2, iv 12, iv 8]) rfl (zgoto X2 hx hby d_prog_46_method_12_22 2 (by decide) (by decide) ?_)))))))))
  show zEnds p e below s T2 (mkF m 2 #[rv b900, iv 2, iv 12, iv 8] []) _ _ _
  refine ziloadN X2 hx hby d_prog_46_method_12_2 rfl (ziloadN X2 hx hby d_prog_46_method_12_3 rfl (zicmpNo X2 hx hby d_prog_46_method_12_4 (by decide) (zaloadN X2 hx hby d_prog_46_method_12_7 rfl rfl (ziloadN X2 hx hby d_prog_46_method_12_8 rfl (zbaload X2 hx hby d_prog_46_method_12_9 hZ e2 A_b900 (by decide) (v := (.int 27)) rfl (zbipush X2 hx hby d_prog_46_method_12_10 (z := (27 : Int32)) rfl (zicmpNo X2 hx hby d_prog_46_method_12_12 (by decide) (ziloadN X2 hx hby d_prog_46_method_12_15 rfl (zgetstat X2 hx hby d_prog_46_method_12_16 hZ hown (host := "") (Or.inl (w10 hw)) Via.refl e2 (S_w_arr0.ext O0.2) fun T3 X3 e3 => ?_)))))))))
  show zEnds p e below s T3 (mkF m 19 #[rv b900, iv 2, iv 12, iv 8] [(.ref w_arr0), (.int 8)]) _ _ _
  refine zalenC X3 hx hby d_prog_46_method_12_19 hZ e3 (A_w_arr0.ext O0.2) (3 : Int32) Al_w_arr0 (ziadd X3 hx hby d_prog_46_method_12_20 (11 : Int32) (by decide) (zistoreN X3 hx hby d_prog_46_method_12_21 (L' := #[rv b900, iv 2, iv 12, iv 11]) rfl (zgoto X3 hx hby d_prog_46_method_12_22 2 (by decide) (by decide) (ziloadN X3 hx hby d_prog_46_method_12_2 rfl (ziloadN X3 hx hby d_prog_46_method_12_3 rfl (zicmpNo X3 hx hby d_prog_46_method_12_4 (by decide) (zaloadN X3 hx hby d_prog_46_method_12_7 rfl rfl (ziloadN X3 hx hby d_prog_46_method_12_8 rfl (zbaload X3 hx hby d_prog_46_method_12_9 hZ e3 A_b900 (by decide) (v := (.int x10)) rfl ?_)))))))))
  show zEnds p e below s T3 (mkF m 10 #[rv b900, iv 2, iv 12, iv 11] [(.int x10)]) _ _ _
  refine zbipush X3 hx hby d_prog_46_method_12_10 (z := (27 : Int32)) rfl (zicmpYes X3 hx hby d_prog_46_method_12_12 25 (feq k0).2 (by decide) (by decide) (ziloadN X3 hx hby d_prog_46_method_12_25 rfl ?_))
  show zEnds p e below s T3 (mkF m 26 #[rv b900, iv 2, iv 12, iv 11] [(.int 11)]) _ _ _
  exact zretI X3 hx hby d_prog_46_method_12_26 hret hlk (by decide) (by decide) ⟨rfl, e3, rfl⟩
set_option maxRecDepth 65536 in
set_option maxHeartbeats 40000000 in
theorem c133_firstCharacter (l : Launch) {Z : State} {a0 : Array Value} (hw : ∀ d ∈ tables_1, d.before a0 Z = true) (ws : List Jvm.Cond) {w_arr0 : Addr} {cl_arr0 : Cell} {n0 : Nat} {h0 : Heap} (C : Ctx Z w_arr0 cl_arr0) (O0 : Old Z n0 h0) (Z0 : n0 ≤ h0.size) (b900 : Addr) (x2 : Int32) (x3 : Int32) (x4 : Int32) (x5 : Int32) (x6 : Int32) (x7 : Int32) (x8 : Int32) (x9 : Int32) (x10 : Int32) (x11 : Int32) (x12 : Int32) (x13 : Int32) (g_b900 : n0 ≤ b900) (A_b900 : zLst Z h0 b900 .byte [(.int x2), (.int x3), (.int 27), (.int x4), (.int x5), (.int 27), (.int x6), (.int x7), (.int 27), (.int x8), (.int x9), (.int x10), (.int x11), (.int x12), (.int x13), (.int 0), (.int 0), (.int 0), (.int 0), (.int 0)]) (k0 : ¬ (x10 = (27 : Int32))) : zCon l Z (⟨"com/example/kakehashi/kakehashi/message/Iso2022", "firstCharacter", "([BII)I"⟩ : MethodName) prog_46_method_12_code 4 (some .int) ws ({ frames := 0, cells := 0, slots := 0, locals := 0 } : Room) #[(.ref b900), (.int 2), (.int 13)] h0 (zSame (some (.int 11)) h0) := by
  obtain ⟨S_w_arr0, A_w_arr0, Al_w_arr0⟩ := C
  refine zenter (plainFor_of_name pn_0) (L0 := #[rv b900, iv 2, iv 13, .unset]) (fun m => by first | rfl | simp [entryFrame, mkF, argsToLocals, Value.category, maxLocals]) ?_
  intro p e s m below meth c T0 hx hZ hby hml hown0 hnm hret hlk X0 e0
  have hown : s.vm.findClass "com/example/kakehashi/kakehashi/message/Iso2022" = some m.cls := hown0
  have K0 := Keep.refl h0 []
  have N0 := Fr.nil n0
  show zEnds p e below s T0 (mkF m 0 #[rv b900, iv 2, iv 13, .unset] []) _ _ _
  refine ziloadN X0 hx hby d_prog_46_method_12_0 rfl (zistoreN X0 hx hby d_prog_46_method_12_1 (L' := #[rv b900, iv 2, iv 13, iv 2]) rfl (ziloadN X0 hx hby d_prog_46_method_12_2 rfl (ziloadN X0 hx hby d_prog_46_method_12_3 rfl (zicmpNo X0 hx hby d_prog_46_method_12_4 (by decide) (zaloadN X0 hx hby d_prog_46_method_12_7 rfl rfl (ziloadN X0 hx hby d_prog_46_method_12_8 rfl (zbaload X0 hx hby d_prog_46_method_12_9 hZ e0 A_b900 (by decide) (v := (.int 27)) rfl (zbipush X0 hx hby d_prog_46_method_12_10 (z := (27 : Int32)) rfl (zicmpNo X0 hx hby d_prog_46_method_12_12 (by decide) ?_)))))))))
  show zEnds p e below s T0 (mkF m 15 #[rv b900, iv 2, iv 13, iv 2] []) _ _ _
  refine ziloadN X0 hx hby d_prog_46_method_12_15 rfl (zgetstat X0 hx hby d_prog_46_method_12_16 hZ hown (host := "") (Or.inl (w10 hw)) Via.refl e0 (S_w_arr0.ext O0.2) fun T1 X1 e1 => (zalenC X1 hx hby d_prog_46_method_12_19 hZ e1 (A_w_arr0.ext O0.2) (3 : Int32) Al_w_arr0 (ziadd X1 hx hby d_prog_46_method_12_20 (5 : Int32) (by decide) (zistoreN X1 hx hby d_prog_46_method_12_21 (L' := #[rv b900, iv 2, iv 13, iv 5]) rfl (zgoto X1 hx hby d_prog_46_method_12_22 2 (by decide) (by decide) (ziloadN X1 hx hby d_prog_46_method_12_2 rfl (ziloadN X1 hx hby d_prog_46_method_12_3 rfl (zicmpNo X1 hx hby d_prog_46_method_12_4 (by decide) (zaloadN X1 hx hby d_prog_46_method_12_7 rfl rfl ?_)))))))))
  show zEnds p e below s T1 (mkF m 8 #[rv b900, iv 2, iv 13, iv 5] [(.ref b900)]) _ _ _
  refine ziloadN X1 hx hby d_prog_46_method_12_8 rfl (zbaload X1 hx hby d_prog_46_method_12_9 hZ e1 A_b900 (by decide) (v := (.int 27)) rfl (zbipush X1 hx hby d_prog_46_method_12_10 (z := (27 : Int32)) rfl (zicmpNo X1 hx hby d_prog_46_method_12_12 (by decide) (ziloadN X1 hx hby d_prog_46_method_12_15 rfl (zgetstat X1 hx hby d_prog_46_method_12_16 hZ hown (host := "") (Or.inl (w10 hw)) Via.refl e1 (S_w_arr0.ext O0.2) fun T2 X2 e2 => (zalenC X2 hx hby d_prog_46_method_12_19 hZ e2 (A_w_arr0.ext O0.2) (3 : Int32) Al_w_arr0 (ziadd X2 hx hby d_prog_46_method_12_20 (8 : Int32) (by decide) (zistoreN X2 hx hby d_prog_46_method_12_21 (L' := #[rv b900, iv 2, iv 13, iv 8]) rfl (zgoto X2 hx hby d_prog_46_method_12_22 2 (by decide) (by decide) ?_)))))))))
  show zEnds p e below s T2 (mkF m 2 #[rv b900, iv 2, iv 13, iv 8] []) _ _ _
  refine ziloadN X2 hx hby d_prog_46_method_12_2 rfl (ziloadN X2 hx hby d_prog_46_method_12_3 rfl (zicmpNo X2 hx hby d_prog_46_method_12_4 (by decide) (zaloadN X2 hx hby d_prog_46_method_12_7 rfl rfl (ziloadN X2 hx hby d_prog_46_method_12_8 rfl (zbaload X2 hx hby d_prog_46_method_12_9 hZ e2 A_b900 (by decide) (v := (.int 27)) rfl (zbipush X2 hx hby d_prog_46_method_12_10 (z := (27 : Int32)) rfl (zicmpNo X2 hx hby d_prog_46_method_12_12 (by decide) (ziloadN X2 hx hby d_prog_46_method_12_15 rfl (zgetstat X2 hx hby d_prog_46_method_12_16 hZ hown (host := "") (Or.inl (w10 hw)) Via.refl e2 (S_w_arr0.ext O0.2) fun T3 X3 e3 => ?_)))))))))
  show zEnds p e below s T3 (mkF m 19 #[rv b900, iv 2, iv 13, iv 8] [(.ref w_arr0), (.int 8)]) _ _ _
  refine zalenC X3 hx hby d_prog_46_method_12_19 hZ e3 (A_w_arr0.ext O0.2) (3 : Int32) Al_w_arr0 (ziadd X3 hx hby d_prog_46_method_12_20 (11 : Int32) (by decide) (zistoreN X3 hx hby d_prog_46_method_12_21 (L' := #[rv b900, iv 2, iv 13, iv 11]) rfl (zgoto X3 hx hby d_prog_46_method_12_22 2 (by decide) (by decide) (ziloadN X3 hx hby d_prog_46_method_12_2 rfl (ziloadN X3 hx hby d_prog_46_method_12_3 rfl (zicmpNo X3 hx hby d_prog_46_method_12_4 (by decide) (zaloadN X3 hx hby d_prog_46_method_12_7 rfl rfl (ziloadN X3 hx hby d_prog_46_method_12_8 rfl (zbaload X3 hx hby d_prog_46_method_12_9 hZ e3 A_b900 (by decide) (v := (.int x10)) rfl ?_)))))))))
  show zEnds p e below s T3 (mkF m 10 #[rv b900, iv 2, iv 13, iv 11] [(.int x10)]) _ _ _
  refine zbipush X3 hx hby d_prog_46_method_12_10 (z := (27 : Int32)) rfl (zicmpYes X3 hx hby d_prog_46_method_12_12 25 (feq k0).2 (by decide) (by decide) (ziloadN X3 hx hby d_prog_46_method_12_25 rfl ?_))
  show zEnds p e below s T3 (mkF m 26 #[rv b900, iv 2, iv 13, iv 11] [(.int 11)]) _ _ _
  exact zretI X3 hx hby d_prog_46_method_12_26 hret hlk (by decide) (by decide) ⟨rfl, e3, rfl⟩
set_option maxRecDepth 65536 in
set_option maxHeartbeats 40000000 in
theorem c135_esc (l : Launch) {Z : State} {a0 : Array Value} (hw : ∀ d ∈ tables_1, d.before a0 Z = true) (ws : List Jvm.Cond) {w_arr0 : Addr} {cl_arr0 : Cell} {n0 : Nat} {h0 : Heap} (C : Ctx Z w_arr0 cl_arr0) (O0 : Old Z n0 h0) (Z0 : n0 ≤ h0.size) (x2 : Int32) (b900 : Addr) (x3 : Int32) (x4 : Int32) (x5 : Int32) (x6 : Int32) (x7 : Int32) (x8 : Int32) (x9 : Int32) (x10 : Int32) (x11 : Int32) (x12 : Int32) (x13 : Int32) (x14 : Int32) (x15 : Int32) (x16 : Int32) (x17 : Int32) (x18 : Int32) (x19 : Int32) (x20 : Int32) (x21 : Int32) (x22 : Int32) (g_b900 : n0 ≤ b900) (A_b900 : zLst Z h0 b900 .byte [(.int x3), (.int x4), (.int x5), (.int x6), (.int x7), (.int x8), (.int x9), (.int x10), (.int x11), (.int x12), (.int x13), (.int x14), (.int x15), (.int x16), (.int x17), (.int x18), (.int x19), (.int x20), (.int x21), (.int x22)]) (k0 : ¬ (x14 = (27 : Int32))) : zCon l Z (⟨"com/example/kakehashi/kakehashi/message/Iso2022FirstCharacterPinLaw", "esc", "([BII)I"⟩ : MethodName) method_2_code 4 (some .int) ws ({ frames := 0, cells := 0, slots := 0, locals := 0 } : Room) #[(.ref b900), (.int 12), (.int x2)] h0 (fun v h L => v = some (.int 15) ∧ Fr n0 L ∧ Keep h0 h [b900] ∧ zLst Z h b900 .byte [(.int x3), (.int x4), (.int x5), (.int x6), (.int x7), (.int x8), (.int x9), (.int x10), (.int x11), (.int x12), (.int x13), (.int x14), (.int 27), (.int ((e1v x2).toInt8.toInt32)), (.int ((e2v x2).toInt8.toInt32)), (.int x18), (.int x19), (.int x20), (.int x21), (.int x22)]) := by
  obtain ⟨S_w_arr0, A_w_arr0, Al_w_arr0⟩ := C
  refine zenter (plainFor_of_name pn_1) (L0 := #[rv b900, iv 12, iv x2, .unset]) (fun m => by first | rfl | simp [entryFrame, mkF, argsToLocals, Value.category, maxLocals]) ?_
  intro p e s m below meth c T0 hx hZ hby hml hown0 hnm hret hlk X0 e0
  have hown : s.vm.findClass "com/example/kakehashi/kakehashi/message/Iso2022FirstCharacterPinLaw" = some m.cls := hown0
  have K0 := Keep.refl h0 [b900]
  have N0 := Fr.nil n0
  show zEnds p e below s T0 (mkF m 0 #[rv b900, iv 12, iv x2, .unset] []) _ _ _
  refine ziloadN X0 hx hby d_method_2_0 rfl (ziconst X0 hx hby d_method_2_1 (z := (3 : Int32)) rfl (zirem X0 hx hby d_method_2_2 (x2 % (3 : Int32)) (by decide) rfl (zistoreN X0 hx hby d_method_2_3 (L' := #[rv b900, iv 12, iv x2, iv (x2 % (3 : Int32))]) rfl (zaloadN X0 hx hby d_method_2_4 rfl rfl (ziloadN X0 hx hby d_method_2_5 rfl (zbipush X0 hx hby d_method_2_6 (z := (27 : Int32)) rfl (zbastore X0 hx hby d_method_2_8 hZ e0 A_b900 (by decide) (by show Int32.toNatClampNeg 12 < 20; decide) (27 : Int32) (by decide) fun T1 h1 X1 e1 W1 A1_b900 => ?_)))))))
  change zLst Z h1 b900 .byte [(.int x3), (.int x4), (.int x5), (.int x6), (.int x7), (.int x8), (.int x9), (.int x10), (.int x11), (.int x12), (.int x13), (.int x14), (.int 27), (.int x16), (.int x17), (.int x18), (.int x19), (.int x20), (.int x21), (.int x22)] at A1_b900
  have O1 := O0.wr W1 g_b900
  have K1 := Keep.wr K0 W1 (Or.inl (List.mem_of_getElem? (i := 0) rfl))
  have N1 := Fr.snoc X1 N0 g_b900
  refine zaloadN X1 hx hby d_method_2_9 rfl rfl (ziloadN X1 hx hby d_method_2_10 rfl (ziconst X1 hx hby d_method_2_11 (z := (1 : Int32)) rfl (ziadd X1 hx hby d_method_2_12 (13 : Int32) (by decide) (ziloadN X1 hx hby d_method_2_13 rfl ?_))))
  show zEnds p e below s T1 (mkF m 14 #[rv b900, iv 12, iv x2, iv (x2 % (3 : Int32))] [(.int (x2 % (3 : Int32))), (.int 13), (.ref b900)]) _ _ _
  refine zjoin (T' := T1) (F' := (mkF m 24 #[rv b900, iv 12, iv x2, iv (x2 % (3 : Int32))] [(.int (e1v x2)), (.int 13), (.ref b900)])) (fun K => ?_) ?_
  · show zEnds p e below s T1 (mkF m 14 #[rv b900, iv 12, iv x2, iv (x2 % (3 : Int32))] [(.int (x2 % (3 : Int32))), (.int 13), (.ref b900)]) _ _ _
    by_cases hc2 : (x2 % (3 : Int32)) = (0 : Int32)
    · refine zifNo X1 hx hby d_method_2_14 ((if0 _ _).trans (teq hc2).2) (zbipush X1 hx hby d_method_2_17 (z := (36 : Int32)) rfl (zgoto X1 hx hby d_method_2_19 24 (by decide) (by decide) ?_))
      show zEnds p e below s T1 (mkF m 24 #[rv b900, iv 12, iv x2, iv (x2 % (3 : Int32))] [(.int 36), (.int 13), (.ref b900)]) _ _ _
      rw [show (36 : Int32) = (e1v x2) from by simp +decide [e1v, k0, hc2]]; exact K
    · refine zifYes X1 hx hby d_method_2_14 22 ((if0 _ _).trans (feq hc2).2) (by decide) (by decide) (zbipush X1 hx hby d_method_2_22 (z := (40 : Int32)) rfl ?_)
      show zEnds p e below s T1 (mkF m 24 #[rv b900, iv 12, iv x2, iv (x2 % (3 : Int32))] [(.int 40), (.int 13), (.ref b900)]) _ _ _
      rw [show (40 : Int32) = (e1v x2) from by simp +decide [e1v, k0, hc2]]; exact K
  refine zi2b X1 hx hby d_method_2_24 ((e1v x2).toInt8.toInt32) rfl (zbastore X1 hx hby d_method_2_25 hZ e1 A1_b900 (by decide) (by show Int32.toNatClampNeg 13 < 20; decide) ((e1v x2).toInt8.toInt32) (own_nar8 _) fun T3 h3 X3 e3 W3 A3_b900 => ?_)
  change zLst Z h3 b900 .byte [(.int x3), (.int x4), (.int x5), (.int x6), (.int x7), (.int x8), (.int x9), (.int x10), (.int x11), (.int x12), (.int x13), (.int x14), (.int 27), (.int ((e1v x2).toInt8.toInt32)), (.int x17), (.int x18), (.int x19), (.int x20), (.int x21), (.int x22)] at A3_b900
  have O3 := O1.wr W3 g_b900
  have K3 := Keep.wr K1 W3 (Or.inl (List.mem_of_getElem? (i := 0) rfl))
  have N3 := Fr.snoc X3 N1 g_b900
  refine zaloadN X3 hx hby d_method_2_26 rfl rfl (ziloadN X3 hx hby d_method_2_27 rfl (ziconst X3 hx hby d_method_2_28 (z := (2 : Int32)) rfl (ziadd X3 hx hby d_method_2_29 (14 : Int32) (by decide) (ziloadN X3 hx hby d_method_2_30 rfl (ziconst X3 hx hby d_method_2_31 (z := (2 : Int32)) rfl ?_)))))
  show zEnds p e below s T3 (mkF m 32 #[rv b900, iv 12, iv x2, iv (x2 % (3 : Int32))] [(.int 2), (.int (x2 % (3 : Int32))), (.int 14), (.ref b900)]) _ _ _
  refine zjoin (T' := T3) (F' := (mkF m 42 #[rv b900, iv 12, iv x2, iv (x2 % (3 : Int32))] [(.int (e2v x2)), (.int 14), (.ref b900)])) (fun K => ?_) ?_
  · show zEnds p e below s T3 (mkF m 32 #[rv b900, iv 12, iv x2, iv (x2 % (3 : Int32))] [(.int 2), (.int (x2 % (3 : Int32))), (.int 14), (.ref b900)]) _ _ _
    by_cases hc4 : (x2 % (3 : Int32)) = (2 : Int32)
    · refine zicmpNo X3 hx hby d_method_2_32 (teq hc4).2 (zbipush X3 hx hby d_method_2_35 (z := (74 : Int32)) rfl (zgoto X3 hx hby d_method_2_37 42 (by decide) (by decide) ?_))
      show zEnds p e below s T3 (mkF m 42 #[rv b900, iv 12, iv x2, iv (x2 % (3 : Int32))] [(.int 74), (.int 14), (.ref b900)]) _ _ _
      rw [show (74 : Int32) = (e2v x2) from by simp +decide [e2v, k0, hc4]]; exact K
    · refine zicmpYes X3 hx hby d_method_2_32 40 (feq hc4).2 (by decide) (by decide) (zbipush X3 hx hby d_method_2_40 (z := (66 : Int32)) rfl ?_)
      show zEnds p e below s T3 (mkF m 42 #[rv b900, iv 12, iv x2, iv (x2 % (3 : Int32))] [(.int 66), (.int 14), (.ref b900)]) _ _ _
      rw [show (66 : Int32) = (e2v x2) from by simp +decide [e2v, k0, hc4]]; exact K
  refine zi2b X3 hx hby d_method_2_42 ((e2v x2).toInt8.toInt32) rfl (zbastore X3 hx hby d_method_2_43 hZ e3 A3_b900 (by decide) (by show Int32.toNatClampNeg 14 < 20; decide) ((e2v x2).toInt8.toInt32) (own_nar8 _) fun T5 h5 X5 e5 W5 A5_b900 => ?_)
  change zLst Z h5 b900 .byte [(.int x3), (.int x4), (.int x5), (.int x6), (.int x7), (.int x8), (.int x9), (.int x10), (.int x11), (.int x12), (.int x13), (.int x14), (.int 27), (.int ((e1v x2).toInt8.toInt32)), (.int ((e2v x2).toInt8.toInt32)), (.int x18), (.int x19), (.int x20), (.int x21), (.int x22)] at A5_b900
  have O5 := O3.wr W5 g_b900
  have K5 := Keep.wr K3 W5 (Or.inl (List.mem_of_getElem? (i := 0) rfl))
  have N5 := Fr.snoc X5 N3 g_b900
  refine ziloadN X5 hx hby d_method_2_44 rfl (ziconst X5 hx hby d_method_2_45 (z := (3 : Int32)) rfl (ziadd X5 hx hby d_method_2_46 (15 : Int32) (by decide) ?_))
  show zEnds p e below s T5 (mkF m 47 #[rv b900, iv 12, iv x2, iv (x2 % (3 : Int32))] [(.int 15)]) _ _ _
  exact zretI X5 hx hby d_method_2_47 hret hlk (by decide) (by decide) (by rw [e5]; exact ⟨rfl, N5, K5, A5_b900⟩)
set_option maxRecDepth 65536 in
set_option maxHeartbeats 40000000 in
theorem c137_firstCharacter (l : Launch) {Z : State} {a0 : Array Value} (hw : ∀ d ∈ tables_1, d.before a0 Z = true) (ws : List Jvm.Cond) {w_arr0 : Addr} {cl_arr0 : Cell} {n0 : Nat} {h0 : Heap} (C : Ctx Z w_arr0 cl_arr0) (O0 : Old Z n0 h0) (Z0 : n0 ≤ h0.size) (b900 : Addr) (x2 : Int32) (x3 : Int32) (x4 : Int32) (x5 : Int32) (x6 : Int32) (x7 : Int32) (x8 : Int32) (x9 : Int32) (x10 : Int32) (x11 : Int32) (x12 : Int32) (x13 : Int32) (x14 : Int32) (g_b900 : n0 ≤ b900) (A_b900 : zLst Z h0 b900 .byte [(.int x2), (.int x3), (.int 27), (.int x4), (.int x5), (.int 27), (.int x6), (.int x7), (.int 27), (.int x8), (.int x9), (.int x10), (.int 27), (.int x11), (.int x12), (.int x13), (.int x14), (.int 0), (.int 0), (.int 0)]) (k0 : ¬ (x10 = (27 : Int32))) : zCon l Z (⟨"com/example/kakehashi/kakehashi/message/Iso2022", "firstCharacter", "([BII)I"⟩ : MethodName) prog_46_method_12_code 4 (some .int) ws ({ frames := 0, cells := 0, slots := 0, locals := 0 } : Room) #[(.ref b900), (.int 2), (.int 15)] h0 (zSame (some (.int 11)) h0) := by
  obtain ⟨S_w_arr0, A_w_arr0, Al_w_arr0⟩ := C
  refine zenter (plainFor_of_name pn_0) (L0 := #[rv b900, iv 2, iv 15, .unset]) (fun m => by first | rfl | simp [entryFrame, mkF, argsToLocals, Value.category, maxLocals]) ?_
  intro p e s m below meth c T0 hx hZ hby hml hown0 hnm hret hlk X0 e0
  have hown : s.vm.findClass "com/example/kakehashi/kakehashi/message/Iso2022" = some m.cls := hown0
  have K0 := Keep.refl h0 []
  have N0 := Fr.nil n0
  show zEnds p e below s T0 (mkF m 0 #[rv b900, iv 2, iv 15, .unset] []) _ _ _
  refine ziloadN X0 hx hby d_prog_46_method_12_0 rfl (zistoreN X0 hx hby d_prog_46_method_12_1 (L' := #[rv b900, iv 2, iv 15, iv 2]) rfl (ziloadN X0 hx hby d_prog_46_method_12_2 rfl (ziloadN X0 hx hby d_prog_46_method_12_3 rfl (zicmpNo X0 hx hby d_prog_46_method_12_4 (by decide) (zaloadN X0 hx hby d_prog_46_method_12_7 rfl rfl (ziloadN X0 hx hby d_prog_46_method_12_8 rfl (zbaload X0 hx hby d_prog_46_method_12_9 hZ e0 A_b900 (by decide) (v := (.int 27)) rfl (zbipush X0 hx hby d_prog_46_method_12_10 (z := (27 : Int32)) rfl (zicmpNo X0 hx hby d_prog_46_method_12_12 (by decide) ?_)))))))))
  show zEnds p e below s T0 (mkF m 15 #[rv b900, iv 2, iv 15, iv 2] []) _ _ _
  refine ziloadN X0 hx hby d_prog_46_method_12_15 rfl (zgetstat X0 hx hby d_prog_46_method_12_16 hZ hown (host := "") (Or.inl (w10 hw)) Via.refl e0 (S_w_arr0.ext O0.2) fun T1 X1 e1 => (zalenC X1 hx hby d_prog_46_method_12_19 hZ e1 (A_w_arr0.ext O0.2) (3 : Int32) Al_w_arr0 (ziadd X1 hx hby d_prog_46_method_12_20 (5 : Int32) (by decide) (zistoreN X1 hx hby d_prog_46_method_12_21 (L' := #[rv b900, iv 2, iv 15, iv 5]) rfl (zgoto X1 hx hby d_prog_46_method_12_22 2 (by decide) (by decide) (ziloadN X1 hx hby d_prog_46_method_12_2 rfl (ziloadN X1 hx hby d_prog_46_method_12_3 rfl (zicmpNo X1 hx hby d_prog_46_method_12_4 (by decide) (zaloadN X1 hx hby d_prog_46_method_12_7 rfl rfl ?_)))))))))
  show zEnds p e below s T1 (mkF m 8 #[rv b900, iv 2, iv 15, iv 5] [(.ref b900)]) _ _ _
  refine ziloadN X1 hx hby d_prog_46_method_12_8 rfl (zbaload X1 hx hby d_prog_46_method_12_9 hZ e1 A_b900 (by decide) (v := (.int 27)) rfl (zbipush X1 hx hby d_prog_46_method_12_10 (z := (27 : Int32)) rfl (zicmpNo X1 hx hby d_prog_46_method_12_12 (by decide) (ziloadN X1 hx hby d_prog_46_method_12_15 rfl (zgetstat X1 hx hby d_prog_46_method_12_16 hZ hown (host := "") (Or.inl (w10 hw)) Via.refl e1 (S_w_arr0.ext O0.2) fun T2 X2 e2 => (zalenC X2 hx hby d_prog_46_method_12_19 hZ e2 (A_w_arr0.ext O0.2) (3 : Int32) Al_w_arr0 (ziadd X2 hx hby d_prog_46_method_12_20 (8 : Int32) (by decide) (zistoreN X2 hx hby d_prog_46_method_12_21 (L' := #[rv b900, iv 2, iv 15, iv 8]) rfl (zgoto X2 hx hby d_prog_46_method_12_22 2 (by decide) (by decide) ?_)))))))))
  show zEnds p e below s T2 (mkF m 2 #[rv b900, iv 2, iv 15, iv 8] []) _ _ _
  refine ziloadN X2 hx hby d_prog_46_method_12_2 rfl (ziloadN X2 hx hby d_prog_46_method_12_3 rfl (zicmpNo X2 hx hby d_prog_46_method_12_4 (by decide) (zaloadN X2 hx hby d_prog_46_method_12_7 rfl rfl (ziloadN X2 hx hby d_prog_46_method_12_8 rfl (zbaload X2 hx hby d_prog_46_method_12_9 hZ e2 A_b900 (by decide) (v := (.int 27)) rfl (zbipush X2 hx hby d_prog_46_method_12_10 (z := (27 : Int32)) rfl (zicmpNo X2 hx hby d_prog_46_method_12_12 (by decide) (ziloadN X2 hx hby d_prog_46_method_12_15 rfl (zgetstat X2 hx hby d_prog_46_method_12_16 hZ hown (host := "") (Or.inl (w10 hw)) Via.refl e2 (S_w_arr0.ext O0.2) fun T3 X3 e3 => ?_)))))))))
  show zEnds p e below s T3 (mkF m 19 #[rv b900, iv 2, iv 15, iv 8] [(.ref w_arr0), (.int 8)]) _ _ _
  refine zalenC X3 hx hby d_prog_46_method_12_19 hZ e3 (A_w_arr0.ext O0.2) (3 : Int32) Al_w_arr0 (ziadd X3 hx hby d_prog_46_method_12_20 (11 : Int32) (by decide) (zistoreN X3 hx hby d_prog_46_method_12_21 (L' := #[rv b900, iv 2, iv 15, iv 11]) rfl (zgoto X3 hx hby d_prog_46_method_12_22 2 (by decide) (by decide) (ziloadN X3 hx hby d_prog_46_method_12_2 rfl (ziloadN X3 hx hby d_prog_46_method_12_3 rfl (zicmpNo X3 hx hby d_prog_46_method_12_4 (by decide) (zaloadN X3 hx hby d_prog_46_method_12_7 rfl rfl (ziloadN X3 hx hby d_prog_46_method_12_8 rfl (zbaload X3 hx hby d_prog_46_method_12_9 hZ e3 A_b900 (by decide) (v := (.int x10)) rfl ?_)))))))))
  show zEnds p e below s T3 (mkF m 10 #[rv b900, iv 2, iv 15, iv 11] [(.int x10)]) _ _ _
  refine zbipush X3 hx hby d_prog_46_method_12_10 (z := (27 : Int32)) rfl (zicmpYes X3 hx hby d_prog_46_method_12_12 25 (feq k0).2 (by decide) (by decide) (ziloadN X3 hx hby d_prog_46_method_12_25 rfl ?_))
  show zEnds p e below s T3 (mkF m 26 #[rv b900, iv 2, iv 15, iv 11] [(.int 11)]) _ _ _
  exact zretI X3 hx hby d_prog_46_method_12_26 hret hlk (by decide) (by decide) ⟨rfl, e3, rfl⟩
set_option maxRecDepth 65536 in
set_option maxHeartbeats 40000000 in
theorem rm0 (l : Launch) {Z : State} {a0 : Array Value} (hw : ∀ d ∈ tables_1, d.before a0 Z = true) (ws : List Jvm.Cond) {w_arr0 : Addr} {cl_arr0 : Cell} {n0 : Nat} {h0 : Heap} (C : Ctx Z w_arr0 cl_arr0) (O0 : Old Z n0 h0) (Z0 : n0 ≤ h0.size) (p1 : Int32) (p2 : Int32) (p3 : Int32) (p4 : Int32) : zCon l Z x code maxLocals ret ws room_1 #[(.int p1), (.int p2), (.int p3), (.int p4)] h0 (fun v h L => v = some (.int (1 : Int32)) ∧ Fr n0 L) := by
  obtain ⟨S_w_arr0, A_w_arr0, Al_w_arr0⟩ := C
  refine zenter (plainFor_of_name pn_1) (L0 := #[iv p1, iv p2, iv p3, iv p4, .unset, .unset, .unset, .unset, .unset, .unset, .unset, .unset]) (fun m => by first | rfl | simp [entryFrame, mkF, argsToLocals, Value.category, maxLocals]) ?_
  intro p e s m below meth c T0 hx hZ hby hml hown0 hnm hret hlk X0 e0
  have hown : s.vm.findClass "com/example/kakehashi/kakehashi/message/Iso2022FirstCharacterPinLaw" = some m.cls := hown0
  have K0 := Keep.refl h0 []
  have N0 := Fr.nil n0
  show zEnds p e below s T0 (mkF m 0 #[iv p1, iv p2, iv p3, iv p4, .unset, .unset, .unset, .unset, .unset, .unset, .unset, .unset] []) _ _ _
  refine zbipush X0 hx hby at_0 (z := (20 : Int32)) rfl (znewprim X0 hx hby at_2 hZ (w0 hw) e0 (by decide) 20 (by decide) (by decide) (by decide) (by decide) fun T1 h1 b1 X1 e1 y1 Ex1 A1_b1 => ?_)
  change zLst Z h1 b1 .byte [(.int 0), (.int 0), (.int 0), (.int 0), (.int 0), (.int 0), (.int 0), (.int 0), (.int 0), (.int 0), (.int 0), (.int 0), (.int 0), (.int 0), (.int 0), (.int 0), (.int 0), (.int 0), (.int 0), (.int 0)] at A1_b1
  have O1 := O0.ext Ex1
  have g1 : n0 ≤ b1 := by rw [y1]; exact zsz O0
  refine zastore X1 hx hby at_4 (hv := rfl) (L' := #[iv p1, iv p2, iv p3, iv p4, rv b1, .unset, .unset, .unset, .unset, .unset, .unset, .unset]) rfl (zaload X1 hx hby at_6 rfl rfl (ziconst X1 hx hby at_8 (z := (0 : Int32)) rfl (ziloadN X1 hx hby at_9 rfl (zbipush X1 hx hby at_10 (z := (8 : Int32)) rfl (ziushr X1 hx hby at_12 ((p3.toUInt32 >>> ((8 : Int32) &&& 31).toUInt32).toInt32) rfl (zi2b X1 hx hby at_13 (((p3.toUInt32 >>> ((8 : Int32) &&& 31).toUInt32).toInt32).toInt8.toInt32) rfl ?_))))))
  show zEnds p e below s T1 (mkF m 14 #[iv p1, iv p2, iv p3, iv p4, rv b1, .unset, .unset, .unset, .unset, .unset, .unset, .unset] [(.int (((p3.toUInt32 >>> ((8 : Int32) &&& 31).toUInt32).toInt32).toInt8.toInt32)), (.int 0), (.ref b1)]) _ _ _
  generalize e_va : (((p3.toUInt32 >>> ((8 : Int32) &&& 31).toUInt32).toInt32).toInt8.toInt32) = va
  have hn_va : nar .byte va = va := by rw [← e_va]; exact own_nar8 _
  refine zbastore X1 hx hby at_14 hZ e1 A1_b1 (by decide) (by show Int32.toNatClampNeg 0 < 20; decide) va hn_va fun T2 h2 X2 e2 W2 A2_b1 => ?_
  change zLst Z h2 b1 .byte [(.int va), (.int 0), (.int 0), (.int 0), (.int 0), (.int 0), (.int 0), (.int 0), (.int 0), (.int 0), (.int 0), (.int 0), (.int 0), (.int 0), (.int 0), (.int 0), (.int 0), (.int 0), (.int 0), (.int 0)] at A2_b1
  have O2 := O1.wr W2 g1
  have N2 := Fr.snoc X2 N0 g1
  refine zaload X2 hx hby at_15 rfl rfl (ziconst X2 hx hby at_17 (z := (1 : Int32)) rfl (ziloadN X2 hx hby at_18 rfl (zbipush X2 hx hby at_19 (z := (16 : Int32)) rfl (ziushr X2 hx hby at_21 ((p3.toUInt32 >>> ((16 : Int32) &&& 31).toUInt32).toInt32) rfl (zi2b X2 hx hby at_22 (((p3.toUInt32 >>> ((16 : Int32) &&& 31).toUInt32).toInt32).toInt8.toInt32) rfl ?_)))))
  show zEnds p e below s T2 (mkF m 23 #[iv p1, iv p2, iv p3, iv p4, rv b1, .unset, .unset, .unset, .unset, .unset, .unset, .unset] [(.int (((p3.toUInt32 >>> ((16 : Int32) &&& 31).toUInt32).toInt32).toInt8.toInt32)), (.int 1), (.ref b1)]) _ _ _
  generalize e_vb : (((p3.toUInt32 >>> ((16 : Int32) &&& 31).toUInt32).toInt32).toInt8.toInt32) = vb
  have hn_vb : nar .byte vb = vb := by rw [← e_vb]; exact own_nar8 _
  refine zbastore X2 hx hby at_23 hZ e2 A2_b1 (by decide) (by show Int32.toNatClampNeg 1 < 20; decide) vb hn_vb fun T3 h3 X3 e3 W3 A3_b1 => ?_
  change zLst Z h3 b1 .byte [(.int va), (.int vb), (.int 0), (.int 0), (.int 0), (.int 0), (.int 0), (.int 0), (.int 0), (.int 0), (.int 0), (.int 0), (.int 0), (.int 0), (.int 0), (.int 0), (.int 0), (.int 0), (.int 0), (.int 0)] at A3_b1
  have O3 := O2.wr W3 g1
  have N3 := Fr.snoc X3 N2 g1
  refine ziloadN X3 hx hby at_24 rfl (zldcI X3 hx hby at_25 (2147483647 : Int32) hZ hown (w1 hw) (ziand X3 hx hby at_27 (p3 &&& (2147483647 : Int32)) rfl (ziconst X3 hx hby at_28 (z := (3 : Int32)) rfl (zirem X3 hx hby at_29 ((p3 &&& (2147483647 : Int32)) % (3 : Int32)) (by decide) rfl ?_))))
  show zEnds p e below s T3 (mkF m 30 #[iv p1, iv p2, iv p3, iv p4, rv b1, .unset, .unset, .unset, .unset, .unset, .unset, .unset] [(.int ((p3 &&& (2147483647 : Int32)) % (3 : Int32)))]) _ _ _
  rcases (rem_3 p3) with q4 | q4 | q4
  · rw [q4]
    refine zistore X3 hx hby at_30 (L' := #[iv p1, iv p2, iv p3, iv p4, rv b1, iv 0, .unset, .unset, .unset, .unset, .unset, .unset]) rfl (ziload X3 hx hby at_32 rfl (zistore X3 hx hby at_34 (L' := #[iv p1, iv p2, iv p3, iv p4, rv b1, iv 0, iv 0, .unset, .unset, .unset, .unset, .unset]) rfl (ziloadN X3 hx hby at_36 rfl (ziconst X3 hx hby at_37 (z := (3 : Int32)) rfl (ziand X3 hx hby at_38 (p1 &&& (3 : Int32)) rfl ?_)))))
    show zEnds p e below s T3 (mkF m 39 #[iv p1, iv p2, iv p3, iv p4, rv b1, iv 0, iv 0, .unset, .unset, .unset, .unset, .unset] [(.int (p1 &&& (3 : Int32)))]) _ _ _
    rcases (and_3 p1) with q5 | q5 | q5 | q5
    · rw [q5]
      refine zistore X3 hx hby at_39 (L' := #[iv p1, iv p2, iv p3, iv p4, rv b1, iv 0, iv 0, iv 0, .unset, .unset, .unset, .unset]) rfl (ziload X3 hx hby at_41 rfl (zifYes X3 hx hby at_43 60 (by decide) (by decide) (by decide) (ziload X3 hx hby at_60 rfl (ziconst X3 hx hby at_62 (z := (1 : Int32)) rfl (zicmpYes X3 hx hby at_63 80 (by decide) (by decide) (by decide) (ziload X3 hx hby at_80 rfl (ziconst X3 hx hby at_82 (z := (2 : Int32)) rfl (zicmpYes X3 hx hby at_83 101 (by decide) (by decide) (by decide) (ziload X3 hx hby at_101 rfl ?_)))))))))
      show zEnds p e below s T3 (mkF m 103 #[iv p1, iv p2, iv p3, iv p4, rv b1, iv 0, iv 0, iv 0, .unset, .unset, .unset, .unset] [(.int 0)]) _ _ _
      refine zistore X3 hx hby at_103 (L' := #[iv p1, iv p2, iv p3, iv p4, rv b1, iv 0, iv 0, iv 0, iv 0, .unset, .unset, .unset]) rfl (ziloadN X3 hx hby at_105 rfl (ziconst X3 hx hby at_106 (z := (3 : Int32)) rfl (ziand X3 hx hby at_107 (p2 &&& (3 : Int32)) rfl ?_)))
      show zEnds p e below s T3 (mkF m 108 #[iv p1, iv p2, iv p3, iv p4, rv b1, iv 0, iv 0, iv 0, iv 0, .unset, .unset, .unset] [(.int (p2 &&& (3 : Int32)))]) _ _ _
      rcases (and_3 p2) with q6 | q6 | q6 | q6
      · rw [q6]
        refine zistore X3 hx hby at_108 (L' := #[iv p1, iv p2, iv p3, iv p4, rv b1, iv 0, iv 0, iv 0, iv 0, iv 0, .unset, .unset]) rfl (ziloadN X3 hx hby at_110 rfl (ziconst X3 hx hby at_111 (z := (2 : Int32)) rfl (ziushr X3 hx hby at_112 ((p2.toUInt32 >>> ((2 : Int32) &&& 31).toUInt32).toInt32) rfl (zbipush X3 hx hby at_113 (z := (127 : Int32)) rfl (ziand X3 hx hby at_115 (((p2.toUInt32 >>> ((2 : Int32) &&& 31).toUInt32).toInt32) &&& (127 : Int32)) rfl ?_)))))
        show zEnds p e below s T3 (mkF m 116 #[iv p1, iv p2, iv p3, iv p4, rv b1, iv 0, iv 0, iv 0, iv 0, iv 0, .unset, .unset] [(.int (((p2.toUInt32 >>> ((2 : Int32) &&& 31).toUInt32).toInt32) &&& (127 : Int32)))]) _ _ _
        generalize e_vc : (((p2.toUInt32 >>> ((2 : Int32) &&& 31).toUInt32).toInt32) &&& (127 : Int32)) = vc
        have kc : 0 ≤ vc.toInt ∧ vc.toInt ≤ 127 := by rw [← e_vc]; exact own_c _
        refine zistore X3 hx hby at_116 (L' := #[iv p1, iv p2, iv p3, iv p4, rv b1, iv 0, iv 0, iv 0, iv 0, iv 0, iv vc, .unset]) rfl (ziload X3 hx hby at_118 rfl (ziconst X3 hx hby at_120 (z := (1 : Int32)) rfl (zicmpNo X3 hx hby at_121 (by decide) (ziload X3 hx hby at_124 rfl (ziconst X3 hx hby at_126 (z := (3 : Int32)) rfl (zicmpYes X3 hx hby at_127 140 (by decide) (by decide) (by decide) (ziload X3 hx hby at_140 rfl (ziconst X3 hx hby at_142 (z := (1 : Int32)) rfl (zicmpYes X3 hx hby at_143 163 (by decide) (by decide) (by decide) ?_)))))))))
        show zEnds p e below s T3 (mkF m 163 #[iv p1, iv p2, iv p3, iv p4, rv b1, iv 0, iv 0, iv 0, iv 0, iv 0, iv vc, .unset] []) _ _ _
        refine ziload X3 hx hby at_163 rfl (ziconst X3 hx hby at_165 (z := (2 : Int32)) rfl (zicmpYes X3 hx hby at_166 220 (by decide) (by decide) (by decide) (ziload X3 hx hby at_220 rfl (ziconst X3 hx hby at_222 (z := (3 : Int32)) rfl (zicmpYes X3 hx hby at_223 251 (by decide) (by decide) (by decide) (ziload X3 hx hby at_251 rfl (zistore X3 hx hby at_253 (L' := #[iv p1, iv p2, iv p3, iv p4, rv b1, iv 0, iv 0, iv 0, iv 0, iv 0, iv vc, iv 0]) rfl (zaload X3 hx hby at_255 rfl rfl (ziload X3 hx hby at_257 rfl ?_)))))))))
        show zEnds p e below s T3 (mkF m 259 #[iv p1, iv p2, iv p3, iv p4, rv b1, iv 0, iv 0, iv 0, iv 0, iv 0, iv vc, iv 0] [(.int 0), (.ref b1)]) _ _ _
        refine ziloadN X3 hx hby at_259 rfl (zi2b X3 hx hby at_260 (p4.toInt8.toInt32) rfl ?_)
        show zEnds p e below s T3 (mkF m 261 #[iv p1, iv p2, iv p3, iv p4, rv b1, iv 0, iv 0, iv 0, iv 0, iv 0, iv vc, iv 0] [(.int (p4.toInt8.toInt32)), (.int 0), (.ref b1)]) _ _ _
        generalize e_vy : (p4.toInt8.toInt32) = vy
        have hn_vy : nar .byte vy = vy := by rw [← e_vy]; exact own_nar8 _
        refine zbastore X3 hx hby at_261 hZ e3 A3_b1 (by decide) (by show Int32.toNatClampNeg 0 < 20; decide) vy hn_vy fun T7 h7 X7 e7 W7 A7_b1 => ?_
        change zLst Z h7 b1 .byte [(.int vy), (.int vb), (.int 0), (.int 0), (.int 0), (.int 0), (.int 0), (.int 0), (.int 0), (.int 0), (.int 0), (.int 0), (.int 0), (.int 0), (.int 0), (.int 0), (.int 0), (.int 0), (.int 0), (.int 0)] at A7_b1
        have O7 := O3.wr W7 g1
        have N7 := Fr.snoc X7 N3 g1
        refine zaload X7 hx hby at_262 rfl rfl (ziload X7 hx hby at_264 rfl (ziconst X7 hx hby at_266 (z := (1 : Int32)) rfl (ziadd X7 hx hby at_267 (1 : Int32) (by decide) (ziloadN X7 hx hby at_268 rfl (zbipush X7 hx hby at_269 (z := (8 : Int32)) rfl (ziushr X7 hx hby at_271 ((p4.toUInt32 >>> ((8 : Int32) &&& 31).toUInt32).toInt32) rfl (zi2b X7 hx hby at_272 (((p4.toUInt32 >>> ((8 : Int32) &&& 31).toUInt32).toInt32).toInt8.toInt32) rfl ?_)))))))
        show zEnds p e below s T7 (mkF m 273 #[iv p1, iv p2, iv p3, iv p4, rv b1, iv 0, iv 0, iv 0, iv 0, iv 0, iv vc, iv 0] [(.int (((p4.toUInt32 >>> ((8 : Int32) &&& 31).toUInt32).toInt32).toInt8.toInt32)), (.int 1), (.ref b1)]) _ _ _
        generalize e_vz : (((p4.toUInt32 >>> ((8 : Int32) &&& 31).toUInt32).toInt32).toInt8.toInt32) = vz
        have hn_vz : nar .byte vz = vz := by rw [← e_vz]; exact own_nar8 _
        refine zbastore X7 hx hby at_273 hZ e7 A7_b1 (by decide) (by show Int32.toNatClampNeg 1 < 20; decide) vz hn_vz fun T8 h8 X8 e8 W8 A8_b1 => ?_
        change zLst Z h8 b1 .byte [(.int vy), (.int vz), (.int 0), (.int 0), (.int 0), (.int 0), (.int 0), (.int 0), (.int 0), (.int 0), (.int 0), (.int 0), (.int 0), (.int 0), (.int 0), (.int 0), (.int 0), (.int 0), (.int 0), (.int 0)] at A8_b1
        have O8 := O7.wr W8 g1
        have N8 := Fr.snoc X8 N7 g1
        refine zaload X8 hx hby at_274 rfl rfl (ziload X8 hx hby at_276 rfl (ziload X8 hx hby at_278 rfl (zcalls X8 hx hby at_280 hZ hown (w6 hw) (w7 hw) (w8 hw) (w9 hw) e8 (c1_firstCharacter l hw [] ⟨S_w_arr0, A_w_arr0, Al_w_arr0⟩ O8 (zsz O8) b1 vy vz g1 A8_b1) hml 0 pd_0 (argsL := [(.ref b1), (.int 0), (.int 0)]) (st := []) (zpureK ⟨rfl, rfl⟩ fun T9 X9 e9 => ?_))))
        show zEnds p e below s T9 (mkF m 283 #[iv p1, iv p2, iv p3, iv p4, rv b1, iv 0, iv 0, iv 0, iv 0, iv 0, iv vc, iv 0] [(.int 0)]) _ _ _
        refine ziload X9 hx hby at_283 rfl (zicmpNo X9 hx hby at_285 (by decide) (ziconst X9 hx hby at_288 (z := (1 : Int32)) rfl (zgoto X9 hx hby at_289 293 (by decide) (by decide) ?_)))
        show zEnds p e below s T9 (mkF m 293 #[iv p1, iv p2, iv p3, iv p4, rv b1, iv 0, iv 0, iv 0, iv 0, iv 0, iv vc, iv 0] [(.int 1)]) _ _ _
        exact zretZ X9 hx hby at_293 hret hlk (by simp) rfl (by decide) (by decide) ⟨rfl, N8⟩
      · rw [q6]
        refine zistore X3 hx hby at_108 (L' := #[iv p1, iv p2, iv p3, iv p4, rv b1, iv 0, iv 0, iv 0, iv 0, iv 1, .unset, .unset]) rfl (ziloadN X3 hx hby at_110 rfl (ziconst X3 hx hby at_111 (z := (2 : Int32)) rfl (ziushr X3 hx hby at_112 ((p2.toUInt32 >>> ((2 : Int32) &&& 31).toUInt32).toInt32) rfl (zbipush X3 hx hby at_113 (z := (127 : Int32)) rfl (ziand X3 hx hby at_115 (((p2.toUInt32 >>> ((2 : Int32) &&& 31).toUInt32).toInt32) &&& (127 : Int32)) rfl ?_)))))
        show zEnds p e below s T3 (mkF m 116 #[iv p1, iv p2, iv p3, iv p4, rv b1, iv 0, iv 0, iv 0, iv 0, iv 1, .unset, .unset] [(.int (((p2.toUInt32 >>> ((2 : Int32) &&& 31).toUInt32).toInt32) &&& (127 : Int32)))]) _ _ _
        generalize e_vc : (((p2.toUInt32 >>> ((2 : Int32) &&& 31).toUInt32).toInt32) &&& (127 : Int32)) = vc
        have kc : 0 ≤ vc.toInt ∧ vc.toInt ≤ 127 := by rw [← e_vc]; exact own_c _
        refine zistore X3 hx hby at_116 (L' := #[iv p1, iv p2, iv p3, iv p4, rv b1, iv 0, iv 0, iv 0, iv 0, iv 1, iv vc, .unset]) rfl (ziload X3 hx hby at_118 rfl (ziconst X3 hx hby at_120 (z := (1 : Int32)) rfl (zicmpYes X3 hx hby at_121 130 (by decide) (by decide) (by decide) (ziload X3 hx hby at_130 rfl (zbipush X3 hx hby at_132 (z := (27 : Int32)) rfl ?_)))))
        show zEnds p e below s T3 (mkF m 134 #[iv p1, iv p2, iv p3, iv p4, rv b1, iv 0, iv 0, iv 0, iv 0, iv 1, iv vc, .unset] [(.int 27), (.int vc)]) _ _ _
        by_cases hc27 : vc = (27 : Int32)
        · show zEnds p e below s T3 (mkF m 134 #[iv p1, iv p2, iv p3, iv p4, rv b1, iv 0, iv 0, iv 0, iv 0, iv 1, iv vc, .unset] [(.int 27), (.int vc)]) _ _ _
          refine zicmpNo X3 hx hby at_134 (teq hc27).2 (ziconst X3 hx hby at_137 (z := (0 : Int32)) rfl (zistore X3 hx hby at_138 (L' := #[iv p1, iv p2, iv p3, iv p4, rv b1, iv 0, iv 0, iv 0, iv 0, iv 0, iv vc, .unset]) rfl (ziload X3 hx hby at_140 rfl (ziconst X3 hx hby at_142 (z := (1 : Int32)) rfl (zicmpYes X3 hx hby at_143 163 (by decide) (by decide) (by decide) (ziload X3 hx hby at_163 rfl (ziconst X3 hx hby at_165 (z := (2 : Int32)) rfl (zicmpYes X3 hx hby at_166 220 (by decide) (by decide) (by decide) (ziload X3 hx hby at_220 rfl ?_)))))))))
          show zEnds p e below s T3 (mkF m 222 #[iv p1, iv p2, iv p3, iv p4, rv b1, iv 0, iv 0, iv 0, iv 0, iv 0, iv vc, .unset] [(.int 0)]) _ _ _
          refine ziconst X3 hx hby at_222 (z := (3 : Int32)) rfl (zicmpYes X3 hx hby at_223 251 (by decide) (by decide) (by decide) (ziload X3 hx hby at_251 rfl (zistore X3 hx hby at_253 (L' := #[iv p1, iv p2, iv p3, iv p4, rv b1, iv 0, iv 0, iv 0, iv 0, iv 0, iv vc, iv 0]) rfl (zaload X3 hx hby at_255 rfl rfl (ziload X3 hx hby at_257 rfl (ziloadN X3 hx hby at_259 rfl (zi2b X3 hx hby at_260 (p4.toInt8.toInt32) rfl ?_)))))))
          show zEnds p e below s T3 (mkF m 261 #[iv p1, iv p2, iv p3, iv p4, rv b1, iv 0, iv 0, iv 0, iv 0, iv 0, iv vc, iv 0] [(.int (p4.toInt8.toInt32)), (.int 0), (.ref b1)]) _ _ _
          generalize e_vy : (p4.toInt8.toInt32) = vy
          have hn_vy : nar .byte vy = vy := by rw [← e_vy]; exact own_nar8 _
          refine zbastore X3 hx hby at_261 hZ e3 A3_b1 (by decide) (by show Int32.toNatClampNeg 0 < 20; decide) vy hn_vy fun T10 h10 X10 e10 W10 A10_b1 => ?_
          change zLst Z h10 b1 .byte [(.int vy), (.int vb), (.int 0), (.int 0), (.int 0), (.int 0), (.int 0), (.int 0), (.int 0), (.int 0), (.int 0), (.int 0), (.int 0), (.int 0), (.int 0), (.int 0), (.int 0), (.int 0), (.int 0), (.int 0)] at A10_b1
          have O10 := O3.wr W10 g1
          have N10 := Fr.snoc X10 N3 g1
          refine zaload X10 hx hby at_262 rfl rfl (ziload X10 hx hby at_264 rfl (ziconst X10 hx hby at_266 (z := (1 : Int32)) rfl (ziadd X10 hx hby at_267 (1 : Int32) (by decide) (ziloadN X10 hx hby at_268 rfl (zbipush X10 hx hby at_269 (z := (8 : Int32)) rfl (ziushr X10 hx hby at_271 ((p4.toUInt32 >>> ((8 : Int32) &&& 31).toUInt32).toInt32) rfl (zi2b X10 hx hby at_272 (((p4.toUInt32 >>> ((8 : Int32) &&& 31).toUInt32).toInt32).toInt8.toInt32) rfl ?_)))))))
          show zEnds p e below s T10 (mkF m 273 #[iv p1, iv p2, iv p3, iv p4, rv b1, iv 0, iv 0, iv 0, iv 0, iv 0, iv vc, iv 0] [(.int (((p4.toUInt32 >>> ((8 : Int32) &&& 31).toUInt32).toInt32).toInt8.toInt32)), (.int 1), (.ref b1)]) _ _ _
          generalize e_vz : (((p4.toUInt32 >>> ((8 : Int32) &&& 31).toUInt32).toInt32).toInt8.toInt32) = vz
          have hn_vz : nar .byte vz = vz := by rw [← e_vz]; exact own_nar8 _
          refine zbastore X10 hx hby at_273 hZ e10 A10_b1 (by decide) (by show Int32.toNatClampNeg 1 < 20; decide) vz hn_vz fun T11 h11 X11 e11 W11 A11_b1 => ?_
          change zLst Z h11 b1 .byte [(.int vy), (.int vz), (.int 0), (.int 0), (.int 0), (.int 0), (.int 0), (.int 0), (.int 0), (.int 0), (.int 0), (.int 0), (.int 0), (.int 0), (.int 0), (.int 0), (.int 0), (.int 0), (.int 0), (.int 0)] at A11_b1
          have O11 := O10.wr W11 g1
          have N11 := Fr.snoc X11 N10 g1
          refine zaload X11 hx hby at_274 rfl rfl (ziload X11 hx hby at_276 rfl (ziload X11 hx hby at_278 rfl (zcalls X11 hx hby at_280 hZ hown (w6 hw) (w7 hw) (w8 hw) (w9 hw) e11 (c1_firstCharacter l hw [] ⟨S_w_arr0, A_w_arr0, Al_w_arr0⟩ O11 (zsz O11) b1 vy vz g1 A11_b1) hml 0 pd_0 (argsL := [(.ref b1), (.int 0), (.int 0)]) (st := []) (zpureK ⟨rfl, rfl⟩ fun T12 X12 e12 => ?_))))
          show zEnds p e below s T12 (mkF m 283 #[iv p1, iv p2, iv p3, iv p4, rv b1, iv 0, iv 0, iv 0, iv 0, iv 0, iv vc, iv 0] [(.int 0)]) _ _ _
          refine ziload X12 hx hby at_283 rfl (zicmpNo X12 hx hby at_285 (by decide) (ziconst X12 hx hby at_288 (z := (1 : Int32)) rfl (zgoto X12 hx hby at_289 293 (by decide) (by decide) ?_)))
          show zEnds p e below s T12 (mkF m 293 #[iv p1, iv p2, iv p3, iv p4, rv b1, iv 0, iv 0, iv 0, iv 0, iv 0, iv vc, iv 0] [(.int 1)]) _ _ _
          exact zretZ X12 hx hby at_293 hret hlk (by simp) rfl (by decide) (by decide) ⟨rfl, N11⟩
        · show zEnds p e below s T3 (mkF m 134 #[iv p1, iv p2, iv p3, iv p4, rv b1, iv 0, iv 0, iv 0, iv 0, iv 1, iv vc, .unset] [(.int 27), (.int vc)]) _ _ _
          refine zicmpYes X3 hx hby at_134 140 (feq hc27).2 (by decide) (by decide) (ziload X3 hx hby at_140 rfl (ziconst X3 hx hby at_142 (z := (1 : Int32)) rfl (zicmpNo X3 hx hby at_143 (by decide) (zaload X3 hx hby at_146 rfl rfl (ziload X3 hx hby at_148 rfl (ziload X3 hx hby at_150 rfl (zi2b X3 hx hby at_152 (vc.toInt8.toInt32) rfl ?_)))))))
          show zEnds p e below s T3 (mkF m 153 #[iv p1, iv p2, iv p3, iv p4, rv b1, iv 0, iv 0, iv 0, iv 0, iv 1, iv vc, .unset] [(.int (vc.toInt8.toInt32)), (.int 0), (.ref b1)]) _ _ _
          generalize e_vd : (vc.toInt8.toInt32) = vd
          have hn_vd : nar .byte vd = vd := by rw [← e_vd]; exact own_nar8 _
          have h27_vd : ¬ (vd = (27 : Int32)) := by rw [← e_vd]; exact own_27 kc hc27
          refine zbastore X3 hx hby at_153 hZ e3 A3_b1 (by decide) (by show Int32.toNatClampNeg 0 < 20; decide) vd hn_vd fun T13 h13 X13 e13 W13 A13_b1 => ?_
          change zLst Z h13 b1 .byte [(.int vd), (.int vb), (.int 0), (.int 0), (.int 0), (.int 0), (.int 0), (.int 0), (.int 0), (.int 0), (.int 0), (.int 0), (.int 0), (.int 0), (.int 0), (.int 0), (.int 0), (.int 0), (.int 0), (.int 0)] at A13_b1
          have O13 := O3.wr W13 g1
          have N13 := Fr.snoc X13 N3 g1
          refine ziload X13 hx hby at_154 rfl (ziconst X13 hx hby at_156 (z := (1 : Int32)) rfl (ziadd X13 hx hby at_157 (1 : Int32) (by decide) (zistore X13 hx hby at_158 (L' := #[iv p1, iv p2, iv p3, iv p4, rv b1, iv 0, iv 1, iv 0, iv 0, iv 1, iv vc, .unset]) rfl (zgoto X13 hx hby at_160 251 (by decide) (by decide) (ziload X13 hx hby at_251 rfl (zistore X13 hx hby at_253 (L' := #[iv p1, iv p2, iv p3, iv p4, rv b1, iv 0, iv 1, iv 0, iv 0, iv 1, iv vc, iv 1]) rfl (zaload X13 hx hby at_255 rfl rfl (ziload X13 hx hby at_257 rfl (ziloadN X13 hx hby at_259 rfl ?_)))))))))
          show zEnds p e below s T13 (mkF m 260 #[iv p1, iv p2, iv p3, iv p4, rv b1, iv 0, iv 1, iv 0, iv 0, iv 1, iv vc, iv 1] [(.int p4), (.int 1), (.ref b1)]) _ _ _
          refine zi2b X13 hx hby at_260 (p4.toInt8.toInt32) rfl ?_
          show zEnds p e below s T13 (mkF m 261 #[iv p1, iv p2, iv p3, iv p4, rv b1, iv 0, iv 1, iv 0, iv 0, iv 1, iv vc, iv 1] [(.int (p4.toInt8.toInt32)), (.int 1), (.ref b1)]) _ _ _
          generalize e_vy : (p4.toInt8.toInt32) = vy
          have hn_vy : nar .byte vy = vy := by rw [← e_vy]; exact own_nar8 _
          refine zbastore X13 hx hby at_261 hZ e13 A13_b1 (by decide) (by show Int32.toNatClampNeg 1 < 20; decide) vy hn_vy fun T14 h14 X14 e14 W14 A14_b1 => ?_
          change zLst Z h14 b1 .byte [(.int vd), (.int vy), (.int 0), (.int 0), (.int 0), (.int 0), (.int 0), (.int 0), (.int 0), (.int 0), (.int 0), (.int 0), (.int 0), (.int 0), (.int 0), (.int 0), (.int 0), (.int 0), (.int 0), (.int 0)] at A14_b1
          have O14 := O13.wr W14 g1
          have N14 := Fr.snoc X14 N13 g1
          refine zaload X14 hx hby at_262 rfl rfl (ziload X14 hx hby at_264 rfl (ziconst X14 hx hby at_266 (z := (1 : Int32)) rfl (ziadd X14 hx hby at_267 (2 : Int32) (by decide) (ziloadN X14 hx hby at_268 rfl (zbipush X14 hx hby at_269 (z := (8 : Int32)) rfl (ziushr X14 hx hby at_271 ((p4.toUInt32 >>> ((8 : Int32) &&& 31).toUInt32).toInt32) rfl (zi2b X14 hx hby at_272 (((p4.toUInt32 >>> ((8 : Int32) &&& 31).toUInt32).toInt32).toInt8.toInt32) rfl ?_)))))))
          show zEnds p e below s T14 (mkF m 273 #[iv p1, iv p2, iv p3, iv p4, rv b1, iv 0, iv 1, iv 0, iv 0, iv 1, iv vc, iv 1] [(.int (((p4.toUInt32 >>> ((8 : Int32) &&& 31).toUInt32).toInt32).toInt8.toInt32)), (.int 2), (.ref b1)]) _ _ _
          generalize e_vz : (((p4.toUInt32 >>> ((8 : Int32) &&& 31).toUInt32).toInt32).toInt8.toInt32) = vz
          have hn_vz : nar .byte vz = vz := by rw [← e_vz]; exact own_nar8 _
          refine zbastore X14 hx hby at_273 hZ e14 A14_b1 (by decide) (by show Int32.toNatClampNeg 2 < 20; decide) vz hn_vz fun T15 h15 X15 e15 W15 A15_b1 => ?_
          change zLst Z h15 b1 .byte [(.int vd), (.int vy), (.int vz), (.int 0), (.int 0), (.int 0), (.int 0), (.int 0), (.int 0), (.int 0), (.int 0), (.int 0), (.int 0), (.int 0), (.int 0), (.int 0), (.int 0), (.int 0), (.int 0), (.int 0)] at A15_b1
          have O15 := O14.wr W15 g1
          have N15 := Fr.snoc X15 N14 g1
          refine zaload X15 hx hby at_274 rfl rfl (ziload X15 hx hby at_276 rfl (ziload X15 hx hby at_278 rfl (zcalls X15 hx hby at_280 hZ hown (w6 hw) (w7 hw) (w8 hw) (w9 hw) e15 (c3_firstCharacter l hw [] ⟨S_w_arr0, A_w_arr0, Al_w_arr0⟩ O15 (zsz O15) b1 vd vy vz g1 A15_b1 h27_vd) hml 0 pd_0 (argsL := [(.ref b1), (.int 0), (.int 1)]) (st := []) (zpureK ⟨rfl, rfl⟩ fun T16 X16 e16 => ?_))))
          show zEnds p e below s T16 (mkF m 283 #[iv p1, iv p2, iv p3, iv p4, rv b1, iv 0, iv 1, iv 0, iv 0, iv 1, iv vc, iv 1] [(.int 0)]) _ _ _
          refine ziload X16 hx hby at_283 rfl (zicmpNo X16 hx hby at_285 (by decide) (ziconst X16 hx hby at_288 (z := (1 : Int32)) rfl (zgoto X16 hx hby at_289 293 (by decide) (by decide) ?_)))
          show zEnds p e below s T16 (mkF m 293 #[iv p1, iv p2, iv p3, iv p4, rv b1, iv 0, iv 1, iv 0, iv 0, iv 1, iv vc, iv 1] [(.int 1)]) _ _ _
          exact zretZ X16 hx hby at_293 hret hlk (by simp) rfl (by decide) (by decide) ⟨rfl, N15⟩
      · rw [q6]
        refine zistore X3 hx hby at_108 (L' := #[iv p1, iv p2, iv p3, iv p4, rv b1, iv 0, iv 0, iv 0, iv 0, iv 2, .unset, .unset]) rfl (ziloadN X3 hx hby at_110 rfl (ziconst X3 hx hby at_111 (z := (2 : Int32)) rfl (ziushr X3 hx hby at_112 ((p2.toUInt32 >>> ((2 : Int32) &&& 31).toUInt32).toInt32) rfl (zbipush X3 hx hby at_113 (z := (127 : Int32)) rfl (ziand X3 hx hby at_115 (((p2.toUInt32 >>> ((2 : Int32) &&& 31).toUInt32).toInt32) &&& (127 : Int32)) rfl ?_)))))
        show zEnds p e below s T3 (mkF m 116 #[iv p1, iv p2, iv p3, iv p4, rv b1, iv 0, iv 0, iv 0, iv 0, iv 2, .unset, .unset] [(.int (((p2.toUInt32 >>> ((2 : Int32) &&& 31).toUInt32).toInt32) &&& (127 : Int32)))]) _ _ _
        generalize e_vc : (((p2.toUInt32 >>> ((2 : Int32) &&& 31).toUInt32).toInt32) &&& (127 : Int32)) = vc
        have kc : 0 ≤ vc.toInt ∧ vc.toInt ≤ 127 := by rw [← e_vc]; exact own_c _
        refine zistore X3 hx hby at_116 (L' := #[iv p1, iv p2, iv p3, iv p4, rv b1, iv 0, iv 0, iv 0, iv 0, iv 2, iv vc, .unset]) rfl (ziload X3 hx hby at_118 rfl (ziconst X3 hx hby at_120 (z := (1 : Int32)) rfl (zicmpNo X3 hx hby at_121 (by decide) (ziload X3 hx hby at_124 rfl (ziconst X3 hx hby at_126 (z := (3 : Int32)) rfl (zicmpYes X3 hx hby at_127 140 (by decide) (by decide) (by decide) (ziload X3 hx hby at_140 rfl (ziconst X3 hx hby at_142 (z := (1 : Int32)) rfl (zicmpYes X3 hx hby at_143 163 (by decide) (by decide) (by decide) ?_)))))))))
        show zEnds p e below s T3 (mkF m 163 #[iv p1, iv p2, iv p3, iv p4, rv b1, iv 0, iv 0, iv 0, iv 0, iv 2, iv vc, .unset] []) _ _ _
        refine ziload X3 hx hby at_163 rfl (ziconst X3 hx hby at_165 (z := (2 : Int32)) rfl (zicmpNo X3 hx hby at_166 (by decide) (zaload X3 hx hby at_169 rfl rfl (ziload X3 hx hby at_171 rfl (zbipush X3 hx hby at_173 (z := (48 : Int32)) rfl (ziloadN X3 hx hby at_175 rfl (zbipush X3 hx hby at_176 (z := (9 : Int32)) rfl (ziushr X3 hx hby at_178 ((p2.toUInt32 >>> ((9 : Int32) &&& 31).toUInt32).toInt32) rfl (zsipush X3 hx hby at_179 (z := (255 : Int32)) rfl ?_)))))))))
        show zEnds p e below s T3 (mkF m 182 #[iv p1, iv p2, iv p3, iv p4, rv b1, iv 0, iv 0, iv 0, iv 0, iv 2, iv vc, .unset] [(.int 255), (.int ((p2.toUInt32 >>> ((9 : Int32) &&& 31).toUInt32).toInt32)), (.int 48), (.int 0), (.ref b1)]) _ _ _
        refine ziand X3 hx hby at_182 (((p2.toUInt32 >>> ((9 : Int32) &&& 31).toUInt32).toInt32) &&& (255 : Int32)) rfl (zbipush X3 hx hby at_183 (z := (31 : Int32)) rfl (zirem X3 hx hby at_185 ((((p2.toUInt32 >>> ((9 : Int32) &&& 31).toUInt32).toInt32) &&& (255 : Int32)) % (31 : Int32)) (by decide) rfl (ziadd X3 hx hby at_186 ((48 : Int32) + ((((p2.toUInt32 >>> ((9 : Int32) &&& 31).toUInt32).toInt32) &&& (255 : Int32)) % (31 : Int32))) rfl (zi2b X3 hx hby at_187 (((48 : Int32) + ((((p2.toUInt32 >>> ((9 : Int32) &&& 31).toUInt32).toInt32) &&& (255 : Int32)) % (31 : Int32))).toInt8.toInt32) rfl ?_))))
        show zEnds p e below s T3 (mkF m 188 #[iv p1, iv p2, iv p3, iv p4, rv b1, iv 0, iv 0, iv 0, iv 0, iv 2, iv vc, .unset] [(.int (((48 : Int32) + ((((p2.toUInt32 >>> ((9 : Int32) &&& 31).toUInt32).toInt32) &&& (255 : Int32)) % (31 : Int32))).toInt8.toInt32)), (.int 0), (.ref b1)]) _ _ _
        generalize e_ve : (((48 : Int32) + ((((p2.toUInt32 >>> ((9 : Int32) &&& 31).toUInt32).toInt32) &&& (255 : Int32)) % (31 : Int32))).toInt8.toInt32) = ve
        have hn_ve : nar .byte ve = ve := by rw [← e_ve]; exact own_nar8 _
        have h27_ve : ¬ (ve = (27 : Int32)) := by rw [← e_ve]; exact own_48 _
        refine zbastore X3 hx hby at_188 hZ e3 A3_b1 (by decide) (by show Int32.toNatClampNeg 0 < 20; decide) ve hn_ve fun T17 h17 X17 e17 W17 A17_b1 => ?_
        change zLst Z h17 b1 .byte [(.int ve), (.int vb), (.int 0), (.int 0), (.int 0), (.int 0), (.int 0), (.int 0), (.int 0), (.int 0), (.int 0), (.int 0), (.int 0), (.int 0), (.int 0), (.int 0), (.int 0), (.int 0), (.int 0), (.int 0)] at A17_b1
        have O17 := O3.wr W17 g1
        have N17 := Fr.snoc X17 N3 g1
        refine zaload X17 hx hby at_189 rfl rfl (ziload X17 hx hby at_191 rfl (ziconst X17 hx hby at_193 (z := (1 : Int32)) rfl (ziadd X17 hx hby at_194 (1 : Int32) (by decide) (zbipush X17 hx hby at_195 (z := (33 : Int32)) rfl (ziloadN X17 hx hby at_197 rfl (zbipush X17 hx hby at_198 (z := (17 : Int32)) rfl (ziushr X17 hx hby at_200 ((p2.toUInt32 >>> ((17 : Int32) &&& 31).toUInt32).toInt32) rfl (zsipush X17 hx hby at_201 (z := (255 : Int32)) rfl (ziand X17 hx hby at_204 (((p2.toUInt32 >>> ((17 : Int32) &&& 31).toUInt32).toInt32) &&& (255 : Int32)) rfl ?_)))))))))
        show zEnds p e below s T17 (mkF m 205 #[iv p1, iv p2, iv p3, iv p4, rv b1, iv 0, iv 0, iv 0, iv 0, iv 2, iv vc, .unset] [(.int (((p2.toUInt32 >>> ((17 : Int32) &&& 31).toUInt32).toInt32) &&& (255 : Int32))), (.int 33), (.int 1), (.ref b1)]) _ _ _
        refine zbipush X17 hx hby at_205 (z := (94 : Int32)) rfl (zirem X17 hx hby at_207 ((((p2.toUInt32 >>> ((17 : Int32) &&& 31).toUInt32).toInt32) &&& (255 : Int32)) % (94 : Int32)) (by decide) rfl (ziadd X17 hx hby at_208 ((33 : Int32) + ((((p2.toUInt32 >>> ((17 : Int32) &&& 31).toUInt32).toInt32) &&& (255 : Int32)) % (94 : Int32))) rfl (zi2b X17 hx hby at_209 (((33 : Int32) + ((((p2.toUInt32 >>> ((17 : Int32) &&& 31).toUInt32).toInt32) &&& (255 : Int32)) % (94 : Int32))).toInt8.toInt32) rfl ?_)))
        show zEnds p e below s T17 (mkF m 210 #[iv p1, iv p2, iv p3, iv p4, rv b1, iv 0, iv 0, iv 0, iv 0, iv 2, iv vc, .unset] [(.int (((33 : Int32) + ((((p2.toUInt32 >>> ((17 : Int32) &&& 31).toUInt32).toInt32) &&& (255 : Int32)) % (94 : Int32))).toInt8.toInt32)), (.int 1), (.ref b1)]) _ _ _
        generalize e_vf : (((33 : Int32) + ((((p2.toUInt32 >>> ((17 : Int32) &&& 31).toUInt32).toInt32) &&& (255 : Int32)) % (94 : Int32))).toInt8.toInt32) = vf
        have hn_vf : nar .byte vf = vf := by rw [← e_vf]; exact own_nar8 _
        refine zbastore X17 hx hby at_210 hZ e17 A17_b1 (by decide) (by show Int32.toNatClampNeg 1 < 20; decide) vf hn_vf fun T18 h18 X18 e18 W18 A18_b1 => ?_
        change zLst Z h18 b1 .byte [(.int ve), (.int vf), (.int 0), (.int 0), (.int 0), (.int 0), (.int 0), (.int 0), (.int 0), (.int 0), (.int 0), (.int 0), (.int 0), (.int 0), (.int 0), (.int 0), (.int 0), (.int 0), (.int 0), (.int 0)] at A18_b1
        have O18 := O17.wr W18 g1
        have N18 := Fr.snoc X18 N17 g1
        refine ziload X18 hx hby at_211 rfl (ziconst X18 hx hby at_213 (z := (2 : Int32)) rfl (ziadd X18 hx hby at_214 (2 : Int32) (by decide) (zistore X18 hx hby at_215 (L' := #[iv p1, iv p2, iv p3, iv p4, rv b1, iv 0, iv 2, iv 0, iv 0, iv 2, iv vc, .unset]) rfl (zgoto X18 hx hby at_217 251 (by decide) (by decide) (ziload X18 hx hby at_251 rfl (zistore X18 hx hby at_253 (L' := #[iv p1, iv p2, iv p3, iv p4, rv b1, iv 0, iv 2, iv 0, iv 0, iv 2, iv vc, iv 2]) rfl (zaload X18 hx hby at_255 rfl rfl (ziload X18 hx hby at_257 rfl (ziloadN X18 hx hby at_259 rfl ?_)))))))))
        show zEnds p e below s T18 (mkF m 260 #[iv p1, iv p2, iv p3, iv p4, rv b1, iv 0, iv 2, iv 0, iv 0, iv 2, iv vc, iv 2] [(.int p4), (.int 2), (.ref b1)]) _ _ _
        refine zi2b X18 hx hby at_260 (p4.toInt8.toInt32) rfl ?_
        show zEnds p e below s T18 (mkF m 261 #[iv p1, iv p2, iv p3, iv p4, rv b1, iv 0, iv 2, iv 0, iv 0, iv 2, iv vc, iv 2] [(.int (p4.toInt8.toInt32)), (.int 2), (.ref b1)]) _ _ _
        generalize e_vy : (p4.toInt8.toInt32) = vy
        have hn_vy : nar .byte vy = vy := by rw [← e_vy]; exact own_nar8 _
        refine zbastore X18 hx hby at_261 hZ e18 A18_b1 (by decide) (by show Int32.toNatClampNeg 2 < 20; decide) vy hn_vy fun T19 h19 X19 e19 W19 A19_b1 => ?_
        change zLst Z h19 b1 .byte [(.int ve), (.int vf), (.int vy), (.int 0), (.int 0), (.int 0), (.int 0), (.int 0), (.int 0), (.int 0), (.int 0), (.int 0), (.int 0), (.int 0), (.int 0), (.int 0), (.int 0), (.int 0), (.int 0), (.int 0)] at A19_b1
        have O19 := O18.wr W19 g1
        have N19 := Fr.snoc X19 N18 g1
        refine zaload X19 hx hby at_262 rfl rfl (ziload X19 hx hby at_264 rfl (ziconst X19 hx hby at_266 (z := (1 : Int32)) rfl (ziadd X19 hx hby at_267 (3 : Int32) (by decide) (ziloadN X19 hx hby at_268 rfl (zbipush X19 hx hby at_269 (z := (8 : Int32)) rfl (ziushr X19 hx hby at_271 ((p4.toUInt32 >>> ((8 : Int32) &&& 31).toUInt32).toInt32) rfl (zi2b X19 hx hby at_272 (((p4.toUInt32 >>> ((8 : Int32) &&& 31).toUInt32).toInt32).toInt8.toInt32) rfl ?_)))))))
        show zEnds p e below s T19 (mkF m 273 #[iv p1, iv p2, iv p3, iv p4, rv b1, iv 0, iv 2, iv 0, iv 0, iv 2, iv vc, iv 2] [(.int (((p4.toUInt32 >>> ((8 : Int32) &&& 31).toUInt32).toInt32).toInt8.toInt32)), (.int 3), (.ref b1)]) _ _ _
        generalize e_vz : (((p4.toUInt32 >>> ((8 : Int32) &&& 31).toUInt32).toInt32).toInt8.toInt32) = vz
        have hn_vz : nar .byte vz = vz := by rw [← e_vz]; exact own_nar8 _
        refine zbastore X19 hx hby at_273 hZ e19 A19_b1 (by decide) (by show Int32.toNatClampNeg 3 < 20; decide) vz hn_vz fun T20 h20 X20 e20 W20 A20_b1 => ?_
        change zLst Z h20 b1 .byte [(.int ve), (.int vf), (.int vy), (.int vz), (.int 0), (.int 0), (.int 0), (.int 0), (.int 0), (.int 0), (.int 0), (.int 0), (.int 0), (.int 0), (.int 0), (.int 0), (.int 0), (.int 0), (.int 0), (.int 0)] at A20_b1
        have O20 := O19.wr W20 g1
        have N20 := Fr.snoc X20 N19 g1
        refine zaload X20 hx hby at_274 rfl rfl (ziload X20 hx hby at_276 rfl (ziload X20 hx hby at_278 rfl (zcalls X20 hx hby at_280 hZ hown (w6 hw) (w7 hw) (w8 hw) (w9 hw) e20 (c5_firstCharacter l hw [] ⟨S_w_arr0, A_w_arr0, Al_w_arr0⟩ O20 (zsz O20) b1 ve vf vy vz g1 A20_b1 h27_ve) hml 0 pd_0 (argsL := [(.ref b1), (.int 0), (.int 2)]) (st := []) (zpureK ⟨rfl, rfl⟩ fun T21 X21 e21 => ?_))))
        show zEnds p e below s T21 (mkF m 283 #[iv p1, iv p2, iv p3, iv p4, rv b1, iv 0, iv 2, iv 0, iv 0, iv 2, iv vc, iv 2] [(.int 0)]) _ _ _
        refine ziload X21 hx hby at_283 rfl (zicmpNo X21 hx hby at_285 (by decide) (ziconst X21 hx hby at_288 (z := (1 : Int32)) rfl (zgoto X21 hx hby at_289 293 (by decide) (by decide) ?_)))
        show zEnds p e below s T21 (mkF m 293 #[iv p1, iv p2, iv p3, iv p4, rv b1, iv 0, iv 2, iv 0, iv 0, iv 2, iv vc, iv 2] [(.int 1)]) _ _ _
        exact zretZ X21 hx hby at_293 hret hlk (by simp) rfl (by decide) (by decide) ⟨rfl, N20⟩
      · rw [q6]
        refine zistore X3 hx hby at_108 (L' := #[iv p1, iv p2, iv p3, iv p4, rv b1, iv 0, iv 0, iv 0, iv 0, iv 3, .unset, .unset]) rfl (ziloadN X3 hx hby at_110 rfl (ziconst X3 hx hby at_111 (z := (2 : Int32)) rfl (ziushr X3 hx hby at_112 ((p2.toUInt32 >>> ((2 : Int32) &&& 31).toUInt32).toInt32) rfl (zbipush X3 hx hby at_113 (z := (127 : Int32)) rfl (ziand X3 hx hby at_115 (((p2.toUInt32 >>> ((2 : Int32) &&& 31).toUInt32).toInt32) &&& (127 : Int32)) rfl ?_)))))
        show zEnds p e below s T3 (mkF m 116 #[iv p1, iv p2, iv p3, iv p4, rv b1, iv 0, iv 0, iv 0, iv 0, iv 3, .unset, .unset] [(.int (((p2.toUInt32 >>> ((2 : Int32) &&& 31).toUInt32).toInt32) &&& (127 : Int32)))]) _ _ _
        generalize e_vc : (((p2.toUInt32 >>> ((2 : Int32) &&& 31).toUInt32).toInt32) &&& (127 : Int32)) = vc
        have kc : 0 ≤ vc.toInt ∧ vc.toInt ≤ 127 := by rw [← e_vc]; exact own_c _
        refine zistore X3 hx hby at_116 (L' := #[iv p1, iv p2, iv p3, iv p4, rv b1, iv 0, iv 0, iv 0, iv 0, iv 3, iv vc, .unset]) rfl (ziload X3 hx hby at_118 rfl (ziconst X3 hx hby at_120 (z := (1 : Int32)) rfl (zicmpNo X3 hx hby at_121 (by decide) (ziload X3 hx hby at_124 rfl (ziconst X3 hx hby at_126 (z := (3 : Int32)) rfl (zicmpNo X3 hx hby at_127 (by decide) (ziload X3 hx hby at_130 rfl (zbipush X3 hx hby at_132 (z := (27 : Int32)) rfl ?_))))))))
        show zEnds p e below s T3 (mkF m 134 #[iv p1, iv p2, iv p3, iv p4, rv b1, iv 0, iv 0, iv 0, iv 0, iv 3, iv vc, .unset] [(.int 27), (.int vc)]) _ _ _
        by_cases hc27 : vc = (27 : Int32)
        · show zEnds p e below s T3 (mkF m 134 #[iv p1, iv p2, iv p3, iv p4, rv b1, iv 0, iv 0, iv 0, iv 0, iv 3, iv vc, .unset] [(.int 27), (.int vc)]) _ _ _
          refine zicmpNo X3 hx hby at_134 (teq hc27).2 (ziconst X3 hx hby at_137 (z := (0 : Int32)) rfl (zistore X3 hx hby at_138 (L' := #[iv p1, iv p2, iv p3, iv p4, rv b1, iv 0, iv 0, iv 0, iv 0, iv 0, iv vc, .unset]) rfl (ziload X3 hx hby at_140 rfl (ziconst X3 hx hby at_142 (z := (1 : Int32)) rfl (zicmpYes X3 hx hby at_143 163 (by decide) (by decide) (by decide) (ziload X3 hx hby at_163 rfl (ziconst X3 hx hby at_165 (z := (2 : Int32)) rfl (zicmpYes X3 hx hby at_166 220 (by decide) (by decide) (by decide) (ziload X3 hx hby at_220 rfl ?_)))))))))
          show zEnds p e below s T3 (mkF m 222 #[iv p1, iv p2, iv p3, iv p4, rv b1, iv 0, iv 0, iv 0, iv 0, iv 0, iv vc, .unset] [(.int 0)]) _ _ _
          refine ziconst X3 hx hby at_222 (z := (3 : Int32)) rfl (zicmpYes X3 hx hby at_223 251 (by decide) (by decide) (by decide) (ziload X3 hx hby at_251 rfl (zistore X3 hx hby at_253 (L' := #[iv p1, iv p2, iv p3, iv p4, rv b1, iv 0, iv 0, iv 0, iv 0, iv 0, iv vc, iv 0]) rfl (zaload X3 hx hby at_255 rfl rfl (ziload X3 hx hby at_257 rfl (ziloadN X3 hx hby at_259 rfl (zi2b X3 hx hby at_260 (p4.toInt8.toInt32) rfl ?_)))))))
          show zEnds p e below s T3 (mkF m 261 #[iv p1, iv p2, iv p3, iv p4, rv b1, iv 0, iv 0, iv 0, iv 0, iv 0, iv vc, iv 0] [(.int (p4.toInt8.toInt32)), (.int 0), (.ref b1)]) _ _ _
          generalize e_vy : (p4.toInt8.toInt32) = vy
          have hn_vy : nar .byte vy = vy := by rw [← e_vy]; exact own_nar8 _
          refine zbastore X3 hx hby at_261 hZ e3 A3_b1 (by decide) (by show Int32.toNatClampNeg 0 < 20; decide) vy hn_vy fun T22 h22 X22 e22 W22 A22_b1 => ?_
          change zLst Z h22 b1 .byte [(.int vy), (.int vb), (.int 0), (.int 0), (.int 0), (.int 0), (.int 0), (.int 0), (.int 0), (.int 0), (.int 0), (.int 0), (.int 0), (.int 0), (.int 0), (.int 0), (.int 0), (.int 0), (.int 0), (.int 0)] at A22_b1
          have O22 := O3.wr W22 g1
          have N22 := Fr.snoc X22 N3 g1
          refine zaload X22 hx hby at_262 rfl rfl (ziload X22 hx hby at_264 rfl (ziconst X22 hx hby at_266 (z := (1 : Int32)) rfl (ziadd X22 hx hby at_267 (1 : Int32) (by decide) (ziloadN X22 hx hby at_268 rfl (zbipush X22 hx hby at_269 (z := (8 : Int32)) rfl (ziushr X22 hx hby at_271 ((p4.toUInt32 >>> ((8 : Int32) &&& 31).toUInt32).toInt32) rfl (zi2b X22 hx hby at_272 (((p4.toUInt32 >>> ((8 : Int32) &&& 31).toUInt32).toInt32).toInt8.toInt32) rfl ?_)))))))
          show zEnds p e below s T22 (mkF m 273 #[iv p1, iv p2, iv p3, iv p4, rv b1, iv 0, iv 0, iv 0, iv 0, iv 0, iv vc, iv 0] [(.int (((p4.toUInt32 >>> ((8 : Int32) &&& 31).toUInt32).toInt32).toInt8.toInt32)), (.int 1), (.ref b1)]) _ _ _
          generalize e_vz : (((p4.toUInt32 >>> ((8 : Int32) &&& 31).toUInt32).toInt32).toInt8.toInt32) = vz
          have hn_vz : nar .byte vz = vz := by rw [← e_vz]; exact own_nar8 _
          refine zbastore X22 hx hby at_273 hZ e22 A22_b1 (by decide) (by show Int32.toNatClampNeg 1 < 20; decide) vz hn_vz fun T23 h23 X23 e23 W23 A23_b1 => ?_
          change zLst Z h23 b1 .byte [(.int vy), (.int vz), (.int 0), (.int 0), (.int 0), (.int 0), (.int 0), (.int 0), (.int 0), (.int 0), (.int 0), (.int 0), (.int 0), (.int 0), (.int 0), (.int 0), (.int 0), (.int 0), (.int 0), (.int 0)] at A23_b1
          have O23 := O22.wr W23 g1
          have N23 := Fr.snoc X23 N22 g1
          refine zaload X23 hx hby at_274 rfl rfl (ziload X23 hx hby at_276 rfl (ziload X23 hx hby at_278 rfl (zcalls X23 hx hby at_280 hZ hown (w6 hw) (w7 hw) (w8 hw) (w9 hw) e23 (c1_firstCharacter l hw [] ⟨S_w_arr0, A_w_arr0, Al_w_arr0⟩ O23 (zsz O23) b1 vy vz g1 A23_b1) hml 0 pd_0 (argsL := [(.ref b1), (.int 0), (.int 0)]) (st := []) (zpureK ⟨rfl, rfl⟩ fun T24 X24 e24 => ?_))))
          show zEnds p e below s T24 (mkF m 283 #[iv p1, iv p2, iv p3, iv p4, rv b1, iv 0, iv 0, iv 0, iv 0, iv 0, iv vc, iv 0] [(.int 0)]) _ _ _
          refine ziload X24 hx hby at_283 rfl (zicmpNo X24 hx hby at_285 (by decide) (ziconst X24 hx hby at_288 (z := (1 : Int32)) rfl (zgoto X24 hx hby at_289 293 (by decide) (by decide) ?_)))
          show zEnds p e below s T24 (mkF m 293 #[iv p1, iv p2, iv p3, iv p4, rv b1, iv 0, iv 0, iv 0, iv 0, iv 0, iv vc, iv 0] [(.int 1)]) _ _ _
          exact zretZ X24 hx hby at_293 hret hlk (by simp) rfl (by decide) (by decide) ⟨rfl, N23⟩
        · show zEnds p e below s T3 (mkF m 134 #[iv p1, iv p2, iv p3, iv p4, rv b1, iv 0, iv 0, iv 0, iv 0, iv 3, iv vc, .unset] [(.int 27), (.int vc)]) _ _ _
          refine zicmpYes X3 hx hby at_134 140 (feq hc27).2 (by decide) (by decide) (ziload X3 hx hby at_140 rfl (ziconst X3 hx hby at_142 (z := (1 : Int32)) rfl (zicmpYes X3 hx hby at_143 163 (by decide) (by decide) (by decide) (ziload X3 hx hby at_163 rfl (ziconst X3 hx hby at_165 (z := (2 : Int32)) rfl (zicmpYes X3 hx hby at_166 220 (by decide) (by decide) (by decide) (ziload X3 hx hby at_220 rfl (ziconst X3 hx hby at_222 (z := (3 : Int32)) rfl (zicmpNo X3 hx hby at_223 (by decide) ?_)))))))))
          show zEnds p e below s T3 (mkF m 226 #[iv p1, iv p2, iv p3, iv p4, rv b1, iv 0, iv 0, iv 0, iv 0, iv 3, iv vc, .unset] []) _ _ _
          refine zaload X3 hx hby at_226 rfl rfl (ziload X3 hx hby at_228 rfl (ziload X3 hx hby at_230 rfl (zi2b X3 hx hby at_232 (vc.toInt8.toInt32) rfl ?_)))
          show zEnds p e below s T3 (mkF m 233 #[iv p1, iv p2, iv p3, iv p4, rv b1, iv 0, iv 0, iv 0, iv 0, iv 3, iv vc, .unset] [(.int (vc.toInt8.toInt32)), (.int 0), (.ref b1)]) _ _ _
          generalize e_vg : (vc.toInt8.toInt32) = vg
          have hn_vg : nar .byte vg = vg := by rw [← e_vg]; exact own_nar8 _
          have h27_vg : ¬ (vg = (27 : Int32)) := by rw [← e_vg]; exact own_27 kc hc27
          refine zbastore X3 hx hby at_233 hZ e3 A3_b1 (by decide) (by show Int32.toNatClampNeg 0 < 20; decide) vg hn_vg fun T25 h25 X25 e25 W25 A25_b1 => ?_
          change zLst Z h25 b1 .byte [(.int vg), (.int vb), (.int 0), (.int 0), (.int 0), (.int 0), (.int 0), (.int 0), (.int 0), (.int 0), (.int 0), (.int 0), (.int 0), (.int 0), (.int 0), (.int 0), (.int 0), (.int 0), (.int 0), (.int 0)] at A25_b1
          have O25 := O3.wr W25 g1
          have N25 := Fr.snoc X25 N3 g1
          refine zaload X25 hx hby at_234 rfl rfl (ziload X25 hx hby at_236 rfl (ziconst X25 hx hby at_238 (z := (1 : Int32)) rfl (ziadd X25 hx hby at_239 (1 : Int32) (by decide) (ziloadN X25 hx hby at_240 rfl (zbipush X25 hx hby at_241 (z := (9 : Int32)) rfl (ziushr X25 hx hby at_243 ((p2.toUInt32 >>> ((9 : Int32) &&& 31).toUInt32).toInt32) rfl (ziconst X25 hx hby at_244 (z := (3 : Int32)) rfl (ziand X25 hx hby at_245 (((p2.toUInt32 >>> ((9 : Int32) &&& 31).toUInt32).toInt32) &&& (3 : Int32)) rfl ?_))))))))
          show zEnds p e below s T25 (mkF m 246 #[iv p1, iv p2, iv p3, iv p4, rv b1, iv 0, iv 0, iv 0, iv 0, iv 3, iv vc, .unset] [(.int (((p2.toUInt32 >>> ((9 : Int32) &&& 31).toUInt32).toInt32) &&& (3 : Int32))), (.int 1), (.ref b1)]) _ _ _
          generalize e_vs4 : (((p2.toUInt32 >>> ((9 : Int32) &&& 31).toUInt32).toInt32) &&& (3 : Int32)) = vs4
          refine zcalls X25 hx hby at_246 hZ hown (w2 hw) (w3 hw) (w4 hw) (w5 hw) e25 (c7_esc l hw [] ⟨S_w_arr0, A_w_arr0, Al_w_arr0⟩ O25 (zsz O25) vs4 b1 vg vb (0 : Int32) (0 : Int32) (0 : Int32) (0 : Int32) (0 : Int32) (0 : Int32) (0 : Int32) (0 : Int32) (0 : Int32) (0 : Int32) (0 : Int32) (0 : Int32) (0 : Int32) (0 : Int32) (0 : Int32) (0 : Int32) (0 : Int32) (0 : Int32) g1 A25_b1 h27_vg) hml 0 pd_0 (argsL := [(.ref b1), (.int 1), (.int vs4)]) (st := []) fun T26 h26 v26 L26 e26 X26 q26 => ?_
          obtain ⟨rfl, N26q, K26q, A26_b1⟩ := q26
          have O26 := O25.keep K26q (allS g1 all0)
          have N26 := Fr.app N25 N26q
          show zEnds p e below s T26 (mkF m 249 #[iv p1, iv p2, iv p3, iv p4, rv b1, iv 0, iv 0, iv 0, iv 0, iv 3, iv vc, .unset] [(.int 4)]) _ _ _
          refine zistore X26 hx hby at_249 (L' := #[iv p1, iv p2, iv p3, iv p4, rv b1, iv 0, iv 4, iv 0, iv 0, iv 3, iv vc, .unset]) rfl (ziload X26 hx hby at_251 rfl (zistore X26 hx hby at_253 (L' := #[iv p1, iv p2, iv p3, iv p4, rv b1, iv 0, iv 4, iv 0, iv 0, iv 3, iv vc, iv 4]) rfl (zaload X26 hx hby at_255 rfl rfl (ziload X26 hx hby at_257 rfl (ziloadN X26 hx hby at_259 rfl (zi2b X26 hx hby at_260 (p4.toInt8.toInt32) rfl ?_))))))
          show zEnds p e below s T26 (mkF m 261 #[iv p1, iv p2, iv p3, iv p4, rv b1, iv 0, iv 4, iv 0, iv 0, iv 3, iv vc, iv 4] [(.int (p4.toInt8.toInt32)), (.int 4), (.ref b1)]) _ _ _
          generalize e_vy : (p4.toInt8.toInt32) = vy
          have hn_vy : nar .byte vy = vy := by rw [← e_vy]; exact own_nar8 _
          refine zbastore X26 hx hby at_261 hZ e26 A26_b1 (by decide) (by show Int32.toNatClampNeg 4 < 20; decide) vy hn_vy fun T27 h27 X27 e27 W27 A27_b1 => ?_
          change zLst Z h27 b1 .byte [(.int vg), (.int 27), (.int ((e1v vs4).toInt8.toInt32)), (.int ((e2v vs4).toInt8.toInt32)), (.int vy), (.int 0), (.int 0), (.int 0), (.int 0), (.int 0), (.int 0), (.int 0), (.int 0), (.int 0), (.int 0), (.int 0), (.int 0), (.int 0), (.int 0), (.int 0)] at A27_b1
          have O27 := O26.wr W27 g1
          have N27 := Fr.snoc X27 N26 g1
          refine zaload X27 hx hby at_262 rfl rfl (ziload X27 hx hby at_264 rfl (ziconst X27 hx hby at_266 (z := (1 : Int32)) rfl (ziadd X27 hx hby at_267 (5 : Int32) (by decide) (ziloadN X27 hx hby at_268 rfl (zbipush X27 hx hby at_269 (z := (8 : Int32)) rfl (ziushr X27 hx hby at_271 ((p4.toUInt32 >>> ((8 : Int32) &&& 31).toUInt32).toInt32) rfl (zi2b X27 hx hby at_272 (((p4.toUInt32 >>> ((8 : Int32) &&& 31).toUInt32).toInt32).toInt8.toInt32) rfl ?_)))))))
          show zEnds p e below s T27 (mkF m 273 #[iv p1, iv p2, iv p3, iv p4, rv b1, iv 0, iv 4, iv 0, iv 0, iv 3, iv vc, iv 4] [(.int (((p4.toUInt32 >>> ((8 : Int32) &&& 31).toUInt32).toInt32).toInt8.toInt32)), (.int 5), (.ref b1)]) _ _ _
          generalize e_vz : (((p4.toUInt32 >>> ((8 : Int32) &&& 31).toUInt32).toInt32).toInt8.toInt32) = vz
          have hn_vz : nar .byte vz = vz := by rw [← e_vz]; exact own_nar8 _
          refine zbastore X27 hx hby at_273 hZ e27 A27_b1 (by decide) (by show Int32.toNatClampNeg 5 < 20; decide) vz hn_vz fun T28 h28 X28 e28 W28 A28_b1 => ?_
          change zLst Z h28 b1 .byte [(.int vg), (.int 27), (.int ((e1v vs4).toInt8.toInt32)), (.int ((e2v vs4).toInt8.toInt32)), (.int vy), (.int vz), (.int 0), (.int 0), (.int 0), (.int 0), (.int 0), (.int 0), (.int 0), (.int 0), (.int 0), (.int 0), (.int 0), (.int 0), (.int 0), (.int 0)] at A28_b1
          have O28 := O27.wr W28 g1
          have N28 := Fr.snoc X28 N27 g1
          refine zaload X28 hx hby at_274 rfl rfl (ziload X28 hx hby at_276 rfl (ziload X28 hx hby at_278 rfl (zcalls X28 hx hby at_280 hZ hown (w6 hw) (w7 hw) (w8 hw) (w9 hw) e28 (c9_firstCharacter l hw [] ⟨S_w_arr0, A_w_arr0, Al_w_arr0⟩ O28 (zsz O28) b1 vg ((e1v vs4).toInt8.toInt32) ((e2v vs4).toInt8.toInt32) vy vz g1 A28_b1 h27_vg) hml 0 pd_0 (argsL := [(.ref b1), (.int 0), (.int 4)]) (st := []) (zpureK ⟨rfl, rfl⟩ fun T29 X29 e29 => ?_))))
          show zEnds p e below s T29 (mkF m 283 #[iv p1, iv p2, iv p3, iv p4, rv b1, iv 0, iv 4, iv 0, iv 0, iv 3, iv vc, iv 4] [(.int 0)]) _ _ _
          refine ziload X29 hx hby at_283 rfl (zicmpNo X29 hx hby at_285 (by decide) (ziconst X29 hx hby at_288 (z := (1 : Int32)) rfl (zgoto X29 hx hby at_289 293 (by decide) (by decide) ?_)))
          show zEnds p e below s T29 (mkF m 293 #[iv p1, iv p2, iv p3, iv p4, rv b1, iv 0, iv 4, iv 0, iv 0, iv 3, iv vc, iv 4] [(.int 1)]) _ _ _
          exact zretZ X29 hx hby at_293 hret hlk (by simp) rfl (by decide) (by decide) ⟨rfl, N28⟩
    · rw [q5]
      refine zistore X3 hx hby at_39 (L' := #[iv p1, iv p2, iv p3, iv p4, rv b1, iv 0, iv 0, iv 1, .unset, .unset, .unset, .unset]) rfl (ziload X3 hx hby at_41 rfl (zifNo X3 hx hby at_43 (by decide) (zaload X3 hx hby at_46 rfl rfl (ziload X3 hx hby at_48 rfl (ziloadN X3 hx hby at_50 rfl (ziconst X3 hx hby at_51 (z := (2 : Int32)) rfl (ziushr X3 hx hby at_52 ((p1.toUInt32 >>> ((2 : Int32) &&& 31).toUInt32).toInt32) rfl (ziconst X3 hx hby at_53 (z := (3 : Int32)) rfl (ziand X3 hx hby at_54 (((p1.toUInt32 >>> ((2 : Int32) &&& 31).toUInt32).toInt32) &&& (3 : Int32)) rfl ?_)))))))))
      show zEnds p e below s T3 (mkF m 55 #[iv p1, iv p2, iv p3, iv p4, rv b1, iv 0, iv 0, iv 1, .unset, .unset, .unset, .unset] [(.int (((p1.toUInt32 >>> ((2 : Int32) &&& 31).toUInt32).toInt32) &&& (3 : Int32))), (.int 0), (.ref b1)]) _ _ _
      generalize e_vs1 : (((p1.toUInt32 >>> ((2 : Int32) &&& 31).toUInt32).toInt32) &&& (3 : Int32)) = vs1
      refine zcalls X3 hx hby at_55 hZ hown (w2 hw) (w3 hw) (w4 hw) (w5 hw) e3 (c11_esc l hw [] ⟨S_w_arr0, A_w_arr0, Al_w_arr0⟩ O3 (zsz O3) vs1 b1 va vb (0 : Int32) (0 : Int32) (0 : Int32) (0 : Int32) (0 : Int32) (0 : Int32) (0 : Int32) (0 : Int32) (0 : Int32) (0 : Int32) (0 : Int32) (0 : Int32) (0 : Int32) (0 : Int32) (0 : Int32) (0 : Int32) (0 : Int32) (0 : Int32) g1 A3_b1) hml 0 pd_0 (argsL := [(.ref b1), (.int 0), (.int vs1)]) (st := []) fun T30 h30 v30 L30 e30 X30 q30 => ?_
      obtain ⟨rfl, N30q, K30q, A30_b1⟩ := q30
      have O30 := O3.keep K30q (allS g1 all0)
      have N30 := Fr.app N3 N30q
      show zEnds p e below s T30 (mkF m 58 #[iv p1, iv p2, iv p3, iv p4, rv b1, iv 0, iv 0, iv 1, .unset, .unset, .unset, .unset] [(.int 3)]) _ _ _
      refine zistore X30 hx hby at_58 (L' := #[iv p1, iv p2, iv p3, iv p4, rv b1, iv 0, iv 3, iv 1, .unset, .unset, .unset, .unset]) rfl (ziload X30 hx hby at_60 rfl (ziconst X30 hx hby at_62 (z := (1 : Int32)) rfl (zicmpYes X30 hx hby at_63 80 (by decide) (by decide) (by decide) (ziload X30 hx hby at_80 rfl (ziconst X30 hx hby at_82 (z := (2 : Int32)) rfl (zicmpYes X30 hx hby at_83 101 (by decide) (by decide) (by decide) (ziload X30 hx hby at_101 rfl (zistore X30 hx hby at_103 (L' := #[iv p1, iv p2, iv p3, iv p4, rv b1, iv 0, iv 3, iv 1, iv 3, .unset, .unset, .unset]) rfl (ziloadN X30 hx hby at_105 rfl ?_)))))))))
      show zEnds p e below s T30 (mkF m 106 #[iv p1, iv p2, iv p3, iv p4, rv b1, iv 0, iv 3, iv 1, iv 3, .unset, .unset, .unset] [(.int p2)]) _ _ _
      refine ziconst X30 hx hby at_106 (z := (3 : Int32)) rfl (ziand X30 hx hby at_107 (p2 &&& (3 : Int32)) rfl ?_)
      show zEnds p e below s T30 (mkF m 108 #[iv p1, iv p2, iv p3, iv p4, rv b1, iv 0, iv 3, iv 1, iv 3, .unset, .unset, .unset] [(.int (p2 &&& (3 : Int32)))]) _ _ _
      rcases (and_3 p2) with q31 | q31 | q31 | q31
      · rw [q31]
        refine zistore X30 hx hby at_108 (L' := #[iv p1, iv p2, iv p3, iv p4, rv b1, iv 0, iv 3, iv 1, iv 3, iv 0, .unset, .unset]) rfl (ziloadN X30 hx hby at_110 rfl (ziconst X30 hx hby at_111 (z := (2 : Int32)) rfl (ziushr X30 hx hby at_112 ((p2.toUInt32 >>> ((2 : Int32) &&& 31).toUInt32).toInt32) rfl (zbipush X30 hx hby at_113 (z := (127 : Int32)) rfl (ziand X30 hx hby at_115 (((p2.toUInt32 >>> ((2 : Int32) &&& 31).toUInt32).toInt32) &&& (127 : Int32)) rfl ?_)))))
        show zEnds p e below s T30 (mkF m 116 #[iv p1, iv p2, iv p3, iv p4, rv b1, iv 0, iv 3, iv 1, iv 3, iv 0, .unset, .unset] [(.int (((p2.toUInt32 >>> ((2 : Int32) &&& 31).toUInt32).toInt32) &&& (127 : Int32)))]) _ _ _
        generalize e_vc : (((p2.toUInt32 >>> ((2 : Int32) &&& 31).toUInt32).toInt32) &&& (127 : Int32)) = vc
        have kc : 0 ≤ vc.toInt ∧ vc.toInt ≤ 127 := by rw [← e_vc]; exact own_c _
        refine zistore X30 hx hby at_116 (L' := #[iv p1, iv p2, iv p3, iv p4, rv b1, iv 0, iv 3, iv 1, iv 3, iv 0, iv vc, .unset]) rfl (ziload X30 hx hby at_118 rfl (ziconst X30 hx hby at_120 (z := (1 : Int32)) rfl (zicmpNo X30 hx hby at_121 (by decide) (ziload X30 hx hby at_124 rfl (ziconst X30 hx hby at_126 (z := (3 : Int32)) rfl (zicmpYes X30 hx hby at_127 140 (by decide) (by decide) (by decide) (ziload X30 hx hby at_140 rfl (ziconst X30 hx hby at_142 (z := (1 : Int32)) rfl (zicmpYes X30 hx hby at_143 163 (by decide) (by decide) (by decide) ?_)))))))))
        show zEnds p e below s T30 (mkF m 163 #[iv p1, iv p2, iv p3, iv p4, rv b1, iv 0, iv 3, iv 1, iv 3, iv 0, iv vc, .unset] []) _ _ _
        refine ziload X30 hx hby at_163 rfl (ziconst X30 hx hby at_165 (z := (2 : Int32)) rfl (zicmpYes X30 hx hby at_166 220 (by decide) (by decide) (by decide) (ziload X30 hx hby at_220 rfl (ziconst X30 hx hby at_222 (z := (3 : Int32)) rfl (zicmpYes X30 hx hby at_223 251 (by decide) (by decide) (by decide) (ziload X30 hx hby at_251 rfl (zistore X30 hx hby at_253 (L' := #[iv p1, iv p2, iv p3, iv p4, rv b1, iv 0, iv 3, iv 1, iv 3, iv 0, iv vc, iv 3]) rfl (zaload X30 hx hby at_255 rfl rfl (ziload X30 hx hby at_257 rfl ?_)))))))))
        show zEnds p e below s T30 (mkF m 259 #[iv p1, iv p2, iv p3, iv p4, rv b1, iv 0, iv 3, iv 1, iv 3, iv 0, iv vc, iv 3] [(.int 3), (.ref b1)]) _ _ _
        refine ziloadN X30 hx hby at_259 rfl (zi2b X30 hx hby at_260 (p4.toInt8.toInt32) rfl ?_)
        show zEnds p e below s T30 (mkF m 261 #[iv p1, iv p2, iv p3, iv p4, rv b1, iv 0, iv 3, iv 1, iv 3, iv 0, iv vc, iv 3] [(.int (p4.toInt8.toInt32)), (.int 3), (.ref b1)]) _ _ _
        generalize e_vy : (p4.toInt8.toInt32) = vy
        have hn_vy : nar .byte vy = vy := by rw [← e_vy]; exact own_nar8 _
        refine zbastore X30 hx hby at_261 hZ e30 A30_b1 (by decide) (by show Int32.toNatClampNeg 3 < 20; decide) vy hn_vy fun T32 h32 X32 e32 W32 A32_b1 => ?_
        change zLst Z h32 b1 .byte [(.int 27), (.int ((e1v vs1).toInt8.toInt32)), (.int ((e2v vs1).toInt8.toInt32)), (.int vy), (.int 0), (.int 0), (.int 0), (.int 0), (.int 0), (.int 0), (.int 0), (.int 0), (.int 0), (.int 0), (.int 0), (.int 0), (.int 0), (.int 0), (.int 0), (.int 0)] at A32_b1
        have O32 := O30.wr W32 g1
        have N32 := Fr.snoc X32 N30 g1
        refine zaload X32 hx hby at_262 rfl rfl (ziload X32 hx hby at_264 rfl (ziconst X32 hx hby at_266 (z := (1 : Int32)) rfl (ziadd X32 hx hby at_267 (4 : Int32) (by decide) (ziloadN X32 hx hby at_268 rfl (zbipush X32 hx hby at_269 (z := (8 : Int32)) rfl (ziushr X32 hx hby at_271 ((p4.toUInt32 >>> ((8 : Int32) &&& 31).toUInt32).toInt32) rfl (zi2b X32 hx hby at_272 (((p4.toUInt32 >>> ((8 : Int32) &&& 31).toUInt32).toInt32).toInt8.toInt32) rfl ?_)))))))
        show zEnds p e below s T32 (mkF m 273 #[iv p1, iv p2, iv p3, iv p4, rv b1, iv 0, iv 3, iv 1, iv 3, iv 0, iv vc, iv 3] [(.int (((p4.toUInt32 >>> ((8 : Int32) &&& 31).toUInt32).toInt32).toInt8.toInt32)), (.int 4), (.ref b1)]) _ _ _
        generalize e_vz : (((p4.toUInt32 >>> ((8 : Int32) &&& 31).toUInt32).toInt32).toInt8.toInt32) = vz
        have hn_vz : nar .byte vz = vz := by rw [← e_vz]; exact own_nar8 _
        refine zbastore X32 hx hby at_273 hZ e32 A32_b1 (by decide) (by show Int32.toNatClampNeg 4 < 20; decide) vz hn_vz fun T33 h33 X33 e33 W33 A33_b1 => ?_
        change zLst Z h33 b1 .byte [(.int 27), (.int ((e1v vs1).toInt8.toInt32)), (.int ((e2v vs1).toInt8.toInt32)), (.int vy), (.int vz), (.int 0), (.int 0), (.int 0), (.int 0), (.int 0), (.int 0), (.int 0), (.int 0), (.int 0), (.int 0), (.int 0), (.int 0), (.int 0), (.int 0), (.int 0)] at A33_b1
        have O33 := O32.wr W33 g1
        have N33 := Fr.snoc X33 N32 g1
        refine zaload X33 hx hby at_274 rfl rfl (ziload X33 hx hby at_276 rfl (ziload X33 hx hby at_278 rfl (zcalls X33 hx hby at_280 hZ hown (w6 hw) (w7 hw) (w8 hw) (w9 hw) e33 (c13_firstCharacter l hw [] ⟨S_w_arr0, A_w_arr0, Al_w_arr0⟩ O33 (zsz O33) b1 ((e1v vs1).toInt8.toInt32) ((e2v vs1).toInt8.toInt32) vy vz g1 A33_b1) hml 0 pd_0 (argsL := [(.ref b1), (.int 0), (.int 3)]) (st := []) (zpureK ⟨rfl, rfl⟩ fun T34 X34 e34 => ?_))))
        show zEnds p e below s T34 (mkF m 283 #[iv p1, iv p2, iv p3, iv p4, rv b1, iv 0, iv 3, iv 1, iv 3, iv 0, iv vc, iv 3] [(.int 3)]) _ _ _
        refine ziload X34 hx hby at_283 rfl (zicmpNo X34 hx hby at_285 (by decide) (ziconst X34 hx hby at_288 (z := (1 : Int32)) rfl (zgoto X34 hx hby at_289 293 (by decide) (by decide) ?_)))
        show zEnds p e below s T34 (mkF m 293 #[iv p1, iv p2, iv p3, iv p4, rv b1, iv 0, iv 3, iv 1, iv 3, iv 0, iv vc, iv 3] [(.int 1)]) _ _ _
        exact zretZ X34 hx hby at_293 hret hlk (by simp) rfl (by decide) (by decide) ⟨rfl, N33⟩
      · rw [q31]
        refine zistore X30 hx hby at_108 (L' := #[iv p1, iv p2, iv p3, iv p4, rv b1, iv 0, iv 3, iv 1, iv 3, iv 1, .unset, .unset]) rfl (ziloadN X30 hx hby at_110 rfl (ziconst X30 hx hby at_111 (z := (2 : Int32)) rfl (ziushr X30 hx hby at_112 ((p2.toUInt32 >>> ((2 : Int32) &&& 31).toUInt32).toInt32) rfl (zbipush X30 hx hby at_113 (z := (127 : Int32)) rfl (ziand X30 hx hby at_115 (((p2.toUInt32 >>> ((2 : Int32) &&& 31).toUInt32).toInt32) &&& (127 : Int32)) rfl ?_)))))
        show zEnds p e below s T30 (mkF m 116 #[iv p1, iv p2, iv p3, iv p4, rv b1, iv 0, iv 3, iv 1, iv 3, iv 1, .unset, .unset] [(.int (((p2.toUInt32 >>> ((2 : Int32) &&& 31).toUInt32).toInt32) &&& (127 : Int32)))]) _ _ _
        generalize e_vc : (((p2.toUInt32 >>> ((2 : Int32) &&& 31).toUInt32).toInt32) &&& (127 : Int32)) = vc
        have kc : 0 ≤ vc.toInt ∧ vc.toInt ≤ 127 := by rw [← e_vc]; exact own_c _
        refine zistore X30 hx hby at_116 (L' := #[iv p1, iv p2, iv p3, iv p4, rv b1, iv 0, iv 3, iv 1, iv 3, iv 1, iv vc, .unset]) rfl (ziload X30 hx hby at_118 rfl (ziconst X30 hx hby at_120 (z := (1 : Int32)) rfl (zicmpYes X30 hx hby at_121 130 (by decide) (by decide) (by decide) (ziload X30 hx hby at_130 rfl (zbipush X30 hx hby at_132 (z := (27 : Int32)) rfl ?_)))))
        show zEnds p e below s T30 (mkF m 134 #[iv p1, iv p2, iv p3, iv p4, rv b1, iv 0, iv 3, iv 1, iv 3, iv 1, iv vc, .unset] [(.int 27), (.int vc)]) _ _ _
        by_cases hc27 : vc = (27 : Int32)
        · show zEnds p e below s T30 (mkF m 134 #[iv p1, iv p2, iv p3, iv p4, rv b1, iv 0, iv 3, iv 1, iv 3, iv 1, iv vc, .unset] [(.int 27), (.int vc)]) _ _ _
          refine zicmpNo X30 hx hby at_134 (teq hc27).2 (ziconst X30 hx hby at_137 (z := (0 : Int32)) rfl (zistore X30 hx hby at_138 (L' := #[iv p1, iv p2, iv p3, iv p4, rv b1, iv 0, iv 3, iv 1, iv 3, iv 0, iv vc, .unset]) rfl (ziload X30 hx hby at_140 rfl (ziconst X30 hx hby at_142 (z := (1 : Int32)) rfl (zicmpYes X30 hx hby at_143 163 (by decide) (by decide) (by decide) (ziload X30 hx hby at_163 rfl (ziconst X30 hx hby at_165 (z := (2 : Int32)) rfl (zicmpYes X30 hx hby at_166 220 (by decide) (by decide) (by decide) (ziload X30 hx hby at_220 rfl ?_)))))))))
          show zEnds p e below s T30 (mkF m 222 #[iv p1, iv p2, iv p3, iv p4, rv b1, iv 0, iv 3, iv 1, iv 3, iv 0, iv vc, .unset] [(.int 0)]) _ _ _
          refine ziconst X30 hx hby at_222 (z := (3 : Int32)) rfl (zicmpYes X30 hx hby at_223 251 (by decide) (by decide) (by decide) (ziload X30 hx hby at_251 rfl (zistore X30 hx hby at_253 (L' := #[iv p1, iv p2, iv p3, iv p4, rv b1, iv 0, iv 3, iv 1, iv 3, iv 0, iv vc, iv 3]) rfl (zaload X30 hx hby at_255 rfl rfl (ziload X30 hx hby at_257 rfl (ziloadN X30 hx hby at_259 rfl (zi2b X30 hx hby at_260 (p4.toInt8.toInt32) rfl ?_)))))))
          show zEnds p e below s T30 (mkF m 261 #[iv p1, iv p2, iv p3, iv p4, rv b1, iv 0, iv 3, iv 1, iv 3, iv 0, iv vc, iv 3] [(.int (p4.toInt8.toInt32)), (.int 3), (.ref b1)]) _ _ _
          generalize e_vy : (p4.toInt8.toInt32) = vy
          have hn_vy : nar .byte vy = vy := by rw [← e_vy]; exact own_nar8 _
          refine zbastore X30 hx hby at_261 hZ e30 A30_b1 (by decide) (by show Int32.toNatClampNeg 3 < 20; decide) vy hn_vy fun T35 h35 X35 e35 W35 A35_b1 => ?_
          change zLst Z h35 b1 .byte [(.int 27), (.int ((e1v vs1).toInt8.toInt32)), (.int ((e2v vs1).toInt8.toInt32)), (.int vy), (.int 0), (.int 0), (.int 0), (.int 0), (.int 0), (.int 0), (.int 0), (.int 0), (.int 0), (.int 0), (.int 0), (.int 0), (.int 0), (.int 0), (.int 0), (.int 0)] at A35_b1
          have O35 := O30.wr W35 g1
          have N35 := Fr.snoc X35 N30 g1
          refine zaload X35 hx hby at_262 rfl rfl (ziload X35 hx hby at_264 rfl (ziconst X35 hx hby at_266 (z := (1 : Int32)) rfl (ziadd X35 hx hby at_267 (4 : Int32) (by decide) (ziloadN X35 hx hby at_268 rfl (zbipush X35 hx hby at_269 (z := (8 : Int32)) rfl (ziushr X35 hx hby at_271 ((p4.toUInt32 >>> ((8 : Int32) &&& 31).toUInt32).toInt32) rfl (zi2b X35 hx hby at_272 (((p4.toUInt32 >>> ((8 : Int32) &&& 31).toUInt32).toInt32).toInt8.toInt32) rfl ?_)))))))
          show zEnds p e below s T35 (mkF m 273 #[iv p1, iv p2, iv p3, iv p4, rv b1, iv 0, iv 3, iv 1, iv 3, iv 0, iv vc, iv 3] [(.int (((p4.toUInt32 >>> ((8 : Int32) &&& 31).toUInt32).toInt32).toInt8.toInt32)), (.int 4), (.ref b1)]) _ _ _
          generalize e_vz : (((p4.toUInt32 >>> ((8 : Int32) &&& 31).toUInt32).toInt32).toInt8.toInt32) = vz
          have hn_vz : nar .byte vz = vz := by rw [← e_vz]; exact own_nar8 _
          refine zbastore X35 hx hby at_273 hZ e35 A35_b1 (by decide) (by show Int32.toNatClampNeg 4 < 20; decide) vz hn_vz fun T36 h36 X36 e36 W36 A36_b1 => ?_
          change zLst Z h36 b1 .byte [(.int 27), (.int ((e1v vs1).toInt8.toInt32)), (.int ((e2v vs1).toInt8.toInt32)), (.int vy), (.int vz), (.int 0), (.int 0), (.int 0), (.int 0), (.int 0), (.int 0), (.int 0), (.int 0), (.int 0), (.int 0), (.int 0), (.int 0), (.int 0), (.int 0), (.int 0)] at A36_b1
          have O36 := O35.wr W36 g1
          have N36 := Fr.snoc X36 N35 g1
          refine zaload X36 hx hby at_274 rfl rfl (ziload X36 hx hby at_276 rfl (ziload X36 hx hby at_278 rfl (zcalls X36 hx hby at_280 hZ hown (w6 hw) (w7 hw) (w8 hw) (w9 hw) e36 (c13_firstCharacter l hw [] ⟨S_w_arr0, A_w_arr0, Al_w_arr0⟩ O36 (zsz O36) b1 ((e1v vs1).toInt8.toInt32) ((e2v vs1).toInt8.toInt32) vy vz g1 A36_b1) hml 0 pd_0 (argsL := [(.ref b1), (.int 0), (.int 3)]) (st := []) (zpureK ⟨rfl, rfl⟩ fun T37 X37 e37 => ?_))))
          show zEnds p e below s T37 (mkF m 283 #[iv p1, iv p2, iv p3, iv p4, rv b1, iv 0, iv 3, iv 1, iv 3, iv 0, iv vc, iv 3] [(.int 3)]) _ _ _
          refine ziload X37 hx hby at_283 rfl (zicmpNo X37 hx hby at_285 (by decide) (ziconst X37 hx hby at_288 (z := (1 : Int32)) rfl (zgoto X37 hx hby at_289 293 (by decide) (by decide) ?_)))
          show zEnds p e below s T37 (mkF m 293 #[iv p1, iv p2, iv p3, iv p4, rv b1, iv 0, iv 3, iv 1, iv 3, iv 0, iv vc, iv 3] [(.int 1)]) _ _ _
          exact zretZ X37 hx hby at_293 hret hlk (by simp) rfl (by decide) (by decide) ⟨rfl, N36⟩
        · show zEnds p e below s T30 (mkF m 134 #[iv p1, iv p2, iv p3, iv p4, rv b1, iv 0, iv 3, iv 1, iv 3, iv 1, iv vc, .unset] [(.int 27), (.int vc)]) _ _ _
          refine zicmpYes X30 hx hby at_134 140 (feq hc27).2 (by decide) (by decide) (ziload X30 hx hby at_140 rfl (ziconst X30 hx hby at_142 (z := (1 : Int32)) rfl (zicmpNo X30 hx hby at_143 (by decide) (zaload X30 hx hby at_146 rfl rfl (ziload X30 hx hby at_148 rfl (ziload X30 hx hby at_150 rfl (zi2b X30 hx hby at_152 (vc.toInt8.toInt32) rfl ?_)))))))
          show zEnds p e below s T30 (mkF m 153 #[iv p1, iv p2, iv p3, iv p4, rv b1, iv 0, iv 3, iv 1, iv 3, iv 1, iv vc, .unset] [(.int (vc.toInt8.toInt32)), (.int 3), (.ref b1)]) _ _ _
          generalize e_vd : (vc.toInt8.toInt32) = vd
          have hn_vd : nar .byte vd = vd := by rw [← e_vd]; exact own_nar8 _
          have h27_vd : ¬ (vd = (27 : Int32)) := by rw [← e_vd]; exact own_27 kc hc27
          refine zbastore X30 hx hby at_153 hZ e30 A30_b1 (by decide) (by show Int32.toNatClampNeg 3 < 20; decide) vd hn_vd fun T38 h38 X38 e38 W38 A38_b1 => ?_
          change zLst Z h38 b1 .byte [(.int 27), (.int ((e1v vs1).toInt8.toInt32)), (.int ((e2v vs1).toInt8.toInt32)), (.int vd), (.int 0), (.int 0), (.int 0), (.int 0), (.int 0), (.int 0), (.int 0), (.int 0), (.int 0), (.int 0), (.int 0), (.int 0), (.int 0), (.int 0), (.int 0), (.int 0)] at A38_b1
          have O38 := O30.wr W38 g1
          have N38 := Fr.snoc X38 N30 g1
          refine ziload X38 hx hby at_154 rfl (ziconst X38 hx hby at_156 (z := (1 : Int32)) rfl (ziadd X38 hx hby at_157 (4 : Int32) (by decide) (zistore X38 hx hby at_158 (L' := #[iv p1, iv p2, iv p3, iv p4, rv b1, iv 0, iv 4, iv 1, iv 3, iv 1, iv vc, .unset]) rfl (zgoto X38 hx hby at_160 251 (by decide) (by decide) (ziload X38 hx hby at_251 rfl (zistore X38 hx hby at_253 (L' := #[iv p1, iv p2, iv p3, iv p4, rv b1, iv 0, iv 4, iv 1, iv 3, iv 1, iv vc, iv 4]) rfl (zaload X38 hx hby at_255 rfl rfl (ziload X38 hx hby at_257 rfl (ziloadN X38 hx hby at_259 rfl ?_)))))))))
          show zEnds p e below s T38 (mkF m 260 #[iv p1, iv p2, iv p3, iv p4, rv b1, iv 0, iv 4, iv 1, iv 3, iv 1, iv vc, iv 4] [(.int p4), (.int 4), (.ref b1)]) _ _ _
          refine zi2b X38 hx hby at_260 (p4.toInt8.toInt32) rfl ?_
          show zEnds p e below s T38 (mkF m 261 #[iv p1, iv p2, iv p3, iv p4, rv b1, iv 0, iv 4, iv 1, iv 3, iv 1, iv vc, iv 4] [(.int (p4.toInt8.toInt32)), (.int 4), (.ref b1)]) _ _ _
          generalize e_vy : (p4.toInt8.toInt32) = vy
          have hn_vy : nar .byte vy = vy := by rw [← e_vy]; exact own_nar8 _
          refine zbastore X38 hx hby at_261 hZ e38 A38_b1 (by decide) (by show Int32.toNatClampNeg 4 < 20; decide) vy hn_vy fun T39 h39 X39 e39 W39 A39_b1 => ?_
          change zLst Z h39 b1 .byte [(.int 27), (.int ((e1v vs1).toInt8.toInt32)), (.int ((e2v vs1).toInt8.toInt32)), (.int vd), (.int vy), (.int 0), (.int 0), (.int 0), (.int 0), (.int 0), (.int 0), (.int 0), (.int 0), (.int 0), (.int 0), (.int 0), (.int 0), (.int 0), (.int 0), (.int 0)] at A39_b1
          have O39 := O38.wr W39 g1
          have N39 := Fr.snoc X39 N38 g1
          refine zaload X39 hx hby at_262 rfl rfl (ziload X39 hx hby at_264 rfl (ziconst X39 hx hby at_266 (z := (1 : Int32)) rfl (ziadd X39 hx hby at_267 (5 : Int32) (by decide) (ziloadN X39 hx hby at_268 rfl (zbipush X39 hx hby at_269 (z := (8 : Int32)) rfl (ziushr X39 hx hby at_271 ((p4.toUInt32 >>> ((8 : Int32) &&& 31).toUInt32).toInt32) rfl (zi2b X39 hx hby at_272 (((p4.toUInt32 >>> ((8 : Int32) &&& 31).toUInt32).toInt32).toInt8.toInt32) rfl ?_)))))))
          show zEnds p e below s T39 (mkF m 273 #[iv p1, iv p2, iv p3, iv p4, rv b1, iv 0, iv 4, iv 1, iv 3, iv 1, iv vc, iv 4] [(.int (((p4.toUInt32 >>> ((8 : Int32) &&& 31).toUInt32).toInt32).toInt8.toInt32)), (.int 5), (.ref b1)]) _ _ _
          generalize e_vz : (((p4.toUInt32 >>> ((8 : Int32) &&& 31).toUInt32).toInt32).toInt8.toInt32) = vz
          have hn_vz : nar .byte vz = vz := by rw [← e_vz]; exact own_nar8 _
          refine zbastore X39 hx hby at_273 hZ e39 A39_b1 (by decide) (by show Int32.toNatClampNeg 5 < 20; decide) vz hn_vz fun T40 h40 X40 e40 W40 A40_b1 => ?_
          change zLst Z h40 b1 .byte [(.int 27), (.int ((e1v vs1).toInt8.toInt32)), (.int ((e2v vs1).toInt8.toInt32)), (.int vd), (.int vy), (.int vz), (.int 0), (.int 0), (.int 0), (.int 0), (.int 0), (.int 0), (.int 0), (.int 0), (.int 0), (.int 0), (.int 0), (.int 0), (.int 0), (.int 0)] at A40_b1
          have O40 := O39.wr W40 g1
          have N40 := Fr.snoc X40 N39 g1
          refine zaload X40 hx hby at_274 rfl rfl (ziload X40 hx hby at_276 rfl (ziload X40 hx hby at_278 rfl (zcalls X40 hx hby at_280 hZ hown (w6 hw) (w7 hw) (w8 hw) (w9 hw) e40 (c15_firstCharacter l hw [] ⟨S_w_arr0, A_w_arr0, Al_w_arr0⟩ O40 (zsz O40) b1 ((e1v vs1).toInt8.toInt32) ((e2v vs1).toInt8.toInt32) vd vy vz g1 A40_b1 h27_vd) hml 0 pd_0 (argsL := [(.ref b1), (.int 0), (.int 4)]) (st := []) (zpureK ⟨rfl, rfl⟩ fun T41 X41 e41 => ?_))))
          show zEnds p e below s T41 (mkF m 283 #[iv p1, iv p2, iv p3, iv p4, rv b1, iv 0, iv 4, iv 1, iv 3, iv 1, iv vc, iv 4] [(.int 3)]) _ _ _
          refine ziload X41 hx hby at_283 rfl (zicmpNo X41 hx hby at_285 (by decide) (ziconst X41 hx hby at_288 (z := (1 : Int32)) rfl (zgoto X41 hx hby at_289 293 (by decide) (by decide) ?_)))
          show zEnds p e below s T41 (mkF m 293 #[iv p1, iv p2, iv p3, iv p4, rv b1, iv 0, iv 4, iv 1, iv 3, iv 1, iv vc, iv 4] [(.int 1)]) _ _ _
          exact zretZ X41 hx hby at_293 hret hlk (by simp) rfl (by decide) (by decide) ⟨rfl, N40⟩
      · rw [q31]
        refine zistore X30 hx hby at_108 (L' := #[iv p1, iv p2, iv p3, iv p4, rv b1, iv 0, iv 3, iv 1, iv 3, iv 2, .unset, .unset]) rfl (ziloadN X30 hx hby at_110 rfl (ziconst X30 hx hby at_111 (z := (2 : Int32)) rfl (ziushr X30 hx hby at_112 ((p2.toUInt32 >>> ((2 : Int32) &&& 31).toUInt32).toInt32) rfl (zbipush X30 hx hby at_113 (z := (127 : Int32)) rfl (ziand X30 hx hby at_115 (((p2.toUInt32 >>> ((2 : Int32) &&& 31).toUInt32).toInt32) &&& (127 : Int32)) rfl ?_)))))
        show zEnds p e below s T30 (mkF m 116 #[iv p1, iv p2, iv p3, iv p4, rv b1, iv 0, iv 3, iv 1, iv 3, iv 2, .unset, .unset] [(.int (((p2.toUInt32 >>> ((2 : Int32) &&& 31).toUInt32).toInt32) &&& (127 : Int32)))]) _ _ _
        generalize e_vc : (((p2.toUInt32 >>> ((2 : Int32) &&& 31).toUInt32).toInt32) &&& (127 : Int32)) = vc
        have kc : 0 ≤ vc.toInt ∧ vc.toInt ≤ 127 := by rw [← e_vc]; exact own_c _
        refine zistore X30 hx hby at_116 (L' := #[iv p1, iv p2, iv p3, iv p4, rv b1, iv 0, iv 3, iv 1, iv 3, iv 2, iv vc, .unset]) rfl (ziload X30 hx hby at_118 rfl (ziconst X30 hx hby at_120 (z := (1 : Int32)) rfl (zicmpNo X30 hx hby at_121 (by decide) (ziload X30 hx hby at_124 rfl (ziconst X30 hx hby at_126 (z := (3 : Int32)) rfl (zicmpYes X30 hx hby at_127 140 (by decide) (by decide) (by decide) (ziload X30 hx hby at_140 rfl (ziconst X30 hx hby at_142 (z := (1 : Int32)) rfl (zicmpYes X30 hx hby at_143 163 (by decide) (by decide) (by decide) ?_)))))))))
        show zEnds p e below s T30 (mkF m 163 #[iv p1, iv p2, iv p3, iv p4, rv b1, iv 0, iv 3, iv 1, iv 3, iv 2, iv vc, .unset] []) _ _ _
        refine ziload X30 hx hby at_163 rfl (ziconst X30 hx hby at_165 (z := (2 : Int32)) rfl (zicmpNo X30 hx hby at_166 (by decide) (zaload X30 hx hby at_169 rfl rfl (ziload X30 hx hby at_171 rfl (zbipush X30 hx hby at_173 (z := (48 : Int32)) rfl (ziloadN X30 hx hby at_175 rfl (zbipush X30 hx hby at_176 (z := (9 : Int32)) rfl (ziushr X30 hx hby at_178 ((p2.toUInt32 >>> ((9 : Int32) &&& 31).toUInt32).toInt32) rfl (zsipush X30 hx hby at_179 (z := (255 : Int32)) rfl ?_)))))))))
        show zEnds p e below s T30 (mkF m 182 #[iv p1, iv p2, iv p3, iv p4, rv b1, iv 0, iv 3, iv 1, iv 3, iv 2, iv vc, .unset] [(.int 255), (.int ((p2.toUInt32 >>> ((9 : Int32) &&& 31).toUInt32).toInt32)), (.int 48), (.int 3), (.ref b1)]) _ _ _
        refine ziand X30 hx hby at_182 (((p2.toUInt32 >>> ((9 : Int32) &&& 31).toUInt32).toInt32) &&& (255 : Int32)) rfl (zbipush X30 hx hby at_183 (z := (31 : Int32)) rfl (zirem X30 hx hby at_185 ((((p2.toUInt32 >>> ((9 : Int32) &&& 31).toUInt32).toInt32) &&& (255 : Int32)) % (31 : Int32)) (by decide) rfl (ziadd X30 hx hby at_186 ((48 : Int32) + ((((p2.toUInt32 >>> ((9 : Int32) &&& 31).toUInt32).toInt32) &&& (255 : Int32)) % (31 : Int32))) rfl (zi2b X30 hx hby at_187 (((48 : Int32) + ((((p2.toUInt32 >>> ((9 : Int32) &&& 31).toUInt32).toInt32) &&& (255 : Int32)) % (31 : Int32))).toInt8.toInt32) rfl ?_))))
        show zEnds p e below s T30 (mkF m 188 #[iv p1, iv p2, iv p3, iv p4, rv b1, iv 0, iv 3, iv 1, iv 3, iv 2, iv vc, .unset] [(.int (((48 : Int32) + ((((p2.toUInt32 >>> ((9 : Int32) &&& 31).toUInt32).toInt32) &&& (255 : Int32)) % (31 : Int32))).toInt8.toInt32)), (.int 3), (.ref b1)]) _ _ _
        generalize e_ve : (((48 : Int32) + ((((p2.toUInt32 >>> ((9 : Int32) &&& 31).toUInt32).toInt32) &&& (255 : Int32)) % (31 : Int32))).toInt8.toInt32) = ve
        have hn_ve : nar .byte ve = ve := by rw [← e_ve]; exact own_nar8 _
        have h27_ve : ¬ (ve = (27 : Int32)) := by rw [← e_ve]; exact own_48 _
        refine zbastore X30 hx hby at_188 hZ e30 A30_b1 (by decide) (by show Int32.toNatClampNeg 3 < 20; decide) ve hn_ve fun T42 h42 X42 e42 W42 A42_b1 => ?_
        change zLst Z h42 b1 .byte [(.int 27), (.int ((e1v vs1).toInt8.toInt32)), (.int ((e2v vs1).toInt8.toInt32)), (.int ve), (.int 0), (.int 0), (.int 0), (.int 0), (.int 0), (.int 0), (.int 0), (.int 0), (.int 0), (.int 0), (.int 0), (.int 0), (.int 0), (.int 0), (.int 0), (.int 0)] at A42_b1
        have O42 := O30.wr W42 g1
        have N42 := Fr.snoc X42 N30 g1
        refine zaload X42 hx hby at_189 rfl rfl (ziload X42 hx hby at_191 rfl (ziconst X42 hx hby at_193 (z := (1 : Int32)) rfl (ziadd X42 hx hby at_194 (4 : Int32) (by decide) (zbipush X42 hx hby at_195 (z := (33 : Int32)) rfl (ziloadN X42 hx hby at_197 rfl (zbipush X42 hx hby at_198 (z := (17 : Int32)) rfl (ziushr X42 hx hby at_200 ((p2.toUInt32 >>> ((17 : Int32) &&& 31).toUInt32).toInt32) rfl (zsipush X42 hx hby at_201 (z := (255 : Int32)) rfl (ziand X42 hx hby at_204 (((p2.toUInt32 >>> ((17 : Int32) &&& 31).toUInt32).toInt32) &&& (255 : Int32)) rfl ?_)))))))))
        show zEnds p e below s T42 (mkF m 205 #[iv p1, iv p2, iv p3, iv p4, rv b1, iv 0, iv 3, iv 1, iv 3, iv 2, iv vc, .unset] [(.int (((p2.toUInt32 >>> ((17 : Int32) &&& 31).toUInt32).toInt32) &&& (255 : Int32))), (.int 33), (.int 4), (.ref b1)]) _ _ _
        refine zbipush X42 hx hby at_205 (z := (94 : Int32)) rfl (zirem X42 hx hby at_207 ((((p2.toUInt32 >>> ((17 : Int32) &&& 31).toUInt32).toInt32) &&& (255 : Int32)) % (94 : Int32)) (by decide) rfl (ziadd X42 hx hby at_208 ((33 : Int32) + ((((p2.toUInt32 >>> ((17 : Int32) &&& 31).toUInt32).toInt32) &&& (255 : Int32)) % (94 : Int32))) rfl (zi2b X42 hx hby at_209 (((33 : Int32) + ((((p2.toUInt32 >>> ((17 : Int32) &&& 31).toUInt32).toInt32) &&& (255 : Int32)) % (94 : Int32))).toInt8.toInt32) rfl ?_)))
        show zEnds p e below s T42 (mkF m 210 #[iv p1, iv p2, iv p3, iv p4, rv b1, iv 0, iv 3, iv 1, iv 3, iv 2, iv vc, .unset] [(.int (((33 : Int32) + ((((p2.toUInt32 >>> ((17 : Int32) &&& 31).toUInt32).toInt32) &&& (255 : Int32)) % (94 : Int32))).toInt8.toInt32)), (.int 4), (.ref b1)]) _ _ _
        generalize e_vf : (((33 : Int32) + ((((p2.toUInt32 >>> ((17 : Int32) &&& 31).toUInt32).toInt32) &&& (255 : Int32)) % (94 : Int32))).toInt8.toInt32) = vf
        have hn_vf : nar .byte vf = vf := by rw [← e_vf]; exact own_nar8 _
        refine zbastore X42 hx hby at_210 hZ e42 A42_b1 (by decide) (by show Int32.toNatClampNeg 4 < 20; decide) vf hn_vf fun T43 h43 X43 e43 W43 A43_b1 => ?_
        change zLst Z h43 b1 .byte [(.int 27), (.int ((e1v vs1).toInt8.toInt32)), (.int ((e2v vs1).toInt8.toInt32)), (.int ve), (.int vf), (.int 0), (.int 0), (.int 0), (.int 0), (.int 0), (.int 0), (.int 0), (.int 0), (.int 0), (.int 0), (.int 0), (.int 0), (.int 0), (.int 0), (.int 0)] at A43_b1
        have O43 := O42.wr W43 g1
        have N43 := Fr.snoc X43 N42 g1
        refine ziload X43 hx hby at_211 rfl (ziconst X43 hx hby at_213 (z := (2 : Int32)) rfl (ziadd X43 hx hby at_214 (5 : Int32) (by decide) (zistore X43 hx hby at_215 (L' := #[iv p1, iv p2, iv p3, iv p4, rv b1, iv 0, iv 5, iv 1, iv 3, iv 2, iv vc, .unset]) rfl (zgoto X43 hx hby at_217 251 (by decide) (by decide) (ziload X43 hx hby at_251 rfl (zistore X43 hx hby at_253 (L' := #[iv p1, iv p2, iv p3, iv p4, rv b1, iv 0, iv 5, iv 1, iv 3, iv 2, iv vc, iv 5]) rfl (zaload X43 hx hby at_255 rfl rfl (ziload X43 hx hby at_257 rfl (ziloadN X43 hx hby at_259 rfl ?_)))))))))
        show zEnds p e below s T43 (mkF m 260 #[iv p1, iv p2, iv p3, iv p4, rv b1, iv 0, iv 5, iv 1, iv 3, iv 2, iv vc, iv 5] [(.int p4), (.int 5), (.ref b1)]) _ _ _
        refine zi2b X43 hx hby at_260 (p4.toInt8.toInt32) rfl ?_
        show zEnds p e below s T43 (mkF m 261 #[iv p1, iv p2, iv p3, iv p4, rv b1, iv 0, iv 5, iv 1, iv 3, iv 2, iv vc, iv 5] [(.int (p4.toInt8.toInt32)), (.int 5), (.ref b1)]) _ _ _
        generalize e_vy : (p4.toInt8.toInt32) = vy
        have hn_vy : nar .byte vy = vy := by rw [← e_vy]; exact own_nar8 _
        refine zbastore X43 hx hby at_261 hZ e43 A43_b1 (by decide) (by show Int32.toNatClampNeg 5 < 20; decide) vy hn_vy fun T44 h44 X44 e44 W44 A44_b1 => ?_
        change zLst Z h44 b1 .byte [(.int 27), (.int ((e1v vs1).toInt8.toInt32)), (.int ((e2v vs1).toInt8.toInt32)), (.int ve), (.int vf), (.int vy), (.int 0), (.int 0), (.int 0), (.int 0), (.int 0), (.int 0), (.int 0), (.int 0), (.int 0), (.int 0), (.int 0), (.int 0), (.int 0), (.int 0)] at A44_b1
        have O44 := O43.wr W44 g1
        have N44 := Fr.snoc X44 N43 g1
        refine zaload X44 hx hby at_262 rfl rfl (ziload X44 hx hby at_264 rfl (ziconst X44 hx hby at_266 (z := (1 : Int32)) rfl (ziadd X44 hx hby at_267 (6 : Int32) (by decide) (ziloadN X44 hx hby at_268 rfl (zbipush X44 hx hby at_269 (z := (8 : Int32)) rfl (ziushr X44 hx hby at_271 ((p4.toUInt32 >>> ((8 : Int32) &&& 31).toUInt32).toInt32) rfl (zi2b X44 hx hby at_272 (((p4.toUInt32 >>> ((8 : Int32) &&& 31).toUInt32).toInt32).toInt8.toInt32) rfl ?_)))))))
        show zEnds p e below s T44 (mkF m 273 #[iv p1, iv p2, iv p3, iv p4, rv b1, iv 0, iv 5, iv 1, iv 3, iv 2, iv vc, iv 5] [(.int (((p4.toUInt32 >>> ((8 : Int32) &&& 31).toUInt32).toInt32).toInt8.toInt32)), (.int 6), (.ref b1)]) _ _ _
        generalize e_vz : (((p4.toUInt32 >>> ((8 : Int32) &&& 31).toUInt32).toInt32).toInt8.toInt32) = vz
        have hn_vz : nar .byte vz = vz := by rw [← e_vz]; exact own_nar8 _
        refine zbastore X44 hx hby at_273 hZ e44 A44_b1 (by decide) (by show Int32.toNatClampNeg 6 < 20; decide) vz hn_vz fun T45 h45 X45 e45 W45 A45_b1 => ?_
        change zLst Z h45 b1 .byte [(.int 27), (.int ((e1v vs1).toInt8.toInt32)), (.int ((e2v vs1).toInt8.toInt32)), (.int ve), (.int vf), (.int vy), (.int vz), (.int 0), (.int 0), (.int 0), (.int 0), (.int 0), (.int 0), (.int 0), (.int 0), (.int 0), (.int 0), (.int 0), (.int 0), (.int 0)] at A45_b1
        have O45 := O44.wr W45 g1
        have N45 := Fr.snoc X45 N44 g1
        refine zaload X45 hx hby at_274 rfl rfl (ziload X45 hx hby at_276 rfl (ziload X45 hx hby at_278 rfl (zcalls X45 hx hby at_280 hZ hown (w6 hw) (w7 hw) (w8 hw) (w9 hw) e45 (c17_firstCharacter l hw [] ⟨S_w_arr0, A_w_arr0, Al_w_arr0⟩ O45 (zsz O45) b1 ((e1v vs1).toInt8.toInt32) ((e2v vs1).toInt8.toInt32) ve vf vy vz g1 A45_b1 h27_ve) hml 0 pd_0 (argsL := [(.ref b1), (.int 0), (.int 5)]) (st := []) (zpureK ⟨rfl, rfl⟩ fun T46 X46 e46 => ?_))))
        show zEnds p e below s T46 (mkF m 283 #[iv p1, iv p2, iv p3, iv p4, rv b1, iv 0, iv 5, iv 1, iv 3, iv 2, iv vc, iv 5] [(.int 3)]) _ _ _
        refine ziload X46 hx hby at_283 rfl (zicmpNo X46 hx hby at_285 (by decide) (ziconst X46 hx hby at_288 (z := (1 : Int32)) rfl (zgoto X46 hx hby at_289 293 (by decide) (by decide) ?_)))
        show zEnds p e below s T46 (mkF m 293 #[iv p1, iv p2, iv p3, iv p4, rv b1, iv 0, iv 5, iv 1, iv 3, iv 2, iv vc, iv 5] [(.int 1)]) _ _ _
        exact zretZ X46 hx hby at_293 hret hlk (by simp) rfl (by decide) (by decide) ⟨rfl, N45⟩
      · rw [q31]
        refine zistore X30 hx hby at_108 (L' := #[iv p1, iv p2, iv p3, iv p4, rv b1, iv 0, iv 3, iv 1, iv 3, iv 3, .unset, .unset]) rfl (ziloadN X30 hx hby at_110 rfl (ziconst X30 hx hby at_111 (z := (2 : Int32)) rfl (ziushr X30 hx hby at_112 ((p2.toUInt32 >>> ((2 : Int32) &&& 31).toUInt32).toInt32) rfl (zbipush X30 hx hby at_113 (z := (127 : Int32)) rfl (ziand X30 hx hby at_115 (((p2.toUInt32 >>> ((2 : Int32) &&& 31).toUInt32).toInt32) &&& (127 : Int32)) rfl ?_)))))
        show zEnds p e below s T30 (mkF m 116 #[iv p1, iv p2, iv p3, iv p4, rv b1, iv 0, iv 3, iv 1, iv 3, iv 3, .unset, .unset] [(.int (((p2.toUInt32 >>> ((2 : Int32) &&& 31).toUInt32).toInt32) &&& (127 : Int32)))]) _ _ _
        generalize e_vc : (((p2.toUInt32 >>> ((2 : Int32) &&& 31).toUInt32).toInt32) &&& (127 : Int32)) = vc
        have kc : 0 ≤ vc.toInt ∧ vc.toInt ≤ 127 := by rw [← e_vc]; exact own_c _
        refine zistore X30 hx hby at_116 (L' := #[iv p1, iv p2, iv p3, iv p4, rv b1, iv 0, iv 3, iv 1, iv 3, iv 3, iv vc, .unset]) rfl (ziload X30 hx hby at_118 rfl (ziconst X30 hx hby at_120 (z := (1 : Int32)) rfl (zicmpNo X30 hx hby at_121 (by decide) (ziload X30 hx hby at_124 rfl (ziconst X30 hx hby at_126 (z := (3 : Int32)) rfl (zicmpNo X30 hx hby at_127 (by decide) (ziload X30 hx hby at_130 rfl (zbipush X30 hx hby at_132 (z := (27 : Int32)) rfl ?_))))))))
        show zEnds p e below s T30 (mkF m 134 #[iv p1, iv p2, iv p3, iv p4, rv b1, iv 0, iv 3, iv 1, iv 3, iv 3, iv vc, .unset] [(.int 27), (.int vc)]) _ _ _
        by_cases hc27 : vc = (27 : Int32)
        · show zEnds p e below s T30 (mkF m 134 #[iv p1, iv p2, iv p3, iv p4, rv b1, iv 0, iv 3, iv 1, iv 3, iv 3, iv vc, .unset] [(.int 27), (.int vc)]) _ _ _
          refine zicmpNo X30 hx hby at_134 (teq hc27).2 (ziconst X30 hx hby at_137 (z := (0 : Int32)) rfl (zistore X30 hx hby at_138 (L' := #[iv p1, iv p2, iv p3, iv p4, rv b1, iv 0, iv 3, iv 1, iv 3, iv 0, iv vc, .unset]) rfl (ziload X30 hx hby at_140 rfl (ziconst X30 hx hby at_142 (z := (1 : Int32)) rfl (zicmpYes X30 hx hby at_143 163 (by decide) (by decide) (by decide) (ziload X30 hx hby at_163 rfl (ziconst X30 hx hby at_165 (z := (2 : Int32)) rfl (zicmpYes X30 hx hby at_166 220 (by decide) (by decide) (by decide) (ziload X30 hx hby at_220 rfl ?_)))))))))
          show zEnds p e below s T30 (mkF m 222 #[iv p1, iv p2, iv p3, iv p4, rv b1, iv 0, iv 3, iv 1, iv 3, iv 0, iv vc, .unset] [(.int 0)]) _ _ _
          refine ziconst X30 hx hby at_222 (z := (3 : Int32)) rfl (zicmpYes X30 hx hby at_223 251 (by decide) (by decide) (by decide) (ziload X30 hx hby at_251 rfl (zistore X30 hx hby at_253 (L' := #[iv p1, iv p2, iv p3, iv p4, rv b1, iv 0, iv 3, iv 1, iv 3, iv 0, iv vc, iv 3]) rfl (zaload X30 hx hby at_255 rfl rfl (ziload X30 hx hby at_257 rfl (ziloadN X30 hx hby at_259 rfl (zi2b X30 hx hby at_260 (p4.toInt8.toInt32) rfl ?_)))))))
          show zEnds p e below s T30 (mkF m 261 #[iv p1, iv p2, iv p3, iv p4, rv b1, iv 0, iv 3, iv 1, iv 3, iv 0, iv vc, iv 3] [(.int (p4.toInt8.toInt32)), (.int 3), (.ref b1)]) _ _ _
          generalize e_vy : (p4.toInt8.toInt32) = vy
          have hn_vy : nar .byte vy = vy := by rw [← e_vy]; exact own_nar8 _
          refine zbastore X30 hx hby at_261 hZ e30 A30_b1 (by decide) (by show Int32.toNatClampNeg 3 < 20; decide) vy hn_vy fun T47 h47 X47 e47 W47 A47_b1 => ?_
          change zLst Z h47 b1 .byte [(.int 27), (.int ((e1v vs1).toInt8.toInt32)), (.int ((e2v vs1).toInt8.toInt32)), (.int vy), (.int 0), (.int 0), (.int 0), (.int 0), (.int 0), (.int 0), (.int 0), (.int 0), (.int 0), (.int 0), (.int 0), (.int 0), (.int 0), (.int 0), (.int 0), (.int 0)] at A47_b1
          have O47 := O30.wr W47 g1
          have N47 := Fr.snoc X47 N30 g1
          refine zaload X47 hx hby at_262 rfl rfl (ziload X47 hx hby at_264 rfl (ziconst X47 hx hby at_266 (z := (1 : Int32)) rfl (ziadd X47 hx hby at_267 (4 : Int32) (by decide) (ziloadN X47 hx hby at_268 rfl (zbipush X47 hx hby at_269 (z := (8 : Int32)) rfl (ziushr X47 hx hby at_271 ((p4.toUInt32 >>> ((8 : Int32) &&& 31).toUInt32).toInt32) rfl (zi2b X47 hx hby at_272 (((p4.toUInt32 >>> ((8 : Int32) &&& 31).toUInt32).toInt32).toInt8.toInt32) rfl ?_)))))))
          show zEnds p e below s T47 (mkF m 273 #[iv p1, iv p2, iv p3, iv p4, rv b1, iv 0, iv 3, iv 1, iv 3, iv 0, iv vc, iv 3] [(.int (((p4.toUInt32 >>> ((8 : Int32) &&& 31).toUInt32).toInt32).toInt8.toInt32)), (.int 4), (.ref b1)]) _ _ _
          generalize e_vz : (((p4.toUInt32 >>> ((8 : Int32) &&& 31).toUInt32).toInt32).toInt8.toInt32) = vz
          have hn_vz : nar .byte vz = vz := by rw [← e_vz]; exact own_nar8 _
          refine zbastore X47 hx hby at_273 hZ e47 A47_b1 (by decide) (by show Int32.toNatClampNeg 4 < 20; decide) vz hn_vz fun T48 h48 X48 e48 W48 A48_b1 => ?_
          change zLst Z h48 b1 .byte [(.int 27), (.int ((e1v vs1).toInt8.toInt32)), (.int ((e2v vs1).toInt8.toInt32)), (.int vy), (.int vz), (.int 0), (.int 0), (.int 0), (.int 0), (.int 0), (.int 0), (.int 0), (.int 0), (.int 0), (.int 0), (.int 0), (.int 0), (.int 0), (.int 0), (.int 0)] at A48_b1
          have O48 := O47.wr W48 g1
          have N48 := Fr.snoc X48 N47 g1
          refine zaload X48 hx hby at_274 rfl rfl (ziload X48 hx hby at_276 rfl (ziload X48 hx hby at_278 rfl (zcalls X48 hx hby at_280 hZ hown (w6 hw) (w7 hw) (w8 hw) (w9 hw) e48 (c13_firstCharacter l hw [] ⟨S_w_arr0, A_w_arr0, Al_w_arr0⟩ O48 (zsz O48) b1 ((e1v vs1).toInt8.toInt32) ((e2v vs1).toInt8.toInt32) vy vz g1 A48_b1) hml 0 pd_0 (argsL := [(.ref b1), (.int 0), (.int 3)]) (st := []) (zpureK ⟨rfl, rfl⟩ fun T49 X49 e49 => ?_))))
          show zEnds p e below s T49 (mkF m 283 #[iv p1, iv p2, iv p3, iv p4, rv b1, iv 0, iv 3, iv 1, iv 3, iv 0, iv vc, iv 3] [(.int 3)]) _ _ _
          refine ziload X49 hx hby at_283 rfl (zicmpNo X49 hx hby at_285 (by decide) (ziconst X49 hx hby at_288 (z := (1 : Int32)) rfl (zgoto X49 hx hby at_289 293 (by decide) (by decide) ?_)))
          show zEnds p e below s T49 (mkF m 293 #[iv p1, iv p2, iv p3, iv p4, rv b1, iv 0, iv 3, iv 1, iv 3, iv 0, iv vc, iv 3] [(.int 1)]) _ _ _
          exact zretZ X49 hx hby at_293 hret hlk (by simp) rfl (by decide) (by decide) ⟨rfl, N48⟩
        · show zEnds p e below s T30 (mkF m 134 #[iv p1, iv p2, iv p3, iv p4, rv b1, iv 0, iv 3, iv 1, iv 3, iv 3, iv vc, .unset] [(.int 27), (.int vc)]) _ _ _
          refine zicmpYes X30 hx hby at_134 140 (feq hc27).2 (by decide) (by decide) (ziload X30 hx hby at_140 rfl (ziconst X30 hx hby at_142 (z := (1 : Int32)) rfl (zicmpYes X30 hx hby at_143 163 (by decide) (by decide) (by decide) (ziload X30 hx hby at_163 rfl (ziconst X30 hx hby at_165 (z := (2 : Int32)) rfl (zicmpYes X30 hx hby at_166 220 (by decide) (by decide) (by decide) (ziload X30 hx hby at_220 rfl (ziconst X30 hx hby at_222 (z := (3 : Int32)) rfl (zicmpNo X30 hx hby at_223 (by decide) ?_)))))))))
          show zEnds p e below s T30 (mkF m 226 #[iv p1, iv p2, iv p3, iv p4, rv b1, iv 0, iv 3, iv 1, iv 3, iv 3, iv vc, .unset] []) _ _ _
          refine zaload X30 hx hby at_226 rfl rfl (ziload X30 hx hby at_228 rfl (ziload X30 hx hby at_230 rfl (zi2b X30 hx hby at_232 (vc.toInt8.toInt32) rfl ?_)))
          show zEnds p e below s T30 (mkF m 233 #[iv p1, iv p2, iv p3, iv p4, rv b1, iv 0, iv 3, iv 1, iv 3, iv 3, iv vc, .unset] [(.int (vc.toInt8.toInt32)), (.int 3), (.ref b1)]) _ _ _
          generalize e_vg : (vc.toInt8.toInt32) = vg
          have hn_vg : nar .byte vg = vg := by rw [← e_vg]; exact own_nar8 _
          have h27_vg : ¬ (vg = (27 : Int32)) := by rw [← e_vg]; exact own_27 kc hc27
          refine zbastore X30 hx hby at_233 hZ e30 A30_b1 (by decide) (by show Int32.toNatClampNeg 3 < 20; decide) vg hn_vg fun T50 h50 X50 e50 W50 A50_b1 => ?_
          change zLst Z h50 b1 .byte [(.int 27), (.int ((e1v vs1).toInt8.toInt32)), (.int ((e2v vs1).toInt8.toInt32)), (.int vg), (.int 0), (.int 0), (.int 0), (.int 0), (.int 0), (.int 0), (.int 0), (.int 0), (.int 0), (.int 0), (.int 0), (.int 0), (.int 0), (.int 0), (.int 0), (.int 0)] at A50_b1
          have O50 := O30.wr W50 g1
          have N50 := Fr.snoc X50 N30 g1
          refine zaload X50 hx hby at_234 rfl rfl (ziload X50 hx hby at_236 rfl (ziconst X50 hx hby at_238 (z := (1 : Int32)) rfl (ziadd X50 hx hby at_239 (4 : Int32) (by decide) (ziloadN X50 hx hby at_240 rfl (zbipush X50 hx hby at_241 (z := (9 : Int32)) rfl (ziushr X50 hx hby at_243 ((p2.toUInt32 >>> ((9 : Int32) &&& 31).toUInt32).toInt32) rfl (ziconst X50 hx hby at_244 (z := (3 : Int32)) rfl (ziand X50 hx hby at_245 (((p2.toUInt32 >>> ((9 : Int32) &&& 31).toUInt32).toInt32) &&& (3 : Int32)) rfl ?_))))))))
          show zEnds p e below s T50 (mkF m 246 #[iv p1, iv p2, iv p3, iv p4, rv b1, iv 0, iv 3, iv 1, iv 3, iv 3, iv vc, .unset] [(.int (((p2.toUInt32 >>> ((9 : Int32) &&& 31).toUInt32).toInt32) &&& (3 : Int32))), (.int 4), (.ref b1)]) _ _ _
          generalize e_vs4 : (((p2.toUInt32 >>> ((9 : Int32) &&& 31).toUInt32).toInt32) &&& (3 : Int32)) = vs4
          refine zcalls X50 hx hby at_246 hZ hown (w2 hw) (w3 hw) (w4 hw) (w5 hw) e50 (c19_esc l hw [] ⟨S_w_arr0, A_w_arr0, Al_w_arr0⟩ O50 (zsz O50) vs4 b1 (27 : Int32) ((e1v vs1).toInt8.toInt32) ((e2v vs1).toInt8.toInt32) vg (0 : Int32) (0 : Int32) (0 : Int32) (0 : Int32) (0 : Int32) (0 : Int32) (0 : Int32) (0 : Int32) (0 : Int32) (0 : Int32) (0 : Int32) (0 : Int32) (0 : Int32) (0 : Int32) (0 : Int32) (0 : Int32) g1 A50_b1 h27_vg) hml 0 pd_0 (argsL := [(.ref b1), (.int 4), (.int vs4)]) (st := []) fun T51 h51 v51 L51 e51 X51 q51 => ?_
          obtain ⟨rfl, N51q, K51q, A51_b1⟩ := q51
          have O51 := O50.keep K51q (allS g1 all0)
          have N51 := Fr.app N50 N51q
          show zEnds p e below s T51 (mkF m 249 #[iv p1, iv p2, iv p3, iv p4, rv b1, iv 0, iv 3, iv 1, iv 3, iv 3, iv vc, .unset] [(.int 7)]) _ _ _
          refine zistore X51 hx hby at_249 (L' := #[iv p1, iv p2, iv p3, iv p4, rv b1, iv 0, iv 7, iv 1, iv 3, iv 3, iv vc, .unset]) rfl (ziload X51 hx hby at_251 rfl (zistore X51 hx hby at_253 (L' := #[iv p1, iv p2, iv p3, iv p4, rv b1, iv 0, iv 7, iv 1, iv 3, iv 3, iv vc, iv 7]) rfl (zaload X51 hx hby at_255 rfl rfl (ziload X51 hx hby at_257 rfl (ziloadN X51 hx hby at_259 rfl (zi2b X51 hx hby at_260 (p4.toInt8.toInt32) rfl ?_))))))
          show zEnds p e below s T51 (mkF m 261 #[iv p1, iv p2, iv p3, iv p4, rv b1, iv 0, iv 7, iv 1, iv 3, iv 3, iv vc, iv 7] [(.int (p4.toInt8.toInt32)), (.int 7), (.ref b1)]) _ _ _
          generalize e_vy : (p4.toInt8.toInt32) = vy
          have hn_vy : nar .byte vy = vy := by rw [← e_vy]; exact own_nar8 _
          refine zbastore X51 hx hby at_261 hZ e51 A51_b1 (by decide) (by show Int32.toNatClampNeg 7 < 20; decide) vy hn_vy fun T52 h52 X52 e52 W52 A52_b1 => ?_
          change zLst Z h52 b1 .byte [(.int 27), (.int ((e1v vs1).toInt8.toInt32)), (.int ((e2v vs1).toInt8.toInt32)), (.int vg), (.int 27), (.int ((e1v vs4).toInt8.toInt32)), (.int ((e2v vs4).toInt8.toInt32)), (.int vy), (.int 0), (.int 0), (.int 0), (.int 0), (.int 0), (.int 0), (.int 0), (.int 0), (.int 0), (.int 0), (.int 0), (.int 0)] at A52_b1
          have O52 := O51.wr W52 g1
          have N52 := Fr.snoc X52 N51 g1
          refine zaload X52 hx hby at_262 rfl rfl (ziload X52 hx hby at_264 rfl (ziconst X52 hx hby at_266 (z := (1 : Int32)) rfl (ziadd X52 hx hby at_267 (8 : Int32) (by decide) (ziloadN X52 hx hby at_268 rfl (zbipush X52 hx hby at_269 (z := (8 : Int32)) rfl (ziushr X52 hx hby at_271 ((p4.toUInt32 >>> ((8 : Int32) &&& 31).toUInt32).toInt32) rfl (zi2b X52 hx hby at_272 (((p4.toUInt32 >>> ((8 : Int32) &&& 31).toUInt32).toInt32).toInt8.toInt32) rfl ?_)))))))
          show zEnds p e below s T52 (mkF m 273 #[iv p1, iv p2, iv p3, iv p4, rv b1, iv 0, iv 7, iv 1, iv 3, iv 3, iv vc, iv 7] [(.int (((p4.toUInt32 >>> ((8 : Int32) &&& 31).toUInt32).toInt32).toInt8.toInt32)), (.int 8), (.ref b1)]) _ _ _
          generalize e_vz : (((p4.toUInt32 >>> ((8 : Int32) &&& 31).toUInt32).toInt32).toInt8.toInt32) = vz
          have hn_vz : nar .byte vz = vz := by rw [← e_vz]; exact own_nar8 _
          refine zbastore X52 hx hby at_273 hZ e52 A52_b1 (by decide) (by show Int32.toNatClampNeg 8 < 20; decide) vz hn_vz fun T53 h53 X53 e53 W53 A53_b1 => ?_
          change zLst Z h53 b1 .byte [(.int 27), (.int ((e1v vs1).toInt8.toInt32)), (.int ((e2v vs1).toInt8.toInt32)), (.int vg), (.int 27), (.int ((e1v vs4).toInt8.toInt32)), (.int ((e2v vs4).toInt8.toInt32)), (.int vy), (.int vz), (.int 0), (.int 0), (.int 0), (.int 0), (.int 0), (.int 0), (.int 0), (.int 0), (.int 0), (.int 0), (.int 0)] at A53_b1
          have O53 := O52.wr W53 g1
          have N53 := Fr.snoc X53 N52 g1
          refine zaload X53 hx hby at_274 rfl rfl (ziload X53 hx hby at_276 rfl (ziload X53 hx hby at_278 rfl (zcalls X53 hx hby at_280 hZ hown (w6 hw) (w7 hw) (w8 hw) (w9 hw) e53 (c21_firstCharacter l hw [] ⟨S_w_arr0, A_w_arr0, Al_w_arr0⟩ O53 (zsz O53) b1 ((e1v vs1).toInt8.toInt32) ((e2v vs1).toInt8.toInt32) vg ((e1v vs4).toInt8.toInt32) ((e2v vs4).toInt8.toInt32) vy vz g1 A53_b1 h27_vg) hml 0 pd_0 (argsL := [(.ref b1), (.int 0), (.int 7)]) (st := []) (zpureK ⟨rfl, rfl⟩ fun T54 X54 e54 => ?_))))
          show zEnds p e below s T54 (mkF m 283 #[iv p1, iv p2, iv p3, iv p4, rv b1, iv 0, iv 7, iv 1, iv 3, iv 3, iv vc, iv 7] [(.int 3)]) _ _ _
          refine ziload X54 hx hby at_283 rfl (zicmpNo X54 hx hby at_285 (by decide) (ziconst X54 hx hby at_288 (z := (1 : Int32)) rfl (zgoto X54 hx hby at_289 293 (by decide) (by decide) ?_)))
          show zEnds p e below s T54 (mkF m 293 #[iv p1, iv p2, iv p3, iv p4, rv b1, iv 0, iv 7, iv 1, iv 3, iv 3, iv vc, iv 7] [(.int 1)]) _ _ _
          exact zretZ X54 hx hby at_293 hret hlk (by simp) rfl (by decide) (by decide) ⟨rfl, N53⟩
    · rw [q5]
      refine zistore X3 hx hby at_39 (L' := #[iv p1, iv p2, iv p3, iv p4, rv b1, iv 0, iv 0, iv 2, .unset, .unset, .unset, .unset]) rfl (ziload X3 hx hby at_41 rfl (zifNo X3 hx hby at_43 (by decide) (zaload X3 hx hby at_46 rfl rfl (ziload X3 hx hby at_48 rfl (ziloadN X3 hx hby at_50 rfl (ziconst X3 hx hby at_51 (z := (2 : Int32)) rfl (ziushr X3 hx hby at_52 ((p1.toUInt32 >>> ((2 : Int32) &&& 31).toUInt32).toInt32) rfl (ziconst X3 hx hby at_53 (z := (3 : Int32)) rfl (ziand X3 hx hby at_54 (((p1.toUInt32 >>> ((2 : Int32) &&& 31).toUInt32).toInt32) &&& (3 : Int32)) rfl ?_)))))))))
      show zEnds p e below s T3 (mkF m 55 #[iv p1, iv p2, iv p3, iv p4, rv b1, iv 0, iv 0, iv 2, .unset, .unset, .unset, .unset] [(.int (((p1.toUInt32 >>> ((2 : Int32) &&& 31).toUInt32).toInt32) &&& (3 : Int32))), (.int 0), (.ref b1)]) _ _ _
      generalize e_vs1 : (((p1.toUInt32 >>> ((2 : Int32) &&& 31).toUInt32).toInt32) &&& (3 : Int32)) = vs1
      refine zcalls X3 hx hby at_55 hZ hown (w2 hw) (w3 hw) (w4 hw) (w5 hw) e3 (c11_esc l hw [] ⟨S_w_arr0, A_w_arr0, Al_w_arr0⟩ O3 (zsz O3) vs1 b1 va vb (0 : Int32) (0 : Int32) (0 : Int32) (0 : Int32) (0 : Int32) (0 : Int32) (0 : Int32) (0 : Int32) (0 : Int32) (0 : Int32) (0 : Int32) (0 : Int32) (0 : Int32) (0 : Int32) (0 : Int32) (0 : Int32) (0 : Int32) (0 : Int32) g1 A3_b1) hml 0 pd_0 (argsL := [(.ref b1), (.int 0), (.int vs1)]) (st := []) fun T55 h55 v55 L55 e55 X55 q55 => ?_
      obtain ⟨rfl, N55q, K55q, A55_b1⟩ := q55
      have O55 := O3.keep K55q (allS g1 all0)
      have N55 := Fr.app N3 N55q
      show zEnds p e below s T55 (mkF m 58 #[iv p1, iv p2, iv p3, iv p4, rv b1, iv 0, iv 0, iv 2, .unset, .unset, .unset, .unset] [(.int 3)]) _ _ _
      refine zistore X55 hx hby at_58 (L' := #[iv p1, iv p2, iv p3, iv p4, rv b1, iv 0, iv 3, iv 2, .unset, .unset, .unset, .unset]) rfl (ziload X55 hx hby at_60 rfl (ziconst X55 hx hby at_62 (z := (1 : Int32)) rfl (zicmpNo X55 hx hby at_63 (by decide) (zaload X55 hx hby at_66 rfl rfl (ziload X55 hx hby at_68 rfl (ziloadN X55 hx hby at_70 rfl (ziconst X55 hx hby at_71 (z := (4 : Int32)) rfl (ziushr X55 hx hby at_72 ((p1.toUInt32 >>> ((4 : Int32) &&& 31).toUInt32).toInt32) rfl (ziconst X55 hx hby at_73 (z := (3 : Int32)) rfl ?_)))))))))
      show zEnds p e below s T55 (mkF m 74 #[iv p1, iv p2, iv p3, iv p4, rv b1, iv 0, iv 3, iv 2, .unset, .unset, .unset, .unset] [(.int 3), (.int ((p1.toUInt32 >>> ((4 : Int32) &&& 31).toUInt32).toInt32)), (.int 3), (.ref b1)]) _ _ _
      refine ziand X55 hx hby at_74 (((p1.toUInt32 >>> ((4 : Int32) &&& 31).toUInt32).toInt32) &&& (3 : Int32)) rfl ?_
      show zEnds p e below s T55 (mkF m 75 #[iv p1, iv p2, iv p3, iv p4, rv b1, iv 0, iv 3, iv 2, .unset, .unset, .unset, .unset] [(.int (((p1.toUInt32 >>> ((4 : Int32) &&& 31).toUInt32).toInt32) &&& (3 : Int32))), (.int 3), (.ref b1)]) _ _ _
      generalize e_vs2 : (((p1.toUInt32 >>> ((4 : Int32) &&& 31).toUInt32).toInt32) &&& (3 : Int32)) = vs2
      refine zcalls X55 hx hby at_75 hZ hown (w2 hw) (w3 hw) (w4 hw) (w5 hw) e55 (c23_esc l hw [] ⟨S_w_arr0, A_w_arr0, Al_w_arr0⟩ O55 (zsz O55) vs2 b1 (27 : Int32) ((e1v vs1).toInt8.toInt32) ((e2v vs1).toInt8.toInt32) (0 : Int32) (0 : Int32) (0 : Int32) (0 : Int32) (0 : Int32) (0 : Int32) (0 : Int32) (0 : Int32) (0 : Int32) (0 : Int32) (0 : Int32) (0 : Int32) (0 : Int32) (0 : Int32) (0 : Int32) (0 : Int32) (0 : Int32) g1 A55_b1) hml 0 pd_0 (argsL := [(.ref b1), (.int 3), (.int vs2)]) (st := []) fun T56 h56 v56 L56 e56 X56 q56 => ?_
      obtain ⟨rfl, N56q, K56q, A56_b1⟩ := q56
      have O56 := O55.keep K56q (allS g1 all0)
      have N56 := Fr.app N55 N56q
      show zEnds p e below s T56 (mkF m 78 #[iv p1, iv p2, iv p3, iv p4, rv b1, iv 0, iv 3, iv 2, .unset, .unset, .unset, .unset] [(.int 6)]) _ _ _
      refine zistore X56 hx hby at_78 (L' := #[iv p1, iv p2, iv p3, iv p4, rv b1, iv 0, iv 6, iv 2, .unset, .unset, .unset, .unset]) rfl (ziload X56 hx hby at_80 rfl (ziconst X56 hx hby at_82 (z := (2 : Int32)) rfl (zicmpYes X56 hx hby at_83 101 (by decide) (by decide) (by decide) (ziload X56 hx hby at_101 rfl (zistore X56 hx hby at_103 (L' := #[iv p1, iv p2, iv p3, iv p4, rv b1, iv 0, iv 6, iv 2, iv 6, .unset, .unset, .unset]) rfl (ziloadN X56 hx hby at_105 rfl (ziconst X56 hx hby at_106 (z := (3 : Int32)) rfl (ziand X56 hx hby at_107 (p2 &&& (3 : Int32)) rfl ?_))))))))
      show zEnds p e below s T56 (mkF m 108 #[iv p1, iv p2, iv p3, iv p4, rv b1, iv 0, iv 6, iv 2, iv 6, .unset, .unset, .unset] [(.int (p2 &&& (3 : Int32)))]) _ _ _
      rcases (and_3 p2) with q57 | q57 | q57 | q57
      · rw [q57]
        refine zistore X56 hx hby at_108 (L' := #[iv p1, iv p2, iv p3, iv p4, rv b1, iv 0, iv 6, iv 2, iv 6, iv 0, .unset, .unset]) rfl (ziloadN X56 hx hby at_110 rfl (ziconst X56 hx hby at_111 (z := (2 : Int32)) rfl (ziushr X56 hx hby at_112 ((p2.toUInt32 >>> ((2 : Int32) &&& 31).toUInt32).toInt32) rfl (zbipush X56 hx hby at_113 (z := (127 : Int32)) rfl (ziand X56 hx hby at_115 (((p2.toUInt32 >>> ((2 : Int32) &&& 31).toUInt32).toInt32) &&& (127 : Int32)) rfl ?_)))))
        show zEnds p e below s T56 (mkF m 116 #[iv p1, iv p2, iv p3, iv p4, rv b1, iv 0, iv 6, iv 2, iv 6, iv 0, .unset, .unset] [(.int (((p2.toUInt32 >>> ((2 : Int32) &&& 31).toUInt32).toInt32) &&& (127 : Int32)))]) _ _ _
        generalize e_vc : (((p2.toUInt32 >>> ((2 : Int32) &&& 31).toUInt32).toInt32) &&& (127 : Int32)) = vc
        have kc : 0 ≤ vc.toInt ∧ vc.toInt ≤ 127 := by rw [← e_vc]; exact own_c _
        refine zistore X56 hx hby at_116 (L' := #[iv p1, iv p2, iv p3, iv p4, rv b1, iv 0, iv 6, iv 2, iv 6, iv 0, iv vc, .unset]) rfl (ziload X56 hx hby at_118 rfl (ziconst X56 hx hby at_120 (z := (1 : Int32)) rfl (zicmpNo X56 hx hby at_121 (by decide) (ziload X56 hx hby at_124 rfl (ziconst X56 hx hby at_126 (z := (3 : Int32)) rfl (zicmpYes X56 hx hby at_127 140 (by decide) (by decide) (by decide) (ziload X56 hx hby at_140 rfl (ziconst X56 hx hby at_142 (z := (1 : Int32)) rfl (zicmpYes X56 hx hby at_143 163 (by decide) (by decide) (by decide) ?_)))))))))
        show zEnds p e below s T56 (mkF m 163 #[iv p1, iv p2, iv p3, iv p4, rv b1, iv 0, iv 6, iv 2, iv 6, iv 0, iv vc, .unset] []) _ _ _
        refine ziload X56 hx hby at_163 rfl (ziconst X56 hx hby at_165 (z := (2 : Int32)) rfl (zicmpYes X56 hx hby at_166 220 (by decide) (by decide) (by decide) (ziload X56 hx hby at_220 rfl (ziconst X56 hx hby at_222 (z := (3 : Int32)) rfl (zicmpYes X56 hx hby at_223 251 (by decide) (by decide) (by decide) (ziload X56 hx hby at_251 rfl (zistore X56 hx hby at_253 (L' := #[iv p1, iv p2, iv p3, iv p4, rv b1, iv 0, iv 6, iv 2, iv 6, iv 0, iv vc, iv 6]) rfl (zaload X56 hx hby at_255 rfl rfl (ziload X56 hx hby at_257 rfl ?_)))))))))
        show zEnds p e below s T56 (mkF m 259 #[iv p1, iv p2, iv p3, iv p4, rv b1, iv 0, iv 6, iv 2, iv 6, iv 0, iv vc, iv 6] [(.int 6), (.ref b1)]) _ _ _
        refine ziloadN X56 hx hby at_259 rfl (zi2b X56 hx hby at_260 (p4.toInt8.toInt32) rfl ?_)
        show zEnds p e below s T56 (mkF m 261 #[iv p1, iv p2, iv p3, iv p4, rv b1, iv 0, iv 6, iv 2, iv 6, iv 0, iv vc, iv 6] [(.int (p4.toInt8.toInt32)), (.int 6), (.ref b1)]) _ _ _
        generalize e_vy : (p4.toInt8.toInt32) = vy
        have hn_vy : nar .byte vy = vy := by rw [← e_vy]; exact own_nar8 _
        refine zbastore X56 hx hby at_261 hZ e56 A56_b1 (by decide) (by show Int32.toNatClampNeg 6 < 20; decide) vy hn_vy fun T58 h58 X58 e58 W58 A58_b1 => ?_
        change zLst Z h58 b1 .byte [(.int 27), (.int ((e1v vs1).toInt8.toInt32)), (.int ((e2v vs1).toInt8.toInt32)), (.int 27), (.int ((e1v vs2).toInt8.toInt32)), (.int ((e2v vs2).toInt8.toInt32)), (.int vy), (.int 0), (.int 0), (.int 0), (.int 0), (.int 0), (.int 0), (.int 0), (.int 0), (.int 0), (.int 0), (.int 0), (.int 0), (.int 0)] at A58_b1
        have O58 := O56.wr W58 g1
        have N58 := Fr.snoc X58 N56 g1
        refine zaload X58 hx hby at_262 rfl rfl (ziload X58 hx hby at_264 rfl (ziconst X58 hx hby at_266 (z := (1 : Int32)) rfl (ziadd X58 hx hby at_267 (7 : Int32) (by decide) (ziloadN X58 hx hby at_268 rfl (zbipush X58 hx hby at_269 (z := (8 : Int32)) rfl (ziushr X58 hx hby at_271 ((p4.toUInt32 >>> ((8 : Int32) &&& 31).toUInt32).toInt32) rfl (zi2b X58 hx hby at_272 (((p4.toUInt32 >>> ((8 : Int32) &&& 31).toUInt32).toInt32).toInt8.toInt32) rfl ?_)))))))
        show zEnds p e below s T58 (mkF m 273 #[iv p1, iv p2, iv p3, iv p4, rv b1, iv 0, iv 6, iv 2, iv 6, iv 0, iv vc, iv 6] [(.int (((p4.toUInt32 >>> ((8 : Int32) &&& 31).toUInt32).toInt32).toInt8.toInt32)), (.int 7), (.ref b1)]) _ _ _
        generalize e_vz : (((p4.toUInt32 >>> ((8 : Int32) &&& 31).toUInt32).toInt32).toInt8.toInt32) = vz
        have hn_vz : nar .byte vz = vz := by rw [← e_vz]; exact own_nar8 _
        refine zbastore X58 hx hby at_273 hZ e58 A58_b1 (by decide) (by show Int32.toNatClampNeg 7 < 20; decide) vz hn_vz fun T59 h59 X59 e59 W59 A59_b1 => ?_
        change zLst Z h59 b1 .byte [(.int 27), (.int ((e1v vs1).toInt8.toInt32)), (.int ((e2v vs1).toInt8.toInt32)), (.int 27), (.int ((e1v vs2).toInt8.toInt32)), (.int ((e2v vs2).toInt8.toInt32)), (.int vy), (.int vz), (.int 0), (.int 0), (.int 0), (.int 0), (.int 0), (.int 0), (.int 0), (.int 0), (.int 0), (.int 0), (.int 0), (.int 0)] at A59_b1
        have O59 := O58.wr W59 g1
        have N59 := Fr.snoc X59 N58 g1
        refine zaload X59 hx hby at_274 rfl rfl (ziload X59 hx hby at_276 rfl (ziload X59 hx hby at_278 rfl (zcalls X59 hx hby at_280 hZ hown (w6 hw) (w7 hw) (w8 hw) (w9 hw) e59 (c25_firstCharacter l hw [] ⟨S_w_arr0, A_w_arr0, Al_w_arr0⟩ O59 (zsz O59) b1 ((e1v vs1).toInt8.toInt32) ((e2v vs1).toInt8.toInt32) ((e1v vs2).toInt8.toInt32) ((e2v vs2).toInt8.toInt32) vy vz g1 A59_b1) hml 0 pd_0 (argsL := [(.ref b1), (.int 0), (.int 6)]) (st := []) (zpureK ⟨rfl, rfl⟩ fun T60 X60 e60 => ?_))))
        show zEnds p e below s T60 (mkF m 283 #[iv p1, iv p2, iv p3, iv p4, rv b1, iv 0, iv 6, iv 2, iv 6, iv 0, iv vc, iv 6] [(.int 6)]) _ _ _
        refine ziload X60 hx hby at_283 rfl (zicmpNo X60 hx hby at_285 (by decide) (ziconst X60 hx hby at_288 (z := (1 : Int32)) rfl (zgoto X60 hx hby at_289 293 (by decide) (by decide) ?_)))
        show zEnds p e below s T60 (mkF m 293 #[iv p1, iv p2, iv p3, iv p4, rv b1, iv 0, iv 6, iv 2, iv 6, iv 0, iv vc, iv 6] [(.int 1)]) _ _ _
        exact zretZ X60 hx hby at_293 hret hlk (by simp) rfl (by decide) (by decide) ⟨rfl, N59⟩
      · rw [q57]
        refine zistore X56 hx hby at_108 (L' := #[iv p1, iv p2, iv p3, iv p4, rv b1, iv 0, iv 6, iv 2, iv 6, iv 1, .unset, .unset]) rfl (ziloadN X56 hx hby at_110 rfl (ziconst X56 hx hby at_111 (z := (2 : Int32)) rfl (ziushr X56 hx hby at_112 ((p2.toUInt32 >>> ((2 : Int32) &&& 31).toUInt32).toInt32) rfl (zbipush X56 hx hby at_113 (z := (127 : Int32)) rfl (ziand X56 hx hby at_115 (((p2.toUInt32 >>> ((2 : Int32) &&& 31).toUInt32).toInt32) &&& (127 : Int32)) rfl ?_)))))
        show zEnds p e below s T56 (mkF m 116 #[iv p1, iv p2, iv p3, iv p4, rv b1, iv 0, iv 6, iv 2, iv 6, iv 1, .unset, .unset] [(.int (((p2.toUInt32 >>> ((2 : Int32) &&& 31).toUInt32).toInt32) &&& (127 : Int32)))]) _ _ _
        generalize e_vc : (((p2.toUInt32 >>> ((2 : Int32) &&& 31).toUInt32).toInt32) &&& (127 : Int32)) = vc
        have kc : 0 ≤ vc.toInt ∧ vc.toInt ≤ 127 := by rw [← e_vc]; exact own_c _
        refine zistore X56 hx hby at_116 (L' := #[iv p1, iv p2, iv p3, iv p4, rv b1, iv 0, iv 6, iv 2, iv 6, iv 1, iv vc, .unset]) rfl (ziload X56 hx hby at_118 rfl (ziconst X56 hx hby at_120 (z := (1 : Int32)) rfl (zicmpYes X56 hx hby at_121 130 (by decide) (by decide) (by decide) (ziload X56 hx hby at_130 rfl (zbipush X56 hx hby at_132 (z := (27 : Int32)) rfl ?_)))))
        show zEnds p e below s T56 (mkF m 134 #[iv p1, iv p2, iv p3, iv p4, rv b1, iv 0, iv 6, iv 2, iv 6, iv 1, iv vc, .unset] [(.int 27), (.int vc)]) _ _ _
        by_cases hc27 : vc = (27 : Int32)
        · show zEnds p e below s T56 (mkF m 134 #[iv p1, iv p2, iv p3, iv p4, rv b1, iv 0, iv 6, iv 2, iv 6, iv 1, iv vc, .unset] [(.int 27), (.int vc)]) _ _ _
          refine zicmpNo X56 hx hby at_134 (teq hc27).2 (ziconst X56 hx hby at_137 (z := (0 : Int32)) rfl (zistore X56 hx hby at_138 (L' := #[iv p1, iv p2, iv p3, iv p4, rv b1, iv 0, iv 6, iv 2, iv 6, iv 0, iv vc, .unset]) rfl (ziload X56 hx hby at_140 rfl (ziconst X56 hx hby at_142 (z := (1 : Int32)) rfl (zicmpYes X56 hx hby at_143 163 (by decide) (by decide) (by decide) (ziload X56 hx hby at_163 rfl (ziconst X56 hx hby at_165 (z := (2 : Int32)) rfl (zicmpYes X56 hx hby at_166 220 (by decide) (by decide) (by decide) (ziload X56 hx hby at_220 rfl ?_)))))))))
          show zEnds p e below s T56 (mkF m 222 #[iv p1, iv p2, iv p3, iv p4, rv b1, iv 0, iv 6, iv 2, iv 6, iv 0, iv vc, .unset] [(.int 0)]) _ _ _
          refine ziconst X56 hx hby at_222 (z := (3 : Int32)) rfl (zicmpYes X56 hx hby at_223 251 (by decide) (by decide) (by decide) (ziload X56 hx hby at_251 rfl (zistore X56 hx hby at_253 (L' := #[iv p1, iv p2, iv p3, iv p4, rv b1, iv 0, iv 6, iv 2, iv 6, iv 0, iv vc, iv 6]) rfl (zaload X56 hx hby at_255 rfl rfl (ziload X56 hx hby at_257 rfl (ziloadN X56 hx hby at_259 rfl (zi2b X56 hx hby at_260 (p4.toInt8.toInt32) rfl ?_)))))))
          show zEnds p e below s T56 (mkF m 261 #[iv p1, iv p2, iv p3, iv p4, rv b1, iv 0, iv 6, iv 2, iv 6, iv 0, iv vc, iv 6] [(.int (p4.toInt8.toInt32)), (.int 6), (.ref b1)]) _ _ _
          generalize e_vy : (p4.toInt8.toInt32) = vy
          have hn_vy : nar .byte vy = vy := by rw [← e_vy]; exact own_nar8 _
          refine zbastore X56 hx hby at_261 hZ e56 A56_b1 (by decide) (by show Int32.toNatClampNeg 6 < 20; decide) vy hn_vy fun T61 h61 X61 e61 W61 A61_b1 => ?_
          change zLst Z h61 b1 .byte [(.int 27), (.int ((e1v vs1).toInt8.toInt32)), (.int ((e2v vs1).toInt8.toInt32)), (.int 27), (.int ((e1v vs2).toInt8.toInt32)), (.int ((e2v vs2).toInt8.toInt32)), (.int vy), (.int 0), (.int 0), (.int 0), (.int 0), (.int 0), (.int 0), (.int 0), (.int 0), (.int 0), (.int 0), (.int 0), (.int 0), (.int 0)] at A61_b1
          have O61 := O56.wr W61 g1
          have N61 := Fr.snoc X61 N56 g1
          refine zaload X61 hx hby at_262 rfl rfl (ziload X61 hx hby at_264 rfl (ziconst X61 hx hby at_266 (z := (1 : Int32)) rfl (ziadd X61 hx hby at_267 (7 : Int32) (by decide) (ziloadN X61 hx hby at_268 rfl (zbipush X61 hx hby at_269 (z := (8 : Int32)) rfl (ziushr X61 hx hby at_271 ((p4.toUInt32 >>> ((8 : Int32) &&& 31).toUInt32).toInt32) rfl (zi2b X61 hx hby at_272 (((p4.toUInt32 >>> ((8 : Int32) &&& 31).toUInt32).toInt32).toInt8.toInt32) rfl ?_)))))))
          show zEnds p e below s T61 (mkF m 273 #[iv p1, iv p2, iv p3, iv p4, rv b1, iv 0, iv 6, iv 2, iv 6, iv 0, iv vc, iv 6] [(.int (((p4.toUInt32 >>> ((8 : Int32) &&& 31).toUInt32).toInt32).toInt8.toInt32)), (.int 7), (.ref b1)]) _ _ _
          generalize e_vz : (((p4.toUInt32 >>> ((8 : Int32) &&& 31).toUInt32).toInt32).toInt8.toInt32) = vz
          have hn_vz : nar .byte vz = vz := by rw [← e_vz]; exact own_nar8 _
          refine zbastore X61 hx hby at_273 hZ e61 A61_b1 (by decide) (by show Int32.toNatClampNeg 7 < 20; decide) vz hn_vz fun T62 h62 X62 e62 W62 A62_b1 => ?_
          change zLst Z h62 b1 .byte [(.int 27), (.int ((e1v vs1).toInt8.toInt32)), (.int ((e2v vs1).toInt8.toInt32)), (.int 27), (.int ((e1v vs2).toInt8.toInt32)), (.int ((e2v vs2).toInt8.toInt32)), (.int vy), (.int vz), (.int 0), (.int 0), (.int 0), (.int 0), (.int 0), (.int 0), (.int 0), (.int 0), (.int 0), (.int 0), (.int 0), (.int 0)] at A62_b1
          have O62 := O61.wr W62 g1
          have N62 := Fr.snoc X62 N61 g1
          refine zaload X62 hx hby at_274 rfl rfl (ziload X62 hx hby at_276 rfl (ziload X62 hx hby at_278 rfl (zcalls X62 hx hby at_280 hZ hown (w6 hw) (w7 hw) (w8 hw) (w9 hw) e62 (c25_firstCharacter l hw [] ⟨S_w_arr0, A_w_arr0, Al_w_arr0⟩ O62 (zsz O62) b1 ((e1v vs1).toInt8.toInt32) ((e2v vs1).toInt8.toInt32) ((e1v vs2).toInt8.toInt32) ((e2v vs2).toInt8.toInt32) vy vz g1 A62_b1) hml 0 pd_0 (argsL := [(.ref b1), (.int 0), (.int 6)]) (st := []) (zpureK ⟨rfl, rfl⟩ fun T63 X63 e63 => ?_))))
          show zEnds p e below s T63 (mkF m 283 #[iv p1, iv p2, iv p3, iv p4, rv b1, iv 0, iv 6, iv 2, iv 6, iv 0, iv vc, iv 6] [(.int 6)]) _ _ _
          refine ziload X63 hx hby at_283 rfl (zicmpNo X63 hx hby at_285 (by decide) (ziconst X63 hx hby at_288 (z := (1 : Int32)) rfl (zgoto X63 hx hby at_289 293 (by decide) (by decide) ?_)))
          show zEnds p e below s T63 (mkF m 293 #[iv p1, iv p2, iv p3, iv p4, rv b1, iv 0, iv 6, iv 2, iv 6, iv 0, iv vc, iv 6] [(.int 1)]) _ _ _
          exact zretZ X63 hx hby at_293 hret hlk (by simp) rfl (by decide) (by decide) ⟨rfl, N62⟩
        · show zEnds p e below s T56 (mkF m 134 #[iv p1, iv p2, iv p3, iv p4, rv b1, iv 0, iv 6, iv 2, iv 6, iv 1, iv vc, .unset] [(.int 27), (.int vc)]) _ _ _
          refine zicmpYes X56 hx hby at_134 140 (feq hc27).2 (by decide) (by decide) (ziload X56 hx hby at_140 rfl (ziconst X56 hx hby at_142 (z := (1 : Int32)) rfl (zicmpNo X56 hx hby at_143 (by decide) (zaload X56 hx hby at_146 rfl rfl (ziload X56 hx hby at_148 rfl (ziload X56 hx hby at_150 rfl (zi2b X56 hx hby at_152 (vc.toInt8.toInt32) rfl ?_)))))))
          show zEnds p e below s T56 (mkF m 153 #[iv p1, iv p2, iv p3, iv p4, rv b1, iv 0, iv 6, iv 2, iv 6, iv 1, iv vc, .unset] [(.int (vc.toInt8.toInt32)), (.int 6), (.ref b1)]) _ _ _
          generalize e_vd : (vc.toInt8.toInt32) = vd
          have hn_vd : nar .byte vd = vd := by rw [← e_vd]; exact own_nar8 _
          have h27_vd : ¬ (vd = (27 : Int32)) := by rw [← e_vd]; exact own_27 kc hc27
          refine zbastore X56 hx hby at_153 hZ e56 A56_b1 (by decide) (by show Int32.toNatClampNeg 6 < 20; decide) vd hn_vd fun T64 h64 X64 e64 W64 A64_b1 => ?_
          change zLst Z h64 b1 .byte [(.int 27), (.int ((e1v vs1).toInt8.toInt32)), (.int ((e2v vs1).toInt8.toInt32)), (.int 27), (.int ((e1v vs2).toInt8.toInt32)), (.int ((e2v vs2).toInt8.toInt32)), (.int vd), (.int 0), (.int 0), (.int 0), (.int 0), (.int 0), (.int 0), (.int 0), (.int 0), (.int 0), (.int 0), (.int 0), (.int 0), (.int 0)] at A64_b1
          have O64 := O56.wr W64 g1
          have N64 := Fr.snoc X64 N56 g1
          refine ziload X64 hx hby at_154 rfl (ziconst X64 hx hby at_156 (z := (1 : Int32)) rfl (ziadd X64 hx hby at_157 (7 : Int32) (by decide) (zistore X64 hx hby at_158 (L' := #[iv p1, iv p2, iv p3, iv p4, rv b1, iv 0, iv 7, iv 2, iv 6, iv 1, iv vc, .unset]) rfl (zgoto X64 hx hby at_160 251 (by decide) (by decide) (ziload X64 hx hby at_251 rfl (zistore X64 hx hby at_253 (L' := #[iv p1, iv p2, iv p3, iv p4, rv b1, iv 0, iv 7, iv 2, iv 6, iv 1, iv vc, iv 7]) rfl (zaload X64 hx hby at_255 rfl rfl (ziload X64 hx hby at_257 rfl (ziloadN X64 hx hby at_259 rfl ?_)))))))))
          show zEnds p e below s T64 (mkF m 260 #[iv p1, iv p2, iv p3, iv p4, rv b1, iv 0, iv 7, iv 2, iv 6, iv 1, iv vc, iv 7] [(.int p4), (.int 7), (.ref b1)]) _ _ _
          refine zi2b X64 hx hby at_260 (p4.toInt8.toInt32) rfl ?_
          show zEnds p e below s T64 (mkF m 261 #[iv p1, iv p2, iv p3, iv p4, rv b1, iv 0, iv 7, iv 2, iv 6, iv 1, iv vc, iv 7] [(.int (p4.toInt8.toInt32)), (.int 7), (.ref b1)]) _ _ _
          generalize e_vy : (p4.toInt8.toInt32) = vy
          have hn_vy : nar .byte vy = vy := by rw [← e_vy]; exact own_nar8 _
          refine zbastore X64 hx hby at_261 hZ e64 A64_b1 (by decide) (by show Int32.toNatClampNeg 7 < 20; decide) vy hn_vy fun T65 h65 X65 e65 W65 A65_b1 => ?_
          change zLst Z h65 b1 .byte [(.int 27), (.int ((e1v vs1).toInt8.toInt32)), (.int ((e2v vs1).toInt8.toInt32)), (.int 27), (.int ((e1v vs2).toInt8.toInt32)), (.int ((e2v vs2).toInt8.toInt32)), (.int vd), (.int vy), (.int 0), (.int 0), (.int 0), (.int 0), (.int 0), (.int 0), (.int 0), (.int 0), (.int 0), (.int 0), (.int 0), (.int 0)] at A65_b1
          have O65 := O64.wr W65 g1
          have N65 := Fr.snoc X65 N64 g1
          refine zaload X65 hx hby at_262 rfl rfl (ziload X65 hx hby at_264 rfl (ziconst X65 hx hby at_266 (z := (1 : Int32)) rfl (ziadd X65 hx hby at_267 (8 : Int32) (by decide) (ziloadN X65 hx hby at_268 rfl (zbipush X65 hx hby at_269 (z := (8 : Int32)) rfl (ziushr X65 hx hby at_271 ((p4.toUInt32 >>> ((8 : Int32) &&& 31).toUInt32).toInt32) rfl (zi2b X65 hx hby at_272 (((p4.toUInt32 >>> ((8 : Int32) &&& 31).toUInt32).toInt32).toInt8.toInt32) rfl ?_)))))))
          show zEnds p e below s T65 (mkF m 273 #[iv p1, iv p2, iv p3, iv p4, rv b1, iv 0, iv 7, iv 2, iv 6, iv 1, iv vc, iv 7] [(.int (((p4.toUInt32 >>> ((8 : Int32) &&& 31).toUInt32).toInt32).toInt8.toInt32)), (.int 8), (.ref b1)]) _ _ _
          generalize e_vz : (((p4.toUInt32 >>> ((8 : Int32) &&& 31).toUInt32).toInt32).toInt8.toInt32) = vz
          have hn_vz : nar .byte vz = vz := by rw [← e_vz]; exact own_nar8 _
          refine zbastore X65 hx hby at_273 hZ e65 A65_b1 (by decide) (by show Int32.toNatClampNeg 8 < 20; decide) vz hn_vz fun T66 h66 X66 e66 W66 A66_b1 => ?_
          change zLst Z h66 b1 .byte [(.int 27), (.int ((e1v vs1).toInt8.toInt32)), (.int ((e2v vs1).toInt8.toInt32)), (.int 27), (.int ((e1v vs2).toInt8.toInt32)), (.int ((e2v vs2).toInt8.toInt32)), (.int vd), (.int vy), (.int vz), (.int 0), (.int 0), (.int 0), (.int 0), (.int 0), (.int 0), (.int 0), (.int 0), (.int 0), (.int 0), (.int 0)] at A66_b1
          have O66 := O65.wr W66 g1
          have N66 := Fr.snoc X66 N65 g1
          refine zaload X66 hx hby at_274 rfl rfl (ziload X66 hx hby at_276 rfl (ziload X66 hx hby at_278 rfl (zcalls X66 hx hby at_280 hZ hown (w6 hw) (w7 hw) (w8 hw) (w9 hw) e66 (c27_firstCharacter l hw [] ⟨S_w_arr0, A_w_arr0, Al_w_arr0⟩ O66 (zsz O66) b1 ((e1v vs1).toInt8.toInt32) ((e2v vs1).toInt8.toInt32) ((e1v vs2).toInt8.toInt32) ((e2v vs2).toInt8.toInt32) vd vy vz g1 A66_b1 h27_vd) hml 0 pd_0 (argsL := [(.ref b1), (.int 0), (.int 7)]) (st := []) (zpureK ⟨rfl, rfl⟩ fun T67 X67 e67 => ?_))))
          show zEnds p e below s T67 (mkF m 283 #[iv p1, iv p2, iv p3, iv p4, rv b1, iv 0, iv 7, iv 2, iv 6, iv 1, iv vc, iv 7] [(.int 6)]) _ _ _
          refine ziload X67 hx hby at_283 rfl (zicmpNo X67 hx hby at_285 (by decide) (ziconst X67 hx hby at_288 (z := (1 : Int32)) rfl (zgoto X67 hx hby at_289 293 (by decide) (by decide) ?_)))
          show zEnds p e below s T67 (mkF m 293 #[iv p1, iv p2, iv p3, iv p4, rv b1, iv 0, iv 7, iv 2, iv 6, iv 1, iv vc, iv 7] [(.int 1)]) _ _ _
          exact zretZ X67 hx hby at_293 hret hlk (by simp) rfl (by decide) (by decide) ⟨rfl, N66⟩
      · rw [q57]
        refine zistore X56 hx hby at_108 (L' := #[iv p1, iv p2, iv p3, iv p4, rv b1, iv 0, iv 6, iv 2, iv 6, iv 2, .unset, .unset]) rfl (ziloadN X56 hx hby at_110 rfl (ziconst X56 hx hby at_111 (z := (2 : Int32)) rfl (ziushr X56 hx hby at_112 ((p2.toUInt32 >>> ((2 : Int32) &&& 31).toUInt32).toInt32) rfl (zbipush X56 hx hby at_113 (z := (127 : Int32)) rfl (ziand X56 hx hby at_115 (((p2.toUInt32 >>> ((2 : Int32) &&& 31).toUInt32).toInt32) &&& (127 : Int32)) rfl ?_)))))
        show zEnds p e below s T56 (mkF m 116 #[iv p1, iv p2, iv p3, iv p4, rv b1, iv 0, iv 6, iv 2, iv 6, iv 2, .unset, .unset] [(.int (((p2.toUInt32 >>> ((2 : Int32) &&& 31).toUInt32).toInt32) &&& (127 : Int32)))]) _ _ _
        generalize e_vc : (((p2.toUInt32 >>> ((2 : Int32) &&& 31).toUInt32).toInt32) &&& (127 : Int32)) = vc
        have kc : 0 ≤ vc.toInt ∧ vc.toInt ≤ 127 := by rw [← e_vc]; exact own_c _
        refine zistore X56 hx hby at_116 (L' := #[iv p1, iv p2, iv p3, iv p4, rv b1, iv 0, iv 6, iv 2, iv 6, iv 2, iv vc, .unset]) rfl (ziload X56 hx hby at_118 rfl (ziconst X56 hx hby at_120 (z := (1 : Int32)) rfl (zicmpNo X56 hx hby at_121 (by decide) (ziload X56 hx hby at_124 rfl (ziconst X56 hx hby at_126 (z := (3 : Int32)) rfl (zicmpYes X56 hx hby at_127 140 (by decide) (by decide) (by decide) (ziload X56 hx hby at_140 rfl (ziconst X56 hx hby at_142 (z := (1 : Int32)) rfl (zicmpYes X56 hx hby at_143 163 (by decide) (by decide) (by decide) ?_)))))))))
        show zEnds p e below s T56 (mkF m 163 #[iv p1, iv p2, iv p3, iv p4, rv b1, iv 0, iv 6, iv 2, iv 6, iv 2, iv vc, .unset] []) _ _ _
        refine ziload X56 hx hby at_163 rfl (ziconst X56 hx hby at_165 (z := (2 : Int32)) rfl (zicmpNo X56 hx hby at_166 (by decide) (zaload X56 hx hby at_169 rfl rfl (ziload X56 hx hby at_171 rfl (zbipush X56 hx hby at_173 (z := (48 : Int32)) rfl (ziloadN X56 hx hby at_175 rfl (zbipush X56 hx hby at_176 (z := (9 : Int32)) rfl (ziushr X56 hx hby at_178 ((p2.toUInt32 >>> ((9 : Int32) &&& 31).toUInt32).toInt32) rfl (zsipush X56 hx hby at_179 (z := (255 : Int32)) rfl ?_)))))))))
        show zEnds p e below s T56 (mkF m 182 #[iv p1, iv p2, iv p3, iv p4, rv b1, iv 0, iv 6, iv 2, iv 6, iv 2, iv vc, .unset] [(.int 255), (.int ((p2.toUInt32 >>> ((9 : Int32) &&& 31).toUInt32).toInt32)), (.int 48), (.int 6), (.ref b1)]) _ _ _
        refine ziand X56 hx hby at_182 (((p2.toUInt32 >>> ((9 : Int32) &&& 31).toUInt32).toInt32) &&& (255 : Int32)) rfl (zbipush X56 hx hby at_183 (z := (31 : Int32)) rfl (zirem X56 hx hby at_185 ((((p2.toUInt32 >>> ((9 : Int32) &&& 31).toUInt32).toInt32) &&& (255 : Int32)) % (31 : Int32)) (by decide) rfl (ziadd X56 hx hby at_186 ((48 : Int32) + ((((p2.toUInt32 >>> ((9 : Int32) &&& 31).toUInt32).toInt32) &&& (255 : Int32)) % (31 : Int32))) rfl (zi2b X56 hx hby at_187 (((48 : Int32) + ((((p2.toUInt32 >>> ((9 : Int32) &&& 31).toUInt32).toInt32) &&& (255 : Int32)) % (31 : Int32))).toInt8.toInt32) rfl ?_))))
        show zEnds p e below s T56 (mkF m 188 #[iv p1, iv p2, iv p3, iv p4, rv b1, iv 0, iv 6, iv 2, iv 6, iv 2, iv vc, .unset] [(.int (((48 : Int32) + ((((p2.toUInt32 >>> ((9 : Int32) &&& 31).toUInt32).toInt32) &&& (255 : Int32)) % (31 : Int32))).toInt8.toInt32)), (.int 6), (.ref b1)]) _ _ _
        generalize e_ve : (((48 : Int32) + ((((p2.toUInt32 >>> ((9 : Int32) &&& 31).toUInt32).toInt32) &&& (255 : Int32)) % (31 : Int32))).toInt8.toInt32) = ve
        have hn_ve : nar .byte ve = ve := by rw [← e_ve]; exact own_nar8 _
        have h27_ve : ¬ (ve = (27 : Int32)) := by rw [← e_ve]; exact own_48 _
        refine zbastore X56 hx hby at_188 hZ e56 A56_b1 (by decide) (by show Int32.toNatClampNeg 6 < 20; decide) ve hn_ve fun T68 h68 X68 e68 W68 A68_b1 => ?_
        change zLst Z h68 b1 .byte [(.int 27), (.int ((e1v vs1).toInt8.toInt32)), (.int ((e2v vs1).toInt8.toInt32)), (.int 27), (.int ((e1v vs2).toInt8.toInt32)), (.int ((e2v vs2).toInt8.toInt32)), (.int ve), (.int 0), (.int 0), (.int 0), (.int 0), (.int 0), (.int 0), (.int 0), (.int 0), (.int 0), (.int 0), (.int 0), (.int 0), (.int 0)] at A68_b1
        have O68 := O56.wr W68 g1
        have N68 := Fr.snoc X68 N56 g1
        refine zaload X68 hx hby at_189 rfl rfl (ziload X68 hx hby at_191 rfl (ziconst X68 hx hby at_193 (z := (1 : Int32)) rfl (ziadd X68 hx hby at_194 (7 : Int32) (by decide) (zbipush X68 hx hby at_195 (z := (33 : Int32)) rfl (ziloadN X68 hx hby at_197 rfl (zbipush X68 hx hby at_198 (z := (17 : Int32)) rfl (ziushr X68 hx hby at_200 ((p2.toUInt32 >>> ((17 : Int32) &&& 31).toUInt32).toInt32) rfl (zsipush X68 hx hby at_201 (z := (255 : Int32)) rfl (ziand X68 hx hby at_204 (((p2.toUInt32 >>> ((17 : Int32) &&& 31).toUInt32).toInt32) &&& (255 : Int32)) rfl ?_)))))))))
        show zEnds p e below s T68 (mkF m 205 #[iv p1, iv p2, iv p3, iv p4, rv b1, iv 0, iv 6, iv 2, iv 6, iv 2, iv vc, .unset] [(.int (((p2.toUInt32 >>> ((17 : Int32) &&& 31).toUInt32).toInt32) &&& (255 : Int32))), (.int 33), (.int 7), (.ref b1)]) _ _ _
        refine zbipush X68 hx hby at_205 (z := (94 : Int32)) rfl (zirem X68 hx hby at_207 ((((p2.toUInt32 >>> ((17 : Int32) &&& 31).toUInt32).toInt32) &&& (255 : Int32)) % (94 : Int32)) (by decide) rfl (ziadd X68 hx hby at_208 ((33 : Int32) + ((((p2.toUInt32 >>> ((17 : Int32) &&& 31).toUInt32).toInt32) &&& (255 : Int32)) % (94 : Int32))) rfl (zi2b X68 hx hby at_209 (((33 : Int32) + ((((p2.toUInt32 >>> ((17 : Int32) &&& 31).toUInt32).toInt32) &&& (255 : Int32)) % (94 : Int32))).toInt8.toInt32) rfl ?_)))
        show zEnds p e below s T68 (mkF m 210 #[iv p1, iv p2, iv p3, iv p4, rv b1, iv 0, iv 6, iv 2, iv 6, iv 2, iv vc, .unset] [(.int (((33 : Int32) + ((((p2.toUInt32 >>> ((17 : Int32) &&& 31).toUInt32).toInt32) &&& (255 : Int32)) % (94 : Int32))).toInt8.toInt32)), (.int 7), (.ref b1)]) _ _ _
        generalize e_vf : (((33 : Int32) + ((((p2.toUInt32 >>> ((17 : Int32) &&& 31).toUInt32).toInt32) &&& (255 : Int32)) % (94 : Int32))).toInt8.toInt32) = vf
        have hn_vf : nar .byte vf = vf := by rw [← e_vf]; exact own_nar8 _
        refine zbastore X68 hx hby at_210 hZ e68 A68_b1 (by decide) (by show Int32.toNatClampNeg 7 < 20; decide) vf hn_vf fun T69 h69 X69 e69 W69 A69_b1 => ?_
        change zLst Z h69 b1 .byte [(.int 27), (.int ((e1v vs1).toInt8.toInt32)), (.int ((e2v vs1).toInt8.toInt32)), (.int 27), (.int ((e1v vs2).toInt8.toInt32)), (.int ((e2v vs2).toInt8.toInt32)), (.int ve), (.int vf), (.int 0), (.int 0), (.int 0), (.int 0), (.int 0), (.int 0), (.int 0), (.int 0), (.int 0), (.int 0), (.int 0), (.int 0)] at A69_b1
        have O69 := O68.wr W69 g1
        have N69 := Fr.snoc X69 N68 g1
        refine ziload X69 hx hby at_211 rfl (ziconst X69 hx hby at_213 (z := (2 : Int32)) rfl (ziadd X69 hx hby at_214 (8 : Int32) (by decide) (zistore X69 hx hby at_215 (L' := #[iv p1, iv p2, iv p3, iv p4, rv b1, iv 0, iv 8, iv 2, iv 6, iv 2, iv vc, .unset]) rfl (zgoto X69 hx hby at_217 251 (by decide) (by decide) (ziload X69 hx hby at_251 rfl (zistore X69 hx hby at_253 (L' := #[iv p1, iv p2, iv p3, iv p4, rv b1, iv 0, iv 8, iv 2, iv 6, iv 2, iv vc, iv 8]) rfl (zaload X69 hx hby at_255 rfl rfl (ziload X69 hx hby at_257 rfl (ziloadN X69 hx hby at_259 rfl ?_)))))))))
        show zEnds p e below s T69 (mkF m 260 #[iv p1, iv p2, iv p3, iv p4, rv b1, iv 0, iv 8, iv 2, iv 6, iv 2, iv vc, iv 8] [(.int p4), (.int 8), (.ref b1)]) _ _ _
        refine zi2b X69 hx hby at_260 (p4.toInt8.toInt32) rfl ?_
        show zEnds p e below s T69 (mkF m 261 #[iv p1, iv p2, iv p3, iv p4, rv b1, iv 0, iv 8, iv 2, iv 6, iv 2, iv vc, iv 8] [(.int (p4.toInt8.toInt32)), (.int 8), (.ref b1)]) _ _ _
        generalize e_vy : (p4.toInt8.toInt32) = vy
        have hn_vy : nar .byte vy = vy := by rw [← e_vy]; exact own_nar8 _
        refine zbastore X69 hx hby at_261 hZ e69 A69_b1 (by decide) (by show Int32.toNatClampNeg 8 < 20; decide) vy hn_vy fun T70 h70 X70 e70 W70 A70_b1 => ?_
        change zLst Z h70 b1 .byte [(.int 27), (.int ((e1v vs1).toInt8.toInt32)), (.int ((e2v vs1).toInt8.toInt32)), (.int 27), (.int ((e1v vs2).toInt8.toInt32)), (.int ((e2v vs2).toInt8.toInt32)), (.int ve), (.int vf), (.int vy), (.int 0), (.int 0), (.int 0), (.int 0), (.int 0), (.int 0), (.int 0), (.int 0), (.int 0), (.int 0), (.int 0)] at A70_b1
        have O70 := O69.wr W70 g1
        have N70 := Fr.snoc X70 N69 g1
        refine zaload X70 hx hby at_262 rfl rfl (ziload X70 hx hby at_264 rfl (ziconst X70 hx hby at_266 (z := (1 : Int32)) rfl (ziadd X70 hx hby at_267 (9 : Int32) (by decide) (ziloadN X70 hx hby at_268 rfl (zbipush X70 hx hby at_269 (z := (8 : Int32)) rfl (ziushr X70 hx hby at_271 ((p4.toUInt32 >>> ((8 : Int32) &&& 31).toUInt32).toInt32) rfl (zi2b X70 hx hby at_272 (((p4.toUInt32 >>> ((8 : Int32) &&& 31).toUInt32).toInt32).toInt8.toInt32) rfl ?_)))))))
        show zEnds p e below s T70 (mkF m 273 #[iv p1, iv p2, iv p3, iv p4, rv b1, iv 0, iv 8, iv 2, iv 6, iv 2, iv vc, iv 8] [(.int (((p4.toUInt32 >>> ((8 : Int32) &&& 31).toUInt32).toInt32).toInt8.toInt32)), (.int 9), (.ref b1)]) _ _ _
        generalize e_vz : (((p4.toUInt32 >>> ((8 : Int32) &&& 31).toUInt32).toInt32).toInt8.toInt32) = vz
        have hn_vz : nar .byte vz = vz := by rw [← e_vz]; exact own_nar8 _
        refine zbastore X70 hx hby at_273 hZ e70 A70_b1 (by decide) (by show Int32.toNatClampNeg 9 < 20; decide) vz hn_vz fun T71 h71 X71 e71 W71 A71_b1 => ?_
        change zLst Z h71 b1 .byte [(.int 27), (.int ((e1v vs1).toInt8.toInt32)), (.int ((e2v vs1).toInt8.toInt32)), (.int 27), (.int ((e1v vs2).toInt8.toInt32)), (.int ((e2v vs2).toInt8.toInt32)), (.int ve), (.int vf), (.int vy), (.int vz), (.int 0), (.int 0), (.int 0), (.int 0), (.int 0), (.int 0), (.int 0), (.int 0), (.int 0), (.int 0)] at A71_b1
        have O71 := O70.wr W71 g1
        have N71 := Fr.snoc X71 N70 g1
        refine zaload X71 hx hby at_274 rfl rfl (ziload X71 hx hby at_276 rfl (ziload X71 hx hby at_278 rfl (zcalls X71 hx hby at_280 hZ hown (w6 hw) (w7 hw) (w8 hw) (w9 hw) e71 (c29_firstCharacter l hw [] ⟨S_w_arr0, A_w_arr0, Al_w_arr0⟩ O71 (zsz O71) b1 ((e1v vs1).toInt8.toInt32) ((e2v vs1).toInt8.toInt32) ((e1v vs2).toInt8.toInt32) ((e2v vs2).toInt8.toInt32) ve vf vy vz g1 A71_b1 h27_ve) hml 0 pd_0 (argsL := [(.ref b1), (.int 0), (.int 8)]) (st := []) (zpureK ⟨rfl, rfl⟩ fun T72 X72 e72 => ?_))))
        show zEnds p e below s T72 (mkF m 283 #[iv p1, iv p2, iv p3, iv p4, rv b1, iv 0, iv 8, iv 2, iv 6, iv 2, iv vc, iv 8] [(.int 6)]) _ _ _
        refine ziload X72 hx hby at_283 rfl (zicmpNo X72 hx hby at_285 (by decide) (ziconst X72 hx hby at_288 (z := (1 : Int32)) rfl (zgoto X72 hx hby at_289 293 (by decide) (by decide) ?_)))
        show zEnds p e below s T72 (mkF m 293 #[iv p1, iv p2, iv p3, iv p4, rv b1, iv 0, iv 8, iv 2, iv 6, iv 2, iv vc, iv 8] [(.int 1)]) _ _ _
        exact zretZ X72 hx hby at_293 hret hlk (by simp) rfl (by decide) (by decide) ⟨rfl, N71⟩
      · rw [q57]
        refine zistore X56 hx hby at_108 (L' := #[iv p1, iv p2, iv p3, iv p4, rv b1, iv 0, iv 6, iv 2, iv 6, iv 3, .unset, .unset]) rfl (ziloadN X56 hx hby at_110 rfl (ziconst X56 hx hby at_111 (z := (2 : Int32)) rfl (ziushr X56 hx hby at_112 ((p2.toUInt32 >>> ((2 : Int32) &&& 31).toUInt32).toInt32) rfl (zbipush X56 hx hby at_113 (z := (127 : Int32)) rfl (ziand X56 hx hby at_115 (((p2.toUInt32 >>> ((2 : Int32) &&& 31).toUInt32).toInt32) &&& (127 : Int32)) rfl ?_)))))
        show zEnds p e below s T56 (mkF m 116 #[iv p1, iv p2, iv p3, iv p4, rv b1, iv 0, iv 6, iv 2, iv 6, iv 3, .unset, .unset] [(.int (((p2.toUInt32 >>> ((2 : Int32) &&& 31).toUInt32).toInt32) &&& (127 : Int32)))]) _ _ _
        generalize e_vc : (((p2.toUInt32 >>> ((2 : Int32) &&& 31).toUInt32).toInt32) &&& (127 : Int32)) = vc
        have kc : 0 ≤ vc.toInt ∧ vc.toInt ≤ 127 := by rw [← e_vc]; exact own_c _
        refine zistore X56 hx hby at_116 (L' := #[iv p1, iv p2, iv p3, iv p4, rv b1, iv 0, iv 6, iv 2, iv 6, iv 3, iv vc, .unset]) rfl (ziload X56 hx hby at_118 rfl (ziconst X56 hx hby at_120 (z := (1 : Int32)) rfl (zicmpNo X56 hx hby at_121 (by decide) (ziload X56 hx hby at_124 rfl (ziconst X56 hx hby at_126 (z := (3 : Int32)) rfl (zicmpNo X56 hx hby at_127 (by decide) (ziload X56 hx hby at_130 rfl (zbipush X56 hx hby at_132 (z := (27 : Int32)) rfl ?_))))))))
        show zEnds p e below s T56 (mkF m 134 #[iv p1, iv p2, iv p3, iv p4, rv b1, iv 0, iv 6, iv 2, iv 6, iv 3, iv vc, .unset] [(.int 27), (.int vc)]) _ _ _
        by_cases hc27 : vc = (27 : Int32)
        · show zEnds p e below s T56 (mkF m 134 #[iv p1, iv p2, iv p3, iv p4, rv b1, iv 0, iv 6, iv 2, iv 6, iv 3, iv vc, .unset] [(.int 27), (.int vc)]) _ _ _
          refine zicmpNo X56 hx hby at_134 (teq hc27).2 (ziconst X56 hx hby at_137 (z := (0 : Int32)) rfl (zistore X56 hx hby at_138 (L' := #[iv p1, iv p2, iv p3, iv p4, rv b1, iv 0, iv 6, iv 2, iv 6, iv 0, iv vc, .unset]) rfl (ziload X56 hx hby at_140 rfl (ziconst X56 hx hby at_142 (z := (1 : Int32)) rfl (zicmpYes X56 hx hby at_143 163 (by decide) (by decide) (by decide) (ziload X56 hx hby at_163 rfl (ziconst X56 hx hby at_165 (z := (2 : Int32)) rfl (zicmpYes X56 hx hby at_166 220 (by decide) (by decide) (by decide) (ziload X56 hx hby at_220 rfl ?_)))))))))
          show zEnds p e below s T56 (mkF m 222 #[iv p1, iv p2, iv p3, iv p4, rv b1, iv 0, iv 6, iv 2, iv 6, iv 0, iv vc, .unset] [(.int 0)]) _ _ _
          refine ziconst X56 hx hby at_222 (z := (3 : Int32)) rfl (zicmpYes X56 hx hby at_223 251 (by decide) (by decide) (by decide) (ziload X56 hx hby at_251 rfl (zistore X56 hx hby at_253 (L' := #[iv p1, iv p2, iv p3, iv p4, rv b1, iv 0, iv 6, iv 2, iv 6, iv 0, iv vc, iv 6]) rfl (zaload X56 hx hby at_255 rfl rfl (ziload X56 hx hby at_257 rfl (ziloadN X56 hx hby at_259 rfl (zi2b X56 hx hby at_260 (p4.toInt8.toInt32) rfl ?_)))))))
          show zEnds p e below s T56 (mkF m 261 #[iv p1, iv p2, iv p3, iv p4, rv b1, iv 0, iv 6, iv 2, iv 6, iv 0, iv vc, iv 6] [(.int (p4.toInt8.toInt32)), (.int 6), (.ref b1)]) _ _ _
          generalize e_vy : (p4.toInt8.toInt32) = vy
          have hn_vy : nar .byte vy = vy := by rw [← e_vy]; exact own_nar8 _
          refine zbastore X56 hx hby at_261 hZ e56 A56_b1 (by decide) (by show Int32.toNatClampNeg 6 < 20; decide) vy hn_vy fun T73 h73 X73 e73 W73 A73_b1 => ?_
          change zLst Z h73 b1 .byte [(.int 27), (.int ((e1v vs1).toInt8.toInt32)), (.int ((e2v vs1).toInt8.toInt32)), (.int 27), (.int ((e1v vs2).toInt8.toInt32)), (.int ((e2v vs2).toInt8.toInt32)), (.int vy), (.int 0), (.int 0), (.int 0), (.int 0), (.int 0), (.int 0), (.int 0), (.int 0), (.int 0), (.int 0), (.int 0), (.int 0), (.int 0)] at A73_b1
          have O73 := O56.wr W73 g1
          have N73 := Fr.snoc X73 N56 g1
          refine zaload X73 hx hby at_262 rfl rfl (ziload X73 hx hby at_264 rfl (ziconst X73 hx hby at_266 (z := (1 : Int32)) rfl (ziadd X73 hx hby at_267 (7 : Int32) (by decide) (ziloadN X73 hx hby at_268 rfl (zbipush X73 hx hby at_269 (z := (8 : Int32)) rfl (ziushr X73 hx hby at_271 ((p4.toUInt32 >>> ((8 : Int32) &&& 31).toUInt32).toInt32) rfl (zi2b X73 hx hby at_272 (((p4.toUInt32 >>> ((8 : Int32) &&& 31).toUInt32).toInt32).toInt8.toInt32) rfl ?_)))))))
          show zEnds p e below s T73 (mkF m 273 #[iv p1, iv p2, iv p3, iv p4, rv b1, iv 0, iv 6, iv 2, iv 6, iv 0, iv vc, iv 6] [(.int (((p4.toUInt32 >>> ((8 : Int32) &&& 31).toUInt32).toInt32).toInt8.toInt32)), (.int 7), (.ref b1)]) _ _ _
          generalize e_vz : (((p4.toUInt32 >>> ((8 : Int32) &&& 31).toUInt32).toInt32).toInt8.toInt32) = vz
          have hn_vz : nar .byte vz = vz := by rw [← e_vz]; exact own_nar8 _
          refine zbastore X73 hx hby at_273 hZ e73 A73_b1 (by decide) (by show Int32.toNatClampNeg 7 < 20; decide) vz hn_vz fun T74 h74 X74 e74 W74 A74_b1 => ?_
          change zLst Z h74 b1 .byte [(.int 27), (.int ((e1v vs1).toInt8.toInt32)), (.int ((e2v vs1).toInt8.toInt32)), (.int 27), (.int ((e1v vs2).toInt8.toInt32)), (.int ((e2v vs2).toInt8.toInt32)), (.int vy), (.int vz), (.int 0), (.int 0), (.int 0), (.int 0), (.int 0), (.int 0), (.int 0), (.int 0), (.int 0), (.int 0), (.int 0), (.int 0)] at A74_b1
          have O74 := O73.wr W74 g1
          have N74 := Fr.snoc X74 N73 g1
          refine zaload X74 hx hby at_274 rfl rfl (ziload X74 hx hby at_276 rfl (ziload X74 hx hby at_278 rfl (zcalls X74 hx hby at_280 hZ hown (w6 hw) (w7 hw) (w8 hw) (w9 hw) e74 (c25_firstCharacter l hw [] ⟨S_w_arr0, A_w_arr0, Al_w_arr0⟩ O74 (zsz O74) b1 ((e1v vs1).toInt8.toInt32) ((e2v vs1).toInt8.toInt32) ((e1v vs2).toInt8.toInt32) ((e2v vs2).toInt8.toInt32) vy vz g1 A74_b1) hml 0 pd_0 (argsL := [(.ref b1), (.int 0), (.int 6)]) (st := []) (zpureK ⟨rfl, rfl⟩ fun T75 X75 e75 => ?_))))
          show zEnds p e below s T75 (mkF m 283 #[iv p1, iv p2, iv p3, iv p4, rv b1, iv 0, iv 6, iv 2, iv 6, iv 0, iv vc, iv 6] [(.int 6)]) _ _ _
          refine ziload X75 hx hby at_283 rfl (zicmpNo X75 hx hby at_285 (by decide) (ziconst X75 hx hby at_288 (z := (1 : Int32)) rfl (zgoto X75 hx hby at_289 293 (by decide) (by decide) ?_)))
          show zEnds p e below s T75 (mkF m 293 #[iv p1, iv p2, iv p3, iv p4, rv b1, iv 0, iv 6, iv 2, iv 6, iv 0, iv vc, iv 6] [(.int 1)]) _ _ _
          exact zretZ X75 hx hby at_293 hret hlk (by simp) rfl (by decide) (by decide) ⟨rfl, N74⟩
        · show zEnds p e below s T56 (mkF m 134 #[iv p1, iv p2, iv p3, iv p4, rv b1, iv 0, iv 6, iv 2, iv 6, iv 3, iv vc, .unset] [(.int 27), (.int vc)]) _ _ _
          refine zicmpYes X56 hx hby at_134 140 (feq hc27).2 (by decide) (by decide) (ziload X56 hx hby at_140 rfl (ziconst X56 hx hby at_142 (z := (1 : Int32)) rfl (zicmpYes X56 hx hby at_143 163 (by decide) (by decide) (by decide) (ziload X56 hx hby at_163 rfl (ziconst X56 hx hby at_165 (z := (2 : Int32)) rfl (zicmpYes X56 hx hby at_166 220 (by decide) (by decide) (by decide) (ziload X56 hx hby at_220 rfl (ziconst X56 hx hby at_222 (z := (3 : Int32)) rfl (zicmpNo X56 hx hby at_223 (by decide) ?_)))))))))
          show zEnds p e below s T56 (mkF m 226 #[iv p1, iv p2, iv p3, iv p4, rv b1, iv 0, iv 6, iv 2, iv 6, iv 3, iv vc, .unset] []) _ _ _
          refine zaload X56 hx hby at_226 rfl rfl (ziload X56 hx hby at_228 rfl (ziload X56 hx hby at_230 rfl (zi2b X56 hx hby at_232 (vc.toInt8.toInt32) rfl ?_)))
          show zEnds p e below s T56 (mkF m 233 #[iv p1, iv p2, iv p3, iv p4, rv b1, iv 0, iv 6, iv 2, iv 6, iv 3, iv vc, .unset] [(.int (vc.toInt8.toInt32)), (.int 6), (.ref b1)]) _ _ _
          generalize e_vg : (vc.toInt8.toInt32) = vg
          have hn_vg : nar .byte vg = vg := by rw [← e_vg]; exact own_nar8 _
          have h27_vg : ¬ (vg = (27 : Int32)) := by rw [← e_vg]; exact own_27 kc hc27
          refine zbastore X56 hx hby at_233 hZ e56 A56_b1 (by decide) (by show Int32.toNatClampNeg 6 < 20; decide) vg hn_vg fun T76 h76 X76 e76 W76 A76_b1 => ?_
          change zLst Z h76 b1 .byte [(.int 27), (.int ((e1v vs1).toInt8.toInt32)), (.int ((e2v vs1).toInt8.toInt32)), (.int 27), (.int ((e1v vs2).toInt8.toInt32)), (.int ((e2v vs2).toInt8.toInt32)), (.int vg), (.int 0), (.int 0), (.int 0), (.int 0), (.int 0), (.int 0), (.int 0), (.int 0), (.int 0), (.int 0), (.int 0), (.int 0), (.int 0)] at A76_b1
          have O76 := O56.wr W76 g1
          have N76 := Fr.snoc X76 N56 g1
          refine zaload X76 hx hby at_234 rfl rfl (ziload X76 hx hby at_236 rfl (ziconst X76 hx hby at_238 (z := (1 : Int32)) rfl (ziadd X76 hx hby at_239 (7 : Int32) (by decide) (ziloadN X76 hx hby at_240 rfl (zbipush X76 hx hby at_241 (z := (9 : Int32)) rfl (ziushr X76 hx hby at_243 ((p2.toUInt32 >>> ((9 : Int32) &&& 31).toUInt32).toInt32) rfl (ziconst X76 hx hby at_244 (z := (3 : Int32)) rfl (ziand X76 hx hby at_245 (((p2.toUInt32 >>> ((9 : Int32) &&& 31).toUInt32).toInt32) &&& (3 : Int32)) rfl ?_))))))))
          show zEnds p e below s T76 (mkF m 246 #[iv p1, iv p2, iv p3, iv p4, rv b1, iv 0, iv 6, iv 2, iv 6, iv 3, iv vc, .unset] [(.int (((p2.toUInt32 >>> ((9 : Int32) &&& 31).toUInt32).toInt32) &&& (3 : Int32))), (.int 7), (.ref b1)]) _ _ _
          generalize e_vs4 : (((p2.toUInt32 >>> ((9 : Int32) &&& 31).toUInt32).toInt32) &&& (3 : Int32)) = vs4
          refine zcalls X76 hx hby at_246 hZ hown (w2 hw) (w3 hw) (w4 hw) (w5 hw) e76 (c31_esc l hw [] ⟨S_w_arr0, A_w_arr0, Al_w_arr0⟩ O76 (zsz O76) vs4 b1 (27 : Int32) ((e1v vs1).toInt8.toInt32) ((e2v vs1).toInt8.toInt32) (27 : Int32) ((e1v vs2).toInt8.toInt32) ((e2v vs2).toInt8.toInt32) vg (0 : Int32) (0 : Int32) (0 : Int32) (0 : Int32) (0 : Int32) (0 : Int32) (0 : Int32) (0 : Int32) (0 : Int32) (0 : Int32) (0 : Int32) (0 : Int32) (0 : Int32) g1 A76_b1 h27_vg) hml 0 pd_0 (argsL := [(.ref b1), (.int 7), (.int vs4)]) (st := []) fun T77 h77 v77 L77 e77 X77 q77 => ?_
          obtain ⟨rfl, N77q, K77q, A77_b1⟩ := q77
          have O77 := O76.keep K77q (allS g1 all0)
          have N77 := Fr.app N76 N77q
          show zEnds p e below s T77 (mkF m 249 #[iv p1, iv p2, iv p3, iv p4, rv b1, iv 0, iv 6, iv 2, iv 6, iv 3, iv vc, .unset] [(.int 10)]) _ _ _
          refine zistore X77 hx hby at_249 (L' := #[iv p1, iv p2, iv p3, iv p4, rv b1, iv 0, iv 10, iv 2, iv 6, iv 3, iv vc, .unset]) rfl (ziload X77 hx hby at_251 rfl (zistore X77 hx hby at_253 (L' := #[iv p1, iv p2, iv p3, iv p4, rv b1, iv 0, iv 10, iv 2, iv 6, iv 3, iv vc, iv 10]) rfl (zaload X77 hx hby at_255 rfl rfl (ziload X77 hx hby at_257 rfl (ziloadN X77 hx hby at_259 rfl (zi2b X77 hx hby at_260 (p4.toInt8.toInt32) rfl ?_))))))
          show zEnds p e below s T77 (mkF m 261 #[iv p1, iv p2, iv p3, iv p4, rv b1, iv 0, iv 10, iv 2, iv 6, iv 3, iv vc, iv 10] [(.int (p4.toInt8.toInt32)), (.int 10), (.ref b1)]) _ _ _
          generalize e_vy : (p4.toInt8.toInt32) = vy
          have hn_vy : nar .byte vy = vy := by rw [← e_vy]; exact own_nar8 _
          refine zbastore X77 hx hby at_261 hZ e77 A77_b1 (by decide) (by show Int32.toNatClampNeg 10 < 20; decide) vy hn_vy fun T78 h78 X78 e78 W78 A78_b1 => ?_
          change zLst Z h78 b1 .byte [(.int 27), (.int ((e1v vs1).toInt8.toInt32)), (.int ((e2v vs1).toInt8.toInt32)), (.int 27), (.int ((e1v vs2).toInt8.toInt32)), (.int ((e2v vs2).toInt8.toInt32)), (.int vg), (.int 27), (.int ((e1v vs4).toInt8.toInt32)), (.int ((e2v vs4).toInt8.toInt32)), (.int vy), (.int 0), (.int 0), (.int 0), (.int 0), (.int 0), (.int 0), (.int 0), (.int 0), (.int 0)] at A78_b1
          have O78 := O77.wr W78 g1
          have N78 := Fr.snoc X78 N77 g1
          refine zaload X78 hx hby at_262 rfl rfl (ziload X78 hx hby at_264 rfl (ziconst X78 hx hby at_266 (z := (1 : Int32)) rfl (ziadd X78 hx hby at_267 (11 : Int32) (by decide) (ziloadN X78 hx hby at_268 rfl (zbipush X78 hx hby at_269 (z := (8 : Int32)) rfl (ziushr X78 hx hby at_271 ((p4.toUInt32 >>> ((8 : Int32) &&& 31).toUInt32).toInt32) rfl (zi2b X78 hx hby at_272 (((p4.toUInt32 >>> ((8 : Int32) &&& 31).toUInt32).toInt32).toInt8.toInt32) rfl ?_)))))))
          show zEnds p e below s T78 (mkF m 273 #[iv p1, iv p2, iv p3, iv p4, rv b1, iv 0, iv 10, iv 2, iv 6, iv 3, iv vc, iv 10] [(.int (((p4.toUInt32 >>> ((8 : Int32) &&& 31).toUInt32).toInt32).toInt8.toInt32)), (.int 11), (.ref b1)]) _ _ _
          generalize e_vz : (((p4.toUInt32 >>> ((8 : Int32) &&& 31).toUInt32).toInt32).toInt8.toInt32) = vz
          have hn_vz : nar .byte vz = vz := by rw [← e_vz]; exact own_nar8 _
          refine zbastore X78 hx hby at_273 hZ e78 A78_b1 (by decide) (by show Int32.toNatClampNeg 11 < 20; decide) vz hn_vz fun T79 h79 X79 e79 W79 A79_b1 => ?_
          change zLst Z h79 b1 .byte [(.int 27), (.int ((e1v vs1).toInt8.toInt32)), (.int ((e2v vs1).toInt8.toInt32)), (.int 27), (.int ((e1v vs2).toInt8.toInt32)), (.int ((e2v vs2).toInt8.toInt32)), (.int vg), (.int 27), (.int ((e1v vs4).toInt8.toInt32)), (.int ((e2v vs4).toInt8.toInt32)), (.int vy), (.int vz), (.int 0), (.int 0), (.int 0), (.int 0), (.int 0), (.int 0), (.int 0), (.int 0)] at A79_b1
          have O79 := O78.wr W79 g1
          have N79 := Fr.snoc X79 N78 g1
          refine zaload X79 hx hby at_274 rfl rfl (ziload X79 hx hby at_276 rfl (ziload X79 hx hby at_278 rfl (zcalls X79 hx hby at_280 hZ hown (w6 hw) (w7 hw) (w8 hw) (w9 hw) e79 (c33_firstCharacter l hw [] ⟨S_w_arr0, A_w_arr0, Al_w_arr0⟩ O79 (zsz O79) b1 ((e1v vs1).toInt8.toInt32) ((e2v vs1).toInt8.toInt32) ((e1v vs2).toInt8.toInt32) ((e2v vs2).toInt8.toInt32) vg ((e1v vs4).toInt8.toInt32) ((e2v vs4).toInt8.toInt32) vy vz g1 A79_b1 h27_vg) hml 0 pd_0 (argsL := [(.ref b1), (.int 0), (.int 10)]) (st := []) (zpureK ⟨rfl, rfl⟩ fun T80 X80 e80 => ?_))))
          show zEnds p e below s T80 (mkF m 283 #[iv p1, iv p2, iv p3, iv p4, rv b1, iv 0, iv 10, iv 2, iv 6, iv 3, iv vc, iv 10] [(.int 6)]) _ _ _
          refine ziload X80 hx hby at_283 rfl (zicmpNo X80 hx hby at_285 (by decide) (ziconst X80 hx hby at_288 (z := (1 : Int32)) rfl (zgoto X80 hx hby at_289 293 (by decide) (by decide) ?_)))
          show zEnds p e below s T80 (mkF m 293 #[iv p1, iv p2, iv p3, iv p4, rv b1, iv 0, iv 10, iv 2, iv 6, iv 3, iv vc, iv 10] [(.int 1)]) _ _ _
          exact zretZ X80 hx hby at_293 hret hlk (by simp) rfl (by decide) (by decide) ⟨rfl, N79⟩
    · rw [q5]
      refine zistore X3 hx hby at_39 (L' := #[iv p1, iv p2, iv p3, iv p4, rv b1, iv 0, iv 0, iv 3, .unset, .unset, .unset, .unset]) rfl (ziload X3 hx hby at_41 rfl (zifNo X3 hx hby at_43 (by decide) (zaload X3 hx hby at_46 rfl rfl (ziload X3 hx hby at_48 rfl (ziloadN X3 hx hby at_50 rfl (ziconst X3 hx hby at_51 (z := (2 : Int32)) rfl (ziushr X3 hx hby at_52 ((p1.toUInt32 >>> ((2 : Int32) &&& 31).toUInt32).toInt32) rfl (ziconst X3 hx hby at_53 (z := (3 : Int32)) rfl (ziand X3 hx hby at_54 (((p1.toUInt32 >>> ((2 : Int32) &&& 31).toUInt32).toInt32) &&& (3 : Int32)) rfl ?_)))))))))
      show zEnds p e below s T3 (mkF m 55 #[iv p1, iv p2, iv p3, iv p4, rv b1, iv 0, iv 0, iv 3, .unset, .unset, .unset, .unset] [(.int (((p1.toUInt32 >>> ((2 : Int32) &&& 31).toUInt32).toInt32) &&& (3 : Int32))), (.int 0), (.ref b1)]) _ _ _
      generalize e_vs1 : (((p1.toUInt32 >>> ((2 : Int32) &&& 31).toUInt32).toInt32) &&& (3 : Int32)) = vs1
      refine zcalls X3 hx hby at_55 hZ hown (w2 hw) (w3 hw) (w4 hw) (w5 hw) e3 (c11_esc l hw [] ⟨S_w_arr0, A_w_arr0, Al_w_arr0⟩ O3 (zsz O3) vs1 b1 va vb (0 : Int32) (0 : Int32) (0 : Int32) (0 : Int32) (0 : Int32) (0 : Int32) (0 : Int32) (0 : Int32) (0 : Int32) (0 : Int32) (0 : Int32) (0 : Int32) (0 : Int32) (0 : Int32) (0 : Int32) (0 : Int32) (0 : Int32) (0 : Int32) g1 A3_b1) hml 0 pd_0 (argsL := [(.ref b1), (.int 0), (.int vs1)]) (st := []) fun T81 h81 v81 L81 e81 X81 q81 => ?_
      obtain ⟨rfl, N81q, K81q, A81_b1⟩ := q81
      have O81 := O3.keep K81q (allS g1 all0)
      have N81 := Fr.app N3 N81q
      show zEnds p e below s T81 (mkF m 58 #[iv p1, iv p2, iv p3, iv p4, rv b1, iv 0, iv 0, iv 3, .unset, .unset, .unset, .unset] [(.int 3)]) _ _ _
      refine zistore X81 hx hby at_58 (L' := #[iv p1, iv p2, iv p3, iv p4, rv b1, iv 0, iv 3, iv 3, .unset, .unset, .unset, .unset]) rfl (ziload X81 hx hby at_60 rfl (ziconst X81 hx hby at_62 (z := (1 : Int32)) rfl (zicmpNo X81 hx hby at_63 (by decide) (zaload X81 hx hby at_66 rfl rfl (ziload X81 hx hby at_68 rfl (ziloadN X81 hx hby at_70 rfl (ziconst X81 hx hby at_71 (z := (4 : Int32)) rfl (ziushr X81 hx hby at_72 ((p1.toUInt32 >>> ((4 : Int32) &&& 31).toUInt32).toInt32) rfl (ziconst X81 hx hby at_73 (z := (3 : Int32)) rfl ?_)))))))))
      show zEnds p e below s T81 (mkF m 74 #[iv p1, iv p2, iv p3, iv p4, rv b1, iv 0, iv 3, iv 3, .unset, .unset, .unset, .unset] [(.int 3), (.int ((p1.toUInt32 >>> ((4 : Int32) &&& 31).toUInt32).toInt32)), (.int 3), (.ref b1)]) _ _ _
      refine ziand X81 hx hby at_74 (((p1.toUInt32 >>> ((4 : Int32) &&& 31).toUInt32).toInt32) &&& (3 : Int32)) rfl ?_
      show zEnds p e below s T81 (mkF m 75 #[iv p1, iv p2, iv p3, iv p4, rv b1, iv 0, iv 3, iv 3, .unset, .unset, .unset, .unset] [(.int (((p1.toUInt32 >>> ((4 : Int32) &&& 31).toUInt32).toInt32) &&& (3 : Int32))), (.int 3), (.ref b1)]) _ _ _
      generalize e_vs2 : (((p1.toUInt32 >>> ((4 : Int32) &&& 31).toUInt32).toInt32) &&& (3 : Int32)) = vs2
      refine zcalls X81 hx hby at_75 hZ hown (w2 hw) (w3 hw) (w4 hw) (w5 hw) e81 (c23_esc l hw [] ⟨S_w_arr0, A_w_arr0, Al_w_arr0⟩ O81 (zsz O81) vs2 b1 (27 : Int32) ((e1v vs1).toInt8.toInt32) ((e2v vs1).toInt8.toInt32) (0 : Int32) (0 : Int32) (0 : Int32) (0 : Int32) (0 : Int32) (0 : Int32) (0 : Int32) (0 : Int32) (0 : Int32) (0 : Int32) (0 : Int32) (0 : Int32) (0 : Int32) (0 : Int32) (0 : Int32) (0 : Int32) (0 : Int32) g1 A81_b1) hml 0 pd_0 (argsL := [(.ref b1), (.int 3), (.int vs2)]) (st := []) fun T82 h82 v82 L82 e82 X82 q82 => ?_
      obtain ⟨rfl, N82q, K82q, A82_b1⟩ := q82
      have O82 := O81.keep K82q (allS g1 all0)
      have N82 := Fr.app N81 N82q
      show zEnds p e below s T82 (mkF m 78 #[iv p1, iv p2, iv p3, iv p4, rv b1, iv 0, iv 3, iv 3, .unset, .unset, .unset, .unset] [(.int 6)]) _ _ _
      refine zistore X82 hx hby at_78 (L' := #[iv p1, iv p2, iv p3, iv p4, rv b1, iv 0, iv 6, iv 3, .unset, .unset, .unset, .unset]) rfl (ziload X82 hx hby at_80 rfl (ziconst X82 hx hby at_82 (z := (2 : Int32)) rfl (zicmpNo X82 hx hby at_83 (by decide) (zaload X82 hx hby at_86 rfl rfl (ziload X82 hx hby at_88 rfl (ziloadN X82 hx hby at_90 rfl (zbipush X82 hx hby at_91 (z := (6 : Int32)) rfl (ziushr X82 hx hby at_93 ((p1.toUInt32 >>> ((6 : Int32) &&& 31).toUInt32).toInt32) rfl (ziconst X82 hx hby at_94 (z := (3 : Int32)) rfl ?_)))))))))
      show zEnds p e below s T82 (mkF m 95 #[iv p1, iv p2, iv p3, iv p4, rv b1, iv 0, iv 6, iv 3, .unset, .unset, .unset, .unset] [(.int 3), (.int ((p1.toUInt32 >>> ((6 : Int32) &&& 31).toUInt32).toInt32)), (.int 6), (.ref b1)]) _ _ _
      refine ziand X82 hx hby at_95 (((p1.toUInt32 >>> ((6 : Int32) &&& 31).toUInt32).toInt32) &&& (3 : Int32)) rfl ?_
      show zEnds p e below s T82 (mkF m 96 #[iv p1, iv p2, iv p3, iv p4, rv b1, iv 0, iv 6, iv 3, .unset, .unset, .unset, .unset] [(.int (((p1.toUInt32 >>> ((6 : Int32) &&& 31).toUInt32).toInt32) &&& (3 : Int32))), (.int 6), (.ref b1)]) _ _ _
      generalize e_vs3 : (((p1.toUInt32 >>> ((6 : Int32) &&& 31).toUInt32).toInt32) &&& (3 : Int32)) = vs3
      refine zcalls X82 hx hby at_96 hZ hown (w2 hw) (w3 hw) (w4 hw) (w5 hw) e82 (c35_esc l hw [] ⟨S_w_arr0, A_w_arr0, Al_w_arr0⟩ O82 (zsz O82) vs3 b1 (27 : Int32) ((e1v vs1).toInt8.toInt32) ((e2v vs1).toInt8.toInt32) (27 : Int32) ((e1v vs2).toInt8.toInt32) ((e2v vs2).toInt8.toInt32) (0 : Int32) (0 : Int32) (0 : Int32) (0 : Int32) (0 : Int32) (0 : Int32) (0 : Int32) (0 : Int32) (0 : Int32) (0 : Int32) (0 : Int32) (0 : Int32) (0 : Int32) (0 : Int32) g1 A82_b1) hml 0 pd_0 (argsL := [(.ref b1), (.int 6), (.int vs3)]) (st := []) fun T83 h83 v83 L83 e83 X83 q83 => ?_
      obtain ⟨rfl, N83q, K83q, A83_b1⟩ := q83
      have O83 := O82.keep K83q (allS g1 all0)
      have N83 := Fr.app N82 N83q
      show zEnds p e below s T83 (mkF m 99 #[iv p1, iv p2, iv p3, iv p4, rv b1, iv 0, iv 6, iv 3, .unset, .unset, .unset, .unset] [(.int 9)]) _ _ _
      refine zistore X83 hx hby at_99 (L' := #[iv p1, iv p2, iv p3, iv p4, rv b1, iv 0, iv 9, iv 3, .unset, .unset, .unset, .unset]) rfl (ziload X83 hx hby at_101 rfl (zistore X83 hx hby at_103 (L' := #[iv p1, iv p2, iv p3, iv p4, rv b1, iv 0, iv 9, iv 3, iv 9, .unset, .unset, .unset]) rfl (ziloadN X83 hx hby at_105 rfl (ziconst X83 hx hby at_106 (z := (3 : Int32)) rfl (ziand X83 hx hby at_107 (p2 &&& (3 : Int32)) rfl ?_)))))
      show zEnds p e below s T83 (mkF m 108 #[iv p1, iv p2, iv p3, iv p4, rv b1, iv 0, iv 9, iv 3, iv 9, .unset, .unset, .unset] [(.int (p2 &&& (3 : Int32)))]) _ _ _
      rcases (and_3 p2) with q84 | q84 | q84 | q84
      · rw [q84]
        refine zistore X83 hx hby at_108 (L' := #[iv p1, iv p2, iv p3, iv p4, rv b1, iv 0, iv 9, iv 3, iv 9, iv 0, .unset, .unset]) rfl (ziloadN X83 hx hby at_110 rfl (ziconst X83 hx hby at_111 (z := (2 : Int32)) rfl (ziushr X83 hx hby at_112 ((p2.toUInt32 >>> ((2 : Int32) &&& 31).toUInt32).toInt32) rfl (zbipush X83 hx hby at_113 (z := (127 : Int32)) rfl (ziand X83 hx hby at_115 (((p2.toUInt32 >>> ((2 : Int32) &&& 31).toUInt32).toInt32) &&& (127 : Int32)) rfl ?_)))))
        show zEnds p e below s T83 (mkF m 116 #[iv p1, iv p2, iv p3, iv p4, rv b1, iv 0, iv 9, iv 3, iv 9, iv 0, .unset, .unset] [(.int (((p2.toUInt32 >>> ((2 : Int32) &&& 31).toUInt32).toInt32) &&& (127 : Int32)))]) _ _ _
        generalize e_vc : (((p2.toUInt32 >>> ((2 : Int32) &&& 31).toUInt32).toInt32) &&& (127 : Int32)) = vc
        have kc : 0 ≤ vc.toInt ∧ vc.toInt ≤ 127 := by rw [← e_vc]; exact own_c _
        refine zistore X83 hx hby at_116 (L' := #[iv p1, iv p2, iv p3, iv p4, rv b1, iv 0, iv 9, iv 3, iv 9, iv 0, iv vc, .unset]) rfl (ziload X83 hx hby at_118 rfl (ziconst X83 hx hby at_120 (z := (1 : Int32)) rfl (zicmpNo X83 hx hby at_121 (by decide) (ziload X83 hx hby at_124 rfl (ziconst X83 hx hby at_126 (z := (3 : Int32)) rfl (zicmpYes X83 hx hby at_127 140 (by decide) (by decide) (by decide) (ziload X83 hx hby at_140 rfl (ziconst X83 hx hby at_142 (z := (1 : Int32)) rfl (zicmpYes X83 hx hby at_143 163 (by decide) (by decide) (by decide) ?_)))))))))
        show zEnds p e below s T83 (mkF m 163 #[iv p1, iv p2, iv p3, iv p4, rv b1, iv 0, iv 9, iv 3, iv 9, iv 0, iv vc, .unset] []) _ _ _
        refine ziload X83 hx hby at_163 rfl (ziconst X83 hx hby at_165 (z := (2 : Int32)) rfl (zicmpYes X83 hx hby at_166 220 (by decide) (by decide) (by decide) (ziload X83 hx hby at_220 rfl (ziconst X83 hx hby at_222 (z := (3 : Int32)) rfl (zicmpYes X83 hx hby at_223 251 (by decide) (by decide) (by decide) (ziload X83 hx hby at_251 rfl (zistore X83 hx hby at_253 (L' := #[iv p1, iv p2, iv p3, iv p4, rv b1, iv 0, iv 9, iv 3, iv 9, iv 0, iv vc, iv 9]) rfl (zaload X83 hx hby at_255 rfl rfl (ziload X83 hx hby at_257 rfl ?_)))))))))
        show zEnds p e below s T83 (mkF m 259 #[iv p1, iv p2, iv p3, iv p4, rv b1, iv 0, iv 9, iv 3, iv 9, iv 0, iv vc, iv 9] [(.int 9), (.ref b1)]) _ _ _
        refine ziloadN X83 hx hby at_259 rfl (zi2b X83 hx hby at_260 (p4.toInt8.toInt32) rfl ?_)
        show zEnds p e below s T83 (mkF m 261 #[iv p1, iv p2, iv p3, iv p4, rv b1, iv 0, iv 9, iv 3, iv 9, iv 0, iv vc, iv 9] [(.int (p4.toInt8.toInt32)), (.int 9), (.ref b1)]) _ _ _
        generalize e_vy : (p4.toInt8.toInt32) = vy
        have hn_vy : nar .byte vy = vy := by rw [← e_vy]; exact own_nar8 _
        refine zbastore X83 hx hby at_261 hZ e83 A83_b1 (by decide) (by show Int32.toNatClampNeg 9 < 20; decide) vy hn_vy fun T85 h85 X85 e85 W85 A85_b1 => ?_
        change zLst Z h85 b1 .byte [(.int 27), (.int ((e1v vs1).toInt8.toInt32)), (.int ((e2v vs1).toInt8.toInt32)), (.int 27), (.int ((e1v vs2).toInt8.toInt32)), (.int ((e2v vs2).toInt8.toInt32)), (.int 27), (.int ((e1v vs3).toInt8.toInt32)), (.int ((e2v vs3).toInt8.toInt32)), (.int vy), (.int 0), (.int 0), (.int 0), (.int 0), (.int 0), (.int 0), (.int 0), (.int 0), (.int 0), (.int 0)] at A85_b1
        have O85 := O83.wr W85 g1
        have N85 := Fr.snoc X85 N83 g1
        refine zaload X85 hx hby at_262 rfl rfl (ziload X85 hx hby at_264 rfl (ziconst X85 hx hby at_266 (z := (1 : Int32)) rfl (ziadd X85 hx hby at_267 (10 : Int32) (by decide) (ziloadN X85 hx hby at_268 rfl (zbipush X85 hx hby at_269 (z := (8 : Int32)) rfl (ziushr X85 hx hby at_271 ((p4.toUInt32 >>> ((8 : Int32) &&& 31).toUInt32).toInt32) rfl (zi2b X85 hx hby at_272 (((p4.toUInt32 >>> ((8 : Int32) &&& 31).toUInt32).toInt32).toInt8.toInt32) rfl ?_)))))))
        show zEnds p e below s T85 (mkF m 273 #[iv p1, iv p2, iv p3, iv p4, rv b1, iv 0, iv 9, iv 3, iv 9, iv 0, iv vc, iv 9] [(.int (((p4.toUInt32 >>> ((8 : Int32) &&& 31).toUInt32).toInt32).toInt8.toInt32)), (.int 10), (.ref b1)]) _ _ _
        generalize e_vz : (((p4.toUInt32 >>> ((8 : Int32) &&& 31).toUInt32).toInt32).toInt8.toInt32) = vz
        have hn_vz : nar .byte vz = vz := by rw [← e_vz]; exact own_nar8 _
        refine zbastore X85 hx hby at_273 hZ e85 A85_b1 (by decide) (by show Int32.toNatClampNeg 10 < 20; decide) vz hn_vz fun T86 h86 X86 e86 W86 A86_b1 => ?_
        change zLst Z h86 b1 .byte [(.int 27), (.int ((e1v vs1).toInt8.toInt32)), (.int ((e2v vs1).toInt8.toInt32)), (.int 27), (.int ((e1v vs2).toInt8.toInt32)), (.int ((e2v vs2).toInt8.toInt32)), (.int 27), (.int ((e1v vs3).toInt8.toInt32)), (.int ((e2v vs3).toInt8.toInt32)), (.int vy), (.int vz), (.int 0), (.int 0), (.int 0), (.int 0), (.int 0), (.int 0), (.int 0), (.int 0), (.int 0)] at A86_b1
        have O86 := O85.wr W86 g1
        have N86 := Fr.snoc X86 N85 g1
        refine zaload X86 hx hby at_274 rfl rfl (ziload X86 hx hby at_276 rfl (ziload X86 hx hby at_278 rfl (zcalls X86 hx hby at_280 hZ hown (w6 hw) (w7 hw) (w8 hw) (w9 hw) e86 (c37_firstCharacter l hw [] ⟨S_w_arr0, A_w_arr0, Al_w_arr0⟩ O86 (zsz O86) b1 ((e1v vs1).toInt8.toInt32) ((e2v vs1).toInt8.toInt32) ((e1v vs2).toInt8.toInt32) ((e2v vs2).toInt8.toInt32) ((e1v vs3).toInt8.toInt32) ((e2v vs3).toInt8.toInt32) vy vz g1 A86_b1) hml 0 pd_0 (argsL := [(.ref b1), (.int 0), (.int 9)]) (st := []) (zpureK ⟨rfl, rfl⟩ fun T87 X87 e87 => ?_))))
        show zEnds p e below s T87 (mkF m 283 #[iv p1, iv p2, iv p3, iv p4, rv b1, iv 0, iv 9, iv 3, iv 9, iv 0, iv vc, iv 9] [(.int 9)]) _ _ _
        refine ziload X87 hx hby at_283 rfl (zicmpNo X87 hx hby at_285 (by decide) (ziconst X87 hx hby at_288 (z := (1 : Int32)) rfl (zgoto X87 hx hby at_289 293 (by decide) (by decide) ?_)))
        show zEnds p e below s T87 (mkF m 293 #[iv p1, iv p2, iv p3, iv p4, rv b1, iv 0, iv 9, iv 3, iv 9, iv 0, iv vc, iv 9] [(.int 1)]) _ _ _
        exact zretZ X87 hx hby at_293 hret hlk (by simp) rfl (by decide) (by decide) ⟨rfl, N86⟩
      · rw [q84]
        refine zistore X83 hx hby at_108 (L' := #[iv p1, iv p2, iv p3, iv p4, rv b1, iv 0, iv 9, iv 3, iv 9, iv 1, .unset, .unset]) rfl (ziloadN X83 hx hby at_110 rfl (ziconst X83 hx hby at_111 (z := (2 : Int32)) rfl (ziushr X83 hx hby at_112 ((p2.toUInt32 >>> ((2 : Int32) &&& 31).toUInt32).toInt32) rfl (zbipush X83 hx hby at_113 (z := (127 : Int32)) rfl (ziand X83 hx hby at_115 (((p2.toUInt32 >>> ((2 : Int32) &&& 31).toUInt32).toInt32) &&& (127 : Int32)) rfl ?_)))))
        show zEnds p e below s T83 (mkF m 116 #[iv p1, iv p2, iv p3, iv p4, rv b1, iv 0, iv 9, iv 3, iv 9, iv 1, .unset, .unset] [(.int (((p2.toUInt32 >>> ((2 : Int32) &&& 31).toUInt32).toInt32) &&& (127 : Int32)))]) _ _ _
        generalize e_vc : (((p2.toUInt32 >>> ((2 : Int32) &&& 31).toUInt32).toInt32) &&& (127 : Int32)) = vc
        have kc : 0 ≤ vc.toInt ∧ vc.toInt ≤ 127 := by rw [← e_vc]; exact own_c _
        refine zistore X83 hx hby at_116 (L' := #[iv p1, iv p2, iv p3, iv p4, rv b1, iv 0, iv 9, iv 3, iv 9, iv 1, iv vc, .unset]) rfl (ziload X83 hx hby at_118 rfl (ziconst X83 hx hby at_120 (z := (1 : Int32)) rfl (zicmpYes X83 hx hby at_121 130 (by decide) (by decide) (by decide) (ziload X83 hx hby at_130 rfl (zbipush X83 hx hby at_132 (z := (27 : Int32)) rfl ?_)))))
        show zEnds p e below s T83 (mkF m 134 #[iv p1, iv p2, iv p3, iv p4, rv b1, iv 0, iv 9, iv 3, iv 9, iv 1, iv vc, .unset] [(.int 27), (.int vc)]) _ _ _
        by_cases hc27 : vc = (27 : Int32)
        · show zEnds p e below s T83 (mkF m 134 #[iv p1, iv p2, iv p3, iv p4, rv b1, iv 0, iv 9, iv 3, iv 9, iv 1, iv vc, .unset] [(.int 27), (.int vc)]) _ _ _
          refine zicmpNo X83 hx hby at_134 (teq hc27).2 (ziconst X83 hx hby at_137 (z := (0 : Int32)) rfl (zistore X83 hx hby at_138 (L' := #[iv p1, iv p2, iv p3, iv p4, rv b1, iv 0, iv 9, iv 3, iv 9, iv 0, iv vc, .unset]) rfl (ziload X83 hx hby at_140 rfl (ziconst X83 hx hby at_142 (z := (1 : Int32)) rfl (zicmpYes X83 hx hby at_143 163 (by decide) (by decide) (by decide) (ziload X83 hx hby at_163 rfl (ziconst X83 hx hby at_165 (z := (2 : Int32)) rfl (zicmpYes X83 hx hby at_166 220 (by decide) (by decide) (by decide) (ziload X83 hx hby at_220 rfl ?_)))))))))
          show zEnds p e below s T83 (mkF m 222 #[iv p1, iv p2, iv p3, iv p4, rv b1, iv 0, iv 9, iv 3, iv 9, iv 0, iv vc, .unset] [(.int 0)]) _ _ _
          refine ziconst X83 hx hby at_222 (z := (3 : Int32)) rfl (zicmpYes X83 hx hby at_223 251 (by decide) (by decide) (by decide) (ziload X83 hx hby at_251 rfl (zistore X83 hx hby at_253 (L' := #[iv p1, iv p2, iv p3, iv p4, rv b1, iv 0, iv 9, iv 3, iv 9, iv 0, iv vc, iv 9]) rfl (zaload X83 hx hby at_255 rfl rfl (ziload X83 hx hby at_257 rfl (ziloadN X83 hx hby at_259 rfl (zi2b X83 hx hby at_260 (p4.toInt8.toInt32) rfl ?_)))))))
          show zEnds p e below s T83 (mkF m 261 #[iv p1, iv p2, iv p3, iv p4, rv b1, iv 0, iv 9, iv 3, iv 9, iv 0, iv vc, iv 9] [(.int (p4.toInt8.toInt32)), (.int 9), (.ref b1)]) _ _ _
          generalize e_vy : (p4.toInt8.toInt32) = vy
          have hn_vy : nar .byte vy = vy := by rw [← e_vy]; exact own_nar8 _
          refine zbastore X83 hx hby at_261 hZ e83 A83_b1 (by decide) (by show Int32.toNatClampNeg 9 < 20; decide) vy hn_vy fun T88 h88 X88 e88 W88 A88_b1 => ?_
          change zLst Z h88 b1 .byte [(.int 27), (.int ((e1v vs1).toInt8.toInt32)), (.int ((e2v vs1).toInt8.toInt32)), (.int 27), (.int ((e1v vs2).toInt8.toInt32)), (.int ((e2v vs2).toInt8.toInt32)), (.int 27), (.int ((e1v vs3).toInt8.toInt32)), (.int ((e2v vs3).toInt8.toInt32)), (.int vy), (.int 0), (.int 0), (.int 0), (.int 0), (.int 0), (.int 0), (.int 0), (.int 0), (.int 0), (.int 0)] at A88_b1
          have O88 := O83.wr W88 g1
          have N88 := Fr.snoc X88 N83 g1
          refine zaload X88 hx hby at_262 rfl rfl (ziload X88 hx hby at_264 rfl (ziconst X88 hx hby at_266 (z := (1 : Int32)) rfl (ziadd X88 hx hby at_267 (10 : Int32) (by decide) (ziloadN X88 hx hby at_268 rfl (zbipush X88 hx hby at_269 (z := (8 : Int32)) rfl (ziushr X88 hx hby at_271 ((p4.toUInt32 >>> ((8 : Int32) &&& 31).toUInt32).toInt32) rfl (zi2b X88 hx hby at_272 (((p4.toUInt32 >>> ((8 : Int32) &&& 31).toUInt32).toInt32).toInt8.toInt32) rfl ?_)))))))
          show zEnds p e below s T88 (mkF m 273 #[iv p1, iv p2, iv p3, iv p4, rv b1, iv 0, iv 9, iv 3, iv 9, iv 0, iv vc, iv 9] [(.int (((p4.toUInt32 >>> ((8 : Int32) &&& 31).toUInt32).toInt32).toInt8.toInt32)), (.int 10), (.ref b1)]) _ _ _
          generalize e_vz : (((p4.toUInt32 >>> ((8 : Int32) &&& 31).toUInt32).toInt32).toInt8.toInt32) = vz
          have hn_vz : nar .byte vz = vz := by rw [← e_vz]; exact own_nar8 _
          refine zbastore X88 hx hby at_273 hZ e88 A88_b1 (by decide) (by show Int32.toNatClampNeg 10 < 20; decide) vz hn_vz fun T89 h89 X89 e89 W89 A89_b1 => ?_
          change zLst Z h89 b1 .byte [(.int 27), (.int ((e1v vs1).toInt8.toInt32)), (.int ((e2v vs1).toInt8.toInt32)), (.int 27), (.int ((e1v vs2).toInt8.toInt32)), (.int ((e2v vs2).toInt8.toInt32)), (.int 27), (.int ((e1v vs3).toInt8.toInt32)), (.int ((e2v vs3).toInt8.toInt32)), (.int vy), (.int vz), (.int 0), (.int 0), (.int 0), (.int 0), (.int 0), (.int 0), (.int 0), (.int 0), (.int 0)] at A89_b1
          have O89 := O88.wr W89 g1
          have N89 := Fr.snoc X89 N88 g1
          refine zaload X89 hx hby at_274 rfl rfl (ziload X89 hx hby at_276 rfl (ziload X89 hx hby at_278 rfl (zcalls X89 hx hby at_280 hZ hown (w6 hw) (w7 hw) (w8 hw) (w9 hw) e89 (c37_firstCharacter l hw [] ⟨S_w_arr0, A_w_arr0, Al_w_arr0⟩ O89 (zsz O89) b1 ((e1v vs1).toInt8.toInt32) ((e2v vs1).toInt8.toInt32) ((e1v vs2).toInt8.toInt32) ((e2v vs2).toInt8.toInt32) ((e1v vs3).toInt8.toInt32) ((e2v vs3).toInt8.toInt32) vy vz g1 A89_b1) hml 0 pd_0 (argsL := [(.ref b1), (.int 0), (.int 9)]) (st := []) (zpureK ⟨rfl, rfl⟩ fun T90 X90 e90 => ?_))))
          show zEnds p e below s T90 (mkF m 283 #[iv p1, iv p2, iv p3, iv p4, rv b1, iv 0, iv 9, iv 3, iv 9, iv 0, iv vc, iv 9] [(.int 9)]) _ _ _
          refine ziload X90 hx hby at_283 rfl (zicmpNo X90 hx hby at_285 (by decide) (ziconst X90 hx hby at_288 (z := (1 : Int32)) rfl (zgoto X90 hx hby at_289 293 (by decide) (by decide) ?_)))
          show zEnds p e below s T90 (mkF m 293 #[iv p1, iv p2, iv p3, iv p4, rv b1, iv 0, iv 9, iv 3, iv 9, iv 0, iv vc, iv 9] [(.int 1)]) _ _ _
          exact zretZ X90 hx hby at_293 hret hlk (by simp) rfl (by decide) (by decide) ⟨rfl, N89⟩
        · show zEnds p e below s T83 (mkF m 134 #[iv p1, iv p2, iv p3, iv p4, rv b1, iv 0, iv 9, iv 3, iv 9, iv 1, iv vc, .unset] [(.int 27), (.int vc)]) _ _ _
          refine zicmpYes X83 hx hby at_134 140 (feq hc27).2 (by decide) (by decide) (ziload X83 hx hby at_140 rfl (ziconst X83 hx hby at_142 (z := (1 : Int32)) rfl (zicmpNo X83 hx hby at_143 (by decide) (zaload X83 hx hby at_146 rfl rfl (ziload X83 hx hby at_148 rfl (ziload X83 hx hby at_150 rfl (zi2b X83 hx hby at_152 (vc.toInt8.toInt32) rfl ?_)))))))
          show zEnds p e below s T83 (mkF m 153 #[iv p1, iv p2, iv p3, iv p4, rv b1, iv 0, iv 9, iv 3, iv 9, iv 1, iv vc, .unset] [(.int (vc.toInt8.toInt32)), (.int 9), (.ref b1)]) _ _ _
          generalize e_vd : (vc.toInt8.toInt32) = vd
          have hn_vd : nar .byte vd = vd := by rw [← e_vd]; exact own_nar8 _
          have h27_vd : ¬ (vd = (27 : Int32)) := by rw [← e_vd]; exact own_27 kc hc27
          refine zbastore X83 hx hby at_153 hZ e83 A83_b1 (by decide) (by show Int32.toNatClampNeg 9 < 20; decide) vd hn_vd fun T91 h91 X91 e91 W91 A91_b1 => ?_
          change zLst Z h91 b1 .byte [(.int 27), (.int ((e1v vs1).toInt8.toInt32)), (.int ((e2v vs1).toInt8.toInt32)), (.int 27), (.int ((e1v vs2).toInt8.toInt32)), (.int ((e2v vs2).toInt8.toInt32)), (.int 27), (.int ((e1v vs3).toInt8.toInt32)), (.int ((e2v vs3).toInt8.toInt32)), (.int vd), (.int 0), (.int 0), (.int 0), (.int 0), (.int 0), (.int 0), (.int 0), (.int 0), (.int 0), (.int 0)] at A91_b1
          have O91 := O83.wr W91 g1
          have N91 := Fr.snoc X91 N83 g1
          refine ziload X91 hx hby at_154 rfl (ziconst X91 hx hby at_156 (z := (1 : Int32)) rfl (ziadd X91 hx hby at_157 (10 : Int32) (by decide) (zistore X91 hx hby at_158 (L' := #[iv p1, iv p2, iv p3, iv p4, rv b1, iv 0, iv 10, iv 3, iv 9, iv 1, iv vc, .unset]) rfl (zgoto X91 hx hby at_160 251 (by decide) (by decide) (ziload X91 hx hby at_251 rfl (zistore X91 hx hby at_253 (L' := #[iv p1, iv p2, iv p3, iv p4, rv b1, iv 0, iv 10, iv 3, iv 9, iv 1, iv vc, iv 10]) rfl (zaload X91 hx hby at_255 rfl rfl (ziload X91 hx hby at_257 rfl (ziloadN X91 hx hby at_259 rfl ?_)))))))))
          show zEnds p e below s T91 (mkF m 260 #[iv p1, iv p2, iv p3, iv p4, rv b1, iv 0, iv 10, iv 3, iv 9, iv 1, iv vc, iv 10] [(.int p4), (.int 10), (.ref b1)]) _ _ _
          refine zi2b X91 hx hby at_260 (p4.toInt8.toInt32) rfl ?_
          show zEnds p e below s T91 (mkF m 261 #[iv p1, iv p2, iv p3, iv p4, rv b1, iv 0, iv 10, iv 3, iv 9, iv 1, iv vc, iv 10] [(.int (p4.toInt8.toInt32)), (.int 10), (.ref b1)]) _ _ _
          generalize e_vy : (p4.toInt8.toInt32) = vy
          have hn_vy : nar .byte vy = vy := by rw [← e_vy]; exact own_nar8 _
          refine zbastore X91 hx hby at_261 hZ e91 A91_b1 (by decide) (by show Int32.toNatClampNeg 10 < 20; decide) vy hn_vy fun T92 h92 X92 e92 W92 A92_b1 => ?_
          change zLst Z h92 b1 .byte [(.int 27), (.int ((e1v vs1).toInt8.toInt32)), (.int ((e2v vs1).toInt8.toInt32)), (.int 27), (.int ((e1v vs2).toInt8.toInt32)), (.int ((e2v vs2).toInt8.toInt32)), (.int 27), (.int ((e1v vs3).toInt8.toInt32)), (.int ((e2v vs3).toInt8.toInt32)), (.int vd), (.int vy), (.int 0), (.int 0), (.int 0), (.int 0), (.int 0), (.int 0), (.int 0), (.int 0), (.int 0)] at A92_b1
          have O92 := O91.wr W92 g1
          have N92 := Fr.snoc X92 N91 g1
          refine zaload X92 hx hby at_262 rfl rfl (ziload X92 hx hby at_264 rfl (ziconst X92 hx hby at_266 (z := (1 : Int32)) rfl (ziadd X92 hx hby at_267 (11 : Int32) (by decide) (ziloadN X92 hx hby at_268 rfl (zbipush X92 hx hby at_269 (z := (8 : Int32)) rfl (ziushr X92 hx hby at_271 ((p4.toUInt32 >>> ((8 : Int32) &&& 31).toUInt32).toInt32) rfl (zi2b X92 hx hby at_272 (((p4.toUInt32 >>> ((8 : Int32) &&& 31).toUInt32).toInt32).toInt8.toInt32) rfl ?_)))))))
          show zEnds p e below s T92 (mkF m 273 #[iv p1, iv p2, iv p3, iv p4, rv b1, iv 0, iv 10, iv 3, iv 9, iv 1, iv vc, iv 10] [(.int (((p4.toUInt32 >>> ((8 : Int32) &&& 31).toUInt32).toInt32).toInt8.toInt32)), (.int 11), (.ref b1)]) _ _ _
          generalize e_vz : (((p4.toUInt32 >>> ((8 : Int32) &&& 31).toUInt32).toInt32).toInt8.toInt32) = vz
          have hn_vz : nar .byte vz = vz := by rw [← e_vz]; exact own_nar8 _
          refine zbastore X92 hx hby at_273 hZ e92 A92_b1 (by decide) (by show Int32.toNatClampNeg 11 < 20; decide) vz hn_vz fun T93 h93 X93 e93 W93 A93_b1 => ?_
          change zLst Z h93 b1 .byte [(.int 27), (.int ((e1v vs1).toInt8.toInt32)), (.int ((e2v vs1).toInt8.toInt32)), (.int 27), (.int ((e1v vs2).toInt8.toInt32)), (.int ((e2v vs2).toInt8.toInt32)), (.int 27), (.int ((e1v vs3).toInt8.toInt32)), (.int ((e2v vs3).toInt8.toInt32)), (.int vd), (.int vy), (.int vz), (.int 0), (.int 0), (.int 0), (.int 0), (.int 0), (.int 0), (.int 0), (.int 0)] at A93_b1
          have O93 := O92.wr W93 g1
          have N93 := Fr.snoc X93 N92 g1
          refine zaload X93 hx hby at_274 rfl rfl (ziload X93 hx hby at_276 rfl (ziload X93 hx hby at_278 rfl (zcalls X93 hx hby at_280 hZ hown (w6 hw) (w7 hw) (w8 hw) (w9 hw) e93 (c39_firstCharacter l hw [] ⟨S_w_arr0, A_w_arr0, Al_w_arr0⟩ O93 (zsz O93) b1 ((e1v vs1).toInt8.toInt32) ((e2v vs1).toInt8.toInt32) ((e1v vs2).toInt8.toInt32) ((e2v vs2).toInt8.toInt32) ((e1v vs3).toInt8.toInt32) ((e2v vs3).toInt8.toInt32) vd vy vz g1 A93_b1 h27_vd) hml 0 pd_0 (argsL := [(.ref b1), (.int 0), (.int 10)]) (st := []) (zpureK ⟨rfl, rfl⟩ fun T94 X94 e94 => ?_))))
          show zEnds p e below s T94 (mkF m 283 #[iv p1, iv p2, iv p3, iv p4, rv b1, iv 0, iv 10, iv 3, iv 9, iv 1, iv vc, iv 10] [(.int 9)]) _ _ _
          refine ziload X94 hx hby at_283 rfl (zicmpNo X94 hx hby at_285 (by decide) (ziconst X94 hx hby at_288 (z := (1 : Int32)) rfl (zgoto X94 hx hby at_289 293 (by decide) (by decide) ?_)))
          show zEnds p e below s T94 (mkF m 293 #[iv p1, iv p2, iv p3, iv p4, rv b1, iv 0, iv 10, iv 3, iv 9, iv 1, iv vc, iv 10] [(.int 1)]) _ _ _
          exact zretZ X94 hx hby at_293 hret hlk (by simp) rfl (by decide) (by decide) ⟨rfl, N93⟩
      · rw [q84]
        refine zistore X83 hx hby at_108 (L' := #[iv p1, iv p2, iv p3, iv p4, rv b1, iv 0, iv 9, iv 3, iv 9, iv 2, .unset, .unset]) rfl (ziloadN X83 hx hby at_110 rfl (ziconst X83 hx hby at_111 (z := (2 : Int32)) rfl (ziushr X83 hx hby at_112 ((p2.toUInt32 >>> ((2 : Int32) &&& 31).toUInt32).toInt32) rfl (zbipush X83 hx hby at_113 (z := (127 : Int32)) rfl (ziand X83 hx hby at_115 (((p2.toUInt32 >>> ((2 : Int32) &&& 31).toUInt32).toInt32) &&& (127 : Int32)) rfl ?_)))))
        show zEnds p e below s T83 (mkF m 116 #[iv p1, iv p2, iv p3, iv p4, rv b1, iv 0, iv 9, iv 3, iv 9, iv 2, .unset, .unset] [(.int (((p2.toUInt32 >>> ((2 : Int32) &&& 31).toUInt32).toInt32) &&& (127 : Int32)))]) _ _ _
        generalize e_vc : (((p2.toUInt32 >>> ((2 : Int32) &&& 31).toUInt32).toInt32) &&& (127 : Int32)) = vc
        have kc : 0 ≤ vc.toInt ∧ vc.toInt ≤ 127 := by rw [← e_vc]; exact own_c _
        refine zistore X83 hx hby at_116 (L' := #[iv p1, iv p2, iv p3, iv p4, rv b1, iv 0, iv 9, iv 3, iv 9, iv 2, iv vc, .unset]) rfl (ziload X83 hx hby at_118 rfl (ziconst X83 hx hby at_120 (z := (1 : Int32)) rfl (zicmpNo X83 hx hby at_121 (by decide) (ziload X83 hx hby at_124 rfl (ziconst X83 hx hby at_126 (z := (3 : Int32)) rfl (zicmpYes X83 hx hby at_127 140 (by decide) (by decide) (by decide) (ziload X83 hx hby at_140 rfl (ziconst X83 hx hby at_142 (z := (1 : Int32)) rfl (zicmpYes X83 hx hby at_143 163 (by decide) (by decide) (by decide) ?_)))))))))
        show zEnds p e below s T83 (mkF m 163 #[iv p1, iv p2, iv p3, iv p4, rv b1, iv 0, iv 9, iv 3, iv 9, iv 2, iv vc, .unset] []) _ _ _
        refine ziload X83 hx hby at_163 rfl (ziconst X83 hx hby at_165 (z := (2 : Int32)) rfl (zicmpNo X83 hx hby at_166 (by decide) (zaload X83 hx hby at_169 rfl rfl (ziload X83 hx hby at_171 rfl (zbipush X83 hx hby at_173 (z := (48 : Int32)) rfl (ziloadN X83 hx hby at_175 rfl (zbipush X83 hx hby at_176 (z := (9 : Int32)) rfl (ziushr X83 hx hby at_178 ((p2.toUInt32 >>> ((9 : Int32) &&& 31).toUInt32).toInt32) rfl (zsipush X83 hx hby at_179 (z := (255 : Int32)) rfl ?_)))))))))
        show zEnds p e below s T83 (mkF m 182 #[iv p1, iv p2, iv p3, iv p4, rv b1, iv 0, iv 9, iv 3, iv 9, iv 2, iv vc, .unset] [(.int 255), (.int ((p2.toUInt32 >>> ((9 : Int32) &&& 31).toUInt32).toInt32)), (.int 48), (.int 9), (.ref b1)]) _ _ _
        refine ziand X83 hx hby at_182 (((p2.toUInt32 >>> ((9 : Int32) &&& 31).toUInt32).toInt32) &&& (255 : Int32)) rfl (zbipush X83 hx hby at_183 (z := (31 : Int32)) rfl (zirem X83 hx hby at_185 ((((p2.toUInt32 >>> ((9 : Int32) &&& 31).toUInt32).toInt32) &&& (255 : Int32)) % (31 : Int32)) (by decide) rfl (ziadd X83 hx hby at_186 ((48 : Int32) + ((((p2.toUInt32 >>> ((9 : Int32) &&& 31).toUInt32).toInt32) &&& (255 : Int32)) % (31 : Int32))) rfl (zi2b X83 hx hby at_187 (((48 : Int32) + ((((p2.toUInt32 >>> ((9 : Int32) &&& 31).toUInt32).toInt32) &&& (255 : Int32)) % (31 : Int32))).toInt8.toInt32) rfl ?_))))
        show zEnds p e below s T83 (mkF m 188 #[iv p1, iv p2, iv p3, iv p4, rv b1, iv 0, iv 9, iv 3, iv 9, iv 2, iv vc, .unset] [(.int (((48 : Int32) + ((((p2.toUInt32 >>> ((9 : Int32) &&& 31).toUInt32).toInt32) &&& (255 : Int32)) % (31 : Int32))).toInt8.toInt32)), (.int 9), (.ref b1)]) _ _ _
        generalize e_ve : (((48 : Int32) + ((((p2.toUInt32 >>> ((9 : Int32) &&& 31).toUInt32).toInt32) &&& (255 : Int32)) % (31 : Int32))).toInt8.toInt32) = ve
        have hn_ve : nar .byte ve = ve := by rw [← e_ve]; exact own_nar8 _
        have h27_ve : ¬ (ve = (27 : Int32)) := by rw [← e_ve]; exact own_48 _
        refine zbastore X83 hx hby at_188 hZ e83 A83_b1 (by decide) (by show Int32.toNatClampNeg 9 < 20; decide) ve hn_ve fun T95 h95 X95 e95 W95 A95_b1 => ?_
        change zLst Z h95 b1 .byte [(.int 27), (.int ((e1v vs1).toInt8.toInt32)), (.int ((e2v vs1).toInt8.toInt32)), (.int 27), (.int ((e1v vs2).toInt8.toInt32)), (.int ((e2v vs2).toInt8.toInt32)), (.int 27), (.int ((e1v vs3).toInt8.toInt32)), (.int ((e2v vs3).toInt8.toInt32)), (.int ve), (.int 0), (.int 0), (.int 0), (.int 0), (.int 0), (.int 0), (.int 0), (.int 0), (.int 0), (.int 0)] at A95_b1
        have O95 := O83.wr W95 g1
        have N95 := Fr.snoc X95 N83 g1
        refine zaload X95 hx hby at_189 rfl rfl (ziload X95 hx hby at_191 rfl (ziconst X95 hx hby at_193 (z := (1 : Int32)) rfl (ziadd X95 hx hby at_194 (10 : Int32) (by decide) (zbipush X95 hx hby at_195 (z := (33 : Int32)) rfl (ziloadN X95 hx hby at_197 rfl (zbipush X95 hx hby at_198 (z := (17 : Int32)) rfl (ziushr X95 hx hby at_200 ((p2.toUInt32 >>> ((17 : Int32) &&& 31).toUInt32).toInt32) rfl (zsipush X95 hx hby at_201 (z := (255 : Int32)) rfl (ziand X95 hx hby at_204 (((p2.toUInt32 >>> ((17 : Int32) &&& 31).toUInt32).toInt32) &&& (255 : Int32)) rfl ?_)))))))))
        show zEnds p e below s T95 (mkF m 205 #[iv p1, iv p2, iv p3, iv p4, rv b1, iv 0, iv 9, iv 3, iv 9, iv 2, iv vc, .unset] [(.int (((p2.toUInt32 >>> ((17 : Int32) &&& 31).toUInt32).toInt32) &&& (255 : Int32))), (.int 33), (.int 10), (.ref b1)]) _ _ _
        refine zbipush X95 hx hby at_205 (z := (94 : Int32)) rfl (zirem X95 hx hby at_207 ((((p2.toUInt32 >>> ((17 : Int32) &&& 31).toUInt32).toInt32) &&& (255 : Int32)) % (94 : Int32)) (by decide) rfl (ziadd X95 hx hby at_208 ((33 : Int32) + ((((p2.toUInt32 >>> ((17 : Int32) &&& 31).toUInt32).toInt32) &&& (255 : Int32)) % (94 : Int32))) rfl (zi2b X95 hx hby at_209 (((33 : Int32) + ((((p2.toUInt32 >>> ((17 : Int32) &&& 31).toUInt32).toInt32) &&& (255 : Int32)) % (94 : Int32))).toInt8.toInt32) rfl ?_)))
        show zEnds p e below s T95 (mkF m 210 #[iv p1, iv p2, iv p3, iv p4, rv b1, iv 0, iv 9, iv 3, iv 9, iv 2, iv vc, .unset] [(.int (((33 : Int32) + ((((p2.toUInt32 >>> ((17 : Int32) &&& 31).toUInt32).toInt32) &&& (255 : Int32)) % (94 : Int32))).toInt8.toInt32)), (.int 10), (.ref b1)]) _ _ _
        generalize e_vf : (((33 : Int32) + ((((p2.toUInt32 >>> ((17 : Int32) &&& 31).toUInt32).toInt32) &&& (255 : Int32)) % (94 : Int32))).toInt8.toInt32) = vf
        have hn_vf : nar .byte vf = vf := by rw [← e_vf]; exact own_nar8 _
        refine zbastore X95 hx hby at_210 hZ e95 A95_b1 (by decide) (by show Int32.toNatClampNeg 10 < 20; decide) vf hn_vf fun T96 h96 X96 e96 W96 A96_b1 => ?_
        change zLst Z h96 b1 .byte [(.int 27), (.int ((e1v vs1).toInt8.toInt32)), (.int ((e2v vs1).toInt8.toInt32)), (.int 27), (.int ((e1v vs2).toInt8.toInt32)), (.int ((e2v vs2).toInt8.toInt32)), (.int 27), (.int ((e1v vs3).toInt8.toInt32)), (.int ((e2v vs3).toInt8.toInt32)), (.int ve), (.int vf), (.int 0), (.int 0), (.int 0), (.int 0), (.int 0), (.int 0), (.int 0), (.int 0), (.int 0)] at A96_b1
        have O96 := O95.wr W96 g1
        have N96 := Fr.snoc X96 N95 g1
        refine ziload X96 hx hby at_211 rfl (ziconst X96 hx hby at_213 (z := (2 : Int32)) rfl (ziadd X96 hx hby at_214 (11 : Int32) (by decide) (zistore X96 hx hby at_215 (L' := #[iv p1, iv p2, iv p3, iv p4, rv b1, iv 0, iv 11, iv 3, iv 9, iv 2, iv vc, .unset]) rfl (zgoto X96 hx hby at_217 251 (by decide) (by decide) (ziload X96 hx hby at_251 rfl (zistore X96 hx hby at_253 (L' := #[iv p1, iv p2, iv p3, iv p4, rv b1, iv 0, iv 11, iv 3, iv 9, iv 2, iv vc, iv 11]) rfl (zaload X96 hx hby at_255 rfl rfl (ziload X96 hx hby at_257 rfl (ziloadN X96 hx hby at_259 rfl ?_)))))))))
        show zEnds p e below s T96 (mkF m 260 #[iv p1, iv p2, iv p3, iv p4, rv b1, iv 0, iv 11, iv 3, iv 9, iv 2, iv vc, iv 11] [(.int p4), (.int 11), (.ref b1)]) _ _ _
        refine zi2b X96 hx hby at_260 (p4.toInt8.toInt32) rfl ?_
        show zEnds p e below s T96 (mkF m 261 #[iv p1, iv p2, iv p3, iv p4, rv b1, iv 0, iv 11, iv 3, iv 9, iv 2, iv vc, iv 11] [(.int (p4.toInt8.toInt32)), (.int 11), (.ref b1)]) _ _ _
        generalize e_vy : (p4.toInt8.toInt32) = vy
        have hn_vy : nar .byte vy = vy := by rw [← e_vy]; exact own_nar8 _
        refine zbastore X96 hx hby at_261 hZ e96 A96_b1 (by decide) (by show Int32.toNatClampNeg 11 < 20; decide) vy hn_vy fun T97 h97 X97 e97 W97 A97_b1 => ?_
        change zLst Z h97 b1 .byte [(.int 27), (.int ((e1v vs1).toInt8.toInt32)), (.int ((e2v vs1).toInt8.toInt32)), (.int 27), (.int ((e1v vs2).toInt8.toInt32)), (.int ((e2v vs2).toInt8.toInt32)), (.int 27), (.int ((e1v vs3).toInt8.toInt32)), (.int ((e2v vs3).toInt8.toInt32)), (.int ve), (.int vf), (.int vy), (.int 0), (.int 0), (.int 0), (.int 0), (.int 0), (.int 0), (.int 0), (.int 0)] at A97_b1
        have O97 := O96.wr W97 g1
        have N97 := Fr.snoc X97 N96 g1
        refine zaload X97 hx hby at_262 rfl rfl (ziload X97 hx hby at_264 rfl (ziconst X97 hx hby at_266 (z := (1 : Int32)) rfl (ziadd X97 hx hby at_267 (12 : Int32) (by decide) (ziloadN X97 hx hby at_268 rfl (zbipush X97 hx hby at_269 (z := (8 : Int32)) rfl (ziushr X97 hx hby at_271 ((p4.toUInt32 >>> ((8 : Int32) &&& 31).toUInt32).toInt32) rfl (zi2b X97 hx hby at_272 (((p4.toUInt32 >>> ((8 : Int32) &&& 31).toUInt32).toInt32).toInt8.toInt32) rfl ?_)))))))
        show zEnds p e below s T97 (mkF m 273 #[iv p1, iv p2, iv p3, iv p4, rv b1, iv 0, iv 11, iv 3, iv 9, iv 2, iv vc, iv 11] [(.int (((p4.toUInt32 >>> ((8 : Int32) &&& 31).toUInt32).toInt32).toInt8.toInt32)), (.int 12), (.ref b1)]) _ _ _
        generalize e_vz : (((p4.toUInt32 >>> ((8 : Int32) &&& 31).toUInt32).toInt32).toInt8.toInt32) = vz
        have hn_vz : nar .byte vz = vz := by rw [← e_vz]; exact own_nar8 _
        refine zbastore X97 hx hby at_273 hZ e97 A97_b1 (by decide) (by show Int32.toNatClampNeg 12 < 20; decide) vz hn_vz fun T98 h98 X98 e98 W98 A98_b1 => ?_
        change zLst Z h98 b1 .byte [(.int 27), (.int ((e1v vs1).toInt8.toInt32)), (.int ((e2v vs1).toInt8.toInt32)), (.int 27), (.int ((e1v vs2).toInt8.toInt32)), (.int ((e2v vs2).toInt8.toInt32)), (.int 27), (.int ((e1v vs3).toInt8.toInt32)), (.int ((e2v vs3).toInt8.toInt32)), (.int ve), (.int vf), (.int vy), (.int vz), (.int 0), (.int 0), (.int 0), (.int 0), (.int 0), (.int 0), (.int 0)] at A98_b1
        have O98 := O97.wr W98 g1
        have N98 := Fr.snoc X98 N97 g1
        refine zaload X98 hx hby at_274 rfl rfl (ziload X98 hx hby at_276 rfl (ziload X98 hx hby at_278 rfl (zcalls X98 hx hby at_280 hZ hown (w6 hw) (w7 hw) (w8 hw) (w9 hw) e98 (c41_firstCharacter l hw [] ⟨S_w_arr0, A_w_arr0, Al_w_arr0⟩ O98 (zsz O98) b1 ((e1v vs1).toInt8.toInt32) ((e2v vs1).toInt8.toInt32) ((e1v vs2).toInt8.toInt32) ((e2v vs2).toInt8.toInt32) ((e1v vs3).toInt8.toInt32) ((e2v vs3).toInt8.toInt32) ve vf vy vz g1 A98_b1 h27_ve) hml 0 pd_0 (argsL := [(.ref b1), (.int 0), (.int 11)]) (st := []) (zpureK ⟨rfl, rfl⟩ fun T99 X99 e99 => ?_))))
        show zEnds p e below s T99 (mkF m 283 #[iv p1, iv p2, iv p3, iv p4, rv b1, iv 0, iv 11, iv 3, iv 9, iv 2, iv vc, iv 11] [(.int 9)]) _ _ _
        refine ziload X99 hx hby at_283 rfl (zicmpNo X99 hx hby at_285 (by decide) (ziconst X99 hx hby at_288 (z := (1 : Int32)) rfl (zgoto X99 hx hby at_289 293 (by decide) (by decide) ?_)))
        show zEnds p e below s T99 (mkF m 293 #[iv p1, iv p2, iv p3, iv p4, rv b1, iv 0, iv 11, iv 3, iv 9, iv 2, iv vc, iv 11] [(.int 1)]) _ _ _
        exact zretZ X99 hx hby at_293 hret hlk (by simp) rfl (by decide) (by decide) ⟨rfl, N98⟩
      · rw [q84]
        refine zistore X83 hx hby at_108 (L' := #[iv p1, iv p2, iv p3, iv p4, rv b1, iv 0, iv 9, iv 3, iv 9, iv 3, .unset, .unset]) rfl (ziloadN X83 hx hby at_110 rfl (ziconst X83 hx hby at_111 (z := (2 : Int32)) rfl (ziushr X83 hx hby at_112 ((p2.toUInt32 >>> ((2 : Int32) &&& 31).toUInt32).toInt32) rfl (zbipush X83 hx hby at_113 (z := (127 : Int32)) rfl (ziand X83 hx hby at_115 (((p2.toUInt32 >>> ((2 : Int32) &&& 31).toUInt32).toInt32) &&& (127 : Int32)) rfl ?_)))))
        show zEnds p e below s T83 (mkF m 116 #[iv p1, iv p2, iv p3, iv p4, rv b1, iv 0, iv 9, iv 3, iv 9, iv 3, .unset, .unset] [(.int (((p2.toUInt32 >>> ((2 : Int32) &&& 31).toUInt32).toInt32) &&& (127 : Int32)))]) _ _ _
        generalize e_vc : (((p2.toUInt32 >>> ((2 : Int32) &&& 31).toUInt32).toInt32) &&& (127 : Int32)) = vc
        have kc : 0 ≤ vc.toInt ∧ vc.toInt ≤ 127 := by rw [← e_vc]; exact own_c _
        refine zistore X83 hx hby at_116 (L' := #[iv p1, iv p2, iv p3, iv p4, rv b1, iv 0, iv 9, iv 3, iv 9, iv 3, iv vc, .unset]) rfl (ziload X83 hx hby at_118 rfl (ziconst X83 hx hby at_120 (z := (1 : Int32)) rfl (zicmpNo X83 hx hby at_121 (by decide) (ziload X83 hx hby at_124 rfl (ziconst X83 hx hby at_126 (z := (3 : Int32)) rfl (zicmpNo X83 hx hby at_127 (by decide) (ziload X83 hx hby at_130 rfl (zbipush X83 hx hby at_132 (z := (27 : Int32)) rfl ?_))))))))
        show zEnds p e below s T83 (mkF m 134 #[iv p1, iv p2, iv p3, iv p4, rv b1, iv 0, iv 9, iv 3, iv 9, iv 3, iv vc, .unset] [(.int 27), (.int vc)]) _ _ _
        by_cases hc27 : vc = (27 : Int32)
        · show zEnds p e below s T83 (mkF m 134 #[iv p1, iv p2, iv p3, iv p4, rv b1, iv 0, iv 9, iv 3, iv 9, iv 3, iv vc, .unset] [(.int 27), (.int vc)]) _ _ _
          refine zicmpNo X83 hx hby at_134 (teq hc27).2 (ziconst X83 hx hby at_137 (z := (0 : Int32)) rfl (zistore X83 hx hby at_138 (L' := #[iv p1, iv p2, iv p3, iv p4, rv b1, iv 0, iv 9, iv 3, iv 9, iv 0, iv vc, .unset]) rfl (ziload X83 hx hby at_140 rfl (ziconst X83 hx hby at_142 (z := (1 : Int32)) rfl (zicmpYes X83 hx hby at_143 163 (by decide) (by decide) (by decide) (ziload X83 hx hby at_163 rfl (ziconst X83 hx hby at_165 (z := (2 : Int32)) rfl (zicmpYes X83 hx hby at_166 220 (by decide) (by decide) (by decide) (ziload X83 hx hby at_220 rfl ?_)))))))))
          show zEnds p e below s T83 (mkF m 222 #[iv p1, iv p2, iv p3, iv p4, rv b1, iv 0, iv 9, iv 3, iv 9, iv 0, iv vc, .unset] [(.int 0)]) _ _ _
          refine ziconst X83 hx hby at_222 (z := (3 : Int32)) rfl (zicmpYes X83 hx hby at_223 251 (by decide) (by decide) (by decide) (ziload X83 hx hby at_251 rfl (zistore X83 hx hby at_253 (L' := #[iv p1, iv p2, iv p3, iv p4, rv b1, iv 0, iv 9, iv 3, iv 9, iv 0, iv vc, iv 9]) rfl (zaload X83 hx hby at_255 rfl rfl (ziload X83 hx hby at_257 rfl (ziloadN X83 hx hby at_259 rfl (zi2b X83 hx hby at_260 (p4.toInt8.toInt32) rfl ?_)))))))
          show zEnds p e below s T83 (mkF m 261 #[iv p1, iv p2, iv p3, iv p4, rv b1, iv 0, iv 9, iv 3, iv 9, iv 0, iv vc, iv 9] [(.int (p4.toInt8.toInt32)), (.int 9), (.ref b1)]) _ _ _
          generalize e_vy : (p4.toInt8.toInt32) = vy
          have hn_vy : nar .byte vy = vy := by rw [← e_vy]; exact own_nar8 _
          refine zbastore X83 hx hby at_261 hZ e83 A83_b1 (by decide) (by show Int32.toNatClampNeg 9 < 20; decide) vy hn_vy fun T100 h100 X100 e100 W100 A100_b1 => ?_
          change zLst Z h100 b1 .byte [(.int 27), (.int ((e1v vs1).toInt8.toInt32)), (.int ((e2v vs1).toInt8.toInt32)), (.int 27), (.int ((e1v vs2).toInt8.toInt32)), (.int ((e2v vs2).toInt8.toInt32)), (.int 27), (.int ((e1v vs3).toInt8.toInt32)), (.int ((e2v vs3).toInt8.toInt32)), (.int vy), (.int 0), (.int 0), (.int 0), (.int 0), (.int 0), (.int 0), (.int 0), (.int 0), (.int 0), (.int 0)] at A100_b1
          have O100 := O83.wr W100 g1
          have N100 := Fr.snoc X100 N83 g1
          refine zaload X100 hx hby at_262 rfl rfl (ziload X100 hx hby at_264 rfl (ziconst X100 hx hby at_266 (z := (1 : Int32)) rfl (ziadd X100 hx hby at_267 (10 : Int32) (by decide) (ziloadN X100 hx hby at_268 rfl (zbipush X100 hx hby at_269 (z := (8 : Int32)) rfl (ziushr X100 hx hby at_271 ((p4.toUInt32 >>> ((8 : Int32) &&& 31).toUInt32).toInt32) rfl (zi2b X100 hx hby at_272 (((p4.toUInt32 >>> ((8 : Int32) &&& 31).toUInt32).toInt32).toInt8.toInt32) rfl ?_)))))))
          show zEnds p e below s T100 (mkF m 273 #[iv p1, iv p2, iv p3, iv p4, rv b1, iv 0, iv 9, iv 3, iv 9, iv 0, iv vc, iv 9] [(.int (((p4.toUInt32 >>> ((8 : Int32) &&& 31).toUInt32).toInt32).toInt8.toInt32)), (.int 10), (.ref b1)]) _ _ _
          generalize e_vz : (((p4.toUInt32 >>> ((8 : Int32) &&& 31).toUInt32).toInt32).toInt8.toInt32) = vz
          have hn_vz : nar .byte vz = vz := by rw [← e_vz]; exact own_nar8 _
          refine zbastore X100 hx hby at_273 hZ e100 A100_b1 (by decide) (by show Int32.toNatClampNeg 10 < 20; decide) vz hn_vz fun T101 h101 X101 e101 W101 A101_b1 => ?_
          change zLst Z h101 b1 .byte [(.int 27), (.int ((e1v vs1).toInt8.toInt32)), (.int ((e2v vs1).toInt8.toInt32)), (.int 27), (.int ((e1v vs2).toInt8.toInt32)), (.int ((e2v vs2).toInt8.toInt32)), (.int 27), (.int ((e1v vs3).toInt8.toInt32)), (.int ((e2v vs3).toInt8.toInt32)), (.int vy), (.int vz), (.int 0), (.int 0), (.int 0), (.int 0), (.int 0), (.int 0), (.int 0), (.int 0), (.int 0)] at A101_b1
          have O101 := O100.wr W101 g1
          have N101 := Fr.snoc X101 N100 g1
          refine zaload X101 hx hby at_274 rfl rfl (ziload X101 hx hby at_276 rfl (ziload X101 hx hby at_278 rfl (zcalls X101 hx hby at_280 hZ hown (w6 hw) (w7 hw) (w8 hw) (w9 hw) e101 (c37_firstCharacter l hw [] ⟨S_w_arr0, A_w_arr0, Al_w_arr0⟩ O101 (zsz O101) b1 ((e1v vs1).toInt8.toInt32) ((e2v vs1).toInt8.toInt32) ((e1v vs2).toInt8.toInt32) ((e2v vs2).toInt8.toInt32) ((e1v vs3).toInt8.toInt32) ((e2v vs3).toInt8.toInt32) vy vz g1 A101_b1) hml 0 pd_0 (argsL := [(.ref b1), (.int 0), (.int 9)]) (st := []) (zpureK ⟨rfl, rfl⟩ fun T102 X102 e102 => ?_))))
          show zEnds p e below s T102 (mkF m 283 #[iv p1, iv p2, iv p3, iv p4, rv b1, iv 0, iv 9, iv 3, iv 9, iv 0, iv vc, iv 9] [(.int 9)]) _ _ _
          refine ziload X102 hx hby at_283 rfl (zicmpNo X102 hx hby at_285 (by decide) (ziconst X102 hx hby at_288 (z := (1 : Int32)) rfl (zgoto X102 hx hby at_289 293 (by decide) (by decide) ?_)))
          show zEnds p e below s T102 (mkF m 293 #[iv p1, iv p2, iv p3, iv p4, rv b1, iv 0, iv 9, iv 3, iv 9, iv 0, iv vc, iv 9] [(.int 1)]) _ _ _
          exact zretZ X102 hx hby at_293 hret hlk (by simp) rfl (by decide) (by decide) ⟨rfl, N101⟩
        · show zEnds p e below s T83 (mkF m 134 #[iv p1, iv p2, iv p3, iv p4, rv b1, iv 0, iv 9, iv 3, iv 9, iv 3, iv vc, .unset] [(.int 27), (.int vc)]) _ _ _
          refine zicmpYes X83 hx hby at_134 140 (feq hc27).2 (by decide) (by decide) (ziload X83 hx hby at_140 rfl (ziconst X83 hx hby at_142 (z := (1 : Int32)) rfl (zicmpYes X83 hx hby at_143 163 (by decide) (by decide) (by decide) (ziload X83 hx hby at_163 rfl (ziconst X83 hx hby at_165 (z := (2 : Int32)) rfl (zicmpYes X83 hx hby at_166 220 (by decide) (by decide) (by decide) (ziload X83 hx hby at_220 rfl (ziconst X83 hx hby at_222 (z := (3 : Int32)) rfl (zicmpNo X83 hx hby at_223 (by decide) ?_)))))))))
          show zEnds p e below s T83 (mkF m 226 #[iv p1, iv p2, iv p3, iv p4, rv b1, iv 0, iv 9, iv 3, iv 9, iv 3, iv vc, .unset] []) _ _ _
          refine zaload X83 hx hby at_226 rfl rfl (ziload X83 hx hby at_228 rfl (ziload X83 hx hby at_230 rfl (zi2b X83 hx hby at_232 (vc.toInt8.toInt32) rfl ?_)))
          show zEnds p e below s T83 (mkF m 233 #[iv p1, iv p2, iv p3, iv p4, rv b1, iv 0, iv 9, iv 3, iv 9, iv 3, iv vc, .unset] [(.int (vc.toInt8.toInt32)), (.int 9), (.ref b1)]) _ _ _
          generalize e_vg : (vc.toInt8.toInt32) = vg
          have hn_vg : nar .byte vg = vg := by rw [← e_vg]; exact own_nar8 _
          have h27_vg : ¬ (vg = (27 : Int32)) := by rw [← e_vg]; exact own_27 kc hc27
          refine zbastore X83 hx hby at_233 hZ e83 A83_b1 (by decide) (by show Int32.toNatClampNeg 9 < 20; decide) vg hn_vg fun T103 h103 X103 e103 W103 A103_b1 => ?_
          change zLst Z h103 b1 .byte [(.int 27), (.int ((e1v vs1).toInt8.toInt32)), (.int ((e2v vs1).toInt8.toInt32)), (.int 27), (.int ((e1v vs2).toInt8.toInt32)), (.int ((e2v vs2).toInt8.toInt32)), (.int 27), (.int ((e1v vs3).toInt8.toInt32)), (.int ((e2v vs3).toInt8.toInt32)), (.int vg), (.int 0), (.int 0), (.int 0), (.int 0), (.int 0), (.int 0), (.int 0), (.int 0), (.int 0), (.int 0)] at A103_b1
          have O103 := O83.wr W103 g1
          have N103 := Fr.snoc X103 N83 g1
          refine zaload X103 hx hby at_234 rfl rfl (ziload X103 hx hby at_236 rfl (ziconst X103 hx hby at_238 (z := (1 : Int32)) rfl (ziadd X103 hx hby at_239 (10 : Int32) (by decide) (ziloadN X103 hx hby at_240 rfl (zbipush X103 hx hby at_241 (z := (9 : Int32)) rfl (ziushr X103 hx hby at_243 ((p2.toUInt32 >>> ((9 : Int32) &&& 31).toUInt32).toInt32) rfl (ziconst X103 hx hby at_244 (z := (3 : Int32)) rfl (ziand X103 hx hby at_245 (((p2.toUInt32 >>> ((9 : Int32) &&& 31).toUInt32).toInt32) &&& (3 : Int32)) rfl ?_))))))))
          show zEnds p e below s T103 (mkF m 246 #[iv p1, iv p2, iv p3, iv p4, rv b1, iv 0, iv 9, iv 3, iv 9, iv 3, iv vc, .unset] [(.int (((p2.toUInt32 >>> ((9 : Int32) &&& 31).toUInt32).toInt32) &&& (3 : Int32))), (.int 10), (.ref b1)]) _ _ _
          generalize e_vs4 : (((p2.toUInt32 >>> ((9 : Int32) &&& 31).toUInt32).toInt32) &&& (3 : Int32)) = vs4
          refine zcalls X103 hx hby at_246 hZ hown (w2 hw) (w3 hw) (w4 hw) (w5 hw) e103 (c43_esc l hw [] ⟨S_w_arr0, A_w_arr0, Al_w_arr0⟩ O103 (zsz O103) vs4 b1 (27 : Int32) ((e1v vs1).toInt8.toInt32) ((e2v vs1).toInt8.toInt32) (27 : Int32) ((e1v vs2).toInt8.toInt32) ((e2v vs2).toInt8.toInt32) (27 : Int32) ((e1v vs3).toInt8.toInt32) ((e2v vs3).toInt8.toInt32) vg (0 : Int32) (0 : Int32) (0 : Int32) (0 : Int32) (0 : Int32) (0 : Int32) (0 : Int32) (0 : Int32) (0 : Int32) (0 : Int32) g1 A103_b1 h27_vg) hml 0 pd_0 (argsL := [(.ref b1), (.int 10), (.int vs4)]) (st := []) fun T104 h104 v104 L104 e104 X104 q104 => ?_
          obtain ⟨rfl, N104q, K104q, A104_b1⟩ := q104
          have O104 := O103.keep K104q (allS g1 all0)
          have N104 := Fr.app N103 N104q
          show zEnds p e below s T104 (mkF m 249 #[iv p1, iv p2, iv p3, iv p4, rv b1, iv 0, iv 9, iv 3, iv 9, iv 3, iv vc, .unset] [(.int 13)]) _ _ _
          refine zistore X104 hx hby at_249 (L' := #[iv p1, iv p2, iv p3, iv p4, rv b1, iv 0, iv 13, iv 3, iv 9, iv 3, iv vc, .unset]) rfl (ziload X104 hx hby at_251 rfl (zistore X104 hx hby at_253 (L' := #[iv p1, iv p2, iv p3, iv p4, rv b1, iv 0, iv 13, iv 3, iv 9, iv 3, iv vc, iv 13]) rfl (zaload X104 hx hby at_255 rfl rfl (ziload X104 hx hby at_257 rfl (ziloadN X104 hx hby at_259 rfl (zi2b X104 hx hby at_260 (p4.toInt8.toInt32) rfl ?_))))))
          show zEnds p e below s T104 (mkF m 261 #[iv p1, iv p2, iv p3, iv p4, rv b1, iv 0, iv 13, iv 3, iv 9, iv 3, iv vc, iv 13] [(.int (p4.toInt8.toInt32)), (.int 13), (.ref b1)]) _ _ _
          generalize e_vy : (p4.toInt8.toInt32) = vy
          have hn_vy : nar .byte vy = vy := by rw [← e_vy]; exact own_nar8 _
          refine zbastore X104 hx hby at_261 hZ e104 A104_b1 (by decide) (by show Int32.toNatClampNeg 13 < 20; decide) vy hn_vy fun T105 h105 X105 e105 W105 A105_b1 => ?_
          change zLst Z h105 b1 .byte [(.int 27), (.int ((e1v vs1).toInt8.toInt32)), (.int ((e2v vs1).toInt8.toInt32)), (.int 27), (.int ((e1v vs2).toInt8.toInt32)), (.int ((e2v vs2).toInt8.toInt32)), (.int 27), (.int ((e1v vs3).toInt8.toInt32)), (.int ((e2v vs3).toInt8.toInt32)), (.int vg), (.int 27), (.int ((e1v vs4).toInt8.toInt32)), (.int ((e2v vs4).toInt8.toInt32)), (.int vy), (.int 0), (.int 0), (.int 0), (.int 0), (.int 0), (.int 0)] at A105_b1
          have O105 := O104.wr W105 g1
          have N105 := Fr.snoc X105 N104 g1
          refine zaload X105 hx hby at_262 rfl rfl (ziload X105 hx hby at_264 rfl (ziconst X105 hx hby at_266 (z := (1 : Int32)) rfl (ziadd X105 hx hby at_267 (14 : Int32) (by decide) (ziloadN X105 hx hby at_268 rfl (zbipush X105 hx hby at_269 (z := (8 : Int32)) rfl (ziushr X105 hx hby at_271 ((p4.toUInt32 >>> ((8 : Int32) &&& 31).toUInt32).toInt32) rfl (zi2b X105 hx hby at_272 (((p4.toUInt32 >>> ((8 : Int32) &&& 31).toUInt32).toInt32).toInt8.toInt32) rfl ?_)))))))
          show zEnds p e below s T105 (mkF m 273 #[iv p1, iv p2, iv p3, iv p4, rv b1, iv 0, iv 13, iv 3, iv 9, iv 3, iv vc, iv 13] [(.int (((p4.toUInt32 >>> ((8 : Int32) &&& 31).toUInt32).toInt32).toInt8.toInt32)), (.int 14), (.ref b1)]) _ _ _
          generalize e_vz : (((p4.toUInt32 >>> ((8 : Int32) &&& 31).toUInt32).toInt32).toInt8.toInt32) = vz
          have hn_vz : nar .byte vz = vz := by rw [← e_vz]; exact own_nar8 _
          refine zbastore X105 hx hby at_273 hZ e105 A105_b1 (by decide) (by show Int32.toNatClampNeg 14 < 20; decide) vz hn_vz fun T106 h106 X106 e106 W106 A106_b1 => ?_
          change zLst Z h106 b1 .byte [(.int 27), (.int ((e1v vs1).toInt8.toInt32)), (.int ((e2v vs1).toInt8.toInt32)), (.int 27), (.int ((e1v vs2).toInt8.toInt32)), (.int ((e2v vs2).toInt8.toInt32)), (.int 27), (.int ((e1v vs3).toInt8.toInt32)), (.int ((e2v vs3).toInt8.toInt32)), (.int vg), (.int 27), (.int ((e1v vs4).toInt8.toInt32)), (.int ((e2v vs4).toInt8.toInt32)), (.int vy), (.int vz), (.int 0), (.int 0), (.int 0), (.int 0), (.int 0)] at A106_b1
          have O106 := O105.wr W106 g1
          have N106 := Fr.snoc X106 N105 g1
          refine zaload X106 hx hby at_274 rfl rfl (ziload X106 hx hby at_276 rfl (ziload X106 hx hby at_278 rfl (zcalls X106 hx hby at_280 hZ hown (w6 hw) (w7 hw) (w8 hw) (w9 hw) e106 (c45_firstCharacter l hw [] ⟨S_w_arr0, A_w_arr0, Al_w_arr0⟩ O106 (zsz O106) b1 ((e1v vs1).toInt8.toInt32) ((e2v vs1).toInt8.toInt32) ((e1v vs2).toInt8.toInt32) ((e2v vs2).toInt8.toInt32) ((e1v vs3).toInt8.toInt32) ((e2v vs3).toInt8.toInt32) vg ((e1v vs4).toInt8.toInt32) ((e2v vs4).toInt8.toInt32) vy vz g1 A106_b1 h27_vg) hml 0 pd_0 (argsL := [(.ref b1), (.int 0), (.int 13)]) (st := []) (zpureK ⟨rfl, rfl⟩ fun T107 X107 e107 => ?_))))
          show zEnds p e below s T107 (mkF m 283 #[iv p1, iv p2, iv p3, iv p4, rv b1, iv 0, iv 13, iv 3, iv 9, iv 3, iv vc, iv 13] [(.int 9)]) _ _ _
          refine ziload X107 hx hby at_283 rfl (zicmpNo X107 hx hby at_285 (by decide) (ziconst X107 hx hby at_288 (z := (1 : Int32)) rfl (zgoto X107 hx hby at_289 293 (by decide) (by decide) ?_)))
          show zEnds p e below s T107 (mkF m 293 #[iv p1, iv p2, iv p3, iv p4, rv b1, iv 0, iv 13, iv 3, iv 9, iv 3, iv vc, iv 13] [(.int 1)]) _ _ _
          exact zretZ X107 hx hby at_293 hret hlk (by simp) rfl (by decide) (by decide) ⟨rfl, N106⟩
  · rw [q4]
    refine zistore X3 hx hby at_30 (L' := #[iv p1, iv p2, iv p3, iv p4, rv b1, iv 1, .unset, .unset, .unset, .unset, .unset, .unset]) rfl (ziload X3 hx hby at_32 rfl (zistore X3 hx hby at_34 (L' := #[iv p1, iv p2, iv p3, iv p4, rv b1, iv 1, iv 1, .unset, .unset, .unset, .unset, .unset]) rfl (ziloadN X3 hx hby at_36 rfl (ziconst X3 hx hby at_37 (z := (3 : Int32)) rfl (ziand X3 hx hby at_38 (p1 &&& (3 : Int32)) rfl ?_)))))
    show zEnds p e below s T3 (mkF m 39 #[iv p1, iv p2, iv p3, iv p4, rv b1, iv 1, iv 1, .unset, .unset, .unset, .unset, .unset] [(.int (p1 &&& (3 : Int32)))]) _ _ _
    rcases (and_3 p1) with q108 | q108 | q108 | q108
    · rw [q108]
      refine zistore X3 hx hby at_39 (L' := #[iv p1, iv p2, iv p3, iv p4, rv b1, iv 1, iv 1, iv 0, .unset, .unset, .unset, .unset]) rfl (ziload X3 hx hby at_41 rfl (zifYes X3 hx hby at_43 60 (by decide) (by decide) (by decide) (ziload X3 hx hby at_60 rfl (ziconst X3 hx hby at_62 (z := (1 : Int32)) rfl (zicmpYes X3 hx hby at_63 80 (by decide) (by decide) (by decide) (ziload X3 hx hby at_80 rfl (ziconst X3 hx hby at_82 (z := (2 : Int32)) rfl (zicmpYes X3 hx hby at_83 101 (by decide) (by decide) (by decide) (ziload X3 hx hby at_101 rfl ?_)))))))))
      show zEnds p e below s T3 (mkF m 103 #[iv p1, iv p2, iv p3, iv p4, rv b1, iv 1, iv 1, iv 0, .unset, .unset, .unset, .unset] [(.int 1)]) _ _ _
      refine zistore X3 hx hby at_103 (L' := #[iv p1, iv p2, iv p3, iv p4, rv b1, iv 1, iv 1, iv 0, iv 1, .unset, .unset, .unset]) rfl (ziloadN X3 hx hby at_105 rfl (ziconst X3 hx hby at_106 (z := (3 : Int32)) rfl (ziand X3 hx hby at_107 (p2 &&& (3 : Int32)) rfl ?_)))
      show zEnds p e below s T3 (mkF m 108 #[iv p1, iv p2, iv p3, iv p4, rv b1, iv 1, iv 1, iv 0, iv 1, .unset, .unset, .unset] [(.int (p2 &&& (3 : Int32)))]) _ _ _
      rcases (and_3 p2) with q109 | q109 | q109 | q109
      · rw [q109]
        refine zistore X3 hx hby at_108 (L' := #[iv p1, iv p2, iv p3, iv p4, rv b1, iv 1, iv 1, iv 0, iv 1, iv 0, .unset, .unset]) rfl (ziloadN X3 hx hby at_110 rfl (ziconst X3 hx hby at_111 (z := (2 : Int32)) rfl (ziushr X3 hx hby at_112 ((p2.toUInt32 >>> ((2 : Int32) &&& 31).toUInt32).toInt32) rfl (zbipush X3 hx hby at_113 (z := (127 : Int32)) rfl (ziand X3 hx hby at_115 (((p2.toUInt32 >>> ((2 : Int32) &&& 31).toUInt32).toInt32) &&& (127 : Int32)) rfl ?_)))))
        show zEnds p e below s T3 (mkF m 116 #[iv p1, iv p2, iv p3, iv p4, rv b1, iv 1, iv 1, iv 0, iv 1, iv 0, .unset, .unset] [(.int (((p2.toUInt32 >>> ((2 : Int32) &&& 31).toUInt32).toInt32) &&& (127 : Int32)))]) _ _ _
        generalize e_vc : (((p2.toUInt32 >>> ((2 : Int32) &&& 31).toUInt32).toInt32) &&& (127 : Int32)) = vc
        have kc : 0 ≤ vc.toInt ∧ vc.toInt ≤ 127 := by rw [← e_vc]; exact own_c _
        refine zistore X3 hx hby at_116 (L' := #[iv p1, iv p2, iv p3, iv p4, rv b1, iv 1, iv 1, iv 0, iv 1, iv 0, iv vc, .unset]) rfl (ziload X3 hx hby at_118 rfl (ziconst X3 hx hby at_120 (z := (1 : Int32)) rfl (zicmpNo X3 hx hby at_121 (by decide) (ziload X3 hx hby at_124 rfl (ziconst X3 hx hby at_126 (z := (3 : Int32)) rfl (zicmpYes X3 hx hby at_127 140 (by decide) (by decide) (by decide) (ziload X3 hx hby at_140 rfl (ziconst X3 hx hby at_142 (z := (1 : Int32)) rfl (zicmpYes X3 hx hby at_143 163 (by decide) (by decide) (by decide) ?_)))))))))
        show zEnds p e below s T3 (mkF m 163 #[iv p1, iv p2, iv p3, iv p4, rv b1, iv 1, iv 1, iv 0, iv 1, iv 0, iv vc, .unset] []) _ _ _
        refine ziload X3 hx hby at_163 rfl (ziconst X3 hx hby at_165 (z := (2 : Int32)) rfl (zicmpYes X3 hx hby at_166 220 (by decide) (by decide) (by decide) (ziload X3 hx hby at_220 rfl (ziconst X3 hx hby at_222 (z := (3 : Int32)) rfl (zicmpYes X3 hx hby at_223 251 (by decide) (by decide) (by decide) (ziload X3 hx hby at_251 rfl (zistore X3 hx hby at_253 (L' := #[iv p1, iv p2, iv p3, iv p4, rv b1, iv 1, iv 1, iv 0, iv 1, iv 0, iv vc, iv 1]) rfl (zaload X3 hx hby at_255 rfl rfl (ziload X3 hx hby at_257 rfl ?_)))))))))
        show zEnds p e below s T3 (mkF m 259 #[iv p1, iv p2, iv p3, iv p4, rv b1, iv 1, iv 1, iv 0, iv 1, iv 0, iv vc, iv 1] [(.int 1), (.ref b1)]) _ _ _
        refine ziloadN X3 hx hby at_259 rfl (zi2b X3 hx hby at_260 (p4.toInt8.toInt32) rfl ?_)
        show zEnds p e below s T3 (mkF m 261 #[iv p1, iv p2, iv p3, iv p4, rv b1, iv 1, iv 1, iv 0, iv 1, iv 0, iv vc, iv 1] [(.int (p4.toInt8.toInt32)), (.int 1), (.ref b1)]) _ _ _
        generalize e_vy : (p4.toInt8.toInt32) = vy
        have hn_vy : nar .byte vy = vy := by rw [← e_vy]; exact own_nar8 _
        refine zbastore X3 hx hby at_261 hZ e3 A3_b1 (by decide) (by show Int32.toNatClampNeg 1 < 20; decide) vy hn_vy fun T110 h110 X110 e110 W110 A110_b1 => ?_
        change zLst Z h110 b1 .byte [(.int va), (.int vy), (.int 0), (.int 0), (.int 0), (.int 0), (.int 0), (.int 0), (.int 0), (.int 0), (.int 0), (.int 0), (.int 0), (.int 0), (.int 0), (.int 0), (.int 0), (.int 0), (.int 0), (.int 0)] at A110_b1
        have O110 := O3.wr W110 g1
        have N110 := Fr.snoc X110 N3 g1
        refine zaload X110 hx hby at_262 rfl rfl (ziload X110 hx hby at_264 rfl (ziconst X110 hx hby at_266 (z := (1 : Int32)) rfl (ziadd X110 hx hby at_267 (2 : Int32) (by decide) (ziloadN X110 hx hby at_268 rfl (zbipush X110 hx hby at_269 (z := (8 : Int32)) rfl (ziushr X110 hx hby at_271 ((p4.toUInt32 >>> ((8 : Int32) &&& 31).toUInt32).toInt32) rfl (zi2b X110 hx hby at_272 (((p4.toUInt32 >>> ((8 : Int32) &&& 31).toUInt32).toInt32).toInt8.toInt32) rfl ?_)))))))
        show zEnds p e below s T110 (mkF m 273 #[iv p1, iv p2, iv p3, iv p4, rv b1, iv 1, iv 1, iv 0, iv 1, iv 0, iv vc, iv 1] [(.int (((p4.toUInt32 >>> ((8 : Int32) &&& 31).toUInt32).toInt32).toInt8.toInt32)), (.int 2), (.ref b1)]) _ _ _
        generalize e_vz : (((p4.toUInt32 >>> ((8 : Int32) &&& 31).toUInt32).toInt32).toInt8.toInt32) = vz
        have hn_vz : nar .byte vz = vz := by rw [← e_vz]; exact own_nar8 _
        refine zbastore X110 hx hby at_273 hZ e110 A110_b1 (by decide) (by show Int32.toNatClampNeg 2 < 20; decide) vz hn_vz fun T111 h111 X111 e111 W111 A111_b1 => ?_
        change zLst Z h111 b1 .byte [(.int va), (.int vy), (.int vz), (.int 0), (.int 0), (.int 0), (.int 0), (.int 0), (.int 0), (.int 0), (.int 0), (.int 0), (.int 0), (.int 0), (.int 0), (.int 0), (.int 0), (.int 0), (.int 0), (.int 0)] at A111_b1
        have O111 := O110.wr W111 g1
        have N111 := Fr.snoc X111 N110 g1
        refine zaload X111 hx hby at_274 rfl rfl (ziload X111 hx hby at_276 rfl (ziload X111 hx hby at_278 rfl (zcalls X111 hx hby at_280 hZ hown (w6 hw) (w7 hw) (w8 hw) (w9 hw) e111 (c47_firstCharacter l hw [] ⟨S_w_arr0, A_w_arr0, Al_w_arr0⟩ O111 (zsz O111) b1 va vy vz g1 A111_b1) hml 0 pd_0 (argsL := [(.ref b1), (.int 1), (.int 1)]) (st := []) (zpureK ⟨rfl, rfl⟩ fun T112 X112 e112 => ?_))))
        show zEnds p e below s T112 (mkF m 283 #[iv p1, iv p2, iv p3, iv p4, rv b1, iv 1, iv 1, iv 0, iv 1, iv 0, iv vc, iv 1] [(.int 1)]) _ _ _
        refine ziload X112 hx hby at_283 rfl (zicmpNo X112 hx hby at_285 (by decide) (ziconst X112 hx hby at_288 (z := (1 : Int32)) rfl (zgoto X112 hx hby at_289 293 (by decide) (by decide) ?_)))
        show zEnds p e below s T112 (mkF m 293 #[iv p1, iv p2, iv p3, iv p4, rv b1, iv 1, iv 1, iv 0, iv 1, iv 0, iv vc, iv 1] [(.int 1)]) _ _ _
        exact zretZ X112 hx hby at_293 hret hlk (by simp) rfl (by decide) (by decide) ⟨rfl, N111⟩
      · rw [q109]
        refine zistore X3 hx hby at_108 (L' := #[iv p1, iv p2, iv p3, iv p4, rv b1, iv 1, iv 1, iv 0, iv 1, iv 1, .unset, .unset]) rfl (ziloadN X3 hx hby at_110 rfl (ziconst X3 hx hby at_111 (z := (2 : Int32)) rfl (ziushr X3 hx hby at_112 ((p2.toUInt32 >>> ((2 : Int32) &&& 31).toUInt32).toInt32) rfl (zbipush X3 hx hby at_113 (z := (127 : Int32)) rfl (ziand X3 hx hby at_115 (((p2.toUInt32 >>> ((2 : Int32) &&& 31).toUInt32).toInt32) &&& (127 : Int32)) rfl ?_)))))
        show zEnds p e below s T3 (mkF m 116 #[iv p1, iv p2, iv p3, iv p4, rv b1, iv 1, iv 1, iv 0, iv 1, iv 1, .unset, .unset] [(.int (((p2.toUInt32 >>> ((2 : Int32) &&& 31).toUInt32).toInt32) &&& (127 : Int32)))]) _ _ _
        generalize e_vc : (((p2.toUInt32 >>> ((2 : Int32) &&& 31).toUInt32).toInt32) &&& (127 : Int32)) = vc
        have kc : 0 ≤ vc.toInt ∧ vc.toInt ≤ 127 := by rw [← e_vc]; exact own_c _
        refine zistore X3 hx hby at_116 (L' := #[iv p1, iv p2, iv p3, iv p4, rv b1, iv 1, iv 1, iv 0, iv 1, iv 1, iv vc, .unset]) rfl (ziload X3 hx hby at_118 rfl (ziconst X3 hx hby at_120 (z := (1 : Int32)) rfl (zicmpYes X3 hx hby at_121 130 (by decide) (by decide) (by decide) (ziload X3 hx hby at_130 rfl (zbipush X3 hx hby at_132 (z := (27 : Int32)) rfl ?_)))))
        show zEnds p e below s T3 (mkF m 134 #[iv p1, iv p2, iv p3, iv p4, rv b1, iv 1, iv 1, iv 0, iv 1, iv 1, iv vc, .unset] [(.int 27), (.int vc)]) _ _ _
        by_cases hc27 : vc = (27 : Int32)
        · show zEnds p e below s T3 (mkF m 134 #[iv p1, iv p2, iv p3, iv p4, rv b1, iv 1, iv 1, iv 0, iv 1, iv 1, iv vc, .unset] [(.int 27), (.int vc)]) _ _ _
          refine zicmpNo X3 hx hby at_134 (teq hc27).2 (ziconst X3 hx hby at_137 (z := (0 : Int32)) rfl (zistore X3 hx hby at_138 (L' := #[iv p1, iv p2, iv p3, iv p4, rv b1, iv 1, iv 1, iv 0, iv 1, iv 0, iv vc, .unset]) rfl (ziload X3 hx hby at_140 rfl (ziconst X3 hx hby at_142 (z := (1 : Int32)) rfl (zicmpYes X3 hx hby at_143 163 (by decide) (by decide) (by decide) (ziload X3 hx hby at_163 rfl (ziconst X3 hx hby at_165 (z := (2 : Int32)) rfl (zicmpYes X3 hx hby at_166 220 (by decide) (by decide) (by decide) (ziload X3 hx hby at_220 rfl ?_)))))))))
          show zEnds p e below s T3 (mkF m 222 #[iv p1, iv p2, iv p3, iv p4, rv b1, iv 1, iv 1, iv 0, iv 1, iv 0, iv vc, .unset] [(.int 0)]) _ _ _
          refine ziconst X3 hx hby at_222 (z := (3 : Int32)) rfl (zicmpYes X3 hx hby at_223 251 (by decide) (by decide) (by decide) (ziload X3 hx hby at_251 rfl (zistore X3 hx hby at_253 (L' := #[iv p1, iv p2, iv p3, iv p4, rv b1, iv 1, iv 1, iv 0, iv 1, iv 0, iv vc, iv 1]) rfl (zaload X3 hx hby at_255 rfl rfl (ziload X3 hx hby at_257 rfl (ziloadN X3 hx hby at_259 rfl (zi2b X3 hx hby at_260 (p4.toInt8.toInt32) rfl ?_)))))))
          show zEnds p e below s T3 (mkF m 261 #[iv p1, iv p2, iv p3, iv p4, rv b1, iv 1, iv 1, iv 0, iv 1, iv 0, iv vc, iv 1] [(.int (p4.toInt8.toInt32)), (.int 1), (.ref b1)]) _ _ _
          generalize e_vy : (p4.toInt8.toInt32) = vy
          have hn_vy : nar .byte vy = vy := by rw [← e_vy]; exact own_nar8 _
          refine zbastore X3 hx hby at_261 hZ e3 A3_b1 (by decide) (by show Int32.toNatClampNeg 1 < 20; decide) vy hn_vy fun T113 h113 X113 e113 W113 A113_b1 => ?_
          change zLst Z h113 b1 .byte [(.int va), (.int vy), (.int 0), (.int 0), (.int 0), (.int 0), (.int 0), (.int 0), (.int 0), (.int 0), (.int 0), (.int 0), (.int 0), (.int 0), (.int 0), (.int 0), (.int 0), (.int 0), (.int 0), (.int 0)] at A113_b1
          have O113 := O3.wr W113 g1
          have N113 := Fr.snoc X113 N3 g1
          refine zaload X113 hx hby at_262 rfl rfl (ziload X113 hx hby at_264 rfl (ziconst X113 hx hby at_266 (z := (1 : Int32)) rfl (ziadd X113 hx hby at_267 (2 : Int32) (by decide) (ziloadN X113 hx hby at_268 rfl (zbipush X113 hx hby at_269 (z := (8 : Int32)) rfl (ziushr X113 hx hby at_271 ((p4.toUInt32 >>> ((8 : Int32) &&& 31).toUInt32).toInt32) rfl (zi2b X113 hx hby at_272 (((p4.toUInt32 >>> ((8 : Int32) &&& 31).toUInt32).toInt32).toInt8.toInt32) rfl ?_)))))))
          show zEnds p e below s T113 (mkF m 273 #[iv p1, iv p2, iv p3, iv p4, rv b1, iv 1, iv 1, iv 0, iv 1, iv 0, iv vc, iv 1] [(.int (((p4.toUInt32 >>> ((8 : Int32) &&& 31).toUInt32).toInt32).toInt8.toInt32)), (.int 2), (.ref b1)]) _ _ _
          generalize e_vz : (((p4.toUInt32 >>> ((8 : Int32) &&& 31).toUInt32).toInt32).toInt8.toInt32) = vz
          have hn_vz : nar .byte vz = vz := by rw [← e_vz]; exact own_nar8 _
          refine zbastore X113 hx hby at_273 hZ e113 A113_b1 (by decide) (by show Int32.toNatClampNeg 2 < 20; decide) vz hn_vz fun T114 h114 X114 e114 W114 A114_b1 => ?_
          change zLst Z h114 b1 .byte [(.int va), (.int vy), (.int vz), (.int 0), (.int 0), (.int 0), (.int 0), (.int 0), (.int 0), (.int 0), (.int 0), (.int 0), (.int 0), (.int 0), (.int 0), (.int 0), (.int 0), (.int 0), (.int 0), (.int 0)] at A114_b1
          have O114 := O113.wr W114 g1
          have N114 := Fr.snoc X114 N113 g1
          refine zaload X114 hx hby at_274 rfl rfl (ziload X114 hx hby at_276 rfl (ziload X114 hx hby at_278 rfl (zcalls X114 hx hby at_280 hZ hown (w6 hw) (w7 hw) (w8 hw) (w9 hw) e114 (c47_firstCharacter l hw [] ⟨S_w_arr0, A_w_arr0, Al_w_arr0⟩ O114 (zsz O114) b1 va vy vz g1 A114_b1) hml 0 pd_0 (argsL := [(.ref b1), (.int 1), (.int 1)]) (st := []) (zpureK ⟨rfl, rfl⟩ fun T115 X115 e115 => ?_))))
          show zEnds p e below s T115 (mkF m 283 #[iv p1, iv p2, iv p3, iv p4, rv b1, iv 1, iv 1, iv 0, iv 1, iv 0, iv vc, iv 1] [(.int 1)]) _ _ _
          refine ziload X115 hx hby at_283 rfl (zicmpNo X115 hx hby at_285 (by decide) (ziconst X115 hx hby at_288 (z := (1 : Int32)) rfl (zgoto X115 hx hby at_289 293 (by decide) (by decide) ?_)))
          show zEnds p e below s T115 (mkF m 293 #[iv p1, iv p2, iv p3, iv p4, rv b1, iv 1, iv 1, iv 0, iv 1, iv 0, iv vc, iv 1] [(.int 1)]) _ _ _
          exact zretZ X115 hx hby at_293 hret hlk (by simp) rfl (by decide) (by decide) ⟨rfl, N114⟩
        · show zEnds p e below s T3 (mkF m 134 #[iv p1, iv p2, iv p3, iv p4, rv b1, iv 1, iv 1, iv 0, iv 1, iv 1, iv vc, .unset] [(.int 27), (.int vc)]) _ _ _
          refine zicmpYes X3 hx hby at_134 140 (feq hc27).2 (by decide) (by decide) (ziload X3 hx hby at_140 rfl (ziconst X3 hx hby at_142 (z := (1 : Int32)) rfl (zicmpNo X3 hx hby at_143 (by decide) (zaload X3 hx hby at_146 rfl rfl (ziload X3 hx hby at_148 rfl (ziload X3 hx hby at_150 rfl (zi2b X3 hx hby at_152 (vc.toInt8.toInt32) rfl ?_)))))))
          show zEnds p e below s T3 (mkF m 153 #[iv p1, iv p2, iv p3, iv p4, rv b1, iv 1, iv 1, iv 0, iv 1, iv 1, iv vc, .unset] [(.int (vc.toInt8.toInt32)), (.int 1), (.ref b1)]) _ _ _
          generalize e_vd : (vc.toInt8.toInt32) = vd
          have hn_vd : nar .byte vd = vd := by rw [← e_vd]; exact own_nar8 _
          have h27_vd : ¬ (vd = (27 : Int32)) := by rw [← e_vd]; exact own_27 kc hc27
          refine zbastore X3 hx hby at_153 hZ e3 A3_b1 (by decide) (by show Int32.toNatClampNeg 1 < 20; decide) vd hn_vd fun T116 h116 X116 e116 W116 A116_b1 => ?_
          change zLst Z h116 b1 .byte [(.int va), (.int vd), (.int 0), (.int 0), (.int 0), (.int 0), (.int 0), (.int 0), (.int 0), (.int 0), (.int 0), (.int 0), (.int 0), (.int 0), (.int 0), (.int 0), (.int 0), (.int 0), (.int 0), (.int 0)] at A116_b1
          have O116 := O3.wr W116 g1
          have N116 := Fr.snoc X116 N3 g1
          refine ziload X116 hx hby at_154 rfl (ziconst X116 hx hby at_156 (z := (1 : Int32)) rfl (ziadd X116 hx hby at_157 (2 : Int32) (by decide) (zistore X116 hx hby at_158 (L' := #[iv p1, iv p2, iv p3, iv p4, rv b1, iv 1, iv 2, iv 0, iv 1, iv 1, iv vc, .unset]) rfl (zgoto X116 hx hby at_160 251 (by decide) (by decide) (ziload X116 hx hby at_251 rfl (zistore X116 hx hby at_253 (L' := #[iv p1, iv p2, iv p3, iv p4, rv b1, iv 1, iv 2, iv 0, iv 1, iv 1, iv vc, iv 2]) rfl (zaload X116 hx hby at_255 rfl rfl (ziload X116 hx hby at_257 rfl (ziloadN X116 hx hby at_259 rfl ?_)))))))))
          show zEnds p e below s T116 (mkF m 260 #[iv p1, iv p2, iv p3, iv p4, rv b1, iv 1, iv 2, iv 0, iv 1, iv 1, iv vc, iv 2] [(.int p4), (.int 2), (.ref b1)]) _ _ _
          refine zi2b X116 hx hby at_260 (p4.toInt8.toInt32) rfl ?_
          show zEnds p e below s T116 (mkF m 261 #[iv p1, iv p2, iv p3, iv p4, rv b1, iv 1, iv 2, iv 0, iv 1, iv 1, iv vc, iv 2] [(.int (p4.toInt8.toInt32)), (.int 2), (.ref b1)]) _ _ _
          generalize e_vy : (p4.toInt8.toInt32) = vy
          have hn_vy : nar .byte vy = vy := by rw [← e_vy]; exact own_nar8 _
          refine zbastore X116 hx hby at_261 hZ e116 A116_b1 (by decide) (by show Int32.toNatClampNeg 2 < 20; decide) vy hn_vy fun T117 h117 X117 e117 W117 A117_b1 => ?_
          change zLst Z h117 b1 .byte [(.int va), (.int vd), (.int vy), (.int 0), (.int 0), (.int 0), (.int 0), (.int 0), (.int 0), (.int 0), (.int 0), (.int 0), (.int 0), (.int 0), (.int 0), (.int 0), (.int 0), (.int 0), (.int 0), (.int 0)] at A117_b1
          have O117 := O116.wr W117 g1
          have N117 := Fr.snoc X117 N116 g1
          refine zaload X117 hx hby at_262 rfl rfl (ziload X117 hx hby at_264 rfl (ziconst X117 hx hby at_266 (z := (1 : Int32)) rfl (ziadd X117 hx hby at_267 (3 : Int32) (by decide) (ziloadN X117 hx hby at_268 rfl (zbipush X117 hx hby at_269 (z := (8 : Int32)) rfl (ziushr X117 hx hby at_271 ((p4.toUInt32 >>> ((8 : Int32) &&& 31).toUInt32).toInt32) rfl (zi2b X117 hx hby at_272 (((p4.toUInt32 >>> ((8 : Int32) &&& 31).toUInt32).toInt32).toInt8.toInt32) rfl ?_)))))))
          show zEnds p e below s T117 (mkF m 273 #[iv p1, iv p2, iv p3, iv p4, rv b1, iv 1, iv 2, iv 0, iv 1, iv 1, iv vc, iv 2] [(.int (((p4.toUInt32 >>> ((8 : Int32) &&& 31).toUInt32).toInt32).toInt8.toInt32)), (.int 3), (.ref b1)]) _ _ _
          generalize e_vz : (((p4.toUInt32 >>> ((8 : Int32) &&& 31).toUInt32).toInt32).toInt8.toInt32) = vz
          have hn_vz : nar .byte vz = vz := by rw [← e_vz]; exact own_nar8 _
          refine zbastore X117 hx hby at_273 hZ e117 A117_b1 (by decide) (by show Int32.toNatClampNeg 3 < 20; decide) vz hn_vz fun T118 h118 X118 e118 W118 A118_b1 => ?_
          change zLst Z h118 b1 .byte [(.int va), (.int vd), (.int vy), (.int vz), (.int 0), (.int 0), (.int 0), (.int 0), (.int 0), (.int 0), (.int 0), (.int 0), (.int 0), (.int 0), (.int 0), (.int 0), (.int 0), (.int 0), (.int 0), (.int 0)] at A118_b1
          have O118 := O117.wr W118 g1
          have N118 := Fr.snoc X118 N117 g1
          refine zaload X118 hx hby at_274 rfl rfl (ziload X118 hx hby at_276 rfl (ziload X118 hx hby at_278 rfl (zcalls X118 hx hby at_280 hZ hown (w6 hw) (w7 hw) (w8 hw) (w9 hw) e118 (c49_firstCharacter l hw [] ⟨S_w_arr0, A_w_arr0, Al_w_arr0⟩ O118 (zsz O118) b1 va vd vy vz g1 A118_b1 h27_vd) hml 0 pd_0 (argsL := [(.ref b1), (.int 1), (.int 2)]) (st := []) (zpureK ⟨rfl, rfl⟩ fun T119 X119 e119 => ?_))))
          show zEnds p e below s T119 (mkF m 283 #[iv p1, iv p2, iv p3, iv p4, rv b1, iv 1, iv 2, iv 0, iv 1, iv 1, iv vc, iv 2] [(.int 1)]) _ _ _
          refine ziload X119 hx hby at_283 rfl (zicmpNo X119 hx hby at_285 (by decide) (ziconst X119 hx hby at_288 (z := (1 : Int32)) rfl (zgoto X119 hx hby at_289 293 (by decide) (by decide) ?_)))
          show zEnds p e below s T119 (mkF m 293 #[iv p1, iv p2, iv p3, iv p4, rv b1, iv 1, iv 2, iv 0, iv 1, iv 1, iv vc, iv 2] [(.int 1)]) _ _ _
          exact zretZ X119 hx hby at_293 hret hlk (by simp) rfl (by decide) (by decide) ⟨rfl, N118⟩
      · rw [q109]
        refine zistore X3 hx hby at_108 (L' := #[iv p1, iv p2, iv p3, iv p4, rv b1, iv 1, iv 1, iv 0, iv 1, iv 2, .unset, .unset]) rfl (ziloadN X3 hx hby at_110 rfl (ziconst X3 hx hby at_111 (z := (2 : Int32)) rfl (ziushr X3 hx hby at_112 ((p2.toUInt32 >>> ((2 : Int32) &&& 31).toUInt32).toInt32) rfl (zbipush X3 hx hby at_113 (z := (127 : Int32)) rfl (ziand X3 hx hby at_115 (((p2.toUInt32 >>> ((2 : Int32) &&& 31).toUInt32).toInt32) &&& (127 : Int32)) rfl ?_)))))
        show zEnds p e below s T3 (mkF m 116 #[iv p1, iv p2, iv p3, iv p4, rv b1, iv 1, iv 1, iv 0, iv 1, iv 2, .unset, .unset] [(.int (((p2.toUInt32 >>> ((2 : Int32) &&& 31).toUInt32).toInt32) &&& (127 : Int32)))]) _ _ _
        generalize e_vc : (((p2.toUInt32 >>> ((2 : Int32) &&& 31).toUInt32).toInt32) &&& (127 : Int32)) = vc
        have kc : 0 ≤ vc.toInt ∧ vc.toInt ≤ 127 := by rw [← e_vc]; exact own_c _
        refine zistore X3 hx hby at_116 (L' := #[iv p1, iv p2, iv p3, iv p4, rv b1, iv 1, iv 1, iv 0, iv 1, iv 2, iv vc, .unset]) rfl (ziload X3 hx hby at_118 rfl (ziconst X3 hx hby at_120 (z := (1 : Int32)) rfl (zicmpNo X3 hx hby at_121 (by decide) (ziload X3 hx hby at_124 rfl (ziconst X3 hx hby at_126 (z := (3 : Int32)) rfl (zicmpYes X3 hx hby at_127 140 (by decide) (by decide) (by decide) (ziload X3 hx hby at_140 rfl (ziconst X3 hx hby at_142 (z := (1 : Int32)) rfl (zicmpYes X3 hx hby at_143 163 (by decide) (by decide) (by decide) ?_)))))))))
        show zEnds p e below s T3 (mkF m 163 #[iv p1, iv p2, iv p3, iv p4, rv b1, iv 1, iv 1, iv 0, iv 1, iv 2, iv vc, .unset] []) _ _ _
        refine ziload X3 hx hby at_163 rfl (ziconst X3 hx hby at_165 (z := (2 : Int32)) rfl (zicmpNo X3 hx hby at_166 (by decide) (zaload X3 hx hby at_169 rfl rfl (ziload X3 hx hby at_171 rfl (zbipush X3 hx hby at_173 (z := (48 : Int32)) rfl (ziloadN X3 hx hby at_175 rfl (zbipush X3 hx hby at_176 (z := (9 : Int32)) rfl (ziushr X3 hx hby at_178 ((p2.toUInt32 >>> ((9 : Int32) &&& 31).toUInt32).toInt32) rfl (zsipush X3 hx hby at_179 (z := (255 : Int32)) rfl ?_)))))))))
        show zEnds p e below s T3 (mkF m 182 #[iv p1, iv p2, iv p3, iv p4, rv b1, iv 1, iv 1, iv 0, iv 1, iv 2, iv vc, .unset] [(.int 255), (.int ((p2.toUInt32 >>> ((9 : Int32) &&& 31).toUInt32).toInt32)), (.int 48), (.int 1), (.ref b1)]) _ _ _
        refine ziand X3 hx hby at_182 (((p2.toUInt32 >>> ((9 : Int32) &&& 31).toUInt32).toInt32) &&& (255 : Int32)) rfl (zbipush X3 hx hby at_183 (z := (31 : Int32)) rfl (zirem X3 hx hby at_185 ((((p2.toUInt32 >>> ((9 : Int32) &&& 31).toUInt32).toInt32) &&& (255 : Int32)) % (31 : Int32)) (by decide) rfl (ziadd X3 hx hby at_186 ((48 : Int32) + ((((p2.toUInt32 >>> ((9 : Int32) &&& 31).toUInt32).toInt32) &&& (255 : Int32)) % (31 : Int32))) rfl (zi2b X3 hx hby at_187 (((48 : Int32) + ((((p2.toUInt32 >>> ((9 : Int32) &&& 31).toUInt32).toInt32) &&& (255 : Int32)) % (31 : Int32))).toInt8.toInt32) rfl ?_))))
        show zEnds p e below s T3 (mkF m 188 #[iv p1, iv p2, iv p3, iv p4, rv b1, iv 1, iv 1, iv 0, iv 1, iv 2, iv vc, .unset] [(.int (((48 : Int32) + ((((p2.toUInt32 >>> ((9 : Int32) &&& 31).toUInt32).toInt32) &&& (255 : Int32)) % (31 : Int32))).toInt8.toInt32)), (.int 1), (.ref b1)]) _ _ _
        generalize e_ve : (((48 : Int32) + ((((p2.toUInt32 >>> ((9 : Int32) &&& 31).toUInt32).toInt32) &&& (255 : Int32)) % (31 : Int32))).toInt8.toInt32) = ve
        have hn_ve : nar .byte ve = ve := by rw [← e_ve]; exact own_nar8 _
        have h27_ve : ¬ (ve = (27 : Int32)) := by rw [← e_ve]; exact own_48 _
        refine zbastore X3 hx hby at_188 hZ e3 A3_b1 (by decide) (by show Int32.toNatClampNeg 1 < 20; decide) ve hn_ve fun T120 h120 X120 e120 W120 A120_b1 => ?_
        change zLst Z h120 b1 .byte [(.int va), (.int ve), (.int 0), (.int 0), (.int 0), (.int 0), (.int 0), (.int 0), (.int 0), (.int 0), (.int 0), (.int 0), (.int 0), (.int 0), (.int 0), (.int 0), (.int 0), (.int 0), (.int 0), (.int 0)] at A120_b1
        have O120 := O3.wr W120 g1
        have N120 := Fr.snoc X120 N3 g1
        refine zaload X120 hx hby at_189 rfl rfl (ziload X120 hx hby at_191 rfl (ziconst X120 hx hby at_193 (z := (1 : Int32)) rfl (ziadd X120 hx hby at_194 (2 : Int32) (by decide) (zbipush X120 hx hby at_195 (z := (33 : Int32)) rfl (ziloadN X120 hx hby at_197 rfl (zbipush X120 hx hby at_198 (z := (17 : Int32)) rfl (ziushr X120 hx hby at_200 ((p2.toUInt32 >>> ((17 : Int32) &&& 31).toUInt32).toInt32) rfl (zsipush X120 hx hby at_201 (z := (255 : Int32)) rfl (ziand X120 hx hby at_204 (((p2.toUInt32 >>> ((17 : Int32) &&& 31).toUInt32).toInt32) &&& (255 : Int32)) rfl ?_)))))))))
        show zEnds p e below s T120 (mkF m 205 #[iv p1, iv p2, iv p3, iv p4, rv b1, iv 1, iv 1, iv 0, iv 1, iv 2, iv vc, .unset] [(.int (((p2.toUInt32 >>> ((17 : Int32) &&& 31).toUInt32).toInt32) &&& (255 : Int32))), (.int 33), (.int 2), (.ref b1)]) _ _ _
        refine zbipush X120 hx hby at_205 (z := (94 : Int32)) rfl (zirem X120 hx hby at_207 ((((p2.toUInt32 >>> ((17 : Int32) &&& 31).toUInt32).toInt32) &&& (255 : Int32)) % (94 : Int32)) (by decide) rfl (ziadd X120 hx hby at_208 ((33 : Int32) + ((((p2.toUInt32 >>> ((17 : Int32) &&& 31).toUInt32).toInt32) &&& (255 : Int32)) % (94 : Int32))) rfl (zi2b X120 hx hby at_209 (((33 : Int32) + ((((p2.toUInt32 >>> ((17 : Int32) &&& 31).toUInt32).toInt32) &&& (255 : Int32)) % (94 : Int32))).toInt8.toInt32) rfl ?_)))
        show zEnds p e below s T120 (mkF m 210 #[iv p1, iv p2, iv p3, iv p4, rv b1, iv 1, iv 1, iv 0, iv 1, iv 2, iv vc, .unset] [(.int (((33 : Int32) + ((((p2.toUInt32 >>> ((17 : Int32) &&& 31).toUInt32).toInt32) &&& (255 : Int32)) % (94 : Int32))).toInt8.toInt32)), (.int 2), (.ref b1)]) _ _ _
        generalize e_vf : (((33 : Int32) + ((((p2.toUInt32 >>> ((17 : Int32) &&& 31).toUInt32).toInt32) &&& (255 : Int32)) % (94 : Int32))).toInt8.toInt32) = vf
        have hn_vf : nar .byte vf = vf := by rw [← e_vf]; exact own_nar8 _
        refine zbastore X120 hx hby at_210 hZ e120 A120_b1 (by decide) (by show Int32.toNatClampNeg 2 < 20; decide) vf hn_vf fun T121 h121 X121 e121 W121 A121_b1 => ?_
        change zLst Z h121 b1 .byte [(.int va), (.int ve), (.int vf), (.int 0), (.int 0), (.int 0), (.int 0), (.int 0), (.int 0), (.int 0), (.int 0), (.int 0), (.int 0), (.int 0), (.int 0), (.int 0), (.int 0), (.int 0), (.int 0), (.int 0)] at A121_b1
        have O121 := O120.wr W121 g1
        have N121 := Fr.snoc X121 N120 g1
        refine ziload X121 hx hby at_211 rfl (ziconst X121 hx hby at_213 (z := (2 : Int32)) rfl (ziadd X121 hx hby at_214 (3 : Int32) (by decide) (zistore X121 hx hby at_215 (L' := #[iv p1, iv p2, iv p3, iv p4, rv b1, iv 1, iv 3, iv 0, iv 1, iv 2, iv vc, .unset]) rfl (zgoto X121 hx hby at_217 251 (by decide) (by decide) (ziload X121 hx hby at_251 rfl (zistore X121 hx hby at_253 (L' := #[iv p1, iv p2, iv p3, iv p4, rv b1, iv 1, iv 3, iv 0, iv 1, iv 2, iv vc, iv 3]) rfl (zaload X121 hx hby at_255 rfl rfl (ziload X121 hx hby at_257 rfl (ziloadN X121 hx hby at_259 rfl ?_)))))))))
        show zEnds p e below s T121 (mkF m 260 #[iv p1, iv p2, iv p3, iv p4, rv b1, iv 1, iv 3, iv 0, iv 1, iv 2, iv vc, iv 3] [(.int p4), (.int 3), (.ref b1)]) _ _ _
        refine zi2b X121 hx hby at_260 (p4.toInt8.toInt32) rfl ?_
        show zEnds p e below s T121 (mkF m 261 #[iv p1, iv p2, iv p3, iv p4, rv b1, iv 1, iv 3, iv 0, iv 1, iv 2, iv vc, iv 3] [(.int (p4.toInt8.toInt32)), (.int 3), (.ref b1)]) _ _ _
        generalize e_vy : (p4.toInt8.toInt32) = vy
        have hn_vy : nar .byte vy = vy := by rw [← e_vy]; exact own_nar8 _
        refine zbastore X121 hx hby at_261 hZ e121 A121_b1 (by decide) (by show Int32.toNatClampNeg 3 < 20; decide) vy hn_vy fun T122 h122 X122 e122 W122 A122_b1 => ?_
        change zLst Z h122 b1 .byte [(.int va), (.int ve), (.int vf), (.int vy), (.int 0), (.int 0), (.int 0), (.int 0), (.int 0), (.int 0), (.int 0), (.int 0), (.int 0), (.int 0), (.int 0), (.int 0), (.int 0), (.int 0), (.int 0), (.int 0)] at A122_b1
        have O122 := O121.wr W122 g1
        have N122 := Fr.snoc X122 N121 g1
        refine zaload X122 hx hby at_262 rfl rfl (ziload X122 hx hby at_264 rfl (ziconst X122 hx hby at_266 (z := (1 : Int32)) rfl (ziadd X122 hx hby at_267 (4 : Int32) (by decide) (ziloadN X122 hx hby at_268 rfl (zbipush X122 hx hby at_269 (z := (8 : Int32)) rfl (ziushr X122 hx hby at_271 ((p4.toUInt32 >>> ((8 : Int32) &&& 31).toUInt32).toInt32) rfl (zi2b X122 hx hby at_272 (((p4.toUInt32 >>> ((8 : Int32) &&& 31).toUInt32).toInt32).toInt8.toInt32) rfl ?_)))))))
        show zEnds p e below s T122 (mkF m 273 #[iv p1, iv p2, iv p3, iv p4, rv b1, iv 1, iv 3, iv 0, iv 1, iv 2, iv vc, iv 3] [(.int (((p4.toUInt32 >>> ((8 : Int32) &&& 31).toUInt32).toInt32).toInt8.toInt32)), (.int 4), (.ref b1)]) _ _ _
        generalize e_vz : (((p4.toUInt32 >>> ((8 : Int32) &&& 31).toUInt32).toInt32).toInt8.toInt32) = vz
        have hn_vz : nar .byte vz = vz := by rw [← e_vz]; exact own_nar8 _
        refine zbastore X122 hx hby at_273 hZ e122 A122_b1 (by decide) (by show Int32.toNatClampNeg 4 < 20; decide) vz hn_vz fun T123 h123 X123 e123 W123 A123_b1 => ?_
        change zLst Z h123 b1 .byte [(.int va), (.int ve), (.int vf), (.int vy), (.int vz), (.int 0), (.int 0), (.int 0), (.int 0), (.int 0), (.int 0), (.int 0), (.int 0), (.int 0), (.int 0), (.int 0), (.int 0), (.int 0), (.int 0), (.int 0)] at A123_b1
        have O123 := O122.wr W123 g1
        have N123 := Fr.snoc X123 N122 g1
        refine zaload X123 hx hby at_274 rfl rfl (ziload X123 hx hby at_276 rfl (ziload X123 hx hby at_278 rfl (zcalls X123 hx hby at_280 hZ hown (w6 hw) (w7 hw) (w8 hw) (w9 hw) e123 (c51_firstCharacter l hw [] ⟨S_w_arr0, A_w_arr0, Al_w_arr0⟩ O123 (zsz O123) b1 va ve vf vy vz g1 A123_b1 h27_ve) hml 0 pd_0 (argsL := [(.ref b1), (.int 1), (.int 3)]) (st := []) (zpureK ⟨rfl, rfl⟩ fun T124 X124 e124 => ?_))))
        show zEnds p e below s T124 (mkF m 283 #[iv p1, iv p2, iv p3, iv p4, rv b1, iv 1, iv 3, iv 0, iv 1, iv 2, iv vc, iv 3] [(.int 1)]) _ _ _
        refine ziload X124 hx hby at_283 rfl (zicmpNo X124 hx hby at_285 (by decide) (ziconst X124 hx hby at_288 (z := (1 : Int32)) rfl (zgoto X124 hx hby at_289 293 (by decide) (by decide) ?_)))
        show zEnds p e below s T124 (mkF m 293 #[iv p1, iv p2, iv p3, iv p4, rv b1, iv 1, iv 3, iv 0, iv 1, iv 2, iv vc, iv 3] [(.int 1)]) _ _ _
        exact zretZ X124 hx hby at_293 hret hlk (by simp) rfl (by decide) (by decide) ⟨rfl, N123⟩
      · rw [q109]
        refine zistore X3 hx hby at_108 (L' := #[iv p1, iv p2, iv p3, iv p4, rv b1, iv 1, iv 1, iv 0, iv 1, iv 3, .unset, .unset]) rfl (ziloadN X3 hx hby at_110 rfl (ziconst X3 hx hby at_111 (z := (2 : Int32)) rfl (ziushr X3 hx hby at_112 ((p2.toUInt32 >>> ((2 : Int32) &&& 31).toUInt32).toInt32) rfl (zbipush X3 hx hby at_113 (z := (127 : Int32)) rfl (ziand X3 hx hby at_115 (((p2.toUInt32 >>> ((2 : Int32) &&& 31).toUInt32).toInt32) &&& (127 : Int32)) rfl ?_)))))
        show zEnds p e below s T3 (mkF m 116 #[iv p1, iv p2, iv p3, iv p4, rv b1, iv 1, iv 1, iv 0, iv 1, iv 3, .unset, .unset] [(.int (((p2.toUInt32 >>> ((2 : Int32) &&& 31).toUInt32).toInt32) &&& (127 : Int32)))]) _ _ _
        generalize e_vc : (((p2.toUInt32 >>> ((2 : Int32) &&& 31).toUInt32).toInt32) &&& (127 : Int32)) = vc
        have kc : 0 ≤ vc.toInt ∧ vc.toInt ≤ 127 := by rw [← e_vc]; exact own_c _
        refine zistore X3 hx hby at_116 (L' := #[iv p1, iv p2, iv p3, iv p4, rv b1, iv 1, iv 1, iv 0, iv 1, iv 3, iv vc, .unset]) rfl (ziload X3 hx hby at_118 rfl (ziconst X3 hx hby at_120 (z := (1 : Int32)) rfl (zicmpNo X3 hx hby at_121 (by decide) (ziload X3 hx hby at_124 rfl (ziconst X3 hx hby at_126 (z := (3 : Int32)) rfl (zicmpNo X3 hx hby at_127 (by decide) (ziload X3 hx hby at_130 rfl (zbipush X3 hx hby at_132 (z := (27 : Int32)) rfl ?_))))))))
        show zEnds p e below s T3 (mkF m 134 #[iv p1, iv p2, iv p3, iv p4, rv b1, iv 1, iv 1, iv 0, iv 1, iv 3, iv vc, .unset] [(.int 27), (.int vc)]) _ _ _
        by_cases hc27 : vc = (27 : Int32)
        · show zEnds p e below s T3 (mkF m 134 #[iv p1, iv p2, iv p3, iv p4, rv b1, iv 1, iv 1, iv 0, iv 1, iv 3, iv vc, .unset] [(.int 27), (.int vc)]) _ _ _
          refine zicmpNo X3 hx hby at_134 (teq hc27).2 (ziconst X3 hx hby at_137 (z := (0 : Int32)) rfl (zistore X3 hx hby at_138 (L' := #[iv p1, iv p2, iv p3, iv p4, rv b1, iv 1, iv 1, iv 0, iv 1, iv 0, iv vc, .unset]) rfl (ziload X3 hx hby at_140 rfl (ziconst X3 hx hby at_142 (z := (1 : Int32)) rfl (zicmpYes X3 hx hby at_143 163 (by decide) (by decide) (by decide) (ziload X3 hx hby at_163 rfl (ziconst X3 hx hby at_165 (z := (2 : Int32)) rfl (zicmpYes X3 hx hby at_166 220 (by decide) (by decide) (by decide) (ziload X3 hx hby at_220 rfl ?_)))))))))
          show zEnds p e below s T3 (mkF m 222 #[iv p1, iv p2, iv p3, iv p4, rv b1, iv 1, iv 1, iv 0, iv 1, iv 0, iv vc, .unset] [(.int 0)]) _ _ _
          refine ziconst X3 hx hby at_222 (z := (3 : Int32)) rfl (zicmpYes X3 hx hby at_223 251 (by decide) (by decide) (by decide) (ziload X3 hx hby at_251 rfl (zistore X3 hx hby at_253 (L' := #[iv p1, iv p2, iv p3, iv p4, rv b1, iv 1, iv 1, iv 0, iv 1, iv 0, iv vc, iv 1]) rfl (zaload X3 hx hby at_255 rfl rfl (ziload X3 hx hby at_257 rfl (ziloadN X3 hx hby at_259 rfl (zi2b X3 hx hby at_260 (p4.toInt8.toInt32) rfl ?_)))))))
          show zEnds p e below s T3 (mkF m 261 #[iv p1, iv p2, iv p3, iv p4, rv b1, iv 1, iv 1, iv 0, iv 1, iv 0, iv vc, iv 1] [(.int (p4.toInt8.toInt32)), (.int 1), (.ref b1)]) _ _ _
          generalize e_vy : (p4.toInt8.toInt32) = vy
          have hn_vy : nar .byte vy = vy := by rw [← e_vy]; exact own_nar8 _
          refine zbastore X3 hx hby at_261 hZ e3 A3_b1 (by decide) (by show Int32.toNatClampNeg 1 < 20; decide) vy hn_vy fun T125 h125 X125 e125 W125 A125_b1 => ?_
          change zLst Z h125 b1 .byte [(.int va), (.int vy), (.int 0), (.int 0), (.int 0), (.int 0), (.int 0), (.int 0), (.int 0), (.int 0), (.int 0), (.int 0), (.int 0), (.int 0), (.int 0), (.int 0), (.int 0), (.int 0), (.int 0), (.int 0)] at A125_b1
          have O125 := O3.wr W125 g1
          have N125 := Fr.snoc X125 N3 g1
          refine zaload X125 hx hby at_262 rfl rfl (ziload X125 hx hby at_264 rfl (ziconst X125 hx hby at_266 (z := (1 : Int32)) rfl (ziadd X125 hx hby at_267 (2 : Int32) (by decide) (ziloadN X125 hx hby at_268 rfl (zbipush X125 hx hby at_269 (z := (8 : Int32)) rfl (ziushr X125 hx hby at_271 ((p4.toUInt32 >>> ((8 : Int32) &&& 31).toUInt32).toInt32) rfl (zi2b X125 hx hby at_272 (((p4.toUInt32 >>> ((8 : Int32) &&& 31).toUInt32).toInt32).toInt8.toInt32) rfl ?_)))))))
          show zEnds p e below s T125 (mkF m 273 #[iv p1, iv p2, iv p3, iv p4, rv b1, iv 1, iv 1, iv 0, iv 1, iv 0, iv vc, iv 1] [(.int (((p4.toUInt32 >>> ((8 : Int32) &&& 31).toUInt32).toInt32).toInt8.toInt32)), (.int 2), (.ref b1)]) _ _ _
          generalize e_vz : (((p4.toUInt32 >>> ((8 : Int32) &&& 31).toUInt32).toInt32).toInt8.toInt32) = vz
          have hn_vz : nar .byte vz = vz := by rw [← e_vz]; exact own_nar8 _
          refine zbastore X125 hx hby at_273 hZ e125 A125_b1 (by decide) (by show Int32.toNatClampNeg 2 < 20; decide) vz hn_vz fun T126 h126 X126 e126 W126 A126_b1 => ?_
          change zLst Z h126 b1 .byte [(.int va), (.int vy), (.int vz), (.int 0), (.int 0), (.int 0), (.int 0), (.int 0), (.int 0), (.int 0), (.int 0), (.int 0), (.int 0), (.int 0), (.int 0), (.int 0), (.int 0), (.int 0), (.int 0), (.int 0)] at A126_b1
          have O126 := O125.wr W126 g1
          have N126 := Fr.snoc X126 N125 g1
          refine zaload X126 hx hby at_274 rfl rfl (ziload X126 hx hby at_276 rfl (ziload X126 hx hby at_278 rfl (zcalls X126 hx hby at_280 hZ hown (w6 hw) (w7 hw) (w8 hw) (w9 hw) e126 (c47_firstCharacter l hw [] ⟨S_w_arr0, A_w_arr0, Al_w_arr0⟩ O126 (zsz O126) b1 va vy vz g1 A126_b1) hml 0 pd_0 (argsL := [(.ref b1), (.int 1), (.int 1)]) (st := []) (zpureK ⟨rfl, rfl⟩ fun T127 X127 e127 => ?_))))
          show zEnds p e below s T127 (mkF m 283 #[iv p1, iv p2, iv p3, iv p4, rv b1, iv 1, iv 1, iv 0, iv 1, iv 0, iv vc, iv 1] [(.int 1)]) _ _ _
          refine ziload X127 hx hby at_283 rfl (zicmpNo X127 hx hby at_285 (by decide) (ziconst X127 hx hby at_288 (z := (1 : Int32)) rfl (zgoto X127 hx hby at_289 293 (by decide) (by decide) ?_)))
          show zEnds p e below s T127 (mkF m 293 #[iv p1, iv p2, iv p3, iv p4, rv b1, iv 1, iv 1, iv 0, iv 1, iv 0, iv vc, iv 1] [(.int 1)]) _ _ _
          exact zretZ X127 hx hby at_293 hret hlk (by simp) rfl (by decide) (by decide) ⟨rfl, N126⟩
        · show zEnds p e below s T3 (mkF m 134 #[iv p1, iv p2, iv p3, iv p4, rv b1, iv 1, iv 1, iv 0, iv 1, iv 3, iv vc, .unset] [(.int 27), (.int vc)]) _ _ _
          refine zicmpYes X3 hx hby at_134 140 (feq hc27).2 (by decide) (by decide) (ziload X3 hx hby at_140 rfl (ziconst X3 hx hby at_142 (z := (1 : Int32)) rfl (zicmpYes X3 hx hby at_143 163 (by decide) (by decide) (by decide) (ziload X3 hx hby at_163 rfl (ziconst X3 hx hby at_165 (z := (2 : Int32)) rfl (zicmpYes X3 hx hby at_166 220 (by decide) (by decide) (by decide) (ziload X3 hx hby at_220 rfl (ziconst X3 hx hby at_222 (z := (3 : Int32)) rfl (zicmpNo X3 hx hby at_223 (by decide) ?_)))))))))
          show zEnds p e below s T3 (mkF m 226 #[iv p1, iv p2, iv p3, iv p4, rv b1, iv 1, iv 1, iv 0, iv 1, iv 3, iv vc, .unset] []) _ _ _
          refine zaload X3 hx hby at_226 rfl rfl (ziload X3 hx hby at_228 rfl (ziload X3 hx hby at_230 rfl (zi2b X3 hx hby at_232 (vc.toInt8.toInt32) rfl ?_)))
          show zEnds p e below s T3 (mkF m 233 #[iv p1, iv p2, iv p3, iv p4, rv b1, iv 1, iv 1, iv 0, iv 1, iv 3, iv vc, .unset] [(.int (vc.toInt8.toInt32)), (.int 1), (.ref b1)]) _ _ _
          generalize e_vg : (vc.toInt8.toInt32) = vg
          have hn_vg : nar .byte vg = vg := by rw [← e_vg]; exact own_nar8 _
          have h27_vg : ¬ (vg = (27 : Int32)) := by rw [← e_vg]; exact own_27 kc hc27
          refine zbastore X3 hx hby at_233 hZ e3 A3_b1 (by decide) (by show Int32.toNatClampNeg 1 < 20; decide) vg hn_vg fun T128 h128 X128 e128 W128 A128_b1 => ?_
          change zLst Z h128 b1 .byte [(.int va), (.int vg), (.int 0), (.int 0), (.int 0), (.int 0), (.int 0), (.int 0), (.int 0), (.int 0), (.int 0), (.int 0), (.int 0), (.int 0), (.int 0), (.int 0), (.int 0), (.int 0), (.int 0), (.int 0)] at A128_b1
          have O128 := O3.wr W128 g1
          have N128 := Fr.snoc X128 N3 g1
          refine zaload X128 hx hby at_234 rfl rfl (ziload X128 hx hby at_236 rfl (ziconst X128 hx hby at_238 (z := (1 : Int32)) rfl (ziadd X128 hx hby at_239 (2 : Int32) (by decide) (ziloadN X128 hx hby at_240 rfl (zbipush X128 hx hby at_241 (z := (9 : Int32)) rfl (ziushr X128 hx hby at_243 ((p2.toUInt32 >>> ((9 : Int32) &&& 31).toUInt32).toInt32) rfl (ziconst X128 hx hby at_244 (z := (3 : Int32)) rfl (ziand X128 hx hby at_245 (((p2.toUInt32 >>> ((9 : Int32) &&& 31).toUInt32).toInt32) &&& (3 : Int32)) rfl ?_))))))))
          show zEnds p e below s T128 (mkF m 246 #[iv p1, iv p2, iv p3, iv p4, rv b1, iv 1, iv 1, iv 0, iv 1, iv 3, iv vc, .unset] [(.int (((p2.toUInt32 >>> ((9 : Int32) &&& 31).toUInt32).toInt32) &&& (3 : Int32))), (.int 2), (.ref b1)]) _ _ _
          generalize e_vs4 : (((p2.toUInt32 >>> ((9 : Int32) &&& 31).toUInt32).toInt32) &&& (3 : Int32)) = vs4
          refine zcalls X128 hx hby at_246 hZ hown (w2 hw) (w3 hw) (w4 hw) (w5 hw) e128 (c53_esc l hw [] ⟨S_w_arr0, A_w_arr0, Al_w_arr0⟩ O128 (zsz O128) vs4 b1 va vg (0 : Int32) (0 : Int32) (0 : Int32) (0 : Int32) (0 : Int32) (0 : Int32) (0 : Int32) (0 : Int32) (0 : Int32) (0 : Int32) (0 : Int32) (0 : Int32) (0 : Int32) (0 : Int32) (0 : Int32) (0 : Int32) (0 : Int32) (0 : Int32) g1 A128_b1 h27_vg) hml 0 pd_0 (argsL := [(.ref b1), (.int 2), (.int vs4)]) (st := []) fun T129 h129 v129 L129 e129 X129 q129 => ?_
          obtain ⟨rfl, N129q, K129q, A129_b1⟩ := q129
          have O129 := O128.keep K129q (allS g1 all0)
          have N129 := Fr.app N128 N129q
          show zEnds p e below s T129 (mkF m 249 #[iv p1, iv p2, iv p3, iv p4, rv b1, iv 1, iv 1, iv 0, iv 1, iv 3, iv vc, .unset] [(.int 5)]) _ _ _
          refine zistore X129 hx hby at_249 (L' := #[iv p1, iv p2, iv p3, iv p4, rv b1, iv 1, iv 5, iv 0, iv 1, iv 3, iv vc, .unset]) rfl (ziload X129 hx hby at_251 rfl (zistore X129 hx hby at_253 (L' := #[iv p1, iv p2, iv p3, iv p4, rv b1, iv 1, iv 5, iv 0, iv 1, iv 3, iv vc, iv 5]) rfl (zaload X129 hx hby at_255 rfl rfl (ziload X129 hx hby at_257 rfl (ziloadN X129 hx hby at_259 rfl (zi2b X129 hx hby at_260 (p4.toInt8.toInt32) rfl ?_))))))
          show zEnds p e below s T129 (mkF m 261 #[iv p1, iv p2, iv p3, iv p4, rv b1, iv 1, iv 5, iv 0, iv 1, iv 3, iv vc, iv 5] [(.int (p4.toInt8.toInt32)), (.int 5), (.ref b1)]) _ _ _
          generalize e_vy : (p4.toInt8.toInt32) = vy
          have hn_vy : nar .byte vy = vy := by rw [← e_vy]; exact own_nar8 _
          refine zbastore X129 hx hby at_261 hZ e129 A129_b1 (by decide) (by show Int32.toNatClampNeg 5 < 20; decide) vy hn_vy fun T130 h130 X130 e130 W130 A130_b1 => ?_
          change zLst Z h130 b1 .byte [(.int va), (.int vg), (.int 27), (.int ((e1v vs4).toInt8.toInt32)), (.int ((e2v vs4).toInt8.toInt32)), (.int vy), (.int 0), (.int 0), (.int 0), (.int 0), (.int 0), (.int 0), (.int 0), (.int 0), (.int 0), (.int 0), (.int 0), (.int 0), (.int 0), (.int 0)] at A130_b1
          have O130 := O129.wr W130 g1
          have N130 := Fr.snoc X130 N129 g1
          refine zaload X130 hx hby at_262 rfl rfl (ziload X130 hx hby at_264 rfl (ziconst X130 hx hby at_266 (z := (1 : Int32)) rfl (ziadd X130 hx hby at_267 (6 : Int32) (by decide) (ziloadN X130 hx hby at_268 rfl (zbipush X130 hx hby at_269 (z := (8 : Int32)) rfl (ziushr X130 hx hby at_271 ((p4.toUInt32 >>> ((8 : Int32) &&& 31).toUInt32).toInt32) rfl (zi2b X130 hx hby at_272 (((p4.toUInt32 >>> ((8 : Int32) &&& 31).toUInt32).toInt32).toInt8.toInt32) rfl ?_)))))))
          show zEnds p e below s T130 (mkF m 273 #[iv p1, iv p2, iv p3, iv p4, rv b1, iv 1, iv 5, iv 0, iv 1, iv 3, iv vc, iv 5] [(.int (((p4.toUInt32 >>> ((8 : Int32) &&& 31).toUInt32).toInt32).toInt8.toInt32)), (.int 6), (.ref b1)]) _ _ _
          generalize e_vz : (((p4.toUInt32 >>> ((8 : Int32) &&& 31).toUInt32).toInt32).toInt8.toInt32) = vz
          have hn_vz : nar .byte vz = vz := by rw [← e_vz]; exact own_nar8 _
          refine zbastore X130 hx hby at_273 hZ e130 A130_b1 (by decide) (by show Int32.toNatClampNeg 6 < 20; decide) vz hn_vz fun T131 h131 X131 e131 W131 A131_b1 => ?_
          change zLst Z h131 b1 .byte [(.int va), (.int vg), (.int 27), (.int ((e1v vs4).toInt8.toInt32)), (.int ((e2v vs4).toInt8.toInt32)), (.int vy), (.int vz), (.int 0), (.int 0), (.int 0), (.int 0), (.int 0), (.int 0), (.int 0), (.int 0), (.int 0), (.int 0), (.int 0), (.int 0), (.int 0)] at A131_b1
          have O131 := O130.wr W131 g1
          have N131 := Fr.snoc X131 N130 g1
          refine zaload X131 hx hby at_274 rfl rfl (ziload X131 hx hby at_276 rfl (ziload X131 hx hby at_278 rfl (zcalls X131 hx hby at_280 hZ hown (w6 hw) (w7 hw) (w8 hw) (w9 hw) e131 (c55_firstCharacter l hw [] ⟨S_w_arr0, A_w_arr0, Al_w_arr0⟩ O131 (zsz O131) b1 va vg ((e1v vs4).toInt8.toInt32) ((e2v vs4).toInt8.toInt32) vy vz g1 A131_b1 h27_vg) hml 0 pd_0 (argsL := [(.ref b1), (.int 1), (.int 5)]) (st := []) (zpureK ⟨rfl, rfl⟩ fun T132 X132 e132 => ?_))))
          show zEnds p e below s T132 (mkF m 283 #[iv p1, iv p2, iv p3, iv p4, rv b1, iv 1, iv 5, iv 0, iv 1, iv 3, iv vc, iv 5] [(.int 1)]) _ _ _
          refine ziload X132 hx hby at_283 rfl (zicmpNo X132 hx hby at_285 (by decide) (ziconst X132 hx hby at_288 (z := (1 : Int32)) rfl (zgoto X132 hx hby at_289 293 (by decide) (by decide) ?_)))
          show zEnds p e below s T132 (mkF m 293 #[iv p1, iv p2, iv p3, iv p4, rv b1, iv 1, iv 5, iv 0, iv 1, iv 3, iv vc, iv 5] [(.int 1)]) _ _ _
          exact zretZ X132 hx hby at_293 hret hlk (by simp) rfl (by decide) (by decide) ⟨rfl, N131⟩
    · rw [q108]
      refine zistore X3 hx hby at_39 (L' := #[iv p1, iv p2, iv p3, iv p4, rv b1, iv 1, iv 1, iv 1, .unset, .unset, .unset, .unset]) rfl (ziload X3 hx hby at_41 rfl (zifNo X3 hx hby at_43 (by decide) (zaload X3 hx hby at_46 rfl rfl (ziload X3 hx hby at_48 rfl (ziloadN X3 hx hby at_50 rfl (ziconst X3 hx hby at_51 (z := (2 : Int32)) rfl (ziushr X3 hx hby at_52 ((p1.toUInt32 >>> ((2 : Int32) &&& 31).toUInt32).toInt32) rfl (ziconst X3 hx hby at_53 (z := (3 : Int32)) rfl (ziand X3 hx hby at_54 (((p1.toUInt32 >>> ((2 : Int32) &&& 31).toUInt32).toInt32) &&& (3 : Int32)) rfl ?_)))))))))
      show zEnds p e below s T3 (mkF m 55 #[iv p1, iv p2, iv p3, iv p4, rv b1, iv 1, iv 1, iv 1, .unset, .unset, .unset, .unset] [(.int (((p1.toUInt32 >>> ((2 : Int32) &&& 31).toUInt32).toInt32) &&& (3 : Int32))), (.int 1), (.ref b1)]) _ _ _
      generalize e_vs1 : (((p1.toUInt32 >>> ((2 : Int32) &&& 31).toUInt32).toInt32) &&& (3 : Int32)) = vs1
      refine zcalls X3 hx hby at_55 hZ hown (w2 hw) (w3 hw) (w4 hw) (w5 hw) e3 (c57_esc l hw [] ⟨S_w_arr0, A_w_arr0, Al_w_arr0⟩ O3 (zsz O3) vs1 b1 va vb (0 : Int32) (0 : Int32) (0 : Int32) (0 : Int32) (0 : Int32) (0 : Int32) (0 : Int32) (0 : Int32) (0 : Int32) (0 : Int32) (0 : Int32) (0 : Int32) (0 : Int32) (0 : Int32) (0 : Int32) (0 : Int32) (0 : Int32) (0 : Int32) g1 A3_b1) hml 0 pd_0 (argsL := [(.ref b1), (.int 1), (.int vs1)]) (st := []) fun T133 h133 v133 L133 e133 X133 q133 => ?_
      obtain ⟨rfl, N133q, K133q, A133_b1⟩ := q133
      have O133 := O3.keep K133q (allS g1 all0)
      have N133 := Fr.app N3 N133q
      show zEnds p e below s T133 (mkF m 58 #[iv p1, iv p2, iv p3, iv p4, rv b1, iv 1, iv 1, iv 1, .unset, .unset, .unset, .unset] [(.int 4)]) _ _ _
      refine zistore X133 hx hby at_58 (L' := #[iv p1, iv p2, iv p3, iv p4, rv b1, iv 1, iv 4, iv 1, .unset, .unset, .unset, .unset]) rfl (ziload X133 hx hby at_60 rfl (ziconst X133 hx hby at_62 (z := (1 : Int32)) rfl (zicmpYes X133 hx hby at_63 80 (by decide) (by decide) (by decide) (ziload X133 hx hby at_80 rfl (ziconst X133 hx hby at_82 (z := (2 : Int32)) rfl (zicmpYes X133 hx hby at_83 101 (by decide) (by decide) (by decide) (ziload X133 hx hby at_101 rfl (zistore X133 hx hby at_103 (L' := #[iv p1, iv p2, iv p3, iv p4, rv b1, iv 1, iv 4, iv 1, iv 4, .unset, .unset, .unset]) rfl (ziloadN X133 hx hby at_105 rfl ?_)))))))))
      show zEnds p e below s T133 (mkF m 106 #[iv p1, iv p2, iv p3, iv p4, rv b1, iv 1, iv 4, iv 1, iv 4, .unset, .unset, .unset] [(.int p2)]) _ _ _
      refine ziconst X133 hx hby at_106 (z := (3 : Int32)) rfl (ziand X133 hx hby at_107 (p2 &&& (3 : Int32)) rfl ?_)
      show zEnds p e below s T133 (mkF m 108 #[iv p1, iv p2, iv p3, iv p4, rv b1, iv 1, iv 4, iv 1, iv 4, .unset, .unset, .unset] [(.int (p2 &&& (3 : Int32)))]) _ _ _
      rcases (and_3 p2) with q134 | q134 | q134 | q134
      · rw [q134]
        refine zistore X133 hx hby at_108 (L' := #[iv p1, iv p2, iv p3, iv p4, rv b1, iv 1, iv 4, iv 1, iv 4, iv 0, .unset, .unset]) rfl (ziloadN X133 hx hby at_110 rfl (ziconst X133 hx hby at_111 (z := (2 : Int32)) rfl (ziushr X133 hx hby at_112 ((p2.toUInt32 >>> ((2 : Int32) &&& 31).toUInt32).toInt32) rfl (zbipush X133 hx hby at_113 (z := (127 : Int32)) rfl (ziand X133 hx hby at_115 (((p2.toUInt32 >>> ((2 : Int32) &&& 31).toUInt32).toInt32) &&& (127 : Int32)) rfl ?_)))))
        show zEnds p e below s T133 (mkF m 116 #[iv p1, iv p2, iv p3, iv p4, rv b1, iv 1, iv 4, iv 1, iv 4, iv 0, .unset, .unset] [(.int (((p2.toUInt32 >>> ((2 : Int32) &&& 31).toUInt32).toInt32) &&& (127 : Int32)))]) _ _ _
        generalize e_vc : (((p2.toUInt32 >>> ((2 : Int32) &&& 31).toUInt32).toInt32) &&& (127 : Int32)) = vc
        have kc : 0 ≤ vc.toInt ∧ vc.toInt ≤ 127 := by rw [← e_vc]; exact own_c _
        refine zistore X133 hx hby at_116 (L' := #[iv p1, iv p2, iv p3, iv p4, rv b1, iv 1, iv 4, iv 1, iv 4, iv 0, iv vc, .unset]) rfl (ziload X133 hx hby at_118 rfl (ziconst X133 hx hby at_120 (z := (1 : Int32)) rfl (zicmpNo X133 hx hby at_121 (by decide) (ziload X133 hx hby at_124 rfl (ziconst X133 hx hby at_126 (z := (3 : Int32)) rfl (zicmpYes X133 hx hby at_127 140 (by decide) (by decide) (by decide) (ziload X133 hx hby at_140 rfl (ziconst X133 hx hby at_142 (z := (1 : Int32)) rfl (zicmpYes X133 hx hby at_143 163 (by decide) (by decide) (by decide) ?_)))))))))
        show zEnds p e below s T133 (mkF m 163 #[iv p1, iv p2, iv p3, iv p4, rv b1, iv 1, iv 4, iv 1, iv 4, iv 0, iv vc, .unset] []) _ _ _
        refine ziload X133 hx hby at_163 rfl (ziconst X133 hx hby at_165 (z := (2 : Int32)) rfl (zicmpYes X133 hx hby at_166 220 (by decide) (by decide) (by decide) (ziload X133 hx hby at_220 rfl (ziconst X133 hx hby at_222 (z := (3 : Int32)) rfl (zicmpYes X133 hx hby at_223 251 (by decide) (by decide) (by decide) (ziload X133 hx hby at_251 rfl (zistore X133 hx hby at_253 (L' := #[iv p1, iv p2, iv p3, iv p4, rv b1, iv 1, iv 4, iv 1, iv 4, iv 0, iv vc, iv 4]) rfl (zaload X133 hx hby at_255 rfl rfl (ziload X133 hx hby at_257 rfl ?_)))))))))
        show zEnds p e below s T133 (mkF m 259 #[iv p1, iv p2, iv p3, iv p4, rv b1, iv 1, iv 4, iv 1, iv 4, iv 0, iv vc, iv 4] [(.int 4), (.ref b1)]) _ _ _
        refine ziloadN X133 hx hby at_259 rfl (zi2b X133 hx hby at_260 (p4.toInt8.toInt32) rfl ?_)
        show zEnds p e below s T133 (mkF m 261 #[iv p1, iv p2, iv p3, iv p4, rv b1, iv 1, iv 4, iv 1, iv 4, iv 0, iv vc, iv 4] [(.int (p4.toInt8.toInt32)), (.int 4), (.ref b1)]) _ _ _
        generalize e_vy : (p4.toInt8.toInt32) = vy
        have hn_vy : nar .byte vy = vy := by rw [← e_vy]; exact own_nar8 _
        refine zbastore X133 hx hby at_261 hZ e133 A133_b1 (by decide) (by show Int32.toNatClampNeg 4 < 20; decide) vy hn_vy fun T135 h135 X135 e135 W135 A135_b1 => ?_
        change zLst Z h135 b1 .byte [(.int va), (.int 27), (.int ((e1v vs1).toInt8.toInt32)), (.int ((e2v vs1).toInt8.toInt32)), (.int vy), (.int 0), (.int 0), (.int 0), (.int 0), (.int 0), (.int 0), (.int 0), (.int 0), (.int 0), (.int 0), (.int 0), (.int 0), (.int 0), (.int 0), (.int 0)] at A135_b1
        have O135 := O133.wr W135 g1
        have N135 := Fr.snoc X135 N133 g1
        refine zaload X135 hx hby at_262 rfl rfl (ziload X135 hx hby at_264 rfl (ziconst X135 hx hby at_266 (z := (1 : Int32)) rfl (ziadd X135 hx hby at_267 (5 : Int32) (by decide) (ziloadN X135 hx hby at_268 rfl (zbipush X135 hx hby at_269 (z := (8 : Int32)) rfl (ziushr X135 hx hby at_271 ((p4.toUInt32 >>> ((8 : Int32) &&& 31).toUInt32).toInt32) rfl (zi2b X135 hx hby at_272 (((p4.toUInt32 >>> ((8 : Int32) &&& 31).toUInt32).toInt32).toInt8.toInt32) rfl ?_)))))))
        show zEnds p e below s T135 (mkF m 273 #[iv p1, iv p2, iv p3, iv p4, rv b1, iv 1, iv 4, iv 1, iv 4, iv 0, iv vc, iv 4] [(.int (((p4.toUInt32 >>> ((8 : Int32) &&& 31).toUInt32).toInt32).toInt8.toInt32)), (.int 5), (.ref b1)]) _ _ _
        generalize e_vz : (((p4.toUInt32 >>> ((8 : Int32) &&& 31).toUInt32).toInt32).toInt8.toInt32) = vz
        have hn_vz : nar .byte vz = vz := by rw [← e_vz]; exact own_nar8 _
        refine zbastore X135 hx hby at_273 hZ e135 A135_b1 (by decide) (by show Int32.toNatClampNeg 5 < 20; decide) vz hn_vz fun T136 h136 X136 e136 W136 A136_b1 => ?_
        change zLst Z h136 b1 .byte [(.int va), (.int 27), (.int ((e1v vs1).toInt8.toInt32)), (.int ((e2v vs1).toInt8.toInt32)), (.int vy), (.int vz), (.int 0), (.int 0), (.int 0), (.int 0), (.int 0), (.int 0), (.int 0), (.int 0), (.int 0), (.int 0), (.int 0), (.int 0), (.int 0), (.int 0)] at A136_b1
        have O136 := O135.wr W136 g1
        have N136 := Fr.snoc X136 N135 g1
        refine zaload X136 hx hby at_274 rfl rfl (ziload X136 hx hby at_276 rfl (ziload X136 hx hby at_278 rfl (zcalls X136 hx hby at_280 hZ hown (w6 hw) (w7 hw) (w8 hw) (w9 hw) e136 (c59_firstCharacter l hw [] ⟨S_w_arr0, A_w_arr0, Al_w_arr0⟩ O136 (zsz O136) b1 va ((e1v vs1).toInt8.toInt32) ((e2v vs1).toInt8.toInt32) vy vz g1 A136_b1) hml 0 pd_0 (argsL := [(.ref b1), (.int 1), (.int 4)]) (st := []) (zpureK ⟨rfl, rfl⟩ fun T137 X137 e137 => ?_))))
        show zEnds p e below s T137 (mkF m 283 #[iv p1, iv p2, iv p3, iv p4, rv b1, iv 1, iv 4, iv 1, iv 4, iv 0, iv vc, iv 4] [(.int 4)]) _ _ _
        refine ziload X137 hx hby at_283 rfl (zicmpNo X137 hx hby at_285 (by decide) (ziconst X137 hx hby at_288 (z := (1 : Int32)) rfl (zgoto X137 hx hby at_289 293 (by decide) (by decide) ?_)))
        show zEnds p e below s T137 (mkF m 293 #[iv p1, iv p2, iv p3, iv p4, rv b1, iv 1, iv 4, iv 1, iv 4, iv 0, iv vc, iv 4] [(.int 1)]) _ _ _
        exact zretZ X137 hx hby at_293 hret hlk (by simp) rfl (by decide) (by decide) ⟨rfl, N136⟩
      · rw [q134]
        refine zistore X133 hx hby at_108 (L' := #[iv p1, iv p2, iv p3, iv p4, rv b1, iv 1, iv 4, iv 1, iv 4, iv 1, .unset, .unset]) rfl (ziloadN X133 hx hby at_110 rfl (ziconst X133 hx hby at_111 (z := (2 : Int32)) rfl (ziushr X133 hx hby at_112 ((p2.toUInt32 >>> ((2 : Int32) &&& 31).toUInt32).toInt32) rfl (zbipush X133 hx hby at_113 (z := (127 : Int32)) rfl (ziand X133 hx hby at_115 (((p2.toUInt32 >>> ((2 : Int32) &&& 31).toUInt32).toInt32) &&& (127 : Int32)) rfl ?_)))))
        show zEnds p e below s T133 (mkF m 116 #[iv p1, iv p2, iv p3, iv p4, rv b1, iv 1, iv 4, iv 1, iv 4, iv 1, .unset, .unset] [(.int (((p2.toUInt32 >>> ((2 : Int32) &&& 31).toUInt32).toInt32) &&& (127 : Int32)))]) _ _ _
        generalize e_vc : (((p2.toUInt32 >>> ((2 : Int32) &&& 31).toUInt32).toInt32) &&& (127 : Int32)) = vc
        have kc : 0 ≤ vc.toInt ∧ vc.toInt ≤ 127 := by rw [← e_vc]; exact own_c _
        refine zistore X133 hx hby at_116 (L' := #[iv p1, iv p2, iv p3, iv p4, rv b1, iv 1, iv 4, iv 1, iv 4, iv 1, iv vc, .unset]) rfl (ziload X133 hx hby at_118 rfl (ziconst X133 hx hby at_120 (z := (1 : Int32)) rfl (zicmpYes X133 hx hby at_121 130 (by decide) (by decide) (by decide) (ziload X133 hx hby at_130 rfl (zbipush X133 hx hby at_132 (z := (27 : Int32)) rfl ?_)))))
        show zEnds p e below s T133 (mkF m 134 #[iv p1, iv p2, iv p3, iv p4, rv b1, iv 1, iv 4, iv 1, iv 4, iv 1, iv vc, .unset] [(.int 27), (.int vc)]) _ _ _
        by_cases hc27 : vc = (27 : Int32)
        · show zEnds p e below s T133 (mkF m 134 #[iv p1, iv p2, iv p3, iv p4, rv b1, iv 1, iv 4, iv 1, iv 4, iv 1, iv vc, .unset] [(.int 27), (.int vc)]) _ _ _
          refine zicmpNo X133 hx hby at_134 (teq hc27).2 (ziconst X133 hx hby at_137 (z := (0 : Int32)) rfl (zistore X133 hx hby at_138 (L' := #[iv p1, iv p2, iv p3, iv p4, rv b1, iv 1, iv 4, iv 1, iv 4, iv 0, iv vc, .unset]) rfl (ziload X133 hx hby at_140 rfl (ziconst X133 hx hby at_142 (z := (1 : Int32)) rfl (zicmpYes X133 hx hby at_143 163 (by decide) (by decide) (by decide) (ziload X133 hx hby at_163 rfl (ziconst X133 hx hby at_165 (z := (2 : Int32)) rfl (zicmpYes X133 hx hby at_166 220 (by decide) (by decide) (by decide) (ziload X133 hx hby at_220 rfl ?_)))))))))
          show zEnds p e below s T133 (mkF m 222 #[iv p1, iv p2, iv p3, iv p4, rv b1, iv 1, iv 4, iv 1, iv 4, iv 0, iv vc, .unset] [(.int 0)]) _ _ _
          refine ziconst X133 hx hby at_222 (z := (3 : Int32)) rfl (zicmpYes X133 hx hby at_223 251 (by decide) (by decide) (by decide) (ziload X133 hx hby at_251 rfl (zistore X133 hx hby at_253 (L' := #[iv p1, iv p2, iv p3, iv p4, rv b1, iv 1, iv 4, iv 1, iv 4, iv 0, iv vc, iv 4]) rfl (zaload X133 hx hby at_255 rfl rfl (ziload X133 hx hby at_257 rfl (ziloadN X133 hx hby at_259 rfl (zi2b X133 hx hby at_260 (p4.toInt8.toInt32) rfl ?_)))))))
          show zEnds p e below s T133 (mkF m 261 #[iv p1, iv p2, iv p3, iv p4, rv b1, iv 1, iv 4, iv 1, iv 4, iv 0, iv vc, iv 4] [(.int (p4.toInt8.toInt32)), (.int 4), (.ref b1)]) _ _ _
          generalize e_vy : (p4.toInt8.toInt32) = vy
          have hn_vy : nar .byte vy = vy := by rw [← e_vy]; exact own_nar8 _
          refine zbastore X133 hx hby at_261 hZ e133 A133_b1 (by decide) (by show Int32.toNatClampNeg 4 < 20; decide) vy hn_vy fun T138 h138 X138 e138 W138 A138_b1 => ?_
          change zLst Z h138 b1 .byte [(.int va), (.int 27), (.int ((e1v vs1).toInt8.toInt32)), (.int ((e2v vs1).toInt8.toInt32)), (.int vy), (.int 0), (.int 0), (.int 0), (.int 0), (.int 0), (.int 0), (.int 0), (.int 0), (.int 0), (.int 0), (.int 0), (.int 0), (.int 0), (.int 0), (.int 0)] at A138_b1
          have O138 := O133.wr W138 g1
          have N138 := Fr.snoc X138 N133 g1
          refine zaload X138 hx hby at_262 rfl rfl (ziload X138 hx hby at_264 rfl (ziconst X138 hx hby at_266 (z := (1 : Int32)) rfl (ziadd X138 hx hby at_267 (5 : Int32) (by decide) (ziloadN X138 hx hby at_268 rfl (zbipush X138 hx hby at_269 (z := (8 : Int32)) rfl (ziushr X138 hx hby at_271 ((p4.toUInt32 >>> ((8 : Int32) &&& 31).toUInt32).toInt32) rfl (zi2b X138 hx hby at_272 (((p4.toUInt32 >>> ((8 : Int32) &&& 31).toUInt32).toInt32).toInt8.toInt32) rfl ?_)))))))
          show zEnds p e below s T138 (mkF m 273 #[iv p1, iv p2, iv p3, iv p4, rv b1, iv 1, iv 4, iv 1, iv 4, iv 0, iv vc, iv 4] [(.int (((p4.toUInt32 >>> ((8 : Int32) &&& 31).toUInt32).toInt32).toInt8.toInt32)), (.int 5), (.ref b1)]) _ _ _
          generalize e_vz : (((p4.toUInt32 >>> ((8 : Int32) &&& 31).toUInt32).toInt32).toInt8.toInt32) = vz
          have hn_vz : nar .byte vz = vz := by rw [← e_vz]; exact own_nar8 _
          refine zbastore X138 hx hby at_273 hZ e138 A138_b1 (by decide) (by show Int32.toNatClampNeg 5 < 20; decide) vz hn_vz fun T139 h139 X139 e139 W139 A139_b1 => ?_
          change zLst Z h139 b1 .byte [(.int va), (.int 27), (.int ((e1v vs1).toInt8.toInt32)), (.int ((e2v vs1).toInt8.toInt32)), (.int vy), (.int vz), (.int 0), (.int 0), (.int 0), (.int 0), (.int 0), (.int 0), (.int 0), (.int 0), (.int 0), (.int 0), (.int 0), (.int 0), (.int 0), (.int 0)] at A139_b1
          have O139 := O138.wr W139 g1
          have N139 := Fr.snoc X139 N138 g1
          refine zaload X139 hx hby at_274 rfl rfl (ziload X139 hx hby at_276 rfl (ziload X139 hx hby at_278 rfl (zcalls X139 hx hby at_280 hZ hown (w6 hw) (w7 hw) (w8 hw) (w9 hw) e139 (c59_firstCharacter l hw [] ⟨S_w_arr0, A_w_arr0, Al_w_arr0⟩ O139 (zsz O139) b1 va ((e1v vs1).toInt8.toInt32) ((e2v vs1).toInt8.toInt32) vy vz g1 A139_b1) hml 0 pd_0 (argsL := [(.ref b1), (.int 1), (.int 4)]) (st := []) (zpureK ⟨rfl, rfl⟩ fun T140 X140 e140 => ?_))))
          show zEnds p e below s T140 (mkF m 283 #[iv p1, iv p2, iv p3, iv p4, rv b1, iv 1, iv 4, iv 1, iv 4, iv 0, iv vc, iv 4] [(.int 4)]) _ _ _
          refine ziload X140 hx hby at_283 rfl (zicmpNo X140 hx hby at_285 (by decide) (ziconst X140 hx hby at_288 (z := (1 : Int32)) rfl (zgoto X140 hx hby at_289 293 (by decide) (by decide) ?_)))
          show zEnds p e below s T140 (mkF m 293 #[iv p1, iv p2, iv p3, iv p4, rv b1, iv 1, iv 4, iv 1, iv 4, iv 0, iv vc, iv 4] [(.int 1)]) _ _ _
          exact zretZ X140 hx hby at_293 hret hlk (by simp) rfl (by decide) (by decide) ⟨rfl, N139⟩
        · show zEnds p e below s T133 (mkF m 134 #[iv p1, iv p2, iv p3, iv p4, rv b1, iv 1, iv 4, iv 1, iv 4, iv 1, iv vc, .unset] [(.int 27), (.int vc)]) _ _ _
          refine zicmpYes X133 hx hby at_134 140 (feq hc27).2 (by decide) (by decide) (ziload X133 hx hby at_140 rfl (ziconst X133 hx hby at_142 (z := (1 : Int32)) rfl (zicmpNo X133 hx hby at_143 (by decide) (zaload X133 hx hby at_146 rfl rfl (ziload X133 hx hby at_148 rfl (ziload X133 hx hby at_150 rfl (zi2b X133 hx hby at_152 (vc.toInt8.toInt32) rfl ?_)))))))
          show zEnds p e below s T133 (mkF m 153 #[iv p1, iv p2, iv p3, iv p4, rv b1, iv 1, iv 4, iv 1, iv 4, iv 1, iv vc, .unset] [(.int (vc.toInt8.toInt32)), (.int 4), (.ref b1)]) _ _ _
          generalize e_vd : (vc.toInt8.toInt32) = vd
          have hn_vd : nar .byte vd = vd := by rw [← e_vd]; exact own_nar8 _
          have h27_vd : ¬ (vd = (27 : Int32)) := by rw [← e_vd]; exact own_27 kc hc27
          refine zbastore X133 hx hby at_153 hZ e133 A133_b1 (by decide) (by show Int32.toNatClampNeg 4 < 20; decide) vd hn_vd fun T141 h141 X141 e141 W141 A141_b1 => ?_
          change zLst Z h141 b1 .byte [(.int va), (.int 27), (.int ((e1v vs1).toInt8.toInt32)), (.int ((e2v vs1).toInt8.toInt32)), (.int vd), (.int 0), (.int 0), (.int 0), (.int 0), (.int 0), (.int 0), (.int 0), (.int 0), (.int 0), (.int 0), (.int 0), (.int 0), (.int 0), (.int 0), (.int 0)] at A141_b1
          have O141 := O133.wr W141 g1
          have N141 := Fr.snoc X141 N133 g1
          refine ziload X141 hx hby at_154 rfl (ziconst X141 hx hby at_156 (z := (1 : Int32)) rfl (ziadd X141 hx hby at_157 (5 : Int32) (by decide) (zistore X141 hx hby at_158 (L' := #[iv p1, iv p2, iv p3, iv p4, rv b1, iv 1, iv 5, iv 1, iv 4, iv 1, iv vc, .unset]) rfl (zgoto X141 hx hby at_160 251 (by decide) (by decide) (ziload X141 hx hby at_251 rfl (zistore X141 hx hby at_253 (L' := #[iv p1, iv p2, iv p3, iv p4, rv b1, iv 1, iv 5, iv 1, iv 4, iv 1, iv vc, iv 5]) rfl (zaload X141 hx hby at_255 rfl rfl (ziload X141 hx hby at_257 rfl (ziloadN X141 hx hby at_259 rfl ?_)))))))))
          show zEnds p e below s T141 (mkF m 260 #[iv p1, iv p2, iv p3, iv p4, rv b1, iv 1, iv 5, iv 1, iv 4, iv 1, iv vc, iv 5] [(.int p4), (.int 5), (.ref b1)]) _ _ _
          refine zi2b X141 hx hby at_260 (p4.toInt8.toInt32) rfl ?_
          show zEnds p e below s T141 (mkF m 261 #[iv p1, iv p2, iv p3, iv p4, rv b1, iv 1, iv 5, iv 1, iv 4, iv 1, iv vc, iv 5] [(.int (p4.toInt8.toInt32)), (.int 5), (.ref b1)]) _ _ _
          generalize e_vy : (p4.toInt8.toInt32) = vy
          have hn_vy : nar .byte vy = vy := by rw [← e_vy]; exact own_nar8 _
          refine zbastore X141 hx hby at_261 hZ e141 A141_b1 (by decide) (by show Int32.toNatClampNeg 5 < 20; decide) vy hn_vy fun T142 h142 X142 e142 W142 A142_b1 => ?_
          change zLst Z h142 b1 .byte [(.int va), (.int 27), (.int ((e1v vs1).toInt8.toInt32)), (.int ((e2v vs1).toInt8.toInt32)), (.int vd), (.int vy), (.int 0), (.int 0), (.int 0), (.int 0), (.int 0), (.int 0), (.int 0), (.int 0), (.int 0), (.int 0), (.int 0), (.int 0), (.int 0), (.int 0)] at A142_b1
          have O142 := O141.wr W142 g1
          have N142 := Fr.snoc X142 N141 g1
          refine zaload X142 hx hby at_262 rfl rfl (ziload X142 hx hby at_264 rfl (ziconst X142 hx hby at_266 (z := (1 : Int32)) rfl (ziadd X142 hx hby at_267 (6 : Int32) (by decide) (ziloadN X142 hx hby at_268 rfl (zbipush X142 hx hby at_269 (z := (8 : Int32)) rfl (ziushr X142 hx hby at_271 ((p4.toUInt32 >>> ((8 : Int32) &&& 31).toUInt32).toInt32) rfl (zi2b X142 hx hby at_272 (((p4.toUInt32 >>> ((8 : Int32) &&& 31).toUInt32).toInt32).toInt8.toInt32) rfl ?_)))))))
          show zEnds p e below s T142 (mkF m 273 #[iv p1, iv p2, iv p3, iv p4, rv b1, iv 1, iv 5, iv 1, iv 4, iv 1, iv vc, iv 5] [(.int (((p4.toUInt32 >>> ((8 : Int32) &&& 31).toUInt32).toInt32).toInt8.toInt32)), (.int 6), (.ref b1)]) _ _ _
          generalize e_vz : (((p4.toUInt32 >>> ((8 : Int32) &&& 31).toUInt32).toInt32).toInt8.toInt32) = vz
          have hn_vz : nar .byte vz = vz := by rw [← e_vz]; exact own_nar8 _
          refine zbastore X142 hx hby at_273 hZ e142 A142_b1 (by decide) (by show Int32.toNatClampNeg 6 < 20; decide) vz hn_vz fun T143 h143 X143 e143 W143 A143_b1 => ?_
          change zLst Z h143 b1 .byte [(.int va), (.int 27), (.int ((e1v vs1).toInt8.toInt32)), (.int ((e2v vs1).toInt8.toInt32)), (.int vd), (.int vy), (.int vz), (.int 0), (.int 0), (.int 0), (.int 0), (.int 0), (.int 0), (.int 0), (.int 0), (.int 0), (.int 0), (.int 0), (.int 0), (.int 0)] at A143_b1
          have O143 := O142.wr W143 g1
          have N143 := Fr.snoc X143 N142 g1
          refine zaload X143 hx hby at_274 rfl rfl (ziload X143 hx hby at_276 rfl (ziload X143 hx hby at_278 rfl (zcalls X143 hx hby at_280 hZ hown (w6 hw) (w7 hw) (w8 hw) (w9 hw) e143 (c61_firstCharacter l hw [] ⟨S_w_arr0, A_w_arr0, Al_w_arr0⟩ O143 (zsz O143) b1 va ((e1v vs1).toInt8.toInt32) ((e2v vs1).toInt8.toInt32) vd vy vz g1 A143_b1 h27_vd) hml 0 pd_0 (argsL := [(.ref b1), (.int 1), (.int 5)]) (st := []) (zpureK ⟨rfl, rfl⟩ fun T144 X144 e144 => ?_))))
          show zEnds p e below s T144 (mkF m 283 #[iv p1, iv p2, iv p3, iv p4, rv b1, iv 1, iv 5, iv 1, iv 4, iv 1, iv vc, iv 5] [(.int 4)]) _ _ _
          refine ziload X144 hx hby at_283 rfl (zicmpNo X144 hx hby at_285 (by decide) (ziconst X144 hx hby at_288 (z := (1 : Int32)) rfl (zgoto X144 hx hby at_289 293 (by decide) (by decide) ?_)))
          show zEnds p e below s T144 (mkF m 293 #[iv p1, iv p2, iv p3, iv p4, rv b1, iv 1, iv 5, iv 1, iv 4, iv 1, iv vc, iv 5] [(.int 1)]) _ _ _
          exact zretZ X144 hx hby at_293 hret hlk (by simp) rfl (by decide) (by decide) ⟨rfl, N143⟩
      · rw [q134]
        refine zistore X133 hx hby at_108 (L' := #[iv p1, iv p2, iv p3, iv p4, rv b1, iv 1, iv 4, iv 1, iv 4, iv 2, .unset, .unset]) rfl (ziloadN X133 hx hby at_110 rfl (ziconst X133 hx hby at_111 (z := (2 : Int32)) rfl (ziushr X133 hx hby at_112 ((p2.toUInt32 >>> ((2 : Int32) &&& 31).toUInt32).toInt32) rfl (zbipush X133 hx hby at_113 (z := (127 : Int32)) rfl (ziand X133 hx hby at_115 (((p2.toUInt32 >>> ((2 : Int32) &&& 31).toUInt32).toInt32) &&& (127 : Int32)) rfl ?_)))))
        show zEnds p e below s T133 (mkF m 116 #[iv p1, iv p2, iv p3, iv p4, rv b1, iv 1, iv 4, iv 1, iv 4, iv 2, .unset, .unset] [(.int (((p2.toUInt32 >>> ((2 : Int32) &&& 31).toUInt32).toInt32) &&& (127 : Int32)))]) _ _ _
        generalize e_vc : (((p2.toUInt32 >>> ((2 : Int32) &&& 31).toUInt32).toInt32) &&& (127 : Int32)) = vc
        have kc : 0 ≤ vc.toInt ∧ vc.toInt ≤ 127 := by rw [← e_vc]; exact own_c _
        refine zistore X133 hx hby at_116 (L' := #[iv p1, iv p2, iv p3, iv p4, rv b1, iv 1, iv 4, iv 1, iv 4, iv 2, iv vc, .unset]) rfl (ziload X133 hx hby at_118 rfl (ziconst X133 hx hby at_120 (z := (1 : Int32)) rfl (zicmpNo X133 hx hby at_121 (by decide) (ziload X133 hx hby at_124 rfl (ziconst X133 hx hby at_126 (z := (3 : Int32)) rfl (zicmpYes X133 hx hby at_127 140 (by decide) (by decide) (by decide) (ziload X133 hx hby at_140 rfl (ziconst X133 hx hby at_142 (z := (1 : Int32)) rfl (zicmpYes X133 hx hby at_143 163 (by decide) (by decide) (by decide) ?_)))))))))
        show zEnds p e below s T133 (mkF m 163 #[iv p1, iv p2, iv p3, iv p4, rv b1, iv 1, iv 4, iv 1, iv 4, iv 2, iv vc, .unset] []) _ _ _
        refine ziload X133 hx hby at_163 rfl (ziconst X133 hx hby at_165 (z := (2 : Int32)) rfl (zicmpNo X133 hx hby at_166 (by decide) (zaload X133 hx hby at_169 rfl rfl (ziload X133 hx hby at_171 rfl (zbipush X133 hx hby at_173 (z := (48 : Int32)) rfl (ziloadN X133 hx hby at_175 rfl (zbipush X133 hx hby at_176 (z := (9 : Int32)) rfl (ziushr X133 hx hby at_178 ((p2.toUInt32 >>> ((9 : Int32) &&& 31).toUInt32).toInt32) rfl (zsipush X133 hx hby at_179 (z := (255 : Int32)) rfl ?_)))))))))
        show zEnds p e below s T133 (mkF m 182 #[iv p1, iv p2, iv p3, iv p4, rv b1, iv 1, iv 4, iv 1, iv 4, iv 2, iv vc, .unset] [(.int 255), (.int ((p2.toUInt32 >>> ((9 : Int32) &&& 31).toUInt32).toInt32)), (.int 48), (.int 4), (.ref b1)]) _ _ _
        refine ziand X133 hx hby at_182 (((p2.toUInt32 >>> ((9 : Int32) &&& 31).toUInt32).toInt32) &&& (255 : Int32)) rfl (zbipush X133 hx hby at_183 (z := (31 : Int32)) rfl (zirem X133 hx hby at_185 ((((p2.toUInt32 >>> ((9 : Int32) &&& 31).toUInt32).toInt32) &&& (255 : Int32)) % (31 : Int32)) (by decide) rfl (ziadd X133 hx hby at_186 ((48 : Int32) + ((((p2.toUInt32 >>> ((9 : Int32) &&& 31).toUInt32).toInt32) &&& (255 : Int32)) % (31 : Int32))) rfl (zi2b X133 hx hby at_187 (((48 : Int32) + ((((p2.toUInt32 >>> ((9 : Int32) &&& 31).toUInt32).toInt32) &&& (255 : Int32)) % (31 : Int32))).toInt8.toInt32) rfl ?_))))
        show zEnds p e below s T133 (mkF m 188 #[iv p1, iv p2, iv p3, iv p4, rv b1, iv 1, iv 4, iv 1, iv 4, iv 2, iv vc, .unset] [(.int (((48 : Int32) + ((((p2.toUInt32 >>> ((9 : Int32) &&& 31).toUInt32).toInt32) &&& (255 : Int32)) % (31 : Int32))).toInt8.toInt32)), (.int 4), (.ref b1)]) _ _ _
        generalize e_ve : (((48 : Int32) + ((((p2.toUInt32 >>> ((9 : Int32) &&& 31).toUInt32).toInt32) &&& (255 : Int32)) % (31 : Int32))).toInt8.toInt32) = ve
        have hn_ve : nar .byte ve = ve := by rw [← e_ve]; exact own_nar8 _
        have h27_ve : ¬ (ve = (27 : Int32)) := by rw [← e_ve]; exact own_48 _
        refine zbastore X133 hx hby at_188 hZ e133 A133_b1 (by decide) (by show Int32.toNatClampNeg 4 < 20; decide) ve hn_ve fun T145 h145 X145 e145 W145 A145_b1 => ?_
        change zLst Z h145 b1 .byte [(.int va), (.int 27), (.int ((e1v vs1).toInt8.toInt32)), (.int ((e2v vs1).toInt8.toInt32)), (.int ve), (.int 0), (.int 0), (.int 0), (.int 0), (.int 0), (.int 0), (.int 0), (.int 0), (.int 0), (.int 0), (.int 0), (.int 0), (.int 0), (.int 0), (.int 0)] at A145_b1
        have O145 := O133.wr W145 g1
        have N145 := Fr.snoc X145 N133 g1
        refine zaload X145 hx hby at_189 rfl rfl (ziload X145 hx hby at_191 rfl (ziconst X145 hx hby at_193 (z := (1 : Int32)) rfl (ziadd X145 hx hby at_194 (5 : Int32) (by decide) (zbipush X145 hx hby at_195 (z := (33 : Int32)) rfl (ziloadN X145 hx hby at_197 rfl (zbipush X145 hx hby at_198 (z := (17 : Int32)) rfl (ziushr X145 hx hby at_200 ((p2.toUInt32 >>> ((17 : Int32) &&& 31).toUInt32).toInt32) rfl (zsipush X145 hx hby at_201 (z := (255 : Int32)) rfl (ziand X145 hx hby at_204 (((p2.toUInt32 >>> ((17 : Int32) &&& 31).toUInt32).toInt32) &&& (255 : Int32)) rfl ?_)))))))))
        show zEnds p e below s T145 (mkF m 205 #[iv p1, iv p2, iv p3, iv p4, rv b1, iv 1, iv 4, iv 1, iv 4, iv 2, iv vc, .unset] [(.int (((p2.toUInt32 >>> ((17 : Int32) &&& 31).toUInt32).toInt32) &&& (255 : Int32))), (.int 33), (.int 5), (.ref b1)]) _ _ _
        refine zbipush X145 hx hby at_205 (z := (94 : Int32)) rfl (zirem X145 hx hby at_207 ((((p2.toUInt32 >>> ((17 : Int32) &&& 31).toUInt32).toInt32) &&& (255 : Int32)) % (94 : Int32)) (by decide) rfl (ziadd X145 hx hby at_208 ((33 : Int32) + ((((p2.toUInt32 >>> ((17 : Int32) &&& 31).toUInt32).toInt32) &&& (255 : Int32)) % (94 : Int32))) rfl (zi2b X145 hx hby at_209 (((33 : Int32) + ((((p2.toUInt32 >>> ((17 : Int32) &&& 31).toUInt32).toInt32) &&& (255 : Int32)) % (94 : Int32))).toInt8.toInt32) rfl ?_)))
        show zEnds p e below s T145 (mkF m 210 #[iv p1, iv p2, iv p3, iv p4, rv b1, iv 1, iv 4, iv 1, iv 4, iv 2, iv vc, .unset] [(.int (((33 : Int32) + ((((p2.toUInt32 >>> ((17 : Int32) &&& 31).toUInt32).toInt32) &&& (255 : Int32)) % (94 : Int32))).toInt8.toInt32)), (.int 5), (.ref b1)]) _ _ _
        generalize e_vf : (((33 : Int32) + ((((p2.toUInt32 >>> ((17 : Int32) &&& 31).toUInt32).toInt32) &&& (255 : Int32)) % (94 : Int32))).toInt8.toInt32) = vf
        have hn_vf : nar .byte vf = vf := by rw [← e_vf]; exact own_nar8 _
        refine zbastore X145 hx hby at_210 hZ e145 A145_b1 (by decide) (by show Int32.toNatClampNeg 5 < 20; decide) vf hn_vf fun T146 h146 X146 e146 W146 A146_b1 => ?_
        change zLst Z h146 b1 .byte [(.int va), (.int 27), (.int ((e1v vs1).toInt8.toInt32)), (.int ((e2v vs1).toInt8.toInt32)), (.int ve), (.int vf), (.int 0), (.int 0), (.int 0), (.int 0), (.int 0), (.int 0), (.int 0), (.int 0), (.int 0), (.int 0), (.int 0), (.int 0), (.int 0), (.int 0)] at A146_b1
        have O146 := O145.wr W146 g1
        have N146 := Fr.snoc X146 N145 g1
        refine ziload X146 hx hby at_211 rfl (ziconst X146 hx hby at_213 (z := (2 : Int32)) rfl (ziadd X146 hx hby at_214 (6 : Int32) (by decide) (zistore X146 hx hby at_215 (L' := #[iv p1, iv p2, iv p3, iv p4, rv b1, iv 1, iv 6, iv 1, iv 4, iv 2, iv vc, .unset]) rfl (zgoto X146 hx hby at_217 251 (by decide) (by decide) (ziload X146 hx hby at_251 rfl (zistore X146 hx hby at_253 (L' := #[iv p1, iv p2, iv p3, iv p4, rv b1, iv 1, iv 6, iv 1, iv 4, iv 2, iv vc, iv 6]) rfl (zaload X146 hx hby at_255 rfl rfl (ziload X146 hx hby at_257 rfl (ziloadN X146 hx hby at_259 rfl ?_)))))))))
        show zEnds p e below s T146 (mkF m 260 #[iv p1, iv p2, iv p3, iv p4, rv b1, iv 1, iv 6, iv 1, iv 4, iv 2, iv vc, iv 6] [(.int p4), (.int 6), (.ref b1)]) _ _ _
        refine zi2b X146 hx hby at_260 (p4.toInt8.toInt32) rfl ?_
        show zEnds p e below s T146 (mkF m 261 #[iv p1, iv p2, iv p3, iv p4, rv b1, iv 1, iv 6, iv 1, iv 4, iv 2, iv vc, iv 6] [(.int (p4.toInt8.toInt32)), (.int 6), (.ref b1)]) _ _ _
        generalize e_vy : (p4.toInt8.toInt32) = vy
        have hn_vy : nar .byte vy = vy := by rw [← e_vy]; exact own_nar8 _
        refine zbastore X146 hx hby at_261 hZ e146 A146_b1 (by decide) (by show Int32.toNatClampNeg 6 < 20; decide) vy hn_vy fun T147 h147 X147 e147 W147 A147_b1 => ?_
        change zLst Z h147 b1 .byte [(.int va), (.int 27), (.int ((e1v vs1).toInt8.toInt32)), (.int ((e2v vs1).toInt8.toInt32)), (.int ve), (.int vf), (.int vy), (.int 0), (.int 0), (.int 0), (.int 0), (.int 0), (.int 0), (.int 0), (.int 0), (.int 0), (.int 0), (.int 0), (.int 0), (.int 0)] at A147_b1
        have O147 := O146.wr W147 g1
        have N147 := Fr.snoc X147 N146 g1
        refine zaload X147 hx hby at_262 rfl rfl (ziload X147 hx hby at_264 rfl (ziconst X147 hx hby at_266 (z := (1 : Int32)) rfl (ziadd X147 hx hby at_267 (7 : Int32) (by decide) (ziloadN X147 hx hby at_268 rfl (zbipush X147 hx hby at_269 (z := (8 : Int32)) rfl (ziushr X147 hx hby at_271 ((p4.toUInt32 >>> ((8 : Int32) &&& 31).toUInt32).toInt32) rfl (zi2b X147 hx hby at_272 (((p4.toUInt32 >>> ((8 : Int32) &&& 31).toUInt32).toInt32).toInt8.toInt32) rfl ?_)))))))
        show zEnds p e below s T147 (mkF m 273 #[iv p1, iv p2, iv p3, iv p4, rv b1, iv 1, iv 6, iv 1, iv 4, iv 2, iv vc, iv 6] [(.int (((p4.toUInt32 >>> ((8 : Int32) &&& 31).toUInt32).toInt32).toInt8.toInt32)), (.int 7), (.ref b1)]) _ _ _
        generalize e_vz : (((p4.toUInt32 >>> ((8 : Int32) &&& 31).toUInt32).toInt32).toInt8.toInt32) = vz
        have hn_vz : nar .byte vz = vz := by rw [← e_vz]; exact own_nar8 _
        refine zbastore X147 hx hby at_273 hZ e147 A147_b1 (by decide) (by show Int32.toNatClampNeg 7 < 20; decide) vz hn_vz fun T148 h148 X148 e148 W148 A148_b1 => ?_
        change zLst Z h148 b1 .byte [(.int va), (.int 27), (.int ((e1v vs1).toInt8.toInt32)), (.int ((e2v vs1).toInt8.toInt32)), (.int ve), (.int vf), (.int vy), (.int vz), (.int 0), (.int 0), (.int 0), (.int 0), (.int 0), (.int 0), (.int 0), (.int 0), (.int 0), (.int 0), (.int 0), (.int 0)] at A148_b1
        have O148 := O147.wr W148 g1
        have N148 := Fr.snoc X148 N147 g1
        refine zaload X148 hx hby at_274 rfl rfl (ziload X148 hx hby at_276 rfl (ziload X148 hx hby at_278 rfl (zcalls X148 hx hby at_280 hZ hown (w6 hw) (w7 hw) (w8 hw) (w9 hw) e148 (c63_firstCharacter l hw [] ⟨S_w_arr0, A_w_arr0, Al_w_arr0⟩ O148 (zsz O148) b1 va ((e1v vs1).toInt8.toInt32) ((e2v vs1).toInt8.toInt32) ve vf vy vz g1 A148_b1 h27_ve) hml 0 pd_0 (argsL := [(.ref b1), (.int 1), (.int 6)]) (st := []) (zpureK ⟨rfl, rfl⟩ fun T149 X149 e149 => ?_))))
        show zEnds p e below s T149 (mkF m 283 #[iv p1, iv p2, iv p3, iv p4, rv b1, iv 1, iv 6, iv 1, iv 4, iv 2, iv vc, iv 6] [(.int 4)]) _ _ _
        refine ziload X149 hx hby at_283 rfl (zicmpNo X149 hx hby at_285 (by decide) (ziconst X149 hx hby at_288 (z := (1 : Int32)) rfl (zgoto X149 hx hby at_289 293 (by decide) (by decide) ?_)))
        show zEnds p e below s T149 (mkF m 293 #[iv p1, iv p2, iv p3, iv p4, rv b1, iv 1, iv 6, iv 1, iv 4, iv 2, iv vc, iv 6] [(.int 1)]) _ _ _
        exact zretZ X149 hx hby at_293 hret hlk (by simp) rfl (by decide) (by decide) ⟨rfl, N148⟩
      · rw [q134]
        refine zistore X133 hx hby at_108 (L' := #[iv p1, iv p2, iv p3, iv p4, rv b1, iv 1, iv 4, iv 1, iv 4, iv 3, .unset, .unset]) rfl (ziloadN X133 hx hby at_110 rfl (ziconst X133 hx hby at_111 (z := (2 : Int32)) rfl (ziushr X133 hx hby at_112 ((p2.toUInt32 >>> ((2 : Int32) &&& 31).toUInt32).toInt32) rfl (zbipush X133 hx hby at_113 (z := (127 : Int32)) rfl (ziand X133 hx hby at_115 (((p2.toUInt32 >>> ((2 : Int32) &&& 31).toUInt32).toInt32) &&& (127 : Int32)) rfl ?_)))))
        show zEnds p e below s T133 (mkF m 116 #[iv p1, iv p2, iv p3, iv p4, rv b1, iv 1, iv 4, iv 1, iv 4, iv 3, .unset, .unset] [(.int (((p2.toUInt32 >>> ((2 : Int32) &&& 31).toUInt32).toInt32) &&& (127 : Int32)))]) _ _ _
        generalize e_vc : (((p2.toUInt32 >>> ((2 : Int32) &&& 31).toUInt32).toInt32) &&& (127 : Int32)) = vc
        have kc : 0 ≤ vc.toInt ∧ vc.toInt ≤ 127 := by rw [← e_vc]; exact own_c _
        refine zistore X133 hx hby at_116 (L' := #[iv p1, iv p2, iv p3, iv p4, rv b1, iv 1, iv 4, iv 1, iv 4, iv 3, iv vc, .unset]) rfl (ziload X133 hx hby at_118 rfl (ziconst X133 hx hby at_120 (z := (1 : Int32)) rfl (zicmpNo X133 hx hby at_121 (by decide) (ziload X133 hx hby at_124 rfl (ziconst X133 hx hby at_126 (z := (3 : Int32)) rfl (zicmpNo X133 hx hby at_127 (by decide) (ziload X133 hx hby at_130 rfl (zbipush X133 hx hby at_132 (z := (27 : Int32)) rfl ?_))))))))
        show zEnds p e below s T133 (mkF m 134 #[iv p1, iv p2, iv p3, iv p4, rv b1, iv 1, iv 4, iv 1, iv 4, iv 3, iv vc, .unset] [(.int 27), (.int vc)]) _ _ _
        by_cases hc27 : vc = (27 : Int32)
        · show zEnds p e below s T133 (mkF m 134 #[iv p1, iv p2, iv p3, iv p4, rv b1, iv 1, iv 4, iv 1, iv 4, iv 3, iv vc, .unset] [(.int 27), (.int vc)]) _ _ _
          refine zicmpNo X133 hx hby at_134 (teq hc27).2 (ziconst X133 hx hby at_137 (z := (0 : Int32)) rfl (zistore X133 hx hby at_138 (L' := #[iv p1, iv p2, iv p3, iv p4, rv b1, iv 1, iv 4, iv 1, iv 4, iv 0, iv vc, .unset]) rfl (ziload X133 hx hby at_140 rfl (ziconst X133 hx hby at_142 (z := (1 : Int32)) rfl (zicmpYes X133 hx hby at_143 163 (by decide) (by decide) (by decide) (ziload X133 hx hby at_163 rfl (ziconst X133 hx hby at_165 (z := (2 : Int32)) rfl (zicmpYes X133 hx hby at_166 220 (by decide) (by decide) (by decide) (ziload X133 hx hby at_220 rfl ?_)))))))))
          show zEnds p e below s T133 (mkF m 222 #[iv p1, iv p2, iv p3, iv p4, rv b1, iv 1, iv 4, iv 1, iv 4, iv 0, iv vc, .unset] [(.int 0)]) _ _ _
          refine ziconst X133 hx hby at_222 (z := (3 : Int32)) rfl (zicmpYes X133 hx hby at_223 251 (by decide) (by decide) (by decide) (ziload X133 hx hby at_251 rfl (zistore X133 hx hby at_253 (L' := #[iv p1, iv p2, iv p3, iv p4, rv b1, iv 1, iv 4, iv 1, iv 4, iv 0, iv vc, iv 4]) rfl (zaload X133 hx hby at_255 rfl rfl (ziload X133 hx hby at_257 rfl (ziloadN X133 hx hby at_259 rfl (zi2b X133 hx hby at_260 (p4.toInt8.toInt32) rfl ?_)))))))
          show zEnds p e below s T133 (mkF m 261 #[iv p1, iv p2, iv p3, iv p4, rv b1, iv 1, iv 4, iv 1, iv 4, iv 0, iv vc, iv 4] [(.int (p4.toInt8.toInt32)), (.int 4), (.ref b1)]) _ _ _
          generalize e_vy : (p4.toInt8.toInt32) = vy
          have hn_vy : nar .byte vy = vy := by rw [← e_vy]; exact own_nar8 _
          refine zbastore X133 hx hby at_261 hZ e133 A133_b1 (by decide) (by show Int32.toNatClampNeg 4 < 20; decide) vy hn_vy fun T150 h150 X150 e150 W150 A150_b1 => ?_
          change zLst Z h150 b1 .byte [(.int va), (.int 27), (.int ((e1v vs1).toInt8.toInt32)), (.int ((e2v vs1).toInt8.toInt32)), (.int vy), (.int 0), (.int 0), (.int 0), (.int 0), (.int 0), (.int 0), (.int 0), (.int 0), (.int 0), (.int 0), (.int 0), (.int 0), (.int 0), (.int 0), (.int 0)] at A150_b1
          have O150 := O133.wr W150 g1
          have N150 := Fr.snoc X150 N133 g1
          refine zaload X150 hx hby at_262 rfl rfl (ziload X150 hx hby at_264 rfl (ziconst X150 hx hby at_266 (z := (1 : Int32)) rfl (ziadd X150 hx hby at_267 (5 : Int32) (by decide) (ziloadN X150 hx hby at_268 rfl (zbipush X150 hx hby at_269 (z := (8 : Int32)) rfl (ziushr X150 hx hby at_271 ((p4.toUInt32 >>> ((8 : Int32) &&& 31).toUInt32).toInt32) rfl (zi2b X150 hx hby at_272 (((p4.toUInt32 >>> ((8 : Int32) &&& 31).toUInt32).toInt32).toInt8.toInt32) rfl ?_)))))))
          show zEnds p e below s T150 (mkF m 273 #[iv p1, iv p2, iv p3, iv p4, rv b1, iv 1, iv 4, iv 1, iv 4, iv 0, iv vc, iv 4] [(.int (((p4.toUInt32 >>> ((8 : Int32) &&& 31).toUInt32).toInt32).toInt8.toInt32)), (.int 5), (.ref b1)]) _ _ _
          generalize e_vz : (((p4.toUInt32 >>> ((8 : Int32) &&& 31).toUInt32).toInt32).toInt8.toInt32) = vz
          have hn_vz : nar .byte vz = vz := by rw [← e_vz]; exact own_nar8 _
          refine zbastore X150 hx hby at_273 hZ e150 A150_b1 (by decide) (by show Int32.toNatClampNeg 5 < 20; decide) vz hn_vz fun T151 h151 X151 e151 W151 A151_b1 => ?_
          change zLst Z h151 b1 .byte [(.int va), (.int 27), (.int ((e1v vs1).toInt8.toInt32)), (.int ((e2v vs1).toInt8.toInt32)), (.int vy), (.int vz), (.int 0), (.int 0), (.int 0), (.int 0), (.int 0), (.int 0), (.int 0), (.int 0), (.int 0), (.int 0), (.int 0), (.int 0), (.int 0), (.int 0)] at A151_b1
          have O151 := O150.wr W151 g1
          have N151 := Fr.snoc X151 N150 g1
          refine zaload X151 hx hby at_274 rfl rfl (ziload X151 hx hby at_276 rfl (ziload X151 hx hby at_278 rfl (zcalls X151 hx hby at_280 hZ hown (w6 hw) (w7 hw) (w8 hw) (w9 hw) e151 (c59_firstCharacter l hw [] ⟨S_w_arr0, A_w_arr0, Al_w_arr0⟩ O151 (zsz O151) b1 va ((e1v vs1).toInt8.toInt32) ((e2v vs1).toInt8.toInt32) vy vz g1 A151_b1) hml 0 pd_0 (argsL := [(.ref b1), (.int 1), (.int 4)]) (st := []) (zpureK ⟨rfl, rfl⟩ fun T152 X152 e152 => ?_))))
          show zEnds p e below s T152 (mkF m 283 #[iv p1, iv p2, iv p3, iv p4, rv b1, iv 1, iv 4, iv 1, iv 4, iv 0, iv vc, iv 4] [(.int 4)]) _ _ _
          refine ziload X152 hx hby at_283 rfl (zicmpNo X152 hx hby at_285 (by decide) (ziconst X152 hx hby at_288 (z := (1 : Int32)) rfl (zgoto X152 hx hby at_289 293 (by decide) (by decide) ?_)))
          show zEnds p e below s T152 (mkF m 293 #[iv p1, iv p2, iv p3, iv p4, rv b1, iv 1, iv 4, iv 1, iv 4, iv 0, iv vc, iv 4] [(.int 1)]) _ _ _
          exact zretZ X152 hx hby at_293 hret hlk (by simp) rfl (by decide) (by decide) ⟨rfl, N151⟩
        · show zEnds p e below s T133 (mkF m 134 #[iv p1, iv p2, iv p3, iv p4, rv b1, iv 1, iv 4, iv 1, iv 4, iv 3, iv vc, .unset] [(.int 27), (.int vc)]) _ _ _
          refine zicmpYes X133 hx hby at_134 140 (feq hc27).2 (by decide) (by decide) (ziload X133 hx hby at_140 rfl (ziconst X133 hx hby at_142 (z := (1 : Int32)) rfl (zicmpYes X133 hx hby at_143 163 (by decide) (by decide) (by decide) (ziload X133 hx hby at_163 rfl (ziconst X133 hx hby at_165 (z := (2 : Int32)) rfl (zicmpYes X133 hx hby at_166 220 (by decide) (by decide) (by decide) (ziload X133 hx hby at_220 rfl (ziconst X133 hx hby at_222 (z := (3 : Int32)) rfl (zicmpNo X133 hx hby at_223 (by decide) ?_)))))))))
          show zEnds p e below s T133 (mkF m 226 #[iv p1, iv p2, iv p3, iv p4, rv b1, iv 1, iv 4, iv 1, iv 4, iv 3, iv vc, .unset] []) _ _ _
          refine zaload X133 hx hby at_226 rfl rfl (ziload X133 hx hby at_228 rfl (ziload X133 hx hby at_230 rfl (zi2b X133 hx hby at_232 (vc.toInt8.toInt32) rfl ?_)))
          show zEnds p e below s T133 (mkF m 233 #[iv p1, iv p2, iv p3, iv p4, rv b1, iv 1, iv 4, iv 1, iv 4, iv 3, iv vc, .unset] [(.int (vc.toInt8.toInt32)), (.int 4), (.ref b1)]) _ _ _
          generalize e_vg : (vc.toInt8.toInt32) = vg
          have hn_vg : nar .byte vg = vg := by rw [← e_vg]; exact own_nar8 _
          have h27_vg : ¬ (vg = (27 : Int32)) := by rw [← e_vg]; exact own_27 kc hc27
          refine zbastore X133 hx hby at_233 hZ e133 A133_b1 (by decide) (by show Int32.toNatClampNeg 4 < 20; decide) vg hn_vg fun T153 h153 X153 e153 W153 A153_b1 => ?_
          change zLst Z h153 b1 .byte [(.int va), (.int 27), (.int ((e1v vs1).toInt8.toInt32)), (.int ((e2v vs1).toInt8.toInt32)), (.int vg), (.int 0), (.int 0), (.int 0), (.int 0), (.int 0), (.int 0), (.int 0), (.int 0), (.int 0), (.int 0), (.int 0), (.int 0), (.int 0), (.int 0), (.int 0)] at A153_b1
          have O153 := O133.wr W153 g1
          have N153 := Fr.snoc X153 N133 g1
          refine zaload X153 hx hby at_234 rfl rfl (ziload X153 hx hby at_236 rfl (ziconst X153 hx hby at_238 (z := (1 : Int32)) rfl (ziadd X153 hx hby at_239 (5 : Int32) (by decide) (ziloadN X153 hx hby at_240 rfl (zbipush X153 hx hby at_241 (z := (9 : Int32)) rfl (ziushr X153 hx hby at_243 ((p2.toUInt32 >>> ((9 : Int32) &&& 31).toUInt32).toInt32) rfl (ziconst X153 hx hby at_244 (z := (3 : Int32)) rfl (ziand X153 hx hby at_245 (((p2.toUInt32 >>> ((9 : Int32) &&& 31).toUInt32).toInt32) &&& (3 : Int32)) rfl ?_))))))))
          show zEnds p e below s T153 (mkF m 246 #[iv p1, iv p2, iv p3, iv p4, rv b1, iv 1, iv 4, iv 1, iv 4, iv 3, iv vc, .unset] [(.int (((p2.toUInt32 >>> ((9 : Int32) &&& 31).toUInt32).toInt32) &&& (3 : Int32))), (.int 5), (.ref b1)]) _ _ _
          generalize e_vs4 : (((p2.toUInt32 >>> ((9 : Int32) &&& 31).toUInt32).toInt32) &&& (3 : Int32)) = vs4
          refine zcalls X153 hx hby at_246 hZ hown (w2 hw) (w3 hw) (w4 hw) (w5 hw) e153 (c65_esc l hw [] ⟨S_w_arr0, A_w_arr0, Al_w_arr0⟩ O153 (zsz O153) vs4 b1 va (27 : Int32) ((e1v vs1).toInt8.toInt32) ((e2v vs1).toInt8.toInt32) vg (0 : Int32) (0 : Int32) (0 : Int32) (0 : Int32) (0 : Int32) (0 : Int32) (0 : Int32) (0 : Int32) (0 : Int32) (0 : Int32) (0 : Int32) (0 : Int32) (0 : Int32) (0 : Int32) (0 : Int32) g1 A153_b1 h27_vg) hml 0 pd_0 (argsL := [(.ref b1), (.int 5), (.int vs4)]) (st := []) fun T154 h154 v154 L154 e154 X154 q154 => ?_
          obtain ⟨rfl, N154q, K154q, A154_b1⟩ := q154
          have O154 := O153.keep K154q (allS g1 all0)
          have N154 := Fr.app N153 N154q
          show zEnds p e below s T154 (mkF m 249 #[iv p1, iv p2, iv p3, iv p4, rv b1, iv 1, iv 4, iv 1, iv 4, iv 3, iv vc, .unset] [(.int 8)]) _ _ _
          refine zistore X154 hx hby at_249 (L' := #[iv p1, iv p2, iv p3, iv p4, rv b1, iv 1, iv 8, iv 1, iv 4, iv 3, iv vc, .unset]) rfl (ziload X154 hx hby at_251 rfl (zistore X154 hx hby at_253 (L' := #[iv p1, iv p2, iv p3, iv p4, rv b1, iv 1, iv 8, iv 1, iv 4, iv 3, iv vc, iv 8]) rfl (zaload X154 hx hby at_255 rfl rfl (ziload X154 hx hby at_257 rfl (ziloadN X154 hx hby at_259 rfl (zi2b X154 hx hby at_260 (p4.toInt8.toInt32) rfl ?_))))))
          show zEnds p e below s T154 (mkF m 261 #[iv p1, iv p2, iv p3, iv p4, rv b1, iv 1, iv 8, iv 1, iv 4, iv 3, iv vc, iv 8] [(.int (p4.toInt8.toInt32)), (.int 8), (.ref b1)]) _ _ _
          generalize e_vy : (p4.toInt8.toInt32) = vy
          have hn_vy : nar .byte vy = vy := by rw [← e_vy]; exact own_nar8 _
          refine zbastore X154 hx hby at_261 hZ e154 A154_b1 (by decide) (by show Int32.toNatClampNeg 8 < 20; decide) vy hn_vy fun T155 h155 X155 e155 W155 A155_b1 => ?_
          change zLst Z h155 b1 .byte [(.int va), (.int 27), (.int ((e1v vs1).toInt8.toInt32)), (.int ((e2v vs1).toInt8.toInt32)), (.int vg), (.int 27), (.int ((e1v vs4).toInt8.toInt32)), (.int ((e2v vs4).toInt8.toInt32)), (.int vy), (.int 0), (.int 0), (.int 0), (.int 0), (.int 0), (.int 0), (.int 0), (.int 0), (.int 0), (.int 0), (.int 0)] at A155_b1
          have O155 := O154.wr W155 g1
          have N155 := Fr.snoc X155 N154 g1
          refine zaload X155 hx hby at_262 rfl rfl (ziload X155 hx hby at_264 rfl (ziconst X155 hx hby at_266 (z := (1 : Int32)) rfl (ziadd X155 hx hby at_267 (9 : Int32) (by decide) (ziloadN X155 hx hby at_268 rfl (zbipush X155 hx hby at_269 (z := (8 : Int32)) rfl (ziushr X155 hx hby at_271 ((p4.toUInt32 >>> ((8 : Int32) &&& 31).toUInt32).toInt32) rfl (zi2b X155 hx hby at_272 (((p4.toUInt32 >>> ((8 : Int32) &&& 31).toUInt32).toInt32).toInt8.toInt32) rfl ?_)))))))
          show zEnds p e below s T155 (mkF m 273 #[iv p1, iv p2, iv p3, iv p4, rv b1, iv 1, iv 8, iv 1, iv 4, iv 3, iv vc, iv 8] [(.int (((p4.toUInt32 >>> ((8 : Int32) &&& 31).toUInt32).toInt32).toInt8.toInt32)), (.int 9), (.ref b1)]) _ _ _
          generalize e_vz : (((p4.toUInt32 >>> ((8 : Int32) &&& 31).toUInt32).toInt32).toInt8.toInt32) = vz
          have hn_vz : nar .byte vz = vz := by rw [← e_vz]; exact own_nar8 _
          refine zbastore X155 hx hby at_273 hZ e155 A155_b1 (by decide) (by show Int32.toNatClampNeg 9 < 20; decide) vz hn_vz fun T156 h156 X156 e156 W156 A156_b1 => ?_
          change zLst Z h156 b1 .byte [(.int va), (.int 27), (.int ((e1v vs1).toInt8.toInt32)), (.int ((e2v vs1).toInt8.toInt32)), (.int vg), (.int 27), (.int ((e1v vs4).toInt8.toInt32)), (.int ((e2v vs4).toInt8.toInt32)), (.int vy), (.int vz), (.int 0), (.int 0), (.int 0), (.int 0), (.int 0), (.int 0), (.int 0), (.int 0), (.int 0), (.int 0)] at A156_b1
          have O156 := O155.wr W156 g1
          have N156 := Fr.snoc X156 N155 g1
          refine zaload X156 hx hby at_274 rfl rfl (ziload X156 hx hby at_276 rfl (ziload X156 hx hby at_278 rfl (zcalls X156 hx hby at_280 hZ hown (w6 hw) (w7 hw) (w8 hw) (w9 hw) e156 (c67_firstCharacter l hw [] ⟨S_w_arr0, A_w_arr0, Al_w_arr0⟩ O156 (zsz O156) b1 va ((e1v vs1).toInt8.toInt32) ((e2v vs1).toInt8.toInt32) vg ((e1v vs4).toInt8.toInt32) ((e2v vs4).toInt8.toInt32) vy vz g1 A156_b1 h27_vg) hml 0 pd_0 (argsL := [(.ref b1), (.int 1), (.int 8)]) (st := []) (zpureK ⟨rfl, rfl⟩ fun T157 X157 e157 => ?_))))
          show zEnds p e below s T157 (mkF m 283 #[iv p1, iv p2, iv p3, iv p4, rv b1, iv 1, iv 8, iv 1, iv 4, iv 3, iv vc, iv 8] [(.int 4)]) _ _ _
          refine ziload X157 hx hby at_283 rfl (zicmpNo X157 hx hby at_285 (by decide) (ziconst X157 hx hby at_288 (z := (1 : Int32)) rfl (zgoto X157 hx hby at_289 293 (by decide) (by decide) ?_)))
          show zEnds p e below s T157 (mkF m 293 #[iv p1, iv p2, iv p3, iv p4, rv b1, iv 1, iv 8, iv 1, iv 4, iv 3, iv vc, iv 8] [(.int 1)]) _ _ _
          exact zretZ X157 hx hby at_293 hret hlk (by simp) rfl (by decide) (by decide) ⟨rfl, N156⟩
    · rw [q108]
      refine zistore X3 hx hby at_39 (L' := #[iv p1, iv p2, iv p3, iv p4, rv b1, iv 1, iv 1, iv 2, .unset, .unset, .unset, .unset]) rfl (ziload X3 hx hby at_41 rfl (zifNo X3 hx hby at_43 (by decide) (zaload X3 hx hby at_46 rfl rfl (ziload X3 hx hby at_48 rfl (ziloadN X3 hx hby at_50 rfl (ziconst X3 hx hby at_51 (z := (2 : Int32)) rfl (ziushr X3 hx hby at_52 ((p1.toUInt32 >>> ((2 : Int32) &&& 31).toUInt32).toInt32) rfl (ziconst X3 hx hby at_53 (z := (3 : Int32)) rfl (ziand X3 hx hby at_54 (((p1.toUInt32 >>> ((2 : Int32) &&& 31).toUInt32).toInt32) &&& (3 : Int32)) rfl ?_)))))))))
      show zEnds p e below s T3 (mkF m 55 #[iv p1, iv p2, iv p3, iv p4, rv b1, iv 1, iv 1, iv 2, .unset, .unset, .unset, .unset] [(.int (((p1.toUInt32 >>> ((2 : Int32) &&& 31).toUInt32).toInt32) &&& (3 : Int32))), (.int 1), (.ref b1)]) _ _ _
      generalize e_vs1 : (((p1.toUInt32 >>> ((2 : Int32) &&& 31).toUInt32).toInt32) &&& (3 : Int32)) = vs1
      refine zcalls X3 hx hby at_55 hZ hown (w2 hw) (w3 hw) (w4 hw) (w5 hw) e3 (c57_esc l hw [] ⟨S_w_arr0, A_w_arr0, Al_w_arr0⟩ O3 (zsz O3) vs1 b1 va vb (0 : Int32) (0 : Int32) (0 : Int32) (0 : Int32) (0 : Int32) (0 : Int32) (0 : Int32) (0 : Int32) (0 : Int32) (0 : Int32) (0 : Int32) (0 : Int32) (0 : Int32) (0 : Int32) (0 : Int32) (0 : Int32) (0 : Int32) (0 : Int32) g1 A3_b1) hml 0 pd_0 (argsL := [(.ref b1), (.int 1), (.int vs1)]) (st := []) fun T158 h158 v158 L158 e158 X158 q158 => ?_
      obtain ⟨rfl, N158q, K158q, A158_b1⟩ := q158
      have O158 := O3.keep K158q (allS g1 all0)
      have N158 := Fr.app N3 N158q
      show zEnds p e below s T158 (mkF m 58 #[iv p1, iv p2, iv p3, iv p4, rv b1, iv 1, iv 1, iv 2, .unset, .unset, .unset, .unset] [(.int 4)]) _ _ _
      refine zistore X158 hx hby at_58 (L' := #[iv p1, iv p2, iv p3, iv p4, rv b1, iv 1, iv 4, iv 2, .unset, .unset, .unset, .unset]) rfl (ziload X158 hx hby at_60 rfl (ziconst X158 hx hby at_62 (z := (1 : Int32)) rfl (zicmpNo X158 hx hby at_63 (by decide) (zaload X158 hx hby at_66 rfl rfl (ziload X158 hx hby at_68 rfl (ziloadN X158 hx hby at_70 rfl (ziconst X158 hx hby at_71 (z := (4 : Int32)) rfl (ziushr X158 hx hby at_72 ((p1.toUInt32 >>> ((4 : Int32) &&& 31).toUInt32).toInt32) rfl (ziconst X158 hx hby at_73 (z := (3 : Int32)) rfl ?_)))))))))
      show zEnds p e below s T158 (mkF m 74 #[iv p1, iv p2, iv p3, iv p4, rv b1, iv 1, iv 4, iv 2, .unset, .unset, .unset, .unset] [(.int 3), (.int ((p1.toUInt32 >>> ((4 : Int32) &&& 31).toUInt32).toInt32)), (.int 4), (.ref b1)]) _ _ _
      refine ziand X158 hx hby at_74 (((p1.toUInt32 >>> ((4 : Int32) &&& 31).toUInt32).toInt32) &&& (3 : Int32)) rfl ?_
      show zEnds p e below s T158 (mkF m 75 #[iv p1, iv p2, iv p3, iv p4, rv b1, iv 1, iv 4, iv 2, .unset, .unset, .unset, .unset] [(.int (((p1.toUInt32 >>> ((4 : Int32) &&& 31).toUInt32).toInt32) &&& (3 : Int32))), (.int 4), (.ref b1)]) _ _ _
      generalize e_vs2 : (((p1.toUInt32 >>> ((4 : Int32) &&& 31).toUInt32).toInt32) &&& (3 : Int32)) = vs2
      refine zcalls X158 hx hby at_75 hZ hown (w2 hw) (w3 hw) (w4 hw) (w5 hw) e158 (c69_esc l hw [] ⟨S_w_arr0, A_w_arr0, Al_w_arr0⟩ O158 (zsz O158) vs2 b1 va (27 : Int32) ((e1v vs1).toInt8.toInt32) ((e2v vs1).toInt8.toInt32) (0 : Int32) (0 : Int32) (0 : Int32) (0 : Int32) (0 : Int32) (0 : Int32) (0 : Int32) (0 : Int32) (0 : Int32) (0 : Int32) (0 : Int32) (0 : Int32) (0 : Int32) (0 : Int32) (0 : Int32) (0 : Int32) g1 A158_b1) hml 0 pd_0 (argsL := [(.ref b1), (.int 4), (.int vs2)]) (st := []) fun T159 h159 v159 L159 e159 X159 q159 => ?_
      obtain ⟨rfl, N159q, K159q, A159_b1⟩ := q159
      have O159 := O158.keep K159q (allS g1 all0)
      have N159 := Fr.app N158 N159q
      show zEnds p e below s T159 (mkF m 78 #[iv p1, iv p2, iv p3, iv p4, rv b1, iv 1, iv 4, iv 2, .unset, .unset, .unset, .unset] [(.int 7)]) _ _ _
      refine zistore X159 hx hby at_78 (L' := #[iv p1, iv p2, iv p3, iv p4, rv b1, iv 1, iv 7, iv 2, .unset, .unset, .unset, .unset]) rfl (ziload X159 hx hby at_80 rfl (ziconst X159 hx hby at_82 (z := (2 : Int32)) rfl (zicmpYes X159 hx hby at_83 101 (by decide) (by decide) (by decide) (ziload X159 hx hby at_101 rfl (zistore X159 hx hby at_103 (L' := #[iv p1, iv p2, iv p3, iv p4, rv b1, iv 1, iv 7, iv 2, iv 7, .unset, .unset, .unset]) rfl (ziloadN X159 hx hby at_105 rfl (ziconst X159 hx hby at_106 (z := (3 : Int32)) rfl (ziand X159 hx hby at_107 (p2 &&& (3 : Int32)) rfl ?_))))))))
      show zEnds p e below s T159 (mkF m 108 #[iv p1, iv p2, iv p3, iv p4, rv b1, iv 1, iv 7, iv 2, iv 7, .unset, .unset, .unset] [(.int (p2 &&& (3 : Int32)))]) _ _ _
      rcases (and_3 p2) with q160 | q160 | q160 | q160
      · rw [q160]
        refine zistore X159 hx hby at_108 (L' := #[iv p1, iv p2, iv p3, iv p4, rv b1, iv 1, iv 7, iv 2, iv 7, iv 0, .unset, .unset]) rfl (ziloadN X159 hx hby at_110 rfl (ziconst X159 hx hby at_111 (z := (2 : Int32)) rfl (ziushr X159 hx hby at_112 ((p2.toUInt32 >>> ((2 : Int32) &&& 31).toUInt32).toInt32) rfl (zbipush X159 hx hby at_113 (z := (127 : Int32)) rfl (ziand X159 hx hby at_115 (((p2.toUInt32 >>> ((2 : Int32) &&& 31).toUInt32).toInt32) &&& (127 : Int32)) rfl ?_)))))
        show zEnds p e below s T159 (mkF m 116 #[iv p1, iv p2, iv p3, iv p4, rv b1, iv 1, iv 7, iv 2, iv 7, iv 0, .unset, .unset] [(.int (((p2.toUInt32 >>> ((2 : Int32) &&& 31).toUInt32).toInt32) &&& (127 : Int32)))]) _ _ _
        generalize e_vc : (((p2.toUInt32 >>> ((2 : Int32) &&& 31).toUInt32).toInt32) &&& (127 : Int32)) = vc
        have kc : 0 ≤ vc.toInt ∧ vc.toInt ≤ 127 := by rw [← e_vc]; exact own_c _
        refine zistore X159 hx hby at_116 (L' := #[iv p1, iv p2, iv p3, iv p4, rv b1, iv 1, iv 7, iv 2, iv 7, iv 0, iv vc, .unset]) rfl (ziload X159 hx hby at_118 rfl (ziconst X159 hx hby at_120 (z := (1 : Int32)) rfl (zicmpNo X159 hx hby at_121 (by decide) (ziload X159 hx hby at_124 rfl (ziconst X159 hx hby at_126 (z := (3 : Int32)) rfl (zicmpYes X159 hx hby at_127 140 (by decide) (by decide) (by decide) (ziload X159 hx hby at_140 rfl (ziconst X159 hx hby at_142 (z := (1 : Int32)) rfl (zicmpYes X159 hx hby at_143 163 (by decide) (by decide) (by decide) ?_)))))))))
        show zEnds p e below s T159 (mkF m 163 #[iv p1, iv p2, iv p3, iv p4, rv b1, iv 1, iv 7, iv 2, iv 7, iv 0, iv vc, .unset] []) _ _ _
        refine ziload X159 hx hby at_163 rfl (ziconst X159 hx hby at_165 (z := (2 : Int32)) rfl (zicmpYes X159 hx hby at_166 220 (by decide) (by decide) (by decide) (ziload X159 hx hby at_220 rfl (ziconst X159 hx hby at_222 (z := (3 : Int32)) rfl (zicmpYes X159 hx hby at_223 251 (by decide) (by decide) (by decide) (ziload X159 hx hby at_251 rfl (zistore X159 hx hby at_253 (L' := #[iv p1, iv p2, iv p3, iv p4, rv b1, iv 1, iv 7, iv 2, iv 7, iv 0, iv vc, iv 7]) rfl (zaload X159 hx hby at_255 rfl rfl (ziload X159 hx hby at_257 rfl ?_)))))))))
        show zEnds p e below s T159 (mkF m 259 #[iv p1, iv p2, iv p3, iv p4, rv b1, iv 1, iv 7, iv 2, iv 7, iv 0, iv vc, iv 7] [(.int 7), (.ref b1)]) _ _ _
        refine ziloadN X159 hx hby at_259 rfl (zi2b X159 hx hby at_260 (p4.toInt8.toInt32) rfl ?_)
        show zEnds p e below s T159 (mkF m 261 #[iv p1, iv p2, iv p3, iv p4, rv b1, iv 1, iv 7, iv 2, iv 7, iv 0, iv vc, iv 7] [(.int (p4.toInt8.toInt32)), (.int 7), (.ref b1)]) _ _ _
        generalize e_vy : (p4.toInt8.toInt32) = vy
        have hn_vy : nar .byte vy = vy := by rw [← e_vy]; exact own_nar8 _
        refine zbastore X159 hx hby at_261 hZ e159 A159_b1 (by decide) (by show Int32.toNatClampNeg 7 < 20; decide) vy hn_vy fun T161 h161 X161 e161 W161 A161_b1 => ?_
        change zLst Z h161 b1 .byte [(.int va), (.int 27), (.int ((e1v vs1).toInt8.toInt32)), (.int ((e2v vs1).toInt8.toInt32)), (.int 27), (.int ((e1v vs2).toInt8.toInt32)), (.int ((e2v vs2).toInt8.toInt32)), (.int vy), (.int 0), (.int 0), (.int 0), (.int 0), (.int 0), (.int 0), (.int 0), (.int 0), (.int 0), (.int 0), (.int 0), (.int 0)] at A161_b1
        have O161 := O159.wr W161 g1
        have N161 := Fr.snoc X161 N159 g1
        refine zaload X161 hx hby at_262 rfl rfl (ziload X161 hx hby at_264 rfl (ziconst X161 hx hby at_266 (z := (1 : Int32)) rfl (ziadd X161 hx hby at_267 (8 : Int32) (by decide) (ziloadN X161 hx hby at_268 rfl (zbipush X161 hx hby at_269 (z := (8 : Int32)) rfl (ziushr X161 hx hby at_271 ((p4.toUInt32 >>> ((8 : Int32) &&& 31).toUInt32).toInt32) rfl (zi2b X161 hx hby at_272 (((p4.toUInt32 >>> ((8 : Int32) &&& 31).toUInt32).toInt32).toInt8.toInt32) rfl ?_)))))))
        show zEnds p e below s T161 (mkF m 273 #[iv p1, iv p2, iv p3, iv p4, rv b1, iv 1, iv 7, iv 2, iv 7, iv 0, iv vc, iv 7] [(.int (((p4.toUInt32 >>> ((8 : Int32) &&& 31).toUInt32).toInt32).toInt8.toInt32)), (.int 8), (.ref b1)]) _ _ _
        generalize e_vz : (((p4.toUInt32 >>> ((8 : Int32) &&& 31).toUInt32).toInt32).toInt8.toInt32) = vz
        have hn_vz : nar .byte vz = vz := by rw [← e_vz]; exact own_nar8 _
        refine zbastore X161 hx hby at_273 hZ e161 A161_b1 (by decide) (by show Int32.toNatClampNeg 8 < 20; decide) vz hn_vz fun T162 h162 X162 e162 W162 A162_b1 => ?_
        change zLst Z h162 b1 .byte [(.int va), (.int 27), (.int ((e1v vs1).toInt8.toInt32)), (.int ((e2v vs1).toInt8.toInt32)), (.int 27), (.int ((e1v vs2).toInt8.toInt32)), (.int ((e2v vs2).toInt8.toInt32)), (.int vy), (.int vz), (.int 0), (.int 0), (.int 0), (.int 0), (.int 0), (.int 0), (.int 0), (.int 0), (.int 0), (.int 0), (.int 0)] at A162_b1
        have O162 := O161.wr W162 g1
        have N162 := Fr.snoc X162 N161 g1
        refine zaload X162 hx hby at_274 rfl rfl (ziload X162 hx hby at_276 rfl (ziload X162 hx hby at_278 rfl (zcalls X162 hx hby at_280 hZ hown (w6 hw) (w7 hw) (w8 hw) (w9 hw) e162 (c71_firstCharacter l hw [] ⟨S_w_arr0, A_w_arr0, Al_w_arr0⟩ O162 (zsz O162) b1 va ((e1v vs1).toInt8.toInt32) ((e2v vs1).toInt8.toInt32) ((e1v vs2).toInt8.toInt32) ((e2v vs2).toInt8.toInt32) vy vz g1 A162_b1) hml 0 pd_0 (argsL := [(.ref b1), (.int 1), (.int 7)]) (st := []) (zpureK ⟨rfl, rfl⟩ fun T163 X163 e163 => ?_))))
        show zEnds p e below s T163 (mkF m 283 #[iv p1, iv p2, iv p3, iv p4, rv b1, iv 1, iv 7, iv 2, iv 7, iv 0, iv vc, iv 7] [(.int 7)]) _ _ _
        refine ziload X163 hx hby at_283 rfl (zicmpNo X163 hx hby at_285 (by decide) (ziconst X163 hx hby at_288 (z := (1 : Int32)) rfl (zgoto X163 hx hby at_289 293 (by decide) (by decide) ?_)))
        show zEnds p e below s T163 (mkF m 293 #[iv p1, iv p2, iv p3, iv p4, rv b1, iv 1, iv 7, iv 2, iv 7, iv 0, iv vc, iv 7] [(.int 1)]) _ _ _
        exact zretZ X163 hx hby at_293 hret hlk (by simp) rfl (by decide) (by decide) ⟨rfl, N162⟩
      · rw [q160]
        refine zistore X159 hx hby at_108 (L' := #[iv p1, iv p2, iv p3, iv p4, rv b1, iv 1, iv 7, iv 2, iv 7, iv 1, .unset, .unset]) rfl (ziloadN X159 hx hby at_110 rfl (ziconst X159 hx hby at_111 (z := (2 : Int32)) rfl (ziushr X159 hx hby at_112 ((p2.toUInt32 >>> ((2 : Int32) &&& 31).toUInt32).toInt32) rfl (zbipush X159 hx hby at_113 (z := (127 : Int32)) rfl (ziand X159 hx hby at_115 (((p2.toUInt32 >>> ((2 : Int32) &&& 31).toUInt32).toInt32) &&& (127 : Int32)) rfl ?_)))))
        show zEnds p e below s T159 (mkF m 116 #[iv p1, iv p2, iv p3, iv p4, rv b1, iv 1, iv 7, iv 2, iv 7, iv 1, .unset, .unset] [(.int (((p2.toUInt32 >>> ((2 : Int32) &&& 31).toUInt32).toInt32) &&& (127 : Int32)))]) _ _ _
        generalize e_vc : (((p2.toUInt32 >>> ((2 : Int32) &&& 31).toUInt32).toInt32) &&& (127 : Int32)) = vc
        have kc : 0 ≤ vc.toInt ∧ vc.toInt ≤ 127 := by rw [← e_vc]; exact own_c _
        refine zistore X159 hx hby at_116 (L' := #[iv p1, iv p2, iv p3, iv p4, rv b1, iv 1, iv 7, iv 2, iv 7, iv 1, iv vc, .unset]) rfl (ziload X159 hx hby at_118 rfl (ziconst X159 hx hby at_120 (z := (1 : Int32)) rfl (zicmpYes X159 hx hby at_121 130 (by decide) (by decide) (by decide) (ziload X159 hx hby at_130 rfl (zbipush X159 hx hby at_132 (z := (27 : Int32)) rfl ?_)))))
        show zEnds p e below s T159 (mkF m 134 #[iv p1, iv p2, iv p3, iv p4, rv b1, iv 1, iv 7, iv 2, iv 7, iv 1, iv vc, .unset] [(.int 27), (.int vc)]) _ _ _
        by_cases hc27 : vc = (27 : Int32)
        · show zEnds p e below s T159 (mkF m 134 #[iv p1, iv p2, iv p3, iv p4, rv b1, iv 1, iv 7, iv 2, iv 7, iv 1, iv vc, .unset] [(.int 27), (.int vc)]) _ _ _
          refine zicmpNo X159 hx hby at_134 (teq hc27).2 (ziconst X159 hx hby at_137 (z := (0 : Int32)) rfl (zistore X159 hx hby at_138 (L' := #[iv p1, iv p2, iv p3, iv p4, rv b1, iv 1, iv 7, iv 2, iv 7, iv 0, iv vc, .unset]) rfl (ziload X159 hx hby at_140 rfl (ziconst X159 hx hby at_142 (z := (1 : Int32)) rfl (zicmpYes X159 hx hby at_143 163 (by decide) (by decide) (by decide) (ziload X159 hx hby at_163 rfl (ziconst X159 hx hby at_165 (z := (2 : Int32)) rfl (zicmpYes X159 hx hby at_166 220 (by decide) (by decide) (by decide) (ziload X159 hx hby at_220 rfl ?_)))))))))
          show zEnds p e below s T159 (mkF m 222 #[iv p1, iv p2, iv p3, iv p4, rv b1, iv 1, iv 7, iv 2, iv 7, iv 0, iv vc, .unset] [(.int 0)]) _ _ _
          refine ziconst X159 hx hby at_222 (z := (3 : Int32)) rfl (zicmpYes X159 hx hby at_223 251 (by decide) (by decide) (by decide) (ziload X159 hx hby at_251 rfl (zistore X159 hx hby at_253 (L' := #[iv p1, iv p2, iv p3, iv p4, rv b1, iv 1, iv 7, iv 2, iv 7, iv 0, iv vc, iv 7]) rfl (zaload X159 hx hby at_255 rfl rfl (ziload X159 hx hby at_257 rfl (ziloadN X159 hx hby at_259 rfl (zi2b X159 hx hby at_260 (p4.toInt8.toInt32) rfl ?_)))))))
          show zEnds p e below s T159 (mkF m 261 #[iv p1, iv p2, iv p3, iv p4, rv b1, iv 1, iv 7, iv 2, iv 7, iv 0, iv vc, iv 7] [(.int (p4.toInt8.toInt32)), (.int 7), (.ref b1)]) _ _ _
          generalize e_vy : (p4.toInt8.toInt32) = vy
          have hn_vy : nar .byte vy = vy := by rw [← e_vy]; exact own_nar8 _
          refine zbastore X159 hx hby at_261 hZ e159 A159_b1 (by decide) (by show Int32.toNatClampNeg 7 < 20; decide) vy hn_vy fun T164 h164 X164 e164 W164 A164_b1 => ?_
          change zLst Z h164 b1 .byte [(.int va), (.int 27), (.int ((e1v vs1).toInt8.toInt32)), (.int ((e2v vs1).toInt8.toInt32)), (.int 27), (.int ((e1v vs2).toInt8.toInt32)), (.int ((e2v vs2).toInt8.toInt32)), (.int vy), (.int 0), (.int 0), (.int 0), (.int 0), (.int 0), (.int 0), (.int 0), (.int 0), (.int 0), (.int 0), (.int 0), (.int 0)] at A164_b1
          have O164 := O159.wr W164 g1
          have N164 := Fr.snoc X164 N159 g1
          refine zaload X164 hx hby at_262 rfl rfl (ziload X164 hx hby at_264 rfl (ziconst X164 hx hby at_266 (z := (1 : Int32)) rfl (ziadd X164 hx hby at_267 (8 : Int32) (by decide) (ziloadN X164 hx hby at_268 rfl (zbipush X164 hx hby at_269 (z := (8 : Int32)) rfl (ziushr X164 hx hby at_271 ((p4.toUInt32 >>> ((8 : Int32) &&& 31).toUInt32).toInt32) rfl (zi2b X164 hx hby at_272 (((p4.toUInt32 >>> ((8 : Int32) &&& 31).toUInt32).toInt32).toInt8.toInt32) rfl ?_)))))))
          show zEnds p e below s T164 (mkF m 273 #[iv p1, iv p2, iv p3, iv p4, rv b1, iv 1, iv 7, iv 2, iv 7, iv 0, iv vc, iv 7] [(.int (((p4.toUInt32 >>> ((8 : Int32) &&& 31).toUInt32).toInt32).toInt8.toInt32)), (.int 8), (.ref b1)]) _ _ _
          generalize e_vz : (((p4.toUInt32 >>> ((8 : Int32) &&& 31).toUInt32).toInt32).toInt8.toInt32) = vz
          have hn_vz : nar .byte vz = vz := by rw [← e_vz]; exact own_nar8 _
          refine zbastore X164 hx hby at_273 hZ e164 A164_b1 (by decide) (by show Int32.toNatClampNeg 8 < 20; decide) vz hn_vz fun T165 h165 X165 e165 W165 A165_b1 => ?_
          change zLst Z h165 b1 .byte [(.int va), (.int 27), (.int ((e1v vs1).toInt8.toInt32)), (.int ((e2v vs1).toInt8.toInt32)), (.int 27), (.int ((e1v vs2).toInt8.toInt32)), (.int ((e2v vs2).toInt8.toInt32)), (.int vy), (.int vz), (.int 0), (.int 0), (.int 0), (.int 0), (.int 0), (.int 0), (.int 0), (.int 0), (.int 0), (.int 0), (.int 0)] at A165_b1
          have O165 := O164.wr W165 g1
          have N165 := Fr.snoc X165 N164 g1
          refine zaload X165 hx hby at_274 rfl rfl (ziload X165 hx hby at_276 rfl (ziload X165 hx hby at_278 rfl (zcalls X165 hx hby at_280 hZ hown (w6 hw) (w7 hw) (w8 hw) (w9 hw) e165 (c71_firstCharacter l hw [] ⟨S_w_arr0, A_w_arr0, Al_w_arr0⟩ O165 (zsz O165) b1 va ((e1v vs1).toInt8.toInt32) ((e2v vs1).toInt8.toInt32) ((e1v vs2).toInt8.toInt32) ((e2v vs2).toInt8.toInt32) vy vz g1 A165_b1) hml 0 pd_0 (argsL := [(.ref b1), (.int 1), (.int 7)]) (st := []) (zpureK ⟨rfl, rfl⟩ fun T166 X166 e166 => ?_))))
          show zEnds p e below s T166 (mkF m 283 #[iv p1, iv p2, iv p3, iv p4, rv b1, iv 1, iv 7, iv 2, iv 7, iv 0, iv vc, iv 7] [(.int 7)]) _ _ _
          refine ziload X166 hx hby at_283 rfl (zicmpNo X166 hx hby at_285 (by decide) (ziconst X166 hx hby at_288 (z := (1 : Int32)) rfl (zgoto X166 hx hby at_289 293 (by decide) (by decide) ?_)))
          show zEnds p e below s T166 (mkF m 293 #[iv p1, iv p2, iv p3, iv p4, rv b1, iv 1, iv 7, iv 2, iv 7, iv 0, iv vc, iv 7] [(.int 1)]) _ _ _
          exact zretZ X166 hx hby at_293 hret hlk (by simp) rfl (by decide) (by decide) ⟨rfl, N165⟩
        · show zEnds p e below s T159 (mkF m 134 #[iv p1, iv p2, iv p3, iv p4, rv b1, iv 1, iv 7, iv 2, iv 7, iv 1, iv vc, .unset] [(.int 27), (.int vc)]) _ _ _
          refine zicmpYes X159 hx hby at_134 140 (feq hc27).2 (by decide) (by decide) (ziload X159 hx hby at_140 rfl (ziconst X159 hx hby at_142 (z := (1 : Int32)) rfl (zicmpNo X159 hx hby at_143 (by decide) (zaload X159 hx hby at_146 rfl rfl (ziload X159 hx hby at_148 rfl (ziload X159 hx hby at_150 rfl (zi2b X159 hx hby at_152 (vc.toInt8.toInt32) rfl ?_)))))))
          show zEnds p e below s T159 (mkF m 153 #[iv p1, iv p2, iv p3, iv p4, rv b1, iv 1, iv 7, iv 2, iv 7, iv 1, iv vc, .unset] [(.int (vc.toInt8.toInt32)), (.int 7), (.ref b1)]) _ _ _
          generalize e_vd : (vc.toInt8.toInt32) = vd
          have hn_vd : nar .byte vd = vd := by rw [← e_vd]; exact own_nar8 _
          have h27_vd : ¬ (vd = (27 : Int32)) := by rw [← e_vd]; exact own_27 kc hc27
          refine zbastore X159 hx hby at_153 hZ e159 A159_b1 (by decide) (by show Int32.toNatClampNeg 7 < 20; decide) vd hn_vd fun T167 h167 X167 e167 W167 A167_b1 => ?_
          change zLst Z h167 b1 .byte [(.int va), (.int 27), (.int ((e1v vs1).toInt8.toInt32)), (.int ((e2v vs1).toInt8.toInt32)), (.int 27), (.int ((e1v vs2).toInt8.toInt32)), (.int ((e2v vs2).toInt8.toInt32)), (.int vd), (.int 0), (.int 0), (.int 0), (.int 0), (.int 0), (.int 0), (.int 0), (.int 0), (.int 0), (.int 0), (.int 0), (.int 0)] at A167_b1
          have O167 := O159.wr W167 g1
          have N167 := Fr.snoc X167 N159 g1
          refine ziload X167 hx hby at_154 rfl (ziconst X167 hx hby at_156 (z := (1 : Int32)) rfl (ziadd X167 hx hby at_157 (8 : Int32) (by decide) (zistore X167 hx hby at_158 (L' := #[iv p1, iv p2, iv p3, iv p4, rv b1, iv 1, iv 8, iv 2, iv 7, iv 1, iv vc, .unset]) rfl (zgoto X167 hx hby at_160 251 (by decide) (by decide) (ziload X167 hx hby at_251 rfl (zistore X167 hx hby at_253 (L' := #[iv p1, iv p2, iv p3, iv p4, rv b1, iv 1, iv 8, iv 2, iv 7, iv 1, iv vc, iv 8]) rfl (zaload X167 hx hby at_255 rfl rfl (ziload X167 hx hby at_257 rfl (ziloadN X167 hx hby at_259 rfl ?_)))))))))
          show zEnds p e below s T167 (mkF m 260 #[iv p1, iv p2, iv p3, iv p4, rv b1, iv 1, iv 8, iv 2, iv 7, iv 1, iv vc, iv 8] [(.int p4), (.int 8), (.ref b1)]) _ _ _
          refine zi2b X167 hx hby at_260 (p4.toInt8.toInt32) rfl ?_
          show zEnds p e below s T167 (mkF m 261 #[iv p1, iv p2, iv p3, iv p4, rv b1, iv 1, iv 8, iv 2, iv 7, iv 1, iv vc, iv 8] [(.int (p4.toInt8.toInt32)), (.int 8), (.ref b1)]) _ _ _
          generalize e_vy : (p4.toInt8.toInt32) = vy
          have hn_vy : nar .byte vy = vy := by rw [← e_vy]; exact own_nar8 _
          refine zbastore X167 hx hby at_261 hZ e167 A167_b1 (by decide) (by show Int32.toNatClampNeg 8 < 20; decide) vy hn_vy fun T168 h168 X168 e168 W168 A168_b1 => ?_
          change zLst Z h168 b1 .byte [(.int va), (.int 27), (.int ((e1v vs1).toInt8.toInt32)), (.int ((e2v vs1).toInt8.toInt32)), (.int 27), (.int ((e1v vs2).toInt8.toInt32)), (.int ((e2v vs2).toInt8.toInt32)), (.int vd), (.int vy), (.int 0), (.int 0), (.int 0), (.int 0), (.int 0), (.int 0), (.int 0), (.int 0), (.int 0), (.int 0), (.int 0)] at A168_b1
          have O168 := O167.wr W168 g1
          have N168 := Fr.snoc X168 N167 g1
          refine zaload X168 hx hby at_262 rfl rfl (ziload X168 hx hby at_264 rfl (ziconst X168 hx hby at_266 (z := (1 : Int32)) rfl (ziadd X168 hx hby at_267 (9 : Int32) (by decide) (ziloadN X168 hx hby at_268 rfl (zbipush X168 hx hby at_269 (z := (8 : Int32)) rfl (ziushr X168 hx hby at_271 ((p4.toUInt32 >>> ((8 : Int32) &&& 31).toUInt32).toInt32) rfl (zi2b X168 hx hby at_272 (((p4.toUInt32 >>> ((8 : Int32) &&& 31).toUInt32).toInt32).toInt8.toInt32) rfl ?_)))))))
          show zEnds p e below s T168 (mkF m 273 #[iv p1, iv p2, iv p3, iv p4, rv b1, iv 1, iv 8, iv 2, iv 7, iv 1, iv vc, iv 8] [(.int (((p4.toUInt32 >>> ((8 : Int32) &&& 31).toUInt32).toInt32).toInt8.toInt32)), (.int 9), (.ref b1)]) _ _ _
          generalize e_vz : (((p4.toUInt32 >>> ((8 : Int32) &&& 31).toUInt32).toInt32).toInt8.toInt32) = vz
          have hn_vz : nar .byte vz = vz := by rw [← e_vz]; exact own_nar8 _
          refine zbastore X168 hx hby at_273 hZ e168 A168_b1 (by decide) (by show Int32.toNatClampNeg 9 < 20; decide) vz hn_vz fun T169 h169 X169 e169 W169 A169_b1 => ?_
          change zLst Z h169 b1 .byte [(.int va), (.int 27), (.int ((e1v vs1).toInt8.toInt32)), (.int ((e2v vs1).toInt8.toInt32)), (.int 27), (.int ((e1v vs2).toInt8.toInt32)), (.int ((e2v vs2).toInt8.toInt32)), (.int vd), (.int vy), (.int vz), (.int 0), (.int 0), (.int 0), (.int 0), (.int 0), (.int 0), (.int 0), (.int 0), (.int 0), (.int 0)] at A169_b1
          have O169 := O168.wr W169 g1
          have N169 := Fr.snoc X169 N168 g1
          refine zaload X169 hx hby at_274 rfl rfl (ziload X169 hx hby at_276 rfl (ziload X169 hx hby at_278 rfl (zcalls X169 hx hby at_280 hZ hown (w6 hw) (w7 hw) (w8 hw) (w9 hw) e169 (c73_firstCharacter l hw [] ⟨S_w_arr0, A_w_arr0, Al_w_arr0⟩ O169 (zsz O169) b1 va ((e1v vs1).toInt8.toInt32) ((e2v vs1).toInt8.toInt32) ((e1v vs2).toInt8.toInt32) ((e2v vs2).toInt8.toInt32) vd vy vz g1 A169_b1 h27_vd) hml 0 pd_0 (argsL := [(.ref b1), (.int 1), (.int 8)]) (st := []) (zpureK ⟨rfl, rfl⟩ fun T170 X170 e170 => ?_))))
          show zEnds p e below s T170 (mkF m 283 #[iv p1, iv p2, iv p3, iv p4, rv b1, iv 1, iv 8, iv 2, iv 7, iv 1, iv vc, iv 8] [(.int 7)]) _ _ _
          refine ziload X170 hx hby at_283 rfl (zicmpNo X170 hx hby at_285 (by decide) (ziconst X170 hx hby at_288 (z := (1 : Int32)) rfl (zgoto X170 hx hby at_289 293 (by decide) (by decide) ?_)))
          show zEnds p e below s T170 (mkF m 293 #[iv p1, iv p2, iv p3, iv p4, rv b1, iv 1, iv 8, iv 2, iv 7, iv 1, iv vc, iv 8] [(.int 1)]) _ _ _
          exact zretZ X170 hx hby at_293 hret hlk (by simp) rfl (by decide) (by decide) ⟨rfl, N169⟩
      · rw [q160]
        refine zistore X159 hx hby at_108 (L' := #[iv p1, iv p2, iv p3, iv p4, rv b1, iv 1, iv 7, iv 2, iv 7, iv 2, .unset, .unset]) rfl (ziloadN X159 hx hby at_110 rfl (ziconst X159 hx hby at_111 (z := (2 : Int32)) rfl (ziushr X159 hx hby at_112 ((p2.toUInt32 >>> ((2 : Int32) &&& 31).toUInt32).toInt32) rfl (zbipush X159 hx hby at_113 (z := (127 : Int32)) rfl (ziand X159 hx hby at_115 (((p2.toUInt32 >>> ((2 : Int32) &&& 31).toUInt32).toInt32) &&& (127 : Int32)) rfl ?_)))))
        show zEnds p e below s T159 (mkF m 116 #[iv p1, iv p2, iv p3, iv p4, rv b1, iv 1, iv 7, iv 2, iv 7, iv 2, .unset, .unset] [(.int (((p2.toUInt32 >>> ((2 : Int32) &&& 31).toUInt32).toInt32) &&& (127 : Int32)))]) _ _ _
        generalize e_vc : (((p2.toUInt32 >>> ((2 : Int32) &&& 31).toUInt32).toInt32) &&& (127 : Int32)) = vc
        have kc : 0 ≤ vc.toInt ∧ vc.toInt ≤ 127 := by rw [← e_vc]; exact own_c _
        refine zistore X159 hx hby at_116 (L' := #[iv p1, iv p2, iv p3, iv p4, rv b1, iv 1, iv 7, iv 2, iv 7, iv 2, iv vc, .unset]) rfl (ziload X159 hx hby at_118 rfl (ziconst X159 hx hby at_120 (z := (1 : Int32)) rfl (zicmpNo X159 hx hby at_121 (by decide) (ziload X159 hx hby at_124 rfl (ziconst X159 hx hby at_126 (z := (3 : Int32)) rfl (zicmpYes X159 hx hby at_127 140 (by decide) (by decide) (by decide) (ziload X159 hx hby at_140 rfl (ziconst X159 hx hby at_142 (z := (1 : Int32)) rfl (zicmpYes X159 hx hby at_143 163 (by decide) (by decide) (by decide) ?_)))))))))
        show zEnds p e below s T159 (mkF m 163 #[iv p1, iv p2, iv p3, iv p4, rv b1, iv 1, iv 7, iv 2, iv 7, iv 2, iv vc, .unset] []) _ _ _
        refine ziload X159 hx hby at_163 rfl (ziconst X159 hx hby at_165 (z := (2 : Int32)) rfl (zicmpNo X159 hx hby at_166 (by decide) (zaload X159 hx hby at_169 rfl rfl (ziload X159 hx hby at_171 rfl (zbipush X159 hx hby at_173 (z := (48 : Int32)) rfl (ziloadN X159 hx hby at_175 rfl (zbipush X159 hx hby at_176 (z := (9 : Int32)) rfl (ziushr X159 hx hby at_178 ((p2.toUInt32 >>> ((9 : Int32) &&& 31).toUInt32).toInt32) rfl (zsipush X159 hx hby at_179 (z := (255 : Int32)) rfl ?_)))))))))
        show zEnds p e below s T159 (mkF m 182 #[iv p1, iv p2, iv p3, iv p4, rv b1, iv 1, iv 7, iv 2, iv 7, iv 2, iv vc, .unset] [(.int 255), (.int ((p2.toUInt32 >>> ((9 : Int32) &&& 31).toUInt32).toInt32)), (.int 48), (.int 7), (.ref b1)]) _ _ _
        refine ziand X159 hx hby at_182 (((p2.toUInt32 >>> ((9 : Int32) &&& 31).toUInt32).toInt32) &&& (255 : Int32)) rfl (zbipush X159 hx hby at_183 (z := (31 : Int32)) rfl (zirem X159 hx hby at_185 ((((p2.toUInt32 >>> ((9 : Int32) &&& 31).toUInt32).toInt32) &&& (255 : Int32)) % (31 : Int32)) (by decide) rfl (ziadd X159 hx hby at_186 ((48 : Int32) + ((((p2.toUInt32 >>> ((9 : Int32) &&& 31).toUInt32).toInt32) &&& (255 : Int32)) % (31 : Int32))) rfl (zi2b X159 hx hby at_187 (((48 : Int32) + ((((p2.toUInt32 >>> ((9 : Int32) &&& 31).toUInt32).toInt32) &&& (255 : Int32)) % (31 : Int32))).toInt8.toInt32) rfl ?_))))
        show zEnds p e below s T159 (mkF m 188 #[iv p1, iv p2, iv p3, iv p4, rv b1, iv 1, iv 7, iv 2, iv 7, iv 2, iv vc, .unset] [(.int (((48 : Int32) + ((((p2.toUInt32 >>> ((9 : Int32) &&& 31).toUInt32).toInt32) &&& (255 : Int32)) % (31 : Int32))).toInt8.toInt32)), (.int 7), (.ref b1)]) _ _ _
        generalize e_ve : (((48 : Int32) + ((((p2.toUInt32 >>> ((9 : Int32) &&& 31).toUInt32).toInt32) &&& (255 : Int32)) % (31 : Int32))).toInt8.toInt32) = ve
        have hn_ve : nar .byte ve = ve := by rw [← e_ve]; exact own_nar8 _
        have h27_ve : ¬ (ve = (27 : Int32)) := by rw [← e_ve]; exact own_48 _
        refine zbastore X159 hx hby at_188 hZ e159 A159_b1 (by decide) (by show Int32.toNatClampNeg 7 < 20; decide) ve hn_ve fun T171 h171 X171 e171 W171 A171_b1 => ?_
        change zLst Z h171 b1 .byte [(.int va), (.int 27), (.int ((e1v vs1).toInt8.toInt32)), (.int ((e2v vs1).toInt8.toInt32)), (.int 27), (.int ((e1v vs2).toInt8.toInt32)), (.int ((e2v vs2).toInt8.toInt32)), (.int ve), (.int 0), (.int 0), (.int 0), (.int 0), (.int 0), (.int 0), (.int 0), (.int 0), (.int 0), (.int 0), (.int 0), (.int 0)] at A171_b1
        have O171 := O159.wr W171 g1
        have N171 := Fr.snoc X171 N159 g1
        refine zaload X171 hx hby at_189 rfl rfl (ziload X171 hx hby at_191 rfl (ziconst X171 hx hby at_193 (z := (1 : Int32)) rfl (ziadd X171 hx hby at_194 (8 : Int32) (by decide) (zbipush X171 hx hby at_195 (z := (33 : Int32)) rfl (ziloadN X171 hx hby at_197 rfl (zbipush X171 hx hby at_198 (z := (17 : Int32)) rfl (ziushr X171 hx hby at_200 ((p2.toUInt32 >>> ((17 : Int32) &&& 31).toUInt32).toInt32) rfl (zsipush X171 hx hby at_201 (z := (255 : Int32)) rfl (ziand X171 hx hby at_204 (((p2.toUInt32 >>> ((17 : Int32) &&& 31).toUInt32).toInt32) &&& (255 : Int32)) rfl ?_)))))))))
        show zEnds p e below s T171 (mkF m 205 #[iv p1, iv p2, iv p3, iv p4, rv b1, iv 1, iv 7, iv 2, iv 7, iv 2, iv vc, .unset] [(.int (((p2.toUInt32 >>> ((17 : Int32) &&& 31).toUInt32).toInt32) &&& (255 : Int32))), (.int 33), (.int 8), (.ref b1)]) _ _ _
        refine zbipush X171 hx hby at_205 (z := (94 : Int32)) rfl (zirem X171 hx hby at_207 ((((p2.toUInt32 >>> ((17 : Int32) &&& 31).toUInt32).toInt32) &&& (255 : Int32)) % (94 : Int32)) (by decide) rfl (ziadd X171 hx hby at_208 ((33 : Int32) + ((((p2.toUInt32 >>> ((17 : Int32) &&& 31).toUInt32).toInt32) &&& (255 : Int32)) % (94 : Int32))) rfl (zi2b X171 hx hby at_209 (((33 : Int32) + ((((p2.toUInt32 >>> ((17 : Int32) &&& 31).toUInt32).toInt32) &&& (255 : Int32)) % (94 : Int32))).toInt8.toInt32) rfl ?_)))
        show zEnds p e below s T171 (mkF m 210 #[iv p1, iv p2, iv p3, iv p4, rv b1, iv 1, iv 7, iv 2, iv 7, iv 2, iv vc, .unset] [(.int (((33 : Int32) + ((((p2.toUInt32 >>> ((17 : Int32) &&& 31).toUInt32).toInt32) &&& (255 : Int32)) % (94 : Int32))).toInt8.toInt32)), (.int 8), (.ref b1)]) _ _ _
        generalize e_vf : (((33 : Int32) + ((((p2.toUInt32 >>> ((17 : Int32) &&& 31).toUInt32).toInt32) &&& (255 : Int32)) % (94 : Int32))).toInt8.toInt32) = vf
        have hn_vf : nar .byte vf = vf := by rw [← e_vf]; exact own_nar8 _
        refine zbastore X171 hx hby at_210 hZ e171 A171_b1 (by decide) (by show Int32.toNatClampNeg 8 < 20; decide) vf hn_vf fun T172 h172 X172 e172 W172 A172_b1 => ?_
        change zLst Z h172 b1 .byte [(.int va), (.int 27), (.int ((e1v vs1).toInt8.toInt32)), (.int ((e2v vs1).toInt8.toInt32)), (.int 27), (.int ((e1v vs2).toInt8.toInt32)), (.int ((e2v vs2).toInt8.toInt32)), (.int ve), (.int vf), (.int 0), (.int 0), (.int 0), (.int 0), (.int 0), (.int 0), (.int 0), (.int 0), (.int 0), (.int 0), (.int 0)] at A172_b1
        have O172 := O171.wr W172 g1
        have N172 := Fr.snoc X172 N171 g1
        refine ziload X172 hx hby at_211 rfl (ziconst X172 hx hby at_213 (z := (2 : Int32)) rfl (ziadd X172 hx hby at_214 (9 : Int32) (by decide) (zistore X172 hx hby at_215 (L' := #[iv p1, iv p2, iv p3, iv p4, rv b1, iv 1, iv 9, iv 2, iv 7, iv 2, iv vc, .unset]) rfl (zgoto X172 hx hby at_217 251 (by decide) (by decide) (ziload X172 hx hby at_251 rfl (zistore X172 hx hby at_253 (L' := #[iv p1, iv p2, iv p3, iv p4, rv b1, iv 1, iv 9, iv 2, iv 7, iv 2, iv vc, iv 9]) rfl (zaload X172 hx hby at_255 rfl rfl (ziload X172 hx hby at_257 rfl (ziloadN X172 hx hby at_259 rfl ?_)))))))))
        show zEnds p e below s T172 (mkF m 260 #[iv p1, iv p2, iv p3, iv p4, rv b1, iv 1, iv 9, iv 2, iv 7, iv 2, iv vc, iv 9] [(.int p4), (.int 9), (.ref b1)]) _ _ _
        refine zi2b X172 hx hby at_260 (p4.toInt8.toInt32) rfl ?_
        show zEnds p e below s T172 (mkF m 261 #[iv p1, iv p2, iv p3, iv p4, rv b1, iv 1, iv 9, iv 2, iv 7, iv 2, iv vc, iv 9] [(.int (p4.toInt8.toInt32)), (.int 9), (.ref b1)]) _ _ _
        generalize e_vy : (p4.toInt8.toInt32) = vy
        have hn_vy : nar .byte vy = vy := by rw [← e_vy]; exact own_nar8 _
        refine zbastore X172 hx hby at_261 hZ e172 A172_b1 (by decide) (by show Int32.toNatClampNeg 9 < 20; decide) vy hn_vy fun T173 h173 X173 e173 W173 A173_b1 => ?_
        change zLst Z h173 b1 .byte [(.int va), (.int 27), (.int ((e1v vs1).toInt8.toInt32)), (.int ((e2v vs1).toInt8.toInt32)), (.int 27), (.int ((e1v vs2).toInt8.toInt32)), (.int ((e2v vs2).toInt8.toInt32)), (.int ve), (.int vf), (.int vy), (.int 0), (.int 0), (.int 0), (.int 0), (.int 0), (.int 0), (.int 0), (.int 0), (.int 0), (.int 0)] at A173_b1
        have O173 := O172.wr W173 g1
        have N173 := Fr.snoc X173 N172 g1
        refine zaload X173 hx hby at_262 rfl rfl (ziload X173 hx hby at_264 rfl (ziconst X173 hx hby at_266 (z := (1 : Int32)) rfl (ziadd X173 hx hby at_267 (10 : Int32) (by decide) (ziloadN X173 hx hby at_268 rfl (zbipush X173 hx hby at_269 (z := (8 : Int32)) rfl (ziushr X173 hx hby at_271 ((p4.toUInt32 >>> ((8 : Int32) &&& 31).toUInt32).toInt32) rfl (zi2b X173 hx hby at_272 (((p4.toUInt32 >>> ((8 : Int32) &&& 31).toUInt32).toInt32).toInt8.toInt32) rfl ?_)))))))
        show zEnds p e below s T173 (mkF m 273 #[iv p1, iv p2, iv p3, iv p4, rv b1, iv 1, iv 9, iv 2, iv 7, iv 2, iv vc, iv 9] [(.int (((p4.toUInt32 >>> ((8 : Int32) &&& 31).toUInt32).toInt32).toInt8.toInt32)), (.int 10), (.ref b1)]) _ _ _
        generalize e_vz : (((p4.toUInt32 >>> ((8 : Int32) &&& 31).toUInt32).toInt32).toInt8.toInt32) = vz
        have hn_vz : nar .byte vz = vz := by rw [← e_vz]; exact own_nar8 _
        refine zbastore X173 hx hby at_273 hZ e173 A173_b1 (by decide) (by show Int32.toNatClampNeg 10 < 20; decide) vz hn_vz fun T174 h174 X174 e174 W174 A174_b1 => ?_
        change zLst Z h174 b1 .byte [(.int va), (.int 27), (.int ((e1v vs1).toInt8.toInt32)), (.int ((e2v vs1).toInt8.toInt32)), (.int 27), (.int ((e1v vs2).toInt8.toInt32)), (.int ((e2v vs2).toInt8.toInt32)), (.int ve), (.int vf), (.int vy), (.int vz), (.int 0), (.int 0), (.int 0), (.int 0), (.int 0), (.int 0), (.int 0), (.int 0), (.int 0)] at A174_b1
        have O174 := O173.wr W174 g1
        have N174 := Fr.snoc X174 N173 g1
        refine zaload X174 hx hby at_274 rfl rfl (ziload X174 hx hby at_276 rfl (ziload X174 hx hby at_278 rfl (zcalls X174 hx hby at_280 hZ hown (w6 hw) (w7 hw) (w8 hw) (w9 hw) e174 (c75_firstCharacter l hw [] ⟨S_w_arr0, A_w_arr0, Al_w_arr0⟩ O174 (zsz O174) b1 va ((e1v vs1).toInt8.toInt32) ((e2v vs1).toInt8.toInt32) ((e1v vs2).toInt8.toInt32) ((e2v vs2).toInt8.toInt32) ve vf vy vz g1 A174_b1 h27_ve) hml 0 pd_0 (argsL := [(.ref b1), (.int 1), (.int 9)]) (st := []) (zpureK ⟨rfl, rfl⟩ fun T175 X175 e175 => ?_))))
        show zEnds p e below s T175 (mkF m 283 #[iv p1, iv p2, iv p3, iv p4, rv b1, iv 1, iv 9, iv 2, iv 7, iv 2, iv vc, iv 9] [(.int 7)]) _ _ _
        refine ziload X175 hx hby at_283 rfl (zicmpNo X175 hx hby at_285 (by decide) (ziconst X175 hx hby at_288 (z := (1 : Int32)) rfl (zgoto X175 hx hby at_289 293 (by decide) (by decide) ?_)))
        show zEnds p e below s T175 (mkF m 293 #[iv p1, iv p2, iv p3, iv p4, rv b1, iv 1, iv 9, iv 2, iv 7, iv 2, iv vc, iv 9] [(.int 1)]) _ _ _
        exact zretZ X175 hx hby at_293 hret hlk (by simp) rfl (by decide) (by decide) ⟨rfl, N174⟩
      · rw [q160]
        refine zistore X159 hx hby at_108 (L' := #[iv p1, iv p2, iv p3, iv p4, rv b1, iv 1, iv 7, iv 2, iv 7, iv 3, .unset, .unset]) rfl (ziloadN X159 hx hby at_110 rfl (ziconst X159 hx hby at_111 (z := (2 : Int32)) rfl (ziushr X159 hx hby at_112 ((p2.toUInt32 >>> ((2 : Int32) &&& 31).toUInt32).toInt32) rfl (zbipush X159 hx hby at_113 (z := (127 : Int32)) rfl (ziand X159 hx hby at_115 (((p2.toUInt32 >>> ((2 : Int32) &&& 31).toUInt32).toInt32) &&& (127 : Int32)) rfl ?_)))))
        show zEnds p e below s T159 (mkF m 116 #[iv p1, iv p2, iv p3, iv p4, rv b1, iv 1, iv 7, iv 2, iv 7, iv 3, .unset, .unset] [(.int (((p2.toUInt32 >>> ((2 : Int32) &&& 31).toUInt32).toInt32) &&& (127 : Int32)))]) _ _ _
        generalize e_vc : (((p2.toUInt32 >>> ((2 : Int32) &&& 31).toUInt32).toInt32) &&& (127 : Int32)) = vc
        have kc : 0 ≤ vc.toInt ∧ vc.toInt ≤ 127 := by rw [← e_vc]; exact own_c _
        refine zistore X159 hx hby at_116 (L' := #[iv p1, iv p2, iv p3, iv p4, rv b1, iv 1, iv 7, iv 2, iv 7, iv 3, iv vc, .unset]) rfl (ziload X159 hx hby at_118 rfl (ziconst X159 hx hby at_120 (z := (1 : Int32)) rfl (zicmpNo X159 hx hby at_121 (by decide) (ziload X159 hx hby at_124 rfl (ziconst X159 hx hby at_126 (z := (3 : Int32)) rfl (zicmpNo X159 hx hby at_127 (by decide) (ziload X159 hx hby at_130 rfl (zbipush X159 hx hby at_132 (z := (27 : Int32)) rfl ?_))))))))
        show zEnds p e below s T159 (mkF m 134 #[iv p1, iv p2, iv p3, iv p4, rv b1, iv 1, iv 7, iv 2, iv 7, iv 3, iv vc, .unset] [(.int 27), (.int vc)]) _ _ _
        by_cases hc27 : vc = (27 : Int32)
        · show zEnds p e below s T159 (mkF m 134 #[iv p1, iv p2, iv p3, iv p4, rv b1, iv 1, iv 7, iv 2, iv 7, iv 3, iv vc, .unset] [(.int 27), (.int vc)]) _ _ _
          refine zicmpNo X159 hx hby at_134 (teq hc27).2 (ziconst X159 hx hby at_137 (z := (0 : Int32)) rfl (zistore X159 hx hby at_138 (L' := #[iv p1, iv p2, iv p3, iv p4, rv b1, iv 1, iv 7, iv 2, iv 7, iv 0, iv vc, .unset]) rfl (ziload X159 hx hby at_140 rfl (ziconst X159 hx hby at_142 (z := (1 : Int32)) rfl (zicmpYes X159 hx hby at_143 163 (by decide) (by decide) (by decide) (ziload X159 hx hby at_163 rfl (ziconst X159 hx hby at_165 (z := (2 : Int32)) rfl (zicmpYes X159 hx hby at_166 220 (by decide) (by decide) (by decide) (ziload X159 hx hby at_220 rfl ?_)))))))))
          show zEnds p e below s T159 (mkF m 222 #[iv p1, iv p2, iv p3, iv p4, rv b1, iv 1, iv 7, iv 2, iv 7, iv 0, iv vc, .unset] [(.int 0)]) _ _ _
          refine ziconst X159 hx hby at_222 (z := (3 : Int32)) rfl (zicmpYes X159 hx hby at_223 251 (by decide) (by decide) (by decide) (ziload X159 hx hby at_251 rfl (zistore X159 hx hby at_253 (L' := #[iv p1, iv p2, iv p3, iv p4, rv b1, iv 1, iv 7, iv 2, iv 7, iv 0, iv vc, iv 7]) rfl (zaload X159 hx hby at_255 rfl rfl (ziload X159 hx hby at_257 rfl (ziloadN X159 hx hby at_259 rfl (zi2b X159 hx hby at_260 (p4.toInt8.toInt32) rfl ?_)))))))
          show zEnds p e below s T159 (mkF m 261 #[iv p1, iv p2, iv p3, iv p4, rv b1, iv 1, iv 7, iv 2, iv 7, iv 0, iv vc, iv 7] [(.int (p4.toInt8.toInt32)), (.int 7), (.ref b1)]) _ _ _
          generalize e_vy : (p4.toInt8.toInt32) = vy
          have hn_vy : nar .byte vy = vy := by rw [← e_vy]; exact own_nar8 _
          refine zbastore X159 hx hby at_261 hZ e159 A159_b1 (by decide) (by show Int32.toNatClampNeg 7 < 20; decide) vy hn_vy fun T176 h176 X176 e176 W176 A176_b1 => ?_
          change zLst Z h176 b1 .byte [(.int va), (.int 27), (.int ((e1v vs1).toInt8.toInt32)), (.int ((e2v vs1).toInt8.toInt32)), (.int 27), (.int ((e1v vs2).toInt8.toInt32)), (.int ((e2v vs2).toInt8.toInt32)), (.int vy), (.int 0), (.int 0), (.int 0), (.int 0), (.int 0), (.int 0), (.int 0), (.int 0), (.int 0), (.int 0), (.int 0), (.int 0)] at A176_b1
          have O176 := O159.wr W176 g1
          have N176 := Fr.snoc X176 N159 g1
          refine zaload X176 hx hby at_262 rfl rfl (ziload X176 hx hby at_264 rfl (ziconst X176 hx hby at_266 (z := (1 : Int32)) rfl (ziadd X176 hx hby at_267 (8 : Int32) (by decide) (ziloadN X176 hx hby at_268 rfl (zbipush X176 hx hby at_269 (z := (8 : Int32)) rfl (ziushr X176 hx hby at_271 ((p4.toUInt32 >>> ((8 : Int32) &&& 31).toUInt32).toInt32) rfl (zi2b X176 hx hby at_272 (((p4.toUInt32 >>> ((8 : Int32) &&& 31).toUInt32).toInt32).toInt8.toInt32) rfl ?_)))))))
          show zEnds p e below s T176 (mkF m 273 #[iv p1, iv p2, iv p3, iv p4, rv b1, iv 1, iv 7, iv 2, iv 7, iv 0, iv vc, iv 7] [(.int (((p4.toUInt32 >>> ((8 : Int32) &&& 31).toUInt32).toInt32).toInt8.toInt32)), (.int 8), (.ref b1)]) _ _ _
          generalize e_vz : (((p4.toUInt32 >>> ((8 : Int32) &&& 31).toUInt32).toInt32).toInt8.toInt32) = vz
          have hn_vz : nar .byte vz = vz := by rw [← e_vz]; exact own_nar8 _
          refine zbastore X176 hx hby at_273 hZ e176 A176_b1 (by decide) (by show Int32.toNatClampNeg 8 < 20; decide) vz hn_vz fun T177 h177 X177 e177 W177 A177_b1 => ?_
          change zLst Z h177 b1 .byte [(.int va), (.int 27), (.int ((e1v vs1).toInt8.toInt32)), (.int ((e2v vs1).toInt8.toInt32)), (.int 27), (.int ((e1v vs2).toInt8.toInt32)), (.int ((e2v vs2).toInt8.toInt32)), (.int vy), (.int vz), (.int 0), (.int 0), (.int 0), (.int 0), (.int 0), (.int 0), (.int 0), (.int 0), (.int 0), (.int 0), (.int 0)] at A177_b1
          have O177 := O176.wr W177 g1
          have N177 := Fr.snoc X177 N176 g1
          refine zaload X177 hx hby at_274 rfl rfl (ziload X177 hx hby at_276 rfl (ziload X177 hx hby at_278 rfl (zcalls X177 hx hby at_280 hZ hown (w6 hw) (w7 hw) (w8 hw) (w9 hw) e177 (c71_firstCharacter l hw [] ⟨S_w_arr0, A_w_arr0, Al_w_arr0⟩ O177 (zsz O177) b1 va ((e1v vs1).toInt8.toInt32) ((e2v vs1).toInt8.toInt32) ((e1v vs2).toInt8.toInt32) ((e2v vs2).toInt8.toInt32) vy vz g1 A177_b1) hml 0 pd_0 (argsL := [(.ref b1), (.int 1), (.int 7)]) (st := []) (zpureK ⟨rfl, rfl⟩ fun T178 X178 e178 => ?_))))
          show zEnds p e below s T178 (mkF m 283 #[iv p1, iv p2, iv p3, iv p4, rv b1, iv 1, iv 7, iv 2, iv 7, iv 0, iv vc, iv 7] [(.int 7)]) _ _ _
          refine ziload X178 hx hby at_283 rfl (zicmpNo X178 hx hby at_285 (by decide) (ziconst X178 hx hby at_288 (z := (1 : Int32)) rfl (zgoto X178 hx hby at_289 293 (by decide) (by decide) ?_)))
          show zEnds p e below s T178 (mkF m 293 #[iv p1, iv p2, iv p3, iv p4, rv b1, iv 1, iv 7, iv 2, iv 7, iv 0, iv vc, iv 7] [(.int 1)]) _ _ _
          exact zretZ X178 hx hby at_293 hret hlk (by simp) rfl (by decide) (by decide) ⟨rfl, N177⟩
        · show zEnds p e below s T159 (mkF m 134 #[iv p1, iv p2, iv p3, iv p4, rv b1, iv 1, iv 7, iv 2, iv 7, iv 3, iv vc, .unset] [(.int 27), (.int vc)]) _ _ _
          refine zicmpYes X159 hx hby at_134 140 (feq hc27).2 (by decide) (by decide) (ziload X159 hx hby at_140 rfl (ziconst X159 hx hby at_142 (z := (1 : Int32)) rfl (zicmpYes X159 hx hby at_143 163 (by decide) (by decide) (by decide) (ziload X159 hx hby at_163 rfl (ziconst X159 hx hby at_165 (z := (2 : Int32)) rfl (zicmpYes X159 hx hby at_166 220 (by decide) (by decide) (by decide) (ziload X159 hx hby at_220 rfl (ziconst X159 hx hby at_222 (z := (3 : Int32)) rfl (zicmpNo X159 hx hby at_223 (by decide) ?_)))))))))
          show zEnds p e below s T159 (mkF m 226 #[iv p1, iv p2, iv p3, iv p4, rv b1, iv 1, iv 7, iv 2, iv 7, iv 3, iv vc, .unset] []) _ _ _
          refine zaload X159 hx hby at_226 rfl rfl (ziload X159 hx hby at_228 rfl (ziload X159 hx hby at_230 rfl (zi2b X159 hx hby at_232 (vc.toInt8.toInt32) rfl ?_)))
          show zEnds p e below s T159 (mkF m 233 #[iv p1, iv p2, iv p3, iv p4, rv b1, iv 1, iv 7, iv 2, iv 7, iv 3, iv vc, .unset] [(.int (vc.toInt8.toInt32)), (.int 7), (.ref b1)]) _ _ _
          generalize e_vg : (vc.toInt8.toInt32) = vg
          have hn_vg : nar .byte vg = vg := by rw [← e_vg]; exact own_nar8 _
          have h27_vg : ¬ (vg = (27 : Int32)) := by rw [← e_vg]; exact own_27 kc hc27
          refine zbastore X159 hx hby at_233 hZ e159 A159_b1 (by decide) (by show Int32.toNatClampNeg 7 < 20; decide) vg hn_vg fun T179 h179 X179 e179 W179 A179_b1 => ?_
          change zLst Z h179 b1 .byte [(.int va), (.int 27), (.int ((e1v vs1).toInt8.toInt32)), (.int ((e2v vs1).toInt8.toInt32)), (.int 27), (.int ((e1v vs2).toInt8.toInt32)), (.int ((e2v vs2).toInt8.toInt32)), (.int vg), (.int 0), (.int 0), (.int 0), (.int 0), (.int 0), (.int 0), (.int 0), (.int 0), (.int 0), (.int 0), (.int 0), (.int 0)] at A179_b1
          have O179 := O159.wr W179 g1
          have N179 := Fr.snoc X179 N159 g1
          refine zaload X179 hx hby at_234 rfl rfl (ziload X179 hx hby at_236 rfl (ziconst X179 hx hby at_238 (z := (1 : Int32)) rfl (ziadd X179 hx hby at_239 (8 : Int32) (by decide) (ziloadN X179 hx hby at_240 rfl (zbipush X179 hx hby at_241 (z := (9 : Int32)) rfl (ziushr X179 hx hby at_243 ((p2.toUInt32 >>> ((9 : Int32) &&& 31).toUInt32).toInt32) rfl (ziconst X179 hx hby at_244 (z := (3 : Int32)) rfl (ziand X179 hx hby at_245 (((p2.toUInt32 >>> ((9 : Int32) &&& 31).toUInt32).toInt32) &&& (3 : Int32)) rfl ?_))))))))
          show zEnds p e below s T179 (mkF m 246 #[iv p1, iv p2, iv p3, iv p4, rv b1, iv 1, iv 7, iv 2, iv 7, iv 3, iv vc, .unset] [(.int (((p2.toUInt32 >>> ((9 : Int32) &&& 31).toUInt32).toInt32) &&& (3 : Int32))), (.int 8), (.ref b1)]) _ _ _
          generalize e_vs4 : (((p2.toUInt32 >>> ((9 : Int32) &&& 31).toUInt32).toInt32) &&& (3 : Int32)) = vs4
          refine zcalls X179 hx hby at_246 hZ hown (w2 hw) (w3 hw) (w4 hw) (w5 hw) e179 (c77_esc l hw [] ⟨S_w_arr0, A_w_arr0, Al_w_arr0⟩ O179 (zsz O179) vs4 b1 va (27 : Int32) ((e1v vs1).toInt8.toInt32) ((e2v vs1).toInt8.toInt32) (27 : Int32) ((e1v vs2).toInt8.toInt32) ((e2v vs2).toInt8.toInt32) vg (0 : Int32) (0 : Int32) (0 : Int32) (0 : Int32) (0 : Int32) (0 : Int32) (0 : Int32) (0 : Int32) (0 : Int32) (0 : Int32) (0 : Int32) (0 : Int32) g1 A179_b1 h27_vg) hml 0 pd_0 (argsL := [(.ref b1), (.int 8), (.int vs4)]) (st := []) fun T180 h180 v180 L180 e180 X180 q180 => ?_
          obtain ⟨rfl, N180q, K180q, A180_b1⟩ := q180
          have O180 := O179.keep K180q (allS g1 all0)
          have N180 := Fr.app N179 N180q
          show zEnds p e below s T180 (mkF m 249 #[iv p1, iv p2, iv p3, iv p4, rv b1, iv 1, iv 7, iv 2, iv 7, iv 3, iv vc, .unset] [(.int 11)]) _ _ _
          refine zistore X180 hx hby at_249 (L' := #[iv p1, iv p2, iv p3, iv p4, rv b1, iv 1, iv 11, iv 2, iv 7, iv 3, iv vc, .unset]) rfl (ziload X180 hx hby at_251 rfl (zistore X180 hx hby at_253 (L' := #[iv p1, iv p2, iv p3, iv p4, rv b1, iv 1, iv 11, iv 2, iv 7, iv 3, iv vc, iv 11]) rfl (zaload X180 hx hby at_255 rfl rfl (ziload X180 hx hby at_257 rfl (ziloadN X180 hx hby at_259 rfl (zi2b X180 hx hby at_260 (p4.toInt8.toInt32) rfl ?_))))))
          show zEnds p e below s T180 (mkF m 261 #[iv p1, iv p2, iv p3, iv p4, rv b1, iv 1, iv 11, iv 2, iv 7, iv 3, iv vc, iv 11] [(.int (p4.toInt8.toInt32)), (.int 11), (.ref b1)]) _ _ _
          generalize e_vy : (p4.toInt8.toInt32) = vy
          have hn_vy : nar .byte vy = vy := by rw [← e_vy]; exact own_nar8 _
          refine zbastore X180 hx hby at_261 hZ e180 A180_b1 (by decide) (by show Int32.toNatClampNeg 11 < 20; decide) vy hn_vy fun T181 h181 X181 e181 W181 A181_b1 => ?_
          change zLst Z h181 b1 .byte [(.int va), (.int 27), (.int ((e1v vs1).toInt8.toInt32)), (.int ((e2v vs1).toInt8.toInt32)), (.int 27), (.int ((e1v vs2).toInt8.toInt32)), (.int ((e2v vs2).toInt8.toInt32)), (.int vg), (.int 27), (.int ((e1v vs4).toInt8.toInt32)), (.int ((e2v vs4).toInt8.toInt32)), (.int vy), (.int 0), (.int 0), (.int 0), (.int 0), (.int 0), (.int 0), (.int 0), (.int 0)] at A181_b1
          have O181 := O180.wr W181 g1
          have N181 := Fr.snoc X181 N180 g1
          refine zaload X181 hx hby at_262 rfl rfl (ziload X181 hx hby at_264 rfl (ziconst X181 hx hby at_266 (z := (1 : Int32)) rfl (ziadd X181 hx hby at_267 (12 : Int32) (by decide) (ziloadN X181 hx hby at_268 rfl (zbipush X181 hx hby at_269 (z := (8 : Int32)) rfl (ziushr X181 hx hby at_271 ((p4.toUInt32 >>> ((8 : Int32) &&& 31).toUInt32).toInt32) rfl (zi2b X181 hx hby at_272 (((p4.toUInt32 >>> ((8 : Int32) &&& 31).toUInt32).toInt32).toInt8.toInt32) rfl ?_)))))))
          show zEnds p e below s T181 (mkF m 273 #[iv p1, iv p2, iv p3, iv p4, rv b1, iv 1, iv 11, iv 2, iv 7, iv 3, iv vc, iv 11] [(.int (((p4.toUInt32 >>> ((8 : Int32) &&& 31).toUInt32).toInt32).toInt8.toInt32)), (.int 12), (.ref b1)]) _ _ _
          generalize e_vz : (((p4.toUInt32 >>> ((8 : Int32) &&& 31).toUInt32).toInt32).toInt8.toInt32) = vz
          have hn_vz : nar .byte vz = vz := by rw [← e_vz]; exact own_nar8 _
          refine zbastore X181 hx hby at_273 hZ e181 A181_b1 (by decide) (by show Int32.toNatClampNeg 12 < 20; decide) vz hn_vz fun T182 h182 X182 e182 W182 A182_b1 => ?_
          change zLst Z h182 b1 .byte [(.int va), (.int 27), (.int ((e1v vs1).toInt8.toInt32)), (.int ((e2v vs1).toInt8.toInt32)), (.int 27), (.int ((e1v vs2).toInt8.toInt32)), (.int ((e2v vs2).toInt8.toInt32)), (.int vg), (.int 27), (.int ((e1v vs4).toInt8.toInt32)), (.int ((e2v vs4).toInt8.toInt32)), (.int vy), (.int vz), (.int 0), (.int 0), (.int 0), (.int 0), (.int 0), (.int 0), (.int 0)] at A182_b1
          have O182 := O181.wr W182 g1
          have N182 := Fr.snoc X182 N181 g1
          refine zaload X182 hx hby at_274 rfl rfl (ziload X182 hx hby at_276 rfl (ziload X182 hx hby at_278 rfl (zcalls X182 hx hby at_280 hZ hown (w6 hw) (w7 hw) (w8 hw) (w9 hw) e182 (c79_firstCharacter l hw [] ⟨S_w_arr0, A_w_arr0, Al_w_arr0⟩ O182 (zsz O182) b1 va ((e1v vs1).toInt8.toInt32) ((e2v vs1).toInt8.toInt32) ((e1v vs2).toInt8.toInt32) ((e2v vs2).toInt8.toInt32) vg ((e1v vs4).toInt8.toInt32) ((e2v vs4).toInt8.toInt32) vy vz g1 A182_b1 h27_vg) hml 0 pd_0 (argsL := [(.ref b1), (.int 1), (.int 11)]) (st := []) (zpureK ⟨rfl, rfl⟩ fun T183 X183 e183 => ?_))))
          show zEnds p e below s T183 (mkF m 283 #[iv p1, iv p2, iv p3, iv p4, rv b1, iv 1, iv 11, iv 2, iv 7, iv 3, iv vc, iv 11] [(.int 7)]) _ _ _
          refine ziload X183 hx hby at_283 rfl (zicmpNo X183 hx hby at_285 (by decide) (ziconst X183 hx hby at_288 (z := (1 : Int32)) rfl (zgoto X183 hx hby at_289 293 (by decide) (by decide) ?_)))
          show zEnds p e below s T183 (mkF m 293 #[iv p1, iv p2, iv p3, iv p4, rv b1, iv 1, iv 11, iv 2, iv 7, iv 3, iv vc, iv 11] [(.int 1)]) _ _ _
          exact zretZ X183 hx hby at_293 hret hlk (by simp) rfl (by decide) (by decide) ⟨rfl, N182⟩
    · rw [q108]
      refine zistore X3 hx hby at_39 (L' := #[iv p1, iv p2, iv p3, iv p4, rv b1, iv 1, iv 1, iv 3, .unset, .unset, .unset, .unset]) rfl (ziload X3 hx hby at_41 rfl (zifNo X3 hx hby at_43 (by decide) (zaload X3 hx hby at_46 rfl rfl (ziload X3 hx hby at_48 rfl (ziloadN X3 hx hby at_50 rfl (ziconst X3 hx hby at_51 (z := (2 : Int32)) rfl (ziushr X3 hx hby at_52 ((p1.toUInt32 >>> ((2 : Int32) &&& 31).toUInt32).toInt32) rfl (ziconst X3 hx hby at_53 (z := (3 : Int32)) rfl (ziand X3 hx hby at_54 (((p1.toUInt32 >>> ((2 : Int32) &&& 31).toUInt32).toInt32) &&& (3 : Int32)) rfl ?_)))))))))
      show zEnds p e below s T3 (mkF m 55 #[iv p1, iv p2, iv p3, iv p4, rv b1, iv 1, iv 1, iv 3, .unset, .unset, .unset, .unset] [(.int (((p1.toUInt32 >>> ((2 : Int32) &&& 31).toUInt32).toInt32) &&& (3 : Int32))), (.int 1), (.ref b1)]) _ _ _
      generalize e_vs1 : (((p1.toUInt32 >>> ((2 : Int32) &&& 31).toUInt32).toInt32) &&& (3 : Int32)) = vs1
      refine zcalls X3 hx hby at_55 hZ hown (w2 hw) (w3 hw) (w4 hw) (w5 hw) e3 (c57_esc l hw [] ⟨S_w_arr0, A_w_arr0, Al_w_arr0⟩ O3 (zsz O3) vs1 b1 va vb (0 : Int32) (0 : Int32) (0 : Int32) (0 : Int32) (0 : Int32) (0 : Int32) (0 : Int32) (0 : Int32) (0 : Int32) (0 : Int32) (0 : Int32) (0 : Int32) (0 : Int32) (0 : Int32) (0 : Int32) (0 : Int32) (0 : Int32) (0 : Int32) g1 A3_b1) hml 0 pd_0 (argsL := [(.ref b1), (.int 1), (.int vs1)]) (st := []) fun T184 h184 v184 L184 e184 X184 q184 => ?_
      obtain ⟨rfl, N184q, K184q, A184_b1⟩ := q184
      have O184 := O3.keep K184q (allS g1 all0)
      have N184 := Fr.app N3 N184q
      show zEnds p e below s T184 (mkF m 58 #[iv p1, iv p2, iv p3, iv p4, rv b1, iv 1, iv 1, iv 3, .unset, .unset, .unset, .unset] [(.int 4)]) _ _ _
      refine zistore X184 hx hby at_58 (L' := #[iv p1, iv p2, iv p3, iv p4, rv b1, iv 1, iv 4, iv 3, .unset, .unset, .unset, .unset]) rfl (ziload X184 hx hby at_60 rfl (ziconst X184 hx hby at_62 (z := (1 : Int32)) rfl (zicmpNo X184 hx hby at_63 (by decide) (zaload X184 hx hby at_66 rfl rfl (ziload X184 hx hby at_68 rfl (ziloadN X184 hx hby at_70 rfl (ziconst X184 hx hby at_71 (z := (4 : Int32)) rfl (ziushr X184 hx hby at_72 ((p1.toUInt32 >>> ((4 : Int32) &&& 31).toUInt32).toInt32) rfl (ziconst X184 hx hby at_73 (z := (3 : Int32)) rfl ?_)))))))))
      show zEnds p e below s T184 (mkF m 74 #[iv p1, iv p2, iv p3, iv p4, rv b1, iv 1, iv 4, iv 3, .unset, .unset, .unset, .unset] [(.int 3), (.int ((p1.toUInt32 >>> ((4 : Int32) &&& 31).toUInt32).toInt32)), (.int 4), (.ref b1)]) _ _ _
      refine ziand X184 hx hby at_74 (((p1.toUInt32 >>> ((4 : Int32) &&& 31).toUInt32).toInt32) &&& (3 : Int32)) rfl ?_
      show zEnds p e below s T184 (mkF m 75 #[iv p1, iv p2, iv p3, iv p4, rv b1, iv 1, iv 4, iv 3, .unset, .unset, .unset, .unset] [(.int (((p1.toUInt32 >>> ((4 : Int32) &&& 31).toUInt32).toInt32) &&& (3 : Int32))), (.int 4), (.ref b1)]) _ _ _
      generalize e_vs2 : (((p1.toUInt32 >>> ((4 : Int32) &&& 31).toUInt32).toInt32) &&& (3 : Int32)) = vs2
      refine zcalls X184 hx hby at_75 hZ hown (w2 hw) (w3 hw) (w4 hw) (w5 hw) e184 (c69_esc l hw [] ⟨S_w_arr0, A_w_arr0, Al_w_arr0⟩ O184 (zsz O184) vs2 b1 va (27 : Int32) ((e1v vs1).toInt8.toInt32) ((e2v vs1).toInt8.toInt32) (0 : Int32) (0 : Int32) (0 : Int32) (0 : Int32) (0 : Int32) (0 : Int32) (0 : Int32) (0 : Int32) (0 : Int32) (0 : Int32) (0 : Int32) (0 : Int32) (0 : Int32) (0 : Int32) (0 : Int32) (0 : Int32) g1 A184_b1) hml 0 pd_0 (argsL := [(.ref b1), (.int 4), (.int vs2)]) (st := []) fun T185 h185 v185 L185 e185 X185 q185 => ?_
      obtain ⟨rfl, N185q, K185q, A185_b1⟩ := q185
      have O185 := O184.keep K185q (allS g1 all0)
      have N185 := Fr.app N184 N185q
      show zEnds p e below s T185 (mkF m 78 #[iv p1, iv p2, iv p3, iv p4, rv b1, iv 1, iv 4, iv 3, .unset, .unset, .unset, .unset] [(.int 7)]) _ _ _
      refine zistore X185 hx hby at_78 (L' := #[iv p1, iv p2, iv p3, iv p4, rv b1, iv 1, iv 7, iv 3, .unset, .unset, .unset, .unset]) rfl (ziload X185 hx hby at_80 rfl (ziconst X185 hx hby at_82 (z := (2 : Int32)) rfl (zicmpNo X185 hx hby at_83 (by decide) (zaload X185 hx hby at_86 rfl rfl (ziload X185 hx hby at_88 rfl (ziloadN X185 hx hby at_90 rfl (zbipush X185 hx hby at_91 (z := (6 : Int32)) rfl (ziushr X185 hx hby at_93 ((p1.toUInt32 >>> ((6 : Int32) &&& 31).toUInt32).toInt32) rfl (ziconst X185 hx hby at_94 (z := (3 : Int32)) rfl ?_)))))))))
      show zEnds p e below s T185 (mkF m 95 #[iv p1, iv p2, iv p3, iv p4, rv b1, iv 1, iv 7, iv 3, .unset, .unset, .unset, .unset] [(.int 3), (.int ((p1.toUInt32 >>> ((6 : Int32) &&& 31).toUInt32).toInt32)), (.int 7), (.ref b1)]) _ _ _
      refine ziand X185 hx hby at_95 (((p1.toUInt32 >>> ((6 : Int32) &&& 31).toUInt32).toInt32) &&& (3 : Int32)) rfl ?_
      show zEnds p e below s T185 (mkF m 96 #[iv p1, iv p2, iv p3, iv p4, rv b1, iv 1, iv 7, iv 3, .unset, .unset, .unset, .unset] [(.int (((p1.toUInt32 >>> ((6 : Int32) &&& 31).toUInt32).toInt32) &&& (3 : Int32))), (.int 7), (.ref b1)]) _ _ _
      generalize e_vs3 : (((p1.toUInt32 >>> ((6 : Int32) &&& 31).toUInt32).toInt32) &&& (3 : Int32)) = vs3
      refine zcalls X185 hx hby at_96 hZ hown (w2 hw) (w3 hw) (w4 hw) (w5 hw) e185 (c81_esc l hw [] ⟨S_w_arr0, A_w_arr0, Al_w_arr0⟩ O185 (zsz O185) vs3 b1 va (27 : Int32) ((e1v vs1).toInt8.toInt32) ((e2v vs1).toInt8.toInt32) (27 : Int32) ((e1v vs2).toInt8.toInt32) ((e2v vs2).toInt8.toInt32) (0 : Int32) (0 : Int32) (0 : Int32) (0 : Int32) (0 : Int32) (0 : Int32) (0 : Int32) (0 : Int32) (0 : Int32) (0 : Int32) (0 : Int32) (0 : Int32) (0 : Int32) g1 A185_b1) hml 0 pd_0 (argsL := [(.ref b1), (.int 7), (.int vs3)]) (st := []) fun T186 h186 v186 L186 e186 X186 q186 => ?_
      obtain ⟨rfl, N186q, K186q, A186_b1⟩ := q186
      have O186 := O185.keep K186q (allS g1 all0)
      have N186 := Fr.app N185 N186q
      show zEnds p e below s T186 (mkF m 99 #[iv p1, iv p2, iv p3, iv p4, rv b1, iv 1, iv 7, iv 3, .unset, .unset, .unset, .unset] [(.int 10)]) _ _ _
      refine zistore X186 hx hby at_99 (L' := #[iv p1, iv p2, iv p3, iv p4, rv b1, iv 1, iv 10, iv 3, .unset, .unset, .unset, .unset]) rfl (ziload X186 hx hby at_101 rfl (zistore X186 hx hby at_103 (L' := #[iv p1, iv p2, iv p3, iv p4, rv b1, iv 1, iv 10, iv 3, iv 10, .unset, .unset, .unset]) rfl (ziloadN X186 hx hby at_105 rfl (ziconst X186 hx hby at_106 (z := (3 : Int32)) rfl (ziand X186 hx hby at_107 (p2 &&& (3 : Int32)) rfl ?_)))))
      show zEnds p e below s T186 (mkF m 108 #[iv p1, iv p2, iv p3, iv p4, rv b1, iv 1, iv 10, iv 3, iv 10, .unset, .unset, .unset] [(.int (p2 &&& (3 : Int32)))]) _ _ _
      rcases (and_3 p2) with q187 | q187 | q187 | q187
      · rw [q187]
        refine zistore X186 hx hby at_108 (L' := #[iv p1, iv p2, iv p3, iv p4, rv b1, iv 1, iv 10, iv 3, iv 10, iv 0, .unset, .unset]) rfl (ziloadN X186 hx hby at_110 rfl (ziconst X186 hx hby at_111 (z := (2 : Int32)) rfl (ziushr X186 hx hby at_112 ((p2.toUInt32 >>> ((2 : Int32) &&& 31).toUInt32).toInt32) rfl (zbipush X186 hx hby at_113 (z := (127 : Int32)) rfl (ziand X186 hx hby at_115 (((p2.toUInt32 >>> ((2 : Int32) &&& 31).toUInt32).toInt32) &&& (127 : Int32)) rfl ?_)))))
        show zEnds p e below s T186 (mkF m 116 #[iv p1, iv p2, iv p3, iv p4, rv b1, iv 1, iv 10, iv 3, iv 10, iv 0, .unset, .unset] [(.int (((p2.toUInt32 >>> ((2 : Int32) &&& 31).toUInt32).toInt32) &&& (127 : Int32)))]) _ _ _
        generalize e_vc : (((p2.toUInt32 >>> ((2 : Int32) &&& 31).toUInt32).toInt32) &&& (127 : Int32)) = vc
        have kc : 0 ≤ vc.toInt ∧ vc.toInt ≤ 127 := by rw [← e_vc]; exact own_c _
        refine zistore X186 hx hby at_116 (L' := #[iv p1, iv p2, iv p3, iv p4, rv b1, iv 1, iv 10, iv 3, iv 10, iv 0, iv vc, .unset]) rfl (ziload X186 hx hby at_118 rfl (ziconst X186 hx hby at_120 (z := (1 : Int32)) rfl (zicmpNo X186 hx hby at_121 (by decide) (ziload X186 hx hby at_124 rfl (ziconst X186 hx hby at_126 (z := (3 : Int32)) rfl (zicmpYes X186 hx hby at_127 140 (by decide) (by decide) (by decide) (ziload X186 hx hby at_140 rfl (ziconst X186 hx hby at_142 (z := (1 : Int32)) rfl (zicmpYes X186 hx hby at_143 163 (by decide) (by decide) (by decide) ?_)))))))))
        show zEnds p e below s T186 (mkF m 163 #[iv p1, iv p2, iv p3, iv p4, rv b1, iv 1, iv 10, iv 3, iv 10, iv 0, iv vc, .unset] []) _ _ _
        refine ziload X186 hx hby at_163 rfl (ziconst X186 hx hby at_165 (z := (2 : Int32)) rfl (zicmpYes X186 hx hby at_166 220 (by decide) (by decide) (by decide) (ziload X186 hx hby at_220 rfl (ziconst X186 hx hby at_222 (z := (3 : Int32)) rfl (zicmpYes X186 hx hby at_223 251 (by decide) (by decide) (by decide) (ziload X186 hx hby at_251 rfl (zistore X186 hx hby at_253 (L' := #[iv p1, iv p2, iv p3, iv p4, rv b1, iv 1, iv 10, iv 3, iv 10, iv 0, iv vc, iv 10]) rfl (zaload X186 hx hby at_255 rfl rfl (ziload X186 hx hby at_257 rfl ?_)))))))))
        show zEnds p e below s T186 (mkF m 259 #[iv p1, iv p2, iv p3, iv p4, rv b1, iv 1, iv 10, iv 3, iv 10, iv 0, iv vc, iv 10] [(.int 10), (.ref b1)]) _ _ _
        refine ziloadN X186 hx hby at_259 rfl (zi2b X186 hx hby at_260 (p4.toInt8.toInt32) rfl ?_)
        show zEnds p e below s T186 (mkF m 261 #[iv p1, iv p2, iv p3, iv p4, rv b1, iv 1, iv 10, iv 3, iv 10, iv 0, iv vc, iv 10] [(.int (p4.toInt8.toInt32)), (.int 10), (.ref b1)]) _ _ _
        generalize e_vy : (p4.toInt8.toInt32) = vy
        have hn_vy : nar .byte vy = vy := by rw [← e_vy]; exact own_nar8 _
        refine zbastore X186 hx hby at_261 hZ e186 A186_b1 (by decide) (by show Int32.toNatClampNeg 10 < 20; decide) vy hn_vy fun T188 h188 X188 e188 W188 A188_b1 => ?_
        change zLst Z h188 b1 .byte [(.int va), (.int 27), (.int ((e1v vs1).toInt8.toInt32)), (.int ((e2v vs1).toInt8.toInt32)), (.int 27), (.int ((e1v vs2).toInt8.toInt32)), (.int ((e2v vs2).toInt8.toInt32)), (.int 27), (.int ((e1v vs3).toInt8.toInt32)), (.int ((e2v vs3).toInt8.toInt32)), (.int vy), (.int 0), (.int 0), (.int 0), (.int 0), (.int 0), (.int 0), (.int 0), (.int 0), (.int 0)] at A188_b1
        have O188 := O186.wr W188 g1
        have N188 := Fr.snoc X188 N186 g1
        refine zaload X188 hx hby at_262 rfl rfl (ziload X188 hx hby at_264 rfl (ziconst X188 hx hby at_266 (z := (1 : Int32)) rfl (ziadd X188 hx hby at_267 (11 : Int32) (by decide) (ziloadN X188 hx hby at_268 rfl (zbipush X188 hx hby at_269 (z := (8 : Int32)) rfl (ziushr X188 hx hby at_271 ((p4.toUInt32 >>> ((8 : Int32) &&& 31).toUInt32).toInt32) rfl (zi2b X188 hx hby at_272 (((p4.toUInt32 >>> ((8 : Int32) &&& 31).toUInt32).toInt32).toInt8.toInt32) rfl ?_)))))))
        show zEnds p e below s T188 (mkF m 273 #[iv p1, iv p2, iv p3, iv p4, rv b1, iv 1, iv 10, iv 3, iv 10, iv 0, iv vc, iv 10] [(.int (((p4.toUInt32 >>> ((8 : Int32) &&& 31).toUInt32).toInt32).toInt8.toInt32)), (.int 11), (.ref b1)]) _ _ _
        generalize e_vz : (((p4.toUInt32 >>> ((8 : Int32) &&& 31).toUInt32).toInt32).toInt8.toInt32) = vz
        have hn_vz : nar .byte vz = vz := by rw [← e_vz]; exact own_nar8 _
        refine zbastore X188 hx hby at_273 hZ e188 A188_b1 (by decide) (by show Int32.toNatClampNeg 11 < 20; decide) vz hn_vz fun T189 h189 X189 e189 W189 A189_b1 => ?_
        change zLst Z h189 b1 .byte [(.int va), (.int 27), (.int ((e1v vs1).toInt8.toInt32)), (.int ((e2v vs1).toInt8.toInt32)), (.int 27), (.int ((e1v vs2).toInt8.toInt32)), (.int ((e2v vs2).toInt8.toInt32)), (.int 27), (.int ((e1v vs3).toInt8.toInt32)), (.int ((e2v vs3).toInt8.toInt32)), (.int vy), (.int vz), (.int 0), (.int 0), (.int 0), (.int 0), (.int 0), (.int 0), (.int 0), (.int 0)] at A189_b1
        have O189 := O188.wr W189 g1
        have N189 := Fr.snoc X189 N188 g1
        refine zaload X189 hx hby at_274 rfl rfl (ziload X189 hx hby at_276 rfl (ziload X189 hx hby at_278 rfl (zcalls X189 hx hby at_280 hZ hown (w6 hw) (w7 hw) (w8 hw) (w9 hw) e189 (c83_firstCharacter l hw [] ⟨S_w_arr0, A_w_arr0, Al_w_arr0⟩ O189 (zsz O189) b1 va ((e1v vs1).toInt8.toInt32) ((e2v vs1).toInt8.toInt32) ((e1v vs2).toInt8.toInt32) ((e2v vs2).toInt8.toInt32) ((e1v vs3).toInt8.toInt32) ((e2v vs3).toInt8.toInt32) vy vz g1 A189_b1) hml 0 pd_0 (argsL := [(.ref b1), (.int 1), (.int 10)]) (st := []) (zpureK ⟨rfl, rfl⟩ fun T190 X190 e190 => ?_))))
        show zEnds p e below s T190 (mkF m 283 #[iv p1, iv p2, iv p3, iv p4, rv b1, iv 1, iv 10, iv 3, iv 10, iv 0, iv vc, iv 10] [(.int 10)]) _ _ _
        refine ziload X190 hx hby at_283 rfl (zicmpNo X190 hx hby at_285 (by decide) (ziconst X190 hx hby at_288 (z := (1 : Int32)) rfl (zgoto X190 hx hby at_289 293 (by decide) (by decide) ?_)))
        show zEnds p e below s T190 (mkF m 293 #[iv p1, iv p2, iv p3, iv p4, rv b1, iv 1, iv 10, iv 3, iv 10, iv 0, iv vc, iv 10] [(.int 1)]) _ _ _
        exact zretZ X190 hx hby at_293 hret hlk (by simp) rfl (by decide) (by decide) ⟨rfl, N189⟩
      · rw [q187]
        refine zistore X186 hx hby at_108 (L' := #[iv p1, iv p2, iv p3, iv p4, rv b1, iv 1, iv 10, iv 3, iv 10, iv 1, .unset, .unset]) rfl (ziloadN X186 hx hby at_110 rfl (ziconst X186 hx hby at_111 (z := (2 : Int32)) rfl (ziushr X186 hx hby at_112 ((p2.toUInt32 >>> ((2 : Int32) &&& 31).toUInt32).toInt32) rfl (zbipush X186 hx hby at_113 (z := (127 : Int32)) rfl (ziand X186 hx hby at_115 (((p2.toUInt32 >>> ((2 : Int32) &&& 31).toUInt32).toInt32) &&& (127 : Int32)) rfl ?_)))))
        show zEnds p e below s T186 (mkF m 116 #[iv p1, iv p2, iv p3, iv p4, rv b1, iv 1, iv 10, iv 3, iv 10, iv 1, .unset, .unset] [(.int (((p2.toUInt32 >>> ((2 : Int32) &&& 31).toUInt32).toInt32) &&& (127 : Int32)))]) _ _ _
        generalize e_vc : (((p2.toUInt32 >>> ((2 : Int32) &&& 31).toUInt32).toInt32) &&& (127 : Int32)) = vc
        have kc : 0 ≤ vc.toInt ∧ vc.toInt ≤ 127 := by rw [← e_vc]; exact own_c _
        refine zistore X186 hx hby at_116 (L' := #[iv p1, iv p2, iv p3, iv p4, rv b1, iv 1, iv 10, iv 3, iv 10, iv 1, iv vc, .unset]) rfl (ziload X186 hx hby at_118 rfl (ziconst X186 hx hby at_120 (z := (1 : Int32)) rfl (zicmpYes X186 hx hby at_121 130 (by decide) (by decide) (by decide) (ziload X186 hx hby at_130 rfl (zbipush X186 hx hby at_132 (z := (27 : Int32)) rfl ?_)))))
        show zEnds p e below s T186 (mkF m 134 #[iv p1, iv p2, iv p3, iv p4, rv b1, iv 1, iv 10, iv 3, iv 10, iv 1, iv vc, .unset] [(.int 27), (.int vc)]) _ _ _
        by_cases hc27 : vc = (27 : Int32)
        · show zEnds p e below s T186 (mkF m 134 #[iv p1, iv p2, iv p3, iv p4, rv b1, iv 1, iv 10, iv 3, iv 10, iv 1, iv vc, .unset] [(.int 27), (.int vc)]) _ _ _
          refine zicmpNo X186 hx hby at_134 (teq hc27).2 (ziconst X186 hx hby at_137 (z := (0 : Int32)) rfl (zistore X186 hx hby at_138 (L' := #[iv p1, iv p2, iv p3, iv p4, rv b1, iv 1, iv 10, iv 3, iv 10, iv 0, iv vc, .unset]) rfl (ziload X186 hx hby at_140 rfl (ziconst X186 hx hby at_142 (z := (1 : Int32)) rfl (zicmpYes X186 hx hby at_143 163 (by decide) (by decide) (by decide) (ziload X186 hx hby at_163 rfl (ziconst X186 hx hby at_165 (z := (2 : Int32)) rfl (zicmpYes X186 hx hby at_166 220 (by decide) (by decide) (by decide) (ziload X186 hx hby at_220 rfl ?_)))))))))
          show zEnds p e below s T186 (mkF m 222 #[iv p1, iv p2, iv p3, iv p4, rv b1, iv 1, iv 10, iv 3, iv 10, iv 0, iv vc, .unset] [(.int 0)]) _ _ _
          refine ziconst X186 hx hby at_222 (z := (3 : Int32)) rfl (zicmpYes X186 hx hby at_223 251 (by decide) (by decide) (by decide) (ziload X186 hx hby at_251 rfl (zistore X186 hx hby at_253 (L' := #[iv p1, iv p2, iv p3, iv p4, rv b1, iv 1, iv 10, iv 3, iv 10, iv 0, iv vc, iv 10]) rfl (zaload X186 hx hby at_255 rfl rfl (ziload X186 hx hby at_257 rfl (ziloadN X186 hx hby at_259 rfl (zi2b X186 hx hby at_260 (p4.toInt8.toInt32) rfl ?_)))))))
          show zEnds p e below s T186 (mkF m 261 #[iv p1, iv p2, iv p3, iv p4, rv b1, iv 1, iv 10, iv 3, iv 10, iv 0, iv vc, iv 10] [(.int (p4.toInt8.toInt32)), (.int 10), (.ref b1)]) _ _ _
          generalize e_vy : (p4.toInt8.toInt32) = vy
          have hn_vy : nar .byte vy = vy := by rw [← e_vy]; exact own_nar8 _
          refine zbastore X186 hx hby at_261 hZ e186 A186_b1 (by decide) (by show Int32.toNatClampNeg 10 < 20; decide) vy hn_vy fun T191 h191 X191 e191 W191 A191_b1 => ?_
          change zLst Z h191 b1 .byte [(.int va), (.int 27), (.int ((e1v vs1).toInt8.toInt32)), (.int ((e2v vs1).toInt8.toInt32)), (.int 27), (.int ((e1v vs2).toInt8.toInt32)), (.int ((e2v vs2).toInt8.toInt32)), (.int 27), (.int ((e1v vs3).toInt8.toInt32)), (.int ((e2v vs3).toInt8.toInt32)), (.int vy), (.int 0), (.int 0), (.int 0), (.int 0), (.int 0), (.int 0), (.int 0), (.int 0), (.int 0)] at A191_b1
          have O191 := O186.wr W191 g1
          have N191 := Fr.snoc X191 N186 g1
          refine zaload X191 hx hby at_262 rfl rfl (ziload X191 hx hby at_264 rfl (ziconst X191 hx hby at_266 (z := (1 : Int32)) rfl (ziadd X191 hx hby at_267 (11 : Int32) (by decide) (ziloadN X191 hx hby at_268 rfl (zbipush X191 hx hby at_269 (z := (8 : Int32)) rfl (ziushr X191 hx hby at_271 ((p4.toUInt32 >>> ((8 : Int32) &&& 31).toUInt32).toInt32) rfl (zi2b X191 hx hby at_272 (((p4.toUInt32 >>> ((8 : Int32) &&& 31).toUInt32).toInt32).toInt8.toInt32) rfl ?_)))))))
          show zEnds p e below s T191 (mkF m 273 #[iv p1, iv p2, iv p3, iv p4, rv b1, iv 1, iv 10, iv 3, iv 10, iv 0, iv vc, iv 10] [(.int (((p4.toUInt32 >>> ((8 : Int32) &&& 31).toUInt32).toInt32).toInt8.toInt32)), (.int 11), (.ref b1)]) _ _ _
          generalize e_vz : (((p4.toUInt32 >>> ((8 : Int32) &&& 31).toUInt32).toInt32).toInt8.toInt32) = vz
          have hn_vz : nar .byte vz = vz := by rw [← e_vz]; exact own_nar8 _
          refine zbastore X191 hx hby at_273 hZ e191 A191_b1 (by decide) (by show Int32.toNatClampNeg 11 < 20; decide) vz hn_vz fun T192 h192 X192 e192 W192 A192_b1 => ?_
          change zLst Z h192 b1 .byte [(.int va), (.int 27), (.int ((e1v vs1).toInt8.toInt32)), (.int ((e2v vs1).toInt8.toInt32)), (.int 27), (.int ((e1v vs2).toInt8.toInt32)), (.int ((e2v vs2).toInt8.toInt32)), (.int 27), (.int ((e1v vs3).toInt8.toInt32)), (.int ((e2v vs3).toInt8.toInt32)), (.int vy), (.int vz), (.int 0), (.int 0), (.int 0), (.int 0), (.int 0), (.int 0), (.int 0), (.int 0)] at A192_b1
          have O192 := O191.wr W192 g1
          have N192 := Fr.snoc X192 N191 g1
          refine zaload X192 hx hby at_274 rfl rfl (ziload X192 hx hby at_276 rfl (ziload X192 hx hby at_278 rfl (zcalls X192 hx hby at_280 hZ hown (w6 hw) (w7 hw) (w8 hw) (w9 hw) e192 (c83_firstCharacter l hw [] ⟨S_w_arr0, A_w_arr0, Al_w_arr0⟩ O192 (zsz O192) b1 va ((e1v vs1).toInt8.toInt32) ((e2v vs1).toInt8.toInt32) ((e1v vs2).toInt8.toInt32) ((e2v vs2).toInt8.toInt32) ((e1v vs3).toInt8.toInt32) ((e2v vs3).toInt8.toInt32) vy vz g1 A192_b1) hml 0 pd_0 (argsL := [(.ref b1), (.int 1), (.int 10)]) (st := []) (zpureK ⟨rfl, rfl⟩ fun T193 X193 e193 => ?_))))
          show zEnds p e below s T193 (mkF m 283 #[iv p1, iv p2, iv p3, iv p4, rv b1, iv 1, iv 10, iv 3, iv 10, iv 0, iv vc, iv 10] [(.int 10)]) _ _ _
          refine ziload X193 hx hby at_283 rfl (zicmpNo X193 hx hby at_285 (by decide) (ziconst X193 hx hby at_288 (z := (1 : Int32)) rfl (zgoto X193 hx hby at_289 293 (by decide) (by decide) ?_)))
          show zEnds p e below s T193 (mkF m 293 #[iv p1, iv p2, iv p3, iv p4, rv b1, iv 1, iv 10, iv 3, iv 10, iv 0, iv vc, iv 10] [(.int 1)]) _ _ _
          exact zretZ X193 hx hby at_293 hret hlk (by simp) rfl (by decide) (by decide) ⟨rfl, N192⟩
        · show zEnds p e below s T186 (mkF m 134 #[iv p1, iv p2, iv p3, iv p4, rv b1, iv 1, iv 10, iv 3, iv 10, iv 1, iv vc, .unset] [(.int 27), (.int vc)]) _ _ _
          refine zicmpYes X186 hx hby at_134 140 (feq hc27).2 (by decide) (by decide) (ziload X186 hx hby at_140 rfl (ziconst X186 hx hby at_142 (z := (1 : Int32)) rfl (zicmpNo X186 hx hby at_143 (by decide) (zaload X186 hx hby at_146 rfl rfl (ziload X186 hx hby at_148 rfl (ziload X186 hx hby at_150 rfl (zi2b X186 hx hby at_152 (vc.toInt8.toInt32) rfl ?_)))))))
          show zEnds p e below s T186 (mkF m 153 #[iv p1, iv p2, iv p3, iv p4, rv b1, iv 1, iv 10, iv 3, iv 10, iv 1, iv vc, .unset] [(.int (vc.toInt8.toInt32)), (.int 10), (.ref b1)]) _ _ _
          generalize e_vd : (vc.toInt8.toInt32) = vd
          have hn_vd : nar .byte vd = vd := by rw [← e_vd]; exact own_nar8 _
          have h27_vd : ¬ (vd = (27 : Int32)) := by rw [← e_vd]; exact own_27 kc hc27
          refine zbastore X186 hx hby at_153 hZ e186 A186_b1 (by decide) (by show Int32.toNatClampNeg 10 < 20; decide) vd hn_vd fun T194 h194 X194 e194 W194 A194_b1 => ?_
          change zLst Z h194 b1 .byte [(.int va), (.int 27), (.int ((e1v vs1).toInt8.toInt32)), (.int ((e2v vs1).toInt8.toInt32)), (.int 27), (.int ((e1v vs2).toInt8.toInt32)), (.int ((e2v vs2).toInt8.toInt32)), (.int 27), (.int ((e1v vs3).toInt8.toInt32)), (.int ((e2v vs3).toInt8.toInt32)), (.int vd), (.int 0), (.int 0), (.int 0), (.int 0), (.int 0), (.int 0), (.int 0), (.int 0), (.int 0)] at A194_b1
          have O194 := O186.wr W194 g1
          have N194 := Fr.snoc X194 N186 g1
          refine ziload X194 hx hby at_154 rfl (ziconst X194 hx hby at_156 (z := (1 : Int32)) rfl (ziadd X194 hx hby at_157 (11 : Int32) (by decide) (zistore X194 hx hby at_158 (L' := #[iv p1, iv p2, iv p3, iv p4, rv b1, iv 1, iv 11, iv 3, iv 10, iv 1, iv vc, .unset]) rfl (zgoto X194 hx hby at_160 251 (by decide) (by decide) (ziload X194 hx hby at_251 rfl (zistore X194 hx hby at_253 (L' := #[iv p1, iv p2, iv p3, iv p4, rv b1, iv 1, iv 11, iv 3, iv 10, iv 1, iv vc, iv 11]) rfl (zaload X194 hx hby at_255 rfl rfl (ziload X194 hx hby at_257 rfl (ziloadN X194 hx hby at_259 rfl ?_)))))))))
          show zEnds p e below s T194 (mkF m 260 #[iv p1, iv p2, iv p3, iv p4, rv b1, iv 1, iv 11, iv 3, iv 10, iv 1, iv vc, iv 11] [(.int p4), (.int 11), (.ref b1)]) _ _ _
          refine zi2b X194 hx hby at_260 (p4.toInt8.toInt32) rfl ?_
          show zEnds p e below s T194 (mkF m 261 #[iv p1, iv p2, iv p3, iv p4, rv b1, iv 1, iv 11, iv 3, iv 10, iv 1, iv vc, iv 11] [(.int (p4.toInt8.toInt32)), (.int 11), (.ref b1)]) _ _ _
          generalize e_vy : (p4.toInt8.toInt32) = vy
          have hn_vy : nar .byte vy = vy := by rw [← e_vy]; exact own_nar8 _
          refine zbastore X194 hx hby at_261 hZ e194 A194_b1 (by decide) (by show Int32.toNatClampNeg 11 < 20; decide) vy hn_vy fun T195 h195 X195 e195 W195 A195_b1 => ?_
          change zLst Z h195 b1 .byte [(.int va), (.int 27), (.int ((e1v vs1).toInt8.toInt32)), (.int ((e2v vs1).toInt8.toInt32)), (.int 27), (.int ((e1v vs2).toInt8.toInt32)), (.int ((e2v vs2).toInt8.toInt32)), (.int 27), (.int ((e1v vs3).toInt8.toInt32)), (.int ((e2v vs3).toInt8.toInt32)), (.int vd), (.int vy), (.int 0), (.int 0), (.int 0), (.int 0), (.int 0), (.int 0), (.int 0), (.int 0)] at A195_b1
          have O195 := O194.wr W195 g1
          have N195 := Fr.snoc X195 N194 g1
          refine zaload X195 hx hby at_262 rfl rfl (ziload X195 hx hby at_264 rfl (ziconst X195 hx hby at_266 (z := (1 : Int32)) rfl (ziadd X195 hx hby at_267 (12 : Int32) (by decide) (ziloadN X195 hx hby at_268 rfl (zbipush X195 hx hby at_269 (z := (8 : Int32)) rfl (ziushr X195 hx hby at_271 ((p4.toUInt32 >>> ((8 : Int32) &&& 31).toUInt32).toInt32) rfl (zi2b X195 hx hby at_272 (((p4.toUInt32 >>> ((8 : Int32) &&& 31).toUInt32).toInt32).toInt8.toInt32) rfl ?_)))))))
          show zEnds p e below s T195 (mkF m 273 #[iv p1, iv p2, iv p3, iv p4, rv b1, iv 1, iv 11, iv 3, iv 10, iv 1, iv vc, iv 11] [(.int (((p4.toUInt32 >>> ((8 : Int32) &&& 31).toUInt32).toInt32).toInt8.toInt32)), (.int 12), (.ref b1)]) _ _ _
          generalize e_vz : (((p4.toUInt32 >>> ((8 : Int32) &&& 31).toUInt32).toInt32).toInt8.toInt32) = vz
          have hn_vz : nar .byte vz = vz := by rw [← e_vz]; exact own_nar8 _
          refine zbastore X195 hx hby at_273 hZ e195 A195_b1 (by decide) (by show Int32.toNatClampNeg 12 < 20; decide) vz hn_vz fun T196 h196 X196 e196 W196 A196_b1 => ?_
          change zLst Z h196 b1 .byte [(.int va), (.int 27), (.int ((e1v vs1).toInt8.toInt32)), (.int ((e2v vs1).toInt8.toInt32)), (.int 27), (.int ((e1v vs2).toInt8.toInt32)), (.int ((e2v vs2).toInt8.toInt32)), (.int 27), (.int ((e1v vs3).toInt8.toInt32)), (.int ((e2v vs3).toInt8.toInt32)), (.int vd), (.int vy), (.int vz), (.int 0), (.int 0), (.int 0), (.int 0), (.int 0), (.int 0), (.int 0)] at A196_b1
          have O196 := O195.wr W196 g1
          have N196 := Fr.snoc X196 N195 g1
          refine zaload X196 hx hby at_274 rfl rfl (ziload X196 hx hby at_276 rfl (ziload X196 hx hby at_278 rfl (zcalls X196 hx hby at_280 hZ hown (w6 hw) (w7 hw) (w8 hw) (w9 hw) e196 (c85_firstCharacter l hw [] ⟨S_w_arr0, A_w_arr0, Al_w_arr0⟩ O196 (zsz O196) b1 va ((e1v vs1).toInt8.toInt32) ((e2v vs1).toInt8.toInt32) ((e1v vs2).toInt8.toInt32) ((e2v vs2).toInt8.toInt32) ((e1v vs3).toInt8.toInt32) ((e2v vs3).toInt8.toInt32) vd vy vz g1 A196_b1 h27_vd) hml 0 pd_0 (argsL := [(.ref b1), (.int 1), (.int 11)]) (st := []) (zpureK ⟨rfl, rfl⟩ fun T197 X197 e197 => ?_))))
          show zEnds p e below s T197 (mkF m 283 #[iv p1, iv p2, iv p3, iv p4, rv b1, iv 1, iv 11, iv 3, iv 10, iv 1, iv vc, iv 11] [(.int 10)]) _ _ _
          refine ziload X197 hx hby at_283 rfl (zicmpNo X197 hx hby at_285 (by decide) (ziconst X197 hx hby at_288 (z := (1 : Int32)) rfl (zgoto X197 hx hby at_289 293 (by decide) (by decide) ?_)))
          show zEnds p e below s T197 (mkF m 293 #[iv p1, iv p2, iv p3, iv p4, rv b1, iv 1, iv 11, iv 3, iv 10, iv 1, iv vc, iv 11] [(.int 1)]) _ _ _
          exact zretZ X197 hx hby at_293 hret hlk (by simp) rfl (by decide) (by decide) ⟨rfl, N196⟩
      · rw [q187]
        refine zistore X186 hx hby at_108 (L' := #[iv p1, iv p2, iv p3, iv p4, rv b1, iv 1, iv 10, iv 3, iv 10, iv 2, .unset, .unset]) rfl (ziloadN X186 hx hby at_110 rfl (ziconst X186 hx hby at_111 (z := (2 : Int32)) rfl (ziushr X186 hx hby at_112 ((p2.toUInt32 >>> ((2 : Int32) &&& 31).toUInt32).toInt32) rfl (zbipush X186 hx hby at_113 (z := (127 : Int32)) rfl (ziand X186 hx hby at_115 (((p2.toUInt32 >>> ((2 : Int32) &&& 31).toUInt32).toInt32) &&& (127 : Int32)) rfl ?_)))))
        show zEnds p e below s T186 (mkF m 116 #[iv p1, iv p2, iv p3, iv p4, rv b1, iv 1, iv 10, iv 3, iv 10, iv 2, .unset, .unset] [(.int (((p2.toUInt32 >>> ((2 : Int32) &&& 31).toUInt32).toInt32) &&& (127 : Int32)))]) _ _ _
        generalize e_vc : (((p2.toUInt32 >>> ((2 : Int32) &&& 31).toUInt32).toInt32) &&& (127 : Int32)) = vc
        have kc : 0 ≤ vc.toInt ∧ vc.toInt ≤ 127 := by rw [← e_vc]; exact own_c _
        refine zistore X186 hx hby at_116 (L' := #[iv p1, iv p2, iv p3, iv p4, rv b1, iv 1, iv 10, iv 3, iv 10, iv 2, iv vc, .unset]) rfl (ziload X186 hx hby at_118 rfl (ziconst X186 hx hby at_120 (z := (1 : Int32)) rfl (zicmpNo X186 hx hby at_121 (by decide) (ziload X186 hx hby at_124 rfl (ziconst X186 hx hby at_126 (z := (3 : Int32)) rfl (zicmpYes X186 hx hby at_127 140 (by decide) (by decide) (by decide) (ziload X186 hx hby at_140 rfl (ziconst X186 hx hby at_142 (z := (1 : Int32)) rfl (zicmpYes X186 hx hby at_143 163 (by decide) (by decide) (by decide) ?_)))))))))
        show zEnds p e below s T186 (mkF m 163 #[iv p1, iv p2, iv p3, iv p4, rv b1, iv 1, iv 10, iv 3, iv 10, iv 2, iv vc, .unset] []) _ _ _
        refine ziload X186 hx hby at_163 rfl (ziconst X186 hx hby at_165 (z := (2 : Int32)) rfl (zicmpNo X186 hx hby at_166 (by decide) (zaload X186 hx hby at_169 rfl rfl (ziload X186 hx hby at_171 rfl (zbipush X186 hx hby at_173 (z := (48 : Int32)) rfl (ziloadN X186 hx hby at_175 rfl (zbipush X186 hx hby at_176 (z := (9 : Int32)) rfl (ziushr X186 hx hby at_178 ((p2.toUInt32 >>> ((9 : Int32) &&& 31).toUInt32).toInt32) rfl (zsipush X186 hx hby at_179 (z := (255 : Int32)) rfl ?_)))))))))
        show zEnds p e below s T186 (mkF m 182 #[iv p1, iv p2, iv p3, iv p4, rv b1, iv 1, iv 10, iv 3, iv 10, iv 2, iv vc, .unset] [(.int 255), (.int ((p2.toUInt32 >>> ((9 : Int32) &&& 31).toUInt32).toInt32)), (.int 48), (.int 10), (.ref b1)]) _ _ _
        refine ziand X186 hx hby at_182 (((p2.toUInt32 >>> ((9 : Int32) &&& 31).toUInt32).toInt32) &&& (255 : Int32)) rfl (zbipush X186 hx hby at_183 (z := (31 : Int32)) rfl (zirem X186 hx hby at_185 ((((p2.toUInt32 >>> ((9 : Int32) &&& 31).toUInt32).toInt32) &&& (255 : Int32)) % (31 : Int32)) (by decide) rfl (ziadd X186 hx hby at_186 ((48 : Int32) + ((((p2.toUInt32 >>> ((9 : Int32) &&& 31).toUInt32).toInt32) &&& (255 : Int32)) % (31 : Int32))) rfl (zi2b X186 hx hby at_187 (((48 : Int32) + ((((p2.toUInt32 >>> ((9 : Int32) &&& 31).toUInt32).toInt32) &&& (255 : Int32)) % (31 : Int32))).toInt8.toInt32) rfl ?_))))
        show zEnds p e below s T186 (mkF m 188 #[iv p1, iv p2, iv p3, iv p4, rv b1, iv 1, iv 10, iv 3, iv 10, iv 2, iv vc, .unset] [(.int (((48 : Int32) + ((((p2.toUInt32 >>> ((9 : Int32) &&& 31).toUInt32).toInt32) &&& (255 : Int32)) % (31 : Int32))).toInt8.toInt32)), (.int 10), (.ref b1)]) _ _ _
        generalize e_ve : (((48 : Int32) + ((((p2.toUInt32 >>> ((9 : Int32) &&& 31).toUInt32).toInt32) &&& (255 : Int32)) % (31 : Int32))).toInt8.toInt32) = ve
        have hn_ve : nar .byte ve = ve := by rw [← e_ve]; exact own_nar8 _
        have h27_ve : ¬ (ve = (27 : Int32)) := by rw [← e_ve]; exact own_48 _
        refine zbastore X186 hx hby at_188 hZ e186 A186_b1 (by decide) (by show Int32.toNatClampNeg 10 < 20; decide) ve hn_ve fun T198 h198 X198 e198 W198 A198_b1 => ?_
        change zLst Z h198 b1 .byte [(.int va), (.int 27), (.int ((e1v vs1).toInt8.toInt32)), (.int ((e2v vs1).toInt8.toInt32)), (.int 27), (.int ((e1v vs2).toInt8.toInt32)), (.int ((e2v vs2).toInt8.toInt32)), (.int 27), (.int ((e1v vs3).toInt8.toInt32)), (.int ((e2v vs3).toInt8.toInt32)), (.int ve), (.int 0), (.int 0), (.int 0), (.int 0), (.int 0), (.int 0), (.int 0), (.int 0), (.int 0)] at A198_b1
        have O198 := O186.wr W198 g1
        have N198 := Fr.snoc X198 N186 g1
        refine zaload X198 hx hby at_189 rfl rfl (ziload X198 hx hby at_191 rfl (ziconst X198 hx hby at_193 (z := (1 : Int32)) rfl (ziadd X198 hx hby at_194 (11 : Int32) (by decide) (zbipush X198 hx hby at_195 (z := (33 : Int32)) rfl (ziloadN X198 hx hby at_197 rfl (zbipush X198 hx hby at_198 (z := (17 : Int32)) rfl (ziushr X198 hx hby at_200 ((p2.toUInt32 >>> ((17 : Int32) &&& 31).toUInt32).toInt32) rfl (zsipush X198 hx hby at_201 (z := (255 : Int32)) rfl (ziand X198 hx hby at_204 (((p2.toUInt32 >>> ((17 : Int32) &&& 31).toUInt32).toInt32) &&& (255 : Int32)) rfl ?_)))))))))
        show zEnds p e below s T198 (mkF m 205 #[iv p1, iv p2, iv p3, iv p4, rv b1, iv 1, iv 10, iv 3, iv 10, iv 2, iv vc, .unset] [(.int (((p2.toUInt32 >>> ((17 : Int32) &&& 31).toUInt32).toInt32) &&& (255 : Int32))), (.int 33), (.int 11), (.ref b1)]) _ _ _
        refine zbipush X198 hx hby at_205 (z := (94 : Int32)) rfl (zirem X198 hx hby at_207 ((((p2.toUInt32 >>> ((17 : Int32) &&& 31).toUInt32).toInt32) &&& (255 : Int32)) % (94 : Int32)) (by decide) rfl (ziadd X198 hx hby at_208 ((33 : Int32) + ((((p2.toUInt32 >>> ((17 : Int32) &&& 31).toUInt32).toInt32) &&& (255 : Int32)) % (94 : Int32))) rfl (zi2b X198 hx hby at_209 (((33 : Int32) + ((((p2.toUInt32 >>> ((17 : Int32) &&& 31).toUInt32).toInt32) &&& (255 : Int32)) % (94 : Int32))).toInt8.toInt32) rfl ?_)))
        show zEnds p e below s T198 (mkF m 210 #[iv p1, iv p2, iv p3, iv p4, rv b1, iv 1, iv 10, iv 3, iv 10, iv 2, iv vc, .unset] [(.int (((33 : Int32) + ((((p2.toUInt32 >>> ((17 : Int32) &&& 31).toUInt32).toInt32) &&& (255 : Int32)) % (94 : Int32))).toInt8.toInt32)), (.int 11), (.ref b1)]) _ _ _
        generalize e_vf : (((33 : Int32) + ((((p2.toUInt32 >>> ((17 : Int32) &&& 31).toUInt32).toInt32) &&& (255 : Int32)) % (94 : Int32))).toInt8.toInt32) = vf
        have hn_vf : nar .byte vf = vf := by rw [← e_vf]; exact own_nar8 _
        refine zbastore X198 hx hby at_210 hZ e198 A198_b1 (by decide) (by show Int32.toNatClampNeg 11 < 20; decide) vf hn_vf fun T199 h199 X199 e199 W199 A199_b1 => ?_
        change zLst Z h199 b1 .byte [(.int va), (.int 27), (.int ((e1v vs1).toInt8.toInt32)), (.int ((e2v vs1).toInt8.toInt32)), (.int 27), (.int ((e1v vs2).toInt8.toInt32)), (.int ((e2v vs2).toInt8.toInt32)), (.int 27), (.int ((e1v vs3).toInt8.toInt32)), (.int ((e2v vs3).toInt8.toInt32)), (.int ve), (.int vf), (.int 0), (.int 0), (.int 0), (.int 0), (.int 0), (.int 0), (.int 0), (.int 0)] at A199_b1
        have O199 := O198.wr W199 g1
        have N199 := Fr.snoc X199 N198 g1
        refine ziload X199 hx hby at_211 rfl (ziconst X199 hx hby at_213 (z := (2 : Int32)) rfl (ziadd X199 hx hby at_214 (12 : Int32) (by decide) (zistore X199 hx hby at_215 (L' := #[iv p1, iv p2, iv p3, iv p4, rv b1, iv 1, iv 12, iv 3, iv 10, iv 2, iv vc, .unset]) rfl (zgoto X199 hx hby at_217 251 (by decide) (by decide) (ziload X199 hx hby at_251 rfl (zistore X199 hx hby at_253 (L' := #[iv p1, iv p2, iv p3, iv p4, rv b1, iv 1, iv 12, iv 3, iv 10, iv 2, iv vc, iv 12]) rfl (zaload X199 hx hby at_255 rfl rfl (ziload X199 hx hby at_257 rfl (ziloadN X199 hx hby at_259 rfl ?_)))))))))
        show zEnds p e below s T199 (mkF m 260 #[iv p1, iv p2, iv p3, iv p4, rv b1, iv 1, iv 12, iv 3, iv 10, iv 2, iv vc, iv 12] [(.int p4), (.int 12), (.ref b1)]) _ _ _
        refine zi2b X199 hx hby at_260 (p4.toInt8.toInt32) rfl ?_
        show zEnds p e below s T199 (mkF m 261 #[iv p1, iv p2, iv p3, iv p4, rv b1, iv 1, iv 12, iv 3, iv 10, iv 2, iv vc, iv 12] [(.int (p4.toInt8.toInt32)), (.int 12), (.ref b1)]) _ _ _
        generalize e_vy : (p4.toInt8.toInt32) = vy
        have hn_vy : nar .byte vy = vy := by rw [← e_vy]; exact own_nar8 _
        refine zbastore X199 hx hby at_261 hZ e199 A199_b1 (by decide) (by show Int32.toNatClampNeg 12 < 20; decide) vy hn_vy fun T200 h200 X200 e200 W200 A200_b1 => ?_
        change zLst Z h200 b1 .byte [(.int va), (.int 27), (.int ((e1v vs1).toInt8.toInt32)), (.int ((e2v vs1).toInt8.toInt32)), (.int 27), (.int ((e1v vs2).toInt8.toInt32)), (.int ((e2v vs2).toInt8.toInt32)), (.int 27), (.int ((e1v vs3).toInt8.toInt32)), (.int ((e2v vs3).toInt8.toInt32)), (.int ve), (.int vf), (.int vy), (.int 0), (.int 0), (.int 0), (.int 0), (.int 0), (.int 0), (.int 0)] at A200_b1
        have O200 := O199.wr W200 g1
        have N200 := Fr.snoc X200 N199 g1
        refine zaload X200 hx hby at_262 rfl rfl (ziload X200 hx hby at_264 rfl (ziconst X200 hx hby at_266 (z := (1 : Int32)) rfl (ziadd X200 hx hby at_267 (13 : Int32) (by decide) (ziloadN X200 hx hby at_268 rfl (zbipush X200 hx hby at_269 (z := (8 : Int32)) rfl (ziushr X200 hx hby at_271 ((p4.toUInt32 >>> ((8 : Int32) &&& 31).toUInt32).toInt32) rfl (zi2b X200 hx hby at_272 (((p4.toUInt32 >>> ((8 : Int32) &&& 31).toUInt32).toInt32).toInt8.toInt32) rfl ?_)))))))
        show zEnds p e below s T200 (mkF m 273 #[iv p1, iv p2, iv p3, iv p4, rv b1, iv 1, iv 12, iv 3, iv 10, iv 2, iv vc, iv 12] [(.int (((p4.toUInt32 >>> ((8 : Int32) &&& 31).toUInt32).toInt32).toInt8.toInt32)), (.int 13), (.ref b1)]) _ _ _
        generalize e_vz : (((p4.toUInt32 >>> ((8 : Int32) &&& 31).toUInt32).toInt32).toInt8.toInt32) = vz
        have hn_vz : nar .byte vz = vz := by rw [← e_vz]; exact own_nar8 _
        refine zbastore X200 hx hby at_273 hZ e200 A200_b1 (by decide) (by show Int32.toNatClampNeg 13 < 20; decide) vz hn_vz fun T201 h201 X201 e201 W201 A201_b1 => ?_
        change zLst Z h201 b1 .byte [(.int va), (.int 27), (.int ((e1v vs1).toInt8.toInt32)), (.int ((e2v vs1).toInt8.toInt32)), (.int 27), (.int ((e1v vs2).toInt8.toInt32)), (.int ((e2v vs2).toInt8.toInt32)), (.int 27), (.int ((e1v vs3).toInt8.toInt32)), (.int ((e2v vs3).toInt8.toInt32)), (.int ve), (.int vf), (.int vy), (.int vz), (.int 0), (.int 0), (.int 0), (.int 0), (.int 0), (.int 0)] at A201_b1
        have O201 := O200.wr W201 g1
        have N201 := Fr.snoc X201 N200 g1
        refine zaload X201 hx hby at_274 rfl rfl (ziload X201 hx hby at_276 rfl (ziload X201 hx hby at_278 rfl (zcalls X201 hx hby at_280 hZ hown (w6 hw) (w7 hw) (w8 hw) (w9 hw) e201 (c87_firstCharacter l hw [] ⟨S_w_arr0, A_w_arr0, Al_w_arr0⟩ O201 (zsz O201) b1 va ((e1v vs1).toInt8.toInt32) ((e2v vs1).toInt8.toInt32) ((e1v vs2).toInt8.toInt32) ((e2v vs2).toInt8.toInt32) ((e1v vs3).toInt8.toInt32) ((e2v vs3).toInt8.toInt32) ve vf vy vz g1 A201_b1 h27_ve) hml 0 pd_0 (argsL := [(.ref b1), (.int 1), (.int 12)]) (st := []) (zpureK ⟨rfl, rfl⟩ fun T202 X202 e202 => ?_))))
        show zEnds p e below s T202 (mkF m 283 #[iv p1, iv p2, iv p3, iv p4, rv b1, iv 1, iv 12, iv 3, iv 10, iv 2, iv vc, iv 12] [(.int 10)]) _ _ _
        refine ziload X202 hx hby at_283 rfl (zicmpNo X202 hx hby at_285 (by decide) (ziconst X202 hx hby at_288 (z := (1 : Int32)) rfl (zgoto X202 hx hby at_289 293 (by decide) (by decide) ?_)))
        show zEnds p e below s T202 (mkF m 293 #[iv p1, iv p2, iv p3, iv p4, rv b1, iv 1, iv 12, iv 3, iv 10, iv 2, iv vc, iv 12] [(.int 1)]) _ _ _
        exact zretZ X202 hx hby at_293 hret hlk (by simp) rfl (by decide) (by decide) ⟨rfl, N201⟩
      · rw [q187]
        refine zistore X186 hx hby at_108 (L' := #[iv p1, iv p2, iv p3, iv p4, rv b1, iv 1, iv 10, iv 3, iv 10, iv 3, .unset, .unset]) rfl (ziloadN X186 hx hby at_110 rfl (ziconst X186 hx hby at_111 (z := (2 : Int32)) rfl (ziushr X186 hx hby at_112 ((p2.toUInt32 >>> ((2 : Int32) &&& 31).toUInt32).toInt32) rfl (zbipush X186 hx hby at_113 (z := (127 : Int32)) rfl (ziand X186 hx hby at_115 (((p2.toUInt32 >>> ((2 : Int32) &&& 31).toUInt32).toInt32) &&& (127 : Int32)) rfl ?_)))))
        show zEnds p e below s T186 (mkF m 116 #[iv p1, iv p2, iv p3, iv p4, rv b1, iv 1, iv 10, iv 3, iv 10, iv 3, .unset, .unset] [(.int (((p2.toUInt32 >>> ((2 : Int32) &&& 31).toUInt32).toInt32) &&& (127 : Int32)))]) _ _ _
        generalize e_vc : (((p2.toUInt32 >>> ((2 : Int32) &&& 31).toUInt32).toInt32) &&& (127 : Int32)) = vc
        have kc : 0 ≤ vc.toInt ∧ vc.toInt ≤ 127 := by rw [← e_vc]; exact own_c _
        refine zistore X186 hx hby at_116 (L' := #[iv p1, iv p2, iv p3, iv p4, rv b1, iv 1, iv 10, iv 3, iv 10, iv 3, iv vc, .unset]) rfl (ziload X186 hx hby at_118 rfl (ziconst X186 hx hby at_120 (z := (1 : Int32)) rfl (zicmpNo X186 hx hby at_121 (by decide) (ziload X186 hx hby at_124 rfl (ziconst X186 hx hby at_126 (z := (3 : Int32)) rfl (zicmpNo X186 hx hby at_127 (by decide) (ziload X186 hx hby at_130 rfl (zbipush X186 hx hby at_132 (z := (27 : Int32)) rfl ?_))))))))
        show zEnds p e below s T186 (mkF m 134 #[iv p1, iv p2, iv p3, iv p4, rv b1, iv 1, iv 10, iv 3, iv 10, iv 3, iv vc, .unset] [(.int 27), (.int vc)]) _ _ _
        by_cases hc27 : vc = (27 : Int32)
        · show zEnds p e below s T186 (mkF m 134 #[iv p1, iv p2, iv p3, iv p4, rv b1, iv 1, iv 10, iv 3, iv 10, iv 3, iv vc, .unset] [(.int 27), (.int vc)]) _ _ _
          refine zicmpNo X186 hx hby at_134 (teq hc27).2 (ziconst X186 hx hby at_137 (z := (0 : Int32)) rfl (zistore X186 hx hby at_138 (L' := #[iv p1, iv p2, iv p3, iv p4, rv b1, iv 1, iv 10, iv 3, iv 10, iv 0, iv vc, .unset]) rfl (ziload X186 hx hby at_140 rfl (ziconst X186 hx hby at_142 (z := (1 : Int32)) rfl (zicmpYes X186 hx hby at_143 163 (by decide) (by decide) (by decide) (ziload X186 hx hby at_163 rfl (ziconst X186 hx hby at_165 (z := (2 : Int32)) rfl (zicmpYes X186 hx hby at_166 220 (by decide) (by decide) (by decide) (ziload X186 hx hby at_220 rfl ?_)))))))))
          show zEnds p e below s T186 (mkF m 222 #[iv p1, iv p2, iv p3, iv p4, rv b1, iv 1, iv 10, iv 3, iv 10, iv 0, iv vc, .unset] [(.int 0)]) _ _ _
          refine ziconst X186 hx hby at_222 (z := (3 : Int32)) rfl (zicmpYes X186 hx hby at_223 251 (by decide) (by decide) (by decide) (ziload X186 hx hby at_251 rfl (zistore X186 hx hby at_253 (L' := #[iv p1, iv p2, iv p3, iv p4, rv b1, iv 1, iv 10, iv 3, iv 10, iv 0, iv vc, iv 10]) rfl (zaload X186 hx hby at_255 rfl rfl (ziload X186 hx hby at_257 rfl (ziloadN X186 hx hby at_259 rfl (zi2b X186 hx hby at_260 (p4.toInt8.toInt32) rfl ?_)))))))
          show zEnds p e below s T186 (mkF m 261 #[iv p1, iv p2, iv p3, iv p4, rv b1, iv 1, iv 10, iv 3, iv 10, iv 0, iv vc, iv 10] [(.int (p4.toInt8.toInt32)), (.int 10), (.ref b1)]) _ _ _
          generalize e_vy : (p4.toInt8.toInt32) = vy
          have hn_vy : nar .byte vy = vy := by rw [← e_vy]; exact own_nar8 _
          refine zbastore X186 hx hby at_261 hZ e186 A186_b1 (by decide) (by show Int32.toNatClampNeg 10 < 20; decide) vy hn_vy fun T203 h203 X203 e203 W203 A203_b1 => ?_
          change zLst Z h203 b1 .byte [(.int va), (.int 27), (.int ((e1v vs1).toInt8.toInt32)), (.int ((e2v vs1).toInt8.toInt32)), (.int 27), (.int ((e1v vs2).toInt8.toInt32)), (.int ((e2v vs2).toInt8.toInt32)), (.int 27), (.int ((e1v vs3).toInt8.toInt32)), (.int ((e2v vs3).toInt8.toInt32)), (.int vy), (.int 0), (.int 0), (.int 0), (.int 0), (.int 0), (.int 0), (.int 0), (.int 0), (.int 0)] at A203_b1
          have O203 := O186.wr W203 g1
          have N203 := Fr.snoc X203 N186 g1
          refine zaload X203 hx hby at_262 rfl rfl (ziload X203 hx hby at_264 rfl (ziconst X203 hx hby at_266 (z := (1 : Int32)) rfl (ziadd X203 hx hby at_267 (11 : Int32) (by decide) (ziloadN X203 hx hby at_268 rfl (zbipush X203 hx hby at_269 (z := (8 : Int32)) rfl (ziushr X203 hx hby at_271 ((p4.toUInt32 >>> ((8 : Int32) &&& 31).toUInt32).toInt32) rfl (zi2b X203 hx hby at_272 (((p4.toUInt32 >>> ((8 : Int32) &&& 31).toUInt32).toInt32).toInt8.toInt32) rfl ?_)))))))
          show zEnds p e below s T203 (mkF m 273 #[iv p1, iv p2, iv p3, iv p4, rv b1, iv 1, iv 10, iv 3, iv 10, iv 0, iv vc, iv 10] [(.int (((p4.toUInt32 >>> ((8 : Int32) &&& 31).toUInt32).toInt32).toInt8.toInt32)), (.int 11), (.ref b1)]) _ _ _
          generalize e_vz : (((p4.toUInt32 >>> ((8 : Int32) &&& 31).toUInt32).toInt32).toInt8.toInt32) = vz
          have hn_vz : nar .byte vz = vz := by rw [← e_vz]; exact own_nar8 _
          refine zbastore X203 hx hby at_273 hZ e203 A203_b1 (by decide) (by show Int32.toNatClampNeg 11 < 20; decide) vz hn_vz fun T204 h204 X204 e204 W204 A204_b1 => ?_
          change zLst Z h204 b1 .byte [(.int va), (.int 27), (.int ((e1v vs1).toInt8.toInt32)), (.int ((e2v vs1).toInt8.toInt32)), (.int 27), (.int ((e1v vs2).toInt8.toInt32)), (.int ((e2v vs2).toInt8.toInt32)), (.int 27), (.int ((e1v vs3).toInt8.toInt32)), (.int ((e2v vs3).toInt8.toInt32)), (.int vy), (.int vz), (.int 0), (.int 0), (.int 0), (.int 0), (.int 0), (.int 0), (.int 0), (.int 0)] at A204_b1
          have O204 := O203.wr W204 g1
          have N204 := Fr.snoc X204 N203 g1
          refine zaload X204 hx hby at_274 rfl rfl (ziload X204 hx hby at_276 rfl (ziload X204 hx hby at_278 rfl (zcalls X204 hx hby at_280 hZ hown (w6 hw) (w7 hw) (w8 hw) (w9 hw) e204 (c83_firstCharacter l hw [] ⟨S_w_arr0, A_w_arr0, Al_w_arr0⟩ O204 (zsz O204) b1 va ((e1v vs1).toInt8.toInt32) ((e2v vs1).toInt8.toInt32) ((e1v vs2).toInt8.toInt32) ((e2v vs2).toInt8.toInt32) ((e1v vs3).toInt8.toInt32) ((e2v vs3).toInt8.toInt32) vy vz g1 A204_b1) hml 0 pd_0 (argsL := [(.ref b1), (.int 1), (.int 10)]) (st := []) (zpureK ⟨rfl, rfl⟩ fun T205 X205 e205 => ?_))))
          show zEnds p e below s T205 (mkF m 283 #[iv p1, iv p2, iv p3, iv p4, rv b1, iv 1, iv 10, iv 3, iv 10, iv 0, iv vc, iv 10] [(.int 10)]) _ _ _
          refine ziload X205 hx hby at_283 rfl (zicmpNo X205 hx hby at_285 (by decide) (ziconst X205 hx hby at_288 (z := (1 : Int32)) rfl (zgoto X205 hx hby at_289 293 (by decide) (by decide) ?_)))
          show zEnds p e below s T205 (mkF m 293 #[iv p1, iv p2, iv p3, iv p4, rv b1, iv 1, iv 10, iv 3, iv 10, iv 0, iv vc, iv 10] [(.int 1)]) _ _ _
          exact zretZ X205 hx hby at_293 hret hlk (by simp) rfl (by decide) (by decide) ⟨rfl, N204⟩
        · show zEnds p e below s T186 (mkF m 134 #[iv p1, iv p2, iv p3, iv p4, rv b1, iv 1, iv 10, iv 3, iv 10, iv 3, iv vc, .unset] [(.int 27), (.int vc)]) _ _ _
          refine zicmpYes X186 hx hby at_134 140 (feq hc27).2 (by decide) (by decide) (ziload X186 hx hby at_140 rfl (ziconst X186 hx hby at_142 (z := (1 : Int32)) rfl (zicmpYes X186 hx hby at_143 163 (by decide) (by decide) (by decide) (ziload X186 hx hby at_163 rfl (ziconst X186 hx hby at_165 (z := (2 : Int32)) rfl (zicmpYes X186 hx hby at_166 220 (by decide) (by decide) (by decide) (ziload X186 hx hby at_220 rfl (ziconst X186 hx hby at_222 (z := (3 : Int32)) rfl (zicmpNo X186 hx hby at_223 (by decide) ?_)))))))))
          show zEnds p e below s T186 (mkF m 226 #[iv p1, iv p2, iv p3, iv p4, rv b1, iv 1, iv 10, iv 3, iv 10, iv 3, iv vc, .unset] []) _ _ _
          refine zaload X186 hx hby at_226 rfl rfl (ziload X186 hx hby at_228 rfl (ziload X186 hx hby at_230 rfl (zi2b X186 hx hby at_232 (vc.toInt8.toInt32) rfl ?_)))
          show zEnds p e below s T186 (mkF m 233 #[iv p1, iv p2, iv p3, iv p4, rv b1, iv 1, iv 10, iv 3, iv 10, iv 3, iv vc, .unset] [(.int (vc.toInt8.toInt32)), (.int 10), (.ref b1)]) _ _ _
          generalize e_vg : (vc.toInt8.toInt32) = vg
          have hn_vg : nar .byte vg = vg := by rw [← e_vg]; exact own_nar8 _
          have h27_vg : ¬ (vg = (27 : Int32)) := by rw [← e_vg]; exact own_27 kc hc27
          refine zbastore X186 hx hby at_233 hZ e186 A186_b1 (by decide) (by show Int32.toNatClampNeg 10 < 20; decide) vg hn_vg fun T206 h206 X206 e206 W206 A206_b1 => ?_
          change zLst Z h206 b1 .byte [(.int va), (.int 27), (.int ((e1v vs1).toInt8.toInt32)), (.int ((e2v vs1).toInt8.toInt32)), (.int 27), (.int ((e1v vs2).toInt8.toInt32)), (.int ((e2v vs2).toInt8.toInt32)), (.int 27), (.int ((e1v vs3).toInt8.toInt32)), (.int ((e2v vs3).toInt8.toInt32)), (.int vg), (.int 0), (.int 0), (.int 0), (.int 0), (.int 0), (.int 0), (.int 0), (.int 0), (.int 0)] at A206_b1
          have O206 := O186.wr W206 g1
          have N206 := Fr.snoc X206 N186 g1
          refine zaload X206 hx hby at_234 rfl rfl (ziload X206 hx hby at_236 rfl (ziconst X206 hx hby at_238 (z := (1 : Int32)) rfl (ziadd X206 hx hby at_239 (11 : Int32) (by decide) (ziloadN X206 hx hby at_240 rfl (zbipush X206 hx hby at_241 (z := (9 : Int32)) rfl (ziushr X206 hx hby at_243 ((p2.toUInt32 >>> ((9 : Int32) &&& 31).toUInt32).toInt32) rfl (ziconst X206 hx hby at_244 (z := (3 : Int32)) rfl (ziand X206 hx hby at_245 (((p2.toUInt32 >>> ((9 : Int32) &&& 31).toUInt32).toInt32) &&& (3 : Int32)) rfl ?_))))))))
          show zEnds p e below s T206 (mkF m 246 #[iv p1, iv p2, iv p3, iv p4, rv b1, iv 1, iv 10, iv 3, iv 10, iv 3, iv vc, .unset] [(.int (((p2.toUInt32 >>> ((9 : Int32) &&& 31).toUInt32).toInt32) &&& (3 : Int32))), (.int 11), (.ref b1)]) _ _ _
          generalize e_vs4 : (((p2.toUInt32 >>> ((9 : Int32) &&& 31).toUInt32).toInt32) &&& (3 : Int32)) = vs4
          refine zcalls X206 hx hby at_246 hZ hown (w2 hw) (w3 hw) (w4 hw) (w5 hw) e206 (c89_esc l hw [] ⟨S_w_arr0, A_w_arr0, Al_w_arr0⟩ O206 (zsz O206) vs4 b1 va (27 : Int32) ((e1v vs1).toInt8.toInt32) ((e2v vs1).toInt8.toInt32) (27 : Int32) ((e1v vs2).toInt8.toInt32) ((e2v vs2).toInt8.toInt32) (27 : Int32) ((e1v vs3).toInt8.toInt32) ((e2v vs3).toInt8.toInt32) vg (0 : Int32) (0 : Int32) (0 : Int32) (0 : Int32) (0 : Int32) (0 : Int32) (0 : Int32) (0 : Int32) (0 : Int32) g1 A206_b1 h27_vg) hml 0 pd_0 (argsL := [(.ref b1), (.int 11), (.int vs4)]) (st := []) fun T207 h207 v207 L207 e207 X207 q207 => ?_
          obtain ⟨rfl, N207q, K207q, A207_b1⟩ := q207
          have O207 := O206.keep K207q (allS g1 all0)
          have N207 := Fr.app N206 N207q
          show zEnds p e below s T207 (mkF m 249 #[iv p1, iv p2, iv p3, iv p4, rv b1, iv 1, iv 10, iv 3, iv 10, iv 3, iv vc, .unset] [(.int 14)]) _ _ _
          refine zistore X207 hx hby at_249 (L' := #[iv p1, iv p2, iv p3, iv p4, rv b1, iv 1, iv 14, iv 3, iv 10, iv 3, iv vc, .unset]) rfl (ziload X207 hx hby at_251 rfl (zistore X207 hx hby at_253 (L' := #[iv p1, iv p2, iv p3, iv p4, rv b1, iv 1, iv 14, iv 3, iv 10, iv 3, iv vc, iv 14]) rfl (zaload X207 hx hby at_255 rfl rfl (ziload X207 hx hby at_257 rfl (ziloadN X207 hx hby at_259 rfl (zi2b X207 hx hby at_260 (p4.toInt8.toInt32) rfl ?_))))))
          show zEnds p e below s T207 (mkF m 261 #[iv p1, iv p2, iv p3, iv p4, rv b1, iv 1, iv 14, iv 3, iv 10, iv 3, iv vc, iv 14] [(.int (p4.toInt8.toInt32)), (.int 14), (.ref b1)]) _ _ _
          generalize e_vy : (p4.toInt8.toInt32) = vy
          have hn_vy : nar .byte vy = vy := by rw [← e_vy]; exact own_nar8 _
          refine zbastore X207 hx hby at_261 hZ e207 A207_b1 (by decide) (by show Int32.toNatClampNeg 14 < 20; decide) vy hn_vy fun T208 h208 X208 e208 W208 A208_b1 => ?_
          change zLst Z h208 b1 .byte [(.int va), (.int 27), (.int ((e1v vs1).toInt8.toInt32)), (.int ((e2v vs1).toInt8.toInt32)), (.int 27), (.int ((e1v vs2).toInt8.toInt32)), (.int ((e2v vs2).toInt8.toInt32)), (.int 27), (.int ((e1v vs3).toInt8.toInt32)), (.int ((e2v vs3).toInt8.toInt32)), (.int vg), (.int 27), (.int ((e1v vs4).toInt8.toInt32)), (.int ((e2v vs4).toInt8.toInt32)), (.int vy), (.int 0), (.int 0), (.int 0), (.int 0), (.int 0)] at A208_b1
          have O208 := O207.wr W208 g1
          have N208 := Fr.snoc X208 N207 g1
          refine zaload X208 hx hby at_262 rfl rfl (ziload X208 hx hby at_264 rfl (ziconst X208 hx hby at_266 (z := (1 : Int32)) rfl (ziadd X208 hx hby at_267 (15 : Int32) (by decide) (ziloadN X208 hx hby at_268 rfl (zbipush X208 hx hby at_269 (z := (8 : Int32)) rfl (ziushr X208 hx hby at_271 ((p4.toUInt32 >>> ((8 : Int32) &&& 31).toUInt32).toInt32) rfl (zi2b X208 hx hby at_272 (((p4.toUInt32 >>> ((8 : Int32) &&& 31).toUInt32).toInt32).toInt8.toInt32) rfl ?_)))))))
          show zEnds p e below s T208 (mkF m 273 #[iv p1, iv p2, iv p3, iv p4, rv b1, iv 1, iv 14, iv 3, iv 10, iv 3, iv vc, iv 14] [(.int (((p4.toUInt32 >>> ((8 : Int32) &&& 31).toUInt32).toInt32).toInt8.toInt32)), (.int 15), (.ref b1)]) _ _ _
          generalize e_vz : (((p4.toUInt32 >>> ((8 : Int32) &&& 31).toUInt32).toInt32).toInt8.toInt32) = vz
          have hn_vz : nar .byte vz = vz := by rw [← e_vz]; exact own_nar8 _
          refine zbastore X208 hx hby at_273 hZ e208 A208_b1 (by decide) (by show Int32.toNatClampNeg 15 < 20; decide) vz hn_vz fun T209 h209 X209 e209 W209 A209_b1 => ?_
          change zLst Z h209 b1 .byte [(.int va), (.int 27), (.int ((e1v vs1).toInt8.toInt32)), (.int ((e2v vs1).toInt8.toInt32)), (.int 27), (.int ((e1v vs2).toInt8.toInt32)), (.int ((e2v vs2).toInt8.toInt32)), (.int 27), (.int ((e1v vs3).toInt8.toInt32)), (.int ((e2v vs3).toInt8.toInt32)), (.int vg), (.int 27), (.int ((e1v vs4).toInt8.toInt32)), (.int ((e2v vs4).toInt8.toInt32)), (.int vy), (.int vz), (.int 0), (.int 0), (.int 0), (.int 0)] at A209_b1
          have O209 := O208.wr W209 g1
          have N209 := Fr.snoc X209 N208 g1
          refine zaload X209 hx hby at_274 rfl rfl (ziload X209 hx hby at_276 rfl (ziload X209 hx hby at_278 rfl (zcalls X209 hx hby at_280 hZ hown (w6 hw) (w7 hw) (w8 hw) (w9 hw) e209 (c91_firstCharacter l hw [] ⟨S_w_arr0, A_w_arr0, Al_w_arr0⟩ O209 (zsz O209) b1 va ((e1v vs1).toInt8.toInt32) ((e2v vs1).toInt8.toInt32) ((e1v vs2).toInt8.toInt32) ((e2v vs2).toInt8.toInt32) ((e1v vs3).toInt8.toInt32) ((e2v vs3).toInt8.toInt32) vg ((e1v vs4).toInt8.toInt32) ((e2v vs4).toInt8.toInt32) vy vz g1 A209_b1 h27_vg) hml 0 pd_0 (argsL := [(.ref b1), (.int 1), (.int 14)]) (st := []) (zpureK ⟨rfl, rfl⟩ fun T210 X210 e210 => ?_))))
          show zEnds p e below s T210 (mkF m 283 #[iv p1, iv p2, iv p3, iv p4, rv b1, iv 1, iv 14, iv 3, iv 10, iv 3, iv vc, iv 14] [(.int 10)]) _ _ _
          refine ziload X210 hx hby at_283 rfl (zicmpNo X210 hx hby at_285 (by decide) (ziconst X210 hx hby at_288 (z := (1 : Int32)) rfl (zgoto X210 hx hby at_289 293 (by decide) (by decide) ?_)))
          show zEnds p e below s T210 (mkF m 293 #[iv p1, iv p2, iv p3, iv p4, rv b1, iv 1, iv 14, iv 3, iv 10, iv 3, iv vc, iv 14] [(.int 1)]) _ _ _
          exact zretZ X210 hx hby at_293 hret hlk (by simp) rfl (by decide) (by decide) ⟨rfl, N209⟩
  · rw [q4]
    refine zistore X3 hx hby at_30 (L' := #[iv p1, iv p2, iv p3, iv p4, rv b1, iv 2, .unset, .unset, .unset, .unset, .unset, .unset]) rfl (ziload X3 hx hby at_32 rfl (zistore X3 hx hby at_34 (L' := #[iv p1, iv p2, iv p3, iv p4, rv b1, iv 2, iv 2, .unset, .unset, .unset, .unset, .unset]) rfl (ziloadN X3 hx hby at_36 rfl (ziconst X3 hx hby at_37 (z := (3 : Int32)) rfl (ziand X3 hx hby at_38 (p1 &&& (3 : Int32)) rfl ?_)))))
    show zEnds p e below s T3 (mkF m 39 #[iv p1, iv p2, iv p3, iv p4, rv b1, iv 2, iv 2, .unset, .unset, .unset, .unset, .unset] [(.int (p1 &&& (3 : Int32)))]) _ _ _
    rcases (and_3 p1) with q211 | q211 | q211 | q211
    · rw [q211]
      refine zistore X3 hx hby at_39 (L' := #[iv p1, iv p2, iv p3, iv p4, rv b1, iv 2, iv 2, iv 0, .unset, .unset, .unset, .unset]) rfl (ziload X3 hx hby at_41 rfl (zifYes X3 hx hby at_43 60 (by decide) (by decide) (by decide) (ziload X3 hx hby at_60 rfl (ziconst X3 hx hby at_62 (z := (1 : Int32)) rfl (zicmpYes X3 hx hby at_63 80 (by decide) (by decide) (by decide) (ziload X3 hx hby at_80 rfl (ziconst X3 hx hby at_82 (z := (2 : Int32)) rfl (zicmpYes X3 hx hby at_83 101 (by decide) (by decide) (by decide) (ziload X3 hx hby at_101 rfl ?_)))))))))
      show zEnds p e below s T3 (mkF m 103 #[iv p1, iv p2, iv p3, iv p4, rv b1, iv 2, iv 2, iv 0, .unset, .unset, .unset, .unset] [(.int 2)]) _ _ _
      refine zistore X3 hx hby at_103 (L' := #[iv p1, iv p2, iv p3, iv p4, rv b1, iv 2, iv 2, iv 0, iv 2, .unset, .unset, .unset]) rfl (ziloadN X3 hx hby at_105 rfl (ziconst X3 hx hby at_106 (z := (3 : Int32)) rfl (ziand X3 hx hby at_107 (p2 &&& (3 : Int32)) rfl ?_)))
      show zEnds p e below s T3 (mkF m 108 #[iv p1, iv p2, iv p3, iv p4, rv b1, iv 2, iv 2, iv 0, iv 2, .unset, .unset, .unset] [(.int (p2 &&& (3 : Int32)))]) _ _ _
      rcases (and_3 p2) with q212 | q212 | q212 | q212
      · rw [q212]
        refine zistore X3 hx hby at_108 (L' := #[iv p1, iv p2, iv p3, iv p4, rv b1, iv 2, iv 2, iv 0, iv 2, iv 0, .unset, .unset]) rfl (ziloadN X3 hx hby at_110 rfl (ziconst X3 hx hby at_111 (z := (2 : Int32)) rfl (ziushr X3 hx hby at_112 ((p2.toUInt32 >>> ((2 : Int32) &&& 31).toUInt32).toInt32) rfl (zbipush X3 hx hby at_113 (z := (127 : Int32)) rfl (ziand X3 hx hby at_115 (((p2.toUInt32 >>> ((2 : Int32) &&& 31).toUInt32).toInt32) &&& (127 : Int32)) rfl ?_)))))
        show zEnds p e below s T3 (mkF m 116 #[iv p1, iv p2, iv p3, iv p4, rv b1, iv 2, iv 2, iv 0, iv 2, iv 0, .unset, .unset] [(.int (((p2.toUInt32 >>> ((2 : Int32) &&& 31).toUInt32).toInt32) &&& (127 : Int32)))]) _ _ _
        generalize e_vc : (((p2.toUInt32 >>> ((2 : Int32) &&& 31).toUInt32).toInt32) &&& (127 : Int32)) = vc
        have kc : 0 ≤ vc.toInt ∧ vc.toInt ≤ 127 := by rw [← e_vc]; exact own_c _
        refine zistore X3 hx hby at_116 (L' := #[iv p1, iv p2, iv p3, iv p4, rv b1, iv 2, iv 2, iv 0, iv 2, iv 0, iv vc, .unset]) rfl (ziload X3 hx hby at_118 rfl (ziconst X3 hx hby at_120 (z := (1 : Int32)) rfl (zicmpNo X3 hx hby at_121 (by decide) (ziload X3 hx hby at_124 rfl (ziconst X3 hx hby at_126 (z := (3 : Int32)) rfl (zicmpYes X3 hx hby at_127 140 (by decide) (by decide) (by decide) (ziload X3 hx hby at_140 rfl (ziconst X3 hx hby at_142 (z := (1 : Int32)) rfl (zicmpYes X3 hx hby at_143 163 (by decide) (by decide) (by decide) ?_)))))))))
        show zEnds p e below s T3 (mkF m 163 #[iv p1, iv p2, iv p3, iv p4, rv b1, iv 2, iv 2, iv 0, iv 2, iv 0, iv vc, .unset] []) _ _ _
        refine ziload X3 hx hby at_163 rfl (ziconst X3 hx hby at_165 (z := (2 : Int32)) rfl (zicmpYes X3 hx hby at_166 220 (by decide) (by decide) (by decide) (ziload X3 hx hby at_220 rfl (ziconst X3 hx hby at_222 (z := (3 : Int32)) rfl (zicmpYes X3 hx hby at_223 251 (by decide) (by decide) (by decide) (ziload X3 hx hby at_251 rfl (zistore X3 hx hby at_253 (L' := #[iv p1, iv p2, iv p3, iv p4, rv b1, iv 2, iv 2, iv 0, iv 2, iv 0, iv vc, iv 2]) rfl (zaload X3 hx hby at_255 rfl rfl (ziload X3 hx hby at_257 rfl ?_)))))))))
        show zEnds p e below s T3 (mkF m 259 #[iv p1, iv p2, iv p3, iv p4, rv b1, iv 2, iv 2, iv 0, iv 2, iv 0, iv vc, iv 2] [(.int 2), (.ref b1)]) _ _ _
        refine ziloadN X3 hx hby at_259 rfl (zi2b X3 hx hby at_260 (p4.toInt8.toInt32) rfl ?_)
        show zEnds p e below s T3 (mkF m 261 #[iv p1, iv p2, iv p3, iv p4, rv b1, iv 2, iv 2, iv 0, iv 2, iv 0, iv vc, iv 2] [(.int (p4.toInt8.toInt32)), (.int 2), (.ref b1)]) _ _ _
        generalize e_vy : (p4.toInt8.toInt32) = vy
        have hn_vy : nar .byte vy = vy := by rw [← e_vy]; exact own_nar8 _
        refine zbastore X3 hx hby at_261 hZ e3 A3_b1 (by decide) (by show Int32.toNatClampNeg 2 < 20; decide) vy hn_vy fun T213 h213 X213 e213 W213 A213_b1 => ?_
        change zLst Z h213 b1 .byte [(.int va), (.int vb), (.int vy), (.int 0), (.int 0), (.int 0), (.int 0), (.int 0), (.int 0), (.int 0), (.int 0), (.int 0), (.int 0), (.int 0), (.int 0), (.int 0), (.int 0), (.int 0), (.int 0), (.int 0)] at A213_b1
        have O213 := O3.wr W213 g1
        have N213 := Fr.snoc X213 N3 g1
        refine zaload X213 hx hby at_262 rfl rfl (ziload X213 hx hby at_264 rfl (ziconst X213 hx hby at_266 (z := (1 : Int32)) rfl (ziadd X213 hx hby at_267 (3 : Int32) (by decide) (ziloadN X213 hx hby at_268 rfl (zbipush X213 hx hby at_269 (z := (8 : Int32)) rfl (ziushr X213 hx hby at_271 ((p4.toUInt32 >>> ((8 : Int32) &&& 31).toUInt32).toInt32) rfl (zi2b X213 hx hby at_272 (((p4.toUInt32 >>> ((8 : Int32) &&& 31).toUInt32).toInt32).toInt8.toInt32) rfl ?_)))))))
        show zEnds p e below s T213 (mkF m 273 #[iv p1, iv p2, iv p3, iv p4, rv b1, iv 2, iv 2, iv 0, iv 2, iv 0, iv vc, iv 2] [(.int (((p4.toUInt32 >>> ((8 : Int32) &&& 31).toUInt32).toInt32).toInt8.toInt32)), (.int 3), (.ref b1)]) _ _ _
        generalize e_vz : (((p4.toUInt32 >>> ((8 : Int32) &&& 31).toUInt32).toInt32).toInt8.toInt32) = vz
        have hn_vz : nar .byte vz = vz := by rw [← e_vz]; exact own_nar8 _
        refine zbastore X213 hx hby at_273 hZ e213 A213_b1 (by decide) (by show Int32.toNatClampNeg 3 < 20; decide) vz hn_vz fun T214 h214 X214 e214 W214 A214_b1 => ?_
        change zLst Z h214 b1 .byte [(.int va), (.int vb), (.int vy), (.int vz), (.int 0), (.int 0), (.int 0), (.int 0), (.int 0), (.int 0), (.int 0), (.int 0), (.int 0), (.int 0), (.int 0), (.int 0), (.int 0), (.int 0), (.int 0), (.int 0)] at A214_b1
        have O214 := O213.wr W214 g1
        have N214 := Fr.snoc X214 N213 g1
        refine zaload X214 hx hby at_274 rfl rfl (ziload X214 hx hby at_276 rfl (ziload X214 hx hby at_278 rfl (zcalls X214 hx hby at_280 hZ hown (w6 hw) (w7 hw) (w8 hw) (w9 hw) e214 (c93_firstCharacter l hw [] ⟨S_w_arr0, A_w_arr0, Al_w_arr0⟩ O214 (zsz O214) b1 va vb vy vz g1 A214_b1) hml 0 pd_0 (argsL := [(.ref b1), (.int 2), (.int 2)]) (st := []) (zpureK ⟨rfl, rfl⟩ fun T215 X215 e215 => ?_))))
        show zEnds p e below s T215 (mkF m 283 #[iv p1, iv p2, iv p3, iv p4, rv b1, iv 2, iv 2, iv 0, iv 2, iv 0, iv vc, iv 2] [(.int 2)]) _ _ _
        refine ziload X215 hx hby at_283 rfl (zicmpNo X215 hx hby at_285 (by decide) (ziconst X215 hx hby at_288 (z := (1 : Int32)) rfl (zgoto X215 hx hby at_289 293 (by decide) (by decide) ?_)))
        show zEnds p e below s T215 (mkF m 293 #[iv p1, iv p2, iv p3, iv p4, rv b1, iv 2, iv 2, iv 0, iv 2, iv 0, iv vc, iv 2] [(.int 1)]) _ _ _
        exact zretZ X215 hx hby at_293 hret hlk (by simp) rfl (by decide) (by decide) ⟨rfl, N214⟩
      · rw [q212]
        refine zistore X3 hx hby at_108 (L' := #[iv p1, iv p2, iv p3, iv p4, rv b1, iv 2, iv 2, iv 0, iv 2, iv 1, .unset, .unset]) rfl (ziloadN X3 hx hby at_110 rfl (ziconst X3 hx hby at_111 (z := (2 : Int32)) rfl (ziushr X3 hx hby at_112 ((p2.toUInt32 >>> ((2 : Int32) &&& 31).toUInt32).toInt32) rfl (zbipush X3 hx hby at_113 (z := (127 : Int32)) rfl (ziand X3 hx hby at_115 (((p2.toUInt32 >>> ((2 : Int32) &&& 31).toUInt32).toInt32) &&& (127 : Int32)) rfl ?_)))))
        show zEnds p e below s T3 (mkF m 116 #[iv p1, iv p2, iv p3, iv p4, rv b1, iv 2, iv 2, iv 0, iv 2, iv 1, .unset, .unset] [(.int (((p2.toUInt32 >>> ((2 : Int32) &&& 31).toUInt32).toInt32) &&& (127 : Int32)))]) _ _ _
        generalize e_vc : (((p2.toUInt32 >>> ((2 : Int32) &&& 31).toUInt32).toInt32) &&& (127 : Int32)) = vc
        have kc : 0 ≤ vc.toInt ∧ vc.toInt ≤ 127 := by rw [← e_vc]; exact own_c _
        refine zistore X3 hx hby at_116 (L' := #[iv p1, iv p2, iv p3, iv p4, rv b1, iv 2, iv 2, iv 0, iv 2, iv 1, iv vc, .unset]) rfl (ziload X3 hx hby at_118 rfl (ziconst X3 hx hby at_120 (z := (1 : Int32)) rfl (zicmpYes X3 hx hby at_121 130 (by decide) (by decide) (by decide) (ziload X3 hx hby at_130 rfl (zbipush X3 hx hby at_132 (z := (27 : Int32)) rfl ?_)))))
        show zEnds p e below s T3 (mkF m 134 #[iv p1, iv p2, iv p3, iv p4, rv b1, iv 2, iv 2, iv 0, iv 2, iv 1, iv vc, .unset] [(.int 27), (.int vc)]) _ _ _
        by_cases hc27 : vc = (27 : Int32)
        · show zEnds p e below s T3 (mkF m 134 #[iv p1, iv p2, iv p3, iv p4, rv b1, iv 2, iv 2, iv 0, iv 2, iv 1, iv vc, .unset] [(.int 27), (.int vc)]) _ _ _
          refine zicmpNo X3 hx hby at_134 (teq hc27).2 (ziconst X3 hx hby at_137 (z := (0 : Int32)) rfl (zistore X3 hx hby at_138 (L' := #[iv p1, iv p2, iv p3, iv p4, rv b1, iv 2, iv 2, iv 0, iv 2, iv 0, iv vc, .unset]) rfl (ziload X3 hx hby at_140 rfl (ziconst X3 hx hby at_142 (z := (1 : Int32)) rfl (zicmpYes X3 hx hby at_143 163 (by decide) (by decide) (by decide) (ziload X3 hx hby at_163 rfl (ziconst X3 hx hby at_165 (z := (2 : Int32)) rfl (zicmpYes X3 hx hby at_166 220 (by decide) (by decide) (by decide) (ziload X3 hx hby at_220 rfl ?_)))))))))
          show zEnds p e below s T3 (mkF m 222 #[iv p1, iv p2, iv p3, iv p4, rv b1, iv 2, iv 2, iv 0, iv 2, iv 0, iv vc, .unset] [(.int 0)]) _ _ _
          refine ziconst X3 hx hby at_222 (z := (3 : Int32)) rfl (zicmpYes X3 hx hby at_223 251 (by decide) (by decide) (by decide) (ziload X3 hx hby at_251 rfl (zistore X3 hx hby at_253 (L' := #[iv p1, iv p2, iv p3, iv p4, rv b1, iv 2, iv 2, iv 0, iv 2, iv 0, iv vc, iv 2]) rfl (zaload X3 hx hby at_255 rfl rfl (ziload X3 hx hby at_257 rfl (ziloadN X3 hx hby at_259 rfl (zi2b X3 hx hby at_260 (p4.toInt8.toInt32) rfl ?_)))))))
          show zEnds p e below s T3 (mkF m 261 #[iv p1, iv p2, iv p3, iv p4, rv b1, iv 2, iv 2, iv 0, iv 2, iv 0, iv vc, iv 2] [(.int (p4.toInt8.toInt32)), (.int 2), (.ref b1)]) _ _ _
          generalize e_vy : (p4.toInt8.toInt32) = vy
          have hn_vy : nar .byte vy = vy := by rw [← e_vy]; exact own_nar8 _
          refine zbastore X3 hx hby at_261 hZ e3 A3_b1 (by decide) (by show Int32.toNatClampNeg 2 < 20; decide) vy hn_vy fun T216 h216 X216 e216 W216 A216_b1 => ?_
          change zLst Z h216 b1 .byte [(.int va), (.int vb), (.int vy), (.int 0), (.int 0), (.int 0), (.int 0), (.int 0), (.int 0), (.int 0), (.int 0), (.int 0), (.int 0), (.int 0), (.int 0), (.int 0), (.int 0), (.int 0), (.int 0), (.int 0)] at A216_b1
          have O216 := O3.wr W216 g1
          have N216 := Fr.snoc X216 N3 g1
          refine zaload X216 hx hby at_262 rfl rfl (ziload X216 hx hby at_264 rfl (ziconst X216 hx hby at_266 (z := (1 : Int32)) rfl (ziadd X216 hx hby at_267 (3 : Int32) (by decide) (ziloadN X216 hx hby at_268 rfl (zbipush X216 hx hby at_269 (z := (8 : Int32)) rfl (ziushr X216 hx hby at_271 ((p4.toUInt32 >>> ((8 : Int32) &&& 31).toUInt32).toInt32) rfl (zi2b X216 hx hby at_272 (((p4.toUInt32 >>> ((8 : Int32) &&& 31).toUInt32).toInt32).toInt8.toInt32) rfl ?_)))))))
          show zEnds p e below s T216 (mkF m 273 #[iv p1, iv p2, iv p3, iv p4, rv b1, iv 2, iv 2, iv 0, iv 2, iv 0, iv vc, iv 2] [(.int (((p4.toUInt32 >>> ((8 : Int32) &&& 31).toUInt32).toInt32).toInt8.toInt32)), (.int 3), (.ref b1)]) _ _ _
          generalize e_vz : (((p4.toUInt32 >>> ((8 : Int32) &&& 31).toUInt32).toInt32).toInt8.toInt32) = vz
          have hn_vz : nar .byte vz = vz := by rw [← e_vz]; exact own_nar8 _
          refine zbastore X216 hx hby at_273 hZ e216 A216_b1 (by decide) (by show Int32.toNatClampNeg 3 < 20; decide) vz hn_vz fun T217 h217 X217 e217 W217 A217_b1 => ?_
          change zLst Z h217 b1 .byte [(.int va), (.int vb), (.int vy), (.int vz), (.int 0), (.int 0), (.int 0), (.int 0), (.int 0), (.int 0), (.int 0), (.int 0), (.int 0), (.int 0), (.int 0), (.int 0), (.int 0), (.int 0), (.int 0), (.int 0)] at A217_b1
          have O217 := O216.wr W217 g1
          have N217 := Fr.snoc X217 N216 g1
          refine zaload X217 hx hby at_274 rfl rfl (ziload X217 hx hby at_276 rfl (ziload X217 hx hby at_278 rfl (zcalls X217 hx hby at_280 hZ hown (w6 hw) (w7 hw) (w8 hw) (w9 hw) e217 (c93_firstCharacter l hw [] ⟨S_w_arr0, A_w_arr0, Al_w_arr0⟩ O217 (zsz O217) b1 va vb vy vz g1 A217_b1) hml 0 pd_0 (argsL := [(.ref b1), (.int 2), (.int 2)]) (st := []) (zpureK ⟨rfl, rfl⟩ fun T218 X218 e218 => ?_))))
          show zEnds p e below s T218 (mkF m 283 #[iv p1, iv p2, iv p3, iv p4, rv b1, iv 2, iv 2, iv 0, iv 2, iv 0, iv vc, iv 2] [(.int 2)]) _ _ _
          refine ziload X218 hx hby at_283 rfl (zicmpNo X218 hx hby at_285 (by decide) (ziconst X218 hx hby at_288 (z := (1 : Int32)) rfl (zgoto X218 hx hby at_289 293 (by decide) (by decide) ?_)))
          show zEnds p e below s T218 (mkF m 293 #[iv p1, iv p2, iv p3, iv p4, rv b1, iv 2, iv 2, iv 0, iv 2, iv 0, iv vc, iv 2] [(.int 1)]) _ _ _
          exact zretZ X218 hx hby at_293 hret hlk (by simp) rfl (by decide) (by decide) ⟨rfl, N217⟩
        · show zEnds p e below s T3 (mkF m 134 #[iv p1, iv p2, iv p3, iv p4, rv b1, iv 2, iv 2, iv 0, iv 2, iv 1, iv vc, .unset] [(.int 27), (.int vc)]) _ _ _
          refine zicmpYes X3 hx hby at_134 140 (feq hc27).2 (by decide) (by decide) (ziload X3 hx hby at_140 rfl (ziconst X3 hx hby at_142 (z := (1 : Int32)) rfl (zicmpNo X3 hx hby at_143 (by decide) (zaload X3 hx hby at_146 rfl rfl (ziload X3 hx hby at_148 rfl (ziload X3 hx hby at_150 rfl (zi2b X3 hx hby at_152 (vc.toInt8.toInt32) rfl ?_)))))))
          show zEnds p e below s T3 (mkF m 153 #[iv p1, iv p2, iv p3, iv p4, rv b1, iv 2, iv 2, iv 0, iv 2, iv 1, iv vc, .unset] [(.int (vc.toInt8.toInt32)), (.int 2), (.ref b1)]) _ _ _
          generalize e_vd : (vc.toInt8.toInt32) = vd
          have hn_vd : nar .byte vd = vd := by rw [← e_vd]; exact own_nar8 _
          have h27_vd : ¬ (vd = (27 : Int32)) := by rw [← e_vd]; exact own_27 kc hc27
          refine zbastore X3 hx hby at_153 hZ e3 A3_b1 (by decide) (by show Int32.toNatClampNeg 2 < 20; decide) vd hn_vd fun T219 h219 X219 e219 W219 A219_b1 => ?_
          change zLst Z h219 b1 .byte [(.int va), (.int vb), (.int vd), (.int 0), (.int 0), (.int 0), (.int 0), (.int 0), (.int 0), (.int 0), (.int 0), (.int 0), (.int 0), (.int 0), (.int 0), (.int 0), (.int 0), (.int 0), (.int 0), (.int 0)] at A219_b1
          have O219 := O3.wr W219 g1
          have N219 := Fr.snoc X219 N3 g1
          refine ziload X219 hx hby at_154 rfl (ziconst X219 hx hby at_156 (z := (1 : Int32)) rfl (ziadd X219 hx hby at_157 (3 : Int32) (by decide) (zistore X219 hx hby at_158 (L' := #[iv p1, iv p2, iv p3, iv p4, rv b1, iv 2, iv 3, iv 0, iv 2, iv 1, iv vc, .unset]) rfl (zgoto X219 hx hby at_160 251 (by decide) (by decide) (ziload X219 hx hby at_251 rfl (zistore X219 hx hby at_253 (L' := #[iv p1, iv p2, iv p3, iv p4, rv b1, iv 2, iv 3, iv 0, iv 2, iv 1, iv vc, iv 3]) rfl (zaload X219 hx hby at_255 rfl rfl (ziload X219 hx hby at_257 rfl (ziloadN X219 hx hby at_259 rfl ?_)))))))))
          show zEnds p e below s T219 (mkF m 260 #[iv p1, iv p2, iv p3, iv p4, rv b1, iv 2, iv 3, iv 0, iv 2, iv 1, iv vc, iv 3] [(.int p4), (.int 3), (.ref b1)]) _ _ _
          refine zi2b X219 hx hby at_260 (p4.toInt8.toInt32) rfl ?_
          show zEnds p e below s T219 (mkF m 261 #[iv p1, iv p2, iv p3, iv p4, rv b1, iv 2, iv 3, iv 0, iv 2, iv 1, iv vc, iv 3] [(.int (p4.toInt8.toInt32)), (.int 3), (.ref b1)]) _ _ _
          generalize e_vy : (p4.toInt8.toInt32) = vy
          have hn_vy : nar .byte vy = vy := by rw [← e_vy]; exact own_nar8 _
          refine zbastore X219 hx hby at_261 hZ e219 A219_b1 (by decide) (by show Int32.toNatClampNeg 3 < 20; decide) vy hn_vy fun T220 h220 X220 e220 W220 A220_b1 => ?_
          change zLst Z h220 b1 .byte [(.int va), (.int vb), (.int vd), (.int vy), (.int 0), (.int 0), (.int 0), (.int 0), (.int 0), (.int 0), (.int 0), (.int 0), (.int 0), (.int 0), (.int 0), (.int 0), (.int 0), (.int 0), (.int 0), (.int 0)] at A220_b1
          have O220 := O219.wr W220 g1
          have N220 := Fr.snoc X220 N219 g1
          refine zaload X220 hx hby at_262 rfl rfl (ziload X220 hx hby at_264 rfl (ziconst X220 hx hby at_266 (z := (1 : Int32)) rfl (ziadd X220 hx hby at_267 (4 : Int32) (by decide) (ziloadN X220 hx hby at_268 rfl (zbipush X220 hx hby at_269 (z := (8 : Int32)) rfl (ziushr X220 hx hby at_271 ((p4.toUInt32 >>> ((8 : Int32) &&& 31).toUInt32).toInt32) rfl (zi2b X220 hx hby at_272 (((p4.toUInt32 >>> ((8 : Int32) &&& 31).toUInt32).toInt32).toInt8.toInt32) rfl ?_)))))))
          show zEnds p e below s T220 (mkF m 273 #[iv p1, iv p2, iv p3, iv p4, rv b1, iv 2, iv 3, iv 0, iv 2, iv 1, iv vc, iv 3] [(.int (((p4.toUInt32 >>> ((8 : Int32) &&& 31).toUInt32).toInt32).toInt8.toInt32)), (.int 4), (.ref b1)]) _ _ _
          generalize e_vz : (((p4.toUInt32 >>> ((8 : Int32) &&& 31).toUInt32).toInt32).toInt8.toInt32) = vz
          have hn_vz : nar .byte vz = vz := by rw [← e_vz]; exact own_nar8 _
          refine zbastore X220 hx hby at_273 hZ e220 A220_b1 (by decide) (by show Int32.toNatClampNeg 4 < 20; decide) vz hn_vz fun T221 h221 X221 e221 W221 A221_b1 => ?_
          change zLst Z h221 b1 .byte [(.int va), (.int vb), (.int vd), (.int vy), (.int vz), (.int 0), (.int 0), (.int 0), (.int 0), (.int 0), (.int 0), (.int 0), (.int 0), (.int 0), (.int 0), (.int 0), (.int 0), (.int 0), (.int 0), (.int 0)] at A221_b1
          have O221 := O220.wr W221 g1
          have N221 := Fr.snoc X221 N220 g1
          refine zaload X221 hx hby at_274 rfl rfl (ziload X221 hx hby at_276 rfl (ziload X221 hx hby at_278 rfl (zcalls X221 hx hby at_280 hZ hown (w6 hw) (w7 hw) (w8 hw) (w9 hw) e221 (c95_firstCharacter l hw [] ⟨S_w_arr0, A_w_arr0, Al_w_arr0⟩ O221 (zsz O221) b1 va vb vd vy vz g1 A221_b1 h27_vd) hml 0 pd_0 (argsL := [(.ref b1), (.int 2), (.int 3)]) (st := []) (zpureK ⟨rfl, rfl⟩ fun T222 X222 e222 => ?_))))
          show zEnds p e below s T222 (mkF m 283 #[iv p1, iv p2, iv p3, iv p4, rv b1, iv 2, iv 3, iv 0, iv 2, iv 1, iv vc, iv 3] [(.int 2)]) _ _ _
          refine ziload X222 hx hby at_283 rfl (zicmpNo X222 hx hby at_285 (by decide) (ziconst X222 hx hby at_288 (z := (1 : Int32)) rfl (zgoto X222 hx hby at_289 293 (by decide) (by decide) ?_)))
          show zEnds p e below s T222 (mkF m 293 #[iv p1, iv p2, iv p3, iv p4, rv b1, iv 2, iv 3, iv 0, iv 2, iv 1, iv vc, iv 3] [(.int 1)]) _ _ _
          exact zretZ X222 hx hby at_293 hret hlk (by simp) rfl (by decide) (by decide) ⟨rfl, N221⟩
      · rw [q212]
        refine zistore X3 hx hby at_108 (L' := #[iv p1, iv p2, iv p3, iv p4, rv b1, iv 2, iv 2, iv 0, iv 2, iv 2, .unset, .unset]) rfl (ziloadN X3 hx hby at_110 rfl (ziconst X3 hx hby at_111 (z := (2 : Int32)) rfl (ziushr X3 hx hby at_112 ((p2.toUInt32 >>> ((2 : Int32) &&& 31).toUInt32).toInt32) rfl (zbipush X3 hx hby at_113 (z := (127 : Int32)) rfl (ziand X3 hx hby at_115 (((p2.toUInt32 >>> ((2 : Int32) &&& 31).toUInt32).toInt32) &&& (127 : Int32)) rfl ?_)))))
        show zEnds p e below s T3 (mkF m 116 #[iv p1, iv p2, iv p3, iv p4, rv b1, iv 2, iv 2, iv 0, iv 2, iv 2, .unset, .unset] [(.int (((p2.toUInt32 >>> ((2 : Int32) &&& 31).toUInt32).toInt32) &&& (127 : Int32)))]) _ _ _
        generalize e_vc : (((p2.toUInt32 >>> ((2 : Int32) &&& 31).toUInt32).toInt32) &&& (127 : Int32)) = vc
        have kc : 0 ≤ vc.toInt ∧ vc.toInt ≤ 127 := by rw [← e_vc]; exact own_c _
        refine zistore X3 hx hby at_116 (L' := #[iv p1, iv p2, iv p3, iv p4, rv b1, iv 2, iv 2, iv 0, iv 2, iv 2, iv vc, .unset]) rfl (ziload X3 hx hby at_118 rfl (ziconst X3 hx hby at_120 (z := (1 : Int32)) rfl (zicmpNo X3 hx hby at_121 (by decide) (ziload X3 hx hby at_124 rfl (ziconst X3 hx hby at_126 (z := (3 : Int32)) rfl (zicmpYes X3 hx hby at_127 140 (by decide) (by decide) (by decide) (ziload X3 hx hby at_140 rfl (ziconst X3 hx hby at_142 (z := (1 : Int32)) rfl (zicmpYes X3 hx hby at_143 163 (by decide) (by decide) (by decide) ?_)))))))))
        show zEnds p e below s T3 (mkF m 163 #[iv p1, iv p2, iv p3, iv p4, rv b1, iv 2, iv 2, iv 0, iv 2, iv 2, iv vc, .unset] []) _ _ _
        refine ziload X3 hx hby at_163 rfl (ziconst X3 hx hby at_165 (z := (2 : Int32)) rfl (zicmpNo X3 hx hby at_166 (by decide) (zaload X3 hx hby at_169 rfl rfl (ziload X3 hx hby at_171 rfl (zbipush X3 hx hby at_173 (z := (48 : Int32)) rfl (ziloadN X3 hx hby at_175 rfl (zbipush X3 hx hby at_176 (z := (9 : Int32)) rfl (ziushr X3 hx hby at_178 ((p2.toUInt32 >>> ((9 : Int32) &&& 31).toUInt32).toInt32) rfl (zsipush X3 hx hby at_179 (z := (255 : Int32)) rfl ?_)))))))))
        show zEnds p e below s T3 (mkF m 182 #[iv p1, iv p2, iv p3, iv p4, rv b1, iv 2, iv 2, iv 0, iv 2, iv 2, iv vc, .unset] [(.int 255), (.int ((p2.toUInt32 >>> ((9 : Int32) &&& 31).toUInt32).toInt32)), (.int 48), (.int 2), (.ref b1)]) _ _ _
        refine ziand X3 hx hby at_182 (((p2.toUInt32 >>> ((9 : Int32) &&& 31).toUInt32).toInt32) &&& (255 : Int32)) rfl (zbipush X3 hx hby at_183 (z := (31 : Int32)) rfl (zirem X3 hx hby at_185 ((((p2.toUInt32 >>> ((9 : Int32) &&& 31).toUInt32).toInt32) &&& (255 : Int32)) % (31 : Int32)) (by decide) rfl (ziadd X3 hx hby at_186 ((48 : Int32) + ((((p2.toUInt32 >>> ((9 : Int32) &&& 31).toUInt32).toInt32) &&& (255 : Int32)) % (31 : Int32))) rfl (zi2b X3 hx hby at_187 (((48 : Int32) + ((((p2.toUInt32 >>> ((9 : Int32) &&& 31).toUInt32).toInt32) &&& (255 : Int32)) % (31 : Int32))).toInt8.toInt32) rfl ?_))))
        show zEnds p e below s T3 (mkF m 188 #[iv p1, iv p2, iv p3, iv p4, rv b1, iv 2, iv 2, iv 0, iv 2, iv 2, iv vc, .unset] [(.int (((48 : Int32) + ((((p2.toUInt32 >>> ((9 : Int32) &&& 31).toUInt32).toInt32) &&& (255 : Int32)) % (31 : Int32))).toInt8.toInt32)), (.int 2), (.ref b1)]) _ _ _
        generalize e_ve : (((48 : Int32) + ((((p2.toUInt32 >>> ((9 : Int32) &&& 31).toUInt32).toInt32) &&& (255 : Int32)) % (31 : Int32))).toInt8.toInt32) = ve
        have hn_ve : nar .byte ve = ve := by rw [← e_ve]; exact own_nar8 _
        have h27_ve : ¬ (ve = (27 : Int32)) := by rw [← e_ve]; exact own_48 _
        refine zbastore X3 hx hby at_188 hZ e3 A3_b1 (by decide) (by show Int32.toNatClampNeg 2 < 20; decide) ve hn_ve fun T223 h223 X223 e223 W223 A223_b1 => ?_
        change zLst Z h223 b1 .byte [(.int va), (.int vb), (.int ve), (.int 0), (.int 0), (.int 0), (.int 0), (.int 0), (.int 0), (.int 0), (.int 0), (.int 0), (.int 0), (.int 0), (.int 0), (.int 0), (.int 0), (.int 0), (.int 0), (.int 0)] at A223_b1
        have O223 := O3.wr W223 g1
        have N223 := Fr.snoc X223 N3 g1
        refine zaload X223 hx hby at_189 rfl rfl (ziload X223 hx hby at_191 rfl (ziconst X223 hx hby at_193 (z := (1 : Int32)) rfl (ziadd X223 hx hby at_194 (3 : Int32) (by decide) (zbipush X223 hx hby at_195 (z := (33 : Int32)) rfl (ziloadN X223 hx hby at_197 rfl (zbipush X223 hx hby at_198 (z := (17 : Int32)) rfl (ziushr X223 hx hby at_200 ((p2.toUInt32 >>> ((17 : Int32) &&& 31).toUInt32).toInt32) rfl (zsipush X223 hx hby at_201 (z := (255 : Int32)) rfl (ziand X223 hx hby at_204 (((p2.toUInt32 >>> ((17 : Int32) &&& 31).toUInt32).toInt32) &&& (255 : Int32)) rfl ?_)))))))))
        show zEnds p e below s T223 (mkF m 205 #[iv p1, iv p2, iv p3, iv p4, rv b1, iv 2, iv 2, iv 0, iv 2, iv 2, iv vc, .unset] [(.int (((p2.toUInt32 >>> ((17 : Int32) &&& 31).toUInt32).toInt32) &&& (255 : Int32))), (.int 33), (.int 3), (.ref b1)]) _ _ _
        refine zbipush X223 hx hby at_205 (z := (94 : Int32)) rfl (zirem X223 hx hby at_207 ((((p2.toUInt32 >>> ((17 : Int32) &&& 31).toUInt32).toInt32) &&& (255 : Int32)) % (94 : Int32)) (by decide) rfl (ziadd X223 hx hby at_208 ((33 : Int32) + ((((p2.toUInt32 >>> ((17 : Int32) &&& 31).toUInt32).toInt32) &&& (255 : Int32)) % (94 : Int32))) rfl (zi2b X223 hx hby at_209 (((33 : Int32) + ((((p2.toUInt32 >>> ((17 : Int32) &&& 31).toUInt32).toInt32) &&& (255 : Int32)) % (94 : Int32))).toInt8.toInt32) rfl ?_)))
        show zEnds p e below s T223 (mkF m 210 #[iv p1, iv p2, iv p3, iv p4, rv b1, iv 2, iv 2, iv 0, iv 2, iv 2, iv vc, .unset] [(.int (((33 : Int32) + ((((p2.toUInt32 >>> ((17 : Int32) &&& 31).toUInt32).toInt32) &&& (255 : Int32)) % (94 : Int32))).toInt8.toInt32)), (.int 3), (.ref b1)]) _ _ _
        generalize e_vf : (((33 : Int32) + ((((p2.toUInt32 >>> ((17 : Int32) &&& 31).toUInt32).toInt32) &&& (255 : Int32)) % (94 : Int32))).toInt8.toInt32) = vf
        have hn_vf : nar .byte vf = vf := by rw [← e_vf]; exact own_nar8 _
        refine zbastore X223 hx hby at_210 hZ e223 A223_b1 (by decide) (by show Int32.toNatClampNeg 3 < 20; decide) vf hn_vf fun T224 h224 X224 e224 W224 A224_b1 => ?_
        change zLst Z h224 b1 .byte [(.int va), (.int vb), (.int ve), (.int vf), (.int 0), (.int 0), (.int 0), (.int 0), (.int 0), (.int 0), (.int 0), (.int 0), (.int 0), (.int 0), (.int 0), (.int 0), (.int 0), (.int 0), (.int 0), (.int 0)] at A224_b1
        have O224 := O223.wr W224 g1
        have N224 := Fr.snoc X224 N223 g1
        refine ziload X224 hx hby at_211 rfl (ziconst X224 hx hby at_213 (z := (2 : Int32)) rfl (ziadd X224 hx hby at_214 (4 : Int32) (by decide) (zistore X224 hx hby at_215 (L' := #[iv p1, iv p2, iv p3, iv p4, rv b1, iv 2, iv 4, iv 0, iv 2, iv 2, iv vc, .unset]) rfl (zgoto X224 hx hby at_217 251 (by decide) (by decide) (ziload X224 hx hby at_251 rfl (zistore X224 hx hby at_253 (L' := #[iv p1, iv p2, iv p3, iv p4, rv b1, iv 2, iv 4, iv 0, iv 2, iv 2, iv vc, iv 4]) rfl (zaload X224 hx hby at_255 rfl rfl (ziload X224 hx hby at_257 rfl (ziloadN X224 hx hby at_259 rfl ?_)))))))))
        show zEnds p e below s T224 (mkF m 260 #[iv p1, iv p2, iv p3, iv p4, rv b1, iv 2, iv 4, iv 0, iv 2, iv 2, iv vc, iv 4] [(.int p4), (.int 4), (.ref b1)]) _ _ _
        refine zi2b X224 hx hby at_260 (p4.toInt8.toInt32) rfl ?_
        show zEnds p e below s T224 (mkF m 261 #[iv p1, iv p2, iv p3, iv p4, rv b1, iv 2, iv 4, iv 0, iv 2, iv 2, iv vc, iv 4] [(.int (p4.toInt8.toInt32)), (.int 4), (.ref b1)]) _ _ _
        generalize e_vy : (p4.toInt8.toInt32) = vy
        have hn_vy : nar .byte vy = vy := by rw [← e_vy]; exact own_nar8 _
        refine zbastore X224 hx hby at_261 hZ e224 A224_b1 (by decide) (by show Int32.toNatClampNeg 4 < 20; decide) vy hn_vy fun T225 h225 X225 e225 W225 A225_b1 => ?_
        change zLst Z h225 b1 .byte [(.int va), (.int vb), (.int ve), (.int vf), (.int vy), (.int 0), (.int 0), (.int 0), (.int 0), (.int 0), (.int 0), (.int 0), (.int 0), (.int 0), (.int 0), (.int 0), (.int 0), (.int 0), (.int 0), (.int 0)] at A225_b1
        have O225 := O224.wr W225 g1
        have N225 := Fr.snoc X225 N224 g1
        refine zaload X225 hx hby at_262 rfl rfl (ziload X225 hx hby at_264 rfl (ziconst X225 hx hby at_266 (z := (1 : Int32)) rfl (ziadd X225 hx hby at_267 (5 : Int32) (by decide) (ziloadN X225 hx hby at_268 rfl (zbipush X225 hx hby at_269 (z := (8 : Int32)) rfl (ziushr X225 hx hby at_271 ((p4.toUInt32 >>> ((8 : Int32) &&& 31).toUInt32).toInt32) rfl (zi2b X225 hx hby at_272 (((p4.toUInt32 >>> ((8 : Int32) &&& 31).toUInt32).toInt32).toInt8.toInt32) rfl ?_)))))))
        show zEnds p e below s T225 (mkF m 273 #[iv p1, iv p2, iv p3, iv p4, rv b1, iv 2, iv 4, iv 0, iv 2, iv 2, iv vc, iv 4] [(.int (((p4.toUInt32 >>> ((8 : Int32) &&& 31).toUInt32).toInt32).toInt8.toInt32)), (.int 5), (.ref b1)]) _ _ _
        generalize e_vz : (((p4.toUInt32 >>> ((8 : Int32) &&& 31).toUInt32).toInt32).toInt8.toInt32) = vz
        have hn_vz : nar .byte vz = vz := by rw [← e_vz]; exact own_nar8 _
        refine zbastore X225 hx hby at_273 hZ e225 A225_b1 (by decide) (by show Int32.toNatClampNeg 5 < 20; decide) vz hn_vz fun T226 h226 X226 e226 W226 A226_b1 => ?_
        change zLst Z h226 b1 .byte [(.int va), (.int vb), (.int ve), (.int vf), (.int vy), (.int vz), (.int 0), (.int 0), (.int 0), (.int 0), (.int 0), (.int 0), (.int 0), (.int 0), (.int 0), (.int 0), (.int 0), (.int 0), (.int 0), (.int 0)] at A226_b1
        have O226 := O225.wr W226 g1
        have N226 := Fr.snoc X226 N225 g1
        refine zaload X226 hx hby at_274 rfl rfl (ziload X226 hx hby at_276 rfl (ziload X226 hx hby at_278 rfl (zcalls X226 hx hby at_280 hZ hown (w6 hw) (w7 hw) (w8 hw) (w9 hw) e226 (c97_firstCharacter l hw [] ⟨S_w_arr0, A_w_arr0, Al_w_arr0⟩ O226 (zsz O226) b1 va vb ve vf vy vz g1 A226_b1 h27_ve) hml 0 pd_0 (argsL := [(.ref b1), (.int 2), (.int 4)]) (st := []) (zpureK ⟨rfl, rfl⟩ fun T227 X227 e227 => ?_))))
        show zEnds p e below s T227 (mkF m 283 #[iv p1, iv p2, iv p3, iv p4, rv b1, iv 2, iv 4, iv 0, iv 2, iv 2, iv vc, iv 4] [(.int 2)]) _ _ _
        refine ziload X227 hx hby at_283 rfl (zicmpNo X227 hx hby at_285 (by decide) (ziconst X227 hx hby at_288 (z := (1 : Int32)) rfl (zgoto X227 hx hby at_289 293 (by decide) (by decide) ?_)))
        show zEnds p e below s T227 (mkF m 293 #[iv p1, iv p2, iv p3, iv p4, rv b1, iv 2, iv 4, iv 0, iv 2, iv 2, iv vc, iv 4] [(.int 1)]) _ _ _
        exact zretZ X227 hx hby at_293 hret hlk (by simp) rfl (by decide) (by decide) ⟨rfl, N226⟩
      · rw [q212]
        refine zistore X3 hx hby at_108 (L' := #[iv p1, iv p2, iv p3, iv p4, rv b1, iv 2, iv 2, iv 0, iv 2, iv 3, .unset, .unset]) rfl (ziloadN X3 hx hby at_110 rfl (ziconst X3 hx hby at_111 (z := (2 : Int32)) rfl (ziushr X3 hx hby at_112 ((p2.toUInt32 >>> ((2 : Int32) &&& 31).toUInt32).toInt32) rfl (zbipush X3 hx hby at_113 (z := (127 : Int32)) rfl (ziand X3 hx hby at_115 (((p2.toUInt32 >>> ((2 : Int32) &&& 31).toUInt32).toInt32) &&& (127 : Int32)) rfl ?_)))))
        show zEnds p e below s T3 (mkF m 116 #[iv p1, iv p2, iv p3, iv p4, rv b1, iv 2, iv 2, iv 0, iv 2, iv 3, .unset, .unset] [(.int (((p2.toUInt32 >>> ((2 : Int32) &&& 31).toUInt32).toInt32) &&& (127 : Int32)))]) _ _ _
        generalize e_vc : (((p2.toUInt32 >>> ((2 : Int32) &&& 31).toUInt32).toInt32) &&& (127 : Int32)) = vc
        have kc : 0 ≤ vc.toInt ∧ vc.toInt ≤ 127 := by rw [← e_vc]; exact own_c _
        refine zistore X3 hx hby at_116 (L' := #[iv p1, iv p2, iv p3, iv p4, rv b1, iv 2, iv 2, iv 0, iv 2, iv 3, iv vc, .unset]) rfl (ziload X3 hx hby at_118 rfl (ziconst X3 hx hby at_120 (z := (1 : Int32)) rfl (zicmpNo X3 hx hby at_121 (by decide) (ziload X3 hx hby at_124 rfl (ziconst X3 hx hby at_126 (z := (3 : Int32)) rfl (zicmpNo X3 hx hby at_127 (by decide) (ziload X3 hx hby at_130 rfl (zbipush X3 hx hby at_132 (z := (27 : Int32)) rfl ?_))))))))
        show zEnds p e below s T3 (mkF m 134 #[iv p1, iv p2, iv p3, iv p4, rv b1, iv 2, iv 2, iv 0, iv 2, iv 3, iv vc, .unset] [(.int 27), (.int vc)]) _ _ _
        by_cases hc27 : vc = (27 : Int32)
        · show zEnds p e below s T3 (mkF m 134 #[iv p1, iv p2, iv p3, iv p4, rv b1, iv 2, iv 2, iv 0, iv 2, iv 3, iv vc, .unset] [(.int 27), (.int vc)]) _ _ _
          refine zicmpNo X3 hx hby at_134 (teq hc27).2 (ziconst X3 hx hby at_137 (z := (0 : Int32)) rfl (zistore X3 hx hby at_138 (L' := #[iv p1, iv p2, iv p3, iv p4, rv b1, iv 2, iv 2, iv 0, iv 2, iv 0, iv vc, .unset]) rfl (ziload X3 hx hby at_140 rfl (ziconst X3 hx hby at_142 (z := (1 : Int32)) rfl (zicmpYes X3 hx hby at_143 163 (by decide) (by decide) (by decide) (ziload X3 hx hby at_163 rfl (ziconst X3 hx hby at_165 (z := (2 : Int32)) rfl (zicmpYes X3 hx hby at_166 220 (by decide) (by decide) (by decide) (ziload X3 hx hby at_220 rfl ?_)))))))))
          show zEnds p e below s T3 (mkF m 222 #[iv p1, iv p2, iv p3, iv p4, rv b1, iv 2, iv 2, iv 0, iv 2, iv 0, iv vc, .unset] [(.int 0)]) _ _ _
          refine ziconst X3 hx hby at_222 (z := (3 : Int32)) rfl (zicmpYes X3 hx hby at_223 251 (by decide) (by decide) (by decide) (ziload X3 hx hby at_251 rfl (zistore X3 hx hby at_253 (L' := #[iv p1, iv p2, iv p3, iv p4, rv b1, iv 2, iv 2, iv 0, iv 2, iv 0, iv vc, iv 2]) rfl (zaload X3 hx hby at_255 rfl rfl (ziload X3 hx hby at_257 rfl (ziloadN X3 hx hby at_259 rfl (zi2b X3 hx hby at_260 (p4.toInt8.toInt32) rfl ?_)))))))
          show zEnds p e below s T3 (mkF m 261 #[iv p1, iv p2, iv p3, iv p4, rv b1, iv 2, iv 2, iv 0, iv 2, iv 0, iv vc, iv 2] [(.int (p4.toInt8.toInt32)), (.int 2), (.ref b1)]) _ _ _
          generalize e_vy : (p4.toInt8.toInt32) = vy
          have hn_vy : nar .byte vy = vy := by rw [← e_vy]; exact own_nar8 _
          refine zbastore X3 hx hby at_261 hZ e3 A3_b1 (by decide) (by show Int32.toNatClampNeg 2 < 20; decide) vy hn_vy fun T228 h228 X228 e228 W228 A228_b1 => ?_
          change zLst Z h228 b1 .byte [(.int va), (.int vb), (.int vy), (.int 0), (.int 0), (.int 0), (.int 0), (.int 0), (.int 0), (.int 0), (.int 0), (.int 0), (.int 0), (.int 0), (.int 0), (.int 0), (.int 0), (.int 0), (.int 0), (.int 0)] at A228_b1
          have O228 := O3.wr W228 g1
          have N228 := Fr.snoc X228 N3 g1
          refine zaload X228 hx hby at_262 rfl rfl (ziload X228 hx hby at_264 rfl (ziconst X228 hx hby at_266 (z := (1 : Int32)) rfl (ziadd X228 hx hby at_267 (3 : Int32) (by decide) (ziloadN X228 hx hby at_268 rfl (zbipush X228 hx hby at_269 (z := (8 : Int32)) rfl (ziushr X228 hx hby at_271 ((p4.toUInt32 >>> ((8 : Int32) &&& 31).toUInt32).toInt32) rfl (zi2b X228 hx hby at_272 (((p4.toUInt32 >>> ((8 : Int32) &&& 31).toUInt32).toInt32).toInt8.toInt32) rfl ?_)))))))
          show zEnds p e below s T228 (mkF m 273 #[iv p1, iv p2, iv p3, iv p4, rv b1, iv 2, iv 2, iv 0, iv 2, iv 0, iv vc, iv 2] [(.int (((p4.toUInt32 >>> ((8 : Int32) &&& 31).toUInt32).toInt32).toInt8.toInt32)), (.int 3), (.ref b1)]) _ _ _
          generalize e_vz : (((p4.toUInt32 >>> ((8 : Int32) &&& 31).toUInt32).toInt32).toInt8.toInt32) = vz
          have hn_vz : nar .byte vz = vz := by rw [← e_vz]; exact own_nar8 _
          refine zbastore X228 hx hby at_273 hZ e228 A228_b1 (by decide) (by show Int32.toNatClampNeg 3 < 20; decide) vz hn_vz fun T229 h229 X229 e229 W229 A229_b1 => ?_
          change zLst Z h229 b1 .byte [(.int va), (.int vb), (.int vy), (.int vz), (.int 0), (.int 0), (.int 0), (.int 0), (.int 0), (.int 0), (.int 0), (.int 0), (.int 0), (.int 0), (.int 0), (.int 0), (.int 0), (.int 0), (.int 0), (.int 0)] at A229_b1
          have O229 := O228.wr W229 g1
          have N229 := Fr.snoc X229 N228 g1
          refine zaload X229 hx hby at_274 rfl rfl (ziload X229 hx hby at_276 rfl (ziload X229 hx hby at_278 rfl (zcalls X229 hx hby at_280 hZ hown (w6 hw) (w7 hw) (w8 hw) (w9 hw) e229 (c93_firstCharacter l hw [] ⟨S_w_arr0, A_w_arr0, Al_w_arr0⟩ O229 (zsz O229) b1 va vb vy vz g1 A229_b1) hml 0 pd_0 (argsL := [(.ref b1), (.int 2), (.int 2)]) (st := []) (zpureK ⟨rfl, rfl⟩ fun T230 X230 e230 => ?_))))
          show zEnds p e below s T230 (mkF m 283 #[iv p1, iv p2, iv p3, iv p4, rv b1, iv 2, iv 2, iv 0, iv 2, iv 0, iv vc, iv 2] [(.int 2)]) _ _ _
          refine ziload X230 hx hby at_283 rfl (zicmpNo X230 hx hby at_285 (by decide) (ziconst X230 hx hby at_288 (z := (1 : Int32)) rfl (zgoto X230 hx hby at_289 293 (by decide) (by decide) ?_)))
          show zEnds p e below s T230 (mkF m 293 #[iv p1, iv p2, iv p3, iv p4, rv b1, iv 2, iv 2, iv 0, iv 2, iv 0, iv vc, iv 2] [(.int 1)]) _ _ _
          exact zretZ X230 hx hby at_293 hret hlk (by simp) rfl (by decide) (by decide) ⟨rfl, N229⟩
        · show zEnds p e below s T3 (mkF m 134 #[iv p1, iv p2, iv p3, iv p4, rv b1, iv 2, iv 2, iv 0, iv 2, iv 3, iv vc, .unset] [(.int 27), (.int vc)]) _ _ _
          refine zicmpYes X3 hx hby at_134 140 (feq hc27).2 (by decide) (by decide) (ziload X3 hx hby at_140 rfl (ziconst X3 hx hby at_142 (z := (1 : Int32)) rfl (zicmpYes X3 hx hby at_143 163 (by decide) (by decide) (by decide) (ziload X3 hx hby at_163 rfl (ziconst X3 hx hby at_165 (z := (2 : Int32)) rfl (zicmpYes X3 hx hby at_166 220 (by decide) (by decide) (by decide) (ziload X3 hx hby at_220 rfl (ziconst X3 hx hby at_222 (z := (3 : Int32)) rfl (zicmpNo X3 hx hby at_223 (by decide) ?_)))))))))
          show zEnds p e below s T3 (mkF m 226 #[iv p1, iv p2, iv p3, iv p4, rv b1, iv 2, iv 2, iv 0, iv 2, iv 3, iv vc, .unset] []) _ _ _
          refine zaload X3 hx hby at_226 rfl rfl (ziload X3 hx hby at_228 rfl (ziload X3 hx hby at_230 rfl (zi2b X3 hx hby at_232 (vc.toInt8.toInt32) rfl ?_)))
          show zEnds p e below s T3 (mkF m 233 #[iv p1, iv p2, iv p3, iv p4, rv b1, iv 2, iv 2, iv 0, iv 2, iv 3, iv vc, .unset] [(.int (vc.toInt8.toInt32)), (.int 2), (.ref b1)]) _ _ _
          generalize e_vg : (vc.toInt8.toInt32) = vg
          have hn_vg : nar .byte vg = vg := by rw [← e_vg]; exact own_nar8 _
          have h27_vg : ¬ (vg = (27 : Int32)) := by rw [← e_vg]; exact own_27 kc hc27
          refine zbastore X3 hx hby at_233 hZ e3 A3_b1 (by decide) (by show Int32.toNatClampNeg 2 < 20; decide) vg hn_vg fun T231 h231 X231 e231 W231 A231_b1 => ?_
          change zLst Z h231 b1 .byte [(.int va), (.int vb), (.int vg), (.int 0), (.int 0), (.int 0), (.int 0), (.int 0), (.int 0), (.int 0), (.int 0), (.int 0), (.int 0), (.int 0), (.int 0), (.int 0), (.int 0), (.int 0), (.int 0), (.int 0)] at A231_b1
          have O231 := O3.wr W231 g1
          have N231 := Fr.snoc X231 N3 g1
          refine zaload X231 hx hby at_234 rfl rfl (ziload X231 hx hby at_236 rfl (ziconst X231 hx hby at_238 (z := (1 : Int32)) rfl (ziadd X231 hx hby at_239 (3 : Int32) (by decide) (ziloadN X231 hx hby at_240 rfl (zbipush X231 hx hby at_241 (z := (9 : Int32)) rfl (ziushr X231 hx hby at_243 ((p2.toUInt32 >>> ((9 : Int32) &&& 31).toUInt32).toInt32) rfl (ziconst X231 hx hby at_244 (z := (3 : Int32)) rfl (ziand X231 hx hby at_245 (((p2.toUInt32 >>> ((9 : Int32) &&& 31).toUInt32).toInt32) &&& (3 : Int32)) rfl ?_))))))))
          show zEnds p e below s T231 (mkF m 246 #[iv p1, iv p2, iv p3, iv p4, rv b1, iv 2, iv 2, iv 0, iv 2, iv 3, iv vc, .unset] [(.int (((p2.toUInt32 >>> ((9 : Int32) &&& 31).toUInt32).toInt32) &&& (3 : Int32))), (.int 3), (.ref b1)]) _ _ _
          generalize e_vs4 : (((p2.toUInt32 >>> ((9 : Int32) &&& 31).toUInt32).toInt32) &&& (3 : Int32)) = vs4
          refine zcalls X231 hx hby at_246 hZ hown (w2 hw) (w3 hw) (w4 hw) (w5 hw) e231 (c99_esc l hw [] ⟨S_w_arr0, A_w_arr0, Al_w_arr0⟩ O231 (zsz O231) vs4 b1 va vb vg (0 : Int32) (0 : Int32) (0 : Int32) (0 : Int32) (0 : Int32) (0 : Int32) (0 : Int32) (0 : Int32) (0 : Int32) (0 : Int32) (0 : Int32) (0 : Int32) (0 : Int32) (0 : Int32) (0 : Int32) (0 : Int32) (0 : Int32) g1 A231_b1 h27_vg) hml 0 pd_0 (argsL := [(.ref b1), (.int 3), (.int vs4)]) (st := []) fun T232 h232 v232 L232 e232 X232 q232 => ?_
          obtain ⟨rfl, N232q, K232q, A232_b1⟩ := q232
          have O232 := O231.keep K232q (allS g1 all0)
          have N232 := Fr.app N231 N232q
          show zEnds p e below s T232 (mkF m 249 #[iv p1, iv p2, iv p3, iv p4, rv b1, iv 2, iv 2, iv 0, iv 2, iv 3, iv vc, .unset] [(.int 6)]) _ _ _
          refine zistore X232 hx hby at_249 (L' := #[iv p1, iv p2, iv p3, iv p4, rv b1, iv 2, iv 6, iv 0, iv 2, iv 3, iv vc, .unset]) rfl (ziload X232 hx hby at_251 rfl (zistore X232 hx hby at_253 (L' := #[iv p1, iv p2, iv p3, iv p4, rv b1, iv 2, iv 6, iv 0, iv 2, iv 3, iv vc, iv 6]) rfl (zaload X232 hx hby at_255 rfl rfl (ziload X232 hx hby at_257 rfl (ziloadN X232 hx hby at_259 rfl (zi2b X232 hx hby at_260 (p4.toInt8.toInt32) rfl ?_))))))
          show zEnds p e below s T232 (mkF m 261 #[iv p1, iv p2, iv p3, iv p4, rv b1, iv 2, iv 6, iv 0, iv 2, iv 3, iv vc, iv 6] [(.int (p4.toInt8.toInt32)), (.int 6), (.ref b1)]) _ _ _
          generalize e_vy : (p4.toInt8.toInt32) = vy
          have hn_vy : nar .byte vy = vy := by rw [← e_vy]; exact own_nar8 _
          refine zbastore X232 hx hby at_261 hZ e232 A232_b1 (by decide) (by show Int32.toNatClampNeg 6 < 20; decide) vy hn_vy fun T233 h233 X233 e233 W233 A233_b1 => ?_
          change zLst Z h233 b1 .byte [(.int va), (.int vb), (.int vg), (.int 27), (.int ((e1v vs4).toInt8.toInt32)), (.int ((e2v vs4).toInt8.toInt32)), (.int vy), (.int 0), (.int 0), (.int 0), (.int 0), (.int 0), (.int 0), (.int 0), (.int 0), (.int 0), (.int 0), (.int 0), (.int 0), (.int 0)] at A233_b1
          have O233 := O232.wr W233 g1
          have N233 := Fr.snoc X233 N232 g1
          refine zaload X233 hx hby at_262 rfl rfl (ziload X233 hx hby at_264 rfl (ziconst X233 hx hby at_266 (z := (1 : Int32)) rfl (ziadd X233 hx hby at_267 (7 : Int32) (by decide) (ziloadN X233 hx hby at_268 rfl (zbipush X233 hx hby at_269 (z := (8 : Int32)) rfl (ziushr X233 hx hby at_271 ((p4.toUInt32 >>> ((8 : Int32) &&& 31).toUInt32).toInt32) rfl (zi2b X233 hx hby at_272 (((p4.toUInt32 >>> ((8 : Int32) &&& 31).toUInt32).toInt32).toInt8.toInt32) rfl ?_)))))))
          show zEnds p e below s T233 (mkF m 273 #[iv p1, iv p2, iv p3, iv p4, rv b1, iv 2, iv 6, iv 0, iv 2, iv 3, iv vc, iv 6] [(.int (((p4.toUInt32 >>> ((8 : Int32) &&& 31).toUInt32).toInt32).toInt8.toInt32)), (.int 7), (.ref b1)]) _ _ _
          generalize e_vz : (((p4.toUInt32 >>> ((8 : Int32) &&& 31).toUInt32).toInt32).toInt8.toInt32) = vz
          have hn_vz : nar .byte vz = vz := by rw [← e_vz]; exact own_nar8 _
          refine zbastore X233 hx hby at_273 hZ e233 A233_b1 (by decide) (by show Int32.toNatClampNeg 7 < 20; decide) vz hn_vz fun T234 h234 X234 e234 W234 A234_b1 => ?_
          change zLst Z h234 b1 .byte [(.int va), (.int vb), (.int vg), (.int 27), (.int ((e1v vs4).toInt8.toInt32)), (.int ((e2v vs4).toInt8.toInt32)), (.int vy), (.int vz), (.int 0), (.int 0), (.int 0), (.int 0), (.int 0), (.int 0), (.int 0), (.int 0), (.int 0), (.int 0), (.int 0), (.int 0)] at A234_b1
          have O234 := O233.wr W234 g1
          have N234 := Fr.snoc X234 N233 g1
          refine zaload X234 hx hby at_274 rfl rfl (ziload X234 hx hby at_276 rfl (ziload X234 hx hby at_278 rfl (zcalls X234 hx hby at_280 hZ hown (w6 hw) (w7 hw) (w8 hw) (w9 hw) e234 (c101_firstCharacter l hw [] ⟨S_w_arr0, A_w_arr0, Al_w_arr0⟩ O234 (zsz O234) b1 va vb vg ((e1v vs4).toInt8.toInt32) ((e2v vs4).toInt8.toInt32) vy vz g1 A234_b1 h27_vg) hml 0 pd_0 (argsL := [(.ref b1), (.int 2), (.int 6)]) (st := []) (zpureK ⟨rfl, rfl⟩ fun T235 X235 e235 => ?_))))
          show zEnds p e below s T235 (mkF m 283 #[iv p1, iv p2, iv p3, iv p4, rv b1, iv 2, iv 6, iv 0, iv 2, iv 3, iv vc, iv 6] [(.int 2)]) _ _ _
          refine ziload X235 hx hby at_283 rfl (zicmpNo X235 hx hby at_285 (by decide) (ziconst X235 hx hby at_288 (z := (1 : Int32)) rfl (zgoto X235 hx hby at_289 293 (by decide) (by decide) ?_)))
          show zEnds p e below s T235 (mkF m 293 #[iv p1, iv p2, iv p3, iv p4, rv b1, iv 2, iv 6, iv 0, iv 2, iv 3, iv vc, iv 6] [(.int 1)]) _ _ _
          exact zretZ X235 hx hby at_293 hret hlk (by simp) rfl (by decide) (by decide) ⟨rfl, N234⟩
    · rw [q211]
      refine zistore X3 hx hby at_39 (L' := #[iv p1, iv p2, iv p3, iv p4, rv b1, iv 2, iv 2, iv 1, .unset, .unset, .unset, .unset]) rfl (ziload X3 hx hby at_41 rfl (zifNo X3 hx hby at_43 (by decide) (zaload X3 hx hby at_46 rfl rfl (ziload X3 hx hby at_48 rfl (ziloadN X3 hx hby at_50 rfl (ziconst X3 hx hby at_51 (z := (2 : Int32)) rfl (ziushr X3 hx hby at_52 ((p1.toUInt32 >>> ((2 : Int32) &&& 31).toUInt32).toInt32) rfl (ziconst X3 hx hby at_53 (z := (3 : Int32)) rfl (ziand X3 hx hby at_54 (((p1.toUInt32 >>> ((2 : Int32) &&& 31).toUInt32).toInt32) &&& (3 : Int32)) rfl ?_)))))))))
      show zEnds p e below s T3 (mkF m 55 #[iv p1, iv p2, iv p3, iv p4, rv b1, iv 2, iv 2, iv 1, .unset, .unset, .unset, .unset] [(.int (((p1.toUInt32 >>> ((2 : Int32) &&& 31).toUInt32).toInt32) &&& (3 : Int32))), (.int 2), (.ref b1)]) _ _ _
      generalize e_vs1 : (((p1.toUInt32 >>> ((2 : Int32) &&& 31).toUInt32).toInt32) &&& (3 : Int32)) = vs1
      refine zcalls X3 hx hby at_55 hZ hown (w2 hw) (w3 hw) (w4 hw) (w5 hw) e3 (c103_esc l hw [] ⟨S_w_arr0, A_w_arr0, Al_w_arr0⟩ O3 (zsz O3) vs1 b1 va vb (0 : Int32) (0 : Int32) (0 : Int32) (0 : Int32) (0 : Int32) (0 : Int32) (0 : Int32) (0 : Int32) (0 : Int32) (0 : Int32) (0 : Int32) (0 : Int32) (0 : Int32) (0 : Int32) (0 : Int32) (0 : Int32) (0 : Int32) (0 : Int32) g1 A3_b1) hml 0 pd_0 (argsL := [(.ref b1), (.int 2), (.int vs1)]) (st := []) fun T236 h236 v236 L236 e236 X236 q236 => ?_
      obtain ⟨rfl, N236q, K236q, A236_b1⟩ := q236
      have O236 := O3.keep K236q (allS g1 all0)
      have N236 := Fr.app N3 N236q
      show zEnds p e below s T236 (mkF m 58 #[iv p1, iv p2, iv p3, iv p4, rv b1, iv 2, iv 2, iv 1, .unset, .unset, .unset, .unset] [(.int 5)]) _ _ _
      refine zistore X236 hx hby at_58 (L' := #[iv p1, iv p2, iv p3, iv p4, rv b1, iv 2, iv 5, iv 1, .unset, .unset, .unset, .unset]) rfl (ziload X236 hx hby at_60 rfl (ziconst X236 hx hby at_62 (z := (1 : Int32)) rfl (zicmpYes X236 hx hby at_63 80 (by decide) (by decide) (by decide) (ziload X236 hx hby at_80 rfl (ziconst X236 hx hby at_82 (z := (2 : Int32)) rfl (zicmpYes X236 hx hby at_83 101 (by decide) (by decide) (by decide) (ziload X236 hx hby at_101 rfl (zistore X236 hx hby at_103 (L' := #[iv p1, iv p2, iv p3, iv p4, rv b1, iv 2, iv 5, iv 1, iv 5, .unset, .unset, .unset]) rfl (ziloadN X236 hx hby at_105 rfl ?_)))))))))
      show zEnds p e below s T236 (mkF m 106 #[iv p1, iv p2, iv p3, iv p4, rv b1, iv 2, iv 5, iv 1, iv 5, .unset, .unset, .unset] [(.int p2)]) _ _ _
      refine ziconst X236 hx hby at_106 (z := (3 : Int32)) rfl (ziand X236 hx hby at_107 (p2 &&& (3 : Int32)) rfl ?_)
      show zEnds p e below s T236 (mkF m 108 #[iv p1, iv p2, iv p3, iv p4, rv b1, iv 2, iv 5, iv 1, iv 5, .unset, .unset, .unset] [(.int (p2 &&& (3 : Int32)))]) _ _ _
      rcases (and_3 p2) with q237 | q237 | q237 | q237
      · rw [q237]
        refine zistore X236 hx hby at_108 (L' := #[iv p1, iv p2, iv p3, iv p4, rv b1, iv 2, iv 5, iv 1, iv 5, iv 0, .unset, .unset]) rfl (ziloadN X236 hx hby at_110 rfl (ziconst X236 hx hby at_111 (z := (2 : Int32)) rfl (ziushr X236 hx hby at_112 ((p2.toUInt32 >>> ((2 : Int32) &&& 31).toUInt32).toInt32) rfl (zbipush X236 hx hby at_113 (z := (127 : Int32)) rfl (ziand X236 hx hby at_115 (((p2.toUInt32 >>> ((2 : Int32) &&& 31).toUInt32).toInt32) &&& (127 : Int32)) rfl ?_)))))
        show zEnds p e below s T236 (mkF m 116 #[iv p1, iv p2, iv p3, iv p4, rv b1, iv 2, iv 5, iv 1, iv 5, iv 0, .unset, .unset] [(.int (((p2.toUInt32 >>> ((2 : Int32) &&& 31).toUInt32).toInt32) &&& (127 : Int32)))]) _ _ _
        generalize e_vc : (((p2.toUInt32 >>> ((2 : Int32) &&& 31).toUInt32).toInt32) &&& (127 : Int32)) = vc
        have kc : 0 ≤ vc.toInt ∧ vc.toInt ≤ 127 := by rw [← e_vc]; exact own_c _
        refine zistore X236 hx hby at_116 (L' := #[iv p1, iv p2, iv p3, iv p4, rv b1, iv 2, iv 5, iv 1, iv 5, iv 0, iv vc, .unset]) rfl (ziload X236 hx hby at_118 rfl (ziconst X236 hx hby at_120 (z := (1 : Int32)) rfl (zicmpNo X236 hx hby at_121 (by decide) (ziload X236 hx hby at_124 rfl (ziconst X236 hx hby at_126 (z := (3 : Int32)) rfl (zicmpYes X236 hx hby at_127 140 (by decide) (by decide) (by decide) (ziload X236 hx hby at_140 rfl (ziconst X236 hx hby at_142 (z := (1 : Int32)) rfl (zicmpYes X236 hx hby at_143 163 (by decide) (by decide) (by decide) ?_)))))))))
        show zEnds p e below s T236 (mkF m 163 #[iv p1, iv p2, iv p3, iv p4, rv b1, iv 2, iv 5, iv 1, iv 5, iv 0, iv vc, .unset] []) _ _ _
        refine ziload X236 hx hby at_163 rfl (ziconst X236 hx hby at_165 (z := (2 : Int32)) rfl (zicmpYes X236 hx hby at_166 220 (by decide) (by decide) (by decide) (ziload X236 hx hby at_220 rfl (ziconst X236 hx hby at_222 (z := (3 : Int32)) rfl (zicmpYes X236 hx hby at_223 251 (by decide) (by decide) (by decide) (ziload X236 hx hby at_251 rfl (zistore X236 hx hby at_253 (L' := #[iv p1, iv p2, iv p3, iv p4, rv b1, iv 2, iv 5, iv 1, iv 5, iv 0, iv vc, iv 5]) rfl (zaload X236 hx hby at_255 rfl rfl (ziload X236 hx hby at_257 rfl ?_)))))))))
        show zEnds p e below s T236 (mkF m 259 #[iv p1, iv p2, iv p3, iv p4, rv b1, iv 2, iv 5, iv 1, iv 5, iv 0, iv vc, iv 5] [(.int 5), (.ref b1)]) _ _ _
        refine ziloadN X236 hx hby at_259 rfl (zi2b X236 hx hby at_260 (p4.toInt8.toInt32) rfl ?_)
        show zEnds p e below s T236 (mkF m 261 #[iv p1, iv p2, iv p3, iv p4, rv b1, iv 2, iv 5, iv 1, iv 5, iv 0, iv vc, iv 5] [(.int (p4.toInt8.toInt32)), (.int 5), (.ref b1)]) _ _ _
        generalize e_vy : (p4.toInt8.toInt32) = vy
        have hn_vy : nar .byte vy = vy := by rw [← e_vy]; exact own_nar8 _
        refine zbastore X236 hx hby at_261 hZ e236 A236_b1 (by decide) (by show Int32.toNatClampNeg 5 < 20; decide) vy hn_vy fun T238 h238 X238 e238 W238 A238_b1 => ?_
        change zLst Z h238 b1 .byte [(.int va), (.int vb), (.int 27), (.int ((e1v vs1).toInt8.toInt32)), (.int ((e2v vs1).toInt8.toInt32)), (.int vy), (.int 0), (.int 0), (.int 0), (.int 0), (.int 0), (.int 0), (.int 0), (.int 0), (.int 0), (.int 0), (.int 0), (.int 0), (.int 0), (.int 0)] at A238_b1
        have O238 := O236.wr W238 g1
        have N238 := Fr.snoc X238 N236 g1
        refine zaload X238 hx hby at_262 rfl rfl (ziload X238 hx hby at_264 rfl (ziconst X238 hx hby at_266 (z := (1 : Int32)) rfl (ziadd X238 hx hby at_267 (6 : Int32) (by decide) (ziloadN X238 hx hby at_268 rfl (zbipush X238 hx hby at_269 (z := (8 : Int32)) rfl (ziushr X238 hx hby at_271 ((p4.toUInt32 >>> ((8 : Int32) &&& 31).toUInt32).toInt32) rfl (zi2b X238 hx hby at_272 (((p4.toUInt32 >>> ((8 : Int32) &&& 31).toUInt32).toInt32).toInt8.toInt32) rfl ?_)))))))
        show zEnds p e below s T238 (mkF m 273 #[iv p1, iv p2, iv p3, iv p4, rv b1, iv 2, iv 5, iv 1, iv 5, iv 0, iv vc, iv 5] [(.int (((p4.toUInt32 >>> ((8 : Int32) &&& 31).toUInt32).toInt32).toInt8.toInt32)), (.int 6), (.ref b1)]) _ _ _
        generalize e_vz : (((p4.toUInt32 >>> ((8 : Int32) &&& 31).toUInt32).toInt32).toInt8.toInt32) = vz
        have hn_vz : nar .byte vz = vz := by rw [← e_vz]; exact own_nar8 _
        refine zbastore X238 hx hby at_273 hZ e238 A238_b1 (by decide) (by show Int32.toNatClampNeg 6 < 20; decide) vz hn_vz fun T239 h239 X239 e239 W239 A239_b1 => ?_
        change zLst Z h239 b1 .byte [(.int va), (.int vb), (.int 27), (.int ((e1v vs1).toInt8.toInt32)), (.int ((e2v vs1).toInt8.toInt32)), (.int vy), (.int vz), (.int 0), (.int 0), (.int 0), (.int 0), (.int 0), (.int 0), (.int 0), (.int 0), (.int 0), (.int 0), (.int 0), (.int 0), (.int 0)] at A239_b1
        have O239 := O238.wr W239 g1
        have N239 := Fr.snoc X239 N238 g1
        refine zaload X239 hx hby at_274 rfl rfl (ziload X239 hx hby at_276 rfl (ziload X239 hx hby at_278 rfl (zcalls X239 hx hby at_280 hZ hown (w6 hw) (w7 hw) (w8 hw) (w9 hw) e239 (c105_firstCharacter l hw [] ⟨S_w_arr0, A_w_arr0, Al_w_arr0⟩ O239 (zsz O239) b1 va vb ((e1v vs1).toInt8.toInt32) ((e2v vs1).toInt8.toInt32) vy vz g1 A239_b1) hml 0 pd_0 (argsL := [(.ref b1), (.int 2), (.int 5)]) (st := []) (zpureK ⟨rfl, rfl⟩ fun T240 X240 e240 => ?_))))
        show zEnds p e below s T240 (mkF m 283 #[iv p1, iv p2, iv p3, iv p4, rv b1, iv 2, iv 5, iv 1, iv 5, iv 0, iv vc, iv 5] [(.int 5)]) _ _ _
        refine ziload X240 hx hby at_283 rfl (zicmpNo X240 hx hby at_285 (by decide) (ziconst X240 hx hby at_288 (z := (1 : Int32)) rfl (zgoto X240 hx hby at_289 293 (by decide) (by decide) ?_)))
        show zEnds p e below s T240 (mkF m 293 #[iv p1, iv p2, iv p3, iv p4, rv b1, iv 2, iv 5, iv 1, iv 5, iv 0, iv vc, iv 5] [(.int 1)]) _ _ _
        exact zretZ X240 hx hby at_293 hret hlk (by simp) rfl (by decide) (by decide) ⟨rfl, N239⟩
      · rw [q237]
        refine zistore X236 hx hby at_108 (L' := #[iv p1, iv p2, iv p3, iv p4, rv b1, iv 2, iv 5, iv 1, iv 5, iv 1, .unset, .unset]) rfl (ziloadN X236 hx hby at_110 rfl (ziconst X236 hx hby at_111 (z := (2 : Int32)) rfl (ziushr X236 hx hby at_112 ((p2.toUInt32 >>> ((2 : Int32) &&& 31).toUInt32).toInt32) rfl (zbipush X236 hx hby at_113 (z := (127 : Int32)) rfl (ziand X236 hx hby at_115 (((p2.toUInt32 >>> ((2 : Int32) &&& 31).toUInt32).toInt32) &&& (127 : Int32)) rfl ?_)))))
        show zEnds p e below s T236 (mkF m 116 #[iv p1, iv p2, iv p3, iv p4, rv b1, iv 2, iv 5, iv 1, iv 5, iv 1, .unset, .unset] [(.int (((p2.toUInt32 >>> ((2 : Int32) &&& 31).toUInt32).toInt32) &&& (127 : Int32)))]) _ _ _
        generalize e_vc : (((p2.toUInt32 >>> ((2 : Int32) &&& 31).toUInt32).toInt32) &&& (127 : Int32)) = vc
        have kc : 0 ≤ vc.toInt ∧ vc.toInt ≤ 127 := by rw [← e_vc]; exact own_c _
        refine zistore X236 hx hby at_116 (L' := #[iv p1, iv p2, iv p3, iv p4, rv b1, iv 2, iv 5, iv 1, iv 5, iv 1, iv vc, .unset]) rfl (ziload X236 hx hby at_118 rfl (ziconst X236 hx hby at_120 (z := (1 : Int32)) rfl (zicmpYes X236 hx hby at_121 130 (by decide) (by decide) (by decide) (ziload X236 hx hby at_130 rfl (zbipush X236 hx hby at_132 (z := (27 : Int32)) rfl ?_)))))
        show zEnds p e below s T236 (mkF m 134 #[iv p1, iv p2, iv p3, iv p4, rv b1, iv 2, iv 5, iv 1, iv 5, iv 1, iv vc, .unset] [(.int 27), (.int vc)]) _ _ _
        by_cases hc27 : vc = (27 : Int32)
        · show zEnds p e below s T236 (mkF m 134 #[iv p1, iv p2, iv p3, iv p4, rv b1, iv 2, iv 5, iv 1, iv 5, iv 1, iv vc, .unset] [(.int 27), (.int vc)]) _ _ _
          refine zicmpNo X236 hx hby at_134 (teq hc27).2 (ziconst X236 hx hby at_137 (z := (0 : Int32)) rfl (zistore X236 hx hby at_138 (L' := #[iv p1, iv p2, iv p3, iv p4, rv b1, iv 2, iv 5, iv 1, iv 5, iv 0, iv vc, .unset]) rfl (ziload X236 hx hby at_140 rfl (ziconst X236 hx hby at_142 (z := (1 : Int32)) rfl (zicmpYes X236 hx hby at_143 163 (by decide) (by decide) (by decide) (ziload X236 hx hby at_163 rfl (ziconst X236 hx hby at_165 (z := (2 : Int32)) rfl (zicmpYes X236 hx hby at_166 220 (by decide) (by decide) (by decide) (ziload X236 hx hby at_220 rfl ?_)))))))))
          show zEnds p e below s T236 (mkF m 222 #[iv p1, iv p2, iv p3, iv p4, rv b1, iv 2, iv 5, iv 1, iv 5, iv 0, iv vc, .unset] [(.int 0)]) _ _ _
          refine ziconst X236 hx hby at_222 (z := (3 : Int32)) rfl (zicmpYes X236 hx hby at_223 251 (by decide) (by decide) (by decide) (ziload X236 hx hby at_251 rfl (zistore X236 hx hby at_253 (L' := #[iv p1, iv p2, iv p3, iv p4, rv b1, iv 2, iv 5, iv 1, iv 5, iv 0, iv vc, iv 5]) rfl (zaload X236 hx hby at_255 rfl rfl (ziload X236 hx hby at_257 rfl (ziloadN X236 hx hby at_259 rfl (zi2b X236 hx hby at_260 (p4.toInt8.toInt32) rfl ?_)))))))
          show zEnds p e below s T236 (mkF m 261 #[iv p1, iv p2, iv p3, iv p4, rv b1, iv 2, iv 5, iv 1, iv 5, iv 0, iv vc, iv 5] [(.int (p4.toInt8.toInt32)), (.int 5), (.ref b1)]) _ _ _
          generalize e_vy : (p4.toInt8.toInt32) = vy
          have hn_vy : nar .byte vy = vy := by rw [← e_vy]; exact own_nar8 _
          refine zbastore X236 hx hby at_261 hZ e236 A236_b1 (by decide) (by show Int32.toNatClampNeg 5 < 20; decide) vy hn_vy fun T241 h241 X241 e241 W241 A241_b1 => ?_
          change zLst Z h241 b1 .byte [(.int va), (.int vb), (.int 27), (.int ((e1v vs1).toInt8.toInt32)), (.int ((e2v vs1).toInt8.toInt32)), (.int vy), (.int 0), (.int 0), (.int 0), (.int 0), (.int 0), (.int 0), (.int 0), (.int 0), (.int 0), (.int 0), (.int 0), (.int 0), (.int 0), (.int 0)] at A241_b1
          have O241 := O236.wr W241 g1
          have N241 := Fr.snoc X241 N236 g1
          refine zaload X241 hx hby at_262 rfl rfl (ziload X241 hx hby at_264 rfl (ziconst X241 hx hby at_266 (z := (1 : Int32)) rfl (ziadd X241 hx hby at_267 (6 : Int32) (by decide) (ziloadN X241 hx hby at_268 rfl (zbipush X241 hx hby at_269 (z := (8 : Int32)) rfl (ziushr X241 hx hby at_271 ((p4.toUInt32 >>> ((8 : Int32) &&& 31).toUInt32).toInt32) rfl (zi2b X241 hx hby at_272 (((p4.toUInt32 >>> ((8 : Int32) &&& 31).toUInt32).toInt32).toInt8.toInt32) rfl ?_)))))))
          show zEnds p e below s T241 (mkF m 273 #[iv p1, iv p2, iv p3, iv p4, rv b1, iv 2, iv 5, iv 1, iv 5, iv 0, iv vc, iv 5] [(.int (((p4.toUInt32 >>> ((8 : Int32) &&& 31).toUInt32).toInt32).toInt8.toInt32)), (.int 6), (.ref b1)]) _ _ _
          generalize e_vz : (((p4.toUInt32 >>> ((8 : Int32) &&& 31).toUInt32).toInt32).toInt8.toInt32) = vz
          have hn_vz : nar .byte vz = vz := by rw [← e_vz]; exact own_nar8 _
          refine zbastore X241 hx hby at_273 hZ e241 A241_b1 (by decide) (by show Int32.toNatClampNeg 6 < 20; decide) vz hn_vz fun T242 h242 X242 e242 W242 A242_b1 => ?_
          change zLst Z h242 b1 .byte [(.int va), (.int vb), (.int 27), (.int ((e1v vs1).toInt8.toInt32)), (.int ((e2v vs1).toInt8.toInt32)), (.int vy), (.int vz), (.int 0), (.int 0), (.int 0), (.int 0), (.int 0), (.int 0), (.int 0), (.int 0), (.int 0), (.int 0), (.int 0), (.int 0), (.int 0)] at A242_b1
          have O242 := O241.wr W242 g1
          have N242 := Fr.snoc X242 N241 g1
          refine zaload X242 hx hby at_274 rfl rfl (ziload X242 hx hby at_276 rfl (ziload X242 hx hby at_278 rfl (zcalls X242 hx hby at_280 hZ hown (w6 hw) (w7 hw) (w8 hw) (w9 hw) e242 (c105_firstCharacter l hw [] ⟨S_w_arr0, A_w_arr0, Al_w_arr0⟩ O242 (zsz O242) b1 va vb ((e1v vs1).toInt8.toInt32) ((e2v vs1).toInt8.toInt32) vy vz g1 A242_b1) hml 0 pd_0 (argsL := [(.ref b1), (.int 2), (.int 5)]) (st := []) (zpureK ⟨rfl, rfl⟩ fun T243 X243 e243 => ?_))))
          show zEnds p e below s T243 (mkF m 283 #[iv p1, iv p2, iv p3, iv p4, rv b1, iv 2, iv 5, iv 1, iv 5, iv 0, iv vc, iv 5] [(.int 5)]) _ _ _
          refine ziload X243 hx hby at_283 rfl (zicmpNo X243 hx hby at_285 (by decide) (ziconst X243 hx hby at_288 (z := (1 : Int32)) rfl (zgoto X243 hx hby at_289 293 (by decide) (by decide) ?_)))
          show zEnds p e below s T243 (mkF m 293 #[iv p1, iv p2, iv p3, iv p4, rv b1, iv 2, iv 5, iv 1, iv 5, iv 0, iv vc, iv 5] [(.int 1)]) _ _ _
          exact zretZ X243 hx hby at_293 hret hlk (by simp) rfl (by decide) (by decide) ⟨rfl, N242⟩
        · show zEnds p e below s T236 (mkF m 134 #[iv p1, iv p2, iv p3, iv p4, rv b1, iv 2, iv 5, iv 1, iv 5, iv 1, iv vc, .unset] [(.int 27), (.int vc)]) _ _ _
          refine zicmpYes X236 hx hby at_134 140 (feq hc27).2 (by decide) (by decide) (ziload X236 hx hby at_140 rfl (ziconst X236 hx hby at_142 (z := (1 : Int32)) rfl (zicmpNo X236 hx hby at_143 (by decide) (zaload X236 hx hby at_146 rfl rfl (ziload X236 hx hby at_148 rfl (ziload X236 hx hby at_150 rfl (zi2b X236 hx hby at_152 (vc.toInt8.toInt32) rfl ?_)))))))
          show zEnds p e below s T236 (mkF m 153 #[iv p1, iv p2, iv p3, iv p4, rv b1, iv 2, iv 5, iv 1, iv 5, iv 1, iv vc, .unset] [(.int (vc.toInt8.toInt32)), (.int 5), (.ref b1)]) _ _ _
          generalize e_vd : (vc.toInt8.toInt32) = vd
          have hn_vd : nar .byte vd = vd := by rw [← e_vd]; exact own_nar8 _
          have h27_vd : ¬ (vd = (27 : Int32)) := by rw [← e_vd]; exact own_27 kc hc27
          refine zbastore X236 hx hby at_153 hZ e236 A236_b1 (by decide) (by show Int32.toNatClampNeg 5 < 20; decide) vd hn_vd fun T244 h244 X244 e244 W244 A244_b1 => ?_
          change zLst Z h244 b1 .byte [(.int va), (.int vb), (.int 27), (.int ((e1v vs1).toInt8.toInt32)), (.int ((e2v vs1).toInt8.toInt32)), (.int vd), (.int 0), (.int 0), (.int 0), (.int 0), (.int 0), (.int 0), (.int 0), (.int 0), (.int 0), (.int 0), (.int 0), (.int 0), (.int 0), (.int 0)] at A244_b1
          have O244 := O236.wr W244 g1
          have N244 := Fr.snoc X244 N236 g1
          refine ziload X244 hx hby at_154 rfl (ziconst X244 hx hby at_156 (z := (1 : Int32)) rfl (ziadd X244 hx hby at_157 (6 : Int32) (by decide) (zistore X244 hx hby at_158 (L' := #[iv p1, iv p2, iv p3, iv p4, rv b1, iv 2, iv 6, iv 1, iv 5, iv 1, iv vc, .unset]) rfl (zgoto X244 hx hby at_160 251 (by decide) (by decide) (ziload X244 hx hby at_251 rfl (zistore X244 hx hby at_253 (L' := #[iv p1, iv p2, iv p3, iv p4, rv b1, iv 2, iv 6, iv 1, iv 5, iv 1, iv vc, iv 6]) rfl (zaload X244 hx hby at_255 rfl rfl (ziload X244 hx hby at_257 rfl (ziloadN X244 hx hby at_259 rfl ?_)))))))))
          show zEnds p e below s T244 (mkF m 260 #[iv p1, iv p2, iv p3, iv p4, rv b1, iv 2, iv 6, iv 1, iv 5, iv 1, iv vc, iv 6] [(.int p4), (.int 6), (.ref b1)]) _ _ _
          refine zi2b X244 hx hby at_260 (p4.toInt8.toInt32) rfl ?_
          show zEnds p e below s T244 (mkF m 261 #[iv p1, iv p2, iv p3, iv p4, rv b1, iv 2, iv 6, iv 1, iv 5, iv 1, iv vc, iv 6] [(.int (p4.toInt8.toInt32)), (.int 6), (.ref b1)]) _ _ _
          generalize e_vy : (p4.toInt8.toInt32) = vy
          have hn_vy : nar .byte vy = vy := by rw [← e_vy]; exact own_nar8 _
          refine zbastore X244 hx hby at_261 hZ e244 A244_b1 (by decide) (by show Int32.toNatClampNeg 6 < 20; decide) vy hn_vy fun T245 h245 X245 e245 W245 A245_b1 => ?_
          change zLst Z h245 b1 .byte [(.int va), (.int vb), (.int 27), (.int ((e1v vs1).toInt8.toInt32)), (.int ((e2v vs1).toInt8.toInt32)), (.int vd), (.int vy), (.int 0), (.int 0), (.int 0), (.int 0), (.int 0), (.int 0), (.int 0), (.int 0), (.int 0), (.int 0), (.int 0), (.int 0), (.int 0)] at A245_b1
          have O245 := O244.wr W245 g1
          have N245 := Fr.snoc X245 N244 g1
          refine zaload X245 hx hby at_262 rfl rfl (ziload X245 hx hby at_264 rfl (ziconst X245 hx hby at_266 (z := (1 : Int32)) rfl (ziadd X245 hx hby at_267 (7 : Int32) (by decide) (ziloadN X245 hx hby at_268 rfl (zbipush X245 hx hby at_269 (z := (8 : Int32)) rfl (ziushr X245 hx hby at_271 ((p4.toUInt32 >>> ((8 : Int32) &&& 31).toUInt32).toInt32) rfl (zi2b X245 hx hby at_272 (((p4.toUInt32 >>> ((8 : Int32) &&& 31).toUInt32).toInt32).toInt8.toInt32) rfl ?_)))))))
          show zEnds p e below s T245 (mkF m 273 #[iv p1, iv p2, iv p3, iv p4, rv b1, iv 2, iv 6, iv 1, iv 5, iv 1, iv vc, iv 6] [(.int (((p4.toUInt32 >>> ((8 : Int32) &&& 31).toUInt32).toInt32).toInt8.toInt32)), (.int 7), (.ref b1)]) _ _ _
          generalize e_vz : (((p4.toUInt32 >>> ((8 : Int32) &&& 31).toUInt32).toInt32).toInt8.toInt32) = vz
          have hn_vz : nar .byte vz = vz := by rw [← e_vz]; exact own_nar8 _
          refine zbastore X245 hx hby at_273 hZ e245 A245_b1 (by decide) (by show Int32.toNatClampNeg 7 < 20; decide) vz hn_vz fun T246 h246 X246 e246 W246 A246_b1 => ?_
          change zLst Z h246 b1 .byte [(.int va), (.int vb), (.int 27), (.int ((e1v vs1).toInt8.toInt32)), (.int ((e2v vs1).toInt8.toInt32)), (.int vd), (.int vy), (.int vz), (.int 0), (.int 0), (.int 0), (.int 0), (.int 0), (.int 0), (.int 0), (.int 0), (.int 0), (.int 0), (.int 0), (.int 0)] at A246_b1
          have O246 := O245.wr W246 g1
          have N246 := Fr.snoc X246 N245 g1
          refine zaload X246 hx hby at_274 rfl rfl (ziload X246 hx hby at_276 rfl (ziload X246 hx hby at_278 rfl (zcalls X246 hx hby at_280 hZ hown (w6 hw) (w7 hw) (w8 hw) (w9 hw) e246 (c107_firstCharacter l hw [] ⟨S_w_arr0, A_w_arr0, Al_w_arr0⟩ O246 (zsz O246) b1 va vb ((e1v vs1).toInt8.toInt32) ((e2v vs1).toInt8.toInt32) vd vy vz g1 A246_b1 h27_vd) hml 0 pd_0 (argsL := [(.ref b1), (.int 2), (.int 6)]) (st := []) (zpureK ⟨rfl, rfl⟩ fun T247 X247 e247 => ?_))))
          show zEnds p e below s T247 (mkF m 283 #[iv p1, iv p2, iv p3, iv p4, rv b1, iv 2, iv 6, iv 1, iv 5, iv 1, iv vc, iv 6] [(.int 5)]) _ _ _
          refine ziload X247 hx hby at_283 rfl (zicmpNo X247 hx hby at_285 (by decide) (ziconst X247 hx hby at_288 (z := (1 : Int32)) rfl (zgoto X247 hx hby at_289 293 (by decide) (by decide) ?_)))
          show zEnds p e below s T247 (mkF m 293 #[iv p1, iv p2, iv p3, iv p4, rv b1, iv 2, iv 6, iv 1, iv 5, iv 1, iv vc, iv 6] [(.int 1)]) _ _ _
          exact zretZ X247 hx hby at_293 hret hlk (by simp) rfl (by decide) (by decide) ⟨rfl, N246⟩
      · rw [q237]
        refine zistore X236 hx hby at_108 (L' := #[iv p1, iv p2, iv p3, iv p4, rv b1, iv 2, iv 5, iv 1, iv 5, iv 2, .unset, .unset]) rfl (ziloadN X236 hx hby at_110 rfl (ziconst X236 hx hby at_111 (z := (2 : Int32)) rfl (ziushr X236 hx hby at_112 ((p2.toUInt32 >>> ((2 : Int32) &&& 31).toUInt32).toInt32) rfl (zbipush X236 hx hby at_113 (z := (127 : Int32)) rfl (ziand X236 hx hby at_115 (((p2.toUInt32 >>> ((2 : Int32) &&& 31).toUInt32).toInt32) &&& (127 : Int32)) rfl ?_)))))
        show zEnds p e below s T236 (mkF m 116 #[iv p1, iv p2, iv p3, iv p4, rv b1, iv 2, iv 5, iv 1, iv 5, iv 2, .unset, .unset] [(.int (((p2.toUInt32 >>> ((2 : Int32) &&& 31).toUInt32).toInt32) &&& (127 : Int32)))]) _ _ _
        generalize e_vc : (((p2.toUInt32 >>> ((2 : Int32) &&& 31).toUInt32).toInt32) &&& (127 : Int32)) = vc
        have kc : 0 ≤ vc.toInt ∧ vc.toInt ≤ 127 := by rw [← e_vc]; exact own_c _
        refine zistore X236 hx hby at_116 (L' := #[iv p1, iv p2, iv p3, iv p4, rv b1, iv 2, iv 5, iv 1, iv 5, iv 2, iv vc, .unset]) rfl (ziload X236 hx hby at_118 rfl (ziconst X236 hx hby at_120 (z := (1 : Int32)) rfl (zicmpNo X236 hx hby at_121 (by decide) (ziload X236 hx hby at_124 rfl (ziconst X236 hx hby at_126 (z := (3 : Int32)) rfl (zicmpYes X236 hx hby at_127 140 (by decide) (by decide) (by decide) (ziload X236 hx hby at_140 rfl (ziconst X236 hx hby at_142 (z := (1 : Int32)) rfl (zicmpYes X236 hx hby at_143 163 (by decide) (by decide) (by decide) ?_)))))))))
        show zEnds p e below s T236 (mkF m 163 #[iv p1, iv p2, iv p3, iv p4, rv b1, iv 2, iv 5, iv 1, iv 5, iv 2, iv vc, .unset] []) _ _ _
        refine ziload X236 hx hby at_163 rfl (ziconst X236 hx hby at_165 (z := (2 : Int32)) rfl (zicmpNo X236 hx hby at_166 (by decide) (zaload X236 hx hby at_169 rfl rfl (ziload X236 hx hby at_171 rfl (zbipush X236 hx hby at_173 (z := (48 : Int32)) rfl (ziloadN X236 hx hby at_175 rfl (zbipush X236 hx hby at_176 (z := (9 : Int32)) rfl (ziushr X236 hx hby at_178 ((p2.toUInt32 >>> ((9 : Int32) &&& 31).toUInt32).toInt32) rfl (zsipush X236 hx hby at_179 (z := (255 : Int32)) rfl ?_)))))))))
        show zEnds p e below s T236 (mkF m 182 #[iv p1, iv p2, iv p3, iv p4, rv b1, iv 2, iv 5, iv 1, iv 5, iv 2, iv vc, .unset] [(.int 255), (.int ((p2.toUInt32 >>> ((9 : Int32) &&& 31).toUInt32).toInt32)), (.int 48), (.int 5), (.ref b1)]) _ _ _
        refine ziand X236 hx hby at_182 (((p2.toUInt32 >>> ((9 : Int32) &&& 31).toUInt32).toInt32) &&& (255 : Int32)) rfl (zbipush X236 hx hby at_183 (z := (31 : Int32)) rfl (zirem X236 hx hby at_185 ((((p2.toUInt32 >>> ((9 : Int32) &&& 31).toUInt32).toInt32) &&& (255 : Int32)) % (31 : Int32)) (by decide) rfl (ziadd X236 hx hby at_186 ((48 : Int32) + ((((p2.toUInt32 >>> ((9 : Int32) &&& 31).toUInt32).toInt32) &&& (255 : Int32)) % (31 : Int32))) rfl (zi2b X236 hx hby at_187 (((48 : Int32) + ((((p2.toUInt32 >>> ((9 : Int32) &&& 31).toUInt32).toInt32) &&& (255 : Int32)) % (31 : Int32))).toInt8.toInt32) rfl ?_))))
        show zEnds p e below s T236 (mkF m 188 #[iv p1, iv p2, iv p3, iv p4, rv b1, iv 2, iv 5, iv 1, iv 5, iv 2, iv vc, .unset] [(.int (((48 : Int32) + ((((p2.toUInt32 >>> ((9 : Int32) &&& 31).toUInt32).toInt32) &&& (255 : Int32)) % (31 : Int32))).toInt8.toInt32)), (.int 5), (.ref b1)]) _ _ _
        generalize e_ve : (((48 : Int32) + ((((p2.toUInt32 >>> ((9 : Int32) &&& 31).toUInt32).toInt32) &&& (255 : Int32)) % (31 : Int32))).toInt8.toInt32) = ve
        have hn_ve : nar .byte ve = ve := by rw [← e_ve]; exact own_nar8 _
        have h27_ve : ¬ (ve = (27 : Int32)) := by rw [← e_ve]; exact own_48 _
        refine zbastore X236 hx hby at_188 hZ e236 A236_b1 (by decide) (by show Int32.toNatClampNeg 5 < 20; decide) ve hn_ve fun T248 h248 X248 e248 W248 A248_b1 => ?_
        change zLst Z h248 b1 .byte [(.int va), (.int vb), (.int 27), (.int ((e1v vs1).toInt8.toInt32)), (.int ((e2v vs1).toInt8.toInt32)), (.int ve), (.int 0), (.int 0), (.int 0), (.int 0), (.int 0), (.int 0), (.int 0), (.int 0), (.int 0), (.int 0), (.int 0), (.int 0), (.int 0), (.int 0)] at A248_b1
        have O248 := O236.wr W248 g1
        have N248 := Fr.snoc X248 N236 g1
        refine zaload X248 hx hby at_189 rfl rfl (ziload X248 hx hby at_191 rfl (ziconst X248 hx hby at_193 (z := (1 : Int32)) rfl (ziadd X248 hx hby at_194 (6 : Int32) (by decide) (zbipush X248 hx hby at_195 (z := (33 : Int32)) rfl (ziloadN X248 hx hby at_197 rfl (zbipush X248 hx hby at_198 (z := (17 : Int32)) rfl (ziushr X248 hx hby at_200 ((p2.toUInt32 >>> ((17 : Int32) &&& 31).toUInt32).toInt32) rfl (zsipush X248 hx hby at_201 (z := (255 : Int32)) rfl (ziand X248 hx hby at_204 (((p2.toUInt32 >>> ((17 : Int32) &&& 31).toUInt32).toInt32) &&& (255 : Int32)) rfl ?_)))))))))
        show zEnds p e below s T248 (mkF m 205 #[iv p1, iv p2, iv p3, iv p4, rv b1, iv 2, iv 5, iv 1, iv 5, iv 2, iv vc, .unset] [(.int (((p2.toUInt32 >>> ((17 : Int32) &&& 31).toUInt32).toInt32) &&& (255 : Int32))), (.int 33), (.int 6), (.ref b1)]) _ _ _
        refine zbipush X248 hx hby at_205 (z := (94 : Int32)) rfl (zirem X248 hx hby at_207 ((((p2.toUInt32 >>> ((17 : Int32) &&& 31).toUInt32).toInt32) &&& (255 : Int32)) % (94 : Int32)) (by decide) rfl (ziadd X248 hx hby at_208 ((33 : Int32) + ((((p2.toUInt32 >>> ((17 : Int32) &&& 31).toUInt32).toInt32) &&& (255 : Int32)) % (94 : Int32))) rfl (zi2b X248 hx hby at_209 (((33 : Int32) + ((((p2.toUInt32 >>> ((17 : Int32) &&& 31).toUInt32).toInt32) &&& (255 : Int32)) % (94 : Int32))).toInt8.toInt32) rfl ?_)))
        show zEnds p e below s T248 (mkF m 210 #[iv p1, iv p2, iv p3, iv p4, rv b1, iv 2, iv 5, iv 1, iv 5, iv 2, iv vc, .unset] [(.int (((33 : Int32) + ((((p2.toUInt32 >>> ((17 : Int32) &&& 31).toUInt32).toInt32) &&& (255 : Int32)) % (94 : Int32))).toInt8.toInt32)), (.int 6), (.ref b1)]) _ _ _
        generalize e_vf : (((33 : Int32) + ((((p2.toUInt32 >>> ((17 : Int32) &&& 31).toUInt32).toInt32) &&& (255 : Int32)) % (94 : Int32))).toInt8.toInt32) = vf
        have hn_vf : nar .byte vf = vf := by rw [← e_vf]; exact own_nar8 _
        refine zbastore X248 hx hby at_210 hZ e248 A248_b1 (by decide) (by show Int32.toNatClampNeg 6 < 20; decide) vf hn_vf fun T249 h249 X249 e249 W249 A249_b1 => ?_
        change zLst Z h249 b1 .byte [(.int va), (.int vb), (.int 27), (.int ((e1v vs1).toInt8.toInt32)), (.int ((e2v vs1).toInt8.toInt32)), (.int ve), (.int vf), (.int 0), (.int 0), (.int 0), (.int 0), (.int 0), (.int 0), (.int 0), (.int 0), (.int 0), (.int 0), (.int 0), (.int 0), (.int 0)] at A249_b1
        have O249 := O248.wr W249 g1
        have N249 := Fr.snoc X249 N248 g1
        refine ziload X249 hx hby at_211 rfl (ziconst X249 hx hby at_213 (z := (2 : Int32)) rfl (ziadd X249 hx hby at_214 (7 : Int32) (by decide) (zistore X249 hx hby at_215 (L' := #[iv p1, iv p2, iv p3, iv p4, rv b1, iv 2, iv 7, iv 1, iv 5, iv 2, iv vc, .unset]) rfl (zgoto X249 hx hby at_217 251 (by decide) (by decide) (ziload X249 hx hby at_251 rfl (zistore X249 hx hby at_253 (L' := #[iv p1, iv p2, iv p3, iv p4, rv b1, iv 2, iv 7, iv 1, iv 5, iv 2, iv vc, iv 7]) rfl (zaload X249 hx hby at_255 rfl rfl (ziload X249 hx hby at_257 rfl (ziloadN X249 hx hby at_259 rfl ?_)))))))))
        show zEnds p e below s T249 (mkF m 260 #[iv p1, iv p2, iv p3, iv p4, rv b1, iv 2, iv 7, iv 1, iv 5, iv 2, iv vc, iv 7] [(.int p4), (.int 7), (.ref b1)]) _ _ _
        refine zi2b X249 hx hby at_260 (p4.toInt8.toInt32) rfl ?_
        show zEnds p e below s T249 (mkF m 261 #[iv p1, iv p2, iv p3, iv p4, rv b1, iv 2, iv 7, iv 1, iv 5, iv 2, iv vc, iv 7] [(.int (p4.toInt8.toInt32)), (.int 7), (.ref b1)]) _ _ _
        generalize e_vy : (p4.toInt8.toInt32) = vy
        have hn_vy : nar .byte vy = vy := by rw [← e_vy]; exact own_nar8 _
        refine zbastore X249 hx hby at_261 hZ e249 A249_b1 (by decide) (by show Int32.toNatClampNeg 7 < 20; decide) vy hn_vy fun T250 h250 X250 e250 W250 A250_b1 => ?_
        change zLst Z h250 b1 .byte [(.int va), (.int vb), (.int 27), (.int ((e1v vs1).toInt8.toInt32)), (.int ((e2v vs1).toInt8.toInt32)), (.int ve), (.int vf), (.int vy), (.int 0), (.int 0), (.int 0), (.int 0), (.int 0), (.int 0), (.int 0), (.int 0), (.int 0), (.int 0), (.int 0), (.int 0)] at A250_b1
        have O250 := O249.wr W250 g1
        have N250 := Fr.snoc X250 N249 g1
        refine zaload X250 hx hby at_262 rfl rfl (ziload X250 hx hby at_264 rfl (ziconst X250 hx hby at_266 (z := (1 : Int32)) rfl (ziadd X250 hx hby at_267 (8 : Int32) (by decide) (ziloadN X250 hx hby at_268 rfl (zbipush X250 hx hby at_269 (z := (8 : Int32)) rfl (ziushr X250 hx hby at_271 ((p4.toUInt32 >>> ((8 : Int32) &&& 31).toUInt32).toInt32) rfl (zi2b X250 hx hby at_272 (((p4.toUInt32 >>> ((8 : Int32) &&& 31).toUInt32).toInt32).toInt8.toInt32) rfl ?_)))))))
        show zEnds p e below s T250 (mkF m 273 #[iv p1, iv p2, iv p3, iv p4, rv b1, iv 2, iv 7, iv 1, iv 5, iv 2, iv vc, iv 7] [(.int (((p4.toUInt32 >>> ((8 : Int32) &&& 31).toUInt32).toInt32).toInt8.toInt32)), (.int 8), (.ref b1)]) _ _ _
        generalize e_vz : (((p4.toUInt32 >>> ((8 : Int32) &&& 31).toUInt32).toInt32).toInt8.toInt32) = vz
        have hn_vz : nar .byte vz = vz := by rw [← e_vz]; exact own_nar8 _
        refine zbastore X250 hx hby at_273 hZ e250 A250_b1 (by decide) (by show Int32.toNatClampNeg 8 < 20; decide) vz hn_vz fun T251 h251 X251 e251 W251 A251_b1 => ?_
        change zLst Z h251 b1 .byte [(.int va), (.int vb), (.int 27), (.int ((e1v vs1).toInt8.toInt32)), (.int ((e2v vs1).toInt8.toInt32)), (.int ve), (.int vf), (.int vy), (.int vz), (.int 0), (.int 0), (.int 0), (.int 0), (.int 0), (.int 0), (.int 0), (.int 0), (.int 0), (.int 0), (.int 0)] at A251_b1
        have O251 := O250.wr W251 g1
        have N251 := Fr.snoc X251 N250 g1
        refine zaload X251 hx hby at_274 rfl rfl (ziload X251 hx hby at_276 rfl (ziload X251 hx hby at_278 rfl (zcalls X251 hx hby at_280 hZ hown (w6 hw) (w7 hw) (w8 hw) (w9 hw) e251 (c109_firstCharacter l hw [] ⟨S_w_arr0, A_w_arr0, Al_w_arr0⟩ O251 (zsz O251) b1 va vb ((e1v vs1).toInt8.toInt32) ((e2v vs1).toInt8.toInt32) ve vf vy vz g1 A251_b1 h27_ve) hml 0 pd_0 (argsL := [(.ref b1), (.int 2), (.int 7)]) (st := []) (zpureK ⟨rfl, rfl⟩ fun T252 X252 e252 => ?_))))
        show zEnds p e below s T252 (mkF m 283 #[iv p1, iv p2, iv p3, iv p4, rv b1, iv 2, iv 7, iv 1, iv 5, iv 2, iv vc, iv 7] [(.int 5)]) _ _ _
        refine ziload X252 hx hby at_283 rfl (zicmpNo X252 hx hby at_285 (by decide) (ziconst X252 hx hby at_288 (z := (1 : Int32)) rfl (zgoto X252 hx hby at_289 293 (by decide) (by decide) ?_)))
        show zEnds p e below s T252 (mkF m 293 #[iv p1, iv p2, iv p3, iv p4, rv b1, iv 2, iv 7, iv 1, iv 5, iv 2, iv vc, iv 7] [(.int 1)]) _ _ _
        exact zretZ X252 hx hby at_293 hret hlk (by simp) rfl (by decide) (by decide) ⟨rfl, N251⟩
      · rw [q237]
        refine zistore X236 hx hby at_108 (L' := #[iv p1, iv p2, iv p3, iv p4, rv b1, iv 2, iv 5, iv 1, iv 5, iv 3, .unset, .unset]) rfl (ziloadN X236 hx hby at_110 rfl (ziconst X236 hx hby at_111 (z := (2 : Int32)) rfl (ziushr X236 hx hby at_112 ((p2.toUInt32 >>> ((2 : Int32) &&& 31).toUInt32).toInt32) rfl (zbipush X236 hx hby at_113 (z := (127 : Int32)) rfl (ziand X236 hx hby at_115 (((p2.toUInt32 >>> ((2 : Int32) &&& 31).toUInt32).toInt32) &&& (127 : Int32)) rfl ?_)))))
        show zEnds p e below s T236 (mkF m 116 #[iv p1, iv p2, iv p3, iv p4, rv b1, iv 2, iv 5, iv 1, iv 5, iv 3, .unset, .unset] [(.int (((p2.toUInt32 >>> ((2 : Int32) &&& 31).toUInt32).toInt32) &&& (127 : Int32)))]) _ _ _
        generalize e_vc : (((p2.toUInt32 >>> ((2 : Int32) &&& 31).toUInt32).toInt32) &&& (127 : Int32)) = vc
        have kc : 0 ≤ vc.toInt ∧ vc.toInt ≤ 127 := by rw [← e_vc]; exact own_c _
        refine zistore X236 hx hby at_116 (L' := #[iv p1, iv p2, iv p3, iv p4, rv b1, iv 2, iv 5, iv 1, iv 5, iv 3, iv vc, .unset]) rfl (ziload X236 hx hby at_118 rfl (ziconst X236 hx hby at_120 (z := (1 : Int32)) rfl (zicmpNo X236 hx hby at_121 (by decide) (ziload X236 hx hby at_124 rfl (ziconst X236 hx hby at_126 (z := (3 : Int32)) rfl (zicmpNo X236 hx hby at_127 (by decide) (ziload X236 hx hby at_130 rfl (zbipush X236 hx hby at_132 (z := (27 : Int32)) rfl ?_))))))))
        show zEnds p e below s T236 (mkF m 134 #[iv p1, iv p2, iv p3, iv p4, rv b1, iv 2, iv 5, iv 1, iv 5, iv 3, iv vc, .unset] [(.int 27), (.int vc)]) _ _ _
        by_cases hc27 : vc = (27 : Int32)
        · show zEnds p e below s T236 (mkF m 134 #[iv p1, iv p2, iv p3, iv p4, rv b1, iv 2, iv 5, iv 1, iv 5, iv 3, iv vc, .unset] [(.int 27), (.int vc)]) _ _ _
          refine zicmpNo X236 hx hby at_134 (teq hc27).2 (ziconst X236 hx hby at_137 (z := (0 : Int32)) rfl (zistore X236 hx hby at_138 (L' := #[iv p1, iv p2, iv p3, iv p4, rv b1, iv 2, iv 5, iv 1, iv 5, iv 0, iv vc, .unset]) rfl (ziload X236 hx hby at_140 rfl (ziconst X236 hx hby at_142 (z := (1 : Int32)) rfl (zicmpYes X236 hx hby at_143 163 (by decide) (by decide) (by decide) (ziload X236 hx hby at_163 rfl (ziconst X236 hx hby at_165 (z := (2 : Int32)) rfl (zicmpYes X236 hx hby at_166 220 (by decide) (by decide) (by decide) (ziload X236 hx hby at_220 rfl ?_)))))))))
          show zEnds p e below s T236 (mkF m 222 #[iv p1, iv p2, iv p3, iv p4, rv b1, iv 2, iv 5, iv 1, iv 5, iv 0, iv vc, .unset] [(.int 0)]) _ _ _
          refine ziconst X236 hx hby at_222 (z := (3 : Int32)) rfl (zicmpYes X236 hx hby at_223 251 (by decide) (by decide) (by decide) (ziload X236 hx hby at_251 rfl (zistore X236 hx hby at_253 (L' := #[iv p1, iv p2, iv p3, iv p4, rv b1, iv 2, iv 5, iv 1, iv 5, iv 0, iv vc, iv 5]) rfl (zaload X236 hx hby at_255 rfl rfl (ziload X236 hx hby at_257 rfl (ziloadN X236 hx hby at_259 rfl (zi2b X236 hx hby at_260 (p4.toInt8.toInt32) rfl ?_)))))))
          show zEnds p e below s T236 (mkF m 261 #[iv p1, iv p2, iv p3, iv p4, rv b1, iv 2, iv 5, iv 1, iv 5, iv 0, iv vc, iv 5] [(.int (p4.toInt8.toInt32)), (.int 5), (.ref b1)]) _ _ _
          generalize e_vy : (p4.toInt8.toInt32) = vy
          have hn_vy : nar .byte vy = vy := by rw [← e_vy]; exact own_nar8 _
          refine zbastore X236 hx hby at_261 hZ e236 A236_b1 (by decide) (by show Int32.toNatClampNeg 5 < 20; decide) vy hn_vy fun T253 h253 X253 e253 W253 A253_b1 => ?_
          change zLst Z h253 b1 .byte [(.int va), (.int vb), (.int 27), (.int ((e1v vs1).toInt8.toInt32)), (.int ((e2v vs1).toInt8.toInt32)), (.int vy), (.int 0), (.int 0), (.int 0), (.int 0), (.int 0), (.int 0), (.int 0), (.int 0), (.int 0), (.int 0), (.int 0), (.int 0), (.int 0), (.int 0)] at A253_b1
          have O253 := O236.wr W253 g1
          have N253 := Fr.snoc X253 N236 g1
          refine zaload X253 hx hby at_262 rfl rfl (ziload X253 hx hby at_264 rfl (ziconst X253 hx hby at_266 (z := (1 : Int32)) rfl (ziadd X253 hx hby at_267 (6 : Int32) (by decide) (ziloadN X253 hx hby at_268 rfl (zbipush X253 hx hby at_269 (z := (8 : Int32)) rfl (ziushr X253 hx hby at_271 ((p4.toUInt32 >>> ((8 : Int32) &&& 31).toUInt32).toInt32) rfl (zi2b X253 hx hby at_272 (((p4.toUInt32 >>> ((8 : Int32) &&& 31).toUInt32).toInt32).toInt8.toInt32) rfl ?_)))))))
          show zEnds p e below s T253 (mkF m 273 #[iv p1, iv p2, iv p3, iv p4, rv b1, iv 2, iv 5, iv 1, iv 5, iv 0, iv vc, iv 5] [(.int (((p4.toUInt32 >>> ((8 : Int32) &&& 31).toUInt32).toInt32).toInt8.toInt32)), (.int 6), (.ref b1)]) _ _ _
          generalize e_vz : (((p4.toUInt32 >>> ((8 : Int32) &&& 31).toUInt32).toInt32).toInt8.toInt32) = vz
          have hn_vz : nar .byte vz = vz := by rw [← e_vz]; exact own_nar8 _
          refine zbastore X253 hx hby at_273 hZ e253 A253_b1 (by decide) (by show Int32.toNatClampNeg 6 < 20; decide) vz hn_vz fun T254 h254 X254 e254 W254 A254_b1 => ?_
          change zLst Z h254 b1 .byte [(.int va), (.int vb), (.int 27), (.int ((e1v vs1).toInt8.toInt32)), (.int ((e2v vs1).toInt8.toInt32)), (.int vy), (.int vz), (.int 0), (.int 0), (.int 0), (.int 0), (.int 0), (.int 0), (.int 0), (.int 0), (.int 0), (.int 0), (.int 0), (.int 0), (.int 0)] at A254_b1
          have O254 := O253.wr W254 g1
          have N254 := Fr.snoc X254 N253 g1
          refine zaload X254 hx hby at_274 rfl rfl (ziload X254 hx hby at_276 rfl (ziload X254 hx hby at_278 rfl (zcalls X254 hx hby at_280 hZ hown (w6 hw) (w7 hw) (w8 hw) (w9 hw) e254 (c105_firstCharacter l hw [] ⟨S_w_arr0, A_w_arr0, Al_w_arr0⟩ O254 (zsz O254) b1 va vb ((e1v vs1).toInt8.toInt32) ((e2v vs1).toInt8.toInt32) vy vz g1 A254_b1) hml 0 pd_0 (argsL := [(.ref b1), (.int 2), (.int 5)]) (st := []) (zpureK ⟨rfl, rfl⟩ fun T255 X255 e255 => ?_))))
          show zEnds p e below s T255 (mkF m 283 #[iv p1, iv p2, iv p3, iv p4, rv b1, iv 2, iv 5, iv 1, iv 5, iv 0, iv vc, iv 5] [(.int 5)]) _ _ _
          refine ziload X255 hx hby at_283 rfl (zicmpNo X255 hx hby at_285 (by decide) (ziconst X255 hx hby at_288 (z := (1 : Int32)) rfl (zgoto X255 hx hby at_289 293 (by decide) (by decide) ?_)))
          show zEnds p e below s T255 (mkF m 293 #[iv p1, iv p2, iv p3, iv p4, rv b1, iv 2, iv 5, iv 1, iv 5, iv 0, iv vc, iv 5] [(.int 1)]) _ _ _
          exact zretZ X255 hx hby at_293 hret hlk (by simp) rfl (by decide) (by decide) ⟨rfl, N254⟩
        · show zEnds p e below s T236 (mkF m 134 #[iv p1, iv p2, iv p3, iv p4, rv b1, iv 2, iv 5, iv 1, iv 5, iv 3, iv vc, .unset] [(.int 27), (.int vc)]) _ _ _
          refine zicmpYes X236 hx hby at_134 140 (feq hc27).2 (by decide) (by decide) (ziload X236 hx hby at_140 rfl (ziconst X236 hx hby at_142 (z := (1 : Int32)) rfl (zicmpYes X236 hx hby at_143 163 (by decide) (by decide) (by decide) (ziload X236 hx hby at_163 rfl (ziconst X236 hx hby at_165 (z := (2 : Int32)) rfl (zicmpYes X236 hx hby at_166 220 (by decide) (by decide) (by decide) (ziload X236 hx hby at_220 rfl (ziconst X236 hx hby at_222 (z := (3 : Int32)) rfl (zicmpNo X236 hx hby at_223 (by decide) ?_)))))))))
          show zEnds p e below s T236 (mkF m 226 #[iv p1, iv p2, iv p3, iv p4, rv b1, iv 2, iv 5, iv 1, iv 5, iv 3, iv vc, .unset] []) _ _ _
          refine zaload X236 hx hby at_226 rfl rfl (ziload X236 hx hby at_228 rfl (ziload X236 hx hby at_230 rfl (zi2b X236 hx hby at_232 (vc.toInt8.toInt32) rfl ?_)))
          show zEnds p e below s T236 (mkF m 233 #[iv p1, iv p2, iv p3, iv p4, rv b1, iv 2, iv 5, iv 1, iv 5, iv 3, iv vc, .unset] [(.int (vc.toInt8.toInt32)), (.int 5), (.ref b1)]) _ _ _
          generalize e_vg : (vc.toInt8.toInt32) = vg
          have hn_vg : nar .byte vg = vg := by rw [← e_vg]; exact own_nar8 _
          have h27_vg : ¬ (vg = (27 : Int32)) := by rw [← e_vg]; exact own_27 kc hc27
          refine zbastore X236 hx hby at_233 hZ e236 A236_b1 (by decide) (by show Int32.toNatClampNeg 5 < 20; decide) vg hn_vg fun T256 h256 X256 e256 W256 A256_b1 => ?_
          change zLst Z h256 b1 .byte [(.int va), (.int vb), (.int 27), (.int ((e1v vs1).toInt8.toInt32)), (.int ((e2v vs1).toInt8.toInt32)), (.int vg), (.int 0), (.int 0), (.int 0), (.int 0), (.int 0), (.int 0), (.int 0), (.int 0), (.int 0), (.int 0), (.int 0), (.int 0), (.int 0), (.int 0)] at A256_b1
          have O256 := O236.wr W256 g1
          have N256 := Fr.snoc X256 N236 g1
          refine zaload X256 hx hby at_234 rfl rfl (ziload X256 hx hby at_236 rfl (ziconst X256 hx hby at_238 (z := (1 : Int32)) rfl (ziadd X256 hx hby at_239 (6 : Int32) (by decide) (ziloadN X256 hx hby at_240 rfl (zbipush X256 hx hby at_241 (z := (9 : Int32)) rfl (ziushr X256 hx hby at_243 ((p2.toUInt32 >>> ((9 : Int32) &&& 31).toUInt32).toInt32) rfl (ziconst X256 hx hby at_244 (z := (3 : Int32)) rfl (ziand X256 hx hby at_245 (((p2.toUInt32 >>> ((9 : Int32) &&& 31).toUInt32).toInt32) &&& (3 : Int32)) rfl ?_))))))))
          show zEnds p e below s T256 (mkF m 246 #[iv p1, iv p2, iv p3, iv p4, rv b1, iv 2, iv 5, iv 1, iv 5, iv 3, iv vc, .unset] [(.int (((p2.toUInt32 >>> ((9 : Int32) &&& 31).toUInt32).toInt32) &&& (3 : Int32))), (.int 6), (.ref b1)]) _ _ _
          generalize e_vs4 : (((p2.toUInt32 >>> ((9 : Int32) &&& 31).toUInt32).toInt32) &&& (3 : Int32)) = vs4
          refine zcalls X256 hx hby at_246 hZ hown (w2 hw) (w3 hw) (w4 hw) (w5 hw) e256 (c111_esc l hw [] ⟨S_w_arr0, A_w_arr0, Al_w_arr0⟩ O256 (zsz O256) vs4 b1 va vb (27 : Int32) ((e1v vs1).toInt8.toInt32) ((e2v vs1).toInt8.toInt32) vg (0 : Int32) (0 : Int32) (0 : Int32) (0 : Int32) (0 : Int32) (0 : Int32) (0 : Int32) (0 : Int32) (0 : Int32) (0 : Int32) (0 : Int32) (0 : Int32) (0 : Int32) (0 : Int32) g1 A256_b1 h27_vg) hml 0 pd_0 (argsL := [(.ref b1), (.int 6), (.int vs4)]) (st := []) fun T257 h257 v257 L257 e257 X257 q257 => ?_
          obtain ⟨rfl, N257q, K257q, A257_b1⟩ := q257
          have O257 := O256.keep K257q (allS g1 all0)
          have N257 := Fr.app N256 N257q
          show zEnds p e below s T257 (mkF m 249 #[iv p1, iv p2, iv p3, iv p4, rv b1, iv 2, iv 5, iv 1, iv 5, iv 3, iv vc, .unset] [(.int 9)]) _ _ _
          refine zistore X257 hx hby at_249 (L' := #[iv p1, iv p2, iv p3, iv p4, rv b1, iv 2, iv 9, iv 1, iv 5, iv 3, iv vc, .unset]) rfl (ziload X257 hx hby at_251 rfl (zistore X257 hx hby at_253 (L' := #[iv p1, iv p2, iv p3, iv p4, rv b1, iv 2, iv 9, iv 1, iv 5, iv 3, iv vc, iv 9]) rfl (zaload X257 hx hby at_255 rfl rfl (ziload X257 hx hby at_257 rfl (ziloadN X257 hx hby at_259 rfl (zi2b X257 hx hby at_260 (p4.toInt8.toInt32) rfl ?_))))))
          show zEnds p e below s T257 (mkF m 261 #[iv p1, iv p2, iv p3, iv p4, rv b1, iv 2, iv 9, iv 1, iv 5, iv 3, iv vc, iv 9] [(.int (p4.toInt8.toInt32)), (.int 9), (.ref b1)]) _ _ _
          generalize e_vy : (p4.toInt8.toInt32) = vy
          have hn_vy : nar .byte vy = vy := by rw [← e_vy]; exact own_nar8 _
          refine zbastore X257 hx hby at_261 hZ e257 A257_b1 (by decide) (by show Int32.toNatClampNeg 9 < 20; decide) vy hn_vy fun T258 h258 X258 e258 W258 A258_b1 => ?_
          change zLst Z h258 b1 .byte [(.int va), (.int vb), (.int 27), (.int ((e1v vs1).toInt8.toInt32)), (.int ((e2v vs1).toInt8.toInt32)), (.int vg), (.int 27), (.int ((e1v vs4).toInt8.toInt32)), (.int ((e2v vs4).toInt8.toInt32)), (.int vy), (.int 0), (.int 0), (.int 0), (.int 0), (.int 0), (.int 0), (.int 0), (.int 0), (.int 0), (.int 0)] at A258_b1
          have O258 := O257.wr W258 g1
          have N258 := Fr.snoc X258 N257 g1
          refine zaload X258 hx hby at_262 rfl rfl (ziload X258 hx hby at_264 rfl (ziconst X258 hx hby at_266 (z := (1 : Int32)) rfl (ziadd X258 hx hby at_267 (10 : Int32) (by decide) (ziloadN X258 hx hby at_268 rfl (zbipush X258 hx hby at_269 (z := (8 : Int32)) rfl (ziushr X258 hx hby at_271 ((p4.toUInt32 >>> ((8 : Int32) &&& 31).toUInt32).toInt32) rfl (zi2b X258 hx hby at_272 (((p4.toUInt32 >>> ((8 : Int32) &&& 31).toUInt32).toInt32).toInt8.toInt32) rfl ?_)))))))
          show zEnds p e below s T258 (mkF m 273 #[iv p1, iv p2, iv p3, iv p4, rv b1, iv 2, iv 9, iv 1, iv 5, iv 3, iv vc, iv 9] [(.int (((p4.toUInt32 >>> ((8 : Int32) &&& 31).toUInt32).toInt32).toInt8.toInt32)), (.int 10), (.ref b1)]) _ _ _
          generalize e_vz : (((p4.toUInt32 >>> ((8 : Int32) &&& 31).toUInt32).toInt32).toInt8.toInt32) = vz
          have hn_vz : nar .byte vz = vz := by rw [← e_vz]; exact own_nar8 _
          refine zbastore X258 hx hby at_273 hZ e258 A258_b1 (by decide) (by show Int32.toNatClampNeg 10 < 20; decide) vz hn_vz fun T259 h259 X259 e259 W259 A259_b1 => ?_
          change zLst Z h259 b1 .byte [(.int va), (.int vb), (.int 27), (.int ((e1v vs1).toInt8.toInt32)), (.int ((e2v vs1).toInt8.toInt32)), (.int vg), (.int 27), (.int ((e1v vs4).toInt8.toInt32)), (.int ((e2v vs4).toInt8.toInt32)), (.int vy), (.int vz), (.int 0), (.int 0), (.int 0), (.int 0), (.int 0), (.int 0), (.int 0), (.int 0), (.int 0)] at A259_b1
          have O259 := O258.wr W259 g1
          have N259 := Fr.snoc X259 N258 g1
          refine zaload X259 hx hby at_274 rfl rfl (ziload X259 hx hby at_276 rfl (ziload X259 hx hby at_278 rfl (zcalls X259 hx hby at_280 hZ hown (w6 hw) (w7 hw) (w8 hw) (w9 hw) e259 (c113_firstCharacter l hw [] ⟨S_w_arr0, A_w_arr0, Al_w_arr0⟩ O259 (zsz O259) b1 va vb ((e1v vs1).toInt8.toInt32) ((e2v vs1).toInt8.toInt32) vg ((e1v vs4).toInt8.toInt32) ((e2v vs4).toInt8.toInt32) vy vz g1 A259_b1 h27_vg) hml 0 pd_0 (argsL := [(.ref b1), (.int 2), (.int 9)]) (st := []) (zpureK ⟨rfl, rfl⟩ fun T260 X260 e260 => ?_))))
          show zEnds p e below s T260 (mkF m 283 #[iv p1, iv p2, iv p3, iv p4, rv b1, iv 2, iv 9, iv 1, iv 5, iv 3, iv vc, iv 9] [(.int 5)]) _ _ _
          refine ziload X260 hx hby at_283 rfl (zicmpNo X260 hx hby at_285 (by decide) (ziconst X260 hx hby at_288 (z := (1 : Int32)) rfl (zgoto X260 hx hby at_289 293 (by decide) (by decide) ?_)))
          show zEnds p e below s T260 (mkF m 293 #[iv p1, iv p2, iv p3, iv p4, rv b1, iv 2, iv 9, iv 1, iv 5, iv 3, iv vc, iv 9] [(.int 1)]) _ _ _
          exact zretZ X260 hx hby at_293 hret hlk (by simp) rfl (by decide) (by decide) ⟨rfl, N259⟩
    · rw [q211]
      refine zistore X3 hx hby at_39 (L' := #[iv p1, iv p2, iv p3, iv p4, rv b1, iv 2, iv 2, iv 2, .unset, .unset, .unset, .unset]) rfl (ziload X3 hx hby at_41 rfl (zifNo X3 hx hby at_43 (by decide) (zaload X3 hx hby at_46 rfl rfl (ziload X3 hx hby at_48 rfl (ziloadN X3 hx hby at_50 rfl (ziconst X3 hx hby at_51 (z := (2 : Int32)) rfl (ziushr X3 hx hby at_52 ((p1.toUInt32 >>> ((2 : Int32) &&& 31).toUInt32).toInt32) rfl (ziconst X3 hx hby at_53 (z := (3 : Int32)) rfl (ziand X3 hx hby at_54 (((p1.toUInt32 >>> ((2 : Int32) &&& 31).toUInt32).toInt32) &&& (3 : Int32)) rfl ?_)))))))))
      show zEnds p e below s T3 (mkF m 55 #[iv p1, iv p2, iv p3, iv p4, rv b1, iv 2, iv 2, iv 2, .unset, .unset, .unset, .unset] [(.int (((p1.toUInt32 >>> ((2 : Int32) &&& 31).toUInt32).toInt32) &&& (3 : Int32))), (.int 2), (.ref b1)]) _ _ _
      generalize e_vs1 : (((p1.toUInt32 >>> ((2 : Int32) &&& 31).toUInt32).toInt32) &&& (3 : Int32)) = vs1
      refine zcalls X3 hx hby at_55 hZ hown (w2 hw) (w3 hw) (w4 hw) (w5 hw) e3 (c103_esc l hw [] ⟨S_w_arr0, A_w_arr0, Al_w_arr0⟩ O3 (zsz O3) vs1 b1 va vb (0 : Int32) (0 : Int32) (0 : Int32) (0 : Int32) (0 : Int32) (0 : Int32) (0 : Int32) (0 : Int32) (0 : Int32) (0 : Int32) (0 : Int32) (0 : Int32) (0 : Int32) (0 : Int32) (0 : Int32) (0 : Int32) (0 : Int32) (0 : Int32) g1 A3_b1) hml 0 pd_0 (argsL := [(.ref b1), (.int 2), (.int vs1)]) (st := []) fun T261 h261 v261 L261 e261 X261 q261 => ?_
      obtain ⟨rfl, N261q, K261q, A261_b1⟩ := q261
      have O261 := O3.keep K261q (allS g1 all0)
      have N261 := Fr.app N3 N261q
      show zEnds p e below s T261 (mkF m 58 #[iv p1, iv p2, iv p3, iv p4, rv b1, iv 2, iv 2, iv 2, .unset, .unset, .unset, .unset] [(.int 5)]) _ _ _
      refine zistore X261 hx hby at_58 (L' := #[iv p1, iv p2, iv p3, iv p4, rv b1, iv 2, iv 5, iv 2, .unset, .unset, .unset, .unset]) rfl (ziload X261 hx hby at_60 rfl (ziconst X261 hx hby at_62 (z := (1 : Int32)) rfl (zicmpNo X261 hx hby at_63 (by decide) (zaload X261 hx hby at_66 rfl rfl (ziload X261 hx hby at_68 rfl (ziloadN X261 hx hby at_70 rfl (ziconst X261 hx hby at_71 (z := (4 : Int32)) rfl (ziushr X261 hx hby at_72 ((p1.toUInt32 >>> ((4 : Int32) &&& 31).toUInt32).toInt32) rfl (ziconst X261 hx hby at_73 (z := (3 : Int32)) rfl ?_)))))))))
      show zEnds p e below s T261 (mkF m 74 #[iv p1, iv p2, iv p3, iv p4, rv b1, iv 2, iv 5, iv 2, .unset, .unset, .unset, .unset] [(.int 3), (.int ((p1.toUInt32 >>> ((4 : Int32) &&& 31).toUInt32).toInt32)), (.int 5), (.ref b1)]) _ _ _
      refine ziand X261 hx hby at_74 (((p1.toUInt32 >>> ((4 : Int32) &&& 31).toUInt32).toInt32) &&& (3 : Int32)) rfl ?_
      show zEnds p e below s T261 (mkF m 75 #[iv p1, iv p2, iv p3, iv p4, rv b1, iv 2, iv 5, iv 2, .unset, .unset, .unset, .unset] [(.int (((p1.toUInt32 >>> ((4 : Int32) &&& 31).toUInt32).toInt32) &&& (3 : Int32))), (.int 5), (.ref b1)]) _ _ _
      generalize e_vs2 : (((p1.toUInt32 >>> ((4 : Int32) &&& 31).toUInt32).toInt32) &&& (3 : Int32)) = vs2
      refine zcalls X261 hx hby at_75 hZ hown (w2 hw) (w3 hw) (w4 hw) (w5 hw) e261 (c115_esc l hw [] ⟨S_w_arr0, A_w_arr0, Al_w_arr0⟩ O261 (zsz O261) vs2 b1 va vb (27 : Int32) ((e1v vs1).toInt8.toInt32) ((e2v vs1).toInt8.toInt32) (0 : Int32) (0 : Int32) (0 : Int32) (0 : Int32) (0 : Int32) (0 : Int32) (0 : Int32) (0 : Int32) (0 : Int32) (0 : Int32) (0 : Int32) (0 : Int32) (0 : Int32) (0 : Int32) (0 : Int32) g1 A261_b1) hml 0 pd_0 (argsL := [(.ref b1), (.int 5), (.int vs2)]) (st := []) fun T262 h262 v262 L262 e262 X262 q262 => ?_
      obtain ⟨rfl, N262q, K262q, A262_b1⟩ := q262
      have O262 := O261.keep K262q (allS g1 all0)
      have N262 := Fr.app N261 N262q
      show zEnds p e below s T262 (mkF m 78 #[iv p1, iv p2, iv p3, iv p4, rv b1, iv 2, iv 5, iv 2, .unset, .unset, .unset, .unset] [(.int 8)]) _ _ _
      refine zistore X262 hx hby at_78 (L' := #[iv p1, iv p2, iv p3, iv p4, rv b1, iv 2, iv 8, iv 2, .unset, .unset, .unset, .unset]) rfl (ziload X262 hx hby at_80 rfl (ziconst X262 hx hby at_82 (z := (2 : Int32)) rfl (zicmpYes X262 hx hby at_83 101 (by decide) (by decide) (by decide) (ziload X262 hx hby at_101 rfl (zistore X262 hx hby at_103 (L' := #[iv p1, iv p2, iv p3, iv p4, rv b1, iv 2, iv 8, iv 2, iv 8, .unset, .unset, .unset]) rfl (ziloadN X262 hx hby at_105 rfl (ziconst X262 hx hby at_106 (z := (3 : Int32)) rfl (ziand X262 hx hby at_107 (p2 &&& (3 : Int32)) rfl ?_))))))))
      show zEnds p e below s T262 (mkF m 108 #[iv p1, iv p2, iv p3, iv p4, rv b1, iv 2, iv 8, iv 2, iv 8, .unset, .unset, .unset] [(.int (p2 &&& (3 : Int32)))]) _ _ _
      rcases (and_3 p2) with q263 | q263 | q263 | q263
      · rw [q263]
        refine zistore X262 hx hby at_108 (L' := #[iv p1, iv p2, iv p3, iv p4, rv b1, iv 2, iv 8, iv 2, iv 8, iv 0, .unset, .unset]) rfl (ziloadN X262 hx hby at_110 rfl (ziconst X262 hx hby at_111 (z := (2 : Int32)) rfl (ziushr X262 hx hby at_112 ((p2.toUInt32 >>> ((2 : Int32) &&& 31).toUInt32).toInt32) rfl (zbipush X262 hx hby at_113 (z := (127 : Int32)) rfl (ziand X262 hx hby at_115 (((p2.toUInt32 >>> ((2 : Int32) &&& 31).toUInt32).toInt32) &&& (127 : Int32)) rfl ?_)))))
        show zEnds p e below s T262 (mkF m 116 #[iv p1, iv p2, iv p3, iv p4, rv b1, iv 2, iv 8, iv 2, iv 8, iv 0, .unset, .unset] [(.int (((p2.toUInt32 >>> ((2 : Int32) &&& 31).toUInt32).toInt32) &&& (127 : Int32)))]) _ _ _
        generalize e_vc : (((p2.toUInt32 >>> ((2 : Int32) &&& 31).toUInt32).toInt32) &&& (127 : Int32)) = vc
        have kc : 0 ≤ vc.toInt ∧ vc.toInt ≤ 127 := by rw [← e_vc]; exact own_c _
        refine zistore X262 hx hby at_116 (L' := #[iv p1, iv p2, iv p3, iv p4, rv b1, iv 2, iv 8, iv 2, iv 8, iv 0, iv vc, .unset]) rfl (ziload X262 hx hby at_118 rfl (ziconst X262 hx hby at_120 (z := (1 : Int32)) rfl (zicmpNo X262 hx hby at_121 (by decide) (ziload X262 hx hby at_124 rfl (ziconst X262 hx hby at_126 (z := (3 : Int32)) rfl (zicmpYes X262 hx hby at_127 140 (by decide) (by decide) (by decide) (ziload X262 hx hby at_140 rfl (ziconst X262 hx hby at_142 (z := (1 : Int32)) rfl (zicmpYes X262 hx hby at_143 163 (by decide) (by decide) (by decide) ?_)))))))))
        show zEnds p e below s T262 (mkF m 163 #[iv p1, iv p2, iv p3, iv p4, rv b1, iv 2, iv 8, iv 2, iv 8, iv 0, iv vc, .unset] []) _ _ _
        refine ziload X262 hx hby at_163 rfl (ziconst X262 hx hby at_165 (z := (2 : Int32)) rfl (zicmpYes X262 hx hby at_166 220 (by decide) (by decide) (by decide) (ziload X262 hx hby at_220 rfl (ziconst X262 hx hby at_222 (z := (3 : Int32)) rfl (zicmpYes X262 hx hby at_223 251 (by decide) (by decide) (by decide) (ziload X262 hx hby at_251 rfl (zistore X262 hx hby at_253 (L' := #[iv p1, iv p2, iv p3, iv p4, rv b1, iv 2, iv 8, iv 2, iv 8, iv 0, iv vc, iv 8]) rfl (zaload X262 hx hby at_255 rfl rfl (ziload X262 hx hby at_257 rfl ?_)))))))))
        show zEnds p e below s T262 (mkF m 259 #[iv p1, iv p2, iv p3, iv p4, rv b1, iv 2, iv 8, iv 2, iv 8, iv 0, iv vc, iv 8] [(.int 8), (.ref b1)]) _ _ _
        refine ziloadN X262 hx hby at_259 rfl (zi2b X262 hx hby at_260 (p4.toInt8.toInt32) rfl ?_)
        show zEnds p e below s T262 (mkF m 261 #[iv p1, iv p2, iv p3, iv p4, rv b1, iv 2, iv 8, iv 2, iv 8, iv 0, iv vc, iv 8] [(.int (p4.toInt8.toInt32)), (.int 8), (.ref b1)]) _ _ _
        generalize e_vy : (p4.toInt8.toInt32) = vy
        have hn_vy : nar .byte vy = vy := by rw [← e_vy]; exact own_nar8 _
        refine zbastore X262 hx hby at_261 hZ e262 A262_b1 (by decide) (by show Int32.toNatClampNeg 8 < 20; decide) vy hn_vy fun T264 h264 X264 e264 W264 A264_b1 => ?_
        change zLst Z h264 b1 .byte [(.int va), (.int vb), (.int 27), (.int ((e1v vs1).toInt8.toInt32)), (.int ((e2v vs1).toInt8.toInt32)), (.int 27), (.int ((e1v vs2).toInt8.toInt32)), (.int ((e2v vs2).toInt8.toInt32)), (.int vy), (.int 0), (.int 0), (.int 0), (.int 0), (.int 0), (.int 0), (.int 0), (.int 0), (.int 0), (.int 0), (.int 0)] at A264_b1
        have O264 := O262.wr W264 g1
        have N264 := Fr.snoc X264 N262 g1
        refine zaload X264 hx hby at_262 rfl rfl (ziload X264 hx hby at_264 rfl (ziconst X264 hx hby at_266 (z := (1 : Int32)) rfl (ziadd X264 hx hby at_267 (9 : Int32) (by decide) (ziloadN X264 hx hby at_268 rfl (zbipush X264 hx hby at_269 (z := (8 : Int32)) rfl (ziushr X264 hx hby at_271 ((p4.toUInt32 >>> ((8 : Int32) &&& 31).toUInt32).toInt32) rfl (zi2b X264 hx hby at_272 (((p4.toUInt32 >>> ((8 : Int32) &&& 31).toUInt32).toInt32).toInt8.toInt32) rfl ?_)))))))
        show zEnds p e below s T264 (mkF m 273 #[iv p1, iv p2, iv p3, iv p4, rv b1, iv 2, iv 8, iv 2, iv 8, iv 0, iv vc, iv 8] [(.int (((p4.toUInt32 >>> ((8 : Int32) &&& 31).toUInt32).toInt32).toInt8.toInt32)), (.int 9), (.ref b1)]) _ _ _
        generalize e_vz : (((p4.toUInt32 >>> ((8 : Int32) &&& 31).toUInt32).toInt32).toInt8.toInt32) = vz
        have hn_vz : nar .byte vz = vz := by rw [← e_vz]; exact own_nar8 _
        refine zbastore X264 hx hby at_273 hZ e264 A264_b1 (by decide) (by show Int32.toNatClampNeg 9 < 20; decide) vz hn_vz fun T265 h265 X265 e265 W265 A265_b1 => ?_
        change zLst Z h265 b1 .byte [(.int va), (.int vb), (.int 27), (.int ((e1v vs1).toInt8.toInt32)), (.int ((e2v vs1).toInt8.toInt32)), (.int 27), (.int ((e1v vs2).toInt8.toInt32)), (.int ((e2v vs2).toInt8.toInt32)), (.int vy), (.int vz), (.int 0), (.int 0), (.int 0), (.int 0), (.int 0), (.int 0), (.int 0), (.int 0), (.int 0), (.int 0)] at A265_b1
        have O265 := O264.wr W265 g1
        have N265 := Fr.snoc X265 N264 g1
        refine zaload X265 hx hby at_274 rfl rfl (ziload X265 hx hby at_276 rfl (ziload X265 hx hby at_278 rfl (zcalls X265 hx hby at_280 hZ hown (w6 hw) (w7 hw) (w8 hw) (w9 hw) e265 (c117_firstCharacter l hw [] ⟨S_w_arr0, A_w_arr0, Al_w_arr0⟩ O265 (zsz O265) b1 va vb ((e1v vs1).toInt8.toInt32) ((e2v vs1).toInt8.toInt32) ((e1v vs2).toInt8.toInt32) ((e2v vs2).toInt8.toInt32) vy vz g1 A265_b1) hml 0 pd_0 (argsL := [(.ref b1), (.int 2), (.int 8)]) (st := []) (zpureK ⟨rfl, rfl⟩ fun T266 X266 e266 => ?_))))
        show zEnds p e below s T266 (mkF m 283 #[iv p1, iv p2, iv p3, iv p4, rv b1, iv 2, iv 8, iv 2, iv 8, iv 0, iv vc, iv 8] [(.int 8)]) _ _ _
        refine ziload X266 hx hby at_283 rfl (zicmpNo X266 hx hby at_285 (by decide) (ziconst X266 hx hby at_288 (z := (1 : Int32)) rfl (zgoto X266 hx hby at_289 293 (by decide) (by decide) ?_)))
        show zEnds p e below s T266 (mkF m 293 #[iv p1, iv p2, iv p3, iv p4, rv b1, iv 2, iv 8, iv 2, iv 8, iv 0, iv vc, iv 8] [(.int 1)]) _ _ _
        exact zretZ X266 hx hby at_293 hret hlk (by simp) rfl (by decide) (by decide) ⟨rfl, N265⟩
      · rw [q263]
        refine zistore X262 hx hby at_108 (L' := #[iv p1, iv p2, iv p3, iv p4, rv b1, iv 2, iv 8, iv 2, iv 8, iv 1, .unset, .unset]) rfl (ziloadN X262 hx hby at_110 rfl (ziconst X262 hx hby at_111 (z := (2 : Int32)) rfl (ziushr X262 hx hby at_112 ((p2.toUInt32 >>> ((2 : Int32) &&& 31).toUInt32).toInt32) rfl (zbipush X262 hx hby at_113 (z := (127 : Int32)) rfl (ziand X262 hx hby at_115 (((p2.toUInt32 >>> ((2 : Int32) &&& 31).toUInt32).toInt32) &&& (127 : Int32)) rfl ?_)))))
        show zEnds p e below s T262 (mkF m 116 #[iv p1, iv p2, iv p3, iv p4, rv b1, iv 2, iv 8, iv 2, iv 8, iv 1, .unset, .unset] [(.int (((p2.toUInt32 >>> ((2 : Int32) &&& 31).toUInt32).toInt32) &&& (127 : Int32)))]) _ _ _
        generalize e_vc : (((p2.toUInt32 >>> ((2 : Int32) &&& 31).toUInt32).toInt32) &&& (127 : Int32)) = vc
        have kc : 0 ≤ vc.toInt ∧ vc.toInt ≤ 127 := by rw [← e_vc]; exact own_c _
        refine zistore X262 hx hby at_116 (L' := #[iv p1, iv p2, iv p3, iv p4, rv b1, iv 2, iv 8, iv 2, iv 8, iv 1, iv vc, .unset]) rfl (ziload X262 hx hby at_118 rfl (ziconst X262 hx hby at_120 (z := (1 : Int32)) rfl (zicmpYes X262 hx hby at_121 130 (by decide) (by decide) (by decide) (ziload X262 hx hby at_130 rfl (zbipush X262 hx hby at_132 (z := (27 : Int32)) rfl ?_)))))
        show zEnds p e below s T262 (mkF m 134 #[iv p1, iv p2, iv p3, iv p4, rv b1, iv 2, iv 8, iv 2, iv 8, iv 1, iv vc, .unset] [(.int 27), (.int vc)]) _ _ _
        by_cases hc27 : vc = (27 : Int32)
        · show zEnds p e below s T262 (mkF m 134 #[iv p1, iv p2, iv p3, iv p4, rv b1, iv 2, iv 8, iv 2, iv 8, iv 1, iv vc, .unset] [(.int 27), (.int vc)]) _ _ _
          refine zicmpNo X262 hx hby at_134 (teq hc27).2 (ziconst X262 hx hby at_137 (z := (0 : Int32)) rfl (zistore X262 hx hby at_138 (L' := #[iv p1, iv p2, iv p3, iv p4, rv b1, iv 2, iv 8, iv 2, iv 8, iv 0, iv vc, .unset]) rfl (ziload X262 hx hby at_140 rfl (ziconst X262 hx hby at_142 (z := (1 : Int32)) rfl (zicmpYes X262 hx hby at_143 163 (by decide) (by decide) (by decide) (ziload X262 hx hby at_163 rfl (ziconst X262 hx hby at_165 (z := (2 : Int32)) rfl (zicmpYes X262 hx hby at_166 220 (by decide) (by decide) (by decide) (ziload X262 hx hby at_220 rfl ?_)))))))))
          show zEnds p e below s T262 (mkF m 222 #[iv p1, iv p2, iv p3, iv p4, rv b1, iv 2, iv 8, iv 2, iv 8, iv 0, iv vc, .unset] [(.int 0)]) _ _ _
          refine ziconst X262 hx hby at_222 (z := (3 : Int32)) rfl (zicmpYes X262 hx hby at_223 251 (by decide) (by decide) (by decide) (ziload X262 hx hby at_251 rfl (zistore X262 hx hby at_253 (L' := #[iv p1, iv p2, iv p3, iv p4, rv b1, iv 2, iv 8, iv 2, iv 8, iv 0, iv vc, iv 8]) rfl (zaload X262 hx hby at_255 rfl rfl (ziload X262 hx hby at_257 rfl (ziloadN X262 hx hby at_259 rfl (zi2b X262 hx hby at_260 (p4.toInt8.toInt32) rfl ?_)))))))
          show zEnds p e below s T262 (mkF m 261 #[iv p1, iv p2, iv p3, iv p4, rv b1, iv 2, iv 8, iv 2, iv 8, iv 0, iv vc, iv 8] [(.int (p4.toInt8.toInt32)), (.int 8), (.ref b1)]) _ _ _
          generalize e_vy : (p4.toInt8.toInt32) = vy
          have hn_vy : nar .byte vy = vy := by rw [← e_vy]; exact own_nar8 _
          refine zbastore X262 hx hby at_261 hZ e262 A262_b1 (by decide) (by show Int32.toNatClampNeg 8 < 20; decide) vy hn_vy fun T267 h267 X267 e267 W267 A267_b1 => ?_
          change zLst Z h267 b1 .byte [(.int va), (.int vb), (.int 27), (.int ((e1v vs1).toInt8.toInt32)), (.int ((e2v vs1).toInt8.toInt32)), (.int 27), (.int ((e1v vs2).toInt8.toInt32)), (.int ((e2v vs2).toInt8.toInt32)), (.int vy), (.int 0), (.int 0), (.int 0), (.int 0), (.int 0), (.int 0), (.int 0), (.int 0), (.int 0), (.int 0), (.int 0)] at A267_b1
          have O267 := O262.wr W267 g1
          have N267 := Fr.snoc X267 N262 g1
          refine zaload X267 hx hby at_262 rfl rfl (ziload X267 hx hby at_264 rfl (ziconst X267 hx hby at_266 (z := (1 : Int32)) rfl (ziadd X267 hx hby at_267 (9 : Int32) (by decide) (ziloadN X267 hx hby at_268 rfl (zbipush X267 hx hby at_269 (z := (8 : Int32)) rfl (ziushr X267 hx hby at_271 ((p4.toUInt32 >>> ((8 : Int32) &&& 31).toUInt32).toInt32) rfl (zi2b X267 hx hby at_272 (((p4.toUInt32 >>> ((8 : Int32) &&& 31).toUInt32).toInt32).toInt8.toInt32) rfl ?_)))))))
          show zEnds p e below s T267 (mkF m 273 #[iv p1, iv p2, iv p3, iv p4, rv b1, iv 2, iv 8, iv 2, iv 8, iv 0, iv vc, iv 8] [(.int (((p4.toUInt32 >>> ((8 : Int32) &&& 31).toUInt32).toInt32).toInt8.toInt32)), (.int 9), (.ref b1)]) _ _ _
          generalize e_vz : (((p4.toUInt32 >>> ((8 : Int32) &&& 31).toUInt32).toInt32).toInt8.toInt32) = vz
          have hn_vz : nar .byte vz = vz := by rw [← e_vz]; exact own_nar8 _
          refine zbastore X267 hx hby at_273 hZ e267 A267_b1 (by decide) (by show Int32.toNatClampNeg 9 < 20; decide) vz hn_vz fun T268 h268 X268 e268 W268 A268_b1 => ?_
          change zLst Z h268 b1 .byte [(.int va), (.int vb), (.int 27), (.int ((e1v vs1).toInt8.toInt32)), (.int ((e2v vs1).toInt8.toInt32)), (.int 27), (.int ((e1v vs2).toInt8.toInt32)), (.int ((e2v vs2).toInt8.toInt32)), (.int vy), (.int vz), (.int 0), (.int 0), (.int 0), (.int 0), (.int 0), (.int 0), (.int 0), (.int 0), (.int 0), (.int 0)] at A268_b1
          have O268 := O267.wr W268 g1
          have N268 := Fr.snoc X268 N267 g1
          refine zaload X268 hx hby at_274 rfl rfl (ziload X268 hx hby at_276 rfl (ziload X268 hx hby at_278 rfl (zcalls X268 hx hby at_280 hZ hown (w6 hw) (w7 hw) (w8 hw) (w9 hw) e268 (c117_firstCharacter l hw [] ⟨S_w_arr0, A_w_arr0, Al_w_arr0⟩ O268 (zsz O268) b1 va vb ((e1v vs1).toInt8.toInt32) ((e2v vs1).toInt8.toInt32) ((e1v vs2).toInt8.toInt32) ((e2v vs2).toInt8.toInt32) vy vz g1 A268_b1) hml 0 pd_0 (argsL := [(.ref b1), (.int 2), (.int 8)]) (st := []) (zpureK ⟨rfl, rfl⟩ fun T269 X269 e269 => ?_))))
          show zEnds p e below s T269 (mkF m 283 #[iv p1, iv p2, iv p3, iv p4, rv b1, iv 2, iv 8, iv 2, iv 8, iv 0, iv vc, iv 8] [(.int 8)]) _ _ _
          refine ziload X269 hx hby at_283 rfl (zicmpNo X269 hx hby at_285 (by decide) (ziconst X269 hx hby at_288 (z := (1 : Int32)) rfl (zgoto X269 hx hby at_289 293 (by decide) (by decide) ?_)))
          show zEnds p e below s T269 (mkF m 293 #[iv p1, iv p2, iv p3, iv p4, rv b1, iv 2, iv 8, iv 2, iv 8, iv 0, iv vc, iv 8] [(.int 1)]) _ _ _
          exact zretZ X269 hx hby at_293 hret hlk (by simp) rfl (by decide) (by decide) ⟨rfl, N268⟩
        · show zEnds p e below s T262 (mkF m 134 #[iv p1, iv p2, iv p3, iv p4, rv b1, iv 2, iv 8, iv 2, iv 8, iv 1, iv vc, .unset] [(.int 27), (.int vc)]) _ _ _
          refine zicmpYes X262 hx hby at_134 140 (feq hc27).2 (by decide) (by decide) (ziload X262 hx hby at_140 rfl (ziconst X262 hx hby at_142 (z := (1 : Int32)) rfl (zicmpNo X262 hx hby at_143 (by decide) (zaload X262 hx hby at_146 rfl rfl (ziload X262 hx hby at_148 rfl (ziload X262 hx hby at_150 rfl (zi2b X262 hx hby at_152 (vc.toInt8.toInt32) rfl ?_)))))))
          show zEnds p e below s T262 (mkF m 153 #[iv p1, iv p2, iv p3, iv p4, rv b1, iv 2, iv 8, iv 2, iv 8, iv 1, iv vc, .unset] [(.int (vc.toInt8.toInt32)), (.int 8), (.ref b1)]) _ _ _
          generalize e_vd : (vc.toInt8.toInt32) = vd
          have hn_vd : nar .byte vd = vd := by rw [← e_vd]; exact own_nar8 _
          have h27_vd : ¬ (vd = (27 : Int32)) := by rw [← e_vd]; exact own_27 kc hc27
          refine zbastore X262 hx hby at_153 hZ e262 A262_b1 (by decide) (by show Int32.toNatClampNeg 8 < 20; decide) vd hn_vd fun T270 h270 X270 e270 W270 A270_b1 => ?_
          change zLst Z h270 b1 .byte [(.int va), (.int vb), (.int 27), (.int ((e1v vs1).toInt8.toInt32)), (.int ((e2v vs1).toInt8.toInt32)), (.int 27), (.int ((e1v vs2).toInt8.toInt32)), (.int ((e2v vs2).toInt8.toInt32)), (.int vd), (.int 0), (.int 0), (.int 0), (.int 0), (.int 0), (.int 0), (.int 0), (.int 0), (.int 0), (.int 0), (.int 0)] at A270_b1
          have O270 := O262.wr W270 g1
          have N270 := Fr.snoc X270 N262 g1
          refine ziload X270 hx hby at_154 rfl (ziconst X270 hx hby at_156 (z := (1 : Int32)) rfl (ziadd X270 hx hby at_157 (9 : Int32) (by decide) (zistore X270 hx hby at_158 (L' := #[iv p1, iv p2, iv p3, iv p4, rv b1, iv 2, iv 9, iv 2, iv 8, iv 1, iv vc, .unset]) rfl (zgoto X270 hx hby at_160 251 (by decide) (by decide) (ziload X270 hx hby at_251 rfl (zistore X270 hx hby at_253 (L' := #[iv p1, iv p2, iv p3, iv p4, rv b1, iv 2, iv 9, iv 2, iv 8, iv 1, iv vc, iv 9]) rfl (zaload X270 hx hby at_255 rfl rfl (ziload X270 hx hby at_257 rfl (ziloadN X270 hx hby at_259 rfl ?_)))))))))
          show zEnds p e below s T270 (mkF m 260 #[iv p1, iv p2, iv p3, iv p4, rv b1, iv 2, iv 9, iv 2, iv 8, iv 1, iv vc, iv 9] [(.int p4), (.int 9), (.ref b1)]) _ _ _
          refine zi2b X270 hx hby at_260 (p4.toInt8.toInt32) rfl ?_
          show zEnds p e below s T270 (mkF m 261 #[iv p1, iv p2, iv p3, iv p4, rv b1, iv 2, iv 9, iv 2, iv 8, iv 1, iv vc, iv 9] [(.int (p4.toInt8.toInt32)), (.int 9), (.ref b1)]) _ _ _
          generalize e_vy : (p4.toInt8.toInt32) = vy
          have hn_vy : nar .byte vy = vy := by rw [← e_vy]; exact own_nar8 _
          refine zbastore X270 hx hby at_261 hZ e270 A270_b1 (by decide) (by show Int32.toNatClampNeg 9 < 20; decide) vy hn_vy fun T271 h271 X271 e271 W271 A271_b1 => ?_
          change zLst Z h271 b1 .byte [(.int va), (.int vb), (.int 27), (.int ((e1v vs1).toInt8.toInt32)), (.int ((e2v vs1).toInt8.toInt32)), (.int 27), (.int ((e1v vs2).toInt8.toInt32)), (.int ((e2v vs2).toInt8.toInt32)), (.int vd), (.int vy), (.int 0), (.int 0), (.int 0), (.int 0), (.int 0), (.int 0), (.int 0), (.int 0), (.int 0), (.int 0)] at A271_b1
          have O271 := O270.wr W271 g1
          have N271 := Fr.snoc X271 N270 g1
          refine zaload X271 hx hby at_262 rfl rfl (ziload X271 hx hby at_264 rfl (ziconst X271 hx hby at_266 (z := (1 : Int32)) rfl (ziadd X271 hx hby at_267 (10 : Int32) (by decide) (ziloadN X271 hx hby at_268 rfl (zbipush X271 hx hby at_269 (z := (8 : Int32)) rfl (ziushr X271 hx hby at_271 ((p4.toUInt32 >>> ((8 : Int32) &&& 31).toUInt32).toInt32) rfl (zi2b X271 hx hby at_272 (((p4.toUInt32 >>> ((8 : Int32) &&& 31).toUInt32).toInt32).toInt8.toInt32) rfl ?_)))))))
          show zEnds p e below s T271 (mkF m 273 #[iv p1, iv p2, iv p3, iv p4, rv b1, iv 2, iv 9, iv 2, iv 8, iv 1, iv vc, iv 9] [(.int (((p4.toUInt32 >>> ((8 : Int32) &&& 31).toUInt32).toInt32).toInt8.toInt32)), (.int 10), (.ref b1)]) _ _ _
          generalize e_vz : (((p4.toUInt32 >>> ((8 : Int32) &&& 31).toUInt32).toInt32).toInt8.toInt32) = vz
          have hn_vz : nar .byte vz = vz := by rw [← e_vz]; exact own_nar8 _
          refine zbastore X271 hx hby at_273 hZ e271 A271_b1 (by decide) (by show Int32.toNatClampNeg 10 < 20; decide) vz hn_vz fun T272 h272 X272 e272 W272 A272_b1 => ?_
          change zLst Z h272 b1 .byte [(.int va), (.int vb), (.int 27), (.int ((e1v vs1).toInt8.toInt32)), (.int ((e2v vs1).toInt8.toInt32)), (.int 27), (.int ((e1v vs2).toInt8.toInt32)), (.int ((e2v vs2).toInt8.toInt32)), (.int vd), (.int vy), (.int vz), (.int 0), (.int 0), (.int 0), (.int 0), (.int 0), (.int 0), (.int 0), (.int 0), (.int 0)] at A272_b1
          have O272 := O271.wr W272 g1
          have N272 := Fr.snoc X272 N271 g1
          refine zaload X272 hx hby at_274 rfl rfl (ziload X272 hx hby at_276 rfl (ziload X272 hx hby at_278 rfl (zcalls X272 hx hby at_280 hZ hown (w6 hw) (w7 hw) (w8 hw) (w9 hw) e272 (c119_firstCharacter l hw [] ⟨S_w_arr0, A_w_arr0, Al_w_arr0⟩ O272 (zsz O272) b1 va vb ((e1v vs1).toInt8.toInt32) ((e2v vs1).toInt8.toInt32) ((e1v vs2).toInt8.toInt32) ((e2v vs2).toInt8.toInt32) vd vy vz g1 A272_b1 h27_vd) hml 0 pd_0 (argsL := [(.ref b1), (.int 2), (.int 9)]) (st := []) (zpureK ⟨rfl, rfl⟩ fun T273 X273 e273 => ?_))))
          show zEnds p e below s T273 (mkF m 283 #[iv p1, iv p2, iv p3, iv p4, rv b1, iv 2, iv 9, iv 2, iv 8, iv 1, iv vc, iv 9] [(.int 8)]) _ _ _
          refine ziload X273 hx hby at_283 rfl (zicmpNo X273 hx hby at_285 (by decide) (ziconst X273 hx hby at_288 (z := (1 : Int32)) rfl (zgoto X273 hx hby at_289 293 (by decide) (by decide) ?_)))
          show zEnds p e below s T273 (mkF m 293 #[iv p1, iv p2, iv p3, iv p4, rv b1, iv 2, iv 9, iv 2, iv 8, iv 1, iv vc, iv 9] [(.int 1)]) _ _ _
          exact zretZ X273 hx hby at_293 hret hlk (by simp) rfl (by decide) (by decide) ⟨rfl, N272⟩
      · rw [q263]
        refine zistore X262 hx hby at_108 (L' := #[iv p1, iv p2, iv p3, iv p4, rv b1, iv 2, iv 8, iv 2, iv 8, iv 2, .unset, .unset]) rfl (ziloadN X262 hx hby at_110 rfl (ziconst X262 hx hby at_111 (z := (2 : Int32)) rfl (ziushr X262 hx hby at_112 ((p2.toUInt32 >>> ((2 : Int32) &&& 31).toUInt32).toInt32) rfl (zbipush X262 hx hby at_113 (z := (127 : Int32)) rfl (ziand X262 hx hby at_115 (((p2.toUInt32 >>> ((2 : Int32) &&& 31).toUInt32).toInt32) &&& (127 : Int32)) rfl ?_)))))
        show zEnds p e below s T262 (mkF m 116 #[iv p1, iv p2, iv p3, iv p4, rv b1, iv 2, iv 8, iv 2, iv 8, iv 2, .unset, .unset] [(.int (((p2.toUInt32 >>> ((2 : Int32) &&& 31).toUInt32).toInt32) &&& (127 : Int32)))]) _ _ _
        generalize e_vc : (((p2.toUInt32 >>> ((2 : Int32) &&& 31).toUInt32).toInt32) &&& (127 : Int32)) = vc
        have kc : 0 ≤ vc.toInt ∧ vc.toInt ≤ 127 := by rw [← e_vc]; exact own_c _
        refine zistore X262 hx hby at_116 (L' := #[iv p1, iv p2, iv p3, iv p4, rv b1, iv 2, iv 8, iv 2, iv 8, iv 2, iv vc, .unset]) rfl (ziload X262 hx hby at_118 rfl (ziconst X262 hx hby at_120 (z := (1 : Int32)) rfl (zicmpNo X262 hx hby at_121 (by decide) (ziload X262 hx hby at_124 rfl (ziconst X262 hx hby at_126 (z := (3 : Int32)) rfl (zicmpYes X262 hx hby at_127 140 (by decide) (by decide) (by decide) (ziload X262 hx hby at_140 rfl (ziconst X262 hx hby at_142 (z := (1 : Int32)) rfl (zicmpYes X262 hx hby at_143 163 (by decide) (by decide) (by decide) ?_)))))))))
        show zEnds p e below s T262 (mkF m 163 #[iv p1, iv p2, iv p3, iv p4, rv b1, iv 2, iv 8, iv 2, iv 8, iv 2, iv vc, .unset] []) _ _ _
        refine ziload X262 hx hby at_163 rfl (ziconst X262 hx hby at_165 (z := (2 : Int32)) rfl (zicmpNo X262 hx hby at_166 (by decide) (zaload X262 hx hby at_169 rfl rfl (ziload X262 hx hby at_171 rfl (zbipush X262 hx hby at_173 (z := (48 : Int32)) rfl (ziloadN X262 hx hby at_175 rfl (zbipush X262 hx hby at_176 (z := (9 : Int32)) rfl (ziushr X262 hx hby at_178 ((p2.toUInt32 >>> ((9 : Int32) &&& 31).toUInt32).toInt32) rfl (zsipush X262 hx hby at_179 (z := (255 : Int32)) rfl ?_)))))))))
        show zEnds p e below s T262 (mkF m 182 #[iv p1, iv p2, iv p3, iv p4, rv b1, iv 2, iv 8, iv 2, iv 8, iv 2, iv vc, .unset] [(.int 255), (.int ((p2.toUInt32 >>> ((9 : Int32) &&& 31).toUInt32).toInt32)), (.int 48), (.int 8), (.ref b1)]) _ _ _
        refine ziand X262 hx hby at_182 (((p2.toUInt32 >>> ((9 : Int32) &&& 31).toUInt32).toInt32) &&& (255 : Int32)) rfl (zbipush X262 hx hby at_183 (z := (31 : Int32)) rfl (zirem X262 hx hby at_185 ((((p2.toUInt32 >>> ((9 : Int32) &&& 31).toUInt32).toInt32) &&& (255 : Int32)) % (31 : Int32)) (by decide) rfl (ziadd X262 hx hby at_186 ((48 : Int32) + ((((p2.toUInt32 >>> ((9 : Int32) &&& 31).toUInt32).toInt32) &&& (255 : Int32)) % (31 : Int32))) rfl (zi2b X262 hx hby at_187 (((48 : Int32) + ((((p2.toUInt32 >>> ((9 : Int32) &&& 31).toUInt32).toInt32) &&& (255 : Int32)) % (31 : Int32))).toInt8.toInt32) rfl ?_))))
        show zEnds p e below s T262 (mkF m 188 #[iv p1, iv p2, iv p3, iv p4, rv b1, iv 2, iv 8, iv 2, iv 8, iv 2, iv vc, .unset] [(.int (((48 : Int32) + ((((p2.toUInt32 >>> ((9 : Int32) &&& 31).toUInt32).toInt32) &&& (255 : Int32)) % (31 : Int32))).toInt8.toInt32)), (.int 8), (.ref b1)]) _ _ _
        generalize e_ve : (((48 : Int32) + ((((p2.toUInt32 >>> ((9 : Int32) &&& 31).toUInt32).toInt32) &&& (255 : Int32)) % (31 : Int32))).toInt8.toInt32) = ve
        have hn_ve : nar .byte ve = ve := by rw [← e_ve]; exact own_nar8 _
        have h27_ve : ¬ (ve = (27 : Int32)) := by rw [← e_ve]; exact own_48 _
        refine zbastore X262 hx hby at_188 hZ e262 A262_b1 (by decide) (by show Int32.toNatClampNeg 8 < 20; decide) ve hn_ve fun T274 h274 X274 e274 W274 A274_b1 => ?_
        change zLst Z h274 b1 .byte [(.int va), (.int vb), (.int 27), (.int ((e1v vs1).toInt8.toInt32)), (.int ((e2v vs1).toInt8.toInt32)), (.int 27), (.int ((e1v vs2).toInt8.toInt32)), (.int ((e2v vs2).toInt8.toInt32)), (.int ve), (.int 0), (.int 0), (.int 0), (.int 0), (.int 0), (.int 0), (.int 0), (.int 0), (.int 0), (.int 0), (.int 0)] at A274_b1
        have O274 := O262.wr W274 g1
        have N274 := Fr.snoc X274 N262 g1
        refine zaload X274 hx hby at_189 rfl rfl (ziload X274 hx hby at_191 rfl (ziconst X274 hx hby at_193 (z := (1 : Int32)) rfl (ziadd X274 hx hby at_194 (9 : Int32) (by decide) (zbipush X274 hx hby at_195 (z := (33 : Int32)) rfl (ziloadN X274 hx hby at_197 rfl (zbipush X274 hx hby at_198 (z := (17 : Int32)) rfl (ziushr X274 hx hby at_200 ((p2.toUInt32 >>> ((17 : Int32) &&& 31).toUInt32).toInt32) rfl (zsipush X274 hx hby at_201 (z := (255 : Int32)) rfl (ziand X274 hx hby at_204 (((p2.toUInt32 >>> ((17 : Int32) &&& 31).toUInt32).toInt32) &&& (255 : Int32)) rfl ?_)))))))))
        show zEnds p e below s T274 (mkF m 205 #[iv p1, iv p2, iv p3, iv p4, rv b1, iv 2, iv 8, iv 2, iv 8, iv 2, iv vc, .unset] [(.int (((p2.toUInt32 >>> ((17 : Int32) &&& 31).toUInt32).toInt32) &&& (255 : Int32))), (.int 33), (.int 9), (.ref b1)]) _ _ _
        refine zbipush X274 hx hby at_205 (z := (94 : Int32)) rfl (zirem X274 hx hby at_207 ((((p2.toUInt32 >>> ((17 : Int32) &&& 31).toUInt32).toInt32) &&& (255 : Int32)) % (94 : Int32)) (by decide) rfl (ziadd X274 hx hby at_208 ((33 : Int32) + ((((p2.toUInt32 >>> ((17 : Int32) &&& 31).toUInt32).toInt32) &&& (255 : Int32)) % (94 : Int32))) rfl (zi2b X274 hx hby at_209 (((33 : Int32) + ((((p2.toUInt32 >>> ((17 : Int32) &&& 31).toUInt32).toInt32) &&& (255 : Int32)) % (94 : Int32))).toInt8.toInt32) rfl ?_)))
        show zEnds p e below s T274 (mkF m 210 #[iv p1, iv p2, iv p3, iv p4, rv b1, iv 2, iv 8, iv 2, iv 8, iv 2, iv vc, .unset] [(.int (((33 : Int32) + ((((p2.toUInt32 >>> ((17 : Int32) &&& 31).toUInt32).toInt32) &&& (255 : Int32)) % (94 : Int32))).toInt8.toInt32)), (.int 9), (.ref b1)]) _ _ _
        generalize e_vf : (((33 : Int32) + ((((p2.toUInt32 >>> ((17 : Int32) &&& 31).toUInt32).toInt32) &&& (255 : Int32)) % (94 : Int32))).toInt8.toInt32) = vf
        have hn_vf : nar .byte vf = vf := by rw [← e_vf]; exact own_nar8 _
        refine zbastore X274 hx hby at_210 hZ e274 A274_b1 (by decide) (by show Int32.toNatClampNeg 9 < 20; decide) vf hn_vf fun T275 h275 X275 e275 W275 A275_b1 => ?_
        change zLst Z h275 b1 .byte [(.int va), (.int vb), (.int 27), (.int ((e1v vs1).toInt8.toInt32)), (.int ((e2v vs1).toInt8.toInt32)), (.int 27), (.int ((e1v vs2).toInt8.toInt32)), (.int ((e2v vs2).toInt8.toInt32)), (.int ve), (.int vf), (.int 0), (.int 0), (.int 0), (.int 0), (.int 0), (.int 0), (.int 0), (.int 0), (.int 0), (.int 0)] at A275_b1
        have O275 := O274.wr W275 g1
        have N275 := Fr.snoc X275 N274 g1
        refine ziload X275 hx hby at_211 rfl (ziconst X275 hx hby at_213 (z := (2 : Int32)) rfl (ziadd X275 hx hby at_214 (10 : Int32) (by decide) (zistore X275 hx hby at_215 (L' := #[iv p1, iv p2, iv p3, iv p4, rv b1, iv 2, iv 10, iv 2, iv 8, iv 2, iv vc, .unset]) rfl (zgoto X275 hx hby at_217 251 (by decide) (by decide) (ziload X275 hx hby at_251 rfl (zistore X275 hx hby at_253 (L' := #[iv p1, iv p2, iv p3, iv p4, rv b1, iv 2, iv 10, iv 2, iv 8, iv 2, iv vc, iv 10]) rfl (zaload X275 hx hby at_255 rfl rfl (ziload X275 hx hby at_257 rfl (ziloadN X275 hx hby at_259 rfl ?_)))))))))
        show zEnds p e below s T275 (mkF m 260 #[iv p1, iv p2, iv p3, iv p4, rv b1, iv 2, iv 10, iv 2, iv 8, iv 2, iv vc, iv 10] [(.int p4), (.int 10), (.ref b1)]) _ _ _
        refine zi2b X275 hx hby at_260 (p4.toInt8.toInt32) rfl ?_
        show zEnds p e below s T275 (mkF m 261 #[iv p1, iv p2, iv p3, iv p4, rv b1, iv 2, iv 10, iv 2, iv 8, iv 2, iv vc, iv 10] [(.int (p4.toInt8.toInt32)), (.int 10), (.ref b1)]) _ _ _
        generalize e_vy : (p4.toInt8.toInt32) = vy
        have hn_vy : nar .byte vy = vy := by rw [← e_vy]; exact own_nar8 _
        refine zbastore X275 hx hby at_261 hZ e275 A275_b1 (by decide) (by show Int32.toNatClampNeg 10 < 20; decide) vy hn_vy fun T276 h276 X276 e276 W276 A276_b1 => ?_
        change zLst Z h276 b1 .byte [(.int va), (.int vb), (.int 27), (.int ((e1v vs1).toInt8.toInt32)), (.int ((e2v vs1).toInt8.toInt32)), (.int 27), (.int ((e1v vs2).toInt8.toInt32)), (.int ((e2v vs2).toInt8.toInt32)), (.int ve), (.int vf), (.int vy), (.int 0), (.int 0), (.int 0), (.int 0), (.int 0), (.int 0), (.int 0), (.int 0), (.int 0)] at A276_b1
        have O276 := O275.wr W276 g1
        have N276 := Fr.snoc X276 N275 g1
        refine zaload X276 hx hby at_262 rfl rfl (ziload X276 hx hby at_264 rfl (ziconst X276 hx hby at_266 (z := (1 : Int32)) rfl (ziadd X276 hx hby at_267 (11 : Int32) (by decide) (ziloadN X276 hx hby at_268 rfl (zbipush X276 hx hby at_269 (z := (8 : Int32)) rfl (ziushr X276 hx hby at_271 ((p4.toUInt32 >>> ((8 : Int32) &&& 31).toUInt32).toInt32) rfl (zi2b X276 hx hby at_272 (((p4.toUInt32 >>> ((8 : Int32) &&& 31).toUInt32).toInt32).toInt8.toInt32) rfl ?_)))))))
        show zEnds p e below s T276 (mkF m 273 #[iv p1, iv p2, iv p3, iv p4, rv b1, iv 2, iv 10, iv 2, iv 8, iv 2, iv vc, iv 10] [(.int (((p4.toUInt32 >>> ((8 : Int32) &&& 31).toUInt32).toInt32).toInt8.toInt32)), (.int 11), (.ref b1)]) _ _ _
        generalize e_vz : (((p4.toUInt32 >>> ((8 : Int32) &&& 31).toUInt32).toInt32).toInt8.toInt32) = vz
        have hn_vz : nar .byte vz = vz := by rw [← e_vz]; exact own_nar8 _
        refine zbastore X276 hx hby at_273 hZ e276 A276_b1 (by decide) (by show Int32.toNatClampNeg 11 < 20; decide) vz hn_vz fun T277 h277 X277 e277 W277 A277_b1 => ?_
        change zLst Z h277 b1 .byte [(.int va), (.int vb), (.int 27), (.int ((e1v vs1).toInt8.toInt32)), (.int ((e2v vs1).toInt8.toInt32)), (.int 27), (.int ((e1v vs2).toInt8.toInt32)), (.int ((e2v vs2).toInt8.toInt32)), (.int ve), (.int vf), (.int vy), (.int vz), (.int 0), (.int 0), (.int 0), (.int 0), (.int 0), (.int 0), (.int 0), (.int 0)] at A277_b1
        have O277 := O276.wr W277 g1
        have N277 := Fr.snoc X277 N276 g1
        refine zaload X277 hx hby at_274 rfl rfl (ziload X277 hx hby at_276 rfl (ziload X277 hx hby at_278 rfl (zcalls X277 hx hby at_280 hZ hown (w6 hw) (w7 hw) (w8 hw) (w9 hw) e277 (c121_firstCharacter l hw [] ⟨S_w_arr0, A_w_arr0, Al_w_arr0⟩ O277 (zsz O277) b1 va vb ((e1v vs1).toInt8.toInt32) ((e2v vs1).toInt8.toInt32) ((e1v vs2).toInt8.toInt32) ((e2v vs2).toInt8.toInt32) ve vf vy vz g1 A277_b1 h27_ve) hml 0 pd_0 (argsL := [(.ref b1), (.int 2), (.int 10)]) (st := []) (zpureK ⟨rfl, rfl⟩ fun T278 X278 e278 => ?_))))
        show zEnds p e below s T278 (mkF m 283 #[iv p1, iv p2, iv p3, iv p4, rv b1, iv 2, iv 10, iv 2, iv 8, iv 2, iv vc, iv 10] [(.int 8)]) _ _ _
        refine ziload X278 hx hby at_283 rfl (zicmpNo X278 hx hby at_285 (by decide) (ziconst X278 hx hby at_288 (z := (1 : Int32)) rfl (zgoto X278 hx hby at_289 293 (by decide) (by decide) ?_)))
        show zEnds p e below s T278 (mkF m 293 #[iv p1, iv p2, iv p3, iv p4, rv b1, iv 2, iv 10, iv 2, iv 8, iv 2, iv vc, iv 10] [(.int 1)]) _ _ _
        exact zretZ X278 hx hby at_293 hret hlk (by simp) rfl (by decide) (by decide) ⟨rfl, N277⟩
      · rw [q263]
        refine zistore X262 hx hby at_108 (L' := #[iv p1, iv p2, iv p3, iv p4, rv b1, iv 2, iv 8, iv 2, iv 8, iv 3, .unset, .unset]) rfl (ziloadN X262 hx hby at_110 rfl (ziconst X262 hx hby at_111 (z := (2 : Int32)) rfl (ziushr X262 hx hby at_112 ((p2.toUInt32 >>> ((2 : Int32) &&& 31).toUInt32).toInt32) rfl (zbipush X262 hx hby at_113 (z := (127 : Int32)) rfl (ziand X262 hx hby at_115 (((p2.toUInt32 >>> ((2 : Int32) &&& 31).toUInt32).toInt32) &&& (127 : Int32)) rfl ?_)))))
        show zEnds p e below s T262 (mkF m 116 #[iv p1, iv p2, iv p3, iv p4, rv b1, iv 2, iv 8, iv 2, iv 8, iv 3, .unset, .unset] [(.int (((p2.toUInt32 >>> ((2 : Int32) &&& 31).toUInt32).toInt32) &&& (127 : Int32)))]) _ _ _
        generalize e_vc : (((p2.toUInt32 >>> ((2 : Int32) &&& 31).toUInt32).toInt32) &&& (127 : Int32)) = vc
        have kc : 0 ≤ vc.toInt ∧ vc.toInt ≤ 127 := by rw [← e_vc]; exact own_c _
        refine zistore X262 hx hby at_116 (L' := #[iv p1, iv p2, iv p3, iv p4, rv b1, iv 2, iv 8, iv 2, iv 8, iv 3, iv vc, .unset]) rfl (ziload X262 hx hby at_118 rfl (ziconst X262 hx hby at_120 (z := (1 : Int32)) rfl (zicmpNo X262 hx hby at_121 (by decide) (ziload X262 hx hby at_124 rfl (ziconst X262 hx hby at_126 (z := (3 : Int32)) rfl (zicmpNo X262 hx hby at_127 (by decide) (ziload X262 hx hby at_130 rfl (zbipush X262 hx hby at_132 (z := (27 : Int32)) rfl ?_))))))))
        show zEnds p e below s T262 (mkF m 134 #[iv p1, iv p2, iv p3, iv p4, rv b1, iv 2, iv 8, iv 2, iv 8, iv 3, iv vc, .unset] [(.int 27), (.int vc)]) _ _ _
        by_cases hc27 : vc = (27 : Int32)
        · show zEnds p e below s T262 (mkF m 134 #[iv p1, iv p2, iv p3, iv p4, rv b1, iv 2, iv 8, iv 2, iv 8, iv 3, iv vc, .unset] [(.int 27), (.int vc)]) _ _ _
          refine zicmpNo X262 hx hby at_134 (teq hc27).2 (ziconst X262 hx hby at_137 (z := (0 : Int32)) rfl (zistore X262 hx hby at_138 (L' := #[iv p1, iv p2, iv p3, iv p4, rv b1, iv 2, iv 8, iv 2, iv 8, iv 0, iv vc, .unset]) rfl (ziload X262 hx hby at_140 rfl (ziconst X262 hx hby at_142 (z := (1 : Int32)) rfl (zicmpYes X262 hx hby at_143 163 (by decide) (by decide) (by decide) (ziload X262 hx hby at_163 rfl (ziconst X262 hx hby at_165 (z := (2 : Int32)) rfl (zicmpYes X262 hx hby at_166 220 (by decide) (by decide) (by decide) (ziload X262 hx hby at_220 rfl ?_)))))))))
          show zEnds p e below s T262 (mkF m 222 #[iv p1, iv p2, iv p3, iv p4, rv b1, iv 2, iv 8, iv 2, iv 8, iv 0, iv vc, .unset] [(.int 0)]) _ _ _
          refine ziconst X262 hx hby at_222 (z := (3 : Int32)) rfl (zicmpYes X262 hx hby at_223 251 (by decide) (by decide) (by decide) (ziload X262 hx hby at_251 rfl (zistore X262 hx hby at_253 (L' := #[iv p1, iv p2, iv p3, iv p4, rv b1, iv 2, iv 8, iv 2, iv 8, iv 0, iv vc, iv 8]) rfl (zaload X262 hx hby at_255 rfl rfl (ziload X262 hx hby at_257 rfl (ziloadN X262 hx hby at_259 rfl (zi2b X262 hx hby at_260 (p4.toInt8.toInt32) rfl ?_)))))))
          show zEnds p e below s T262 (mkF m 261 #[iv p1, iv p2, iv p3, iv p4, rv b1, iv 2, iv 8, iv 2, iv 8, iv 0, iv vc, iv 8] [(.int (p4.toInt8.toInt32)), (.int 8), (.ref b1)]) _ _ _
          generalize e_vy : (p4.toInt8.toInt32) = vy
          have hn_vy : nar .byte vy = vy := by rw [← e_vy]; exact own_nar8 _
          refine zbastore X262 hx hby at_261 hZ e262 A262_b1 (by decide) (by show Int32.toNatClampNeg 8 < 20; decide) vy hn_vy fun T279 h279 X279 e279 W279 A279_b1 => ?_
          change zLst Z h279 b1 .byte [(.int va), (.int vb), (.int 27), (.int ((e1v vs1).toInt8.toInt32)), (.int ((e2v vs1).toInt8.toInt32)), (.int 27), (.int ((e1v vs2).toInt8.toInt32)), (.int ((e2v vs2).toInt8.toInt32)), (.int vy), (.int 0), (.int 0), (.int 0), (.int 0), (.int 0), (.int 0), (.int 0), (.int 0), (.int 0), (.int 0), (.int 0)] at A279_b1
          have O279 := O262.wr W279 g1
          have N279 := Fr.snoc X279 N262 g1
          refine zaload X279 hx hby at_262 rfl rfl (ziload X279 hx hby at_264 rfl (ziconst X279 hx hby at_266 (z := (1 : Int32)) rfl (ziadd X279 hx hby at_267 (9 : Int32) (by decide) (ziloadN X279 hx hby at_268 rfl (zbipush X279 hx hby at_269 (z := (8 : Int32)) rfl (ziushr X279 hx hby at_271 ((p4.toUInt32 >>> ((8 : Int32) &&& 31).toUInt32).toInt32) rfl (zi2b X279 hx hby at_272 (((p4.toUInt32 >>> ((8 : Int32) &&& 31).toUInt32).toInt32).toInt8.toInt32) rfl ?_)))))))
          show zEnds p e below s T279 (mkF m 273 #[iv p1, iv p2, iv p3, iv p4, rv b1, iv 2, iv 8, iv 2, iv 8, iv 0, iv vc, iv 8] [(.int (((p4.toUInt32 >>> ((8 : Int32) &&& 31).toUInt32).toInt32).toInt8.toInt32)), (.int 9), (.ref b1)]) _ _ _
          generalize e_vz : (((p4.toUInt32 >>> ((8 : Int32) &&& 31).toUInt32).toInt32).toInt8.toInt32) = vz
          have hn_vz : nar .byte vz = vz := by rw [← e_vz]; exact own_nar8 _
          refine zbastore X279 hx hby at_273 hZ e279 A279_b1 (by decide) (by show Int32.toNatClampNeg 9 < 20; decide) vz hn_vz fun T280 h280 X280 e280 W280 A280_b1 => ?_
          change zLst Z h280 b1 .byte [(.int va), (.int vb), (.int 27), (.int ((e1v vs1).toInt8.toInt32)), (.int ((e2v vs1).toInt8.toInt32)), (.int 27), (.int ((e1v vs2).toInt8.toInt32)), (.int ((e2v vs2).toInt8.toInt32)), (.int vy), (.int vz), (.int 0), (.int 0), (.int 0), (.int 0), (.int 0), (.int 0), (.int 0), (.int 0), (.int 0), (.int 0)] at A280_b1
          have O280 := O279.wr W280 g1
          have N280 := Fr.snoc X280 N279 g1
          refine zaload X280 hx hby at_274 rfl rfl (ziload X280 hx hby at_276 rfl (ziload X280 hx hby at_278 rfl (zcalls X280 hx hby at_280 hZ hown (w6 hw) (w7 hw) (w8 hw) (w9 hw) e280 (c117_firstCharacter l hw [] ⟨S_w_arr0, A_w_arr0, Al_w_arr0⟩ O280 (zsz O280) b1 va vb ((e1v vs1).toInt8.toInt32) ((e2v vs1).toInt8.toInt32) ((e1v vs2).toInt8.toInt32) ((e2v vs2).toInt8.toInt32) vy vz g1 A280_b1) hml 0 pd_0 (argsL := [(.ref b1), (.int 2), (.int 8)]) (st := []) (zpureK ⟨rfl, rfl⟩ fun T281 X281 e281 => ?_))))
          show zEnds p e below s T281 (mkF m 283 #[iv p1, iv p2, iv p3, iv p4, rv b1, iv 2, iv 8, iv 2, iv 8, iv 0, iv vc, iv 8] [(.int 8)]) _ _ _
          refine ziload X281 hx hby at_283 rfl (zicmpNo X281 hx hby at_285 (by decide) (ziconst X281 hx hby at_288 (z := (1 : Int32)) rfl (zgoto X281 hx hby at_289 293 (by decide) (by decide) ?_)))
          show zEnds p e below s T281 (mkF m 293 #[iv p1, iv p2, iv p3, iv p4, rv b1, iv 2, iv 8, iv 2, iv 8, iv 0, iv vc, iv 8] [(.int 1)]) _ _ _
          exact zretZ X281 hx hby at_293 hret hlk (by simp) rfl (by decide) (by decide) ⟨rfl, N280⟩
        · show zEnds p e below s T262 (mkF m 134 #[iv p1, iv p2, iv p3, iv p4, rv b1, iv 2, iv 8, iv 2, iv 8, iv 3, iv vc, .unset] [(.int 27), (.int vc)]) _ _ _
          refine zicmpYes X262 hx hby at_134 140 (feq hc27).2 (by decide) (by decide) (ziload X262 hx hby at_140 rfl (ziconst X262 hx hby at_142 (z := (1 : Int32)) rfl (zicmpYes X262 hx hby at_143 163 (by decide) (by decide) (by decide) (ziload X262 hx hby at_163 rfl (ziconst X262 hx hby at_165 (z := (2 : Int32)) rfl (zicmpYes X262 hx hby at_166 220 (by decide) (by decide) (by decide) (ziload X262 hx hby at_220 rfl (ziconst X262 hx hby at_222 (z := (3 : Int32)) rfl (zicmpNo X262 hx hby at_223 (by decide) ?_)))))))))
          show zEnds p e below s T262 (mkF m 226 #[iv p1, iv p2, iv p3, iv p4, rv b1, iv 2, iv 8, iv 2, iv 8, iv 3, iv vc, .unset] []) _ _ _
          refine zaload X262 hx hby at_226 rfl rfl (ziload X262 hx hby at_228 rfl (ziload X262 hx hby at_230 rfl (zi2b X262 hx hby at_232 (vc.toInt8.toInt32) rfl ?_)))
          show zEnds p e below s T262 (mkF m 233 #[iv p1, iv p2, iv p3, iv p4, rv b1, iv 2, iv 8, iv 2, iv 8, iv 3, iv vc, .unset] [(.int (vc.toInt8.toInt32)), (.int 8), (.ref b1)]) _ _ _
          generalize e_vg : (vc.toInt8.toInt32) = vg
          have hn_vg : nar .byte vg = vg := by rw [← e_vg]; exact own_nar8 _
          have h27_vg : ¬ (vg = (27 : Int32)) := by rw [← e_vg]; exact own_27 kc hc27
          refine zbastore X262 hx hby at_233 hZ e262 A262_b1 (by decide) (by show Int32.toNatClampNeg 8 < 20; decide) vg hn_vg fun T282 h282 X282 e282 W282 A282_b1 => ?_
          change zLst Z h282 b1 .byte [(.int va), (.int vb), (.int 27), (.int ((e1v vs1).toInt8.toInt32)), (.int ((e2v vs1).toInt8.toInt32)), (.int 27), (.int ((e1v vs2).toInt8.toInt32)), (.int ((e2v vs2).toInt8.toInt32)), (.int vg), (.int 0), (.int 0), (.int 0), (.int 0), (.int 0), (.int 0), (.int 0), (.int 0), (.int 0), (.int 0), (.int 0)] at A282_b1
          have O282 := O262.wr W282 g1
          have N282 := Fr.snoc X282 N262 g1
          refine zaload X282 hx hby at_234 rfl rfl (ziload X282 hx hby at_236 rfl (ziconst X282 hx hby at_238 (z := (1 : Int32)) rfl (ziadd X282 hx hby at_239 (9 : Int32) (by decide) (ziloadN X282 hx hby at_240 rfl (zbipush X282 hx hby at_241 (z := (9 : Int32)) rfl (ziushr X282 hx hby at_243 ((p2.toUInt32 >>> ((9 : Int32) &&& 31).toUInt32).toInt32) rfl (ziconst X282 hx hby at_244 (z := (3 : Int32)) rfl (ziand X282 hx hby at_245 (((p2.toUInt32 >>> ((9 : Int32) &&& 31).toUInt32).toInt32) &&& (3 : Int32)) rfl ?_))))))))
          show zEnds p e below s T282 (mkF m 246 #[iv p1, iv p2, iv p3, iv p4, rv b1, iv 2, iv 8, iv 2, iv 8, iv 3, iv vc, .unset] [(.int (((p2.toUInt32 >>> ((9 : Int32) &&& 31).toUInt32).toInt32) &&& (3 : Int32))), (.int 9), (.ref b1)]) _ _ _
          generalize e_vs4 : (((p2.toUInt32 >>> ((9 : Int32) &&& 31).toUInt32).toInt32) &&& (3 : Int32)) = vs4
          refine zcalls X282 hx hby at_246 hZ hown (w2 hw) (w3 hw) (w4 hw) (w5 hw) e282 (c123_esc l hw [] ⟨S_w_arr0, A_w_arr0, Al_w_arr0⟩ O282 (zsz O282) vs4 b1 va vb (27 : Int32) ((e1v vs1).toInt8.toInt32) ((e2v vs1).toInt8.toInt32) (27 : Int32) ((e1v vs2).toInt8.toInt32) ((e2v vs2).toInt8.toInt32) vg (0 : Int32) (0 : Int32) (0 : Int32) (0 : Int32) (0 : Int32) (0 : Int32) (0 : Int32) (0 : Int32) (0 : Int32) (0 : Int32) (0 : Int32) g1 A282_b1 h27_vg) hml 0 pd_0 (argsL := [(.ref b1), (.int 9), (.int vs4)]) (st := []) fun T283 h283 v283 L283 e283 X283 q283 => ?_
          obtain ⟨rfl, N283q, K283q, A283_b1⟩ := q283
          have O283 := O282.keep K283q (allS g1 all0)
          have N283 := Fr.app N282 N283q
          show zEnds p e below s T283 (mkF m 249 #[iv p1, iv p2, iv p3, iv p4, rv b1, iv 2, iv 8, iv 2, iv 8, iv 3, iv vc, .unset] [(.int 12)]) _ _ _
          refine zistore X283 hx hby at_249 (L' := #[iv p1, iv p2, iv p3, iv p4, rv b1, iv 2, iv 12, iv 2, iv 8, iv 3, iv vc, .unset]) rfl (ziload X283 hx hby at_251 rfl (zistore X283 hx hby at_253 (L' := #[iv p1, iv p2, iv p3, iv p4, rv b1, iv 2, iv 12, iv 2, iv 8, iv 3, iv vc, iv 12]) rfl (zaload X283 hx hby at_255 rfl rfl (ziload X283 hx hby at_257 rfl (ziloadN X283 hx hby at_259 rfl (zi2b X283 hx hby at_260 (p4.toInt8.toInt32) rfl ?_))))))
          show zEnds p e below s T283 (mkF m 261 #[iv p1, iv p2, iv p3, iv p4, rv b1, iv 2, iv 12, iv 2, iv 8, iv 3, iv vc, iv 12] [(.int (p4.toInt8.toInt32)), (.int 12), (.ref b1)]) _ _ _
          generalize e_vy : (p4.toInt8.toInt32) = vy
          have hn_vy : nar .byte vy = vy := by rw [← e_vy]; exact own_nar8 _
          refine zbastore X283 hx hby at_261 hZ e283 A283_b1 (by decide) (by show Int32.toNatClampNeg 12 < 20; decide) vy hn_vy fun T284 h284 X284 e284 W284 A284_b1 => ?_
          change zLst Z h284 b1 .byte [(.int va), (.int vb), (.int 27), (.int ((e1v vs1).toInt8.toInt32)), (.int ((e2v vs1).toInt8.toInt32)), (.int 27), (.int ((e1v vs2).toInt8.toInt32)), (.int ((e2v vs2).toInt8.toInt32)), (.int vg), (.int 27), (.int ((e1v vs4).toInt8.toInt32)), (.int ((e2v vs4).toInt8.toInt32)), (.int vy), (.int 0), (.int 0), (.int 0), (.int 0), (.int 0), (.int 0), (.int 0)] at A284_b1
          have O284 := O283.wr W284 g1
          have N284 := Fr.snoc X284 N283 g1
          refine zaload X284 hx hby at_262 rfl rfl (ziload X284 hx hby at_264 rfl (ziconst X284 hx hby at_266 (z := (1 : Int32)) rfl (ziadd X284 hx hby at_267 (13 : Int32) (by decide) (ziloadN X284 hx hby at_268 rfl (zbipush X284 hx hby at_269 (z := (8 : Int32)) rfl (ziushr X284 hx hby at_271 ((p4.toUInt32 >>> ((8 : Int32) &&& 31).toUInt32).toInt32) rfl (zi2b X284 hx hby at_272 (((p4.toUInt32 >>> ((8 : Int32) &&& 31).toUInt32).toInt32).toInt8.toInt32) rfl ?_)))))))
          show zEnds p e below s T284 (mkF m 273 #[iv p1, iv p2, iv p3, iv p4, rv b1, iv 2, iv 12, iv 2, iv 8, iv 3, iv vc, iv 12] [(.int (((p4.toUInt32 >>> ((8 : Int32) &&& 31).toUInt32).toInt32).toInt8.toInt32)), (.int 13), (.ref b1)]) _ _ _
          generalize e_vz : (((p4.toUInt32 >>> ((8 : Int32) &&& 31).toUInt32).toInt32).toInt8.toInt32) = vz
          have hn_vz : nar .byte vz = vz := by rw [← e_vz]; exact own_nar8 _
          refine zbastore X284 hx hby at_273 hZ e284 A284_b1 (by decide) (by show Int32.toNatClampNeg 13 < 20; decide) vz hn_vz fun T285 h285 X285 e285 W285 A285_b1 => ?_
          change zLst Z h285 b1 .byte [(.int va), (.int vb), (.int 27), (.int ((e1v vs1).toInt8.toInt32)), (.int ((e2v vs1).toInt8.toInt32)), (.int 27), (.int ((e1v vs2).toInt8.toInt32)), (.int ((e2v vs2).toInt8.toInt32)), (.int vg), (.int 27), (.int ((e1v vs4).toInt8.toInt32)), (.int ((e2v vs4).toInt8.toInt32)), (.int vy), (.int vz), (.int 0), (.int 0), (.int 0), (.int 0), (.int 0), (.int 0)] at A285_b1
          have O285 := O284.wr W285 g1
          have N285 := Fr.snoc X285 N284 g1
          refine zaload X285 hx hby at_274 rfl rfl (ziload X285 hx hby at_276 rfl (ziload X285 hx hby at_278 rfl (zcalls X285 hx hby at_280 hZ hown (w6 hw) (w7 hw) (w8 hw) (w9 hw) e285 (c125_firstCharacter l hw [] ⟨S_w_arr0, A_w_arr0, Al_w_arr0⟩ O285 (zsz O285) b1 va vb ((e1v vs1).toInt8.toInt32) ((e2v vs1).toInt8.toInt32) ((e1v vs2).toInt8.toInt32) ((e2v vs2).toInt8.toInt32) vg ((e1v vs4).toInt8.toInt32) ((e2v vs4).toInt8.toInt32) vy vz g1 A285_b1 h27_vg) hml 0 pd_0 (argsL := [(.ref b1), (.int 2), (.int 12)]) (st := []) (zpureK ⟨rfl, rfl⟩ fun T286 X286 e286 => ?_))))
          show zEnds p e below s T286 (mkF m 283 #[iv p1, iv p2, iv p3, iv p4, rv b1, iv 2, iv 12, iv 2, iv 8, iv 3, iv vc, iv 12] [(.int 8)]) _ _ _
          refine ziload X286 hx hby at_283 rfl (zicmpNo X286 hx hby at_285 (by decide) (ziconst X286 hx hby at_288 (z := (1 : Int32)) rfl (zgoto X286 hx hby at_289 293 (by decide) (by decide) ?_)))
          show zEnds p e below s T286 (mkF m 293 #[iv p1, iv p2, iv p3, iv p4, rv b1, iv 2, iv 12, iv 2, iv 8, iv 3, iv vc, iv 12] [(.int 1)]) _ _ _
          exact zretZ X286 hx hby at_293 hret hlk (by simp) rfl (by decide) (by decide) ⟨rfl, N285⟩
    · rw [q211]
      refine zistore X3 hx hby at_39 (L' := #[iv p1, iv p2, iv p3, iv p4, rv b1, iv 2, iv 2, iv 3, .unset, .unset, .unset, .unset]) rfl (ziload X3 hx hby at_41 rfl (zifNo X3 hx hby at_43 (by decide) (zaload X3 hx hby at_46 rfl rfl (ziload X3 hx hby at_48 rfl (ziloadN X3 hx hby at_50 rfl (ziconst X3 hx hby at_51 (z := (2 : Int32)) rfl (ziushr X3 hx hby at_52 ((p1.toUInt32 >>> ((2 : Int32) &&& 31).toUInt32).toInt32) rfl (ziconst X3 hx hby at_53 (z := (3 : Int32)) rfl (ziand X3 hx hby at_54 (((p1.toUInt32 >>> ((2 : Int32) &&& 31).toUInt32).toInt32) &&& (3 : Int32)) rfl ?_)))))))))
      show zEnds p e below s T3 (mkF m 55 #[iv p1, iv p2, iv p3, iv p4, rv b1, iv 2, iv 2, iv 3, .unset, .unset, .unset, .unset] [(.int (((p1.toUInt32 >>> ((2 : Int32) &&& 31).toUInt32).toInt32) &&& (3 : Int32))), (.int 2), (.ref b1)]) _ _ _
      generalize e_vs1 : (((p1.toUInt32 >>> ((2 : Int32) &&& 31).toUInt32).toInt32) &&& (3 : Int32)) = vs1
      refine zcalls X3 hx hby at_55 hZ hown (w2 hw) (w3 hw) (w4 hw) (w5 hw) e3 (c103_esc l hw [] ⟨S_w_arr0, A_w_arr0, Al_w_arr0⟩ O3 (zsz O3) vs1 b1 va vb (0 : Int32) (0 : Int32) (0 : Int32) (0 : Int32) (0 : Int32) (0 : Int32) (0 : Int32) (0 : Int32) (0 : Int32) (0 : Int32) (0 : Int32) (0 : Int32) (0 : Int32) (0 : Int32) (0 : Int32) (0 : Int32) (0 : Int32) (0 : Int32) g1 A3_b1) hml 0 pd_0 (argsL := [(.ref b1), (.int 2), (.int vs1)]) (st := []) fun T287 h287 v287 L287 e287 X287 q287 => ?_
      obtain ⟨rfl, N287q, K287q, A287_b1⟩ := q287
      have O287 := O3.keep K287q (allS g1 all0)
      have N287 := Fr.app N3 N287q
      show zEnds p e below s T287 (mkF m 58 #[iv p1, iv p2, iv p3, iv p4, rv b1, iv 2, iv 2, iv 3, .unset, .unset, .unset, .unset] [(.int 5)]) _ _ _
      refine zistore X287 hx hby at_58 (L' := #[iv p1, iv p2, iv p3, iv p4, rv b1, iv 2, iv 5, iv 3, .unset, .unset, .unset, .unset]) rfl (ziload X287 hx hby at_60 rfl (ziconst X287 hx hby at_62 (z := (1 : Int32)) rfl (zicmpNo X287 hx hby at_63 (by decide) (zaload X287 hx hby at_66 rfl rfl (ziload X287 hx hby at_68 rfl (ziloadN X287 hx hby at_70 rfl (ziconst X287 hx hby at_71 (z := (4 : Int32)) rfl (ziushr X287 hx hby at_72 ((p1.toUInt32 >>> ((4 : Int32) &&& 31).toUInt32).toInt32) rfl (ziconst X287 hx hby at_73 (z := (3 : Int32)) rfl ?_)))))))))
      show zEnds p e below s T287 (mkF m 74 #[iv p1, iv p2, iv p3, iv p4, rv b1, iv 2, iv 5, iv 3, .unset, .unset, .unset, .unset] [(.int 3), (.int ((p1.toUInt32 >>> ((4 : Int32) &&& 31).toUInt32).toInt32)), (.int 5), (.ref b1)]) _ _ _
      refine ziand X287 hx hby at_74 (((p1.toUInt32 >>> ((4 : Int32) &&& 31).toUInt32).toInt32) &&& (3 : Int32)) rfl ?_
      show zEnds p e below s T287 (mkF m 75 #[iv p1, iv p2, iv p3, iv p4, rv b1, iv 2, iv 5, iv 3, .unset, .unset, .unset, .unset] [(.int (((p1.toUInt32 >>> ((4 : Int32) &&& 31).toUInt32).toInt32) &&& (3 : Int32))), (.int 5), (.ref b1)]) _ _ _
      generalize e_vs2 : (((p1.toUInt32 >>> ((4 : Int32) &&& 31).toUInt32).toInt32) &&& (3 : Int32)) = vs2
      refine zcalls X287 hx hby at_75 hZ hown (w2 hw) (w3 hw) (w4 hw) (w5 hw) e287 (c115_esc l hw [] ⟨S_w_arr0, A_w_arr0, Al_w_arr0⟩ O287 (zsz O287) vs2 b1 va vb (27 : Int32) ((e1v vs1).toInt8.toInt32) ((e2v vs1).toInt8.toInt32) (0 : Int32) (0 : Int32) (0 : Int32) (0 : Int32) (0 : Int32) (0 : Int32) (0 : Int32) (0 : Int32) (0 : Int32) (0 : Int32) (0 : Int32) (0 : Int32) (0 : Int32) (0 : Int32) (0 : Int32) g1 A287_b1) hml 0 pd_0 (argsL := [(.ref b1), (.int 5), (.int vs2)]) (st := []) fun T288 h288 v288 L288 e288 X288 q288 => ?_
      obtain ⟨rfl, N288q, K288q, A288_b1⟩ := q288
      have O288 := O287.keep K288q (allS g1 all0)
      have N288 := Fr.app N287 N288q
      show zEnds p e below s T288 (mkF m 78 #[iv p1, iv p2, iv p3, iv p4, rv b1, iv 2, iv 5, iv 3, .unset, .unset, .unset, .unset] [(.int 8)]) _ _ _
      refine zistore X288 hx hby at_78 (L' := #[iv p1, iv p2, iv p3, iv p4, rv b1, iv 2, iv 8, iv 3, .unset, .unset, .unset, .unset]) rfl (ziload X288 hx hby at_80 rfl (ziconst X288 hx hby at_82 (z := (2 : Int32)) rfl (zicmpNo X288 hx hby at_83 (by decide) (zaload X288 hx hby at_86 rfl rfl (ziload X288 hx hby at_88 rfl (ziloadN X288 hx hby at_90 rfl (zbipush X288 hx hby at_91 (z := (6 : Int32)) rfl (ziushr X288 hx hby at_93 ((p1.toUInt32 >>> ((6 : Int32) &&& 31).toUInt32).toInt32) rfl (ziconst X288 hx hby at_94 (z := (3 : Int32)) rfl ?_)))))))))
      show zEnds p e below s T288 (mkF m 95 #[iv p1, iv p2, iv p3, iv p4, rv b1, iv 2, iv 8, iv 3, .unset, .unset, .unset, .unset] [(.int 3), (.int ((p1.toUInt32 >>> ((6 : Int32) &&& 31).toUInt32).toInt32)), (.int 8), (.ref b1)]) _ _ _
      refine ziand X288 hx hby at_95 (((p1.toUInt32 >>> ((6 : Int32) &&& 31).toUInt32).toInt32) &&& (3 : Int32)) rfl ?_
      show zEnds p e below s T288 (mkF m 96 #[iv p1, iv p2, iv p3, iv p4, rv b1, iv 2, iv 8, iv 3, .unset, .unset, .unset, .unset] [(.int (((p1.toUInt32 >>> ((6 : Int32) &&& 31).toUInt32).toInt32) &&& (3 : Int32))), (.int 8), (.ref b1)]) _ _ _
      generalize e_vs3 : (((p1.toUInt32 >>> ((6 : Int32) &&& 31).toUInt32).toInt32) &&& (3 : Int32)) = vs3
      refine zcalls X288 hx hby at_96 hZ hown (w2 hw) (w3 hw) (w4 hw) (w5 hw) e288 (c127_esc l hw [] ⟨S_w_arr0, A_w_arr0, Al_w_arr0⟩ O288 (zsz O288) vs3 b1 va vb (27 : Int32) ((e1v vs1).toInt8.toInt32) ((e2v vs1).toInt8.toInt32) (27 : Int32) ((e1v vs2).toInt8.toInt32) ((e2v vs2).toInt8.toInt32) (0 : Int32) (0 : Int32) (0 : Int32) (0 : Int32) (0 : Int32) (0 : Int32) (0 : Int32) (0 : Int32) (0 : Int32) (0 : Int32) (0 : Int32) (0 : Int32) g1 A288_b1) hml 0 pd_0 (argsL := [(.ref b1), (.int 8), (.int vs3)]) (st := []) fun T289 h289 v289 L289 e289 X289 q289 => ?_
      obtain ⟨rfl, N289q, K289q, A289_b1⟩ := q289
      have O289 := O288.keep K289q (allS g1 all0)
      have N289 := Fr.app N288 N289q
      show zEnds p e below s T289 (mkF m 99 #[iv p1, iv p2, iv p3, iv p4, rv b1, iv 2, iv 8, iv 3, .unset, .unset, .unset, .unset] [(.int 11)]) _ _ _
      refine zistore X289 hx hby at_99 (L' := #[iv p1, iv p2, iv p3, iv p4, rv b1, iv 2, iv 11, iv 3, .unset, .unset, .unset, .unset]) rfl (ziload X289 hx hby at_101 rfl (zistore X289 hx hby at_103 (L' := #[iv p1, iv p2, iv p3, iv p4, rv b1, iv 2, iv 11, iv 3, iv 11, .unset, .unset, .unset]) rfl (ziloadN X289 hx hby at_105 rfl (ziconst X289 hx hby at_106 (z := (3 : Int32)) rfl (ziand X289 hx hby at_107 (p2 &&& (3 : Int32)) rfl ?_)))))
      show zEnds p e below s T289 (mkF m 108 #[iv p1, iv p2, iv p3, iv p4, rv b1, iv 2, iv 11, iv 3, iv 11, .unset, .unset, .unset] [(.int (p2 &&& (3 : Int32)))]) _ _ _
      rcases (and_3 p2) with q290 | q290 | q290 | q290
      · rw [q290]
        refine zistore X289 hx hby at_108 (L' := #[iv p1, iv p2, iv p3, iv p4, rv b1, iv 2, iv 11, iv 3, iv 11, iv 0, .unset, .unset]) rfl (ziloadN X289 hx hby at_110 rfl (ziconst X289 hx hby at_111 (z := (2 : Int32)) rfl (ziushr X289 hx hby at_112 ((p2.toUInt32 >>> ((2 : Int32) &&& 31).toUInt32).toInt32) rfl (zbipush X289 hx hby at_113 (z := (127 : Int32)) rfl (ziand X289 hx hby at_115 (((p2.toUInt32 >>> ((2 : Int32) &&& 31).toUInt32).toInt32) &&& (127 : Int32)) rfl ?_)))))
        show zEnds p e below s T289 (mkF m 116 #[iv p1, iv p2, iv p3, iv p4, rv b1, iv 2, iv 11, iv 3, iv 11, iv 0, .unset, .unset] [(.int (((p2.toUInt32 >>> ((2 : Int32) &&& 31).toUInt32).toInt32) &&& (127 : Int32)))]) _ _ _
        generalize e_vc : (((p2.toUInt32 >>> ((2 : Int32) &&& 31).toUInt32).toInt32) &&& (127 : Int32)) = vc
        have kc : 0 ≤ vc.toInt ∧ vc.toInt ≤ 127 := by rw [← e_vc]; exact own_c _
        refine zistore X289 hx hby at_116 (L' := #[iv p1, iv p2, iv p3, iv p4, rv b1, iv 2, iv 11, iv 3, iv 11, iv 0, iv vc, .unset]) rfl (ziload X289 hx hby at_118 rfl (ziconst X289 hx hby at_120 (z := (1 : Int32)) rfl (zicmpNo X289 hx hby at_121 (by decide) (ziload X289 hx hby at_124 rfl (ziconst X289 hx hby at_126 (z := (3 : Int32)) rfl (zicmpYes X289 hx hby at_127 140 (by decide) (by decide) (by decide) (ziload X289 hx hby at_140 rfl (ziconst X289 hx hby at_142 (z := (1 : Int32)) rfl (zicmpYes X289 hx hby at_143 163 (by decide) (by decide) (by decide) ?_)))))))))
        show zEnds p e below s T289 (mkF m 163 #[iv p1, iv p2, iv p3, iv p4, rv b1, iv 2, iv 11, iv 3, iv 11, iv 0, iv vc, .unset] []) _ _ _
        refine ziload X289 hx hby at_163 rfl (ziconst X289 hx hby at_165 (z := (2 : Int32)) rfl (zicmpYes X289 hx hby at_166 220 (by decide) (by decide) (by decide) (ziload X289 hx hby at_220 rfl (ziconst X289 hx hby at_222 (z := (3 : Int32)) rfl (zicmpYes X289 hx hby at_223 251 (by decide) (by decide) (by decide) (ziload X289 hx hby at_251 rfl (zistore X289 hx hby at_253 (L' := #[iv p1, iv p2, iv p3, iv p4, rv b1, iv 2, iv 11, iv 3, iv 11, iv 0, iv vc, iv 11]) rfl (zaload X289 hx hby at_255 rfl rfl (ziload X289 hx hby at_257 rfl ?_)))))))))
        show zEnds p e below s T289 (mkF m 259 #[iv p1, iv p2, iv p3, iv p4, rv b1, iv 2, iv 11, iv 3, iv 11, iv 0, iv vc, iv 11] [(.int 11), (.ref b1)]) _ _ _
        refine ziloadN X289 hx hby at_259 rfl (zi2b X289 hx hby at_260 (p4.toInt8.toInt32) rfl ?_)
        show zEnds p e below s T289 (mkF m 261 #[iv p1, iv p2, iv p3, iv p4, rv b1, iv 2, iv 11, iv 3, iv 11, iv 0, iv vc, iv 11] [(.int (p4.toInt8.toInt32)), (.int 11), (.ref b1)]) _ _ _
        generalize e_vy : (p4.toInt8.toInt32) = vy
        have hn_vy : nar .byte vy = vy := by rw [← e_vy]; exact own_nar8 _
        refine zbastore X289 hx hby at_261 hZ e289 A289_b1 (by decide) (by show Int32.toNatClampNeg 11 < 20; decide) vy hn_vy fun T291 h291 X291 e291 W291 A291_b1 => ?_
        change zLst Z h291 b1 .byte [(.int va), (.int vb), (.int 27), (.int ((e1v vs1).toInt8.toInt32)), (.int ((e2v vs1).toInt8.toInt32)), (.int 27), (.int ((e1v vs2).toInt8.toInt32)), (.int ((e2v vs2).toInt8.toInt32)), (.int 27), (.int ((e1v vs3).toInt8.toInt32)), (.int ((e2v vs3).toInt8.toInt32)), (.int vy), (.int 0), (.int 0), (.int 0), (.int 0), (.int 0), (.int 0), (.int 0), (.int 0)] at A291_b1
        have O291 := O289.wr W291 g1
        have N291 := Fr.snoc X291 N289 g1
        refine zaload X291 hx hby at_262 rfl rfl (ziload X291 hx hby at_264 rfl (ziconst X291 hx hby at_266 (z := (1 : Int32)) rfl (ziadd X291 hx hby at_267 (12 : Int32) (by decide) (ziloadN X291 hx hby at_268 rfl (zbipush X291 hx hby at_269 (z := (8 : Int32)) rfl (ziushr X291 hx hby at_271 ((p4.toUInt32 >>> ((8 : Int32) &&& 31).toUInt32).toInt32) rfl (zi2b X291 hx hby at_272 (((p4.toUInt32 >>> ((8 : Int32) &&& 31).toUInt32).toInt32).toInt8.toInt32) rfl ?_)))))))
        show zEnds p e below s T291 (mkF m 273 #[iv p1, iv p2, iv p3, iv p4, rv b1, iv 2, iv 11, iv 3, iv 11, iv 0, iv vc, iv 11] [(.int (((p4.toUInt32 >>> ((8 : Int32) &&& 31).toUInt32).toInt32).toInt8.toInt32)), (.int 12), (.ref b1)]) _ _ _
        generalize e_vz : (((p4.toUInt32 >>> ((8 : Int32) &&& 31).toUInt32).toInt32).toInt8.toInt32) = vz
        have hn_vz : nar .byte vz = vz := by rw [← e_vz]; exact own_nar8 _
        refine zbastore X291 hx hby at_273 hZ e291 A291_b1 (by decide) (by show Int32.toNatClampNeg 12 < 20; decide) vz hn_vz fun T292 h292 X292 e292 W292 A292_b1 => ?_
        change zLst Z h292 b1 .byte [(.int va), (.int vb), (.int 27), (.int ((e1v vs1).toInt8.toInt32)), (.int ((e2v vs1).toInt8.toInt32)), (.int 27), (.int ((e1v vs2).toInt8.toInt32)), (.int ((e2v vs2).toInt8.toInt32)), (.int 27), (.int ((e1v vs3).toInt8.toInt32)), (.int ((e2v vs3).toInt8.toInt32)), (.int vy), (.int vz), (.int 0), (.int 0), (.int 0), (.int 0), (.int 0), (.int 0), (.int 0)] at A292_b1
        have O292 := O291.wr W292 g1
        have N292 := Fr.snoc X292 N291 g1
        refine zaload X292 hx hby at_274 rfl rfl (ziload X292 hx hby at_276 rfl (ziload X292 hx hby at_278 rfl (zcalls X292 hx hby at_280 hZ hown (w6 hw) (w7 hw) (w8 hw) (w9 hw) e292 (c129_firstCharacter l hw [] ⟨S_w_arr0, A_w_arr0, Al_w_arr0⟩ O292 (zsz O292) b1 va vb ((e1v vs1).toInt8.toInt32) ((e2v vs1).toInt8.toInt32) ((e1v vs2).toInt8.toInt32) ((e2v vs2).toInt8.toInt32) ((e1v vs3).toInt8.toInt32) ((e2v vs3).toInt8.toInt32) vy vz g1 A292_b1) hml 0 pd_0 (argsL := [(.ref b1), (.int 2), (.int 11)]) (st := []) (zpureK ⟨rfl, rfl⟩ fun T293 X293 e293 => ?_))))
        show zEnds p e below s T293 (mkF m 283 #[iv p1, iv p2, iv p3, iv p4, rv b1, iv 2, iv 11, iv 3, iv 11, iv 0, iv vc, iv 11] [(.int 11)]) _ _ _
        refine ziload X293 hx hby at_283 rfl (zicmpNo X293 hx hby at_285 (by decide) (ziconst X293 hx hby at_288 (z := (1 : Int32)) rfl (zgoto X293 hx hby at_289 293 (by decide) (by decide) ?_)))
        show zEnds p e below s T293 (mkF m 293 #[iv p1, iv p2, iv p3, iv p4, rv b1, iv 2, iv 11, iv 3, iv 11, iv 0, iv vc, iv 11] [(.int 1)]) _ _ _
        exact zretZ X293 hx hby at_293 hret hlk (by simp) rfl (by decide) (by decide) ⟨rfl, N292⟩
      · rw [q290]
        refine zistore X289 hx hby at_108 (L' := #[iv p1, iv p2, iv p3, iv p4, rv b1, iv 2, iv 11, iv 3, iv 11, iv 1, .unset, .unset]) rfl (ziloadN X289 hx hby at_110 rfl (ziconst X289 hx hby at_111 (z := (2 : Int32)) rfl (ziushr X289 hx hby at_112 ((p2.toUInt32 >>> ((2 : Int32) &&& 31).toUInt32).toInt32) rfl (zbipush X289 hx hby at_113 (z := (127 : Int32)) rfl (ziand X289 hx hby at_115 (((p2.toUInt32 >>> ((2 : Int32) &&& 31).toUInt32).toInt32) &&& (127 : Int32)) rfl ?_)))))
        show zEnds p e below s T289 (mkF m 116 #[iv p1, iv p2, iv p3, iv p4, rv b1, iv 2, iv 11, iv 3, iv 11, iv 1, .unset, .unset] [(.int (((p2.toUInt32 >>> ((2 : Int32) &&& 31).toUInt32).toInt32) &&& (127 : Int32)))]) _ _ _
        generalize e_vc : (((p2.toUInt32 >>> ((2 : Int32) &&& 31).toUInt32).toInt32) &&& (127 : Int32)) = vc
        have kc : 0 ≤ vc.toInt ∧ vc.toInt ≤ 127 := by rw [← e_vc]; exact own_c _
        refine zistore X289 hx hby at_116 (L' := #[iv p1, iv p2, iv p3, iv p4, rv b1, iv 2, iv 11, iv 3, iv 11, iv 1, iv vc, .unset]) rfl (ziload X289 hx hby at_118 rfl (ziconst X289 hx hby at_120 (z := (1 : Int32)) rfl (zicmpYes X289 hx hby at_121 130 (by decide) (by decide) (by decide) (ziload X289 hx hby at_130 rfl (zbipush X289 hx hby at_132 (z := (27 : Int32)) rfl ?_)))))
        show zEnds p e below s T289 (mkF m 134 #[iv p1, iv p2, iv p3, iv p4, rv b1, iv 2, iv 11, iv 3, iv 11, iv 1, iv vc, .unset] [(.int 27), (.int vc)]) _ _ _
        by_cases hc27 : vc = (27 : Int32)
        · show zEnds p e below s T289 (mkF m 134 #[iv p1, iv p2, iv p3, iv p4, rv b1, iv 2, iv 11, iv 3, iv 11, iv 1, iv vc, .unset] [(.int 27), (.int vc)]) _ _ _
          refine zicmpNo X289 hx hby at_134 (teq hc27).2 (ziconst X289 hx hby at_137 (z := (0 : Int32)) rfl (zistore X289 hx hby at_138 (L' := #[iv p1, iv p2, iv p3, iv p4, rv b1, iv 2, iv 11, iv 3, iv 11, iv 0, iv vc, .unset]) rfl (ziload X289 hx hby at_140 rfl (ziconst X289 hx hby at_142 (z := (1 : Int32)) rfl (zicmpYes X289 hx hby at_143 163 (by decide) (by decide) (by decide) (ziload X289 hx hby at_163 rfl (ziconst X289 hx hby at_165 (z := (2 : Int32)) rfl (zicmpYes X289 hx hby at_166 220 (by decide) (by decide) (by decide) (ziload X289 hx hby at_220 rfl ?_)))))))))
          show zEnds p e below s T289 (mkF m 222 #[iv p1, iv p2, iv p3, iv p4, rv b1, iv 2, iv 11, iv 3, iv 11, iv 0, iv vc, .unset] [(.int 0)]) _ _ _
          refine ziconst X289 hx hby at_222 (z := (3 : Int32)) rfl (zicmpYes X289 hx hby at_223 251 (by decide) (by decide) (by decide) (ziload X289 hx hby at_251 rfl (zistore X289 hx hby at_253 (L' := #[iv p1, iv p2, iv p3, iv p4, rv b1, iv 2, iv 11, iv 3, iv 11, iv 0, iv vc, iv 11]) rfl (zaload X289 hx hby at_255 rfl rfl (ziload X289 hx hby at_257 rfl (ziloadN X289 hx hby at_259 rfl (zi2b X289 hx hby at_260 (p4.toInt8.toInt32) rfl ?_)))))))
          show zEnds p e below s T289 (mkF m 261 #[iv p1, iv p2, iv p3, iv p4, rv b1, iv 2, iv 11, iv 3, iv 11, iv 0, iv vc, iv 11] [(.int (p4.toInt8.toInt32)), (.int 11), (.ref b1)]) _ _ _
          generalize e_vy : (p4.toInt8.toInt32) = vy
          have hn_vy : nar .byte vy = vy := by rw [← e_vy]; exact own_nar8 _
          refine zbastore X289 hx hby at_261 hZ e289 A289_b1 (by decide) (by show Int32.toNatClampNeg 11 < 20; decide) vy hn_vy fun T294 h294 X294 e294 W294 A294_b1 => ?_
          change zLst Z h294 b1 .byte [(.int va), (.int vb), (.int 27), (.int ((e1v vs1).toInt8.toInt32)), (.int ((e2v vs1).toInt8.toInt32)), (.int 27), (.int ((e1v vs2).toInt8.toInt32)), (.int ((e2v vs2).toInt8.toInt32)), (.int 27), (.int ((e1v vs3).toInt8.toInt32)), (.int ((e2v vs3).toInt8.toInt32)), (.int vy), (.int 0), (.int 0), (.int 0), (.int 0), (.int 0), (.int 0), (.int 0), (.int 0)] at A294_b1
          have O294 := O289.wr W294 g1
          have N294 := Fr.snoc X294 N289 g1
          refine zaload X294 hx hby at_262 rfl rfl (ziload X294 hx hby at_264 rfl (ziconst X294 hx hby at_266 (z := (1 : Int32)) rfl (ziadd X294 hx hby at_267 (12 : Int32) (by decide) (ziloadN X294 hx hby at_268 rfl (zbipush X294 hx hby at_269 (z := (8 : Int32)) rfl (ziushr X294 hx hby at_271 ((p4.toUInt32 >>> ((8 : Int32) &&& 31).toUInt32).toInt32) rfl (zi2b X294 hx hby at_272 (((p4.toUInt32 >>> ((8 : Int32) &&& 31).toUInt32).toInt32).toInt8.toInt32) rfl ?_)))))))
          show zEnds p e below s T294 (mkF m 273 #[iv p1, iv p2, iv p3, iv p4, rv b1, iv 2, iv 11, iv 3, iv 11, iv 0, iv vc, iv 11] [(.int (((p4.toUInt32 >>> ((8 : Int32) &&& 31).toUInt32).toInt32).toInt8.toInt32)), (.int 12), (.ref b1)]) _ _ _
          generalize e_vz : (((p4.toUInt32 >>> ((8 : Int32) &&& 31).toUInt32).toInt32).toInt8.toInt32) = vz
          have hn_vz : nar .byte vz = vz := by rw [← e_vz]; exact own_nar8 _
          refine zbastore X294 hx hby at_273 hZ e294 A294_b1 (by decide) (by show Int32.toNatClampNeg 12 < 20; decide) vz hn_vz fun T295 h295 X295 e295 W295 A295_b1 => ?_
          change zLst Z h295 b1 .byte [(.int va), (.int vb), (.int 27), (.int ((e1v vs1).toInt8.toInt32)), (.int ((e2v vs1).toInt8.toInt32)), (.int 27), (.int ((e1v vs2).toInt8.toInt32)), (.int ((e2v vs2).toInt8.toInt32)), (.int 27), (.int ((e1v vs3).toInt8.toInt32)), (.int ((e2v vs3).toInt8.toInt32)), (.int vy), (.int vz), (.int 0), (.int 0), (.int 0), (.int 0), (.int 0), (.int 0), (.int 0)] at A295_b1
          have O295 := O294.wr W295 g1
          have N295 := Fr.snoc X295 N294 g1
          refine zaload X295 hx hby at_274 rfl rfl (ziload X295 hx hby at_276 rfl (ziload X295 hx hby at_278 rfl (zcalls X295 hx hby at_280 hZ hown (w6 hw) (w7 hw) (w8 hw) (w9 hw) e295 (c129_firstCharacter l hw [] ⟨S_w_arr0, A_w_arr0, Al_w_arr0⟩ O295 (zsz O295) b1 va vb ((e1v vs1).toInt8.toInt32) ((e2v vs1).toInt8.toInt32) ((e1v vs2).toInt8.toInt32) ((e2v vs2).toInt8.toInt32) ((e1v vs3).toInt8.toInt32) ((e2v vs3).toInt8.toInt32) vy vz g1 A295_b1) hml 0 pd_0 (argsL := [(.ref b1), (.int 2), (.int 11)]) (st := []) (zpureK ⟨rfl, rfl⟩ fun T296 X296 e296 => ?_))))
          show zEnds p e below s T296 (mkF m 283 #[iv p1, iv p2, iv p3, iv p4, rv b1, iv 2, iv 11, iv 3, iv 11, iv 0, iv vc, iv 11] [(.int 11)]) _ _ _
          refine ziload X296 hx hby at_283 rfl (zicmpNo X296 hx hby at_285 (by decide) (ziconst X296 hx hby at_288 (z := (1 : Int32)) rfl (zgoto X296 hx hby at_289 293 (by decide) (by decide) ?_)))
          show zEnds p e below s T296 (mkF m 293 #[iv p1, iv p2, iv p3, iv p4, rv b1, iv 2, iv 11, iv 3, iv 11, iv 0, iv vc, iv 11] [(.int 1)]) _ _ _
          exact zretZ X296 hx hby at_293 hret hlk (by simp) rfl (by decide) (by decide) ⟨rfl, N295⟩
        · show zEnds p e below s T289 (mkF m 134 #[iv p1, iv p2, iv p3, iv p4, rv b1, iv 2, iv 11, iv 3, iv 11, iv 1, iv vc, .unset] [(.int 27), (.int vc)]) _ _ _
          refine zicmpYes X289 hx hby at_134 140 (feq hc27).2 (by decide) (by decide) (ziload X289 hx hby at_140 rfl (ziconst X289 hx hby at_142 (z := (1 : Int32)) rfl (zicmpNo X289 hx hby at_143 (by decide) (zaload X289 hx hby at_146 rfl rfl (ziload X289 hx hby at_148 rfl (ziload X289 hx hby at_150 rfl (zi2b X289 hx hby at_152 (vc.toInt8.toInt32) rfl ?_)))))))
          show zEnds p e below s T289 (mkF m 153 #[iv p1, iv p2, iv p3, iv p4, rv b1, iv 2, iv 11, iv 3, iv 11, iv 1, iv vc, .unset] [(.int (vc.toInt8.toInt32)), (.int 11), (.ref b1)]) _ _ _
          generalize e_vd : (vc.toInt8.toInt32) = vd
          have hn_vd : nar .byte vd = vd := by rw [← e_vd]; exact own_nar8 _
          have h27_vd : ¬ (vd = (27 : Int32)) := by rw [← e_vd]; exact own_27 kc hc27
          refine zbastore X289 hx hby at_153 hZ e289 A289_b1 (by decide) (by show Int32.toNatClampNeg 11 < 20; decide) vd hn_vd fun T297 h297 X297 e297 W297 A297_b1 => ?_
          change zLst Z h297 b1 .byte [(.int va), (.int vb), (.int 27), (.int ((e1v vs1).toInt8.toInt32)), (.int ((e2v vs1).toInt8.toInt32)), (.int 27), (.int ((e1v vs2).toInt8.toInt32)), (.int ((e2v vs2).toInt8.toInt32)), (.int 27), (.int ((e1v vs3).toInt8.toInt32)), (.int ((e2v vs3).toInt8.toInt32)), (.int vd), (.int 0), (.int 0), (.int 0), (.int 0), (.int 0), (.int 0), (.int 0), (.int 0)] at A297_b1
          have O297 := O289.wr W297 g1
          have N297 := Fr.snoc X297 N289 g1
          refine ziload X297 hx hby at_154 rfl (ziconst X297 hx hby at_156 (z := (1 : Int32)) rfl (ziadd X297 hx hby at_157 (12 : Int32) (by decide) (zistore X297 hx hby at_158 (L' := #[iv p1, iv p2, iv p3, iv p4, rv b1, iv 2, iv 12, iv 3, iv 11, iv 1, iv vc, .unset]) rfl (zgoto X297 hx hby at_160 251 (by decide) (by decide) (ziload X297 hx hby at_251 rfl (zistore X297 hx hby at_253 (L' := #[iv p1, iv p2, iv p3, iv p4, rv b1, iv 2, iv 12, iv 3, iv 11, iv 1, iv vc, iv 12]) rfl (zaload X297 hx hby at_255 rfl rfl (ziload X297 hx hby at_257 rfl (ziloadN X297 hx hby at_259 rfl ?_)))))))))
          show zEnds p e below s T297 (mkF m 260 #[iv p1, iv p2, iv p3, iv p4, rv b1, iv 2, iv 12, iv 3, iv 11, iv 1, iv vc, iv 12] [(.int p4), (.int 12), (.ref b1)]) _ _ _
          refine zi2b X297 hx hby at_260 (p4.toInt8.toInt32) rfl ?_
          show zEnds p e below s T297 (mkF m 261 #[iv p1, iv p2, iv p3, iv p4, rv b1, iv 2, iv 12, iv 3, iv 11, iv 1, iv vc, iv 12] [(.int (p4.toInt8.toInt32)), (.int 12), (.ref b1)]) _ _ _
          generalize e_vy : (p4.toInt8.toInt32) = vy
          have hn_vy : nar .byte vy = vy := by rw [← e_vy]; exact own_nar8 _
          refine zbastore X297 hx hby at_261 hZ e297 A297_b1 (by decide) (by show Int32.toNatClampNeg 12 < 20; decide) vy hn_vy fun T298 h298 X298 e298 W298 A298_b1 => ?_
          change zLst Z h298 b1 .byte [(.int va), (.int vb), (.int 27), (.int ((e1v vs1).toInt8.toInt32)), (.int ((e2v vs1).toInt8.toInt32)), (.int 27), (.int ((e1v vs2).toInt8.toInt32)), (.int ((e2v vs2).toInt8.toInt32)), (.int 27), (.int ((e1v vs3).toInt8.toInt32)), (.int ((e2v vs3).toInt8.toInt32)), (.int vd), (.int vy), (.int 0), (.int 0), (.int 0), (.int 0), (.int 0), (.int 0), (.int 0)] at A298_b1
          have O298 := O297.wr W298 g1
          have N298 := Fr.snoc X298 N297 g1
          refine zaload X298 hx hby at_262 rfl rfl (ziload X298 hx hby at_264 rfl (ziconst X298 hx hby at_266 (z := (1 : Int32)) rfl (ziadd X298 hx hby at_267 (13 : Int32) (by decide) (ziloadN X298 hx hby at_268 rfl (zbipush X298 hx hby at_269 (z := (8 : Int32)) rfl (ziushr X298 hx hby at_271 ((p4.toUInt32 >>> ((8 : Int32) &&& 31).toUInt32).toInt32) rfl (zi2b X298 hx hby at_272 (((p4.toUInt32 >>> ((8 : Int32) &&& 31).toUInt32).toInt32).toInt8.toInt32) rfl ?_)))))))
          show zEnds p e below s T298 (mkF m 273 #[iv p1, iv p2, iv p3, iv p4, rv b1, iv 2, iv 12, iv 3, iv 11, iv 1, iv vc, iv 12] [(.int (((p4.toUInt32 >>> ((8 : Int32) &&& 31).toUInt32).toInt32).toInt8.toInt32)), (.int 13), (.ref b1)]) _ _ _
          generalize e_vz : (((p4.toUInt32 >>> ((8 : Int32) &&& 31).toUInt32).toInt32).toInt8.toInt32) = vz
          have hn_vz : nar .byte vz = vz := by rw [← e_vz]; exact own_nar8 _
          refine zbastore X298 hx hby at_273 hZ e298 A298_b1 (by decide) (by show Int32.toNatClampNeg 13 < 20; decide) vz hn_vz fun T299 h299 X299 e299 W299 A299_b1 => ?_
          change zLst Z h299 b1 .byte [(.int va), (.int vb), (.int 27), (.int ((e1v vs1).toInt8.toInt32)), (.int ((e2v vs1).toInt8.toInt32)), (.int 27), (.int ((e1v vs2).toInt8.toInt32)), (.int ((e2v vs2).toInt8.toInt32)), (.int 27), (.int ((e1v vs3).toInt8.toInt32)), (.int ((e2v vs3).toInt8.toInt32)), (.int vd), (.int vy), (.int vz), (.int 0), (.int 0), (.int 0), (.int 0), (.int 0), (.int 0)] at A299_b1
          have O299 := O298.wr W299 g1
          have N299 := Fr.snoc X299 N298 g1
          refine zaload X299 hx hby at_274 rfl rfl (ziload X299 hx hby at_276 rfl (ziload X299 hx hby at_278 rfl (zcalls X299 hx hby at_280 hZ hown (w6 hw) (w7 hw) (w8 hw) (w9 hw) e299 (c131_firstCharacter l hw [] ⟨S_w_arr0, A_w_arr0, Al_w_arr0⟩ O299 (zsz O299) b1 va vb ((e1v vs1).toInt8.toInt32) ((e2v vs1).toInt8.toInt32) ((e1v vs2).toInt8.toInt32) ((e2v vs2).toInt8.toInt32) ((e1v vs3).toInt8.toInt32) ((e2v vs3).toInt8.toInt32) vd vy vz g1 A299_b1 h27_vd) hml 0 pd_0 (argsL := [(.ref b1), (.int 2), (.int 12)]) (st := []) (zpureK ⟨rfl, rfl⟩ fun T300 X300 e300 => ?_))))
          show zEnds p e below s T300 (mkF m 283 #[iv p1, iv p2, iv p3, iv p4, rv b1, iv 2, iv 12, iv 3, iv 11, iv 1, iv vc, iv 12] [(.int 11)]) _ _ _
          refine ziload X300 hx hby at_283 rfl (zicmpNo X300 hx hby at_285 (by decide) (ziconst X300 hx hby at_288 (z := (1 : Int32)) rfl (zgoto X300 hx hby at_289 293 (by decide) (by decide) ?_)))
          show zEnds p e below s T300 (mkF m 293 #[iv p1, iv p2, iv p3, iv p4, rv b1, iv 2, iv 12, iv 3, iv 11, iv 1, iv vc, iv 12] [(.int 1)]) _ _ _
          exact zretZ X300 hx hby at_293 hret hlk (by simp) rfl (by decide) (by decide) ⟨rfl, N299⟩
      · rw [q290]
        refine zistore X289 hx hby at_108 (L' := #[iv p1, iv p2, iv p3, iv p4, rv b1, iv 2, iv 11, iv 3, iv 11, iv 2, .unset, .unset]) rfl (ziloadN X289 hx hby at_110 rfl (ziconst X289 hx hby at_111 (z := (2 : Int32)) rfl (ziushr X289 hx hby at_112 ((p2.toUInt32 >>> ((2 : Int32) &&& 31).toUInt32).toInt32) rfl (zbipush X289 hx hby at_113 (z := (127 : Int32)) rfl (ziand X289 hx hby at_115 (((p2.toUInt32 >>> ((2 : Int32) &&& 31).toUInt32).toInt32) &&& (127 : Int32)) rfl ?_)))))
        show zEnds p e below s T289 (mkF m 116 #[iv p1, iv p2, iv p3, iv p4, rv b1, iv 2, iv 11, iv 3, iv 11, iv 2, .unset, .unset] [(.int (((p2.toUInt32 >>> ((2 : Int32) &&& 31).toUInt32).toInt32) &&& (127 : Int32)))]) _ _ _
        generalize e_vc : (((p2.toUInt32 >>> ((2 : Int32) &&& 31).toUInt32).toInt32) &&& (127 : Int32)) = vc
        have kc : 0 ≤ vc.toInt ∧ vc.toInt ≤ 127 := by rw [← e_vc]; exact own_c _
        refine zistore X289 hx hby at_116 (L' := #[iv p1, iv p2, iv p3, iv p4, rv b1, iv 2, iv 11, iv 3, iv 11, iv 2, iv vc, .unset]) rfl (ziload X289 hx hby at_118 rfl (ziconst X289 hx hby at_120 (z := (1 : Int32)) rfl (zicmpNo X289 hx hby at_121 (by decide) (ziload X289 hx hby at_124 rfl (ziconst X289 hx hby at_126 (z := (3 : Int32)) rfl (zicmpYes X289 hx hby at_127 140 (by decide) (by decide) (by decide) (ziload X289 hx hby at_140 rfl (ziconst X289 hx hby at_142 (z := (1 : Int32)) rfl (zicmpYes X289 hx hby at_143 163 (by decide) (by decide) (by decide) ?_)))))))))
        show zEnds p e below s T289 (mkF m 163 #[iv p1, iv p2, iv p3, iv p4, rv b1, iv 2, iv 11, iv 3, iv 11, iv 2, iv vc, .unset] []) _ _ _
        refine ziload X289 hx hby at_163 rfl (ziconst X289 hx hby at_165 (z := (2 : Int32)) rfl (zicmpNo X289 hx hby at_166 (by decide) (zaload X289 hx hby at_169 rfl rfl (ziload X289 hx hby at_171 rfl (zbipush X289 hx hby at_173 (z := (48 : Int32)) rfl (ziloadN X289 hx hby at_175 rfl (zbipush X289 hx hby at_176 (z := (9 : Int32)) rfl (ziushr X289 hx hby at_178 ((p2.toUInt32 >>> ((9 : Int32) &&& 31).toUInt32).toInt32) rfl (zsipush X289 hx hby at_179 (z := (255 : Int32)) rfl ?_)))))))))
        show zEnds p e below s T289 (mkF m 182 #[iv p1, iv p2, iv p3, iv p4, rv b1, iv 2, iv 11, iv 3, iv 11, iv 2, iv vc, .unset] [(.int 255), (.int ((p2.toUInt32 >>> ((9 : Int32) &&& 31).toUInt32).toInt32)), (.int 48), (.int 11), (.ref b1)]) _ _ _
        refine ziand X289 hx hby at_182 (((p2.toUInt32 >>> ((9 : Int32) &&& 31).toUInt32).toInt32) &&& (255 : Int32)) rfl (zbipush X289 hx hby at_183 (z := (31 : Int32)) rfl (zirem X289 hx hby at_185 ((((p2.toUInt32 >>> ((9 : Int32) &&& 31).toUInt32).toInt32) &&& (255 : Int32)) % (31 : Int32)) (by decide) rfl (ziadd X289 hx hby at_186 ((48 : Int32) + ((((p2.toUInt32 >>> ((9 : Int32) &&& 31).toUInt32).toInt32) &&& (255 : Int32)) % (31 : Int32))) rfl (zi2b X289 hx hby at_187 (((48 : Int32) + ((((p2.toUInt32 >>> ((9 : Int32) &&& 31).toUInt32).toInt32) &&& (255 : Int32)) % (31 : Int32))).toInt8.toInt32) rfl ?_))))
        show zEnds p e below s T289 (mkF m 188 #[iv p1, iv p2, iv p3, iv p4, rv b1, iv 2, iv 11, iv 3, iv 11, iv 2, iv vc, .unset] [(.int (((48 : Int32) + ((((p2.toUInt32 >>> ((9 : Int32) &&& 31).toUInt32).toInt32) &&& (255 : Int32)) % (31 : Int32))).toInt8.toInt32)), (.int 11), (.ref b1)]) _ _ _
        generalize e_ve : (((48 : Int32) + ((((p2.toUInt32 >>> ((9 : Int32) &&& 31).toUInt32).toInt32) &&& (255 : Int32)) % (31 : Int32))).toInt8.toInt32) = ve
        have hn_ve : nar .byte ve = ve := by rw [← e_ve]; exact own_nar8 _
        have h27_ve : ¬ (ve = (27 : Int32)) := by rw [← e_ve]; exact own_48 _
        refine zbastore X289 hx hby at_188 hZ e289 A289_b1 (by decide) (by show Int32.toNatClampNeg 11 < 20; decide) ve hn_ve fun T301 h301 X301 e301 W301 A301_b1 => ?_
        change zLst Z h301 b1 .byte [(.int va), (.int vb), (.int 27), (.int ((e1v vs1).toInt8.toInt32)), (.int ((e2v vs1).toInt8.toInt32)), (.int 27), (.int ((e1v vs2).toInt8.toInt32)), (.int ((e2v vs2).toInt8.toInt32)), (.int 27), (.int ((e1v vs3).toInt8.toInt32)), (.int ((e2v vs3).toInt8.toInt32)), (.int ve), (.int 0), (.int 0), (.int 0), (.int 0), (.int 0), (.int 0), (.int 0), (.int 0)] at A301_b1
        have O301 := O289.wr W301 g1
        have N301 := Fr.snoc X301 N289 g1
        refine zaload X301 hx hby at_189 rfl rfl (ziload X301 hx hby at_191 rfl (ziconst X301 hx hby at_193 (z := (1 : Int32)) rfl (ziadd X301 hx hby at_194 (12 : Int32) (by decide) (zbipush X301 hx hby at_195 (z := (33 : Int32)) rfl (ziloadN X301 hx hby at_197 rfl (zbipush X301 hx hby at_198 (z := (17 : Int32)) rfl (ziushr X301 hx hby at_200 ((p2.toUInt32 >>> ((17 : Int32) &&& 31).toUInt32).toInt32) rfl (zsipush X301 hx hby at_201 (z := (255 : Int32)) rfl (ziand X301 hx hby at_204 (((p2.toUInt32 >>> ((17 : Int32) &&& 31).toUInt32).toInt32) &&& (255 : Int32)) rfl ?_)))))))))
        show zEnds p e below s T301 (mkF m 205 #[iv p1, iv p2, iv p3, iv p4, rv b1, iv 2, iv 11, iv 3, iv 11, iv 2, iv vc, .unset] [(.int (((p2.toUInt32 >>> ((17 : Int32) &&& 31).toUInt32).toInt32) &&& (255 : Int32))), (.int 33), (.int 12), (.ref b1)]) _ _ _
        refine zbipush X301 hx hby at_205 (z := (94 : Int32)) rfl (zirem X301 hx hby at_207 ((((p2.toUInt32 >>> ((17 : Int32) &&& 31).toUInt32).toInt32) &&& (255 : Int32)) % (94 : Int32)) (by decide) rfl (ziadd X301 hx hby at_208 ((33 : Int32) + ((((p2.toUInt32 >>> ((17 : Int32) &&& 31).toUInt32).toInt32) &&& (255 : Int32)) % (94 : Int32))) rfl (zi2b X301 hx hby at_209 (((33 : Int32) + ((((p2.toUInt32 >>> ((17 : Int32) &&& 31).toUInt32).toInt32) &&& (255 : Int32)) % (94 : Int32))).toInt8.toInt32) rfl ?_)))
        show zEnds p e below s T301 (mkF m 210 #[iv p1, iv p2, iv p3, iv p4, rv b1, iv 2, iv 11, iv 3, iv 11, iv 2, iv vc, .unset] [(.int (((33 : Int32) + ((((p2.toUInt32 >>> ((17 : Int32) &&& 31).toUInt32).toInt32) &&& (255 : Int32)) % (94 : Int32))).toInt8.toInt32)), (.int 12), (.ref b1)]) _ _ _
        generalize e_vf : (((33 : Int32) + ((((p2.toUInt32 >>> ((17 : Int32) &&& 31).toUInt32).toInt32) &&& (255 : Int32)) % (94 : Int32))).toInt8.toInt32) = vf
        have hn_vf : nar .byte vf = vf := by rw [← e_vf]; exact own_nar8 _
        refine zbastore X301 hx hby at_210 hZ e301 A301_b1 (by decide) (by show Int32.toNatClampNeg 12 < 20; decide) vf hn_vf fun T302 h302 X302 e302 W302 A302_b1 => ?_
        change zLst Z h302 b1 .byte [(.int va), (.int vb), (.int 27), (.int ((e1v vs1).toInt8.toInt32)), (.int ((e2v vs1).toInt8.toInt32)), (.int 27), (.int ((e1v vs2).toInt8.toInt32)), (.int ((e2v vs2).toInt8.toInt32)), (.int 27), (.int ((e1v vs3).toInt8.toInt32)), (.int ((e2v vs3).toInt8.toInt32)), (.int ve), (.int vf), (.int 0), (.int 0), (.int 0), (.int 0), (.int 0), (.int 0), (.int 0)] at A302_b1
        have O302 := O301.wr W302 g1
        have N302 := Fr.snoc X302 N301 g1
        refine ziload X302 hx hby at_211 rfl (ziconst X302 hx hby at_213 (z := (2 : Int32)) rfl (ziadd X302 hx hby at_214 (13 : Int32) (by decide) (zistore X302 hx hby at_215 (L' := #[iv p1, iv p2, iv p3, iv p4, rv b1, iv 2, iv 13, iv 3, iv 11, iv 2, iv vc, .unset]) rfl (zgoto X302 hx hby at_217 251 (by decide) (by decide) (ziload X302 hx hby at_251 rfl (zistore X302 hx hby at_253 (L' := #[iv p1, iv p2, iv p3, iv p4, rv b1, iv 2, iv 13, iv 3, iv 11, iv 2, iv vc, iv 13]) rfl (zaload X302 hx hby at_255 rfl rfl (ziload X302 hx hby at_257 rfl (ziloadN X302 hx hby at_259 rfl ?_)))))))))
        show zEnds p e below s T302 (mkF m 260 #[iv p1, iv p2, iv p3, iv p4, rv b1, iv 2, iv 13, iv 3, iv 11, iv 2, iv vc, iv 13] [(.int p4), (.int 13), (.ref b1)]) _ _ _
        refine zi2b X302 hx hby at_260 (p4.toInt8.toInt32) rfl ?_
        show zEnds p e below s T302 (mkF m 261 #[iv p1, iv p2, iv p3, iv p4, rv b1, iv 2, iv 13, iv 3, iv 11, iv 2, iv vc, iv 13] [(.int (p4.toInt8.toInt32)), (.int 13), (.ref b1)]) _ _ _
        generalize e_vy : (p4.toInt8.toInt32) = vy
        have hn_vy : nar .byte vy = vy := by rw [← e_vy]; exact own_nar8 _
        refine zbastore X302 hx hby at_261 hZ e302 A302_b1 (by decide) (by show Int32.toNatClampNeg 13 < 20; decide) vy hn_vy fun T303 h303 X303 e303 W303 A303_b1 => ?_
        change zLst Z h303 b1 .byte [(.int va), (.int vb), (.int 27), (.int ((e1v vs1).toInt8.toInt32)), (.int ((e2v vs1).toInt8.toInt32)), (.int 27), (.int ((e1v vs2).toInt8.toInt32)), (.int ((e2v vs2).toInt8.toInt32)), (.int 27), (.int ((e1v vs3).toInt8.toInt32)), (.int ((e2v vs3).toInt8.toInt32)), (.int ve), (.int vf), (.int vy), (.int 0), (.int 0), (.int 0), (.int 0), (.int 0), (.int 0)] at A303_b1
        have O303 := O302.wr W303 g1
        have N303 := Fr.snoc X303 N302 g1
        refine zaload X303 hx hby at_262 rfl rfl (ziload X303 hx hby at_264 rfl (ziconst X303 hx hby at_266 (z := (1 : Int32)) rfl (ziadd X303 hx hby at_267 (14 : Int32) (by decide) (ziloadN X303 hx hby at_268 rfl (zbipush X303 hx hby at_269 (z := (8 : Int32)) rfl (ziushr X303 hx hby at_271 ((p4.toUInt32 >>> ((8 : Int32) &&& 31).toUInt32).toInt32) rfl (zi2b X303 hx hby at_272 (((p4.toUInt32 >>> ((8 : Int32) &&& 31).toUInt32).toInt32).toInt8.toInt32) rfl ?_)))))))
        show zEnds p e below s T303 (mkF m 273 #[iv p1, iv p2, iv p3, iv p4, rv b1, iv 2, iv 13, iv 3, iv 11, iv 2, iv vc, iv 13] [(.int (((p4.toUInt32 >>> ((8 : Int32) &&& 31).toUInt32).toInt32).toInt8.toInt32)), (.int 14), (.ref b1)]) _ _ _
        generalize e_vz : (((p4.toUInt32 >>> ((8 : Int32) &&& 31).toUInt32).toInt32).toInt8.toInt32) = vz
        have hn_vz : nar .byte vz = vz := by rw [← e_vz]; exact own_nar8 _
        refine zbastore X303 hx hby at_273 hZ e303 A303_b1 (by decide) (by show Int32.toNatClampNeg 14 < 20; decide) vz hn_vz fun T304 h304 X304 e304 W304 A304_b1 => ?_
        change zLst Z h304 b1 .byte [(.int va), (.int vb), (.int 27), (.int ((e1v vs1).toInt8.toInt32)), (.int ((e2v vs1).toInt8.toInt32)), (.int 27), (.int ((e1v vs2).toInt8.toInt32)), (.int ((e2v vs2).toInt8.toInt32)), (.int 27), (.int ((e1v vs3).toInt8.toInt32)), (.int ((e2v vs3).toInt8.toInt32)), (.int ve), (.int vf), (.int vy), (.int vz), (.int 0), (.int 0), (.int 0), (.int 0), (.int 0)] at A304_b1
        have O304 := O303.wr W304 g1
        have N304 := Fr.snoc X304 N303 g1
        refine zaload X304 hx hby at_274 rfl rfl (ziload X304 hx hby at_276 rfl (ziload X304 hx hby at_278 rfl (zcalls X304 hx hby at_280 hZ hown (w6 hw) (w7 hw) (w8 hw) (w9 hw) e304 (c133_firstCharacter l hw [] ⟨S_w_arr0, A_w_arr0, Al_w_arr0⟩ O304 (zsz O304) b1 va vb ((e1v vs1).toInt8.toInt32) ((e2v vs1).toInt8.toInt32) ((e1v vs2).toInt8.toInt32) ((e2v vs2).toInt8.toInt32) ((e1v vs3).toInt8.toInt32) ((e2v vs3).toInt8.toInt32) ve vf vy vz g1 A304_b1 h27_ve) hml 0 pd_0 (argsL := [(.ref b1), (.int 2), (.int 13)]) (st := []) (zpureK ⟨rfl, rfl⟩ fun T305 X305 e305 => ?_))))
        show zEnds p e below s T305 (mkF m 283 #[iv p1, iv p2, iv p3, iv p4, rv b1, iv 2, iv 13, iv 3, iv 11, iv 2, iv vc, iv 13] [(.int 11)]) _ _ _
        refine ziload X305 hx hby at_283 rfl (zicmpNo X305 hx hby at_285 (by decide) (ziconst X305 hx hby at_288 (z := (1 : Int32)) rfl (zgoto X305 hx hby at_289 293 (by decide) (by decide) ?_)))
        show zEnds p e below s T305 (mkF m 293 #[iv p1, iv p2, iv p3, iv p4, rv b1, iv 2, iv 13, iv 3, iv 11, iv 2, iv vc, iv 13] [(.int 1)]) _ _ _
        exact zretZ X305 hx hby at_293 hret hlk (by simp) rfl (by decide) (by decide) ⟨rfl, N304⟩
      · rw [q290]
        refine zistore X289 hx hby at_108 (L' := #[iv p1, iv p2, iv p3, iv p4, rv b1, iv 2, iv 11, iv 3, iv 11, iv 3, .unset, .unset]) rfl (ziloadN X289 hx hby at_110 rfl (ziconst X289 hx hby at_111 (z := (2 : Int32)) rfl (ziushr X289 hx hby at_112 ((p2.toUInt32 >>> ((2 : Int32) &&& 31).toUInt32).toInt32) rfl (zbipush X289 hx hby at_113 (z := (127 : Int32)) rfl (ziand X289 hx hby at_115 (((p2.toUInt32 >>> ((2 : Int32) &&& 31).toUInt32).toInt32) &&& (127 : Int32)) rfl ?_)))))
        show zEnds p e below s T289 (mkF m 116 #[iv p1, iv p2, iv p3, iv p4, rv b1, iv 2, iv 11, iv 3, iv 11, iv 3, .unset, .unset] [(.int (((p2.toUInt32 >>> ((2 : Int32) &&& 31).toUInt32).toInt32) &&& (127 : Int32)))]) _ _ _
        generalize e_vc : (((p2.toUInt32 >>> ((2 : Int32) &&& 31).toUInt32).toInt32) &&& (127 : Int32)) = vc
        have kc : 0 ≤ vc.toInt ∧ vc.toInt ≤ 127 := by rw [← e_vc]; exact own_c _
        refine zistore X289 hx hby at_116 (L' := #[iv p1, iv p2, iv p3, iv p4, rv b1, iv 2, iv 11, iv 3, iv 11, iv 3, iv vc, .unset]) rfl (ziload X289 hx hby at_118 rfl (ziconst X289 hx hby at_120 (z := (1 : Int32)) rfl (zicmpNo X289 hx hby at_121 (by decide) (ziload X289 hx hby at_124 rfl (ziconst X289 hx hby at_126 (z := (3 : Int32)) rfl (zicmpNo X289 hx hby at_127 (by decide) (ziload X289 hx hby at_130 rfl (zbipush X289 hx hby at_132 (z := (27 : Int32)) rfl ?_))))))))
        show zEnds p e below s T289 (mkF m 134 #[iv p1, iv p2, iv p3, iv p4, rv b1, iv 2, iv 11, iv 3, iv 11, iv 3, iv vc, .unset] [(.int 27), (.int vc)]) _ _ _
        by_cases hc27 : vc = (27 : Int32)
        · show zEnds p e below s T289 (mkF m 134 #[iv p1, iv p2, iv p3, iv p4, rv b1, iv 2, iv 11, iv 3, iv 11, iv 3, iv vc, .unset] [(.int 27), (.int vc)]) _ _ _
          refine zicmpNo X289 hx hby at_134 (teq hc27).2 (ziconst X289 hx hby at_137 (z := (0 : Int32)) rfl (zistore X289 hx hby at_138 (L' := #[iv p1, iv p2, iv p3, iv p4, rv b1, iv 2, iv 11, iv 3, iv 11, iv 0, iv vc, .unset]) rfl (ziload X289 hx hby at_140 rfl (ziconst X289 hx hby at_142 (z := (1 : Int32)) rfl (zicmpYes X289 hx hby at_143 163 (by decide) (by decide) (by decide) (ziload X289 hx hby at_163 rfl (ziconst X289 hx hby at_165 (z := (2 : Int32)) rfl (zicmpYes X289 hx hby at_166 220 (by decide) (by decide) (by decide) (ziload X289 hx hby at_220 rfl ?_)))))))))
          show zEnds p e below s T289 (mkF m 222 #[iv p1, iv p2, iv p3, iv p4, rv b1, iv 2, iv 11, iv 3, iv 11, iv 0, iv vc, .unset] [(.int 0)]) _ _ _
          refine ziconst X289 hx hby at_222 (z := (3 : Int32)) rfl (zicmpYes X289 hx hby at_223 251 (by decide) (by decide) (by decide) (ziload X289 hx hby at_251 rfl (zistore X289 hx hby at_253 (L' := #[iv p1, iv p2, iv p3, iv p4, rv b1, iv 2, iv 11, iv 3, iv 11, iv 0, iv vc, iv 11]) rfl (zaload X289 hx hby at_255 rfl rfl (ziload X289 hx hby at_257 rfl (ziloadN X289 hx hby at_259 rfl (zi2b X289 hx hby at_260 (p4.toInt8.toInt32) rfl ?_)))))))
          show zEnds p e below s T289 (mkF m 261 #[iv p1, iv p2, iv p3, iv p4, rv b1, iv 2, iv 11, iv 3, iv 11, iv 0, iv vc, iv 11] [(.int (p4.toInt8.toInt32)), (.int 11), (.ref b1)]) _ _ _
          generalize e_vy : (p4.toInt8.toInt32) = vy
          have hn_vy : nar .byte vy = vy := by rw [← e_vy]; exact own_nar8 _
          refine zbastore X289 hx hby at_261 hZ e289 A289_b1 (by decide) (by show Int32.toNatClampNeg 11 < 20; decide) vy hn_vy fun T306 h306 X306 e306 W306 A306_b1 => ?_
          change zLst Z h306 b1 .byte [(.int va), (.int vb), (.int 27), (.int ((e1v vs1).toInt8.toInt32)), (.int ((e2v vs1).toInt8.toInt32)), (.int 27), (.int ((e1v vs2).toInt8.toInt32)), (.int ((e2v vs2).toInt8.toInt32)), (.int 27), (.int ((e1v vs3).toInt8.toInt32)), (.int ((e2v vs3).toInt8.toInt32)), (.int vy), (.int 0), (.int 0), (.int 0), (.int 0), (.int 0), (.int 0), (.int 0), (.int 0)] at A306_b1
          have O306 := O289.wr W306 g1
          have N306 := Fr.snoc X306 N289 g1
          refine zaload X306 hx hby at_262 rfl rfl (ziload X306 hx hby at_264 rfl (ziconst X306 hx hby at_266 (z := (1 : Int32)) rfl (ziadd X306 hx hby at_267 (12 : Int32) (by decide) (ziloadN X306 hx hby at_268 rfl (zbipush X306 hx hby at_269 (z := (8 : Int32)) rfl (ziushr X306 hx hby at_271 ((p4.toUInt32 >>> ((8 : Int32) &&& 31).toUInt32).toInt32) rfl (zi2b X306 hx hby at_272 (((p4.toUInt32 >>> ((8 : Int32) &&& 31).toUInt32).toInt32).toInt8.toInt32) rfl ?_)))))))
          show zEnds p e below s T306 (mkF m 273 #[iv p1, iv p2, iv p3, iv p4, rv b1, iv 2, iv 11, iv 3, iv 11, iv 0, iv vc, iv 11] [(.int (((p4.toUInt32 >>> ((8 : Int32) &&& 31).toUInt32).toInt32).toInt8.toInt32)), (.int 12), (.ref b1)]) _ _ _
          generalize e_vz : (((p4.toUInt32 >>> ((8 : Int32) &&& 31).toUInt32).toInt32).toInt8.toInt32) = vz
          have hn_vz : nar .byte vz = vz := by rw [← e_vz]; exact own_nar8 _
          refine zbastore X306 hx hby at_273 hZ e306 A306_b1 (by decide) (by show Int32.toNatClampNeg 12 < 20; decide) vz hn_vz fun T307 h307 X307 e307 W307 A307_b1 => ?_
          change zLst Z h307 b1 .byte [(.int va), (.int vb), (.int 27), (.int ((e1v vs1).toInt8.toInt32)), (.int ((e2v vs1).toInt8.toInt32)), (.int 27), (.int ((e1v vs2).toInt8.toInt32)), (.int ((e2v vs2).toInt8.toInt32)), (.int 27), (.int ((e1v vs3).toInt8.toInt32)), (.int ((e2v vs3).toInt8.toInt32)), (.int vy), (.int vz), (.int 0), (.int 0), (.int 0), (.int 0), (.int 0), (.int 0), (.int 0)] at A307_b1
          have O307 := O306.wr W307 g1
          have N307 := Fr.snoc X307 N306 g1
          refine zaload X307 hx hby at_274 rfl rfl (ziload X307 hx hby at_276 rfl (ziload X307 hx hby at_278 rfl (zcalls X307 hx hby at_280 hZ hown (w6 hw) (w7 hw) (w8 hw) (w9 hw) e307 (c129_firstCharacter l hw [] ⟨S_w_arr0, A_w_arr0, Al_w_arr0⟩ O307 (zsz O307) b1 va vb ((e1v vs1).toInt8.toInt32) ((e2v vs1).toInt8.toInt32) ((e1v vs2).toInt8.toInt32) ((e2v vs2).toInt8.toInt32) ((e1v vs3).toInt8.toInt32) ((e2v vs3).toInt8.toInt32) vy vz g1 A307_b1) hml 0 pd_0 (argsL := [(.ref b1), (.int 2), (.int 11)]) (st := []) (zpureK ⟨rfl, rfl⟩ fun T308 X308 e308 => ?_))))
          show zEnds p e below s T308 (mkF m 283 #[iv p1, iv p2, iv p3, iv p4, rv b1, iv 2, iv 11, iv 3, iv 11, iv 0, iv vc, iv 11] [(.int 11)]) _ _ _
          refine ziload X308 hx hby at_283 rfl (zicmpNo X308 hx hby at_285 (by decide) (ziconst X308 hx hby at_288 (z := (1 : Int32)) rfl (zgoto X308 hx hby at_289 293 (by decide) (by decide) ?_)))
          show zEnds p e below s T308 (mkF m 293 #[iv p1, iv p2, iv p3, iv p4, rv b1, iv 2, iv 11, iv 3, iv 11, iv 0, iv vc, iv 11] [(.int 1)]) _ _ _
          exact zretZ X308 hx hby at_293 hret hlk (by simp) rfl (by decide) (by decide) ⟨rfl, N307⟩
        · show zEnds p e below s T289 (mkF m 134 #[iv p1, iv p2, iv p3, iv p4, rv b1, iv 2, iv 11, iv 3, iv 11, iv 3, iv vc, .unset] [(.int 27), (.int vc)]) _ _ _
          refine zicmpYes X289 hx hby at_134 140 (feq hc27).2 (by decide) (by decide) (ziload X289 hx hby at_140 rfl (ziconst X289 hx hby at_142 (z := (1 : Int32)) rfl (zicmpYes X289 hx hby at_143 163 (by decide) (by decide) (by decide) (ziload X289 hx hby at_163 rfl (ziconst X289 hx hby at_165 (z := (2 : Int32)) rfl (zicmpYes X289 hx hby at_166 220 (by decide) (by decide) (by decide) (ziload X289 hx hby at_220 rfl (ziconst X289 hx hby at_222 (z := (3 : Int32)) rfl (zicmpNo X289 hx hby at_223 (by decide) ?_)))))))))
          show zEnds p e below s T289 (mkF m 226 #[iv p1, iv p2, iv p3, iv p4, rv b1, iv 2, iv 11, iv 3, iv 11, iv 3, iv vc, .unset] []) _ _ _
          refine zaload X289 hx hby at_226 rfl rfl (ziload X289 hx hby at_228 rfl (ziload X289 hx hby at_230 rfl (zi2b X289 hx hby at_232 (vc.toInt8.toInt32) rfl ?_)))
          show zEnds p e below s T289 (mkF m 233 #[iv p1, iv p2, iv p3, iv p4, rv b1, iv 2, iv 11, iv 3, iv 11, iv 3, iv vc, .unset] [(.int (vc.toInt8.toInt32)), (.int 11), (.ref b1)]) _ _ _
          generalize e_vg : (vc.toInt8.toInt32) = vg
          have hn_vg : nar .byte vg = vg := by rw [← e_vg]; exact own_nar8 _
          have h27_vg : ¬ (vg = (27 : Int32)) := by rw [← e_vg]; exact own_27 kc hc27
          refine zbastore X289 hx hby at_233 hZ e289 A289_b1 (by decide) (by show Int32.toNatClampNeg 11 < 20; decide) vg hn_vg fun T309 h309 X309 e309 W309 A309_b1 => ?_
          change zLst Z h309 b1 .byte [(.int va), (.int vb), (.int 27), (.int ((e1v vs1).toInt8.toInt32)), (.int ((e2v vs1).toInt8.toInt32)), (.int 27), (.int ((e1v vs2).toInt8.toInt32)), (.int ((e2v vs2).toInt8.toInt32)), (.int 27), (.int ((e1v vs3).toInt8.toInt32)), (.int ((e2v vs3).toInt8.toInt32)), (.int vg), (.int 0), (.int 0), (.int 0), (.int 0), (.int 0), (.int 0), (.int 0), (.int 0)] at A309_b1
          have O309 := O289.wr W309 g1
          have N309 := Fr.snoc X309 N289 g1
          refine zaload X309 hx hby at_234 rfl rfl (ziload X309 hx hby at_236 rfl (ziconst X309 hx hby at_238 (z := (1 : Int32)) rfl (ziadd X309 hx hby at_239 (12 : Int32) (by decide) (ziloadN X309 hx hby at_240 rfl (zbipush X309 hx hby at_241 (z := (9 : Int32)) rfl (ziushr X309 hx hby at_243 ((p2.toUInt32 >>> ((9 : Int32) &&& 31).toUInt32).toInt32) rfl (ziconst X309 hx hby at_244 (z := (3 : Int32)) rfl (ziand X309 hx hby at_245 (((p2.toUInt32 >>> ((9 : Int32) &&& 31).toUInt32).toInt32) &&& (3 : Int32)) rfl ?_))))))))
          show zEnds p e below s T309 (mkF m 246 #[iv p1, iv p2, iv p3, iv p4, rv b1, iv 2, iv 11, iv 3, iv 11, iv 3, iv vc, .unset] [(.int (((p2.toUInt32 >>> ((9 : Int32) &&& 31).toUInt32).toInt32) &&& (3 : Int32))), (.int 12), (.ref b1)]) _ _ _
          generalize e_vs4 : (((p2.toUInt32 >>> ((9 : Int32) &&& 31).toUInt32).toInt32) &&& (3 : Int32)) = vs4
          refine zcalls X309 hx hby at_246 hZ hown (w2 hw) (w3 hw) (w4 hw) (w5 hw) e309 (c135_esc l hw [] ⟨S_w_arr0, A_w_arr0, Al_w_arr0⟩ O309 (zsz O309) vs4 b1 va vb (27 : Int32) ((e1v vs1).toInt8.toInt32) ((e2v vs1).toInt8.toInt32) (27 : Int32) ((e1v vs2).toInt8.toInt32) ((e2v vs2).toInt8.toInt32) (27 : Int32) ((e1v vs3).toInt8.toInt32) ((e2v vs3).toInt8.toInt32) vg (0 : Int32) (0 : Int32) (0 : Int32) (0 : Int32) (0 : Int32) (0 : Int32) (0 : Int32) (0 : Int32) g1 A309_b1 h27_vg) hml 0 pd_0 (argsL := [(.ref b1), (.int 12), (.int vs4)]) (st := []) fun T310 h310 v310 L310 e310 X310 q310 => ?_
          obtain ⟨rfl, N310q, K310q, A310_b1⟩ := q310
          have O310 := O309.keep K310q (allS g1 all0)
          have N310 := Fr.app N309 N310q
          show zEnds p e below s T310 (mkF m 249 #[iv p1, iv p2, iv p3, iv p4, rv b1, iv 2, iv 11, iv 3, iv 11, iv 3, iv vc, .unset] [(.int 15)]) _ _ _
          refine zistore X310 hx hby at_249 (L' := #[iv p1, iv p2, iv p3, iv p4, rv b1, iv 2, iv 15, iv 3, iv 11, iv 3, iv vc, .unset]) rfl (ziload X310 hx hby at_251 rfl (zistore X310 hx hby at_253 (L' := #[iv p1, iv p2, iv p3, iv p4, rv b1, iv 2, iv 15, iv 3, iv 11, iv 3, iv vc, iv 15]) rfl (zaload X310 hx hby at_255 rfl rfl (ziload X310 hx hby at_257 rfl (ziloadN X310 hx hby at_259 rfl (zi2b X310 hx hby at_260 (p4.toInt8.toInt32) rfl ?_))))))
          show zEnds p e below s T310 (mkF m 261 #[iv p1, iv p2, iv p3, iv p4, rv b1, iv 2, iv 15, iv 3, iv 11, iv 3, iv vc, iv 15] [(.int (p4.toInt8.toInt32)), (.int 15), (.ref b1)]) _ _ _
          generalize e_vy : (p4.toInt8.toInt32) = vy
          have hn_vy : nar .byte vy = vy := by rw [← e_vy]; exact own_nar8 _
          refine zbastore X310 hx hby at_261 hZ e310 A310_b1 (by decide) (by show Int32.toNatClampNeg 15 < 20; decide) vy hn_vy fun T311 h311 X311 e311 W311 A311_b1 => ?_
          change zLst Z h311 b1 .byte [(.int va), (.int vb), (.int 27), (.int ((e1v vs1).toInt8.toInt32)), (.int ((e2v vs1).toInt8.toInt32)), (.int 27), (.int ((e1v vs2).toInt8.toInt32)), (.int ((e2v vs2).toInt8.toInt32)), (.int 27), (.int ((e1v vs3).toInt8.toInt32)), (.int ((e2v vs3).toInt8.toInt32)), (.int vg), (.int 27), (.int ((e1v vs4).toInt8.toInt32)), (.int ((e2v vs4).toInt8.toInt32)), (.int vy), (.int 0), (.int 0), (.int 0), (.int 0)] at A311_b1
          have O311 := O310.wr W311 g1
          have N311 := Fr.snoc X311 N310 g1
          refine zaload X311 hx hby at_262 rfl rfl (ziload X311 hx hby at_264 rfl (ziconst X311 hx hby at_266 (z := (1 : Int32)) rfl (ziadd X311 hx hby at_267 (16 : Int32) (by decide) (ziloadN X311 hx hby at_268 rfl (zbipush X311 hx hby at_269 (z := (8 : Int32)) rfl (ziushr X311 hx hby at_271 ((p4.toUInt32 >>> ((8 : Int32) &&& 31).toUInt32).toInt32) rfl (zi2b X311 hx hby at_272 (((p4.toUInt32 >>> ((8 : Int32) &&& 31).toUInt32).toInt32).toInt8.toInt32) rfl ?_)))))))
          show zEnds p e below s T311 (mkF m 273 #[iv p1, iv p2, iv p3, iv p4, rv b1, iv 2, iv 15, iv 3, iv 11, iv 3, iv vc, iv 15] [(.int (((p4.toUInt32 >>> ((8 : Int32) &&& 31).toUInt32).toInt32).toInt8.toInt32)), (.int 16), (.ref b1)]) _ _ _
          generalize e_vz : (((p4.toUInt32 >>> ((8 : Int32) &&& 31).toUInt32).toInt32).toInt8.toInt32) = vz
          have hn_vz : nar .byte vz = vz := by rw [← e_vz]; exact own_nar8 _
          refine zbastore X311 hx hby at_273 hZ e311 A311_b1 (by decide) (by show Int32.toNatClampNeg 16 < 20; decide) vz hn_vz fun T312 h312 X312 e312 W312 A312_b1 => ?_
          change zLst Z h312 b1 .byte [(.int va), (.int vb), (.int 27), (.int ((e1v vs1).toInt8.toInt32)), (.int ((e2v vs1).toInt8.toInt32)), (.int 27), (.int ((e1v vs2).toInt8.toInt32)), (.int ((e2v vs2).toInt8.toInt32)), (.int 27), (.int ((e1v vs3).toInt8.toInt32)), (.int ((e2v vs3).toInt8.toInt32)), (.int vg), (.int 27), (.int ((e1v vs4).toInt8.toInt32)), (.int ((e2v vs4).toInt8.toInt32)), (.int vy), (.int vz), (.int 0), (.int 0), (.int 0)] at A312_b1
          have O312 := O311.wr W312 g1
          have N312 := Fr.snoc X312 N311 g1
          refine zaload X312 hx hby at_274 rfl rfl (ziload X312 hx hby at_276 rfl (ziload X312 hx hby at_278 rfl (zcalls X312 hx hby at_280 hZ hown (w6 hw) (w7 hw) (w8 hw) (w9 hw) e312 (c137_firstCharacter l hw [] ⟨S_w_arr0, A_w_arr0, Al_w_arr0⟩ O312 (zsz O312) b1 va vb ((e1v vs1).toInt8.toInt32) ((e2v vs1).toInt8.toInt32) ((e1v vs2).toInt8.toInt32) ((e2v vs2).toInt8.toInt32) ((e1v vs3).toInt8.toInt32) ((e2v vs3).toInt8.toInt32) vg ((e1v vs4).toInt8.toInt32) ((e2v vs4).toInt8.toInt32) vy vz g1 A312_b1 h27_vg) hml 0 pd_0 (argsL := [(.ref b1), (.int 2), (.int 15)]) (st := []) (zpureK ⟨rfl, rfl⟩ fun T313 X313 e313 => ?_))))
          show zEnds p e below s T313 (mkF m 283 #[iv p1, iv p2, iv p3, iv p4, rv b1, iv 2, iv 15, iv 3, iv 11, iv 3, iv vc, iv 15] [(.int 11)]) _ _ _
          refine ziload X313 hx hby at_283 rfl (zicmpNo X313 hx hby at_285 (by decide) (ziconst X313 hx hby at_288 (z := (1 : Int32)) rfl (zgoto X313 hx hby at_289 293 (by decide) (by decide) ?_)))
          show zEnds p e below s T313 (mkF m 293 #[iv p1, iv p2, iv p3, iv p4, rv b1, iv 2, iv 15, iv 3, iv 11, iv 3, iv vc, iv 15] [(.int 1)]) _ _ _
          exact zretZ X313 hx hby at_293 hret hlk (by simp) rfl (by decide) (by decide) ⟨rfl, N312⟩
set_option maxRecDepth 65536 in
set_option maxHeartbeats 40000000 in
theorem comes_1 {Post : Tables → Env → Array Value → State → Outcome → State → Prop} (hpost : ∀ tb e args s v u, (limb_1_1.after args s (.returned v) u = true ∧ limb_1_2.after args s (.returned v) u = true ∧ True) → FrameEnd s (.returned v) u (Jvm.fieldLocs frame_1_writes args s ++ Jvm.arrayLocs frame_1_arrays args s ++ Jvm.staticLocs frame_1_statics s) 16 128 → Post tb e args s (.returned v) u) :
    ArmFor flags0 classFile x code maxLocals ret World_1 tables_1 room_1 Calls_1 rest_1 Pre_1 Post := by
  intro l hfl _ _ p e ha hc hk s m args below hf hA hF happ hP
  obtain ⟨hcalls, hrest, hpre⟩ := hP
  obtain ⟨-, -, -, hnamed, -, -, -, hat⟩ := (Spec.applies_iff hf).mp happ
  obtain ⟨hg, hn⟩ := and_e (Cond.before_iff.mp (show (Jvm.Cond.and given_1 narrow_1).before args s = true from hpre))
  obtain ⟨gc, hg⟩ := and_e hg
  obtain ⟨g0, hg⟩ := and_e hg
  obtain ⟨g1, hg⟩ := and_e hg
  obtain ⟨g2, hg⟩ := and_e hg
  obtain ⟨u0, u1, u2, u3, rfl⟩ : ∃ u0 u1 u2 u3 : Value, args = #[u0, u1, u2, u3] := by
    have hs : args.size = 4 := by simpa [Cond.value, given_1] using gc
    obtain ⟨L⟩ := args
    match L, hs with
    | [u0, u1, u2, u3], _ => exact ⟨u0, u1, u2, u3, rfl⟩
  obtain ⟨i0, ei0⟩ := is_v g0
  obtain rfl : u0 = (.int i0) := Option.some.inj ei0
  obtain ⟨i1, ei1⟩ := is_v g1
  obtain rfl : u1 = (.int i1) := Option.some.inj ei1
  obtain ⟨i2, ei2⟩ := is_v g2
  obtain rfl : u2 = (.int i2) := Option.some.inj ei2
  obtain ⟨i3, ei3⟩ := is_v hg
  obtain rfl : u3 = (.int i3) := Option.some.inj ei3
  have hw := fun d (hd : d ∈ tables_1) => atoms_spec (ws := Jvm.Cond.code x code maxLocals ret :: tables_1) hat d (List.mem_cons_of_mem _ hd)
  obtain ⟨n1, n2⟩ := and_e hn
  obtain ⟨w_arr0, v_w_arr0⟩ := arr_v n1
  obtain ⟨cl_arr0, A_w_arr0⟩ := Arr.start v_w_arr0 n1
  have S_w_arr0 := Sta.start v_w_arr0 (Or.inr ⟨(w8 hw), (w11 hw)⟩)
  have Al_w_arr0 := zlen_is v_w_arr0 A_w_arr0 n2
  obtain ⟨n, o, h1, h2, h3, _, L, rfl, ⟨rfl, N⟩, hq⟩ := rm0 l (Z := s) hw tables_1 (h0 := s.heap) (n0 := s.heap.size) ⟨S_w_arr0, A_w_arr0, Al_w_arr0⟩ (Old.start s) (Nat.le_refl _) i0 i1 i2 i3 p e ha hc hk s m _ below hf ((Spec.applies_iff_loose hf).mp happ).1 ⟨rfl, State.Warmed39.refl s, rfl⟩ trivial
  refine ⟨n, _, h1, h2, h3, hpost _ _ _ _ _ _ ⟨Cond.after_iff.mpr rfl, Cond.after_iff.mpr (eq_i res_at (Term.int_eval (1)) rfl), trivial⟩ ⟨hq.1, hq.2.1, (hq.2.2.sift fun y hy => Or.inr (N y hy)).mono (by decide) (by decide)⟩⟩
theorem main_1_1 : Claimed_1_1 := comes_1 fun _ _ _ _ _ _ h hF => ⟨h.1, hF⟩
theorem main_1_2 : Claimed_1_2 := comes_1 fun _ _ _ _ _ _ h hF => ⟨h.2.1, hF⟩
end Jvm.Pilot.@@N@@
namespace Jvm.Pilot.@@N@@
open Jvm Jvm.ClassFile Sem Op Lib Jvm.Free Jvm.Stand Jvm.Pilot.@@N@@.Jvm.D
/-! MADE BY PROGRAM (witnessworld.py) out of the Statement's table words and the real class files: 9 classes; the members and pool entries that the words name. The judged class is class 1, her method 2. -/
namespace start1
open Jvm.ClassFile
def u (s : String) : CpInfo := .utf8 (stringToUtf16 s)
/-- a pool by its gaps: so many unusable entries, then the entry; so many at the end -/
def gap : Nat → List CpInfo → List CpInfo
  | 0, r => r
  | n + 1, r => .unusable :: gap n r
def poolList (es : List (Nat × CpInfo)) (last : Nat) : List CpInfo := es.foldr (fun e r => gap e.1 (e.2 :: r)) (gap last [])
def pool (es : List (Nat × CpInfo)) (last : Nat) : Array CpInfo := ⟨poolList es last⟩
def fileOf (pool : Array CpInfo) (this : Nat) (attrs : Array Attribute := #[]) (ms : Array MethodInfo := #[]) (fl : Nat := 33) (sup : Nat := 0) (ifs : Array Nat := #[]) (fds : Array FieldInfo := #[]) : ClassFile where
  minorVersion := 0
  majorVersion := 65
  constantPool := pool
  accessFlags := fl
  thisClass := this
  superClass := sup
  interfaces := ifs
  fields := fds
  methods := ms
  attributes := attrs
def plain (name : String) (sup : Option ClassId) : Class where
  name := name
  kind := .ordinary
  loader := none
  accessFlags := 33
  super := sup
  interfaces := #[]
  cf := none
  fields := #[]
  methods := #[]
  instanceTypes := #[]
  staticTypes := #[]
  resolved := #[]
  callSites := []
  init := .initialized
  statics := none
  mirror := none

def pool0 : Array CpInfo := pool [(5, u "<init>"), (0, u "()V"), (1, .class_ 10), (1, u "java/lang/Object")] 113

def k0m0 : Method := { name := "<init>", desc := "()V", sig := { parameters := [], returnType := none }, accessFlags := 1, code := none }
/-- java/lang/Object -/
def k0 : Class := { plain "java/lang/Object" none with
  accessFlags := 33
  interfaces := #[]
  cf := some (fileOf pool0 8 #[] #[{ accessFlags := 1, nameIndex := 5, descriptorIndex := 6, attributes := #[] }] 33 0 #[] #[])
  fields := #[]
  methods := #[k0m0]
  instanceTypes := #[]
  staticTypes := #[]
  resolved := Array.replicate 124 none
  statics := none }

def pool1 : Array CpInfo := pool [(2, .class_ 4), (1, u "java/lang/Object"), (0, u "<init>"), (0, u "()V"), (0, .integer 2147483647), (0, .methodref 9 10), (0, .class_ 11), (0, .nameAndType 12 13), (0, u "com/example/kakehashi/kakehashi/message/Iso2022FirstCharacterPinLaw"), (0, u "esc"), (0, u "([BII)I"), (0, .methodref 15 16), (0, .class_ 17), (0, .nameAndType 18 13), (0, u "com/example/kakehashi/kakehashi/message/Iso2022"), (0, u "firstCharacter"), (5, u "law"), (0, u "(IIII)Z")] 2

def k1m0 : Method := { name := "<init>", desc := "()V", sig := { parameters := [], returnType := none }, accessFlags := 2, code := none }
def k1c1 : Code := { maxStack := 4, maxLocals := 4, code := method_2_code, exceptionTable := #[], attributes := #[] }
def k1m1 : Method := { name := "esc", desc := "([BII)I", sig := { parameters := [(.array .byte), .int, .int], returnType := some .int }, accessFlags := 10, code := some k1c1 }
def k1c2 : Code := { maxStack := 5, maxLocals := 12, code := code, exceptionTable := #[], attributes := #[] }
def k1m2 : Method := { name := "law", desc := "(IIII)Z", sig := { parameters := [.int, .int, .int, .int], returnType := some .boolean }, accessFlags := 9, code := some k1c2 }
/-- com/example/kakehashi/kakehashi/message/Iso2022FirstCharacterPinLaw -/
def k1 : Class := { plain "com/example/kakehashi/kakehashi/message/Iso2022FirstCharacterPinLaw" (some 0) with
  accessFlags := 49
  interfaces := #[]
  cf := some (fileOf pool1 9 #[] #[{ accessFlags := 2, nameIndex := 5, descriptorIndex := 6, attributes := #[] }, { accessFlags := 10, nameIndex := 12, descriptorIndex := 13, attributes := #[] }, { accessFlags := 9, nameIndex := 24, descriptorIndex := 25, attributes := #[] }] 49 2 #[] #[])
  fields := #[]
  methods := #[k1m0, k1m1, k1m2]
  instanceTypes := #[]
  staticTypes := #[]
  resolved := Array.replicate 28 none
  statics := none }

def pool2 : Array CpInfo := pool [(2, .class_ 4), (1, u "java/lang/Object"), (0, u "<init>"), (0, u "()V"), (1, .class_ 10), (1, u "com/example/kakehashi/kakehashi/message/Iso2022"), (0, u "TO_MULTIPLE_BYTE_SET"), (0, u "[B"), (10, u "PASSED_OVER"), (0, u "Lcom/example/kakehashi/kakehashi/message/Reading$Characters;"), (14, u "TO_JIS_X_0208"), (0, .fieldref 8 41), (0, .nameAndType 42 12), (0, u "TO_ASCII"), (2, u "TO_JIS_X_0201_ROMAN"), (20, .class_ 68), (1, u "com/example/kakehashi/kakehashi/message/Iso2022$JisX0208"), (16, u "SLIPS"), (0, u "[Ljava/lang/String;"), (23, .class_ 111), (0, u "com/example/kakehashi/kakehashi/message/Iso2022$Comparison"), (12, .class_ 125), (0, u "com/example/kakehashi/kakehashi/message/Iso2022$Encoder"), (37, .class_ 164), (0, u "com/example/kakehashi/kakehashi/message/Iso2022$Utf8Writer"), (20, u "ESC"), (0, u "B"), (2, u "NOT_ASCII"), (0, u "Ljava/lang/String;"), (0, u "NOT_JIS_X_0208"), (0, u "ROMAN_READ_AS_ASCII"), (0, u "NO_DELIMITER"), (0, u "I"), (1, u "SLIP"), (21, u "firstCharacter"), (0, u "([BII)I")] 50

def k2m0 : Method := { name := "<init>", desc := "()V", sig := { parameters := [], returnType := none }, accessFlags := 2, code := none }
def k2c1 : Code := { maxStack := 2, maxLocals := 4, code := prog_46_method_12_code, exceptionTable := #[], attributes := #[] }
def k2m1 : Method := { name := "firstCharacter", desc := "([BII)I", sig := { parameters := [(.array .byte), .int, .int], returnType := some .int }, accessFlags := 8, code := some k2c1 }
/-- com/example/kakehashi/kakehashi/message/Iso2022 -/
def k2 : Class := { plain "com/example/kakehashi/kakehashi/message/Iso2022" (some 0) with
  accessFlags := 48
  interfaces := #[]
  cf := some (fileOf pool2 8 #[.nestMembers #[66, 124, 163, 110]] #[{ accessFlags := 2, nameIndex := 5, descriptorIndex := 6, attributes := #[] }, { accessFlags := 8, nameIndex := 218, descriptorIndex := 219, attributes := #[] }] 48 2 #[] #[{ accessFlags := 26, nameIndex := 185, descriptorIndex := 186, attributes := #[] }, { accessFlags := 26, nameIndex := 39, descriptorIndex := 12, attributes := #[] }, { accessFlags := 26, nameIndex := 42, descriptorIndex := 12, attributes := #[] }, { accessFlags := 26, nameIndex := 45, descriptorIndex := 12, attributes := #[] }, { accessFlags := 26, nameIndex := 11, descriptorIndex := 12, attributes := #[] }, { accessFlags := 26, nameIndex := 189, descriptorIndex := 190, attributes := #[] }, { accessFlags := 26, nameIndex := 191, descriptorIndex := 190, attributes := #[] }, { accessFlags := 26, nameIndex := 85, descriptorIndex := 86, attributes := #[] }, { accessFlags := 26, nameIndex := 192, descriptorIndex := 190, attributes := #[] }, { accessFlags := 26, nameIndex := 193, descriptorIndex := 194, attributes := #[] }, { accessFlags := 26, nameIndex := 196, descriptorIndex := 194, attributes := #[] }, { accessFlags := 26, nameIndex := 23, descriptorIndex := 24, attributes := #[] }])
  fields := #[{ name := "ESC", type := .byte, accessFlags := 26, slot := 0, constantValue := 0 }, { name := "TO_JIS_X_0208", type := (.array .byte), accessFlags := 26, slot := 1, constantValue := 0 }, { name := "TO_ASCII", type := (.array .byte), accessFlags := 26, slot := 2, constantValue := 0 }, { name := "TO_JIS_X_0201_ROMAN", type := (.array .byte), accessFlags := 26, slot := 3, constantValue := 0 }, { name := "TO_MULTIPLE_BYTE_SET", type := (.array .byte), accessFlags := 26, slot := 4, constantValue := 0 }, { name := "NOT_ASCII", type := (.object "java/lang/String"), accessFlags := 26, slot := 5, constantValue := 0 }, { name := "NOT_JIS_X_0208", type := (.object "java/lang/String"), accessFlags := 26, slot := 6, constantValue := 0 }, { name := "SLIPS", type := (.array (.object "java/lang/String")), accessFlags := 26, slot := 7, constantValue := 0 }, { name := "ROMAN_READ_AS_ASCII", type := (.object "java/lang/String"), accessFlags := 26, slot := 8, constantValue := 0 }, { name := "NO_DELIMITER", type := .int, accessFlags := 26, slot := 9, constantValue := 0 }, { name := "SLIP", type := .int, accessFlags := 26, slot := 10, constantValue := 0 }, { name := "PASSED_OVER", type := (.object "com/example/kakehashi/kakehashi/message/Reading$Characters"), accessFlags := 26, slot := 11, constantValue := 0 }]
  methods := #[k2m0, k2m1]
  instanceTypes := #[]
  staticTypes := #[.byte, (.array .byte), (.array .byte), (.array .byte), (.array .byte), (.object "java/lang/String"), (.object "java/lang/String"), (.array (.object "java/lang/String")), (.object "java/lang/String"), .int, .int, (.object "com/example/kakehashi/kakehashi/message/Reading$Characters")]
  resolved := Array.replicate 270 none
  statics := some 0 }

def pool3 : Array CpInfo := pool [(1, u "java/lang/Cloneable"), (0, .class_ 1), (0, u "java/lang/Object"), (0, .class_ 3)] 3

/-- java/lang/Cloneable -/
def k3 : Class := { plain "java/lang/Cloneable" (some 0) with
  accessFlags := 1537
  interfaces := #[]
  cf := some (fileOf pool3 2 #[] #[] 1537 4 #[] #[])
  fields := #[]
  methods := #[]
  instanceTypes := #[]
  staticTypes := #[]
  resolved := Array.replicate 8 none
  statics := none }

def pool4 : Array CpInfo := pool [(1, u "java/io/Serializable"), (0, .class_ 1), (0, u "java/lang/Object"), (0, .class_ 3)] 3

/-- java/io/Serializable -/
def k4 : Class := { plain "java/io/Serializable" (some 0) with
  accessFlags := 1537
  interfaces := #[]
  cf := some (fileOf pool4 2 #[] #[] 1537 4 #[] #[])
  fields := #[]
  methods := #[]
  instanceTypes := #[]
  staticTypes := #[]
  resolved := Array.replicate 8 none
  statics := none }

/-- the primitive byte -/
def k5 : Class := { plain "byte" none with kind := .primitive 'B', accessFlags := 0x411 }
/-- [B -/
def k6 : Class := { plain "[B" (some 0) with kind := .array 5 .byte, interfaces := #[3, 4], accessFlags := 1041 }

/-- the primitive int -/
def k7 : Class := { plain "int" none with kind := .primitive 'I', accessFlags := 0x411 }
/-- [I -/
def k8 : Class := { plain "[I" (some 0) with kind := .array 7 .int, interfaces := #[3, 4], accessFlags := 1041 }

def heap : Heap := #[{ cls := 2, slots := #[.int 0, .null, .ref 1, .null, .null, .null, .null, .null, .null, .int 0, .int 0, .null], vm := .statics 2 },
  { cls := 6, slots := #[.int 27, .int 40, .int 66], vm := .none }]
def classes : Array Class := #[k0, k1, k2, k3, k4, k5, k6, k7, k8]
def interned : List (Array UInt16 × Addr) := []
def slotsUsed : Nat := 15
def theMethod : MethodId := ⟨1, 2⟩
def args0 : Array Value := #[.int 5, .int 6, .int 7, .int 8]
def aboutOver (below : List Frame) : State where
  vm := { classes := classes, interned := interned.toArray }
  heap := heap
  slotsUsed := slotsUsed
  threads := #[{ frames := .invoking theMethod args0 :: below }]
def below0 : List Frame := [.native { method := ⟨0, 0⟩, args := #[] }]
def about1 : State := aboutOver below0
def p0 : Program := .bare "" "" ""
def e0 : Env := launch0.env 0 0 0
theorem w_frames : about1.frames = Frame.invoking theMethod args0 :: below0 := rfl
set_option maxRecDepth 65536 in
theorem w_args : argsFit about1.vm theMethod args0 = true := by decide +kernel
set_option maxRecDepth 65536 in
theorem w_heap : heapFits about1 = true := by decide +kernel
set_option maxRecDepth 65536 in
theorem w_runnable : about1.curStatus? = some .runnable := by decide +kernel
set_option maxRecDepth 65536 in
theorem w_alone : about1.alone = true := by decide +kernel
set_option maxRecDepth 65536 in
theorem w_named : about1.methodNamed? x = some theMethod := by decide +kernel
set_option maxRecDepth 65536 in
theorem w_hears : about1.hears theMethod below0 = true := by decide +kernel
set_option maxRecDepth 65536 in
theorem w_ripe : about1.ripe theMethod args0 below0 = true := by decide +kernel
theorem w_running : about1.status = .running := rfl
set_option maxRecDepth 65536 in
theorem w_room : about1.hasRoom e0.platform room_1 = true :=
  launch0.hasRoom_least _ room_1 (by decide +kernel) (by decide +kernel) (by decide +kernel) (by decide +kernel) (by decide +kernel) (by decide +kernel)
theorem allAtoms_all (ts : List Jvm.Cond) (a : Array Jvm.Value) (st : Jvm.State) : (allAtoms ts).before a st = ts.all (fun c => c.before a st) := by
  induction ts with
  | nil => rfl
  | cons c t ih =>
    show (Jvm.Cond.and c (allAtoms t)).before a st = _
    rw [Jvm.Cond.before_and, ih, List.all_cons]
def words1 : List Jvm.Cond := Jvm.Cond.code x code maxLocals ret :: tables_1
/-- a 'code' word, met by the world's own term for the bytes: nothing is compared byte by byte -/
theorem code_word {y : MethodName} {bytes : ByteArray} {mx : Nat} {rt : Option FieldType} {a : Array Value} {s : State} {m : MethodId} {meth : Method} {c : Code} (h1 : s.methodNamed? y = some m) (h2 : s.vm.method? m = some meth) (h3 : meth.code = some c) (h4 : c.code = bytes)
    (h5 : (c.maxLocals == mx && c.exceptionTable.isEmpty && decide (c.maxStack ≤ mostOperands) && decide (meth.sig.returnType = rt) && !meth.locks && decide (parseMethodDescriptor y.desc = some meth.sig)) = true) : (Jvm.Cond.code y bytes mx rt).before a s = true := by
  simp only [Bool.and_eq_true, beq_iff_eq, Bool.not_eq_true', decide_eq_true_eq] at h5
  obtain ⟨⟨⟨⟨⟨g1, g2⟩, g3⟩, g4⟩, g5⟩, g6⟩ := h5
  simp [Cond.before, Cond.holds, Cond.value, h1, h2, h3, h4, g1, g2, g3, g4, g5, g6]
def isCode : Jvm.Cond → Bool
  | .code _ _ _ _ => true
  | _ => false
theorem all_split {L : List Jvm.Cond} {P : Jvm.Cond → Bool} (h1 : L.all (fun c => isCode c || P c) = true) (h2 : ∀ c ∈ L.filter isCode, P c = true) : L.all P = true := by
  refine List.all_eq_true.mpr fun c hc => ?_
  have h := List.all_eq_true.mp h1 c hc
  rcases Bool.eq_false_or_eq_true (isCode c) with hi | hi
  · exact h2 c (List.mem_filter.mpr ⟨hc, hi⟩)
  · simpa [hi] using h
set_option maxRecDepth 65536 in
theorem w_c0 : (Jvm.Cond.code x code maxLocals ret).before args0 about1 = true := code_word (m := ⟨1, 2⟩) (meth := k1m2) (c := k1c2) (by decide +kernel) rfl rfl rfl (by decide +kernel)
set_option maxRecDepth 65536 in
theorem w_c1 : (Jvm.Cond.code ({ cls := "com/example/kakehashi/kakehashi/message/Iso2022FirstCharacterPinLaw", name := "esc", desc := "([BII)I" } : Jvm.MethodName) method_2_code (4 : Nat) (Option.some Jvm.ClassFile.FieldType.int)).before args0 about1 = true := code_word (m := ⟨1, 1⟩) (meth := k1m1) (c := k1c1) (by decide +kernel) rfl rfl rfl (by decide +kernel)
set_option maxRecDepth 65536 in
theorem w_c2 : (Jvm.Cond.code ({ cls := "com/example/kakehashi/kakehashi/message/Iso2022", name := "firstCharacter", desc := "([BII)I" } : Jvm.MethodName) prog_46_method_12_code (4 : Nat) (Option.some Jvm.ClassFile.FieldType.int)).before args0 about1 = true := code_word (m := ⟨2, 1⟩) (meth := k2m1) (c := k2c1) (by decide +kernel) rfl rfl rfl (by decide +kernel)
def codes1 : List Jvm.Cond := [Jvm.Cond.code x code maxLocals ret, Jvm.Cond.code ({ cls := "com/example/kakehashi/kakehashi/message/Iso2022FirstCharacterPinLaw", name := "esc", desc := "([BII)I" } : Jvm.MethodName) method_2_code (4 : Nat) (Option.some Jvm.ClassFile.FieldType.int), Jvm.Cond.code ({ cls := "com/example/kakehashi/kakehashi/message/Iso2022", name := "firstCharacter", desc := "([BII)I" } : Jvm.MethodName) prog_46_method_12_code (4 : Nat) (Option.some Jvm.ClassFile.FieldType.int)]
set_option maxRecDepth 65536 in
theorem codes_eq : words1.filter isCode = codes1 := rfl
theorem w_codes : ∀ c ∈ words1.filter isCode, c.before args0 about1 = true := by
  rw [codes_eq]
  intro c hc
  simp only [codes1, List.mem_cons, List.not_mem_nil, or_false] at hc
  rcases hc with rfl | rfl | rfl
  · exact w_c0
  · exact w_c1
  · exact w_c2
set_option maxRecDepth 65536 in
theorem w_t1 : words1.all (fun c => isCode c || c.before args0 about1) = true := by decide +kernel
theorem w_tables : (allAtoms (Jvm.Cond.code x code maxLocals ret :: tables_1)).before args0 about1 = true := by
  rw [allAtoms_all]
  show words1.all (fun c => c.before args0 about1) = true
  refine all_split ?_ w_codes
  rw [w_t1]
set_option maxRecDepth 65536 in
theorem w_case : (Jvm.Cond.and given_1 narrow_1).before args0 about1 = true := by decide +kernel
theorem w_applies : (headSpec (Jvm.Cond.code x code maxLocals ret :: tables_1) room_1).applies x e0.platform about1 = true :=
  (Spec.applies_iff w_frames).mpr ⟨w_running, w_runnable, w_alone, w_named, w_hears, w_ripe, w_room, w_tables⟩
theorem atStart : AtStart classFile x code maxLocals ret World_1 tables_1 room_1 Calls_1 rest_1 Pre_1 launch0 p0 e0 about1 theMethod args0 below0 :=
  ⟨lists_1, trivial, launch0.admits_env _ _ _, launch0.least_env, fairChoices_fair.cas, fairChoices_fair.clock, w_frames, w_args, w_heap, w_applies, trivial, trivial, w_case⟩
end start1
theorem witness_1 : WitnessClaimed_1 := ⟨start1.p0, start1.e0, start1.about1, start1.theMethod, start1.args0, start1.below0, start1.atStart⟩
end Jvm.Pilot.@@N@@
