import JvmDerived
import JvmDerived.Pilot.@@N@@Statement
import JvmDerived.Pilot.@@N@@Code
set_option linter.unusedVariables false
set_option linter.unusedSimpArgs false
namespace Jvm.Pilot.@@N@@
open Jvm Jvm.ClassFile Sem Op Lib Jvm.Free Jvm.Stand Jvm.LawKit Jvm.RoadKit Bundle Jvm.Pilot.@@N@@.Jvm.D
section Own
variable {p : Program} {l : Launch} {e : Env} {R : Room} {s : State} {m : MethodId} {args : Array Value} {below : List Frame} {meth : Method} {c : Code} {T : State} {locs : List Loc} {cells slots : Nat} {Z : State} {a0 : Array Value} {h h' : Heap} {rc rs : Nat} {Q Qc : Option Value → Heap → List Loc → Prop}
/-- from here the run comes to its end, and leaves what Q says -/
def GG (p : Program) (e : Env) (below : List Frame) (s : State) (rc rs : Nat) (Q : Option Value → Heap → List Loc → Prop) (T : State) (g : JFrame) : Prop :=
  ∃ s₂ o, Steps p.tables e below (T.setTop g) s₂ ∧ s₂.status = .running ∧ Ended s₂ below o ∧ ∃ v L, o = .returned v ∧ Q v s₂.heap L ∧ FrameEnd s o s₂ L rc rs
theorem own_go {T' : State} {g g' : JFrame} (st : ∀ t, Steps p.tables e below (T'.setTop g') t → Steps p.tables e below (T.setTop g) t) (k : GG p e below s rc rs Q T' g') : GG p e below s rc rs Q T g := by
  obtain ⟨s₂, o, h1, h2⟩ := k
  exact ⟨s₂, o, st _ h1, h2⟩
theorem own_in {g g' : JFrame} (q : g = g') (k : GG p e below s rc rs Q T g') : GG p e below s rc rs Q T g := q ▸ k
theorem own_if {g1 g2 : JFrame} {P : Prop} [Decidable P] (k1 : P → GG p e below s rc rs Q T g1) (k2 : ¬ P → GG p e below s rc rs Q T g2) : GG p e below s rc rs Q T (if P then g1 else g2) := by
  by_cases q : P
  · rw [if_pos q]; exact k1 q
  · rw [if_neg q]; exact k2 q
theorem own_join {g g' : JFrame} (k1 : GG p e below s rc rs Q T g' → GG p e below s rc rs Q T g) (k2 : GG p e below s rc rs Q T g') : GG p e below s rc rs Q T g := k1 k2
abbrev own_CT (l : Launch) (Z : State) (y : MethodName) (bytes : ByteArray) (maxL : Nat) (ret : Option FieldType) (ws : List Jvm.Cond) (rm : Room) (as : Array Value) (h : Heap) (Qc : Option Value → Heap → List Loc → Prop) : Prop :=
  MetFree l y (head1 (Jvm.Cond.code y bytes maxL ret :: ws) rm) (fun a U => a = as ∧ Z.Warmed39 U.vm ∧ U.heap = h) (fun _ _ _ _ _ => True) (fun _ U o U' => ∃ v L, o = .returned v ∧ Qc v U'.heap L ∧ FrameEnd U o U' L rm.cells rm.slots)
theorem own_callS (X : Stand p l e R s m args below meth c T locs cells slots) (hx : p.tables.exec = Jvm.exec) (hZ : Z.Warmed39 s.vm) {own : String} {index : Nat} {y : MethodName} {bytes : ByteArray} {maxL : Nat} {ret : Option FieldType} {rm : Room} (W : Nat)
    (hown : s.vm.findClass own = some m.cls) (w1 : (Jvm.Cond.methodLink own index y).before a0 Z = true) (w2 : (Jvm.Cond.static y).before a0 Z = true) (w3 : (Jvm.Cond.initialized y.cls).before a0 Z = true) (w4 : (Jvm.Cond.code y bytes maxL ret).before a0 Z = true)
    (hy : y.cls ≠ "java/lang/invoke/MethodHandle" ∧ y.cls ≠ "java/lang/invoke/VarHandle") {argsL rest : List Value} (hM : own_CT l Z y bytes maxL ret [] rm argsL.toArray h Qc)
    (hf : rm.frames + 1 ≤ R.frames) (hl : W + (maxL + 11) + rm.locals ≤ R.locals) (hc : cells + rm.cells ≤ R.cells) (hs : slots + rm.slots ≤ R.slots)
    {g : JFrame} (hg : g.method = m) (hsize : g.locals.size = c.maxLocals) (hlen : ∀ sig, parseMethodDescriptor y.desc = some sig → argsL.length = sig.parameters.length) (hstack : g.stack = argsL.reverse ++ rest) (hW : 2 * g.monitorRoom + (rest.map fun v => v.category).sum ≤ W)
    (hdg : decode c.code g.pc = .ok (.invokestatic index, 3)) (eT : T.heap = h)
    (k : ∀ (v : Option Value) (T' : State) (L : List Loc), Stand p l e R s m args below meth c T' (locs ++ L) (cells + rm.cells) (slots + rm.slots) → Qc v T'.heap L → GG p e below s rc rs Q T' { g with pc := g.pc + 3, stack := v.toList ++ rest }) : GG p e below s rc rs Q T g := by
  obtain ⟨v, vm₁, ⟨T', L', k', n'⟩, -, X', ⟨L, hQ, q1, q2, q3⟩, st⟩ := Jvm.LawKit.callS X hx hown (mvT hZ w1) (mvT hZ w2) (mvT hZ w3) (mvT hZ w4) hy (backOf (W := W) hM hZ w4 w3 hf hl) hg hsize hlen hstack hW hdg (fun _ _ => ⟨rfl, eT, hc, hs⟩)
  dsimp only [Pt.U, Pt.locs, Pt.cells, Pt.slots] at X' q1 q2 q3 st hQ
  subst q1 q2 q3
  exact own_go st (k v T' L X' hQ)
theorem own_callI (X : Stand p l e R s m args below meth c T locs cells slots) (hx : p.tables.exec = Jvm.exec) (hZ : Z.Warmed39 s.vm) {own : String} {index : Nat} {y : MethodName} {bytes : ByteArray} {maxL : Nat} {rm : Room} (W : Nat) (hy1 : y.name = "<init>")
    (hown : s.vm.findClass own = some m.cls) (w1 : (Jvm.Cond.methodLink own index y).before a0 Z = true) (w2 : (Jvm.Cond.instanceMethod y).before a0 Z = true) (w3 : (Jvm.Cond.initialized y.cls).before a0 Z = true) (w4 : (Jvm.Cond.code y bytes maxL none).before a0 Z = true)
    (hy : y.cls ≠ "java/lang/invoke/MethodHandle" ∧ y.cls ≠ "java/lang/invoke/VarHandle") {a : Addr} {argsL rest : List Value} (hM : own_CT l Z y bytes maxL none [] rm (.ref a :: argsL).toArray h Qc)
    (hf : rm.frames + 1 ≤ R.frames) (hl : W + (maxL + 11) + rm.locals ≤ R.locals) (hc : cells + rm.cells ≤ R.cells) (hs : slots + rm.slots ≤ R.slots)
    {g : JFrame} (hg : g.method = m) (hsize : g.locals.size = c.maxLocals) (hlen : ∀ sig, parseMethodDescriptor y.desc = some sig → argsL.length = sig.parameters.length) (hstack : g.stack = argsL.reverse ++ .ref a :: rest) (hW : 2 * g.monitorRoom + (rest.map fun v => v.category).sum ≤ W)
    (hdg : decode c.code g.pc = .ok (.invokespecial index, 3)) (eT : T.heap = h)
    (k : ∀ (v : Option Value) (T' : State) (L : List Loc), Stand p l e R s m args below meth c T' (locs ++ L) (cells + rm.cells) (slots + rm.slots) → Qc v T'.heap L → GG p e below s rc rs Q T' { g with pc := g.pc + 3, stack := v.toList ++ rest }) : GG p e below s rc rs Q T g := by
  obtain ⟨v, vm₁, ⟨T', L', k', n'⟩, -, X', ⟨L, hQ, q1, q2, q3⟩, st⟩ := X.specialBack hx hy1 hown (mvT hZ w1) (mvT hZ w2) (mvT hZ w4) hy (backOf (W := W) hM hZ w4 w3 hf hl) hg hsize (Steps.refl _) hlen hstack hW hdg (fun _ _ => ⟨rfl, eT, hc, hs⟩)
  dsimp only [Pt.U, Pt.locs, Pt.cells, Pt.slots] at X' q1 q2 q3 st hQ
  subst q1 q2 q3
  exact own_go (fun _ => st.trans) (k v T' L X' hQ)
theorem own_callV (X : Stand p l e R s m args below meth c T locs cells slots) (hx : p.tables.exec = Jvm.exec) (hZ : Z.Warmed39 s.vm) {own C : String} {index : Nat} {y z : MethodName} {bytes : ByteArray} {maxL : Nat} {ret : Option FieldType} {rm : Room} (W : Nat)
    (hown : s.vm.findClass own = some m.cls) (w1 : (Jvm.Cond.methodLink own index y).before a0 Z = true) (w2 : (Jvm.Cond.declares y).before a0 Z = true) (hnf : NotFace s y) (w5 : (Jvm.Cond.selects C y z).before a0 Z = true) (w6 : (Jvm.Cond.instanceMethod z).before a0 Z = true) (w3 : (Jvm.Cond.initialized z.cls).before a0 Z = true) (w4 : (Jvm.Cond.code z bytes maxL ret).before a0 Z = true)
    (hy : y.cls ≠ "java/lang/invoke/MethodHandle" ∧ y.cls ≠ "java/lang/invoke/VarHandle") {a : Addr} {argsL rest : List Value} (hM : own_CT l Z z bytes maxL ret [] rm (.ref a :: argsL).toArray h Qc)
    (hf : rm.frames + 1 ≤ R.frames) (hl : W + (maxL + 11) + rm.locals ≤ R.locals) (hc : cells + rm.cells ≤ R.cells) (hs : slots + rm.slots ≤ R.slots) (E : Exa Z h a C)
    {g : JFrame} (hg : g.method = m) (hsize : g.locals.size = c.maxLocals) (hlen : ∀ sig, parseMethodDescriptor y.desc = some sig → argsL.length = sig.parameters.length) (hstack : g.stack = argsL.reverse ++ .ref a :: rest) (hW : 2 * g.monitorRoom + (rest.map fun v => v.category).sum ≤ W)
    (hdg : decode c.code g.pc = .ok (.invokevirtual index, 3)) (eT : T.heap = h)
    (k : ∀ (v : Option Value) (T' : State) (L : List Loc), Stand p l e R s m args below meth c T' (locs ++ L) (cells + rm.cells) (slots + rm.slots) → Qc v T'.heap L → GG p e below s rc rs Q T' { g with pc := g.pc + 3, stack := v.toList ++ rest }) : GG p e below s rc rs Q T g := by
  obtain ⟨cq, kq, qa, qb, qc⟩ := isOf hZ eT E
  obtain ⟨v, vm₁, ⟨T', L', k', n'⟩, -, X', ⟨L, hQ, q1, q2, q3⟩, st⟩ := X.virtualBack hx hown (mvT hZ w1) (mvT hZ w2) hnf (mvT hZ w5) (mvT hZ w6) hy (backOf (W := W) hM hZ w4 w3 hf hl) qa qc hg hsize (Steps.refl _) hlen hstack hW hdg (fun _ _ => ⟨rfl, eT, hc, hs⟩)
  dsimp only [Pt.U, Pt.locs, Pt.cells, Pt.slots] at X' q1 q2 q3 st hQ
  subst q1 q2 q3
  exact own_go (fun _ => st.trans) (k v T' L X' hQ)
theorem own_callP (X : Stand p l e R s m args below meth c T locs cells slots) (hx : p.tables.exec = Jvm.exec) (hZ : Z.Warmed39 s.vm) {own C : String} {index : Nat} {y : MethodName} {bytes : ByteArray} {maxL : Nat} {ret : Option FieldType} {rm : Room} (W : Nat)
    (hown : s.vm.findClass own = some m.cls) (w1 : (Jvm.Cond.methodLink own index y).before a0 Z = true) (w2 : (Jvm.Cond.instanceMethod y).before a0 Z = true) {kk : Nat} (w5 : (Jvm.Cond.instantiable y.cls kk).before a0 Z = true) (w6 : (Jvm.Cond.privateMethod y).before a0 Z = true) (w3 : (Jvm.Cond.initialized y.cls).before a0 Z = true) (w4 : (Jvm.Cond.code y bytes maxL ret).before a0 Z = true)
    (hy : y.cls ≠ "java/lang/invoke/MethodHandle" ∧ y.cls ≠ "java/lang/invoke/VarHandle") {a : Addr} {argsL rest : List Value} (hM : own_CT l Z y bytes maxL ret [] rm (.ref a :: argsL).toArray h Qc)
    (hf : rm.frames + 1 ≤ R.frames) (hl : W + (maxL + 11) + rm.locals ≤ R.locals) (hc : cells + rm.cells ≤ R.cells) (hs : slots + rm.slots ≤ R.slots) (E : Exa Z h a C)
    {g : JFrame} (hg : g.method = m) (hsize : g.locals.size = c.maxLocals) (hlen : ∀ sig, parseMethodDescriptor y.desc = some sig → argsL.length = sig.parameters.length) (hstack : g.stack = argsL.reverse ++ .ref a :: rest) (hW : 2 * g.monitorRoom + (rest.map fun v => v.category).sum ≤ W)
    (hdg : decode c.code g.pc = .ok (.invokevirtual index, 3)) (eT : T.heap = h)
    (k : ∀ (v : Option Value) (T' : State) (L : List Loc), Stand p l e R s m args below meth c T' (locs ++ L) (cells + rm.cells) (slots + rm.slots) → Qc v T'.heap L → GG p e below s rc rs Q T' { g with pc := g.pc + 3, stack := v.toList ++ rest }) : GG p e below s rc rs Q T g := by
  obtain ⟨cq, q, q'⟩ := E.cell
  have hpr : s.PrivateAt y := Cond.privateMethod_at (mvP hZ w6 (args := #[]))
  obtain ⟨c1, k1, i1, i2, -, i4, -⟩ := Cond.instantiable_spec (show (Jvm.Cond.instantiable y.cls kk).before args s = true from mv hZ w5)
  have hsel : (Jvm.Cond.selects y.cls y y).before args s = true := selects_self_of_private i1 i2 (Bool.or_eq_false_iff.mp i4).1 hpr (mvT hZ w2) hy
  obtain ⟨v, vm₁, ⟨T', L', k', n'⟩, -, X', ⟨L, hQ, q1, q2, q3⟩, st⟩ := X.privateBack hx hown (mvT hZ w1) (mvT hZ w2) hsel hpr (mvT hZ w4) hy (backOf (W := W) hM hZ w4 w3 hf hl) hg hsize (Steps.refl _) (by rw [eT]; exact q) q' hlen hstack hW hdg (fun _ _ => ⟨rfl, eT, hc, hs⟩)
  dsimp only [Pt.U, Pt.locs, Pt.cells, Pt.slots] at X' q1 q2 q3 st hQ
  subst q1 q2 q3
  exact own_go (fun _ => st.trans) (k v T' L X' hQ)
theorem own_ret (X : Stand p l e R s m args below meth c T locs cells slots) (hx : p.tables.exec = Jvm.exec) (hlk : meth.locks = false) {t : FieldType} {w : Value} {i : Instr} {pc : Nat} {Ls : Array Slot} {rest : List Value} (hret : meth.sig.returnType = some t) (hn : narrow t w = w)
    (hi : (i = .ireturn ∧ (t = .int ∨ t = .boolean ∨ t = .byte ∨ t = .char ∨ t = .short) ∧ ∃ z, w = .int z) ∨ (i = .lreturn ∧ t = .long ∧ ∃ z, w = .long z) ∨ (i = .dreturn ∧ t = .double ∧ ∃ z, w = .double z) ∨ (i = .freturn ∧ t = .float ∧ ∃ z, w = .float z) ∨ (i = .areturn ∧ t.isReference = true ∧ w.isRef = true))
    (hd : decode c.code pc = .ok (i, 1)) (hc : cells ≤ rc) (hs : slots ≤ rs) (hQ : Q (some w) T.heap locs) : GG p e below s rc rs Q T (mkF m pc Ls (w :: rest)) := by
  obtain ⟨fs, hr, hrun, hended, hW, hsame⟩ := X.leave (v := some w) (fun h => by rw [hret] at h; cases h) hlk
  exact ⟨_, _, retOut X hx hret hn hi hd hr, hrun, hended, _, _, rfl, hQ, ⟨_, rfl⟩, hW, hsame.mono hc hs⟩
theorem own_retV (X : Stand p l e R s m args below meth c T locs cells slots) (hx : p.tables.exec = Jvm.exec) (hlk : meth.locks = false) {pc : Nat} {Ls : Array Slot} (hret : meth.sig.returnType = none)
    (hd : decode c.code pc = .ok (.return_, 1)) (hc : cells ≤ rc) (hs : slots ≤ rs) (hQ : Q none T.heap locs) : GG p e below s rc rs Q T (mkF m pc Ls []) := by
  obtain ⟨fs, hr, hrun, hended, hW, hsame⟩ := X.leave (v := none) (fun _ => rfl) hlk
  exact ⟨_, _, X.returnOut hx hret hd hr, hrun, hended, _, _, rfl, hQ, ⟨_, rfl⟩, hW, hsame.mono hc hs⟩
theorem own_nZ {P : Prop} [Decidable P] : narrow .boolean (.int (if P then 1 else 0)) = .int (if P then 1 else 0) := by split <;> rfl
/-- an array of values, all of them named -/
def Arx (Z : State) (h : Heap) (a : Addr) (ty : FieldType) (vs : List Value) : Prop := vs.length < 2 ^ 31 ∧ ∃ k dv, Arv Z h a k ty (Int32.ofNat vs.length) vs dv
variable {a b : Addr} {ty : FieldType} {vs : List Value}
theorem own_ofNat {n : Nat} (q : n < 2 ^ 31) : (Int32.ofNat n).toInt = n := Int32.toInt_ofNat_of_lt q
theorem own_clamp {n : Nat} (q : n < 2 ^ 31) : (Int32.ofNat n).toNatClampNeg = n := by simp only [Int32.toNatClampNeg, own_ofNat q]; rfl
theorem Arx.lt (V : Arx Z h a ty vs) : a < h.size := by obtain ⟨_, k, dv, V⟩ := V; exact V.lt
theorem Arx.ext (V : Arx Z h a ty vs) (E : Ext h h') : Arx Z h' a ty vs := by obtain ⟨q, k, dv, V⟩ := V; exact ⟨q, k, dv, V.ext E⟩
theorem Arx.other {sl : Nat} {v : Value} (V : Arx Z h b ty vs) (W : Wr h h' a sl v) (n : b ≠ a) : Arx Z h' b ty vs := by obtain ⟨q, k, dv, V⟩ := V; exact ⟨q, k, dv, V.other W n⟩
theorem Arx.keep {ws : List Addr} (V : Arx Z h a ty vs) (K : Keep h h' ws) (n : a ∉ ws) : Arx Z h' a ty vs := by obtain ⟨q, k, dv, V⟩ := V; exact ⟨q, k, dv, V.keep K n⟩
theorem Arx.open {j : Int32} {v : Value} (V : Arx Z h a ty vs) (h0 : ¬ j < 0) (hv : vs[j.toNatClampNeg]? = some v) : ∃ cl, Arr Z h a cl ty ∧ ¬ (j < 0 ∨ cl.slots.size ≤ j.toNatClampNeg) ∧ cl.slots[j.toNatClampNeg]? = some v := by
  obtain ⟨q, k, dv, cl, A, -, S, -, H, -⟩ := V
  rw [own_clamp q] at S
  have hl := (List.getElem?_eq_some_iff.mp hv).1
  have e := H j.toNatClampNeg (by rw [S]; exact hl)
  rw [List.getD_eq_getElem?_getD, hv] at e
  exact ⟨cl, A, fun q' => q'.elim h0 (by rw [S]; exact Nat.not_le.mpr hl), e⟩
theorem own_len (X : Stand p l e R s m args below meth c T locs cells slots) (hx : p.tables.exec = Jvm.exec) (hZ : Z.Warmed39 s.vm) (eT : T.heap = h) (V : Arx Z h a ty vs) {g : JFrame} (hg : g.method = m) {rest : List Value} (hs : g.stack = .ref a :: rest) (hd : decode c.code g.pc = .ok (.arraylength, 1)) :
    ∀ t, Steps p.tables e below (T.setTop { g with pc := g.pc + 1, stack := .int (Int32.ofNat vs.length) :: rest }) t → Steps p.tables e below (T.setTop g) t := fun t k => by
  obtain ⟨q, k', dv, cl, A, -, S, N, -⟩ := V
  refine X.arraylength hx (by rw [eT]; exact A.1) (State.isArrayOf_alike hZ.alike A.2.1) hg hs hd _ ?_
  rw [len_of S N]; exact k
theorem own_iaload (X : Stand p l e R s m args below meth c T locs cells slots) (hx : p.tables.exec = Jvm.exec) (hZ : Z.Warmed39 s.vm) (eT : T.heap = h) (V : Arx Z h a .int vs) {j : Int32} {v : Value} (h0 : ¬ j < 0) (hv : vs[j.toNatClampNeg]? = some v) {g : JFrame} (hg : g.method = m) {rest : List Value} (hs : g.stack = .int j :: .ref a :: rest) (hd : decode c.code g.pc = .ok (.iaload, 1)) :
    ∀ t, Steps p.tables e below (T.setTop { g with pc := g.pc + 1, stack := v :: rest }) t → Steps p.tables e below (T.setTop g) t := fun t k => by
  obtain ⟨cl, A, h1, h2⟩ := V.open h0 hv
  exact X.iaload hx (by rw [eT]; exact A.1) (State.isArrayOf_alike hZ.alike A.2.1) A.2.2 h1 h2 hg hs hd _ k
theorem own_laload (X : Stand p l e R s m args below meth c T locs cells slots) (hx : p.tables.exec = Jvm.exec) (hZ : Z.Warmed39 s.vm) (eT : T.heap = h) (V : Arx Z h a .long vs) {j : Int32} {v : Value} (h0 : ¬ j < 0) (hv : vs[j.toNatClampNeg]? = some v) {g : JFrame} (hg : g.method = m) {rest : List Value} (hs : g.stack = .int j :: .ref a :: rest) (hd : decode c.code g.pc = .ok (.laload, 1)) :
    ∀ t, Steps p.tables e below (T.setTop { g with pc := g.pc + 1, stack := v :: rest }) t → Steps p.tables e below (T.setTop g) t := fun t k => by
  obtain ⟨cl, A, h1, h2⟩ := V.open h0 hv
  exact X.laload hx (by rw [eT]; exact A.1) (State.isArrayOf_alike hZ.alike A.2.1) A.2.2 h1 h2 hg hs hd _ k
theorem own_caload (X : Stand p l e R s m args below meth c T locs cells slots) (hx : p.tables.exec = Jvm.exec) (hZ : Z.Warmed39 s.vm) (eT : T.heap = h) (V : Arx Z h a .char vs) {j : Int32} {v : Value} (h0 : ¬ j < 0) (hv : vs[j.toNatClampNeg]? = some v) {g : JFrame} (hg : g.method = m) {rest : List Value} (hs : g.stack = .int j :: .ref a :: rest) (hd : decode c.code g.pc = .ok (.caload, 1)) :
    ∀ t, Steps p.tables e below (T.setTop { g with pc := g.pc + 1, stack := v :: rest }) t → Steps p.tables e below (T.setTop g) t := fun t k => by
  obtain ⟨cl, A, h1, h2⟩ := V.open h0 hv
  exact X.caload hx (by rw [eT]; exact A.1) (State.isArrayOf_alike hZ.alike A.2.1) A.2.2 h1 h2 hg hs hd _ k
theorem own_baload (X : Stand p l e R s m args below meth c T locs cells slots) (hx : p.tables.exec = Jvm.exec) (hZ : Z.Warmed39 s.vm) (eT : T.heap = h) (V : Arx Z h a .byte vs) {j : Int32} {v : Value} (h0 : ¬ j < 0) (hv : vs[j.toNatClampNeg]? = some v) {g : JFrame} (hg : g.method = m) {rest : List Value} (hs : g.stack = .int j :: .ref a :: rest) (hd : decode c.code g.pc = .ok (.baload, 1)) :
    ∀ t, Steps p.tables e below (T.setTop { g with pc := g.pc + 1, stack := v :: rest }) t → Steps p.tables e below (T.setTop g) t := fun t k => by
  obtain ⟨cl, A, h1, h2⟩ := V.open h0 hv
  exact X.baloadBytes hx (by rw [eT]; exact A.1) (State.isArrayOf_alike hZ.alike A.2.1) A.2.2 h1 h2 hg hs hd _ k
theorem own_aaload (X : Stand p l e R s m args below meth c T locs cells slots) (hx : p.tables.exec = Jvm.exec) (hZ : Z.Warmed39 s.vm) (eT : T.heap = h) (V : Arx Z h a ty vs) (ht : ty.isReference = true) {j : Int32} {v : Value} (h0 : ¬ j < 0) (hv : vs[j.toNatClampNeg]? = some v) {g : JFrame} (hg : g.method = m) {rest : List Value} (hs : g.stack = .int j :: .ref a :: rest) (hd : decode c.code g.pc = .ok (.aaload, 1)) :
    ∀ t, Steps p.tables e below (T.setTop { g with pc := g.pc + 1, stack := v :: rest }) t → Steps p.tables e below (T.setTop g) t := fun t k => by
  obtain ⟨cl, A, h1, h2⟩ := V.open h0 hv
  exact X.aaload hx (by rw [eT]; exact A.1) (State.isArrayOf_alike hZ.alike A.2.1) ht A.2.2 h1 h2 hg hs hd _ k
theorem Arx.put {j : Int32} {v : Value} (V : Arx Z h a ty vs) (h0 : ¬ j < 0) (hj : j.toNatClampNeg < vs.length) (hv : fits ty v = true) : ∃ cl, Arr Z h a cl ty ∧ ¬ (j < 0 ∨ cl.slots.size ≤ j.toNatClampNeg) ∧ ∀ {h' : Heap}, Wr h h' a j.toNatClampNeg v → Arx Z h' a ty (vs.set j.toNatClampNeg v) := by
  obtain ⟨q, k, dv, cl, A, q1, S, N, H, G⟩ := V
  refine ⟨cl, A, fun q' => q'.elim h0 ?_, fun W => ⟨by rw [List.length_set]; exact q, k, dv, ?_⟩⟩
  · rw [S, own_clamp q]; exact Nat.not_le.mpr hj
  · rw [List.length_set]; exact Arv.set A q1 S N H G hv W _ rfl hj
theorem own_iastore (X : Stand p l e R s m args below meth c T locs cells slots) (hx : p.tables.exec = Jvm.exec) (hZ : Z.Warmed39 s.vm) (eT : T.heap = h) (V : Arx Z h a .int vs) {j x : Int32} (h0 : ¬ j < 0) (hj : j.toNatClampNeg < vs.length) {g : JFrame} (hg : g.method = m) {rest : List Value} (hs : g.stack = .int x :: .int j :: .ref a :: rest) (hd : decode c.code g.pc = .ok (.iastore, 1)) :
    ∃ T' h', Stand p l e R s m args below meth c T' (locs ++ [⟨a, j.toNatClampNeg⟩]) cells slots ∧ T'.heap = h' ∧ Wr h h' a j.toNatClampNeg (.int x) ∧ Arx Z h' a .int (vs.set j.toNatClampNeg (.int x)) ∧ ∀ t, Steps p.tables e below (T'.setTop { g with pc := g.pc + 1, stack := rest }) t → Steps p.tables e below (T.setTop g) t := by
  obtain ⟨cl, A, h1, h2⟩ := V.put (v := .int x) h0 hj rfl
  obtain ⟨T', h', X', e', W, st⟩ := stI X hx hZ eT A h1 hg hs hd
  exact ⟨T', h', X', e', W, h2 W, st⟩
theorem own_lastore (X : Stand p l e R s m args below meth c T locs cells slots) (hx : p.tables.exec = Jvm.exec) (hZ : Z.Warmed39 s.vm) (eT : T.heap = h) (V : Arx Z h a .long vs) {j : Int32} {x : Int64} (h0 : ¬ j < 0) (hj : j.toNatClampNeg < vs.length) {g : JFrame} (hg : g.method = m) {rest : List Value} (hs : g.stack = .long x :: .int j :: .ref a :: rest) (hd : decode c.code g.pc = .ok (.lastore, 1)) :
    ∃ T' h', Stand p l e R s m args below meth c T' (locs ++ [⟨a, j.toNatClampNeg⟩]) cells slots ∧ T'.heap = h' ∧ Wr h h' a j.toNatClampNeg (.long x) ∧ Arx Z h' a .long (vs.set j.toNatClampNeg (.long x)) ∧ ∀ t, Steps p.tables e below (T'.setTop { g with pc := g.pc + 1, stack := rest }) t → Steps p.tables e below (T.setTop g) t := by
  obtain ⟨cl, A, h1, h2⟩ := V.put (v := .long x) h0 hj rfl
  obtain ⟨T', h', X', e', W, st⟩ := stJ X hx hZ eT A h1 hg hs hd
  exact ⟨T', h', X', e', W, h2 W, st⟩
theorem own_castore (X : Stand p l e R s m args below meth c T locs cells slots) (hx : p.tables.exec = Jvm.exec) (hZ : Z.Warmed39 s.vm) (eT : T.heap = h) (V : Arx Z h a .char vs) {j x : Int32} (h0 : ¬ j < 0) (hj : j.toNatClampNeg < vs.length) {g : JFrame} (hg : g.method = m) {rest : List Value} (hs : g.stack = .int x :: .int j :: .ref a :: rest) (hd : decode c.code g.pc = .ok (.castore, 1)) :
    ∃ T' h', Stand p l e R s m args below meth c T' (locs ++ [⟨a, j.toNatClampNeg⟩]) cells slots ∧ T'.heap = h' ∧ Wr h h' a j.toNatClampNeg (.int (nar .char x)) ∧ Arx Z h' a .char (vs.set j.toNatClampNeg (.int (nar .char x))) ∧ ∀ t, Steps p.tables e below (T'.setTop { g with pc := g.pc + 1, stack := rest }) t → Steps p.tables e below (T.setTop g) t := by
  obtain ⟨cl, A, h1, h2⟩ := V.put (v := .int (nar .char x)) h0 hj (fits_nar_char _)
  obtain ⟨T', h', X', e', W, st⟩ := stC X hx hZ eT A h1 hg hs hd
  exact ⟨T', h', X', e', W, h2 W, st⟩
theorem own_bastore (X : Stand p l e R s m args below meth c T locs cells slots) (hx : p.tables.exec = Jvm.exec) (hZ : Z.Warmed39 s.vm) (eT : T.heap = h) (V : Arx Z h a .byte vs) {j x : Int32} (h0 : ¬ j < 0) (hj : j.toNatClampNeg < vs.length) {g : JFrame} (hg : g.method = m) {rest : List Value} (hs : g.stack = .int x :: .int j :: .ref a :: rest) (hd : decode c.code g.pc = .ok (.bastore, 1)) :
    ∃ T' h', Stand p l e R s m args below meth c T' (locs ++ [⟨a, j.toNatClampNeg⟩]) cells slots ∧ T'.heap = h' ∧ Wr h h' a j.toNatClampNeg (.int (nar .byte x)) ∧ Arx Z h' a .byte (vs.set j.toNatClampNeg (.int (nar .byte x))) ∧ ∀ t, Steps p.tables e below (T'.setTop { g with pc := g.pc + 1, stack := rest }) t → Steps p.tables e below (T.setTop g) t := by
  obtain ⟨cl, A, h1, h2⟩ := V.put (v := .int (nar .byte x)) h0 hj (fits_nar_byte _)
  obtain ⟨T', h', X', e', W, st⟩ := stB X hx hZ eT A h1 hg hs hd
  exact ⟨T', h', X', e', W, h2 W, st⟩
theorem own_newarr (X : Stand p l e R s m args below meth c T locs cells slots) (hx : p.tables.exec = Jvm.exec) (hZ : Z.Warmed39 s.vm) {aty : ArrayType} (w : (Jvm.Cond.arrayClass (newarray.typeOf aty)).before a0 Z = true) (eT : T.heap = h) {g : JFrame} (hg : g.method = m) (hd : decode c.code g.pc = .ok (.newarray aty, 2)) {n : Int32} {rest : List Value} (hs : g.stack = .int n :: rest)
    (hn : ¬ n < 0) {cap : Nat} (hcap : n.toNatClampNeg ≤ cap) (hb : cap * 8 ≤ 536870912) (hc : cells + 1 ≤ R.cells) (hl : slots + cap ≤ R.slots) {ad : String} (had : "[" ++ (newarray.typeOf aty).toString = ad) :
    ∃ T' h' a, a = h.size ∧ Stand p l e R s m args below meth c T' locs (cells + 1) (slots + cap) ∧ T'.heap = h' ∧ Ext h h' ∧ Arx Z h' a (newarray.typeOf aty) (List.replicate n.toNatClampNeg (defaultValue (newarray.typeOf aty))) ∧ Exa Z h' a ad ∧
      ∀ t, Steps p.tables e below (T'.setTop { g with pc := g.pc + 2, stack := .ref a :: rest }) t → Steps p.tables e below (T.setTop g) t := by
  obtain ⟨T', h', cA, X', e', E, A, Ex, st⟩ := newPE X hx hZ w eT hg hd hs hn hcap hb hc hl had
  have b := back32 hn
  refine ⟨T', h', _, rfl, X', e', E, ⟨by rw [List.length_replicate]; exact b.2, cA, defaultValue (newarray.typeOf aty), ?_⟩, Ex, st⟩
  rw [List.length_replicate, show Int32.ofNat n.toNatClampNeg = n from b.1]
  exact (Arv.new A hn).pad (pad_rep [] _ _)
theorem own_clone (X : Stand p l e R s m args below meth c T locs cells slots) (hx : p.tables.exec = Jvm.exec) (hZ : Z.Warmed39 s.vm) {own ad : String} {index : Nat} (hown : s.vm.findClass own = some m.cls)
    (w1 : (Jvm.Cond.methodLink own index ⟨ad, "clone", "()Ljava/lang/Object;"⟩).before a0 Z = true) (w2 : (Jvm.Cond.sameMethod ad "java/lang/Object" "clone" "()Ljava/lang/Object;").before a0 Z = true) (w3 : (Jvm.Cond.native ⟨"java/lang/Object", "clone", "()Ljava/lang/Object;"⟩).before a0 Z = true)
    (w4 : (Jvm.Cond.instanceMethod ⟨"java/lang/Object", "clone", "()Ljava/lang/Object;"⟩).before a0 Z = true) (w5 : (Jvm.Cond.selects ad ⟨ad, "clone", "()Ljava/lang/Object;"⟩ ⟨"java/lang/Object", "clone", "()Ljava/lang/Object;"⟩).before a0 Z = true) (w6 : (Jvm.Cond.castable ad "java/lang/Cloneable").before a0 Z = true)
    (eT : T.heap = h) (V : Arx Z h a ty vs) (E : Exa Z h a ad) {g : JFrame} (hg : g.method = m) (hsize : g.locals.size = c.maxLocals) {rest : List Value} (hst : g.stack = .ref a :: rest) (hd : decode c.code g.pc = .ok (.invokevirtual index, 3))
    (hf : 1 ≤ R.frames) {W cap : Nat} (hW : 2 * g.monitorRoom + (rest.map fun v => v.category).sum ≤ W) (hl : W + 14 ≤ R.locals) (hcap : vs.length ≤ cap) (hc : cells + 1 ≤ R.cells) (hsl : slots + cap ≤ R.slots) :
    ∃ T' h' b, b = h.size ∧ Stand p l e R s m args below meth c T' locs (cells + 1) (slots + cap) ∧ T'.heap = h' ∧ Ext h h' ∧ Arx Z h' b ty vs ∧ Exa Z h' b ad ∧
      ∀ t, Steps p.tables e below (T'.setTop { g with pc := g.pc + 3, stack := .ref b :: rest }) t → Steps p.tables e below (T.setTop g) t := by
  obtain ⟨q, k, dv, V⟩ := V
  obtain ⟨T', h', X', e', ex, V', E', st⟩ := cloneH X hx hZ hown w1 w2 w3 w4 w5 w6 eT V.arh E hg hsize hst hd hf hW hl (by rw [own_clamp q]; exact hcap) hc hsl
  exact ⟨T', h', _, rfl, X', e', ex, ⟨q, k, dv, V'⟩, E', st⟩
end Own
section OwnF
variable {p : Program} {l : Launch} {e : Env} {R : Room} {s : State} {m : MethodId} {args : Array Value} {below : List Frame} {meth : Method} {c : Code} {T : State} {locs : List Loc} {cells slots : Nat} {Z : State} {a0 : Array Value} {h h' : Heap} {a b : Addr} {ty : FieldType} {vs : List Value}
theorem own_daload (X : Stand p l e R s m args below meth c T locs cells slots) (hx : p.tables.exec = Jvm.exec) (hZ : Z.Warmed39 s.vm) (eT : T.heap = h) (V : Arx Z h a .double vs) {j : Int32} {v : Value} (h0 : ¬ j < 0) (hv : vs[j.toNatClampNeg]? = some v) {g : JFrame} (hg : g.method = m) {rest : List Value} (hs : g.stack = .int j :: .ref a :: rest) (hd : decode c.code g.pc = .ok (.daload, 1)) :
    ∀ t, Steps p.tables e below (T.setTop { g with pc := g.pc + 1, stack := v :: rest }) t → Steps p.tables e below (T.setTop g) t := fun t k => by
  obtain ⟨cl, A, h1, h2⟩ := V.open h0 hv
  exact X.daload hx (by rw [eT]; exact A.1) (State.isArrayOf_alike hZ.alike A.2.1) A.2.2 h1 h2 hg hs hd _ k
theorem own_faload (X : Stand p l e R s m args below meth c T locs cells slots) (hx : p.tables.exec = Jvm.exec) (hZ : Z.Warmed39 s.vm) (eT : T.heap = h) (V : Arx Z h a .float vs) {j : Int32} {v : Value} (h0 : ¬ j < 0) (hv : vs[j.toNatClampNeg]? = some v) {g : JFrame} (hg : g.method = m) {rest : List Value} (hs : g.stack = .int j :: .ref a :: rest) (hd : decode c.code g.pc = .ok (.faload, 1)) :
    ∀ t, Steps p.tables e below (T.setTop { g with pc := g.pc + 1, stack := v :: rest }) t → Steps p.tables e below (T.setTop g) t := fun t k => by
  obtain ⟨cl, A, h1, h2⟩ := V.open h0 hv
  exact X.faload hx (by rw [eT]; exact A.1) (State.isArrayOf_alike hZ.alike A.2.1) A.2.2 h1 h2 hg hs hd _ k
theorem own_dastore (X : Stand p l e R s m args below meth c T locs cells slots) (hx : p.tables.exec = Jvm.exec) (hZ : Z.Warmed39 s.vm) (eT : T.heap = h) (V : Arx Z h a .double vs) {j : Int32} {x : UInt64} (h0 : ¬ j < 0) (hj : j.toNatClampNeg < vs.length) {g : JFrame} (hg : g.method = m) {rest : List Value} (hs : g.stack = .double x :: .int j :: .ref a :: rest) (hd : decode c.code g.pc = .ok (.dastore, 1)) :
    ∃ T' h', Stand p l e R s m args below meth c T' (locs ++ [⟨a, j.toNatClampNeg⟩]) cells slots ∧ T'.heap = h' ∧ Wr h h' a j.toNatClampNeg (.double x) ∧ Arx Z h' a .double (vs.set j.toNatClampNeg (.double x)) ∧ ∀ t, Steps p.tables e below (T'.setTop { g with pc := g.pc + 1, stack := rest }) t → Steps p.tables e below (T.setTop g) t := by
  obtain ⟨cl, A, h1, h2⟩ := V.put (v := .double x) h0 hj rfl
  obtain ⟨T', h', X', e', W, st⟩ := stD X hx hZ eT A h1 hg hs hd
  exact ⟨T', h', X', e', W, h2 W, st⟩
theorem own_fastore (X : Stand p l e R s m args below meth c T locs cells slots) (hx : p.tables.exec = Jvm.exec) (hZ : Z.Warmed39 s.vm) (eT : T.heap = h) (V : Arx Z h a .float vs) {j : Int32} {x : UInt32} (h0 : ¬ j < 0) (hj : j.toNatClampNeg < vs.length) {g : JFrame} (hg : g.method = m) {rest : List Value} (hs : g.stack = .float x :: .int j :: .ref a :: rest) (hd : decode c.code g.pc = .ok (.fastore, 1)) :
    ∃ T' h', Stand p l e R s m args below meth c T' (locs ++ [⟨a, j.toNatClampNeg⟩]) cells slots ∧ T'.heap = h' ∧ Wr h h' a j.toNatClampNeg (.float x) ∧ Arx Z h' a .float (vs.set j.toNatClampNeg (.float x)) ∧ ∀ t, Steps p.tables e below (T'.setTop { g with pc := g.pc + 1, stack := rest }) t → Steps p.tables e below (T.setTop g) t := by
  obtain ⟨cl, A, h1, h2⟩ := V.put (v := .float x) h0 hj rfl
  obtain ⟨T', h', X', e', W, st⟩ := stF X hx hZ eT A h1 hg hs hd
  exact ⟨T', h', X', e', W, h2 W, st⟩
theorem own_i2dn (x : Int32) : Jvm.Free.Fl.NoNaN64 (FP.i2d x) := nn_w (i2d_w x)
theorem own_i2fn (x : Int32) : Jvm.Free.Fl.NoNaN32 (FP.i2f x) := nn_w32 (i2f_w x)
end OwnF
def vk (p : Int32) (q : Int64) : Int64 := ((((31 : Int64) * (p.toInt64)) + q) - ((((31 : Int64) * (p.toInt64)) + q) / (1009 : Int64)) * (1009 : Int64))
set_option maxRecDepth 65536 in
theorem own_fin : ∀ k : Fin 1009, FP.dmul (FP.dmul (FP.l2d (Int64.ofNat k.val)) (4598175219545276416 : UInt64)) (4616189618054758400 : UInt64) = FP.l2d (Int64.ofNat k.val) ∧ (FP.dmul (FP.l2d (Int64.ofNat k.val)) (4598175219545276416 : UInt64)) &&& 9223372036854775807 ≤ 9218868437227405312 := by decide +kernel
theorem own_1009 : (4652086473678389248 : UInt64) = FP.l2d 1009 := by decide +kernel
theorem own_0 : FP.dconst0 = FP.l2d 0 := by decide +kernel
theorem own_k {k : Int64} (h0 : 0 ≤ k.toInt) (h1 : k.toInt < 1009) : FP.dmul (FP.dmul (FP.l2d k) (4598175219545276416 : UInt64)) (4616189618054758400 : UInt64) = FP.l2d k ∧ Jvm.Free.Fl.NoNaN64 (FP.dmul (FP.l2d k) (4598175219545276416 : UInt64)) := by
  have e : k = Int64.ofNat k.toInt.toNat := by
    rw [← Int64.toInt_inj, Int64.toInt_ofNat_of_lt (by omega)]; omega
  have h := own_fin ⟨k.toInt.toNat, by omega⟩
  rw [← e] at h
  exact h
theorem own_b {k : Int64} (h0 : 0 ≤ k.toInt) (h1 : k.toInt ≤ 1009) : B53 k := ⟨by omega, by omega⟩
theorem own_vk (p : Int32) (q : Int64) (hp : 0 ≤ p.toInt ∧ p.toInt < 10000) (hq : 0 ≤ q.toInt ∧ q.toInt < 4611686018427387904) : 0 ≤ (vk p q).toInt ∧ (vk p q).toInt < 1009 ∧ (vk p q).toInt = (31 * p.toInt + q.toInt) % 1009 := by
  have h1 := c_i2l p
  have h2 := c_lmul 31 p.toInt64
  have h3 := c_ladd ((31 : Int64) * p.toInt64) q
  have r2 := rng64 ((31 : Int64) * p.toInt64)
  have r3 := rng64 ((31 : Int64) * p.toInt64 + q)
  rw [show (31 : Int64).toInt = 31 from by decide, h1] at h2
  have e2 : ((31 : Int64) * p.toInt64).toInt = 31 * p.toInt := by omega
  rw [e2] at h3
  have e3 : ((31 : Int64) * p.toInt64 + q).toInt = 31 * p.toInt + q.toInt := by omega
  have h4 := (c_lrem ((31 : Int64) * p.toInt64 + q) 1009 1009 (by decide)).1 (by omega)
  rw [e3] at h4
  unfold vk
  omega
theorem d1_0 : decode prog_2_method_2_code 0 = .ok (.ldc2_w 132, 3) := by decide +kernel
theorem d1_3 : decode prog_2_method_2_code 3 = .ok (.iload_n 0, 1) := by decide +kernel
theorem d1_4 : decode prog_2_method_2_code 4 = .ok (.i2l, 1) := by decide +kernel
theorem d1_5 : decode prog_2_method_2_code 5 = .ok (.lmul, 1) := by decide +kernel
theorem d1_6 : decode prog_2_method_2_code 6 = .ok (.lload_n 1, 1) := by decide +kernel
theorem d1_7 : decode prog_2_method_2_code 7 = .ok (.ladd, 1) := by decide +kernel
theorem d1_8 : decode prog_2_method_2_code 8 = .ok (.ldc2_w 134, 3) := by decide +kernel
theorem d1_11 : decode prog_2_method_2_code 11 = .ok (.lrem, 1) := by decide +kernel
theorem d1_12 : decode prog_2_method_2_code 12 = .ok (.l2d, 1) := by decide +kernel
theorem d1_13 : decode prog_2_method_2_code 13 = .ok (.ldc2_w 136, 3) := by decide +kernel
theorem d1_16 : decode prog_2_method_2_code 16 = .ok (.dmul, 1) := by decide +kernel
theorem d1_17 : decode prog_2_method_2_code 17 = .ok (.dreturn, 1) := by decide +kernel
theorem pn_com_example_observable_archive_observablearchive_cli_IngestLoad : plainName "com/example/observable_archive/observablearchive/cli/IngestLoad" = true := by first | (simp [plainName, overriddenIn]; done) | decide +kernel
theorem ef_1 (m : MethodId) (x0 : Int32) (x1 : Int64) : entryFrame m #[(.int x0), (.long x1)] 3 = mkF m 0 #[.val (.int x0), .val (.long x1), .second] [] := by first | (simp [entryFrame, mkF, argsToLocals, Value.category]; done) | rfl
def Q1 (Z : State) (p0 : Int32) (q1 : Int64) (kk : Int64) (h0 : Heap) (n0 : Nat) (v : Option Value) (h : Heap) (L : List Loc) : Prop := v = some (.double (FP.dmul (FP.l2d kk) (4598175219545276416 : UInt64))) ∧ Fr n0 L ∧ h = h0
set_option maxRecDepth 65536 in
set_option maxHeartbeats 40000000 in
theorem rm1 (l : Launch) (Z : State) (a0 : Array Value) (hw : ∀ d ∈ tables_1, d.before a0 Z = true) (ws : List Jvm.Cond) (p0 : Int32) (q1 : Int64) (kk : Int64) (h0 : Heap) (n0 : Nat) (Z0 : n0 ≤ h0.size) (hk : vk p0 q1 = kk) (hnn : Jvm.Free.Fl.NoNaN64 (FP.dmul (FP.l2d kk) (4598175219545276416 : UInt64))) :
    own_CT l Z (⟨"com/example/observable_archive/observablearchive/cli/IngestLoad", "value", "(IJ)D"⟩ : MethodName) prog_2_method_2_code 3 (some .double) ws ({ frames := 0, cells := 0, slots := 0, locals := 0 } : Room) #[(.int p0), (.long q1)] h0 (Q1 Z p0 q1 kk h0 n0) := by
  refine MetFree.of_bodySF (plainFor_of_name pn_com_example_observable_archive_observablearchive_cli_IngestLoad) hisR ?_
  intro p e s m args below meth c s₁ Bd hml0 hP hK
  obtain ⟨rfl, hZ, hh⟩ := hP
  have hx := Bd.exec
  have hby := Bd.bytes
  have hml : c.maxLocals = 3 := hml0
  have hown : s.vm.findClass "com/example/observable_archive/observablearchive/cli/IngestLoad" = some m.cls := findClass_of_methodNamed Bd.named
  have hnm := (name_of_methodNamed Bd.named Bd.method).1
  have hlk : meth.locks = false := BodyLoose.notSynchronized Bd
  have X0 : Stand p l e ({ frames := 0, cells := 0, slots := 0, locals := 0 } : Room) s m #[(.int p0), (.long q1)] below meth c s₁ [] 0 0 := Stand.of_body Bd
  have e0 : s₁.heap = h0 := by rw [← hh, Bd.state]; rfl
  have N0 := Fr.nil n0
  show GG p e below s ({ frames := 0, cells := 0, slots := 0, locals := 0 } : Room).cells ({ frames := 0, cells := 0, slots := 0, locals := 0 } : Room).slots (Q1 Z p0 q1 kk h0 n0) s₁ (entryFrame m #[(.int p0), (.long q1)] 3)
  refine own_in (ef_1 m p0 q1) ?_
  show GG _ _ _ _ _ _ _ s₁ (mkF m 0 #[.val (.int p0), .val (.long q1), .second] [])
  refine own_go (fun _ => X0.ldc2Long hx hown (mvT hZ (hw _ (List.mem_of_getElem? (i := 6) rfl))) (g := (mkF m 0 #[.val (.int p0), .val (.long q1), .second] [])) rfl (hb hby d1_0) _) ?_
  show GG _ _ _ _ _ _ _ s₁ (mkF m 3 #[.val (.int p0), .val (.long q1), .second] [(.long (31 : Int64))])
  refine own_go (fun _ => XS.iloadN X0.here hx rfl (hb hby d1_3) rfl) ?_
  show GG _ _ _ _ _ _ _ s₁ (mkF m 4 #[.val (.int p0), .val (.long q1), .second] [(.int p0), (.long (31 : Int64))])
  refine own_go (fun _ => XS.i2l X0.here hx rfl (hb hby d1_4) rfl) ?_
  show GG _ _ _ _ _ _ _ s₁ (mkF m 5 #[.val (.int p0), .val (.long q1), .second] [(.long (p0.toInt64)), (.long (31 : Int64))])
  refine own_go (fun _ => XS.lmul X0.here hx rfl (hb hby d1_5) rfl) ?_
  show GG _ _ _ _ _ _ _ s₁ (mkF m 6 #[.val (.int p0), .val (.long q1), .second] [(.long ((31 : Int64) * (p0.toInt64)))])
  refine own_go (fun _ => XS.lloadN X0.here hx rfl (hb hby d1_6) rfl) ?_
  show GG _ _ _ _ _ _ _ s₁ (mkF m 7 #[.val (.int p0), .val (.long q1), .second] [(.long q1), (.long ((31 : Int64) * (p0.toInt64)))])
  refine own_go (fun _ => XS.ladd X0.here hx rfl (hb hby d1_7) rfl) ?_
  show GG _ _ _ _ _ _ _ s₁ (mkF m 8 #[.val (.int p0), .val (.long q1), .second] [(.long (((31 : Int64) * (p0.toInt64)) + q1))])
  refine own_go (fun _ => X0.ldc2Long hx hown (mvT hZ (hw _ (List.mem_of_getElem? (i := 7) rfl))) (g := (mkF m 8 #[.val (.int p0), .val (.long q1), .second] [(.long (((31 : Int64) * (p0.toInt64)) + q1))])) rfl (hb hby d1_8) _) ?_
  show GG _ _ _ _ _ _ _ s₁ (mkF m 11 #[.val (.int p0), .val (.long q1), .second] [(.long (1009 : Int64)), (.long (((31 : Int64) * (p0.toInt64)) + q1))])
  refine own_go (fun _ => XS.lrem X0.here hx rfl (hb hby d1_11) rfl (by decide)) ?_
  show GG _ _ _ _ _ _ _ s₁ (mkF m 12 #[.val (.int p0), .val (.long q1), .second] [(.long ((((31 : Int64) * (p0.toInt64)) + q1) - ((((31 : Int64) * (p0.toInt64)) + q1) / (1009 : Int64)) * (1009 : Int64)))])
  rw [show ((((31 : Int64) * (p0.toInt64)) + q1) - ((((31 : Int64) * (p0.toInt64)) + q1) / (1009 : Int64)) * (1009 : Int64)) = vk p0 q1 from rfl, hk]
  refine own_go (fun _ => XS.l2dS X0.here hx rfl (hb hby d1_12) rfl rfl) ?_
  show GG _ _ _ _ _ _ _ s₁ (mkF m 13 #[.val (.int p0), .val (.long q1), .second] [(.double (FP.l2d kk))])
  refine own_go (fun _ => X0.ldc2DoubleC hx hown (mvT hZ (hw _ (List.mem_of_getElem? (i := 8) rfl))) (g := (mkF m 13 #[.val (.int p0), .val (.long q1), .second] [(.double (FP.l2d kk))])) rfl (hb hby d1_13) _) ?_
  show GG _ _ _ _ _ _ _ s₁ (mkF m 16 #[.val (.int p0), .val (.long q1), .second] [(.double (4598175219545276416 : UInt64)), (.double (FP.l2d kk))])
  refine own_go (fun _ => XS.dmulS X0.here hx rfl (hb hby d1_16) rfl hnn rfl) ?_
  show GG _ _ _ _ _ _ _ s₁ (mkF m 17 #[.val (.int p0), .val (.long q1), .second] [(.double (FP.dmul (FP.l2d kk) (4598175219545276416 : UInt64)))])
  refine own_ret X0 hx hlk (t := .double) (w := (.double (FP.dmul (FP.l2d kk) (4598175219545276416 : UInt64)))) Bd.returns rfl (Or.inr (Or.inr (Or.inl ⟨rfl, rfl, _, rfl⟩))) (hb hby d1_17) (by decide) (by decide) ?_
  show Q1 Z p0 q1 kk h0 n0 (some (.double (FP.dmul (FP.l2d kk) (4598175219545276416 : UInt64)))) s₁.heap _
  rw [e0]
  exact ⟨rfl, N0, rfl⟩
theorem pd__IJ_D_296 : parseMethodDescriptor "(IJ)D" = some ⟨[.int, .long], some .double⟩ := by decide +kernel
theorem pn_com_example_observable_archive_observablearchive_cli_IngestLoadValuePinLaw : plainName "com/example/observable_archive/observablearchive/cli/IngestLoadValuePinLaw" = true := by first | (simp [plainName, overriddenIn]; done) | decide +kernel
theorem ef_0 (m : MethodId) (x0 : Int32) (x1 : Int64) : entryFrame m #[(.int x0), (.long x1)] maxLocals = mkF m 0 #[.val (.int x0), .val (.long x1), .second, .unset, .unset, .unset, .unset, .unset, .unset, .unset, .unset, .unset, .unset, .unset, .unset, .unset] [] := by first | (simp [entryFrame, mkF, argsToLocals, Value.category, maxLocals]; done) | rfl
def Q0 (Z : State) (p0 : Int32) (q1 : Int64) (h0 : Heap) (n0 : Nat) (v : Option Value) (h : Heap) (L : List Loc) : Prop := v = some (.int 1) ∧ Fr n0 L
set_option maxRecDepth 65536 in
set_option maxHeartbeats 40000000 in
theorem rm0 (l : Launch) (Z : State) (a0 : Array Value) (hw : ∀ d ∈ tables_1, d.before a0 Z = true) (ws : List Jvm.Cond) (p0 : Int32) (q1 : Int64) (h0 : Heap) (n0 : Nat) (Z0 : n0 ≤ h0.size)  :
    own_CT l Z x code maxLocals ret ws room_1 #[(.int p0), (.long q1)] h0 (Q0 Z p0 q1 h0 n0) := by
  refine MetFree.of_bodySF (plainFor_of_name pn_com_example_observable_archive_observablearchive_cli_IngestLoadValuePinLaw) hisR ?_
  intro p e s m args below meth c s₁ Bd hml0 hP hK
  obtain ⟨rfl, hZ, hh⟩ := hP
  have hx := Bd.exec
  have hby := Bd.bytes
  have hml : c.maxLocals = 16 := hml0
  have hown : s.vm.findClass "com/example/observable_archive/observablearchive/cli/IngestLoadValuePinLaw" = some m.cls := findClass_of_methodNamed Bd.named
  have hnm := (name_of_methodNamed Bd.named Bd.method).1
  have hlk : meth.locks = false := BodyLoose.notSynchronized Bd
  have X0 : Stand p l e room_1 s m #[(.int p0), (.long q1)] below meth c s₁ [] 0 0 := Stand.of_body Bd
  have e0 : s₁.heap = h0 := by rw [← hh, Bd.state]; rfl
  have N0 := Fr.nil n0
  show GG p e below s room_1.cells room_1.slots (Q0 Z p0 q1 h0 n0) s₁ (entryFrame m #[(.int p0), (.long q1)] maxLocals)
  refine own_in (ef_0 m p0 q1) ?_
  show GG _ _ _ _ _ _ _ s₁ (mkF m 0 #[.val (.int p0), .val (.long q1), .second, .unset, .unset, .unset, .unset, .unset, .unset, .unset, .unset, .unset, .unset, .unset, .unset, .unset] [])
  refine own_go (fun _ => XS.iloadN X0.here hx rfl (hb hby at_0) rfl) ?_
  show GG _ _ _ _ _ _ _ s₁ (mkF m 1 #[.val (.int p0), .val (.long q1), .second, .unset, .unset, .unset, .unset, .unset, .unset, .unset, .unset, .unset, .unset, .unset, .unset, .unset] [(.int p0)])
  refine own_go (fun _ => X0.ldcInt hx hown (mvT hZ (hw _ (List.mem_of_getElem? (i := 0) rfl))) (g := (mkF m 1 #[.val (.int p0), .val (.long q1), .second, .unset, .unset, .unset, .unset, .unset, .unset, .unset, .unset, .unset, .unset, .unset, .unset, .unset] [(.int p0)])) rfl (hb hby at_1) _) ?_
  show GG _ _ _ _ _ _ _ s₁ (mkF m 3 #[.val (.int p0), .val (.long q1), .second, .unset, .unset, .unset, .unset, .unset, .unset, .unset, .unset, .unset, .unset, .unset, .unset, .unset] [(.int (2147483647 : Int32)), (.int p0)])
  refine own_go (fun _ => XS.iand X0.here hx rfl (hb hby at_3) rfl) ?_
  show GG _ _ _ _ _ _ _ s₁ (mkF m 4 #[.val (.int p0), .val (.long q1), .second, .unset, .unset, .unset, .unset, .unset, .unset, .unset, .unset, .unset, .unset, .unset, .unset, .unset] [(.int (p0 &&& (2147483647 : Int32)))])
  have cx1 := c_mask p0 (2147483647 : Int32) 31 (by decide) (by decide)
  generalize hx1 : (p0 &&& (2147483647 : Int32)) = x1 at cx1 ⊢
  have rx1 := rng32 x1
  refine own_go (fun _ => XS.sipush X0.here hx rfl (hb hby at_4)) ?_
  show GG _ _ _ _ _ _ _ s₁ (mkF m 7 #[.val (.int p0), .val (.long q1), .second, .unset, .unset, .unset, .unset, .unset, .unset, .unset, .unset, .unset, .unset, .unset, .unset, .unset] [(.int (10000 : Int32)), (.int x1)])
  refine own_go (fun _ => iremM X0 hx rfl (hb hby at_7) rfl (by decide)) ?_
  show GG _ _ _ _ _ _ _ s₁ (mkF m 8 #[.val (.int p0), .val (.long q1), .second, .unset, .unset, .unset, .unset, .unset, .unset, .unset, .unset, .unset, .unset, .unset, .unset, .unset] [(.int (x1 % (10000 : Int32)))])
  have cx2 := c_irem x1 (10000 : Int32) 10000 (by decide)
  generalize hx2 : (x1 % (10000 : Int32)) = x2 at cx2 ⊢
  have rx2 := rng32 x2
  refine own_go (fun _ => XS.istoreN X0.here hx rfl (hb hby at_8) rfl (l' := #[.val (.int p0), .val (.long q1), .second, .val (.int x2), .unset, .unset, .unset, .unset, .unset, .unset, .unset, .unset, .unset, .unset, .unset, .unset]) rfl) ?_
  show GG _ _ _ _ _ _ _ s₁ (mkF m 9 #[.val (.int p0), .val (.long q1), .second, .val (.int x2), .unset, .unset, .unset, .unset, .unset, .unset, .unset, .unset, .unset, .unset, .unset, .unset] [])
  refine own_go (fun _ => XS.lloadN X0.here hx rfl (hb hby at_9) rfl) ?_
  show GG _ _ _ _ _ _ _ s₁ (mkF m 10 #[.val (.int p0), .val (.long q1), .second, .val (.int x2), .unset, .unset, .unset, .unset, .unset, .unset, .unset, .unset, .unset, .unset, .unset, .unset] [(.long q1)])
  refine own_go (fun _ => X0.ldc2Long hx hown (mvT hZ (hw _ (List.mem_of_getElem? (i := 1) rfl))) (g := (mkF m 10 #[.val (.int p0), .val (.long q1), .second, .val (.int x2), .unset, .unset, .unset, .unset, .unset, .unset, .unset, .unset, .unset, .unset, .unset, .unset] [(.long q1)])) rfl (hb hby at_10) _) ?_
  show GG _ _ _ _ _ _ _ s₁ (mkF m 13 #[.val (.int p0), .val (.long q1), .second, .val (.int x2), .unset, .unset, .unset, .unset, .unset, .unset, .unset, .unset, .unset, .unset, .unset, .unset] [(.long (4611686018427387903 : Int64)), (.long q1)])
  refine own_go (fun _ => XS.land X0.here hx rfl (hb hby at_13) rfl) ?_
  show GG _ _ _ _ _ _ _ s₁ (mkF m 14 #[.val (.int p0), .val (.long q1), .second, .val (.int x2), .unset, .unset, .unset, .unset, .unset, .unset, .unset, .unset, .unset, .unset, .unset, .unset] [(.long (q1 &&& (4611686018427387903 : Int64)))])
  have cx3 := c_maskL q1 (4611686018427387903 : Int64) 62 (by decide) (by decide)
  generalize hx3 : (q1 &&& (4611686018427387903 : Int64)) = x3 at cx3 ⊢
  have rx3 := rng64 x3
  refine own_go (fun _ => XS.lstore X0.here hx rfl (hb hby at_14) rfl (l' := #[.val (.int p0), .val (.long q1), .second, .val (.int x2), .val (.long x3), .second, .unset, .unset, .unset, .unset, .unset, .unset, .unset, .unset, .unset, .unset]) rfl) ?_
  show GG _ _ _ _ _ _ _ s₁ (mkF m 16 #[.val (.int p0), .val (.long q1), .second, .val (.int x2), .val (.long x3), .second, .unset, .unset, .unset, .unset, .unset, .unset, .unset, .unset, .unset, .unset] [])
  have hpv : 0 ≤ x2.toInt ∧ x2.toInt < 10000 := by omega
  have hsm : 0 ≤ x3.toInt ∧ x3.toInt < 4611686018427387904 := by omega
  obtain ⟨kk, hkk⟩ : ∃ z, z = vk x2 x3 := ⟨_, rfl⟩
  have hkv := own_vk x2 x3 hpv hsm
  rw [← hkk] at hkv
  have hq := own_k hkv.1 hkv.2.1
  have hB := own_b hkv.1 (Int.le_of_lt hkv.2.1)
  refine own_go (fun _ => XS.iloadN X0.here hx rfl (hb hby at_16) rfl) ?_
  show GG _ _ _ _ _ _ _ s₁ (mkF m 17 #[.val (.int p0), .val (.long q1), .second, .val (.int x2), .val (.long x3), .second, .unset, .unset, .unset, .unset, .unset, .unset, .unset, .unset, .unset, .unset] [(.int x2)])
  refine own_go (fun _ => XS.lload X0.here hx rfl (hb hby at_17) rfl) ?_
  show GG _ _ _ _ _ _ _ s₁ (mkF m 19 #[.val (.int p0), .val (.long q1), .second, .val (.int x2), .val (.long x3), .second, .unset, .unset, .unset, .unset, .unset, .unset, .unset, .unset, .unset, .unset] [(.long x3), (.int x2)])
  refine own_callS X0 hx hZ (y := (⟨"com/example/observable_archive/observablearchive/cli/IngestLoad", "value", "(IJ)D"⟩ : MethodName)) 0 hown (hw _ (List.mem_of_getElem? (i := 2) rfl)) (hw _ (List.mem_of_getElem? (i := 3) rfl)) (hw _ (List.mem_of_getElem? (i := 4) rfl)) (hw _ (List.mem_of_getElem? (i := 5) rfl)) (by decide) (argsL := [(.int x2), (.long x3)]) (rest := []) (rm1 l Z a0 hw [] x2 x3 kk h0 n0 Z0 hkk.symm hq.2) (by decide) (by decide) (by decide) (by decide) (g := (mkF m 19 #[.val (.int p0), .val (.long q1), .second, .val (.int x2), .val (.long x3), .second, .unset, .unset, .unset, .unset, .unset, .unset, .unset, .unset, .unset, .unset] [(.long x3), (.int x2)])) rfl (by rw [hml]; rfl) (lenOf pd__IJ_D_296 rfl) rfl (by show 2 * 0 + _ ≤ _; exact Nat.le_of_eq rfl) (hb hby at_19) e0 ?_
  rintro v4 T4 L4 X4 ⟨rfl, N4q, hh4⟩
  have N4 := Fr.app N0 N4q
  show GG _ _ _ _ _ _ _ T4 (mkF m 22 #[.val (.int p0), .val (.long q1), .second, .val (.int x2), .val (.long x3), .second, .unset, .unset, .unset, .unset, .unset, .unset, .unset, .unset, .unset, .unset] [(.double (FP.dmul (FP.l2d kk) (4598175219545276416 : UInt64)))])
  refine own_go (fun _ => XS.dstore X4.here hx rfl (hb hby at_22) rfl (l' := #[.val (.int p0), .val (.long q1), .second, .val (.int x2), .val (.long x3), .second, .val (.double (FP.dmul (FP.l2d kk) (4598175219545276416 : UInt64))), .second, .unset, .unset, .unset, .unset, .unset, .unset, .unset, .unset]) rfl) ?_
  show GG _ _ _ _ _ _ _ T4 (mkF m 24 #[.val (.int p0), .val (.long q1), .second, .val (.int x2), .val (.long x3), .second, .val (.double (FP.dmul (FP.l2d kk) (4598175219545276416 : UInt64))), .second, .unset, .unset, .unset, .unset, .unset, .unset, .unset, .unset] [])
  refine own_go (fun _ => XS.dload X4.here hx rfl (hb hby at_24) rfl) ?_
  show GG _ _ _ _ _ _ _ T4 (mkF m 26 #[.val (.int p0), .val (.long q1), .second, .val (.int x2), .val (.long x3), .second, .val (.double (FP.dmul (FP.l2d kk) (4598175219545276416 : UInt64))), .second, .unset, .unset, .unset, .unset, .unset, .unset, .unset, .unset] [(.double (FP.dmul (FP.l2d kk) (4598175219545276416 : UInt64)))])
  refine own_go (fun _ => X4.ldc2DoubleC hx hown (mvT hZ (hw _ (List.mem_of_getElem? (i := 9) rfl))) (g := (mkF m 26 #[.val (.int p0), .val (.long q1), .second, .val (.int x2), .val (.long x3), .second, .val (.double (FP.dmul (FP.l2d kk) (4598175219545276416 : UInt64))), .second, .unset, .unset, .unset, .unset, .unset, .unset, .unset, .unset] [(.double (FP.dmul (FP.l2d kk) (4598175219545276416 : UInt64)))])) rfl (hb hby at_26) _) ?_
  show GG _ _ _ _ _ _ _ T4 (mkF m 29 #[.val (.int p0), .val (.long q1), .second, .val (.int x2), .val (.long x3), .second, .val (.double (FP.dmul (FP.l2d kk) (4598175219545276416 : UInt64))), .second, .unset, .unset, .unset, .unset, .unset, .unset, .unset, .unset] [(.double (4616189618054758400 : UInt64)), (.double (FP.dmul (FP.l2d kk) (4598175219545276416 : UInt64)))])
  refine own_go (fun _ => XS.dmulS X4.here hx rfl (hb hby at_29) rfl (nn_w hq.1) rfl) ?_
  show GG _ _ _ _ _ _ _ T4 (mkF m 30 #[.val (.int p0), .val (.long q1), .second, .val (.int x2), .val (.long x3), .second, .val (.double (FP.dmul (FP.l2d kk) (4598175219545276416 : UInt64))), .second, .unset, .unset, .unset, .unset, .unset, .unset, .unset, .unset] [(.double (FP.dmul (FP.dmul (FP.l2d kk) (4598175219545276416 : UInt64)) (4616189618054758400 : UInt64)))])
  rw [hq.1]
  show GG _ _ _ _ _ _ _ T4 (mkF m 30 #[.val (.int p0), .val (.long q1), .second, .val (.int x2), .val (.long x3), .second, .val (.double (FP.dmul (FP.l2d kk) (4598175219545276416 : UInt64))), .second, .unset, .unset, .unset, .unset, .unset, .unset, .unset, .unset] [(.double (FP.l2d kk))])
  refine own_go (fun _ => XS.dstore X4.here hx rfl (hb hby at_30) rfl (l' := #[.val (.int p0), .val (.long q1), .second, .val (.int x2), .val (.long x3), .second, .val (.double (FP.dmul (FP.l2d kk) (4598175219545276416 : UInt64))), .second, .val (.double (FP.l2d kk)), .second, .unset, .unset, .unset, .unset, .unset, .unset]) rfl) ?_
  show GG _ _ _ _ _ _ _ T4 (mkF m 32 #[.val (.int p0), .val (.long q1), .second, .val (.int x2), .val (.long x3), .second, .val (.double (FP.dmul (FP.l2d kk) (4598175219545276416 : UInt64))), .second, .val (.double (FP.l2d kk)), .second, .unset, .unset, .unset, .unset, .unset, .unset] [])
  refine own_go (fun _ => XS.dload X4.here hx rfl (hb hby at_32) rfl) ?_
  show GG _ _ _ _ _ _ _ T4 (mkF m 34 #[.val (.int p0), .val (.long q1), .second, .val (.int x2), .val (.long x3), .second, .val (.double (FP.dmul (FP.l2d kk) (4598175219545276416 : UInt64))), .second, .val (.double (FP.l2d kk)), .second, .unset, .unset, .unset, .unset, .unset, .unset] [(.double (FP.l2d kk))])
  refine own_go (fun _ => XS.dconst0 X4.here hx rfl (hb hby at_34) rfl) ?_
  show GG _ _ _ _ _ _ _ T4 (mkF m 35 #[.val (.int p0), .val (.long q1), .second, .val (.int x2), .val (.long x3), .second, .val (.double (FP.dmul (FP.l2d kk) (4598175219545276416 : UInt64))), .second, .val (.double (FP.l2d kk)), .second, .unset, .unset, .unset, .unset, .unset, .unset] [(.double FP.dconst0), (.double (FP.l2d kk))])
  refine own_go (fun _ => XS.dcmpS X4.here hx rfl (hb hby at_35) (v := (lcmpW kk (0 : Int64))) rfl (by rw [own_0]; exact dcmpV_w hB (own_b (by decide) (by decide)) _)) ?_
  show GG _ _ _ _ _ _ _ T4 (mkF m 36 #[.val (.int p0), .val (.long q1), .second, .val (.int x2), .val (.long x3), .second, .val (.double (FP.dmul (FP.l2d kk) (4598175219545276416 : UInt64))), .second, .val (.double (FP.l2d kk)), .second, .unset, .unset, .unset, .unset, .unset, .unset] [(.int (lcmpW kk (0 : Int64)))])
  have hc36 : ¬ (kk < (0 : Int64)) := fun q => absurd (Int64.lt_iff_toInt_lt.mp q) (by show ¬ kk.toInt < 0; omega)
  refine own_go (fun _ => XS.ifNo X4.here hx rfl (hb hby at_36) rfl ((if0 _ _).trans (flt (fun q => hc36 ((lw_lt _ _).mp q))).1)) ?_
  show GG _ _ _ _ _ _ _ T4 (mkF m 39 #[.val (.int p0), .val (.long q1), .second, .val (.int x2), .val (.long x3), .second, .val (.double (FP.dmul (FP.l2d kk) (4598175219545276416 : UInt64))), .second, .val (.double (FP.l2d kk)), .second, .unset, .unset, .unset, .unset, .unset, .unset] [])
  refine own_go (fun _ => XS.dload X4.here hx rfl (hb hby at_39) rfl) ?_
  show GG _ _ _ _ _ _ _ T4 (mkF m 41 #[.val (.int p0), .val (.long q1), .second, .val (.int x2), .val (.long x3), .second, .val (.double (FP.dmul (FP.l2d kk) (4598175219545276416 : UInt64))), .second, .val (.double (FP.l2d kk)), .second, .unset, .unset, .unset, .unset, .unset, .unset] [(.double (FP.l2d kk))])
  refine own_go (fun _ => X4.ldc2DoubleC hx hown (mvT hZ (hw _ (List.mem_of_getElem? (i := 10) rfl))) (g := (mkF m 41 #[.val (.int p0), .val (.long q1), .second, .val (.int x2), .val (.long x3), .second, .val (.double (FP.dmul (FP.l2d kk) (4598175219545276416 : UInt64))), .second, .val (.double (FP.l2d kk)), .second, .unset, .unset, .unset, .unset, .unset, .unset] [(.double (FP.l2d kk))])) rfl (hb hby at_41) _) ?_
  show GG _ _ _ _ _ _ _ T4 (mkF m 44 #[.val (.int p0), .val (.long q1), .second, .val (.int x2), .val (.long x3), .second, .val (.double (FP.dmul (FP.l2d kk) (4598175219545276416 : UInt64))), .second, .val (.double (FP.l2d kk)), .second, .unset, .unset, .unset, .unset, .unset, .unset] [(.double (4652086473678389248 : UInt64)), (.double (FP.l2d kk))])
  refine own_go (fun _ => XS.dcmpS X4.here hx rfl (hb hby at_44) (v := (lcmpW kk (1009 : Int64))) rfl (by rw [own_1009]; exact dcmpV_w hB (own_b (by decide) (by decide)) _)) ?_
  show GG _ _ _ _ _ _ _ T4 (mkF m 45 #[.val (.int p0), .val (.long q1), .second, .val (.int x2), .val (.long x3), .second, .val (.double (FP.dmul (FP.l2d kk) (4598175219545276416 : UInt64))), .second, .val (.double (FP.l2d kk)), .second, .unset, .unset, .unset, .unset, .unset, .unset] [(.int (lcmpW kk (1009 : Int64)))])
  have hc45 : kk < (1009 : Int64) := Int64.lt_iff_toInt_lt.mpr (by show kk.toInt < 1009; omega)
  refine own_go (fun _ => XS.ifYes X4.here hx rfl (pc0 := 45) (pc' := 50) rfl (hb hby at_45) rfl ((if0 _ _).trans (tlt ((lw_lt _ _).mpr hc45)).1) (by decide) (by decide)) ?_
  show GG _ _ _ _ _ _ _ T4 (mkF m 50 #[.val (.int p0), .val (.long q1), .second, .val (.int x2), .val (.long x3), .second, .val (.double (FP.dmul (FP.l2d kk) (4598175219545276416 : UInt64))), .second, .val (.double (FP.l2d kk)), .second, .unset, .unset, .unset, .unset, .unset, .unset] [])
  refine own_go (fun _ => XS.dload X4.here hx rfl (hb hby at_50) rfl) ?_
  show GG _ _ _ _ _ _ _ T4 (mkF m 52 #[.val (.int p0), .val (.long q1), .second, .val (.int x2), .val (.long x3), .second, .val (.double (FP.dmul (FP.l2d kk) (4598175219545276416 : UInt64))), .second, .val (.double (FP.l2d kk)), .second, .unset, .unset, .unset, .unset, .unset, .unset] [(.double (FP.l2d kk))])
  refine own_go (fun _ => XS.d2lS X4.here hx rfl (hb hby at_52) (v := kk) rfl (d2l_w hB)) ?_
  show GG _ _ _ _ _ _ _ T4 (mkF m 53 #[.val (.int p0), .val (.long q1), .second, .val (.int x2), .val (.long x3), .second, .val (.double (FP.dmul (FP.l2d kk) (4598175219545276416 : UInt64))), .second, .val (.double (FP.l2d kk)), .second, .unset, .unset, .unset, .unset, .unset, .unset] [(.long kk)])
  refine own_go (fun _ => XS.lstore X4.here hx rfl (hb hby at_53) rfl (l' := #[.val (.int p0), .val (.long q1), .second, .val (.int x2), .val (.long x3), .second, .val (.double (FP.dmul (FP.l2d kk) (4598175219545276416 : UInt64))), .second, .val (.double (FP.l2d kk)), .second, .val (.long kk), .second, .unset, .unset, .unset, .unset]) rfl) ?_
  show GG _ _ _ _ _ _ _ T4 (mkF m 55 #[.val (.int p0), .val (.long q1), .second, .val (.int x2), .val (.long x3), .second, .val (.double (FP.dmul (FP.l2d kk) (4598175219545276416 : UInt64))), .second, .val (.double (FP.l2d kk)), .second, .val (.long kk), .second, .unset, .unset, .unset, .unset] [])
  refine own_go (fun _ => XS.lload X4.here hx rfl (hb hby at_55) rfl) ?_
  show GG _ _ _ _ _ _ _ T4 (mkF m 57 #[.val (.int p0), .val (.long q1), .second, .val (.int x2), .val (.long x3), .second, .val (.double (FP.dmul (FP.l2d kk) (4598175219545276416 : UInt64))), .second, .val (.double (FP.l2d kk)), .second, .val (.long kk), .second, .unset, .unset, .unset, .unset] [(.long kk)])
  refine own_go (fun _ => XS.l2dS X4.here hx rfl (hb hby at_57) rfl rfl) ?_
  show GG _ _ _ _ _ _ _ T4 (mkF m 58 #[.val (.int p0), .val (.long q1), .second, .val (.int x2), .val (.long x3), .second, .val (.double (FP.dmul (FP.l2d kk) (4598175219545276416 : UInt64))), .second, .val (.double (FP.l2d kk)), .second, .val (.long kk), .second, .unset, .unset, .unset, .unset] [(.double (FP.l2d kk))])
  refine own_go (fun _ => XS.dload X4.here hx rfl (hb hby at_58) rfl) ?_
  show GG _ _ _ _ _ _ _ T4 (mkF m 60 #[.val (.int p0), .val (.long q1), .second, .val (.int x2), .val (.long x3), .second, .val (.double (FP.dmul (FP.l2d kk) (4598175219545276416 : UInt64))), .second, .val (.double (FP.l2d kk)), .second, .val (.long kk), .second, .unset, .unset, .unset, .unset] [(.double (FP.l2d kk)), (.double (FP.l2d kk))])
  refine own_go (fun _ => XS.dcmpS X4.here hx rfl (hb hby at_60) (v := (0 : Int32)) rfl (dcmpV_self (nn_w rfl) _)) ?_
  show GG _ _ _ _ _ _ _ T4 (mkF m 61 #[.val (.int p0), .val (.long q1), .second, .val (.int x2), .val (.long x3), .second, .val (.double (FP.dmul (FP.l2d kk) (4598175219545276416 : UInt64))), .second, .val (.double (FP.l2d kk)), .second, .val (.long kk), .second, .unset, .unset, .unset, .unset] [(.int (0 : Int32))])
  have hc61 : (0 : Int32) = (0 : Int32) := by decide
  refine own_go (fun _ => XS.ifYes X4.here hx rfl (pc0 := 61) (pc' := 66) rfl (hb hby at_61) rfl ((if0 _ _).trans (teq hc61).1) (by decide) (by decide)) ?_
  show GG _ _ _ _ _ _ _ T4 (mkF m 66 #[.val (.int p0), .val (.long q1), .second, .val (.int x2), .val (.long x3), .second, .val (.double (FP.dmul (FP.l2d kk) (4598175219545276416 : UInt64))), .second, .val (.double (FP.l2d kk)), .second, .val (.long kk), .second, .unset, .unset, .unset, .unset] [])
  have rkk := rng64 kk
  refine own_go (fun _ => X4.ldc2Long hx hown (mvT hZ (hw _ (List.mem_of_getElem? (i := 11) rfl))) (g := (mkF m 66 #[.val (.int p0), .val (.long q1), .second, .val (.int x2), .val (.long x3), .second, .val (.double (FP.dmul (FP.l2d kk) (4598175219545276416 : UInt64))), .second, .val (.double (FP.l2d kk)), .second, .val (.long kk), .second, .unset, .unset, .unset, .unset] [])) rfl (hb hby at_66) _) ?_
  show GG _ _ _ _ _ _ _ T4 (mkF m 69 #[.val (.int p0), .val (.long q1), .second, .val (.int x2), .val (.long x3), .second, .val (.double (FP.dmul (FP.l2d kk) (4598175219545276416 : UInt64))), .second, .val (.double (FP.l2d kk)), .second, .val (.long kk), .second, .unset, .unset, .unset, .unset] [(.long (31 : Int64))])
  refine own_go (fun _ => XS.iloadN X4.here hx rfl (hb hby at_69) rfl) ?_
  show GG _ _ _ _ _ _ _ T4 (mkF m 70 #[.val (.int p0), .val (.long q1), .second, .val (.int x2), .val (.long x3), .second, .val (.double (FP.dmul (FP.l2d kk) (4598175219545276416 : UInt64))), .second, .val (.double (FP.l2d kk)), .second, .val (.long kk), .second, .unset, .unset, .unset, .unset] [(.int x2), (.long (31 : Int64))])
  refine own_go (fun _ => XS.i2l X4.here hx rfl (hb hby at_70) rfl) ?_
  show GG _ _ _ _ _ _ _ T4 (mkF m 71 #[.val (.int p0), .val (.long q1), .second, .val (.int x2), .val (.long x3), .second, .val (.double (FP.dmul (FP.l2d kk) (4598175219545276416 : UInt64))), .second, .val (.double (FP.l2d kk)), .second, .val (.long kk), .second, .unset, .unset, .unset, .unset] [(.long (x2.toInt64)), (.long (31 : Int64))])
  have cx5 := c_i2l x2
  generalize hx5 : (x2.toInt64) = x5 at cx5 ⊢
  have rx5 := rng64 x5
  refine own_go (fun _ => XS.lmul X4.here hx rfl (hb hby at_71) rfl) ?_
  show GG _ _ _ _ _ _ _ T4 (mkF m 72 #[.val (.int p0), .val (.long q1), .second, .val (.int x2), .val (.long x3), .second, .val (.double (FP.dmul (FP.l2d kk) (4598175219545276416 : UInt64))), .second, .val (.double (FP.l2d kk)), .second, .val (.long kk), .second, .unset, .unset, .unset, .unset] [(.long ((31 : Int64) * x5))])
  have cx6 := c_lmul (31 : Int64) x5
  simp only [show ((31 : Int64)).toInt = 31 from by decide] at cx6
  generalize hx6 : ((31 : Int64) * x5) = x6 at cx6 ⊢
  have rx6 := rng64 x6
  have dx6 : x6.toInt = 31 * x5.toInt := by omega
  clear cx6
  refine own_go (fun _ => XS.lload X4.here hx rfl (hb hby at_72) rfl) ?_
  show GG _ _ _ _ _ _ _ T4 (mkF m 74 #[.val (.int p0), .val (.long q1), .second, .val (.int x2), .val (.long x3), .second, .val (.double (FP.dmul (FP.l2d kk) (4598175219545276416 : UInt64))), .second, .val (.double (FP.l2d kk)), .second, .val (.long kk), .second, .unset, .unset, .unset, .unset] [(.long x3), (.long x6)])
  refine own_go (fun _ => XS.ladd X4.here hx rfl (hb hby at_74) rfl) ?_
  show GG _ _ _ _ _ _ _ T4 (mkF m 75 #[.val (.int p0), .val (.long q1), .second, .val (.int x2), .val (.long x3), .second, .val (.double (FP.dmul (FP.l2d kk) (4598175219545276416 : UInt64))), .second, .val (.double (FP.l2d kk)), .second, .val (.long kk), .second, .unset, .unset, .unset, .unset] [(.long (x6 + x3))])
  have cx7 := c_ladd x6 x3
  generalize hx7 : (x6 + x3) = x7 at cx7 ⊢
  have rx7 := rng64 x7
  have dx7 : x7.toInt = x6.toInt + x3.toInt := by omega
  clear cx7
  refine own_go (fun _ => XS.lload X4.here hx rfl (hb hby at_75) rfl) ?_
  show GG _ _ _ _ _ _ _ T4 (mkF m 77 #[.val (.int p0), .val (.long q1), .second, .val (.int x2), .val (.long x3), .second, .val (.double (FP.dmul (FP.l2d kk) (4598175219545276416 : UInt64))), .second, .val (.double (FP.l2d kk)), .second, .val (.long kk), .second, .unset, .unset, .unset, .unset] [(.long kk), (.long x7)])
  refine own_go (fun _ => XS.lsub X4.here hx rfl (hb hby at_77) rfl) ?_
  show GG _ _ _ _ _ _ _ T4 (mkF m 78 #[.val (.int p0), .val (.long q1), .second, .val (.int x2), .val (.long x3), .second, .val (.double (FP.dmul (FP.l2d kk) (4598175219545276416 : UInt64))), .second, .val (.double (FP.l2d kk)), .second, .val (.long kk), .second, .unset, .unset, .unset, .unset] [(.long (x7 - kk))])
  have cx8 := c_lsub x7 kk
  generalize hx8 : (x7 - kk) = x8 at cx8 ⊢
  have rx8 := rng64 x8
  have dx8 : x8.toInt = x7.toInt - kk.toInt := by omega
  clear cx8
  refine own_go (fun _ => XS.lstore X4.here hx rfl (hb hby at_78) rfl (l' := #[.val (.int p0), .val (.long q1), .second, .val (.int x2), .val (.long x3), .second, .val (.double (FP.dmul (FP.l2d kk) (4598175219545276416 : UInt64))), .second, .val (.double (FP.l2d kk)), .second, .val (.long kk), .second, .val (.long x8), .second, .unset, .unset]) rfl) ?_
  show GG _ _ _ _ _ _ _ T4 (mkF m 80 #[.val (.int p0), .val (.long q1), .second, .val (.int x2), .val (.long x3), .second, .val (.double (FP.dmul (FP.l2d kk) (4598175219545276416 : UInt64))), .second, .val (.double (FP.l2d kk)), .second, .val (.long kk), .second, .val (.long x8), .second, .unset, .unset] [])
  refine own_go (fun _ => XS.lload X4.here hx rfl (hb hby at_80) rfl) ?_
  show GG _ _ _ _ _ _ _ T4 (mkF m 82 #[.val (.int p0), .val (.long q1), .second, .val (.int x2), .val (.long x3), .second, .val (.double (FP.dmul (FP.l2d kk) (4598175219545276416 : UInt64))), .second, .val (.double (FP.l2d kk)), .second, .val (.long kk), .second, .val (.long x8), .second, .unset, .unset] [(.long x8)])
  refine own_go (fun _ => X4.ldc2Long hx hown (mvT hZ (hw _ (List.mem_of_getElem? (i := 12) rfl))) (g := (mkF m 82 #[.val (.int p0), .val (.long q1), .second, .val (.int x2), .val (.long x3), .second, .val (.double (FP.dmul (FP.l2d kk) (4598175219545276416 : UInt64))), .second, .val (.double (FP.l2d kk)), .second, .val (.long kk), .second, .val (.long x8), .second, .unset, .unset] [(.long x8)])) rfl (hb hby at_82) _) ?_
  show GG _ _ _ _ _ _ _ T4 (mkF m 85 #[.val (.int p0), .val (.long q1), .second, .val (.int x2), .val (.long x3), .second, .val (.double (FP.dmul (FP.l2d kk) (4598175219545276416 : UInt64))), .second, .val (.double (FP.l2d kk)), .second, .val (.long kk), .second, .val (.long x8), .second, .unset, .unset] [(.long (1009 : Int64)), (.long x8)])
  refine own_go (fun _ => XS.ldiv X4.here hx rfl (hb hby at_85) rfl (by decide)) ?_
  show GG _ _ _ _ _ _ _ T4 (mkF m 86 #[.val (.int p0), .val (.long q1), .second, .val (.int x2), .val (.long x3), .second, .val (.double (FP.dmul (FP.l2d kk) (4598175219545276416 : UInt64))), .second, .val (.double (FP.l2d kk)), .second, .val (.long kk), .second, .val (.long x8), .second, .unset, .unset] [(.long (x8 / (1009 : Int64)))])
  have cx9 := c_ldiv x8 (1009 : Int64) 1009 (by decide) (by decide)
  generalize hx9 : (x8 / (1009 : Int64)) = x9 at cx9 ⊢
  have rx9 := rng64 x9
  refine own_go (fun _ => XS.lstore X4.here hx rfl (hb hby at_86) rfl (l' := #[.val (.int p0), .val (.long q1), .second, .val (.int x2), .val (.long x3), .second, .val (.double (FP.dmul (FP.l2d kk) (4598175219545276416 : UInt64))), .second, .val (.double (FP.l2d kk)), .second, .val (.long kk), .second, .val (.long x8), .second, .val (.long x9), .second]) rfl) ?_
  show GG _ _ _ _ _ _ _ T4 (mkF m 88 #[.val (.int p0), .val (.long q1), .second, .val (.int x2), .val (.long x3), .second, .val (.double (FP.dmul (FP.l2d kk) (4598175219545276416 : UInt64))), .second, .val (.double (FP.l2d kk)), .second, .val (.long kk), .second, .val (.long x8), .second, .val (.long x9), .second] [])
  refine own_go (fun _ => XS.lload X4.here hx rfl (hb hby at_88) rfl) ?_
  show GG _ _ _ _ _ _ _ T4 (mkF m 90 #[.val (.int p0), .val (.long q1), .second, .val (.int x2), .val (.long x3), .second, .val (.double (FP.dmul (FP.l2d kk) (4598175219545276416 : UInt64))), .second, .val (.double (FP.l2d kk)), .second, .val (.long kk), .second, .val (.long x8), .second, .val (.long x9), .second] [(.long x9)])
  refine own_go (fun _ => X4.ldc2Long hx hown (mvT hZ (hw _ (List.mem_of_getElem? (i := 12) rfl))) (g := (mkF m 90 #[.val (.int p0), .val (.long q1), .second, .val (.int x2), .val (.long x3), .second, .val (.double (FP.dmul (FP.l2d kk) (4598175219545276416 : UInt64))), .second, .val (.double (FP.l2d kk)), .second, .val (.long kk), .second, .val (.long x8), .second, .val (.long x9), .second] [(.long x9)])) rfl (hb hby at_90) _) ?_
  show GG _ _ _ _ _ _ _ T4 (mkF m 93 #[.val (.int p0), .val (.long q1), .second, .val (.int x2), .val (.long x3), .second, .val (.double (FP.dmul (FP.l2d kk) (4598175219545276416 : UInt64))), .second, .val (.double (FP.l2d kk)), .second, .val (.long kk), .second, .val (.long x8), .second, .val (.long x9), .second] [(.long (1009 : Int64)), (.long x9)])
  refine own_go (fun _ => XS.lmul X4.here hx rfl (hb hby at_93) rfl) ?_
  show GG _ _ _ _ _ _ _ T4 (mkF m 94 #[.val (.int p0), .val (.long q1), .second, .val (.int x2), .val (.long x3), .second, .val (.double (FP.dmul (FP.l2d kk) (4598175219545276416 : UInt64))), .second, .val (.double (FP.l2d kk)), .second, .val (.long kk), .second, .val (.long x8), .second, .val (.long x9), .second] [(.long (x9 * (1009 : Int64)))])
  have cx10 := c_lmul x9 (1009 : Int64)
  simp only [show ((1009 : Int64)).toInt = 1009 from by decide] at cx10
  generalize hx10 : (x9 * (1009 : Int64)) = x10 at cx10 ⊢
  have rx10 := rng64 x10
  have dx10 : x10.toInt = x9.toInt * 1009 := by omega
  clear cx10
  refine own_go (fun _ => XS.lload X4.here hx rfl (hb hby at_94) rfl) ?_
  show GG _ _ _ _ _ _ _ T4 (mkF m 96 #[.val (.int p0), .val (.long q1), .second, .val (.int x2), .val (.long x3), .second, .val (.double (FP.dmul (FP.l2d kk) (4598175219545276416 : UInt64))), .second, .val (.double (FP.l2d kk)), .second, .val (.long kk), .second, .val (.long x8), .second, .val (.long x9), .second] [(.long x8), (.long x10)])
  refine own_go (fun _ => XS.lcmp X4.here hx rfl (hb hby at_96) rfl) ?_
  show GG _ _ _ _ _ _ _ T4 (mkF m 97 #[.val (.int p0), .val (.long q1), .second, .val (.int x2), .val (.long x3), .second, .val (.double (FP.dmul (FP.l2d kk) (4598175219545276416 : UInt64))), .second, .val (.double (FP.l2d kk)), .second, .val (.long kk), .second, .val (.long x8), .second, .val (.long x9), .second] [(.int (lcmpW x10 x8))])
  have hc97 : x10 = x8 := by rw [← Int64.toInt_inj]; omega
  refine own_go (fun _ => XS.ifNo X4.here hx rfl (hb hby at_97) rfl ((if0 _ _).trans (teq ((lw_eq _ _).mpr hc97)).2)) ?_
  show GG _ _ _ _ _ _ _ T4 (mkF m 100 #[.val (.int p0), .val (.long q1), .second, .val (.int x2), .val (.long x3), .second, .val (.double (FP.dmul (FP.l2d kk) (4598175219545276416 : UInt64))), .second, .val (.double (FP.l2d kk)), .second, .val (.long kk), .second, .val (.long x8), .second, .val (.long x9), .second] [])
  refine own_go (fun _ => XS.iconst X4.here hx rfl (hb hby at_100)) ?_
  show GG _ _ _ _ _ _ _ T4 (mkF m 101 #[.val (.int p0), .val (.long q1), .second, .val (.int x2), .val (.long x3), .second, .val (.double (FP.dmul (FP.l2d kk) (4598175219545276416 : UInt64))), .second, .val (.double (FP.l2d kk)), .second, .val (.long kk), .second, .val (.long x8), .second, .val (.long x9), .second] [(.int (1 : Int32))])
  refine own_go (fun _ => XS.goto X4.here hx rfl (pc0 := 101) (pc' := 105) rfl (hb hby at_101) (by decide) (by decide)) ?_
  show GG _ _ _ _ _ _ _ T4 (mkF m 105 #[.val (.int p0), .val (.long q1), .second, .val (.int x2), .val (.long x3), .second, .val (.double (FP.dmul (FP.l2d kk) (4598175219545276416 : UInt64))), .second, .val (.double (FP.l2d kk)), .second, .val (.long kk), .second, .val (.long x8), .second, .val (.long x9), .second] [(.int (1 : Int32))])
  refine own_ret X4 hx hlk (t := .boolean) (w := (.int (1 : Int32))) Bd.returns rfl (Or.inl ⟨rfl, by simp, _, rfl⟩) (hb hby at_105) (by decide) (by decide) ?_
  show Q0 Z p0 q1 h0 n0 (some (.int (1 : Int32))) T4.heap _
  rw [hh4]
  exact ⟨rfl, N4⟩
set_option maxRecDepth 65536 in
set_option maxHeartbeats 40000000 in
theorem comes_1 {Post : Tables → Env → Array Value → State → Outcome → State → Prop} (hpost : ∀ tb e args s v u, (limb_1_1.after args s (.returned v) u = true ∧ limb_1_2.after args s (.returned v) u = true ∧ True) → FrameEnd s (.returned v) u (Jvm.fieldLocs frame_1_writes args s ++ Jvm.arrayLocs frame_1_arrays args s ++ Jvm.staticLocs frame_1_statics s) 0 0 → Post tb e args s (.returned v) u) :
    ArmFor flags0 classFile x code maxLocals ret World_1 tables_1 room_1 Calls_1 rest_1 Pre_1 Post := by
  intro l hfl _ _ p e ha hc hk s m args below hf hA hF happ hP
  obtain ⟨hcalls, hrest, hpre⟩ := hP
  obtain ⟨-, -, -, hnamed, -, -, -, hat⟩ := (Spec.applies_iff hf).mp happ
  obtain ⟨hg, hn⟩ := and_e (Cond.before_iff.mp (show (Jvm.Cond.and given_1 narrow_1).before args s = true from hpre))
  obtain ⟨g1, g2⟩ := and_e hg
  obtain ⟨g3, g4⟩ := and_e g2
  obtain ⟨w0, w1, rfl⟩ : ∃ w0 w1 : Value, args = #[w0, w1] := by
    have hs : args.size = 2 := by simpa [Cond.value, given_1] using g1
    obtain ⟨L⟩ := args
    match L, hs with
    | [w0, w1], _ => exact ⟨w0, w1, rfl⟩
  have hw := fun d (hd : d ∈ tables_1) => atoms_spec (ws := Jvm.Cond.code x code maxLocals ret :: tables_1) hat d (List.mem_cons_of_mem _ hd)
  have hfit : Fit s := fun {y c} hc i hi => by
    obtain ⟨ha, rfl⟩ := Array.getElem?_eq_some_iff.mp hc
    have q := List.all_eq_true.mp ((Array.all_eq_true_iff_forall_mem.mp hF) _ (Array.getElem_mem ha)) i (List.mem_range.mpr hi)
    simpa [Array.getElem?_eq_getElem hi] using q
  obtain ⟨i0, ei0⟩ := is_v g3
  obtain rfl : w0 = (.int i0) := Option.some.inj ei0
  obtain ⟨i1, ei1⟩ := isL_v g4
  obtain rfl : w1 = (.long i1) := Option.some.inj ei1
  obtain ⟨n, o, h1, h2, h3, _, L, rfl, ⟨rfl, N⟩, hq⟩ := rm0 l s _ hw tables_1 i0 i1 s.heap s.heap.size (Nat.le_refl _)  p e ha hc hk s m _ below hf ((Spec.applies_iff_loose hf).mp happ).1 ⟨rfl, State.Warmed39.refl s, rfl⟩ trivial
  refine ⟨n, _, h1, h2, h3, hpost _ _ _ _ _ _ ⟨Cond.after_iff.mpr rfl, Cond.after_iff.mpr (eq_i res_at (Term.int_eval (1)) rfl), trivial⟩ ⟨hq.1, hq.2.1, (hq.2.2.sift fun y hy => Or.inr (N y hy)).mono (by decide) (by decide)⟩⟩
theorem main_1_1 : Claimed_1_1 := comes_1 fun _ _ _ _ _ _ h hF => ⟨h.1, hF⟩
theorem main_1_2 : Claimed_1_2 := comes_1 fun _ _ _ _ _ _ h hF => ⟨h.2.1, hF⟩
end Jvm.Pilot.@@N@@
namespace Jvm.Pilot.@@N@@
open Jvm Jvm.ClassFile Sem Op Lib Jvm.Free Jvm.Stand Jvm.Pilot.@@N@@.Jvm.D
/-! MADE BY PROGRAM (witnessworld.py) out of the Statement's table words and the real class files: 9 classes; the members and pool entries that the words name. The judged class is class 1, her method 1. -/
namespace start1
open Jvm.ClassFile
def u (s : String) : CpInfo := .utf8 (stringToUtf16 s)
/-- a pool by its gaps: so many unusable entries, then the entry; so many at the end -/
def gap : Nat → List CpInfo → List CpInfo
  | 0, r => r
  | n + 1, r => .unusable :: gap n r
def poolList (es : List (Nat × CpInfo)) (last : Nat) : List CpInfo := es.foldr (fun e r => gap e.1 (e.2 :: r)) (gap last [])
def pool (es : List (Nat × CpInfo)) (last : Nat) : Array CpInfo := ⟨poolList es last⟩
def fileOf (pool : Array CpInfo) (this : Nat) (attrs : Array Attribute := #[]) (ms : Array MethodInfo := #[]) (fl : Nat := 33) (sup : Nat := 0) (ifs : Array Nat := #[]) (fds : Array FieldInfo := #[]) : ClassFile where
  minorVersion := 0
  majorVersion := 65
  constantPool := pool
  accessFlags := fl
  thisClass := this
  superClass := sup
  interfaces := ifs
  fields := fds
  methods := ms
  attributes := attrs
def plain (name : String) (sup : Option ClassId) : Class where
  name := name
  kind := .ordinary
  loader := none
  accessFlags := 33
  super := sup
  interfaces := #[]
  cf := none
  fields := #[]
  methods := #[]
  instanceTypes := #[]
  staticTypes := #[]
  resolved := #[]
  callSites := []
  init := .initialized
  statics := none
  mirror := none

def pool0 : Array CpInfo := pool [(5, u "<init>"), (0, u "()V"), (1, .class_ 10), (1, u "java/lang/Object")] 113

def k0m0 : Method := { name := "<init>", desc := "()V", sig := { parameters := [], returnType := none }, accessFlags := 1, code := none }
/-- java/lang/Object -/
def k0 : Class := { plain "java/lang/Object" none with
  accessFlags := 33
  interfaces := #[]
  cf := some (fileOf pool0 8 #[] #[{ accessFlags := 1, nameIndex := 5, descriptorIndex := 6, attributes := #[] }] 33 0 #[] #[])
  fields := #[]
  methods := #[k0m0]
  instanceTypes := #[]
  staticTypes := #[]
  resolved := Array.replicate 124 none
  statics := none }

def pool1 : Array CpInfo := pool [(2, .class_ 4), (1, u "java/lang/Object"), (0, u "<init>"), (0, u "()V"), (0, .integer 2147483647), (0, .long 4611686018427387903), (1, .methodref 11 12), (0, .class_ 13), (0, .nameAndType 14 15), (0, u "com/example/observable_archive/observablearchive/cli/IngestLoad"), (0, u "value"), (0, u "(IJ)D"), (0, .double 4616189618054758400), (1, .double 4652086473678389248), (1, .long 31), (1, .long 1009), (1, .class_ 25), (0, u "com/example/observable_archive/observablearchive/cli/IngestLoadValuePinLaw"), (2, u "law"), (0, u "(IJ)Z")] 3

def k1m0 : Method := { name := "<init>", desc := "()V", sig := { parameters := [], returnType := none }, accessFlags := 2, code := none }
def k1c1 : Code := { maxStack := 4, maxLocals := 16, code := code, exceptionTable := #[], attributes := #[] }
def k1m1 : Method := { name := "law", desc := "(IJ)Z", sig := { parameters := [.int, .long], returnType := some .boolean }, accessFlags := 9, code := some k1c1 }
/-- com/example/observable_archive/observablearchive/cli/IngestLoadValuePinLaw -/
def k1 : Class := { plain "com/example/observable_archive/observablearchive/cli/IngestLoadValuePinLaw" (some 0) with
  accessFlags := 49
  interfaces := #[]
  cf := some (fileOf pool1 24 #[] #[{ accessFlags := 2, nameIndex := 5, descriptorIndex := 6, attributes := #[] }, { accessFlags := 9, nameIndex := 28, descriptorIndex := 29, attributes := #[] }] 49 2 #[] #[])
  fields := #[]
  methods := #[k1m0, k1m1]
  instanceTypes := #[]
  staticTypes := #[]
  resolved := Array.replicate 33 none
  statics := none }

def pool2 : Array CpInfo := pool [(2, .class_ 4), (1, u "java/lang/Object"), (3, .class_ 10), (1, u "com/example/observable_archive/observablearchive/cli/IngestLoad"), (0, u "rate"), (0, u "I"), (2, u "seconds"), (2, u "start"), (0, u "Ljava/time/Instant;"), (2, u "columnsPerRequest"), (47, u "samples"), (0, u "J"), (48, u "pvs"), (0, u "Ljava/util/List;"), (2, u "requestsPerSecond"), (5, u "idEnd"), (0, u "Ljava/lang/String;"), (0, .long 31), (1, .long 1009), (1, .double 4598175219545276416), (14, u "value"), (0, u "(IJ)D"), (30, u "MAX_PVS"), (2, u "MAX_VALUES_PER_REQUEST"), (1, u "NANOS_PER_SECOND"), (0, u "PATTERN_LENGTH")] 40

def k2c0 : Code := { maxStack := 4, maxLocals := 3, code := prog_2_method_2_code, exceptionTable := #[], attributes := #[] }
def k2m0 : Method := { name := "value", desc := "(IJ)D", sig := { parameters := [.int, .long], returnType := some .double }, accessFlags := 8, code := some k2c0 }
/-- com/example/observable_archive/observablearchive/cli/IngestLoad -/
def k2 : Class := { plain "com/example/observable_archive/observablearchive/cli/IngestLoad" (some 0) with
  accessFlags := 48
  interfaces := #[]
  cf := some (fileOf pool2 8 #[] #[{ accessFlags := 8, nameIndex := 151, descriptorIndex := 152, attributes := #[] }] 48 2 #[] #[{ accessFlags := 24, nameIndex := 183, descriptorIndex := 12, attributes := #[] }, { accessFlags := 24, nameIndex := 186, descriptorIndex := 12, attributes := #[] }, { accessFlags := 26, nameIndex := 188, descriptorIndex := 71, attributes := #[] }, { accessFlags := 26, nameIndex := 189, descriptorIndex := 12, attributes := #[] }, { accessFlags := 18, nameIndex := 11, descriptorIndex := 12, attributes := #[] }, { accessFlags := 18, nameIndex := 15, descriptorIndex := 12, attributes := #[] }, { accessFlags := 18, nameIndex := 18, descriptorIndex := 19, attributes := #[] }, { accessFlags := 18, nameIndex := 22, descriptorIndex := 12, attributes := #[] }, { accessFlags := 18, nameIndex := 120, descriptorIndex := 121, attributes := #[] }, { accessFlags := 18, nameIndex := 124, descriptorIndex := 12, attributes := #[] }, { accessFlags := 18, nameIndex := 70, descriptorIndex := 71, attributes := #[] }, { accessFlags := 18, nameIndex := 130, descriptorIndex := 131, attributes := #[] }])
  fields := #[{ name := "MAX_PVS", type := .int, accessFlags := 24, slot := 0, constantValue := 0 }, { name := "MAX_VALUES_PER_REQUEST", type := .int, accessFlags := 24, slot := 1, constantValue := 0 }, { name := "NANOS_PER_SECOND", type := .long, accessFlags := 26, slot := 2, constantValue := 0 }, { name := "PATTERN_LENGTH", type := .int, accessFlags := 26, slot := 3, constantValue := 0 }, { name := "rate", type := .int, accessFlags := 18, slot := 0, constantValue := 0 }, { name := "seconds", type := .int, accessFlags := 18, slot := 1, constantValue := 0 }, { name := "start", type := (.object "java/time/Instant"), accessFlags := 18, slot := 2, constantValue := 0 }, { name := "columnsPerRequest", type := .int, accessFlags := 18, slot := 3, constantValue := 0 }, { name := "pvs", type := (.object "java/util/List"), accessFlags := 18, slot := 4, constantValue := 0 }, { name := "requestsPerSecond", type := .int, accessFlags := 18, slot := 5, constantValue := 0 }, { name := "samples", type := .long, accessFlags := 18, slot := 6, constantValue := 0 }, { name := "idEnd", type := (.object "java/lang/String"), accessFlags := 18, slot := 7, constantValue := 0 }]
  methods := #[k2m0]
  instanceTypes := #[.int, .int, (.object "java/time/Instant"), .int, (.object "java/util/List"), .int, .long, (.object "java/lang/String")]
  staticTypes := #[.int, .int, .long, .int]
  resolved := Array.replicate 230 none
  statics := none }

def pool3 : Array CpInfo := pool [(1, u "java/lang/Cloneable"), (0, .class_ 1), (0, u "java/lang/Object"), (0, .class_ 3)] 3

/-- java/lang/Cloneable -/
def k3 : Class := { plain "java/lang/Cloneable" (some 0) with
  accessFlags := 1537
  interfaces := #[]
  cf := some (fileOf pool3 2 #[] #[] 1537 4 #[] #[])
  fields := #[]
  methods := #[]
  instanceTypes := #[]
  staticTypes := #[]
  resolved := Array.replicate 8 none
  statics := none }

def pool4 : Array CpInfo := pool [(1, u "java/io/Serializable"), (0, .class_ 1), (0, u "java/lang/Object"), (0, .class_ 3)] 3

/-- java/io/Serializable -/
def k4 : Class := { plain "java/io/Serializable" (some 0) with
  accessFlags := 1537
  interfaces := #[]
  cf := some (fileOf pool4 2 #[] #[] 1537 4 #[] #[])
  fields := #[]
  methods := #[]
  instanceTypes := #[]
  staticTypes := #[]
  resolved := Array.replicate 8 none
  statics := none }

/-- the primitive byte -/
def k5 : Class := { plain "byte" none with kind := .primitive 'B', accessFlags := 0x411 }
/-- [B -/
def k6 : Class := { plain "[B" (some 0) with kind := .array 5 .byte, interfaces := #[3, 4], accessFlags := 1041 }

/-- the primitive int -/
def k7 : Class := { plain "int" none with kind := .primitive 'I', accessFlags := 0x411 }
/-- [I -/
def k8 : Class := { plain "[I" (some 0) with kind := .array 7 .int, interfaces := #[3, 4], accessFlags := 1041 }

def heap : Heap := #[]
def classes : Array Class := #[k0, k1, k2, k3, k4, k5, k6, k7, k8]
def interned : List (Array UInt16 × Addr) := []
def slotsUsed : Nat := 0
def theMethod : MethodId := ⟨1, 1⟩
def args0 : Array Value := #[.int 5, .long 77]
def aboutOver (below : List Frame) : State where
  vm := { classes := classes, interned := interned.toArray }
  heap := heap
  slotsUsed := slotsUsed
  threads := #[{ frames := .invoking theMethod args0 :: below }]
def below0 : List Frame := [.native { method := ⟨0, 0⟩, args := #[] }]
def about1 : State := aboutOver below0
def p0 : Program := .bare "" "" ""
def e0 : Env := launch0.env 0 0 0
theorem w_frames : about1.frames = Frame.invoking theMethod args0 :: below0 := rfl
set_option maxRecDepth 65536 in
theorem w_args : argsFit about1.vm theMethod args0 = true := by decide +kernel
set_option maxRecDepth 65536 in
theorem w_heap : heapFits about1 = true := by decide +kernel
set_option maxRecDepth 65536 in
theorem w_runnable : about1.curStatus? = some .runnable := by decide +kernel
set_option maxRecDepth 65536 in
theorem w_alone : about1.alone = true := by decide +kernel
set_option maxRecDepth 65536 in
theorem w_named : about1.methodNamed? x = some theMethod := by decide +kernel
set_option maxRecDepth 65536 in
theorem w_hears : about1.hears theMethod below0 = true := by decide +kernel
set_option maxRecDepth 65536 in
theorem w_ripe : about1.ripe theMethod args0 below0 = true := by decide +kernel
theorem w_running : about1.status = .running := rfl
set_option maxRecDepth 65536 in
theorem w_room : about1.hasRoom e0.platform room_1 = true :=
  launch0.hasRoom_least _ room_1 (by decide +kernel) (by decide +kernel) (by decide +kernel) (by decide +kernel) (by decide +kernel) (by decide +kernel)
theorem allAtoms_all (ts : List Jvm.Cond) (a : Array Jvm.Value) (st : Jvm.State) : (allAtoms ts).before a st = ts.all (fun c => c.before a st) := by
  induction ts with
  | nil => rfl
  | cons c t ih =>
    show (Jvm.Cond.and c (allAtoms t)).before a st = _
    rw [Jvm.Cond.before_and, ih, List.all_cons]
def words1 : List Jvm.Cond := Jvm.Cond.code x code maxLocals ret :: tables_1
/-- a 'code' word, met by the world's own term for the bytes: nothing is compared byte by byte -/
theorem code_word {y : MethodName} {bytes : ByteArray} {mx : Nat} {rt : Option FieldType} {a : Array Value} {s : State} {m : MethodId} {meth : Method} {c : Code} (h1 : s.methodNamed? y = some m) (h2 : s.vm.method? m = some meth) (h3 : meth.code = some c) (h4 : c.code = bytes)
    (h5 : (c.maxLocals == mx && c.exceptionTable.isEmpty && decide (c.maxStack ≤ mostOperands) && decide (meth.sig.returnType = rt) && !meth.locks && decide (parseMethodDescriptor y.desc = some meth.sig)) = true) : (Jvm.Cond.code y bytes mx rt).before a s = true := by
  simp only [Bool.and_eq_true, beq_iff_eq, Bool.not_eq_true', decide_eq_true_eq] at h5
  obtain ⟨⟨⟨⟨⟨g1, g2⟩, g3⟩, g4⟩, g5⟩, g6⟩ := h5
  simp [Cond.before, Cond.holds, Cond.value, h1, h2, h3, h4, g1, g2, g3, g4, g5, g6]
def isCode : Jvm.Cond → Bool
  | .code _ _ _ _ => true
  | _ => false
theorem all_split {L : List Jvm.Cond} {P : Jvm.Cond → Bool} (h1 : L.all (fun c => isCode c || P c) = true) (h2 : ∀ c ∈ L.filter isCode, P c = true) : L.all P = true := by
  refine List.all_eq_true.mpr fun c hc => ?_
  have h := List.all_eq_true.mp h1 c hc
  rcases Bool.eq_false_or_eq_true (isCode c) with hi | hi
  · exact h2 c (List.mem_filter.mpr ⟨hc, hi⟩)
  · simpa [hi] using h
set_option maxRecDepth 65536 in
theorem w_c0 : (Jvm.Cond.code x code maxLocals ret).before args0 about1 = true := code_word (m := ⟨1, 1⟩) (meth := k1m1) (c := k1c1) (by decide +kernel) rfl rfl rfl (by decide +kernel)
set_option maxRecDepth 65536 in
theorem w_c1 : (Jvm.Cond.code ({ cls := "com/example/observable_archive/observablearchive/cli/IngestLoad", name := "value", desc := "(IJ)D" } : Jvm.MethodName) prog_2_method_2_code (3 : Nat) (Option.some Jvm.ClassFile.FieldType.double)).before args0 about1 = true := code_word (m := ⟨2, 0⟩) (meth := k2m0) (c := k2c0) (by decide +kernel) rfl rfl rfl (by decide +kernel)
def codes1 : List Jvm.Cond := [Jvm.Cond.code x code maxLocals ret, Jvm.Cond.code ({ cls := "com/example/observable_archive/observablearchive/cli/IngestLoad", name := "value", desc := "(IJ)D" } : Jvm.MethodName) prog_2_method_2_code (3 : Nat) (Option.some Jvm.ClassFile.FieldType.double)]
set_option maxRecDepth 65536 in
theorem codes_eq : words1.filter isCode = codes1 := rfl
theorem w_codes : ∀ c ∈ words1.filter isCode, c.before args0 about1 = true := by
  rw [codes_eq]
  intro c hc
  simp only [codes1, List.mem_cons, List.not_mem_nil, or_false] at hc
  rcases hc with rfl | rfl
  · exact w_c0
  · exact w_c1
set_option maxRecDepth 65536 in
theorem w_t1 : words1.all (fun c => isCode c || c.before args0 about1) = true := by decide +kernel
theorem w_tables : (allAtoms (Jvm.Cond.code x code maxLocals ret :: tables_1)).before args0 about1 = true := by
  rw [allAtoms_all]
  show words1.all (fun c => c.before args0 about1) = true
  refine all_split ?_ w_codes
  rw [w_t1]
set_option maxRecDepth 65536 in
theorem w_case : (Jvm.Cond.and given_1 narrow_1).before args0 about1 = true := by decide +kernel
theorem w_applies : (headSpec (Jvm.Cond.code x code maxLocals ret :: tables_1) room_1).applies x e0.platform about1 = true :=
  (Spec.applies_iff w_frames).mpr ⟨w_running, w_runnable, w_alone, w_named, w_hears, w_ripe, w_room, w_tables⟩
theorem atStart : AtStart classFile x code maxLocals ret World_1 tables_1 room_1 Calls_1 rest_1 Pre_1 launch0 p0 e0 about1 theMethod args0 below0 :=
  ⟨lists_1, trivial, launch0.admits_env _ _ _, launch0.least_env, fairChoices_fair.cas, fairChoices_fair.clock, w_frames, w_args, w_heap, w_applies, trivial, trivial, w_case⟩
end start1
theorem witness_1 : WitnessClaimed_1 := ⟨start1.p0, start1.e0, start1.about1, start1.theMethod, start1.args0, start1.below0, start1.atStart⟩
end Jvm.Pilot.@@N@@
