import JvmDerived
import JvmDerived.Pilot.@@N@@Statement
import JvmDerived.Pilot.@@N@@Code
set_option linter.unusedVariables false
set_option linter.unusedSimpArgs false
namespace Jvm.Pilot.@@N@@
open Jvm Jvm.ClassFile Sem Op Lib Jvm.Free Jvm.Stand Jvm.LawKit Jvm.RoadKit Bundle Jvm.Pilot.@@N@@.Jvm.D
section Own
variable {p : Program} {l : Launch} {e : Env} {R : Room} {s : State} {m : MethodId} {args : Array Value} {below : List Frame} {meth : Method} {c : Code} {T : State} {locs : List Loc} {cells slots : Nat} {Z : State} {a0 : Array Value} {h h' : Heap} {rc rs : Nat} {Q Qc : Option Value → Heap → List Loc → Prop}
/-- from here the run comes to its end, and leaves what Q says -/
def GG (p : Program) (e : Env) (below : List Frame) (s : State) (rc rs : Nat) (Q : Option Value → Heap → List Loc → Prop) (T : State) (g : JFrame) : Prop :=
  ∃ s₂ o, Steps p.tables e below (T.setTop g) s₂ ∧ s₂.status = .running ∧ Ended s₂ below o ∧ ∃ v L, o = .returned v ∧ Q v s₂.heap L ∧ FrameEnd s o s₂ L rc rs
theorem own_go {T' : State} {g g' : JFrame} (st : ∀ t, Steps p.tables e below (T'.setTop g') t → Steps p.tables e below (T.setTop g) t) (k : GG p e below s rc rs Q T' g') : GG p e below s rc rs Q T g := by
  obtain ⟨s₂, o, h1, h2⟩ := k
  exact ⟨s₂, o, st _ h1, h2⟩
theorem own_in {g g' : JFrame} (q : g = g') (k : GG p e below s rc rs Q T g') : GG p e below s rc rs Q T g := q ▸ k
theorem own_if {g1 g2 : JFrame} {P : Prop} [Decidable P] (k1 : P → GG p e below s rc rs Q T g1) (k2 : ¬ P → GG p e below s rc rs Q T g2) : GG p e below s rc rs Q T (if P then g1 else g2) := by
  by_cases q : P
  · rw [if_pos q]; exact k1 q
  · rw [if_neg q]; exact k2 q
theorem own_join {g g' : JFrame} (k1 : GG p e below s rc rs Q T g' → GG p e below s rc rs Q T g) (k2 : GG p e below s rc rs Q T g') : GG p e below s rc rs Q T g := k1 k2
abbrev own_CT (l : Launch) (Z : State) (y : MethodName) (bytes : ByteArray) (maxL : Nat) (ret : Option FieldType) (ws : List Jvm.Cond) (rm : Room) (as : Array Value) (h : Heap) (Qc : Option Value → Heap → List Loc → Prop) : Prop :=
  MetFree l y (head1 (Jvm.Cond.code y bytes maxL ret :: ws) rm) (fun a U => a = as ∧ Z.Warmed39 U.vm ∧ U.heap = h) (fun _ _ _ _ _ => True) (fun _ U o U' => ∃ v L, o = .returned v ∧ Qc v U'.heap L ∧ FrameEnd U o U' L rm.cells rm.slots)
theorem own_callS (X : Stand p l e R s m args below meth c T locs cells slots) (hx : p.tables.exec = Jvm.exec) (hZ : Z.Warmed39 s.vm) {own : String} {index : Nat} {y : MethodName} {bytes : ByteArray} {maxL : Nat} {ret : Option FieldType} {rm : Room} (W : Nat)
    (hown : s.vm.findClass own = some m.cls) (w1 : (Jvm.Cond.methodLink own index y).before a0 Z = true) (w2 : (Jvm.Cond.static y).before a0 Z = true) (w3 : (Jvm.Cond.initialized y.cls).before a0 Z = true) (w4 : (Jvm.Cond.code y bytes maxL ret).before a0 Z = true)
    (hy : y.cls ≠ "java/lang/invoke/MethodHandle" ∧ y.cls ≠ "java/lang/invoke/VarHandle") {argsL rest : List Value} (hM : own_CT l Z y bytes maxL ret [] rm argsL.toArray h Qc)
    (hf : rm.frames + 1 ≤ R.frames) (hl : W + (maxL + 11) + rm.locals ≤ R.locals) (hc : cells + rm.cells ≤ R.cells) (hs : slots + rm.slots ≤ R.slots)
    {g : JFrame} (hg : g.method = m) (hsize : g.locals.size = c.maxLocals) (hlen : ∀ sig, parseMethodDescriptor y.desc = some sig → argsL.length = sig.parameters.length) (hstack : g.stack = argsL.reverse ++ rest) (hW : 2 * g.monitorRoom + (rest.map fun v => v.category).sum ≤ W)
    (hdg : decode c.code g.pc = .ok (.invokestatic index, 3)) (eT : T.heap = h)
    (k : ∀ (v : Option Value) (T' : State) (L : List Loc), Stand p l e R s m args below meth c T' (locs ++ L) (cells + rm.cells) (slots + rm.slots) → Qc v T'.heap L → GG p e below s rc rs Q T' { g with pc := g.pc + 3, stack := v.toList ++ rest }) : GG p e below s rc rs Q T g := by
  obtain ⟨v, vm₁, ⟨T', L', k', n'⟩, -, X', ⟨L, hQ, q1, q2, q3⟩, st⟩ := Jvm.LawKit.callS X hx hown (mvT hZ w1) (mvT hZ w2) (mvT hZ w3) (mvT hZ w4) hy (backOf (W := W) hM hZ w4 w3 hf hl) hg hsize hlen hstack hW hdg (fun _ _ => ⟨rfl, eT, hc, hs⟩)
  dsimp only [Pt.U, Pt.locs, Pt.cells, Pt.slots] at X' q1 q2 q3 st hQ
  subst q1 q2 q3
  exact own_go st (k v T' L X' hQ)
theorem own_callI (X : Stand p l e R s m args below meth c T locs cells slots) (hx : p.tables.exec = Jvm.exec) (hZ : Z.Warmed39 s.vm) {own : String} {index : Nat} {y : MethodName} {bytes : ByteArray} {maxL : Nat} {rm : Room} (W : Nat) (hy1 : y.name = "<init>")
    (hown : s.vm.findClass own = some m.cls) (w1 : (Jvm.Cond.methodLink own index y).before a0 Z = true) (w2 : (Jvm.Cond.instanceMethod y).before a0 Z = true) (w3 : (Jvm.Cond.initialized y.cls).before a0 Z = true) (w4 : (Jvm.Cond.code y bytes maxL none).before a0 Z = true)
    (hy : y.cls ≠ "java/lang/invoke/MethodHandle" ∧ y.cls ≠ "java/lang/invoke/VarHandle") {a : Addr} {argsL rest : List Value} (hM : own_CT l Z y bytes maxL none [] rm (.ref a :: argsL).toArray h Qc)
    (hf : rm.frames + 1 ≤ R.frames) (hl : W + (maxL + 11) + rm.locals ≤ R.locals) (hc : cells + rm.cells ≤ R.cells) (hs : slots + rm.slots ≤ R.slots)
    {g : JFrame} (hg : g.method = m) (hsize : g.locals.size = c.maxLocals) (hlen : ∀ sig, parseMethodDescriptor y.desc = some sig → argsL.length = sig.parameters.length) (hstack : g.stack = argsL.reverse ++ .ref a :: rest) (hW : 2 * g.monitorRoom + (rest.map fun v => v.category).sum ≤ W)
    (hdg : decode c.code g.pc = .ok (.invokespecial index, 3)) (eT : T.heap = h)
    (k : ∀ (v : Option Value) (T' : State) (L : List Loc), Stand p l e R s m args below meth c T' (locs ++ L) (cells + rm.cells) (slots + rm.slots) → Qc v T'.heap L → GG p e below s rc rs Q T' { g with pc := g.pc + 3, stack := v.toList ++ rest }) : GG p e below s rc rs Q T g := by
  obtain ⟨v, vm₁, ⟨T', L', k', n'⟩, -, X', ⟨L, hQ, q1, q2, q3⟩, st⟩ := X.specialBack hx hy1 hown (mvT hZ w1) (mvT hZ w2) (mvT hZ w4) hy (backOf (W := W) hM hZ w4 w3 hf hl) hg hsize (Steps.refl _) hlen hstack hW hdg (fun _ _ => ⟨rfl, eT, hc, hs⟩)
  dsimp only [Pt.U, Pt.locs, Pt.cells, Pt.slots] at X' q1 q2 q3 st hQ
  subst q1 q2 q3
  exact own_go (fun _ => st.trans) (k v T' L X' hQ)
theorem own_callV (X : Stand p l e R s m args below meth c T locs cells slots) (hx : p.tables.exec = Jvm.exec) (hZ : Z.Warmed39 s.vm) {own C : String} {index : Nat} {y z : MethodName} {bytes : ByteArray} {maxL : Nat} {ret : Option FieldType} {rm : Room} (W : Nat)
    (hown : s.vm.findClass own = some m.cls) (w1 : (Jvm.Cond.methodLink own index y).before a0 Z = true) (w2 : (Jvm.Cond.declares y).before a0 Z = true) (hnf : NotFace s y) (w5 : (Jvm.Cond.selects C y z).before a0 Z = true) (w6 : (Jvm.Cond.instanceMethod z).before a0 Z = true) (w3 : (Jvm.Cond.initialized z.cls).before a0 Z = true) (w4 : (Jvm.Cond.code z bytes maxL ret).before a0 Z = true)
    (hy : y.cls ≠ "java/lang/invoke/MethodHandle" ∧ y.cls ≠ "java/lang/invoke/VarHandle") {a : Addr} {argsL rest : List Value} (hM : own_CT l Z z bytes maxL ret [] rm (.ref a :: argsL).toArray h Qc)
    (hf : rm.frames + 1 ≤ R.frames) (hl : W + (maxL + 11) + rm.locals ≤ R.locals) (hc : cells + rm.cells ≤ R.cells) (hs : slots + rm.slots ≤ R.slots) (E : Exa Z h a C)
    {g : JFrame} (hg : g.method = m) (hsize : g.locals.size = c.maxLocals) (hlen : ∀ sig, parseMethodDescriptor y.desc = some sig → argsL.length = sig.parameters.length) (hstack : g.stack = argsL.reverse ++ .ref a :: rest) (hW : 2 * g.monitorRoom + (rest.map fun v => v.category).sum ≤ W)
    (hdg : decode c.code g.pc = .ok (.invokevirtual index, 3)) (eT : T.heap = h)
    (k : ∀ (v : Option Value) (T' : State) (L : List Loc), Stand p l e R s m args below meth c T' (locs ++ L) (cells + rm.cells) (slots + rm.slots) → Qc v T'.heap L → GG p e below s rc rs Q T' { g with pc := g.pc + 3, stack := v.toList ++ rest }) : GG p e below s rc rs Q T g := by
  obtain ⟨cq, kq, qa, qb, qc⟩ := isOf hZ eT E
  obtain ⟨v, vm₁, ⟨T', L', k', n'⟩, -, X', ⟨L, hQ, q1, q2, q3⟩, st⟩ := X.virtualBack hx hown (mvT hZ w1) (mvT hZ w2) hnf (mvT hZ w5) (mvT hZ w6) hy (backOf (W := W) hM hZ w4 w3 hf hl) qa qc hg hsize (Steps.refl _) hlen hstack hW hdg (fun _ _ => ⟨rfl, eT, hc, hs⟩)
  dsimp only [Pt.U, Pt.locs, Pt.cells, Pt.slots] at X' q1 q2 q3 st hQ
  subst q1 q2 q3
  exact own_go (fun _ => st.trans) (k v T' L X' hQ)
theorem own_callP (X : Stand p l e R s m args below meth c T locs cells slots) (hx : p.tables.exec = Jvm.exec) (hZ : Z.Warmed39 s.vm) {own C : String} {index : Nat} {y : MethodName} {bytes : ByteArray} {maxL : Nat} {ret : Option FieldType} {rm : Room} (W : Nat)
    (hown : s.vm.findClass own = some m.cls) (w1 : (Jvm.Cond.methodLink own index y).before a0 Z = true) (w2 : (Jvm.Cond.instanceMethod y).before a0 Z = true) {kk : Nat} (w5 : (Jvm.Cond.instantiable y.cls kk).before a0 Z = true) (w6 : (Jvm.Cond.privateMethod y).before a0 Z = true) (w3 : (Jvm.Cond.initialized y.cls).before a0 Z = true) (w4 : (Jvm.Cond.code y bytes maxL ret).before a0 Z = true)
    (hy : y.cls ≠ "java/lang/invoke/MethodHandle" ∧ y.cls ≠ "java/lang/invoke/VarHandle") {a : Addr} {argsL rest : List Value} (hM : own_CT l Z y bytes maxL ret [] rm (.ref a :: argsL).toArray h Qc)
    (hf : rm.frames + 1 ≤ R.frames) (hl : W + (maxL + 11) + rm.locals ≤ R.locals) (hc : cells + rm.cells ≤ R.cells) (hs : slots + rm.slots ≤ R.slots) (E : Exa Z h a C)
    {g : JFrame} (hg : g.method = m) (hsize : g.locals.size = c.maxLocals) (hlen : ∀ sig, parseMethodDescriptor y.desc = some sig → argsL.length = sig.parameters.length) (hstack : g.stack = argsL.reverse ++ .ref a :: rest) (hW : 2 * g.monitorRoom + (rest.map fun v => v.category).sum ≤ W)
    (hdg : decode c.code g.pc = .ok (.invokevirtual index, 3)) (eT : T.heap = h)
    (k : ∀ (v : Option Value) (T' : State) (L : List Loc), Stand p l e R s m args below meth c T' (locs ++ L) (cells + rm.cells) (slots + rm.slots) → Qc v T'.heap L → GG p e below s rc rs Q T' { g with pc := g.pc + 3, stack := v.toList ++ rest }) : GG p e below s rc rs Q T g := by
  obtain ⟨cq, q, q'⟩ := E.cell
  have hpr : s.PrivateAt y := Cond.privateMethod_at (mvP hZ w6 (args := #[]))
  obtain ⟨c1, k1, i1, i2, -, i4, -⟩ := Cond.instantiable_spec (show (Jvm.Cond.instantiable y.cls kk).before args s = true from mv hZ w5)
  have hsel : (Jvm.Cond.selects y.cls y y).before args s = true := selects_self_of_private i1 i2 (Bool.or_eq_false_iff.mp i4).1 hpr (mvT hZ w2) hy
  obtain ⟨v, vm₁, ⟨T', L', k', n'⟩, -, X', ⟨L, hQ, q1, q2, q3⟩, st⟩ := X.privateBack hx hown (mvT hZ w1) (mvT hZ w2) hsel hpr (mvT hZ w4) hy (backOf (W := W) hM hZ w4 w3 hf hl) hg hsize (Steps.refl _) (by rw [eT]; exact q) q' hlen hstack hW hdg (fun _ _ => ⟨rfl, eT, hc, hs⟩)
  dsimp only [Pt.U, Pt.locs, Pt.cells, Pt.slots] at X' q1 q2 q3 st hQ
  subst q1 q2 q3
  exact own_go (fun _ => st.trans) (k v T' L X' hQ)
theorem own_ret (X : Stand p l e R s m args below meth c T locs cells slots) (hx : p.tables.exec = Jvm.exec) (hlk : meth.locks = false) {t : FieldType} {w : Value} {i : Instr} {pc : Nat} {Ls : Array Slot} {rest : List Value} (hret : meth.sig.returnType = some t) (hn : narrow t w = w)
    (hi : (i = .ireturn ∧ (t = .int ∨ t = .boolean ∨ t = .byte ∨ t = .char ∨ t = .short) ∧ ∃ z, w = .int z) ∨ (i = .lreturn ∧ t = .long ∧ ∃ z, w = .long z) ∨ (i = .dreturn ∧ t = .double ∧ ∃ z, w = .double z) ∨ (i = .freturn ∧ t = .float ∧ ∃ z, w = .float z) ∨ (i = .areturn ∧ t.isReference = true ∧ w.isRef = true))
    (hd : decode c.code pc = .ok (i, 1)) (hc : cells ≤ rc) (hs : slots ≤ rs) (hQ : Q (some w) T.heap locs) : GG p e below s rc rs Q T (mkF m pc Ls (w :: rest)) := by
  obtain ⟨fs, hr, hrun, hended, hW, hsame⟩ := X.leave (v := some w) (fun h => by rw [hret] at h; cases h) hlk
  exact ⟨_, _, retOut X hx hret hn hi hd hr, hrun, hended, _, _, rfl, hQ, ⟨_, rfl⟩, hW, hsame.mono hc hs⟩
theorem own_retV (X : Stand p l e R s m args below meth c T locs cells slots) (hx : p.tables.exec = Jvm.exec) (hlk : meth.locks = false) {pc : Nat} {Ls : Array Slot} (hret : meth.sig.returnType = none)
    (hd : decode c.code pc = .ok (.return_, 1)) (hc : cells ≤ rc) (hs : slots ≤ rs) (hQ : Q none T.heap locs) : GG p e below s rc rs Q T (mkF m pc Ls []) := by
  obtain ⟨fs, hr, hrun, hended, hW, hsame⟩ := X.leave (v := none) (fun _ => rfl) hlk
  exact ⟨_, _, X.returnOut hx hret hd hr, hrun, hended, _, _, rfl, hQ, ⟨_, rfl⟩, hW, hsame.mono hc hs⟩
theorem own_nZ {P : Prop} [Decidable P] : narrow .boolean (.int (if P then 1 else 0)) = .int (if P then 1 else 0) := by split <;> rfl
/-- an array of values, all of them named -/
def Arx (Z : State) (h : Heap) (a : Addr) (ty : FieldType) (vs : List Value) : Prop := vs.length < 2 ^ 31 ∧ ∃ k dv, Arv Z h a k ty (Int32.ofNat vs.length) vs dv
variable {a b : Addr} {ty : FieldType} {vs : List Value}
theorem own_ofNat {n : Nat} (q : n < 2 ^ 31) : (Int32.ofNat n).toInt = n := Int32.toInt_ofNat_of_lt q
theorem own_clamp {n : Nat} (q : n < 2 ^ 31) : (Int32.ofNat n).toNatClampNeg = n := by simp only [Int32.toNatClampNeg, own_ofNat q]; rfl
theorem Arx.lt (V : Arx Z h a ty vs) : a < h.size := by obtain ⟨_, k, dv, V⟩ := V; exact V.lt
theorem Arx.ext (V : Arx Z h a ty vs) (E : Ext h h') : Arx Z h' a ty vs := by obtain ⟨q, k, dv, V⟩ := V; exact ⟨q, k, dv, V.ext E⟩
theorem Arx.other {sl : Nat} {v : Value} (V : Arx Z h b ty vs) (W : Wr h h' a sl v) (n : b ≠ a) : Arx Z h' b ty vs := by obtain ⟨q, k, dv, V⟩ := V; exact ⟨q, k, dv, V.other W n⟩
theorem Arx.keep {ws : List Addr} (V : Arx Z h a ty vs) (K : Keep h h' ws) (n : a ∉ ws) : Arx Z h' a ty vs := by obtain ⟨q, k, dv, V⟩ := V; exact ⟨q, k, dv, V.keep K n⟩
theorem Arx.open {j : Int32} {v : Value} (V : Arx Z h a ty vs) (h0 : ¬ j < 0) (hv : vs[j.toNatClampNeg]? = some v) : ∃ cl, Arr Z h a cl ty ∧ ¬ (j < 0 ∨ cl.slots.size ≤ j.toNatClampNeg) ∧ cl.slots[j.toNatClampNeg]? = some v := by
  obtain ⟨q, k, dv, cl, A, -, S, -, H, -⟩ := V
  rw [own_clamp q] at S
  have hl := (List.getElem?_eq_some_iff.mp hv).1
  have e := H j.toNatClampNeg (by rw [S]; exact hl)
  rw [List.getD_eq_getElem?_getD, hv] at e
  exact ⟨cl, A, fun q' => q'.elim h0 (by rw [S]; exact Nat.not_le.mpr hl), e⟩
theorem own_len (X : Stand p l e R s m args below meth c T locs cells slots) (hx : p.tables.exec = Jvm.exec) (hZ : Z.Warmed39 s.vm) (eT : T.heap = h) (V : Arx Z h a ty vs) {g : JFrame} (hg : g.method = m) {rest : List Value} (hs : g.stack = .ref a :: rest) (hd : decode c.code g.pc = .ok (.arraylength, 1)) :
    ∀ t, Steps p.tables e below (T.setTop { g with pc := g.pc + 1, stack := .int (Int32.ofNat vs.length) :: rest }) t → Steps p.tables e below (T.setTop g) t := fun t k => by
  obtain ⟨q, k', dv, cl, A, -, S, N, -⟩ := V
  refine X.arraylength hx (by rw [eT]; exact A.1) (State.isArrayOf_alike hZ.alike A.2.1) hg hs hd _ ?_
  rw [len_of S N]; exact k
theorem own_iaload (X : Stand p l e R s m args below meth c T locs cells slots) (hx : p.tables.exec = Jvm.exec) (hZ : Z.Warmed39 s.vm) (eT : T.heap = h) (V : Arx Z h a .int vs) {j : Int32} {v : Value} (h0 : ¬ j < 0) (hv : vs[j.toNatClampNeg]? = some v) {g : JFrame} (hg : g.method = m) {rest : List Value} (hs : g.stack = .int j :: .ref a :: rest) (hd : decode c.code g.pc = .ok (.iaload, 1)) :
    ∀ t, Steps p.tables e below (T.setTop { g with pc := g.pc + 1, stack := v :: rest }) t → Steps p.tables e below (T.setTop g) t := fun t k => by
  obtain ⟨cl, A, h1, h2⟩ := V.open h0 hv
  exact X.iaload hx (by rw [eT]; exact A.1) (State.isArrayOf_alike hZ.alike A.2.1) A.2.2 h1 h2 hg hs hd _ k
theorem own_laload (X : Stand p l e R s m args below meth c T locs cells slots) (hx : p.tables.exec = Jvm.exec) (hZ : Z.Warmed39 s.vm) (eT : T.heap = h) (V : Arx Z h a .long vs) {j : Int32} {v : Value} (h0 : ¬ j < 0) (hv : vs[j.toNatClampNeg]? = some v) {g : JFrame} (hg : g.method = m) {rest : List Value} (hs : g.stack = .int j :: .ref a :: rest) (hd : decode c.code g.pc = .ok (.laload, 1)) :
    ∀ t, Steps p.tables e below (T.setTop { g with pc := g.pc + 1, stack := v :: rest }) t → Steps p.tables e below (T.setTop g) t := fun t k => by
  obtain ⟨cl, A, h1, h2⟩ := V.open h0 hv
  exact X.laload hx (by rw [eT]; exact A.1) (State.isArrayOf_alike hZ.alike A.2.1) A.2.2 h1 h2 hg hs hd _ k
theorem own_caload (X : Stand p l e R s m args below meth c T locs cells slots) (hx : p.tables.exec = Jvm.exec) (hZ : Z.Warmed39 s.vm) (eT : T.heap = h) (V : Arx Z h a .char vs) {j : Int32} {v : Value} (h0 : ¬ j < 0) (hv : vs[j.toNatClampNeg]? = some v) {g : JFrame} (hg : g.method = m) {rest : List Value} (hs : g.stack = .int j :: .ref a :: rest) (hd : decode c.code g.pc = .ok (.caload, 1)) :
    ∀ t, Steps p.tables e below (T.setTop { g with pc := g.pc + 1, stack := v :: rest }) t → Steps p.tables e below (T.setTop g) t := fun t k => by
  obtain ⟨cl, A, h1, h2⟩ := V.open h0 hv
  exact X.caload hx (by rw [eT]; exact A.1) (State.isArrayOf_alike hZ.alike A.2.1) A.2.2 h1 h2 hg hs hd _ k
theorem own_baload (X : Stand p l e R s m args below meth c T locs cells slots) (hx : p.tables.exec = Jvm.exec) (hZ : Z.Warmed39 s.vm) (eT : T.heap = h) (V : Arx Z h a .byte vs) {j : Int32} {v : Value} (h0 : ¬ j < 0) (hv : vs[j.toNatClampNeg]? = some v) {g : JFrame} (hg : g.method = m) {rest : List Value} (hs : g.stack = .int j :: .ref a :: rest) (hd : decode c.code g.pc = .ok (.baload, 1)) :
    ∀ t, Steps p.tables e below (T.setTop { g with pc := g.pc + 1, stack := v :: rest }) t → Steps p.tables e below (T.setTop g) t := fun t k => by
  obtain ⟨cl, A, h1, h2⟩ := V.open h0 hv
  exact X.baloadBytes hx (by rw [eT]; exact A.1) (State.isArrayOf_alike hZ.alike A.2.1) A.2.2 h1 h2 hg hs hd _ k
theorem own_aaload (X : Stand p l e R s m args below meth c T locs cells slots) (hx : p.tables.exec = Jvm.exec) (hZ : Z.Warmed39 s.vm) (eT : T.heap = h) (V : Arx Z h a ty vs) (ht : ty.isReference = true) {j : Int32} {v : Value} (h0 : ¬ j < 0) (hv : vs[j.toNatClampNeg]? = some v) {g : JFrame} (hg : g.method = m) {rest : List Value} (hs : g.stack = .int j :: .ref a :: rest) (hd : decode c.code g.pc = .ok (.aaload, 1)) :
    ∀ t, Steps p.tables e below (T.setTop { g with pc := g.pc + 1, stack := v :: rest }) t → Steps p.tables e below (T.setTop g) t := fun t k => by
  obtain ⟨cl, A, h1, h2⟩ := V.open h0 hv
  exact X.aaload hx (by rw [eT]; exact A.1) (State.isArrayOf_alike hZ.alike A.2.1) ht A.2.2 h1 h2 hg hs hd _ k
theorem Arx.put {j : Int32} {v : Value} (V : Arx Z h a ty vs) (h0 : ¬ j < 0) (hj : j.toNatClampNeg < vs.length) (hv : fits ty v = true) : ∃ cl, Arr Z h a cl ty ∧ ¬ (j < 0 ∨ cl.slots.size ≤ j.toNatClampNeg) ∧ ∀ {h' : Heap}, Wr h h' a j.toNatClampNeg v → Arx Z h' a ty (vs.set j.toNatClampNeg v) := by
  obtain ⟨q, k, dv, cl, A, q1, S, N, H, G⟩ := V
  refine ⟨cl, A, fun q' => q'.elim h0 ?_, fun W => ⟨by rw [List.length_set]; exact q, k, dv, ?_⟩⟩
  · rw [S, own_clamp q]; exact Nat.not_le.mpr hj
  · rw [List.length_set]; exact Arv.set A q1 S N H G hv W _ rfl hj
theorem own_iastore (X : Stand p l e R s m args below meth c T locs cells slots) (hx : p.tables.exec = Jvm.exec) (hZ : Z.Warmed39 s.vm) (eT : T.heap = h) (V : Arx Z h a .int vs) {j x : Int32} (h0 : ¬ j < 0) (hj : j.toNatClampNeg < vs.length) {g : JFrame} (hg : g.method = m) {rest : List Value} (hs : g.stack = .int x :: .int j :: .ref a :: rest) (hd : decode c.code g.pc = .ok (.iastore, 1)) :
    ∃ T' h', Stand p l e R s m args below meth c T' (locs ++ [⟨a, j.toNatClampNeg⟩]) cells slots ∧ T'.heap = h' ∧ Wr h h' a j.toNatClampNeg (.int x) ∧ Arx Z h' a .int (vs.set j.toNatClampNeg (.int x)) ∧ ∀ t, Steps p.tables e below (T'.setTop { g with pc := g.pc + 1, stack := rest }) t → Steps p.tables e below (T.setTop g) t := by
  obtain ⟨cl, A, h1, h2⟩ := V.put (v := .int x) h0 hj rfl
  obtain ⟨T', h', X', e', W, st⟩ := stI X hx hZ eT A h1 hg hs hd
  exact ⟨T', h', X', e', W, h2 W, st⟩
theorem own_lastore (X : Stand p l e R s m args below meth c T locs cells slots) (hx : p.tables.exec = Jvm.exec) (hZ : Z.Warmed39 s.vm) (eT : T.heap = h) (V : Arx Z h a .long vs) {j : Int32} {x : Int64} (h0 : ¬ j < 0) (hj : j.toNatClampNeg < vs.length) {g : JFrame} (hg : g.method = m) {rest : List Value} (hs : g.stack = .long x :: .int j :: .ref a :: rest) (hd : decode c.code g.pc = .ok (.lastore, 1)) :
    ∃ T' h', Stand p l e R s m args below meth c T' (locs ++ [⟨a, j.toNatClampNeg⟩]) cells slots ∧ T'.heap = h' ∧ Wr h h' a j.toNatClampNeg (.long x) ∧ Arx Z h' a .long (vs.set j.toNatClampNeg (.long x)) ∧ ∀ t, Steps p.tables e below (T'.setTop { g with pc := g.pc + 1, stack := rest }) t → Steps p.tables e below (T.setTop g) t := by
  obtain ⟨cl, A, h1, h2⟩ := V.put (v := .long x) h0 hj rfl
  obtain ⟨T', h', X', e', W, st⟩ := stJ X hx hZ eT A h1 hg hs hd
  exact ⟨T', h', X', e', W, h2 W, st⟩
theorem own_castore (X : Stand p l e R s m args below meth c T locs cells slots) (hx : p.tables.exec = Jvm.exec) (hZ : Z.Warmed39 s.vm) (eT : T.heap = h) (V : Arx Z h a .char vs) {j x : Int32} (h0 : ¬ j < 0) (hj : j.toNatClampNeg < vs.length) {g : JFrame} (hg : g.method = m) {rest : List Value} (hs : g.stack = .int x :: .int j :: .ref a :: rest) (hd : decode c.code g.pc = .ok (.castore, 1)) :
    ∃ T' h', Stand p l e R s m args below meth c T' (locs ++ [⟨a, j.toNatClampNeg⟩]) cells slots ∧ T'.heap = h' ∧ Wr h h' a j.toNatClampNeg (.int (nar .char x)) ∧ Arx Z h' a .char (vs.set j.toNatClampNeg (.int (nar .char x))) ∧ ∀ t, Steps p.tables e below (T'.setTop { g with pc := g.pc + 1, stack := rest }) t → Steps p.tables e below (T.setTop g) t := by
  obtain ⟨cl, A, h1, h2⟩ := V.put (v := .int (nar .char x)) h0 hj (fits_nar_char _)
  obtain ⟨T', h', X', e', W, st⟩ := stC X hx hZ eT A h1 hg hs hd
  exact ⟨T', h', X', e', W, h2 W, st⟩
theorem own_bastore (X : Stand p l e R s m args below meth c T locs cells slots) (hx : p.tables.exec = Jvm.exec) (hZ : Z.Warmed39 s.vm) (eT : T.heap = h) (V : Arx Z h a .byte vs) {j x : Int32} (h0 : ¬ j < 0) (hj : j.toNatClampNeg < vs.length) {g : JFrame} (hg : g.method = m) {rest : List Value} (hs : g.stack = .int x :: .int j :: .ref a :: rest) (hd : decode c.code g.pc = .ok (.bastore, 1)) :
    ∃ T' h', Stand p l e R s m args below meth c T' (locs ++ [⟨a, j.toNatClampNeg⟩]) cells slots ∧ T'.heap = h' ∧ Wr h h' a j.toNatClampNeg (.int (nar .byte x)) ∧ Arx Z h' a .byte (vs.set j.toNatClampNeg (.int (nar .byte x))) ∧ ∀ t, Steps p.tables e below (T'.setTop { g with pc := g.pc + 1, stack := rest }) t → Steps p.tables e below (T.setTop g) t := by
  obtain ⟨cl, A, h1, h2⟩ := V.put (v := .int (nar .byte x)) h0 hj (fits_nar_byte _)
  obtain ⟨T', h', X', e', W, st⟩ := stB X hx hZ eT A h1 hg hs hd
  exact ⟨T', h', X', e', W, h2 W, st⟩
theorem own_newarr (X : Stand p l e R s m args below meth c T locs cells slots) (hx : p.tables.exec = Jvm.exec) (hZ : Z.Warmed39 s.vm) {aty : ArrayType} (w : (Jvm.Cond.arrayClass (newarray.typeOf aty)).before a0 Z = true) (eT : T.heap = h) {g : JFrame} (hg : g.method = m) (hd : decode c.code g.pc = .ok (.newarray aty, 2)) {n : Int32} {rest : List Value} (hs : g.stack = .int n :: rest)
    (hn : ¬ n < 0) {cap : Nat} (hcap : n.toNatClampNeg ≤ cap) (hb : cap * 8 ≤ 536870912) (hc : cells + 1 ≤ R.cells) (hl : slots + cap ≤ R.slots) {ad : String} (had : "[" ++ (newarray.typeOf aty).toString = ad) :
    ∃ T' h' a, a = h.size ∧ Stand p l e R s m args below meth c T' locs (cells + 1) (slots + cap) ∧ T'.heap = h' ∧ Ext h h' ∧ Arx Z h' a (newarray.typeOf aty) (List.replicate n.toNatClampNeg (defaultValue (newarray.typeOf aty))) ∧ Exa Z h' a ad ∧
      ∀ t, Steps p.tables e below (T'.setTop { g with pc := g.pc + 2, stack := .ref a :: rest }) t → Steps p.tables e below (T.setTop g) t := by
  obtain ⟨T', h', cA, X', e', E, A, Ex, st⟩ := newPE X hx hZ w eT hg hd hs hn hcap hb hc hl had
  have b := back32 hn
  refine ⟨T', h', _, rfl, X', e', E, ⟨by rw [List.length_replicate]; exact b.2, cA, defaultValue (newarray.typeOf aty), ?_⟩, Ex, st⟩
  rw [List.length_replicate, show Int32.ofNat n.toNatClampNeg = n from b.1]
  exact (Arv.new A hn).pad (pad_rep [] _ _)
theorem own_clone (X : Stand p l e R s m args below meth c T locs cells slots) (hx : p.tables.exec = Jvm.exec) (hZ : Z.Warmed39 s.vm) {own ad : String} {index : Nat} (hown : s.vm.findClass own = some m.cls)
    (w1 : (Jvm.Cond.methodLink own index ⟨ad, "clone", "()Ljava/lang/Object;"⟩).before a0 Z = true) (w2 : (Jvm.Cond.sameMethod ad "java/lang/Object" "clone" "()Ljava/lang/Object;").before a0 Z = true) (w3 : (Jvm.Cond.native ⟨"java/lang/Object", "clone", "()Ljava/lang/Object;"⟩).before a0 Z = true)
    (w4 : (Jvm.Cond.instanceMethod ⟨"java/lang/Object", "clone", "()Ljava/lang/Object;"⟩).before a0 Z = true) (w5 : (Jvm.Cond.selects ad ⟨ad, "clone", "()Ljava/lang/Object;"⟩ ⟨"java/lang/Object", "clone", "()Ljava/lang/Object;"⟩).before a0 Z = true) (w6 : (Jvm.Cond.castable ad "java/lang/Cloneable").before a0 Z = true)
    (eT : T.heap = h) (V : Arx Z h a ty vs) (E : Exa Z h a ad) {g : JFrame} (hg : g.method = m) (hsize : g.locals.size = c.maxLocals) {rest : List Value} (hst : g.stack = .ref a :: rest) (hd : decode c.code g.pc = .ok (.invokevirtual index, 3))
    (hf : 1 ≤ R.frames) {W cap : Nat} (hW : 2 * g.monitorRoom + (rest.map fun v => v.category).sum ≤ W) (hl : W + 14 ≤ R.locals) (hcap : vs.length ≤ cap) (hc : cells + 1 ≤ R.cells) (hsl : slots + cap ≤ R.slots) :
    ∃ T' h' b, b = h.size ∧ Stand p l e R s m args below meth c T' locs (cells + 1) (slots + cap) ∧ T'.heap = h' ∧ Ext h h' ∧ Arx Z h' b ty vs ∧ Exa Z h' b ad ∧
      ∀ t, Steps p.tables e below (T'.setTop { g with pc := g.pc + 3, stack := .ref b :: rest }) t → Steps p.tables e below (T.setTop g) t := by
  obtain ⟨q, k, dv, V⟩ := V
  obtain ⟨T', h', X', e', ex, V', E', st⟩ := cloneH X hx hZ hown w1 w2 w3 w4 w5 w6 eT V.arh E hg hsize hst hd hf hW hl (by rw [own_clamp q]; exact hcap) hc hsl
  exact ⟨T', h', _, rfl, X', e', ex, ⟨q, k, dv, V'⟩, E', st⟩
end Own
/-- the number of zeros ahead of u's first one, in a word of W bits -/
def NLZ (u : Int) (W : Nat) (r : Int32) : Prop := (u = 0 ∧ r.toInt = W) ∨ ∃ k : Nat, k < W ∧ r.toInt = W - 1 - k ∧ ((2 ^ k : Nat) : Int) ≤ u ∧ u < ((2 ^ (k + 1) : Nat) : Int)
theorem own_nl {u : Int} {r : Int32} (b B : Nat) (hB : 2 ^ b = B) (hb : b ≤ 30) (h : (B : Int) ≤ u ∧ u < 4 * B) (h1 : u < 2 * B → r.toInt = 31 - b) (h2 : 2 * B ≤ u → r.toInt = 30 - b) : NLZ u 32 r := by
  rcases Int.lt_or_le u (2 * B) with q | q
  · refine Or.inr ⟨b, by omega, by rw [h1 q]; omega, by rw [hB]; exact h.1, ?_⟩
    rw [Nat.pow_succ, hB]; omega
  · refine Or.inr ⟨b + 1, by omega, by rw [h2 q]; omega, ?_, ?_⟩
    · rw [Nat.pow_succ, hB]; omega
    · rw [Nat.pow_succ, Nat.pow_succ, hB]; omega
theorem own_hi {u : Int} {r : Int32} {v : Int} (hv : v = u / 4294967296) (h0 : 0 < v) (h1 : 0 ≤ u) (h : NLZ v 32 r) : NLZ u 64 r := by
  rcases h with ⟨h, -⟩ | ⟨k, hk, hr, ha, hb⟩
  · omega
  · refine Or.inr ⟨k + 32, by omega, by omega, ?_, ?_⟩
    · rw [Nat.pow_add]; generalize 2 ^ k = K at *; omega
    · rw [show k + 32 + 1 = (k + 1) + 32 by omega, Nat.pow_add]; generalize 2 ^ (k + 1) = K at *; omega
theorem own_lo {u : Int} {r r' : Int32} (h : NLZ u 32 r) (hr : r'.toInt = r.toInt + 32) : NLZ u 64 r' := by
  rcases h with ⟨h, h'⟩ | ⟨k, hk, h', ha, hb⟩
  · exact Or.inl ⟨h, by omega⟩
  · exact Or.inr ⟨k, by omega, by omega, ha, hb⟩
theorem own_sh {u : Int} {k : Nat} (j : Nat) (ha : ((2 ^ k : Nat) : Int) ≤ u) (hb : u < ((2 ^ (k + 1) : Nat) : Int)) : (u / ((2 ^ j : Nat) : Int) = 0 ↔ k < j) := by
  have hj : 0 < 2 ^ j := Nat.two_pow_pos j
  have hk : 0 < 2 ^ k := Nat.two_pow_pos k
  constructor
  · intro q
    rcases Nat.lt_or_ge k j with g | g
    · exact g
    · exfalso
      have := Nat.pow_le_pow_right (n := 2) (by decide) g
      have q2 : ((2 ^ j : Nat) : Int) ≤ u := by omega
      have := Int.le_ediv_of_mul_le (a := 1) (b := u) (c := ((2 ^ j : Nat) : Int)) (by omega) (by omega)
      omega
  · intro g
    have := Nat.pow_le_pow_right (n := 2) (by decide) (show k + 1 ≤ j by omega)
    exact Int.ediv_eq_zero_of_lt (by omega) (by omega)
def rs (v : Int64) (k : Int32) : Int64 := ((v.toUInt64 >>> (k &&& 0x3f).toInt64.toUInt64).toInt64)
def refV (v : Int64) : Int32 := if rs v 7 = 0 then 1 else if rs v 14 = 0 then 2 else if rs v 21 = 0 then 3 else if rs v 28 = 0 then 4 else if rs v 35 = 0 then 5 else if rs v 42 = 0 then 6 else if rs v 49 = 0 then 7 else if rs v 56 = 0 then 8 else if rs v 63 = 0 then 9 else 10
theorem own_rs (v : Int64) (q : Int32) (k : Nat) (hk : q.toBitVec.toNat % 64 = k) (h0 : 0 < k) : rs v q = 0 ↔ (v.toInt % 18446744073709551616) / ((2 ^ k : Nat) : Int) = 0 := by
  have h := c_lushr v q k hk h0
  rw [← Int64.toInt_inj, show (0 : Int64).toInt = 0 from by decide]
  unfold rs
  rw [h]
theorem own_ref {v : Int64} {r s : Int32} (h : NLZ (v.toInt % 18446744073709551616) 64 r) (hs : s.toInt = (if (64 - r.toInt + 6) / 7 < 1 then 1 else (64 - r.toInt + 6) / 7)) : s = refV v := by
  rw [← Int32.toInt_inj, hs]
  unfold refV
  simp only [own_rs v 7 7 (by decide) (by decide), own_rs v 14 14 (by decide) (by decide), own_rs v 21 21 (by decide) (by decide), own_rs v 28 28 (by decide) (by decide), own_rs v 35 35 (by decide) (by decide), own_rs v 42 42 (by decide) (by decide), own_rs v 49 49 (by decide) (by decide), own_rs v 56 56 (by decide) (by decide), own_rs v 63 63 (by decide) (by decide)]
  generalize v.toInt % 18446744073709551616 = u at *
  rcases h with ⟨h, h'⟩ | ⟨k, hk, h', ha, hb⟩
  · rw [h, h']; decide
  · simp only [own_sh 7 ha hb, own_sh 14 ha hb, own_sh 21 ha hb, own_sh 28 ha hb, own_sh 35 ha hb, own_sh 42 ha hb, own_sh 49 ha hb, own_sh 56 ha hb, own_sh 63 ha hb]
    rw [h']
    clear ha hb h'
    have all : ∀ k : Fin 64, (if (64 - (((64 : Nat) : Int) - 1 - (k.val : Int)) + 6) / 7 < 1 then 1 else (64 - (((64 : Nat) : Int) - 1 - (k.val : Int)) + 6) / 7) = (if k.val < 7 then (1 : Int32) else if k.val < 14 then 2 else if k.val < 21 then 3 else if k.val < 28 then 4 else if k.val < 35 then 5 else if k.val < 42 then 6 else if k.val < 49 then 7 else if k.val < 56 then 8 else if k.val < 63 then 9 else 10).toInt := by decide +kernel
    exact all ⟨k, hk⟩
theorem d3_0 : decode jdk_33_method_47_code 0 = .ok (.iload_n 0, 1) := by decide +kernel
theorem d3_1 : decode jdk_33_method_47_code 1 = .ok (.ifCond .gt 14, 3) := by decide +kernel
theorem d3_4 : decode jdk_33_method_47_code 4 = .ok (.iload_n 0, 1) := by decide +kernel
theorem d3_5 : decode jdk_33_method_47_code 5 = .ok (.ifCond .ne 8, 3) := by decide +kernel
theorem d3_8 : decode jdk_33_method_47_code 8 = .ok (.bipush 32, 2) := by decide +kernel
theorem d3_10 : decode jdk_33_method_47_code 10 = .ok (.goto 4, 3) := by decide +kernel
theorem d3_13 : decode jdk_33_method_47_code 13 = .ok (.iconst 0, 1) := by decide +kernel
theorem d3_14 : decode jdk_33_method_47_code 14 = .ok (.ireturn, 1) := by decide +kernel
theorem d3_15 : decode jdk_33_method_47_code 15 = .ok (.bipush 31, 2) := by decide +kernel
theorem d3_17 : decode jdk_33_method_47_code 17 = .ok (.istore_n 1, 1) := by decide +kernel
theorem d3_18 : decode jdk_33_method_47_code 18 = .ok (.iload_n 0, 1) := by decide +kernel
theorem d3_19 : decode jdk_33_method_47_code 19 = .ok (.ldc_w 264, 3) := by decide +kernel
theorem d3_22 : decode jdk_33_method_47_code 22 = .ok (.if_icmp .lt 11, 3) := by decide +kernel
theorem d3_25 : decode jdk_33_method_47_code 25 = .ok (.iinc 1 (-16), 3) := by decide +kernel
theorem d3_28 : decode jdk_33_method_47_code 28 = .ok (.iload_n 0, 1) := by decide +kernel
theorem d3_29 : decode jdk_33_method_47_code 29 = .ok (.bipush 16, 2) := by decide +kernel
theorem d3_31 : decode jdk_33_method_47_code 31 = .ok (.iushr, 1) := by decide +kernel
theorem d3_32 : decode jdk_33_method_47_code 32 = .ok (.istore_n 0, 1) := by decide +kernel
theorem d3_33 : decode jdk_33_method_47_code 33 = .ok (.iload_n 0, 1) := by decide +kernel
theorem d3_34 : decode jdk_33_method_47_code 34 = .ok (.sipush 256, 3) := by decide +kernel
theorem d3_37 : decode jdk_33_method_47_code 37 = .ok (.if_icmp .lt 11, 3) := by decide +kernel
theorem d3_40 : decode jdk_33_method_47_code 40 = .ok (.iinc 1 (-8), 3) := by decide +kernel
theorem d3_43 : decode jdk_33_method_47_code 43 = .ok (.iload_n 0, 1) := by decide +kernel
theorem d3_44 : decode jdk_33_method_47_code 44 = .ok (.bipush 8, 2) := by decide +kernel
theorem d3_46 : decode jdk_33_method_47_code 46 = .ok (.iushr, 1) := by decide +kernel
theorem d3_47 : decode jdk_33_method_47_code 47 = .ok (.istore_n 0, 1) := by decide +kernel
theorem d3_48 : decode jdk_33_method_47_code 48 = .ok (.iload_n 0, 1) := by decide +kernel
theorem d3_49 : decode jdk_33_method_47_code 49 = .ok (.bipush 16, 2) := by decide +kernel
theorem d3_51 : decode jdk_33_method_47_code 51 = .ok (.if_icmp .lt 10, 3) := by decide +kernel
theorem d3_54 : decode jdk_33_method_47_code 54 = .ok (.iinc 1 (-4), 3) := by decide +kernel
theorem d3_57 : decode jdk_33_method_47_code 57 = .ok (.iload_n 0, 1) := by decide +kernel
theorem d3_58 : decode jdk_33_method_47_code 58 = .ok (.iconst 4, 1) := by decide +kernel
theorem d3_59 : decode jdk_33_method_47_code 59 = .ok (.iushr, 1) := by decide +kernel
theorem d3_60 : decode jdk_33_method_47_code 60 = .ok (.istore_n 0, 1) := by decide +kernel
theorem d3_61 : decode jdk_33_method_47_code 61 = .ok (.iload_n 0, 1) := by decide +kernel
theorem d3_62 : decode jdk_33_method_47_code 62 = .ok (.iconst 4, 1) := by decide +kernel
theorem d3_63 : decode jdk_33_method_47_code 63 = .ok (.if_icmp .lt 10, 3) := by decide +kernel
theorem d3_66 : decode jdk_33_method_47_code 66 = .ok (.iinc 1 (-2), 3) := by decide +kernel
theorem d3_69 : decode jdk_33_method_47_code 69 = .ok (.iload_n 0, 1) := by decide +kernel
theorem d3_70 : decode jdk_33_method_47_code 70 = .ok (.iconst 2, 1) := by decide +kernel
theorem d3_71 : decode jdk_33_method_47_code 71 = .ok (.iushr, 1) := by decide +kernel
theorem d3_72 : decode jdk_33_method_47_code 72 = .ok (.istore_n 0, 1) := by decide +kernel
theorem d3_73 : decode jdk_33_method_47_code 73 = .ok (.iload_n 1, 1) := by decide +kernel
theorem d3_74 : decode jdk_33_method_47_code 74 = .ok (.iload_n 0, 1) := by decide +kernel
theorem d3_75 : decode jdk_33_method_47_code 75 = .ok (.iconst 1, 1) := by decide +kernel
theorem d3_76 : decode jdk_33_method_47_code 76 = .ok (.iushr, 1) := by decide +kernel
theorem d3_77 : decode jdk_33_method_47_code 77 = .ok (.isub, 1) := by decide +kernel
theorem d3_78 : decode jdk_33_method_47_code 78 = .ok (.ireturn, 1) := by decide +kernel
theorem pn_java_lang_Integer : plainName "java/lang/Integer" = true := by first | (simp [plainName, overriddenIn]; done) | decide +kernel
theorem ef_3 (m : MethodId) (x0 : Int32) : entryFrame m #[(.int x0)] 2 = mkF m 0 #[.val (.int x0), .unset] [] := by first | (simp [entryFrame, mkF, argsToLocals, Value.category]; done) | rfl
def Q3 (Z : State) (p0 : Int32) (h0 : Heap) (n0 : Nat) (v : Option Value) (h : Heap) (L : List Loc) : Prop := ∃ r : Int32, v = some (.int r) ∧ NLZ (p0.toInt % 4294967296) 32 r ∧ Fr n0 L ∧ h = h0
set_option maxRecDepth 65536 in
set_option maxHeartbeats 40000000 in
theorem rm3 (l : Launch) (Z : State) (a0 : Array Value) (hw : ∀ d ∈ tables_1, d.before a0 Z = true) (ws : List Jvm.Cond) (p0 : Int32) (h0 : Heap) (n0 : Nat) (Z0 : n0 ≤ h0.size)  :
    own_CT l Z (⟨"java/lang/Integer", "numberOfLeadingZeros", "(I)I"⟩ : MethodName) jdk_33_method_47_code 2 (some .int) ws ({ frames := 0, cells := 0, slots := 0, locals := 0 } : Room) #[(.int p0)] h0 (Q3 Z p0 h0 n0) := by
  refine MetFree.of_bodySF (plainFor_of_name pn_java_lang_Integer) hisR ?_
  intro p e s m args below meth c s₁ Bd hml0 hP hK
  obtain ⟨rfl, hZ, hh⟩ := hP
  have hx := Bd.exec
  have hby := Bd.bytes
  have hml : c.maxLocals = 2 := hml0
  have hown : s.vm.findClass "java/lang/Integer" = some m.cls := findClass_of_methodNamed Bd.named
  have hnm := (name_of_methodNamed Bd.named Bd.method).1
  have hlk : meth.locks = false := BodyLoose.notSynchronized Bd
  have X0 : Stand p l e ({ frames := 0, cells := 0, slots := 0, locals := 0 } : Room) s m #[(.int p0)] below meth c s₁ [] 0 0 := Stand.of_body Bd
  have e0 : s₁.heap = h0 := by rw [← hh, Bd.state]; rfl
  have N0 := Fr.nil n0
  show GG p e below s ({ frames := 0, cells := 0, slots := 0, locals := 0 } : Room).cells ({ frames := 0, cells := 0, slots := 0, locals := 0 } : Room).slots (Q3 Z p0 h0 n0) s₁ (entryFrame m #[(.int p0)] 2)
  refine own_in (ef_3 m p0) ?_
  have rp0 := rng32 p0
  show GG _ _ _ _ _ _ _ s₁ (mkF m 0 #[.val (.int p0), .unset] [])
  refine own_go (fun _ => XS.iloadN X0.here hx rfl (hb hby d3_0) rfl) ?_
  show GG _ _ _ _ _ _ _ s₁ (mkF m 1 #[.val (.int p0), .unset] [(.int p0)])
  by_cases hc1 : (0 : Int32) < p0
  · skip
    have ihc1 : (0 < p0.toInt) := Int32.lt_iff_toInt_lt.mp hc1
    refine own_go (fun _ => XS.ifYes X0.here hx rfl (pc0 := 1) (pc' := 15) rfl (hb hby d3_1) rfl ((if0 _ _).trans (tlt hc1).2.2.1) (by decide) (by decide)) ?_
    show GG _ _ _ _ _ _ _ s₁ (mkF m 15 #[.val (.int p0), .unset] [])
    refine own_go (fun _ => XS.bipush X0.here hx rfl (hb hby d3_15)) ?_
    show GG _ _ _ _ _ _ _ s₁ (mkF m 17 #[.val (.int p0), .unset] [(.int (31 : Int32))])
    refine own_go (fun _ => XS.istoreN X0.here hx rfl (hb hby d3_17) rfl (l' := #[.val (.int p0), .val (.int (31 : Int32))]) rfl) ?_
    show GG _ _ _ _ _ _ _ s₁ (mkF m 18 #[.val (.int p0), .val (.int (31 : Int32))] [])
    refine own_go (fun _ => XS.iloadN X0.here hx rfl (hb hby d3_18) rfl) ?_
    show GG _ _ _ _ _ _ _ s₁ (mkF m 19 #[.val (.int p0), .val (.int (31 : Int32))] [(.int p0)])
    refine own_go (fun _ => X0.ldcwInt hx hown (mvT hZ (hw _ (List.mem_of_getElem? (i := 20) rfl))) (g := (mkF m 19 #[.val (.int p0), .val (.int (31 : Int32))] [(.int p0)])) rfl (hb hby d3_19) _) ?_
    show GG _ _ _ _ _ _ _ s₁ (mkF m 22 #[.val (.int p0), .val (.int (31 : Int32))] [(.int (65536 : Int32)), (.int p0)])
    by_cases hc22 : p0 < (65536 : Int32)
    · skip
      have ihc22 : (p0.toInt < 65536) := Int32.lt_iff_toInt_lt.mp hc22
      refine own_go (fun _ => XS.icmpYes X0.here hx rfl (pc0 := 22) (pc' := 33) rfl (hb hby d3_22) rfl (tlt hc22).1 (by decide) (by decide)) ?_
      show GG _ _ _ _ _ _ _ s₁ (mkF m 33 #[.val (.int p0), .val (.int (31 : Int32))] [])
      refine own_go (fun _ => XS.iloadN X0.here hx rfl (hb hby d3_33) rfl) ?_
      show GG _ _ _ _ _ _ _ s₁ (mkF m 34 #[.val (.int p0), .val (.int (31 : Int32))] [(.int p0)])
      refine own_go (fun _ => XS.sipush X0.here hx rfl (hb hby d3_34)) ?_
      show GG _ _ _ _ _ _ _ s₁ (mkF m 37 #[.val (.int p0), .val (.int (31 : Int32))] [(.int (256 : Int32)), (.int p0)])
      by_cases hc37 : p0 < (256 : Int32)
      · skip
        have ihc37 : (p0.toInt < 256) := Int32.lt_iff_toInt_lt.mp hc37
        refine own_go (fun _ => XS.icmpYes X0.here hx rfl (pc0 := 37) (pc' := 48) rfl (hb hby d3_37) rfl (tlt hc37).1 (by decide) (by decide)) ?_
        show GG _ _ _ _ _ _ _ s₁ (mkF m 48 #[.val (.int p0), .val (.int (31 : Int32))] [])
        refine own_go (fun _ => XS.iloadN X0.here hx rfl (hb hby d3_48) rfl) ?_
        show GG _ _ _ _ _ _ _ s₁ (mkF m 49 #[.val (.int p0), .val (.int (31 : Int32))] [(.int p0)])
        refine own_go (fun _ => XS.bipush X0.here hx rfl (hb hby d3_49)) ?_
        show GG _ _ _ _ _ _ _ s₁ (mkF m 51 #[.val (.int p0), .val (.int (31 : Int32))] [(.int (16 : Int32)), (.int p0)])
        by_cases hc51 : p0 < (16 : Int32)
        · skip
          have ihc51 : (p0.toInt < 16) := Int32.lt_iff_toInt_lt.mp hc51
          refine own_go (fun _ => XS.icmpYes X0.here hx rfl (pc0 := 51) (pc' := 61) rfl (hb hby d3_51) rfl (tlt hc51).1 (by decide) (by decide)) ?_
          show GG _ _ _ _ _ _ _ s₁ (mkF m 61 #[.val (.int p0), .val (.int (31 : Int32))] [])
          refine own_go (fun _ => XS.iloadN X0.here hx rfl (hb hby d3_61) rfl) ?_
          show GG _ _ _ _ _ _ _ s₁ (mkF m 62 #[.val (.int p0), .val (.int (31 : Int32))] [(.int p0)])
          refine own_go (fun _ => XS.iconst X0.here hx rfl (hb hby d3_62)) ?_
          show GG _ _ _ _ _ _ _ s₁ (mkF m 63 #[.val (.int p0), .val (.int (31 : Int32))] [(.int (4 : Int32)), (.int p0)])
          by_cases hc63 : p0 < (4 : Int32)
          · skip
            have ihc63 : (p0.toInt < 4) := Int32.lt_iff_toInt_lt.mp hc63
            refine own_go (fun _ => XS.icmpYes X0.here hx rfl (pc0 := 63) (pc' := 73) rfl (hb hby d3_63) rfl (tlt hc63).1 (by decide) (by decide)) ?_
            show GG _ _ _ _ _ _ _ s₁ (mkF m 73 #[.val (.int p0), .val (.int (31 : Int32))] [])
            refine own_go (fun _ => XS.iloadN X0.here hx rfl (hb hby d3_73) rfl) ?_
            show GG _ _ _ _ _ _ _ s₁ (mkF m 74 #[.val (.int p0), .val (.int (31 : Int32))] [(.int (31 : Int32))])
            refine own_go (fun _ => XS.iloadN X0.here hx rfl (hb hby d3_74) rfl) ?_
            show GG _ _ _ _ _ _ _ s₁ (mkF m 75 #[.val (.int p0), .val (.int (31 : Int32))] [(.int p0), (.int (31 : Int32))])
            refine own_go (fun _ => XS.iconst X0.here hx rfl (hb hby d3_75)) ?_
            show GG _ _ _ _ _ _ _ s₁ (mkF m 76 #[.val (.int p0), .val (.int (31 : Int32))] [(.int (1 : Int32)), (.int p0), (.int (31 : Int32))])
            refine own_go (fun _ => XS.iushr X0.here hx rfl (hb hby d3_76) rfl) ?_
            show GG _ _ _ _ _ _ _ s₁ (mkF m 77 #[.val (.int p0), .val (.int (31 : Int32))] [(.int ((p0.toUInt32 >>> ((1 : Int32) &&& 31).toUInt32).toInt32)), (.int (31 : Int32))])
            have cx1 := c_iushr p0 (1 : Int32) 1 (by decide) (by decide)
            generalize hx1 : ((p0.toUInt32 >>> ((1 : Int32) &&& 31).toUInt32).toInt32) = x1 at cx1 ⊢
            have rx1 := rng32 x1
            refine own_go (fun _ => XS.isub X0.here hx rfl (hb hby d3_77) rfl) ?_
            show GG _ _ _ _ _ _ _ s₁ (mkF m 78 #[.val (.int p0), .val (.int (31 : Int32))] [(.int ((31 : Int32) - x1))])
            have cx2 := c_isub (31 : Int32) x1
            simp only [show ((31 : Int32)).toInt = 31 from by decide] at cx2
            generalize hx2 : ((31 : Int32) - x1) = x2 at cx2 ⊢
            have rx2 := rng32 x2
            refine own_ret X0 hx hlk (t := .int) (w := (.int x2)) Bd.returns rfl (Or.inl ⟨rfl, by simp, _, rfl⟩) (hb hby d3_78) (by decide) (by decide) ?_
            show Q3 Z p0 h0 n0 (some (.int x2)) s₁.heap _
            rw [e0]
            exact ⟨_, rfl, own_nl 0 1 (by decide) (by decide) (by omega) (fun _ => by omega) (fun _ => by omega), N0, rfl⟩
          · skip
            have ihc63 : ¬ (p0.toInt < 4) := fun q => hc63 (Int32.lt_iff_toInt_lt.mpr q)
            refine own_go (fun _ => XS.icmpNo X0.here hx rfl (hb hby d3_63) rfl (flt hc63).1) ?_
            show GG _ _ _ _ _ _ _ s₁ (mkF m 66 #[.val (.int p0), .val (.int (31 : Int32))] [])
            refine own_go (fun _ => XS.iinc X0.here hx rfl (hb hby d3_66) rfl (l' := #[.val (.int p0), .val (.int (29 : Int32))]) rfl) ?_
            show GG _ _ _ _ _ _ _ s₁ (mkF m 69 #[.val (.int p0), .val (.int (29 : Int32))] [])
            refine own_go (fun _ => XS.iloadN X0.here hx rfl (hb hby d3_69) rfl) ?_
            show GG _ _ _ _ _ _ _ s₁ (mkF m 70 #[.val (.int p0), .val (.int (29 : Int32))] [(.int p0)])
            refine own_go (fun _ => XS.iconst X0.here hx rfl (hb hby d3_70)) ?_
            show GG _ _ _ _ _ _ _ s₁ (mkF m 71 #[.val (.int p0), .val (.int (29 : Int32))] [(.int (2 : Int32)), (.int p0)])
            refine own_go (fun _ => XS.iushr X0.here hx rfl (hb hby d3_71) rfl) ?_
            show GG _ _ _ _ _ _ _ s₁ (mkF m 72 #[.val (.int p0), .val (.int (29 : Int32))] [(.int ((p0.toUInt32 >>> ((2 : Int32) &&& 31).toUInt32).toInt32))])
            have cx3 := c_iushr p0 (2 : Int32) 2 (by decide) (by decide)
            generalize hx3 : ((p0.toUInt32 >>> ((2 : Int32) &&& 31).toUInt32).toInt32) = x3 at cx3 ⊢
            have rx3 := rng32 x3
            refine own_go (fun _ => XS.istoreN X0.here hx rfl (hb hby d3_72) rfl (l' := #[.val (.int x3), .val (.int (29 : Int32))]) rfl) ?_
            show GG _ _ _ _ _ _ _ s₁ (mkF m 73 #[.val (.int x3), .val (.int (29 : Int32))] [])
            refine own_go (fun _ => XS.iloadN X0.here hx rfl (hb hby d3_73) rfl) ?_
            show GG _ _ _ _ _ _ _ s₁ (mkF m 74 #[.val (.int x3), .val (.int (29 : Int32))] [(.int (29 : Int32))])
            refine own_go (fun _ => XS.iloadN X0.here hx rfl (hb hby d3_74) rfl) ?_
            show GG _ _ _ _ _ _ _ s₁ (mkF m 75 #[.val (.int x3), .val (.int (29 : Int32))] [(.int x3), (.int (29 : Int32))])
            refine own_go (fun _ => XS.iconst X0.here hx rfl (hb hby d3_75)) ?_
            show GG _ _ _ _ _ _ _ s₁ (mkF m 76 #[.val (.int x3), .val (.int (29 : Int32))] [(.int (1 : Int32)), (.int x3), (.int (29 : Int32))])
            refine own_go (fun _ => XS.iushr X0.here hx rfl (hb hby d3_76) rfl) ?_
            show GG _ _ _ _ _ _ _ s₁ (mkF m 77 #[.val (.int x3), .val (.int (29 : Int32))] [(.int ((x3.toUInt32 >>> ((1 : Int32) &&& 31).toUInt32).toInt32)), (.int (29 : Int32))])
            have cx4 := c_iushr x3 (1 : Int32) 1 (by decide) (by decide)
            generalize hx4 : ((x3.toUInt32 >>> ((1 : Int32) &&& 31).toUInt32).toInt32) = x4 at cx4 ⊢
            have rx4 := rng32 x4
            refine own_go (fun _ => XS.isub X0.here hx rfl (hb hby d3_77) rfl) ?_
            show GG _ _ _ _ _ _ _ s₁ (mkF m 78 #[.val (.int x3), .val (.int (29 : Int32))] [(.int ((29 : Int32) - x4))])
            have cx5 := c_isub (29 : Int32) x4
            simp only [show ((29 : Int32)).toInt = 29 from by decide] at cx5
            generalize hx5 : ((29 : Int32) - x4) = x5 at cx5 ⊢
            have rx5 := rng32 x5
            refine own_ret X0 hx hlk (t := .int) (w := (.int x5)) Bd.returns rfl (Or.inl ⟨rfl, by simp, _, rfl⟩) (hb hby d3_78) (by decide) (by decide) ?_
            show Q3 Z p0 h0 n0 (some (.int x5)) s₁.heap _
            rw [e0]
            exact ⟨_, rfl, own_nl 2 4 (by decide) (by decide) (by omega) (fun _ => by omega) (fun _ => by omega), N0, rfl⟩
        · skip
          have ihc51 : ¬ (p0.toInt < 16) := fun q => hc51 (Int32.lt_iff_toInt_lt.mpr q)
          refine own_go (fun _ => XS.icmpNo X0.here hx rfl (hb hby d3_51) rfl (flt hc51).1) ?_
          show GG _ _ _ _ _ _ _ s₁ (mkF m 54 #[.val (.int p0), .val (.int (31 : Int32))] [])
          refine own_go (fun _ => XS.iinc X0.here hx rfl (hb hby d3_54) rfl (l' := #[.val (.int p0), .val (.int (27 : Int32))]) rfl) ?_
          show GG _ _ _ _ _ _ _ s₁ (mkF m 57 #[.val (.int p0), .val (.int (27 : Int32))] [])
          refine own_go (fun _ => XS.iloadN X0.here hx rfl (hb hby d3_57) rfl) ?_
          show GG _ _ _ _ _ _ _ s₁ (mkF m 58 #[.val (.int p0), .val (.int (27 : Int32))] [(.int p0)])
          refine own_go (fun _ => XS.iconst X0.here hx rfl (hb hby d3_58)) ?_
          show GG _ _ _ _ _ _ _ s₁ (mkF m 59 #[.val (.int p0), .val (.int (27 : Int32))] [(.int (4 : Int32)), (.int p0)])
          refine own_go (fun _ => XS.iushr X0.here hx rfl (hb hby d3_59) rfl) ?_
          show GG _ _ _ _ _ _ _ s₁ (mkF m 60 #[.val (.int p0), .val (.int (27 : Int32))] [(.int ((p0.toUInt32 >>> ((4 : Int32) &&& 31).toUInt32).toInt32))])
          have cx6 := c_iushr p0 (4 : Int32) 4 (by decide) (by decide)
          generalize hx6 : ((p0.toUInt32 >>> ((4 : Int32) &&& 31).toUInt32).toInt32) = x6 at cx6 ⊢
          have rx6 := rng32 x6
          refine own_go (fun _ => XS.istoreN X0.here hx rfl (hb hby d3_60) rfl (l' := #[.val (.int x6), .val (.int (27 : Int32))]) rfl) ?_
          show GG _ _ _ _ _ _ _ s₁ (mkF m 61 #[.val (.int x6), .val (.int (27 : Int32))] [])
          refine own_go (fun _ => XS.iloadN X0.here hx rfl (hb hby d3_61) rfl) ?_
          show GG _ _ _ _ _ _ _ s₁ (mkF m 62 #[.val (.int x6), .val (.int (27 : Int32))] [(.int x6)])
          refine own_go (fun _ => XS.iconst X0.here hx rfl (hb hby d3_62)) ?_
          show GG _ _ _ _ _ _ _ s₁ (mkF m 63 #[.val (.int x6), .val (.int (27 : Int32))] [(.int (4 : Int32)), (.int x6)])
          by_cases hc63 : x6 < (4 : Int32)
          · skip
            have ihc63 : (x6.toInt < 4) := Int32.lt_iff_toInt_lt.mp hc63
            refine own_go (fun _ => XS.icmpYes X0.here hx rfl (pc0 := 63) (pc' := 73) rfl (hb hby d3_63) rfl (tlt hc63).1 (by decide) (by decide)) ?_
            show GG _ _ _ _ _ _ _ s₁ (mkF m 73 #[.val (.int x6), .val (.int (27 : Int32))] [])
            refine own_go (fun _ => XS.iloadN X0.here hx rfl (hb hby d3_73) rfl) ?_
            show GG _ _ _ _ _ _ _ s₁ (mkF m 74 #[.val (.int x6), .val (.int (27 : Int32))] [(.int (27 : Int32))])
            refine own_go (fun _ => XS.iloadN X0.here hx rfl (hb hby d3_74) rfl) ?_
            show GG _ _ _ _ _ _ _ s₁ (mkF m 75 #[.val (.int x6), .val (.int (27 : Int32))] [(.int x6), (.int (27 : Int32))])
            refine own_go (fun _ => XS.iconst X0.here hx rfl (hb hby d3_75)) ?_
            show GG _ _ _ _ _ _ _ s₁ (mkF m 76 #[.val (.int x6), .val (.int (27 : Int32))] [(.int (1 : Int32)), (.int x6), (.int (27 : Int32))])
            refine own_go (fun _ => XS.iushr X0.here hx rfl (hb hby d3_76) rfl) ?_
            show GG _ _ _ _ _ _ _ s₁ (mkF m 77 #[.val (.int x6), .val (.int (27 : Int32))] [(.int ((x6.toUInt32 >>> ((1 : Int32) &&& 31).toUInt32).toInt32)), (.int (27 : Int32))])
            have cx7 := c_iushr x6 (1 : Int32) 1 (by decide) (by decide)
            generalize hx7 : ((x6.toUInt32 >>> ((1 : Int32) &&& 31).toUInt32).toInt32) = x7 at cx7 ⊢
            have rx7 := rng32 x7
            refine own_go (fun _ => XS.isub X0.here hx rfl (hb hby d3_77) rfl) ?_
            show GG _ _ _ _ _ _ _ s₁ (mkF m 78 #[.val (.int x6), .val (.int (27 : Int32))] [(.int ((27 : Int32) - x7))])
            have cx8 := c_isub (27 : Int32) x7
            simp only [show ((27 : Int32)).toInt = 27 from by decide] at cx8
            generalize hx8 : ((27 : Int32) - x7) = x8 at cx8 ⊢
            have rx8 := rng32 x8
            refine own_ret X0 hx hlk (t := .int) (w := (.int x8)) Bd.returns rfl (Or.inl ⟨rfl, by simp, _, rfl⟩) (hb hby d3_78) (by decide) (by decide) ?_
            show Q3 Z p0 h0 n0 (some (.int x8)) s₁.heap _
            rw [e0]
            exact ⟨_, rfl, own_nl 4 16 (by decide) (by decide) (by omega) (fun _ => by omega) (fun _ => by omega), N0, rfl⟩
          · skip
            have ihc63 : ¬ (x6.toInt < 4) := fun q => hc63 (Int32.lt_iff_toInt_lt.mpr q)
            refine own_go (fun _ => XS.icmpNo X0.here hx rfl (hb hby d3_63) rfl (flt hc63).1) ?_
            show GG _ _ _ _ _ _ _ s₁ (mkF m 66 #[.val (.int x6), .val (.int (27 : Int32))] [])
            refine own_go (fun _ => XS.iinc X0.here hx rfl (hb hby d3_66) rfl (l' := #[.val (.int x6), .val (.int (25 : Int32))]) rfl) ?_
            show GG _ _ _ _ _ _ _ s₁ (mkF m 69 #[.val (.int x6), .val (.int (25 : Int32))] [])
            refine own_go (fun _ => XS.iloadN X0.here hx rfl (hb hby d3_69) rfl) ?_
            show GG _ _ _ _ _ _ _ s₁ (mkF m 70 #[.val (.int x6), .val (.int (25 : Int32))] [(.int x6)])
            refine own_go (fun _ => XS.iconst X0.here hx rfl (hb hby d3_70)) ?_
            show GG _ _ _ _ _ _ _ s₁ (mkF m 71 #[.val (.int x6), .val (.int (25 : Int32))] [(.int (2 : Int32)), (.int x6)])
            refine own_go (fun _ => XS.iushr X0.here hx rfl (hb hby d3_71) rfl) ?_
            show GG _ _ _ _ _ _ _ s₁ (mkF m 72 #[.val (.int x6), .val (.int (25 : Int32))] [(.int ((x6.toUInt32 >>> ((2 : Int32) &&& 31).toUInt32).toInt32))])
            have cx9 := c_iushr x6 (2 : Int32) 2 (by decide) (by decide)
            generalize hx9 : ((x6.toUInt32 >>> ((2 : Int32) &&& 31).toUInt32).toInt32) = x9 at cx9 ⊢
            have rx9 := rng32 x9
            refine own_go (fun _ => XS.istoreN X0.here hx rfl (hb hby d3_72) rfl (l' := #[.val (.int x9), .val (.int (25 : Int32))]) rfl) ?_
            show GG _ _ _ _ _ _ _ s₁ (mkF m 73 #[.val (.int x9), .val (.int (25 : Int32))] [])
            refine own_go (fun _ => XS.iloadN X0.here hx rfl (hb hby d3_73) rfl) ?_
            show GG _ _ _ _ _ _ _ s₁ (mkF m 74 #[.val (.int x9), .val (.int (25 : Int32))] [(.int (25 : Int32))])
            refine own_go (fun _ => XS.iloadN X0.here hx rfl (hb hby d3_74) rfl) ?_
            show GG _ _ _ _ _ _ _ s₁ (mkF m 75 #[.val (.int x9), .val (.int (25 : Int32))] [(.int x9), (.int (25 : Int32))])
            refine own_go (fun _ => XS.iconst X0.here hx rfl (hb hby d3_75)) ?_
            show GG _ _ _ _ _ _ _ s₁ (mkF m 76 #[.val (.int x9), .val (.int (25 : Int32))] [(.int (1 : Int32)), (.int x9), (.int (25 : Int32))])
            refine own_go (fun _ => XS.iushr X0.here hx rfl (hb hby d3_76) rfl) ?_
            show GG _ _ _ _ _ _ _ s₁ (mkF m 77 #[.val (.int x9), .val (.int (25 : Int32))] [(.int ((x9.toUInt32 >>> ((1 : Int32) &&& 31).toUInt32).toInt32)), (.int (25 : Int32))])
            have cx10 := c_iushr x9 (1 : Int32) 1 (by decide) (by decide)
            generalize hx10 : ((x9.toUInt32 >>> ((1 : Int32) &&& 31).toUInt32).toInt32) = x10 at cx10 ⊢
            have rx10 := rng32 x10
            refine own_go (fun _ => XS.isub X0.here hx rfl (hb hby d3_77) rfl) ?_
            show GG _ _ _ _ _ _ _ s₁ (mkF m 78 #[.val (.int x9), .val (.int (25 : Int32))] [(.int ((25 : Int32) - x10))])
            have cx11 := c_isub (25 : Int32) x10
            simp only [show ((25 : Int32)).toInt = 25 from by decide] at cx11
            generalize hx11 : ((25 : Int32) - x10) = x11 at cx11 ⊢
            have rx11 := rng32 x11
            refine own_ret X0 hx hlk (t := .int) (w := (.int x11)) Bd.returns rfl (Or.inl ⟨rfl, by simp, _, rfl⟩) (hb hby d3_78) (by decide) (by decide) ?_
            show Q3 Z p0 h0 n0 (some (.int x11)) s₁.heap _
            rw [e0]
            exact ⟨_, rfl, own_nl 6 64 (by decide) (by decide) (by omega) (fun _ => by omega) (fun _ => by omega), N0, rfl⟩
      · skip
        have ihc37 : ¬ (p0.toInt < 256) := fun q => hc37 (Int32.lt_iff_toInt_lt.mpr q)
        refine own_go (fun _ => XS.icmpNo X0.here hx rfl (hb hby d3_37) rfl (flt hc37).1) ?_
        show GG _ _ _ _ _ _ _ s₁ (mkF m 40 #[.val (.int p0), .val (.int (31 : Int32))] [])
        refine own_go (fun _ => XS.iinc X0.here hx rfl (hb hby d3_40) rfl (l' := #[.val (.int p0), .val (.int (23 : Int32))]) rfl) ?_
        show GG _ _ _ _ _ _ _ s₁ (mkF m 43 #[.val (.int p0), .val (.int (23 : Int32))] [])
        refine own_go (fun _ => XS.iloadN X0.here hx rfl (hb hby d3_43) rfl) ?_
        show GG _ _ _ _ _ _ _ s₁ (mkF m 44 #[.val (.int p0), .val (.int (23 : Int32))] [(.int p0)])
        refine own_go (fun _ => XS.bipush X0.here hx rfl (hb hby d3_44)) ?_
        show GG _ _ _ _ _ _ _ s₁ (mkF m 46 #[.val (.int p0), .val (.int (23 : Int32))] [(.int (8 : Int32)), (.int p0)])
        refine own_go (fun _ => XS.iushr X0.here hx rfl (hb hby d3_46) rfl) ?_
        show GG _ _ _ _ _ _ _ s₁ (mkF m 47 #[.val (.int p0), .val (.int (23 : Int32))] [(.int ((p0.toUInt32 >>> ((8 : Int32) &&& 31).toUInt32).toInt32))])
        have cx12 := c_iushr p0 (8 : Int32) 8 (by decide) (by decide)
        generalize hx12 : ((p0.toUInt32 >>> ((8 : Int32) &&& 31).toUInt32).toInt32) = x12 at cx12 ⊢
        have rx12 := rng32 x12
        refine own_go (fun _ => XS.istoreN X0.here hx rfl (hb hby d3_47) rfl (l' := #[.val (.int x12), .val (.int (23 : Int32))]) rfl) ?_
        show GG _ _ _ _ _ _ _ s₁ (mkF m 48 #[.val (.int x12), .val (.int (23 : Int32))] [])
        refine own_go (fun _ => XS.iloadN X0.here hx rfl (hb hby d3_48) rfl) ?_
        show GG _ _ _ _ _ _ _ s₁ (mkF m 49 #[.val (.int x12), .val (.int (23 : Int32))] [(.int x12)])
        refine own_go (fun _ => XS.bipush X0.here hx rfl (hb hby d3_49)) ?_
        show GG _ _ _ _ _ _ _ s₁ (mkF m 51 #[.val (.int x12), .val (.int (23 : Int32))] [(.int (16 : Int32)), (.int x12)])
        by_cases hc51 : x12 < (16 : Int32)
        · skip
          have ihc51 : (x12.toInt < 16) := Int32.lt_iff_toInt_lt.mp hc51
          refine own_go (fun _ => XS.icmpYes X0.here hx rfl (pc0 := 51) (pc' := 61) rfl (hb hby d3_51) rfl (tlt hc51).1 (by decide) (by decide)) ?_
          show GG _ _ _ _ _ _ _ s₁ (mkF m 61 #[.val (.int x12), .val (.int (23 : Int32))] [])
          refine own_go (fun _ => XS.iloadN X0.here hx rfl (hb hby d3_61) rfl) ?_
          show GG _ _ _ _ _ _ _ s₁ (mkF m 62 #[.val (.int x12), .val (.int (23 : Int32))] [(.int x12)])
          refine own_go (fun _ => XS.iconst X0.here hx rfl (hb hby d3_62)) ?_
          show GG _ _ _ _ _ _ _ s₁ (mkF m 63 #[.val (.int x12), .val (.int (23 : Int32))] [(.int (4 : Int32)), (.int x12)])
          by_cases hc63 : x12 < (4 : Int32)
          · skip
            have ihc63 : (x12.toInt < 4) := Int32.lt_iff_toInt_lt.mp hc63
            refine own_go (fun _ => XS.icmpYes X0.here hx rfl (pc0 := 63) (pc' := 73) rfl (hb hby d3_63) rfl (tlt hc63).1 (by decide) (by decide)) ?_
            show GG _ _ _ _ _ _ _ s₁ (mkF m 73 #[.val (.int x12), .val (.int (23 : Int32))] [])
            refine own_go (fun _ => XS.iloadN X0.here hx rfl (hb hby d3_73) rfl) ?_
            show GG _ _ _ _ _ _ _ s₁ (mkF m 74 #[.val (.int x12), .val (.int (23 : Int32))] [(.int (23 : Int32))])
            refine own_go (fun _ => XS.iloadN X0.here hx rfl (hb hby d3_74) rfl) ?_
            show GG _ _ _ _ _ _ _ s₁ (mkF m 75 #[.val (.int x12), .val (.int (23 : Int32))] [(.int x12), (.int (23 : Int32))])
            refine own_go (fun _ => XS.iconst X0.here hx rfl (hb hby d3_75)) ?_
            show GG _ _ _ _ _ _ _ s₁ (mkF m 76 #[.val (.int x12), .val (.int (23 : Int32))] [(.int (1 : Int32)), (.int x12), (.int (23 : Int32))])
            refine own_go (fun _ => XS.iushr X0.here hx rfl (hb hby d3_76) rfl) ?_
            show GG _ _ _ _ _ _ _ s₁ (mkF m 77 #[.val (.int x12), .val (.int (23 : Int32))] [(.int ((x12.toUInt32 >>> ((1 : Int32) &&& 31).toUInt32).toInt32)), (.int (23 : Int32))])
            have cx13 := c_iushr x12 (1 : Int32) 1 (by decide) (by decide)
            generalize hx13 : ((x12.toUInt32 >>> ((1 : Int32) &&& 31).toUInt32).toInt32) = x13 at cx13 ⊢
            have rx13 := rng32 x13
            refine own_go (fun _ => XS.isub X0.here hx rfl (hb hby d3_77) rfl) ?_
            show GG _ _ _ _ _ _ _ s₁ (mkF m 78 #[.val (.int x12), .val (.int (23 : Int32))] [(.int ((23 : Int32) - x13))])
            have cx14 := c_isub (23 : Int32) x13
            simp only [show ((23 : Int32)).toInt = 23 from by decide] at cx14
            generalize hx14 : ((23 : Int32) - x13) = x14 at cx14 ⊢
            have rx14 := rng32 x14
            refine own_ret X0 hx hlk (t := .int) (w := (.int x14)) Bd.returns rfl (Or.inl ⟨rfl, by simp, _, rfl⟩) (hb hby d3_78) (by decide) (by decide) ?_
            show Q3 Z p0 h0 n0 (some (.int x14)) s₁.heap _
            rw [e0]
            exact ⟨_, rfl, own_nl 8 256 (by decide) (by decide) (by omega) (fun _ => by omega) (fun _ => by omega), N0, rfl⟩
          · skip
            have ihc63 : ¬ (x12.toInt < 4) := fun q => hc63 (Int32.lt_iff_toInt_lt.mpr q)
            refine own_go (fun _ => XS.icmpNo X0.here hx rfl (hb hby d3_63) rfl (flt hc63).1) ?_
            show GG _ _ _ _ _ _ _ s₁ (mkF m 66 #[.val (.int x12), .val (.int (23 : Int32))] [])
            refine own_go (fun _ => XS.iinc X0.here hx rfl (hb hby d3_66) rfl (l' := #[.val (.int x12), .val (.int (21 : Int32))]) rfl) ?_
            show GG _ _ _ _ _ _ _ s₁ (mkF m 69 #[.val (.int x12), .val (.int (21 : Int32))] [])
            refine own_go (fun _ => XS.iloadN X0.here hx rfl (hb hby d3_69) rfl) ?_
            show GG _ _ _ _ _ _ _ s₁ (mkF m 70 #[.val (.int x12), .val (.int (21 : Int32))] [(.int x12)])
            refine own_go (fun _ => XS.iconst X0.here hx rfl (hb hby d3_70)) ?_
            show GG _ _ _ _ _ _ _ s₁ (mkF m 71 #[.val (.int x12), .val (.int (21 : Int32))] [(.int (2 : Int32)), (.int x12)])
            refine own_go (fun _ => XS.iushr X0.here hx rfl (hb hby d3_71) rfl) ?_
            show GG _ _ _ _ _ _ _ s₁ (mkF m 72 #[.val (.int x12), .val (.int (21 : Int32))] [(.int ((x12.toUInt32 >>> ((2 : Int32) &&& 31).toUInt32).toInt32))])
            have cx15 := c_iushr x12 (2 : Int32) 2 (by decide) (by decide)
            generalize hx15 : ((x12.toUInt32 >>> ((2 : Int32) &&& 31).toUInt32).toInt32) = x15 at cx15 ⊢
            have rx15 := rng32 x15
            refine own_go (fun _ => XS.istoreN X0.here hx rfl (hb hby d3_72) rfl (l' := #[.val (.int x15), .val (.int (21 : Int32))]) rfl) ?_
            show GG _ _ _ _ _ _ _ s₁ (mkF m 73 #[.val (.int x15), .val (.int (21 : Int32))] [])
            refine own_go (fun _ => XS.iloadN X0.here hx rfl (hb hby d3_73) rfl) ?_
            show GG _ _ _ _ _ _ _ s₁ (mkF m 74 #[.val (.int x15), .val (.int (21 : Int32))] [(.int (21 : Int32))])
            refine own_go (fun _ => XS.iloadN X0.here hx rfl (hb hby d3_74) rfl) ?_
            show GG _ _ _ _ _ _ _ s₁ (mkF m 75 #[.val (.int x15), .val (.int (21 : Int32))] [(.int x15), (.int (21 : Int32))])
            refine own_go (fun _ => XS.iconst X0.here hx rfl (hb hby d3_75)) ?_
            show GG _ _ _ _ _ _ _ s₁ (mkF m 76 #[.val (.int x15), .val (.int (21 : Int32))] [(.int (1 : Int32)), (.int x15), (.int (21 : Int32))])
            refine own_go (fun _ => XS.iushr X0.here hx rfl (hb hby d3_76) rfl) ?_
            show GG _ _ _ _ _ _ _ s₁ (mkF m 77 #[.val (.int x15), .val (.int (21 : Int32))] [(.int ((x15.toUInt32 >>> ((1 : Int32) &&& 31).toUInt32).toInt32)), (.int (21 : Int32))])
            have cx16 := c_iushr x15 (1 : Int32) 1 (by decide) (by decide)
            generalize hx16 : ((x15.toUInt32 >>> ((1 : Int32) &&& 31).toUInt32).toInt32) = x16 at cx16 ⊢
            have rx16 := rng32 x16
            refine own_go (fun _ => XS.isub X0.here hx rfl (hb hby d3_77) rfl) ?_
            show GG _ _ _ _ _ _ _ s₁ (mkF m 78 #[.val (.int x15), .val (.int (21 : Int32))] [(.int ((21 : Int32) - x16))])
            have cx17 := c_isub (21 : Int32) x16
            simp only [show ((21 : Int32)).toInt = 21 from by decide] at cx17
            generalize hx17 : ((21 : Int32) - x16) = x17 at cx17 ⊢
            have rx17 := rng32 x17
            refine own_ret X0 hx hlk (t := .int) (w := (.int x17)) Bd.returns rfl (Or.inl ⟨rfl, by simp, _, rfl⟩) (hb hby d3_78) (by decide) (by decide) ?_
            show Q3 Z p0 h0 n0 (some (.int x17)) s₁.heap _
            rw [e0]
            exact ⟨_, rfl, own_nl 10 1024 (by decide) (by decide) (by omega) (fun _ => by omega) (fun _ => by omega), N0, rfl⟩
        · skip
          have ihc51 : ¬ (x12.toInt < 16) := fun q => hc51 (Int32.lt_iff_toInt_lt.mpr q)
          refine own_go (fun _ => XS.icmpNo X0.here hx rfl (hb hby d3_51) rfl (flt hc51).1) ?_
          show GG _ _ _ _ _ _ _ s₁ (mkF m 54 #[.val (.int x12), .val (.int (23 : Int32))] [])
          refine own_go (fun _ => XS.iinc X0.here hx rfl (hb hby d3_54) rfl (l' := #[.val (.int x12), .val (.int (19 : Int32))]) rfl) ?_
          show GG _ _ _ _ _ _ _ s₁ (mkF m 57 #[.val (.int x12), .val (.int (19 : Int32))] [])
          refine own_go (fun _ => XS.iloadN X0.here hx rfl (hb hby d3_57) rfl) ?_
          show GG _ _ _ _ _ _ _ s₁ (mkF m 58 #[.val (.int x12), .val (.int (19 : Int32))] [(.int x12)])
          refine own_go (fun _ => XS.iconst X0.here hx rfl (hb hby d3_58)) ?_
          show GG _ _ _ _ _ _ _ s₁ (mkF m 59 #[.val (.int x12), .val (.int (19 : Int32))] [(.int (4 : Int32)), (.int x12)])
          refine own_go (fun _ => XS.iushr X0.here hx rfl (hb hby d3_59) rfl) ?_
          show GG _ _ _ _ _ _ _ s₁ (mkF m 60 #[.val (.int x12), .val (.int (19 : Int32))] [(.int ((x12.toUInt32 >>> ((4 : Int32) &&& 31).toUInt32).toInt32))])
          have cx18 := c_iushr x12 (4 : Int32) 4 (by decide) (by decide)
          generalize hx18 : ((x12.toUInt32 >>> ((4 : Int32) &&& 31).toUInt32).toInt32) = x18 at cx18 ⊢
          have rx18 := rng32 x18
          refine own_go (fun _ => XS.istoreN X0.here hx rfl (hb hby d3_60) rfl (l' := #[.val (.int x18), .val (.int (19 : Int32))]) rfl) ?_
          show GG _ _ _ _ _ _ _ s₁ (mkF m 61 #[.val (.int x18), .val (.int (19 : Int32))] [])
          refine own_go (fun _ => XS.iloadN X0.here hx rfl (hb hby d3_61) rfl) ?_
          show GG _ _ _ _ _ _ _ s₁ (mkF m 62 #[.val (.int x18), .val (.int (19 : Int32))] [(.int x18)])
          refine own_go (fun _ => XS.iconst X0.here hx rfl (hb hby d3_62)) ?_
          show GG _ _ _ _ _ _ _ s₁ (mkF m 63 #[.val (.int x18), .val (.int (19 : Int32))] [(.int (4 : Int32)), (.int x18)])
          by_cases hc63 : x18 < (4 : Int32)
          · skip
            have ihc63 : (x18.toInt < 4) := Int32.lt_iff_toInt_lt.mp hc63
            refine own_go (fun _ => XS.icmpYes X0.here hx rfl (pc0 := 63) (pc' := 73) rfl (hb hby d3_63) rfl (tlt hc63).1 (by decide) (by decide)) ?_
            show GG _ _ _ _ _ _ _ s₁ (mkF m 73 #[.val (.int x18), .val (.int (19 : Int32))] [])
            refine own_go (fun _ => XS.iloadN X0.here hx rfl (hb hby d3_73) rfl) ?_
            show GG _ _ _ _ _ _ _ s₁ (mkF m 74 #[.val (.int x18), .val (.int (19 : Int32))] [(.int (19 : Int32))])
            refine own_go (fun _ => XS.iloadN X0.here hx rfl (hb hby d3_74) rfl) ?_
            show GG _ _ _ _ _ _ _ s₁ (mkF m 75 #[.val (.int x18), .val (.int (19 : Int32))] [(.int x18), (.int (19 : Int32))])
            refine own_go (fun _ => XS.iconst X0.here hx rfl (hb hby d3_75)) ?_
            show GG _ _ _ _ _ _ _ s₁ (mkF m 76 #[.val (.int x18), .val (.int (19 : Int32))] [(.int (1 : Int32)), (.int x18), (.int (19 : Int32))])
            refine own_go (fun _ => XS.iushr X0.here hx rfl (hb hby d3_76) rfl) ?_
            show GG _ _ _ _ _ _ _ s₁ (mkF m 77 #[.val (.int x18), .val (.int (19 : Int32))] [(.int ((x18.toUInt32 >>> ((1 : Int32) &&& 31).toUInt32).toInt32)), (.int (19 : Int32))])
            have cx19 := c_iushr x18 (1 : Int32) 1 (by decide) (by decide)
            generalize hx19 : ((x18.toUInt32 >>> ((1 : Int32) &&& 31).toUInt32).toInt32) = x19 at cx19 ⊢
            have rx19 := rng32 x19
            refine own_go (fun _ => XS.isub X0.here hx rfl (hb hby d3_77) rfl) ?_
            show GG _ _ _ _ _ _ _ s₁ (mkF m 78 #[.val (.int x18), .val (.int (19 : Int32))] [(.int ((19 : Int32) - x19))])
            have cx20 := c_isub (19 : Int32) x19
            simp only [show ((19 : Int32)).toInt = 19 from by decide] at cx20
            generalize hx20 : ((19 : Int32) - x19) = x20 at cx20 ⊢
            have rx20 := rng32 x20
            refine own_ret X0 hx hlk (t := .int) (w := (.int x20)) Bd.returns rfl (Or.inl ⟨rfl, by simp, _, rfl⟩) (hb hby d3_78) (by decide) (by decide) ?_
            show Q3 Z p0 h0 n0 (some (.int x20)) s₁.heap _
            rw [e0]
            exact ⟨_, rfl, own_nl 12 4096 (by decide) (by decide) (by omega) (fun _ => by omega) (fun _ => by omega), N0, rfl⟩
          · skip
            have ihc63 : ¬ (x18.toInt < 4) := fun q => hc63 (Int32.lt_iff_toInt_lt.mpr q)
            refine own_go (fun _ => XS.icmpNo X0.here hx rfl (hb hby d3_63) rfl (flt hc63).1) ?_
            show GG _ _ _ _ _ _ _ s₁ (mkF m 66 #[.val (.int x18), .val (.int (19 : Int32))] [])
            refine own_go (fun _ => XS.iinc X0.here hx rfl (hb hby d3_66) rfl (l' := #[.val (.int x18), .val (.int (17 : Int32))]) rfl) ?_
            show GG _ _ _ _ _ _ _ s₁ (mkF m 69 #[.val (.int x18), .val (.int (17 : Int32))] [])
            refine own_go (fun _ => XS.iloadN X0.here hx rfl (hb hby d3_69) rfl) ?_
            show GG _ _ _ _ _ _ _ s₁ (mkF m 70 #[.val (.int x18), .val (.int (17 : Int32))] [(.int x18)])
            refine own_go (fun _ => XS.iconst X0.here hx rfl (hb hby d3_70)) ?_
            show GG _ _ _ _ _ _ _ s₁ (mkF m 71 #[.val (.int x18), .val (.int (17 : Int32))] [(.int (2 : Int32)), (.int x18)])
            refine own_go (fun _ => XS.iushr X0.here hx rfl (hb hby d3_71) rfl) ?_
            show GG _ _ _ _ _ _ _ s₁ (mkF m 72 #[.val (.int x18), .val (.int (17 : Int32))] [(.int ((x18.toUInt32 >>> ((2 : Int32) &&& 31).toUInt32).toInt32))])
            have cx21 := c_iushr x18 (2 : Int32) 2 (by decide) (by decide)
            generalize hx21 : ((x18.toUInt32 >>> ((2 : Int32) &&& 31).toUInt32).toInt32) = x21 at cx21 ⊢
            have rx21 := rng32 x21
            refine own_go (fun _ => XS.istoreN X0.here hx rfl (hb hby d3_72) rfl (l' := #[.val (.int x21), .val (.int (17 : Int32))]) rfl) ?_
            show GG _ _ _ _ _ _ _ s₁ (mkF m 73 #[.val (.int x21), .val (.int (17 : Int32))] [])
            refine own_go (fun _ => XS.iloadN X0.here hx rfl (hb hby d3_73) rfl) ?_
            show GG _ _ _ _ _ _ _ s₁ (mkF m 74 #[.val (.int x21), .val (.int (17 : Int32))] [(.int (17 : Int32))])
            refine own_go (fun _ => XS.iloadN X0.here hx rfl (hb hby d3_74) rfl) ?_
            show GG _ _ _ _ _ _ _ s₁ (mkF m 75 #[.val (.int x21), .val (.int (17 : Int32))] [(.int x21), (.int (17 : Int32))])
            refine own_go (fun _ => XS.iconst X0.here hx rfl (hb hby d3_75)) ?_
            show GG _ _ _ _ _ _ _ s₁ (mkF m 76 #[.val (.int x21), .val (.int (17 : Int32))] [(.int (1 : Int32)), (.int x21), (.int (17 : Int32))])
            refine own_go (fun _ => XS.iushr X0.here hx rfl (hb hby d3_76) rfl) ?_
            show GG _ _ _ _ _ _ _ s₁ (mkF m 77 #[.val (.int x21), .val (.int (17 : Int32))] [(.int ((x21.toUInt32 >>> ((1 : Int32) &&& 31).toUInt32).toInt32)), (.int (17 : Int32))])
            have cx22 := c_iushr x21 (1 : Int32) 1 (by decide) (by decide)
            generalize hx22 : ((x21.toUInt32 >>> ((1 : Int32) &&& 31).toUInt32).toInt32) = x22 at cx22 ⊢
            have rx22 := rng32 x22
            refine own_go (fun _ => XS.isub X0.here hx rfl (hb hby d3_77) rfl) ?_
            show GG _ _ _ _ _ _ _ s₁ (mkF m 78 #[.val (.int x21), .val (.int (17 : Int32))] [(.int ((17 : Int32) - x22))])
            have cx23 := c_isub (17 : Int32) x22
            simp only [show ((17 : Int32)).toInt = 17 from by decide] at cx23
            generalize hx23 : ((17 : Int32) - x22) = x23 at cx23 ⊢
            have rx23 := rng32 x23
            refine own_ret X0 hx hlk (t := .int) (w := (.int x23)) Bd.returns rfl (Or.inl ⟨rfl, by simp, _, rfl⟩) (hb hby d3_78) (by decide) (by decide) ?_
            show Q3 Z p0 h0 n0 (some (.int x23)) s₁.heap _
            rw [e0]
            exact ⟨_, rfl, own_nl 14 16384 (by decide) (by decide) (by omega) (fun _ => by omega) (fun _ => by omega), N0, rfl⟩
    · skip
      have ihc22 : ¬ (p0.toInt < 65536) := fun q => hc22 (Int32.lt_iff_toInt_lt.mpr q)
      refine own_go (fun _ => XS.icmpNo X0.here hx rfl (hb hby d3_22) rfl (flt hc22).1) ?_
      show GG _ _ _ _ _ _ _ s₁ (mkF m 25 #[.val (.int p0), .val (.int (31 : Int32))] [])
      refine own_go (fun _ => XS.iinc X0.here hx rfl (hb hby d3_25) rfl (l' := #[.val (.int p0), .val (.int (15 : Int32))]) rfl) ?_
      show GG _ _ _ _ _ _ _ s₁ (mkF m 28 #[.val (.int p0), .val (.int (15 : Int32))] [])
      refine own_go (fun _ => XS.iloadN X0.here hx rfl (hb hby d3_28) rfl) ?_
      show GG _ _ _ _ _ _ _ s₁ (mkF m 29 #[.val (.int p0), .val (.int (15 : Int32))] [(.int p0)])
      refine own_go (fun _ => XS.bipush X0.here hx rfl (hb hby d3_29)) ?_
      show GG _ _ _ _ _ _ _ s₁ (mkF m 31 #[.val (.int p0), .val (.int (15 : Int32))] [(.int (16 : Int32)), (.int p0)])
      refine own_go (fun _ => XS.iushr X0.here hx rfl (hb hby d3_31) rfl) ?_
      show GG _ _ _ _ _ _ _ s₁ (mkF m 32 #[.val (.int p0), .val (.int (15 : Int32))] [(.int ((p0.toUInt32 >>> ((16 : Int32) &&& 31).toUInt32).toInt32))])
      have cx24 := c_iushr p0 (16 : Int32) 16 (by decide) (by decide)
      generalize hx24 : ((p0.toUInt32 >>> ((16 : Int32) &&& 31).toUInt32).toInt32) = x24 at cx24 ⊢
      have rx24 := rng32 x24
      refine own_go (fun _ => XS.istoreN X0.here hx rfl (hb hby d3_32) rfl (l' := #[.val (.int x24), .val (.int (15 : Int32))]) rfl) ?_
      show GG _ _ _ _ _ _ _ s₁ (mkF m 33 #[.val (.int x24), .val (.int (15 : Int32))] [])
      refine own_go (fun _ => XS.iloadN X0.here hx rfl (hb hby d3_33) rfl) ?_
      show GG _ _ _ _ _ _ _ s₁ (mkF m 34 #[.val (.int x24), .val (.int (15 : Int32))] [(.int x24)])
      refine own_go (fun _ => XS.sipush X0.here hx rfl (hb hby d3_34)) ?_
      show GG _ _ _ _ _ _ _ s₁ (mkF m 37 #[.val (.int x24), .val (.int (15 : Int32))] [(.int (256 : Int32)), (.int x24)])
      by_cases hc37 : x24 < (256 : Int32)
      · skip
        have ihc37 : (x24.toInt < 256) := Int32.lt_iff_toInt_lt.mp hc37
        refine own_go (fun _ => XS.icmpYes X0.here hx rfl (pc0 := 37) (pc' := 48) rfl (hb hby d3_37) rfl (tlt hc37).1 (by decide) (by decide)) ?_
        show GG _ _ _ _ _ _ _ s₁ (mkF m 48 #[.val (.int x24), .val (.int (15 : Int32))] [])
        refine own_go (fun _ => XS.iloadN X0.here hx rfl (hb hby d3_48) rfl) ?_
        show GG _ _ _ _ _ _ _ s₁ (mkF m 49 #[.val (.int x24), .val (.int (15 : Int32))] [(.int x24)])
        refine own_go (fun _ => XS.bipush X0.here hx rfl (hb hby d3_49)) ?_
        show GG _ _ _ _ _ _ _ s₁ (mkF m 51 #[.val (.int x24), .val (.int (15 : Int32))] [(.int (16 : Int32)), (.int x24)])
        by_cases hc51 : x24 < (16 : Int32)
        · skip
          have ihc51 : (x24.toInt < 16) := Int32.lt_iff_toInt_lt.mp hc51
          refine own_go (fun _ => XS.icmpYes X0.here hx rfl (pc0 := 51) (pc' := 61) rfl (hb hby d3_51) rfl (tlt hc51).1 (by decide) (by decide)) ?_
          show GG _ _ _ _ _ _ _ s₁ (mkF m 61 #[.val (.int x24), .val (.int (15 : Int32))] [])
          refine own_go (fun _ => XS.iloadN X0.here hx rfl (hb hby d3_61) rfl) ?_
          show GG _ _ _ _ _ _ _ s₁ (mkF m 62 #[.val (.int x24), .val (.int (15 : Int32))] [(.int x24)])
          refine own_go (fun _ => XS.iconst X0.here hx rfl (hb hby d3_62)) ?_
          show GG _ _ _ _ _ _ _ s₁ (mkF m 63 #[.val (.int x24), .val (.int (15 : Int32))] [(.int (4 : Int32)), (.int x24)])
          by_cases hc63 : x24 < (4 : Int32)
          · skip
            have ihc63 : (x24.toInt < 4) := Int32.lt_iff_toInt_lt.mp hc63
            refine own_go (fun _ => XS.icmpYes X0.here hx rfl (pc0 := 63) (pc' := 73) rfl (hb hby d3_63) rfl (tlt hc63).1 (by decide) (by decide)) ?_
            show GG _ _ _ _ _ _ _ s₁ (mkF m 73 #[.val (.int x24), .val (.int (15 : Int32))] [])
            refine own_go (fun _ => XS.iloadN X0.here hx rfl (hb hby d3_73) rfl) ?_
            show GG _ _ _ _ _ _ _ s₁ (mkF m 74 #[.val (.int x24), .val (.int (15 : Int32))] [(.int (15 : Int32))])
            refine own_go (fun _ => XS.iloadN X0.here hx rfl (hb hby d3_74) rfl) ?_
            show GG _ _ _ _ _ _ _ s₁ (mkF m 75 #[.val (.int x24), .val (.int (15 : Int32))] [(.int x24), (.int (15 : Int32))])
            refine own_go (fun _ => XS.iconst X0.here hx rfl (hb hby d3_75)) ?_
            show GG _ _ _ _ _ _ _ s₁ (mkF m 76 #[.val (.int x24), .val (.int (15 : Int32))] [(.int (1 : Int32)), (.int x24), (.int (15 : Int32))])
            refine own_go (fun _ => XS.iushr X0.here hx rfl (hb hby d3_76) rfl) ?_
            show GG _ _ _ _ _ _ _ s₁ (mkF m 77 #[.val (.int x24), .val (.int (15 : Int32))] [(.int ((x24.toUInt32 >>> ((1 : Int32) &&& 31).toUInt32).toInt32)), (.int (15 : Int32))])
            have cx25 := c_iushr x24 (1 : Int32) 1 (by decide) (by decide)
            generalize hx25 : ((x24.toUInt32 >>> ((1 : Int32) &&& 31).toUInt32).toInt32) = x25 at cx25 ⊢
            have rx25 := rng32 x25
            refine own_go (fun _ => XS.isub X0.here hx rfl (hb hby d3_77) rfl) ?_
            show GG _ _ _ _ _ _ _ s₁ (mkF m 78 #[.val (.int x24), .val (.int (15 : Int32))] [(.int ((15 : Int32) - x25))])
            have cx26 := c_isub (15 : Int32) x25
            simp only [show ((15 : Int32)).toInt = 15 from by decide] at cx26
            generalize hx26 : ((15 : Int32) - x25) = x26 at cx26 ⊢
            have rx26 := rng32 x26
            refine own_ret X0 hx hlk (t := .int) (w := (.int x26)) Bd.returns rfl (Or.inl ⟨rfl, by simp, _, rfl⟩) (hb hby d3_78) (by decide) (by decide) ?_
            show Q3 Z p0 h0 n0 (some (.int x26)) s₁.heap _
            rw [e0]
            exact ⟨_, rfl, own_nl 16 65536 (by decide) (by decide) (by omega) (fun _ => by omega) (fun _ => by omega), N0, rfl⟩
          · skip
            have ihc63 : ¬ (x24.toInt < 4) := fun q => hc63 (Int32.lt_iff_toInt_lt.mpr q)
            refine own_go (fun _ => XS.icmpNo X0.here hx rfl (hb hby d3_63) rfl (flt hc63).1) ?_
            show GG _ _ _ _ _ _ _ s₁ (mkF m 66 #[.val (.int x24), .val (.int (15 : Int32))] [])
            refine own_go (fun _ => XS.iinc X0.here hx rfl (hb hby d3_66) rfl (l' := #[.val (.int x24), .val (.int (13 : Int32))]) rfl) ?_
            show GG _ _ _ _ _ _ _ s₁ (mkF m 69 #[.val (.int x24), .val (.int (13 : Int32))] [])
            refine own_go (fun _ => XS.iloadN X0.here hx rfl (hb hby d3_69) rfl) ?_
            show GG _ _ _ _ _ _ _ s₁ (mkF m 70 #[.val (.int x24), .val (.int (13 : Int32))] [(.int x24)])
            refine own_go (fun _ => XS.iconst X0.here hx rfl (hb hby d3_70)) ?_
            show GG _ _ _ _ _ _ _ s₁ (mkF m 71 #[.val (.int x24), .val (.int (13 : Int32))] [(.int (2 : Int32)), (.int x24)])
            refine own_go (fun _ => XS.iushr X0.here hx rfl (hb hby d3_71) rfl) ?_
            show GG _ _ _ _ _ _ _ s₁ (mkF m 72 #[.val (.int x24), .val (.int (13 : Int32))] [(.int ((x24.toUInt32 >>> ((2 : Int32) &&& 31).toUInt32).toInt32))])
            have cx27 := c_iushr x24 (2 : Int32) 2 (by decide) (by decide)
            generalize hx27 : ((x24.toUInt32 >>> ((2 : Int32) &&& 31).toUInt32).toInt32) = x27 at cx27 ⊢
            have rx27 := rng32 x27
            refine own_go (fun _ => XS.istoreN X0.here hx rfl (hb hby d3_72) rfl (l' := #[.val (.int x27), .val (.int (13 : Int32))]) rfl) ?_
            show GG _ _ _ _ _ _ _ s₁ (mkF m 73 #[.val (.int x27), .val (.int (13 : Int32))] [])
            refine own_go (fun _ => XS.iloadN X0.here hx rfl (hb hby d3_73) rfl) ?_
            show GG _ _ _ _ _ _ _ s₁ (mkF m 74 #[.val (.int x27), .val (.int (13 : Int32))] [(.int (13 : Int32))])
            refine own_go (fun _ => XS.iloadN X0.here hx rfl (hb hby d3_74) rfl) ?_
            show GG _ _ _ _ _ _ _ s₁ (mkF m 75 #[.val (.int x27), .val (.int (13 : Int32))] [(.int x27), (.int (13 : Int32))])
            refine own_go (fun _ => XS.iconst X0.here hx rfl (hb hby d3_75)) ?_
            show GG _ _ _ _ _ _ _ s₁ (mkF m 76 #[.val (.int x27), .val (.int (13 : Int32))] [(.int (1 : Int32)), (.int x27), (.int (13 : Int32))])
            refine own_go (fun _ => XS.iushr X0.here hx rfl (hb hby d3_76) rfl) ?_
            show GG _ _ _ _ _ _ _ s₁ (mkF m 77 #[.val (.int x27), .val (.int (13 : Int32))] [(.int ((x27.toUInt32 >>> ((1 : Int32) &&& 31).toUInt32).toInt32)), (.int (13 : Int32))])
            have cx28 := c_iushr x27 (1 : Int32) 1 (by decide) (by decide)
            generalize hx28 : ((x27.toUInt32 >>> ((1 : Int32) &&& 31).toUInt32).toInt32) = x28 at cx28 ⊢
            have rx28 := rng32 x28
            refine own_go (fun _ => XS.isub X0.here hx rfl (hb hby d3_77) rfl) ?_
            show GG _ _ _ _ _ _ _ s₁ (mkF m 78 #[.val (.int x27), .val (.int (13 : Int32))] [(.int ((13 : Int32) - x28))])
            have cx29 := c_isub (13 : Int32) x28
            simp only [show ((13 : Int32)).toInt = 13 from by decide] at cx29
            generalize hx29 : ((13 : Int32) - x28) = x29 at cx29 ⊢
            have rx29 := rng32 x29
            refine own_ret X0 hx hlk (t := .int) (w := (.int x29)) Bd.returns rfl (Or.inl ⟨rfl, by simp, _, rfl⟩) (hb hby d3_78) (by decide) (by decide) ?_
            show Q3 Z p0 h0 n0 (some (.int x29)) s₁.heap _
            rw [e0]
            exact ⟨_, rfl, own_nl 18 262144 (by decide) (by decide) (by omega) (fun _ => by omega) (fun _ => by omega), N0, rfl⟩
        · skip
          have ihc51 : ¬ (x24.toInt < 16) := fun q => hc51 (Int32.lt_iff_toInt_lt.mpr q)
          refine own_go (fun _ => XS.icmpNo X0.here hx rfl (hb hby d3_51) rfl (flt hc51).1) ?_
          show GG _ _ _ _ _ _ _ s₁ (mkF m 54 #[.val (.int x24), .val (.int (15 : Int32))] [])
          refine own_go (fun _ => XS.iinc X0.here hx rfl (hb hby d3_54) rfl (l' := #[.val (.int x24), .val (.int (11 : Int32))]) rfl) ?_
          show GG _ _ _ _ _ _ _ s₁ (mkF m 57 #[.val (.int x24), .val (.int (11 : Int32))] [])
          refine own_go (fun _ => XS.iloadN X0.here hx rfl (hb hby d3_57) rfl) ?_
          show GG _ _ _ _ _ _ _ s₁ (mkF m 58 #[.val (.int x24), .val (.int (11 : Int32))] [(.int x24)])
          refine own_go (fun _ => XS.iconst X0.here hx rfl (hb hby d3_58)) ?_
          show GG _ _ _ _ _ _ _ s₁ (mkF m 59 #[.val (.int x24), .val (.int (11 : Int32))] [(.int (4 : Int32)), (.int x24)])
          refine own_go (fun _ => XS.iushr X0.here hx rfl (hb hby d3_59) rfl) ?_
          show GG _ _ _ _ _ _ _ s₁ (mkF m 60 #[.val (.int x24), .val (.int (11 : Int32))] [(.int ((x24.toUInt32 >>> ((4 : Int32) &&& 31).toUInt32).toInt32))])
          have cx30 := c_iushr x24 (4 : Int32) 4 (by decide) (by decide)
          generalize hx30 : ((x24.toUInt32 >>> ((4 : Int32) &&& 31).toUInt32).toInt32) = x30 at cx30 ⊢
          have rx30 := rng32 x30
          refine own_go (fun _ => XS.istoreN X0.here hx rfl (hb hby d3_60) rfl (l' := #[.val (.int x30), .val (.int (11 : Int32))]) rfl) ?_
          show GG _ _ _ _ _ _ _ s₁ (mkF m 61 #[.val (.int x30), .val (.int (11 : Int32))] [])
          refine own_go (fun _ => XS.iloadN X0.here hx rfl (hb hby d3_61) rfl) ?_
          show GG _ _ _ _ _ _ _ s₁ (mkF m 62 #[.val (.int x30), .val (.int (11 : Int32))] [(.int x30)])
          refine own_go (fun _ => XS.iconst X0.here hx rfl (hb hby d3_62)) ?_
          show GG _ _ _ _ _ _ _ s₁ (mkF m 63 #[.val (.int x30), .val (.int (11 : Int32))] [(.int (4 : Int32)), (.int x30)])
          by_cases hc63 : x30 < (4 : Int32)
          · skip
            have ihc63 : (x30.toInt < 4) := Int32.lt_iff_toInt_lt.mp hc63
            refine own_go (fun _ => XS.icmpYes X0.here hx rfl (pc0 := 63) (pc' := 73) rfl (hb hby d3_63) rfl (tlt hc63).1 (by decide) (by decide)) ?_
            show GG _ _ _ _ _ _ _ s₁ (mkF m 73 #[.val (.int x30), .val (.int (11 : Int32))] [])
            refine own_go (fun _ => XS.iloadN X0.here hx rfl (hb hby d3_73) rfl) ?_
            show GG _ _ _ _ _ _ _ s₁ (mkF m 74 #[.val (.int x30), .val (.int (11 : Int32))] [(.int (11 : Int32))])
            refine own_go (fun _ => XS.iloadN X0.here hx rfl (hb hby d3_74) rfl) ?_
            show GG _ _ _ _ _ _ _ s₁ (mkF m 75 #[.val (.int x30), .val (.int (11 : Int32))] [(.int x30), (.int (11 : Int32))])
            refine own_go (fun _ => XS.iconst X0.here hx rfl (hb hby d3_75)) ?_
            show GG _ _ _ _ _ _ _ s₁ (mkF m 76 #[.val (.int x30), .val (.int (11 : Int32))] [(.int (1 : Int32)), (.int x30), (.int (11 : Int32))])
            refine own_go (fun _ => XS.iushr X0.here hx rfl (hb hby d3_76) rfl) ?_
            show GG _ _ _ _ _ _ _ s₁ (mkF m 77 #[.val (.int x30), .val (.int (11 : Int32))] [(.int ((x30.toUInt32 >>> ((1 : Int32) &&& 31).toUInt32).toInt32)), (.int (11 : Int32))])
            have cx31 := c_iushr x30 (1 : Int32) 1 (by decide) (by decide)
            generalize hx31 : ((x30.toUInt32 >>> ((1 : Int32) &&& 31).toUInt32).toInt32) = x31 at cx31 ⊢
            have rx31 := rng32 x31
            refine own_go (fun _ => XS.isub X0.here hx rfl (hb hby d3_77) rfl) ?_
            show GG _ _ _ _ _ _ _ s₁ (mkF m 78 #[.val (.int x30), .val (.int (11 : Int32))] [(.int ((11 : Int32) - x31))])
            have cx32 := c_isub (11 : Int32) x31
            simp only [show ((11 : Int32)).toInt = 11 from by decide] at cx32
            generalize hx32 : ((11 : Int32) - x31) = x32 at cx32 ⊢
            have rx32 := rng32 x32
            refine own_ret X0 hx hlk (t := .int) (w := (.int x32)) Bd.returns rfl (Or.inl ⟨rfl, by simp, _, rfl⟩) (hb hby d3_78) (by decide) (by decide) ?_
            show Q3 Z p0 h0 n0 (some (.int x32)) s₁.heap _
            rw [e0]
            exact ⟨_, rfl, own_nl 20 1048576 (by decide) (by decide) (by omega) (fun _ => by omega) (fun _ => by omega), N0, rfl⟩
          · skip
            have ihc63 : ¬ (x30.toInt < 4) := fun q => hc63 (Int32.lt_iff_toInt_lt.mpr q)
            refine own_go (fun _ => XS.icmpNo X0.here hx rfl (hb hby d3_63) rfl (flt hc63).1) ?_
            show GG _ _ _ _ _ _ _ s₁ (mkF m 66 #[.val (.int x30), .val (.int (11 : Int32))] [])
            refine own_go (fun _ => XS.iinc X0.here hx rfl (hb hby d3_66) rfl (l' := #[.val (.int x30), .val (.int (9 : Int32))]) rfl) ?_
            show GG _ _ _ _ _ _ _ s₁ (mkF m 69 #[.val (.int x30), .val (.int (9 : Int32))] [])
            refine own_go (fun _ => XS.iloadN X0.here hx rfl (hb hby d3_69) rfl) ?_
            show GG _ _ _ _ _ _ _ s₁ (mkF m 70 #[.val (.int x30), .val (.int (9 : Int32))] [(.int x30)])
            refine own_go (fun _ => XS.iconst X0.here hx rfl (hb hby d3_70)) ?_
            show GG _ _ _ _ _ _ _ s₁ (mkF m 71 #[.val (.int x30), .val (.int (9 : Int32))] [(.int (2 : Int32)), (.int x30)])
            refine own_go (fun _ => XS.iushr X0.here hx rfl (hb hby d3_71) rfl) ?_
            show GG _ _ _ _ _ _ _ s₁ (mkF m 72 #[.val (.int x30), .val (.int (9 : Int32))] [(.int ((x30.toUInt32 >>> ((2 : Int32) &&& 31).toUInt32).toInt32))])
            have cx33 := c_iushr x30 (2 : Int32) 2 (by decide) (by decide)
            generalize hx33 : ((x30.toUInt32 >>> ((2 : Int32) &&& 31).toUInt32).toInt32) = x33 at cx33 ⊢
            have rx33 := rng32 x33
            refine own_go (fun _ => XS.istoreN X0.here hx rfl (hb hby d3_72) rfl (l' := #[.val (.int x33), .val (.int (9 : Int32))]) rfl) ?_
            show GG _ _ _ _ _ _ _ s₁ (mkF m 73 #[.val (.int x33), .val (.int (9 : Int32))] [])
            refine own_go (fun _ => XS.iloadN X0.here hx rfl (hb hby d3_73) rfl) ?_
            show GG _ _ _ _ _ _ _ s₁ (mkF m 74 #[.val (.int x33), .val (.int (9 : Int32))] [(.int (9 : Int32))])
            refine own_go (fun _ => XS.iloadN X0.here hx rfl (hb hby d3_74) rfl) ?_
            show GG _ _ _ _ _ _ _ s₁ (mkF m 75 #[.val (.int x33), .val (.int (9 : Int32))] [(.int x33), (.int (9 : Int32))])
            refine own_go (fun _ => XS.iconst X0.here hx rfl (hb hby d3_75)) ?_
            show GG _ _ _ _ _ _ _ s₁ (mkF m 76 #[.val (.int x33), .val (.int (9 : Int32))] [(.int (1 : Int32)), (.int x33), (.int (9 : Int32))])
            refine own_go (fun _ => XS.iushr X0.here hx rfl (hb hby d3_76) rfl) ?_
            show GG _ _ _ _ _ _ _ s₁ (mkF m 77 #[.val (.int x33), .val (.int (9 : Int32))] [(.int ((x33.toUInt32 >>> ((1 : Int32) &&& 31).toUInt32).toInt32)), (.int (9 : Int32))])
            have cx34 := c_iushr x33 (1 : Int32) 1 (by decide) (by decide)
            generalize hx34 : ((x33.toUInt32 >>> ((1 : Int32) &&& 31).toUInt32).toInt32) = x34 at cx34 ⊢
            have rx34 := rng32 x34
            refine own_go (fun _ => XS.isub X0.here hx rfl (hb hby d3_77) rfl) ?_
            show GG _ _ _ _ _ _ _ s₁ (mkF m 78 #[.val (.int x33), .val (.int (9 : Int32))] [(.int ((9 : Int32) - x34))])
            have cx35 := c_isub (9 : Int32) x34
            simp only [show ((9 : Int32)).toInt = 9 from by decide] at cx35
            generalize hx35 : ((9 : Int32) - x34) = x35 at cx35 ⊢
            have rx35 := rng32 x35
            refine own_ret X0 hx hlk (t := .int) (w := (.int x35)) Bd.returns rfl (Or.inl ⟨rfl, by simp, _, rfl⟩) (hb hby d3_78) (by decide) (by decide) ?_
            show Q3 Z p0 h0 n0 (some (.int x35)) s₁.heap _
            rw [e0]
            exact ⟨_, rfl, own_nl 22 4194304 (by decide) (by decide) (by omega) (fun _ => by omega) (fun _ => by omega), N0, rfl⟩
      · skip
        have ihc37 : ¬ (x24.toInt < 256) := fun q => hc37 (Int32.lt_iff_toInt_lt.mpr q)
        refine own_go (fun _ => XS.icmpNo X0.here hx rfl (hb hby d3_37) rfl (flt hc37).1) ?_
        show GG _ _ _ _ _ _ _ s₁ (mkF m 40 #[.val (.int x24), .val (.int (15 : Int32))] [])
        refine own_go (fun _ => XS.iinc X0.here hx rfl (hb hby d3_40) rfl (l' := #[.val (.int x24), .val (.int (7 : Int32))]) rfl) ?_
        show GG _ _ _ _ _ _ _ s₁ (mkF m 43 #[.val (.int x24), .val (.int (7 : Int32))] [])
        refine own_go (fun _ => XS.iloadN X0.here hx rfl (hb hby d3_43) rfl) ?_
        show GG _ _ _ _ _ _ _ s₁ (mkF m 44 #[.val (.int x24), .val (.int (7 : Int32))] [(.int x24)])
        refine own_go (fun _ => XS.bipush X0.here hx rfl (hb hby d3_44)) ?_
        show GG _ _ _ _ _ _ _ s₁ (mkF m 46 #[.val (.int x24), .val (.int (7 : Int32))] [(.int (8 : Int32)), (.int x24)])
        refine own_go (fun _ => XS.iushr X0.here hx rfl (hb hby d3_46) rfl) ?_
        show GG _ _ _ _ _ _ _ s₁ (mkF m 47 #[.val (.int x24), .val (.int (7 : Int32))] [(.int ((x24.toUInt32 >>> ((8 : Int32) &&& 31).toUInt32).toInt32))])
        have cx36 := c_iushr x24 (8 : Int32) 8 (by decide) (by decide)
        generalize hx36 : ((x24.toUInt32 >>> ((8 : Int32) &&& 31).toUInt32).toInt32) = x36 at cx36 ⊢
        have rx36 := rng32 x36
        refine own_go (fun _ => XS.istoreN X0.here hx rfl (hb hby d3_47) rfl (l' := #[.val (.int x36), .val (.int (7 : Int32))]) rfl) ?_
        show GG _ _ _ _ _ _ _ s₁ (mkF m 48 #[.val (.int x36), .val (.int (7 : Int32))] [])
        refine own_go (fun _ => XS.iloadN X0.here hx rfl (hb hby d3_48) rfl) ?_
        show GG _ _ _ _ _ _ _ s₁ (mkF m 49 #[.val (.int x36), .val (.int (7 : Int32))] [(.int x36)])
        refine own_go (fun _ => XS.bipush X0.here hx rfl (hb hby d3_49)) ?_
        show GG _ _ _ _ _ _ _ s₁ (mkF m 51 #[.val (.int x36), .val (.int (7 : Int32))] [(.int (16 : Int32)), (.int x36)])
        by_cases hc51 : x36 < (16 : Int32)
        · skip
          have ihc51 : (x36.toInt < 16) := Int32.lt_iff_toInt_lt.mp hc51
          refine own_go (fun _ => XS.icmpYes X0.here hx rfl (pc0 := 51) (pc' := 61) rfl (hb hby d3_51) rfl (tlt hc51).1 (by decide) (by decide)) ?_
          show GG _ _ _ _ _ _ _ s₁ (mkF m 61 #[.val (.int x36), .val (.int (7 : Int32))] [])
          refine own_go (fun _ => XS.iloadN X0.here hx rfl (hb hby d3_61) rfl) ?_
          show GG _ _ _ _ _ _ _ s₁ (mkF m 62 #[.val (.int x36), .val (.int (7 : Int32))] [(.int x36)])
          refine own_go (fun _ => XS.iconst X0.here hx rfl (hb hby d3_62)) ?_
          show GG _ _ _ _ _ _ _ s₁ (mkF m 63 #[.val (.int x36), .val (.int (7 : Int32))] [(.int (4 : Int32)), (.int x36)])
          by_cases hc63 : x36 < (4 : Int32)
          · skip
            have ihc63 : (x36.toInt < 4) := Int32.lt_iff_toInt_lt.mp hc63
            refine own_go (fun _ => XS.icmpYes X0.here hx rfl (pc0 := 63) (pc' := 73) rfl (hb hby d3_63) rfl (tlt hc63).1 (by decide) (by decide)) ?_
            show GG _ _ _ _ _ _ _ s₁ (mkF m 73 #[.val (.int x36), .val (.int (7 : Int32))] [])
            refine own_go (fun _ => XS.iloadN X0.here hx rfl (hb hby d3_73) rfl) ?_
            show GG _ _ _ _ _ _ _ s₁ (mkF m 74 #[.val (.int x36), .val (.int (7 : Int32))] [(.int (7 : Int32))])
            refine own_go (fun _ => XS.iloadN X0.here hx rfl (hb hby d3_74) rfl) ?_
            show GG _ _ _ _ _ _ _ s₁ (mkF m 75 #[.val (.int x36), .val (.int (7 : Int32))] [(.int x36), (.int (7 : Int32))])
            refine own_go (fun _ => XS.iconst X0.here hx rfl (hb hby d3_75)) ?_
            show GG _ _ _ _ _ _ _ s₁ (mkF m 76 #[.val (.int x36), .val (.int (7 : Int32))] [(.int (1 : Int32)), (.int x36), (.int (7 : Int32))])
            refine own_go (fun _ => XS.iushr X0.here hx rfl (hb hby d3_76) rfl) ?_
            show GG _ _ _ _ _ _ _ s₁ (mkF m 77 #[.val (.int x36), .val (.int (7 : Int32))] [(.int ((x36.toUInt32 >>> ((1 : Int32) &&& 31).toUInt32).toInt32)), (.int (7 : Int32))])
            have cx37 := c_iushr x36 (1 : Int32) 1 (by decide) (by decide)
            generalize hx37 : ((x36.toUInt32 >>> ((1 : Int32) &&& 31).toUInt32).toInt32) = x37 at cx37 ⊢
            have rx37 := rng32 x37
            refine own_go (fun _ => XS.isub X0.here hx rfl (hb hby d3_77) rfl) ?_
            show GG _ _ _ _ _ _ _ s₁ (mkF m 78 #[.val (.int x36), .val (.int (7 : Int32))] [(.int ((7 : Int32) - x37))])
            have cx38 := c_isub (7 : Int32) x37
            simp only [show ((7 : Int32)).toInt = 7 from by decide] at cx38
            generalize hx38 : ((7 : Int32) - x37) = x38 at cx38 ⊢
            have rx38 := rng32 x38
            refine own_ret X0 hx hlk (t := .int) (w := (.int x38)) Bd.returns rfl (Or.inl ⟨rfl, by simp, _, rfl⟩) (hb hby d3_78) (by decide) (by decide) ?_
            show Q3 Z p0 h0 n0 (some (.int x38)) s₁.heap _
            rw [e0]
            exact ⟨_, rfl, own_nl 24 16777216 (by decide) (by decide) (by omega) (fun _ => by omega) (fun _ => by omega), N0, rfl⟩
          · skip
            have ihc63 : ¬ (x36.toInt < 4) := fun q => hc63 (Int32.lt_iff_toInt_lt.mpr q)
            refine own_go (fun _ => XS.icmpNo X0.here hx rfl (hb hby d3_63) rfl (flt hc63).1) ?_
            show GG _ _ _ _ _ _ _ s₁ (mkF m 66 #[.val (.int x36), .val (.int (7 : Int32))] [])
            refine own_go (fun _ => XS.iinc X0.here hx rfl (hb hby d3_66) rfl (l' := #[.val (.int x36), .val (.int (5 : Int32))]) rfl) ?_
            show GG _ _ _ _ _ _ _ s₁ (mkF m 69 #[.val (.int x36), .val (.int (5 : Int32))] [])
            refine own_go (fun _ => XS.iloadN X0.here hx rfl (hb hby d3_69) rfl) ?_
            show GG _ _ _ _ _ _ _ s₁ (mkF m 70 #[.val (.int x36), .val (.int (5 : Int32))] [(.int x36)])
            refine own_go (fun _ => XS.iconst X0.here hx rfl (hb hby d3_70)) ?_
            show GG _ _ _ _ _ _ _ s₁ (mkF m 71 #[.val (.int x36), .val (.int (5 : Int32))] [(.int (2 : Int32)), (.int x36)])
            refine own_go (fun _ => XS.iushr X0.here hx rfl (hb hby d3_71) rfl) ?_
            show GG _ _ _ _ _ _ _ s₁ (mkF m 72 #[.val (.int x36), .val (.int (5 : Int32))] [(.int ((x36.toUInt32 >>> ((2 : Int32) &&& 31).toUInt32).toInt32))])
            have cx39 := c_iushr x36 (2 : Int32) 2 (by decide) (by decide)
            generalize hx39 : ((x36.toUInt32 >>> ((2 : Int32) &&& 31).toUInt32).toInt32) = x39 at cx39 ⊢
            have rx39 := rng32 x39
            refine own_go (fun _ => XS.istoreN X0.here hx rfl (hb hby d3_72) rfl (l' := #[.val (.int x39), .val (.int (5 : Int32))]) rfl) ?_
            show GG _ _ _ _ _ _ _ s₁ (mkF m 73 #[.val (.int x39), .val (.int (5 : Int32))] [])
            refine own_go (fun _ => XS.iloadN X0.here hx rfl (hb hby d3_73) rfl) ?_
            show GG _ _ _ _ _ _ _ s₁ (mkF m 74 #[.val (.int x39), .val (.int (5 : Int32))] [(.int (5 : Int32))])
            refine own_go (fun _ => XS.iloadN X0.here hx rfl (hb hby d3_74) rfl) ?_
            show GG _ _ _ _ _ _ _ s₁ (mkF m 75 #[.val (.int x39), .val (.int (5 : Int32))] [(.int x39), (.int (5 : Int32))])
            refine own_go (fun _ => XS.iconst X0.here hx rfl (hb hby d3_75)) ?_
            show GG _ _ _ _ _ _ _ s₁ (mkF m 76 #[.val (.int x39), .val (.int (5 : Int32))] [(.int (1 : Int32)), (.int x39), (.int (5 : Int32))])
            refine own_go (fun _ => XS.iushr X0.here hx rfl (hb hby d3_76) rfl) ?_
            show GG _ _ _ _ _ _ _ s₁ (mkF m 77 #[.val (.int x39), .val (.int (5 : Int32))] [(.int ((x39.toUInt32 >>> ((1 : Int32) &&& 31).toUInt32).toInt32)), (.int (5 : Int32))])
            have cx40 := c_iushr x39 (1 : Int32) 1 (by decide) (by decide)
            generalize hx40 : ((x39.toUInt32 >>> ((1 : Int32) &&& 31).toUInt32).toInt32) = x40 at cx40 ⊢
            have rx40 := rng32 x40
            refine own_go (fun _ => XS.isub X0.here hx rfl (hb hby d3_77) rfl) ?_
            show GG _ _ _ _ _ _ _ s₁ (mkF m 78 #[.val (.int x39), .val (.int (5 : Int32))] [(.int ((5 : Int32) - x40))])
            have cx41 := c_isub (5 : Int32) x40
            simp only [show ((5 : Int32)).toInt = 5 from by decide] at cx41
            generalize hx41 : ((5 : Int32) - x40) = x41 at cx41 ⊢
            have rx41 := rng32 x41
            refine own_ret X0 hx hlk (t := .int) (w := (.int x41)) Bd.returns rfl (Or.inl ⟨rfl, by simp, _, rfl⟩) (hb hby d3_78) (by decide) (by decide) ?_
            show Q3 Z p0 h0 n0 (some (.int x41)) s₁.heap _
            rw [e0]
            exact ⟨_, rfl, own_nl 26 67108864 (by decide) (by decide) (by omega) (fun _ => by omega) (fun _ => by omega), N0, rfl⟩
        · skip
          have ihc51 : ¬ (x36.toInt < 16) := fun q => hc51 (Int32.lt_iff_toInt_lt.mpr q)
          refine own_go (fun _ => XS.icmpNo X0.here hx rfl (hb hby d3_51) rfl (flt hc51).1) ?_
          show GG _ _ _ _ _ _ _ s₁ (mkF m 54 #[.val (.int x36), .val (.int (7 : Int32))] [])
          refine own_go (fun _ => XS.iinc X0.here hx rfl (hb hby d3_54) rfl (l' := #[.val (.int x36), .val (.int (3 : Int32))]) rfl) ?_
          show GG _ _ _ _ _ _ _ s₁ (mkF m 57 #[.val (.int x36), .val (.int (3 : Int32))] [])
          refine own_go (fun _ => XS.iloadN X0.here hx rfl (hb hby d3_57) rfl) ?_
          show GG _ _ _ _ _ _ _ s₁ (mkF m 58 #[.val (.int x36), .val (.int (3 : Int32))] [(.int x36)])
          refine own_go (fun _ => XS.iconst X0.here hx rfl (hb hby d3_58)) ?_
          show GG _ _ _ _ _ _ _ s₁ (mkF m 59 #[.val (.int x36), .val (.int (3 : Int32))] [(.int (4 : Int32)), (.int x36)])
          refine own_go (fun _ => XS.iushr X0.here hx rfl (hb hby d3_59) rfl) ?_
          show GG _ _ _ _ _ _ _ s₁ (mkF m 60 #[.val (.int x36), .val (.int (3 : Int32))] [(.int ((x36.toUInt32 >>> ((4 : Int32) &&& 31).toUInt32).toInt32))])
          have cx42 := c_iushr x36 (4 : Int32) 4 (by decide) (by decide)
          generalize hx42 : ((x36.toUInt32 >>> ((4 : Int32) &&& 31).toUInt32).toInt32) = x42 at cx42 ⊢
          have rx42 := rng32 x42
          refine own_go (fun _ => XS.istoreN X0.here hx rfl (hb hby d3_60) rfl (l' := #[.val (.int x42), .val (.int (3 : Int32))]) rfl) ?_
          show GG _ _ _ _ _ _ _ s₁ (mkF m 61 #[.val (.int x42), .val (.int (3 : Int32))] [])
          refine own_go (fun _ => XS.iloadN X0.here hx rfl (hb hby d3_61) rfl) ?_
          show GG _ _ _ _ _ _ _ s₁ (mkF m 62 #[.val (.int x42), .val (.int (3 : Int32))] [(.int x42)])
          refine own_go (fun _ => XS.iconst X0.here hx rfl (hb hby d3_62)) ?_
          show GG _ _ _ _ _ _ _ s₁ (mkF m 63 #[.val (.int x42), .val (.int (3 : Int32))] [(.int (4 : Int32)), (.int x42)])
          by_cases hc63 : x42 < (4 : Int32)
          · skip
            have ihc63 : (x42.toInt < 4) := Int32.lt_iff_toInt_lt.mp hc63
            refine own_go (fun _ => XS.icmpYes X0.here hx rfl (pc0 := 63) (pc' := 73) rfl (hb hby d3_63) rfl (tlt hc63).1 (by decide) (by decide)) ?_
            show GG _ _ _ _ _ _ _ s₁ (mkF m 73 #[.val (.int x42), .val (.int (3 : Int32))] [])
            refine own_go (fun _ => XS.iloadN X0.here hx rfl (hb hby d3_73) rfl) ?_
            show GG _ _ _ _ _ _ _ s₁ (mkF m 74 #[.val (.int x42), .val (.int (3 : Int32))] [(.int (3 : Int32))])
            refine own_go (fun _ => XS.iloadN X0.here hx rfl (hb hby d3_74) rfl) ?_
            show GG _ _ _ _ _ _ _ s₁ (mkF m 75 #[.val (.int x42), .val (.int (3 : Int32))] [(.int x42), (.int (3 : Int32))])
            refine own_go (fun _ => XS.iconst X0.here hx rfl (hb hby d3_75)) ?_
            show GG _ _ _ _ _ _ _ s₁ (mkF m 76 #[.val (.int x42), .val (.int (3 : Int32))] [(.int (1 : Int32)), (.int x42), (.int (3 : Int32))])
            refine own_go (fun _ => XS.iushr X0.here hx rfl (hb hby d3_76) rfl) ?_
            show GG _ _ _ _ _ _ _ s₁ (mkF m 77 #[.val (.int x42), .val (.int (3 : Int32))] [(.int ((x42.toUInt32 >>> ((1 : Int32) &&& 31).toUInt32).toInt32)), (.int (3 : Int32))])
            have cx43 := c_iushr x42 (1 : Int32) 1 (by decide) (by decide)
            generalize hx43 : ((x42.toUInt32 >>> ((1 : Int32) &&& 31).toUInt32).toInt32) = x43 at cx43 ⊢
            have rx43 := rng32 x43
            refine own_go (fun _ => XS.isub X0.here hx rfl (hb hby d3_77) rfl) ?_
            show GG _ _ _ _ _ _ _ s₁ (mkF m 78 #[.val (.int x42), .val (.int (3 : Int32))] [(.int ((3 : Int32) - x43))])
            have cx44 := c_isub (3 : Int32) x43
            simp only [show ((3 : Int32)).toInt = 3 from by decide] at cx44
            generalize hx44 : ((3 : Int32) - x43) = x44 at cx44 ⊢
            have rx44 := rng32 x44
            refine own_ret X0 hx hlk (t := .int) (w := (.int x44)) Bd.returns rfl (Or.inl ⟨rfl, by simp, _, rfl⟩) (hb hby d3_78) (by decide) (by decide) ?_
            show Q3 Z p0 h0 n0 (some (.int x44)) s₁.heap _
            rw [e0]
            exact ⟨_, rfl, own_nl 28 268435456 (by decide) (by decide) (by omega) (fun _ => by omega) (fun _ => by omega), N0, rfl⟩
          · skip
            have ihc63 : ¬ (x42.toInt < 4) := fun q => hc63 (Int32.lt_iff_toInt_lt.mpr q)
            refine own_go (fun _ => XS.icmpNo X0.here hx rfl (hb hby d3_63) rfl (flt hc63).1) ?_
            show GG _ _ _ _ _ _ _ s₁ (mkF m 66 #[.val (.int x42), .val (.int (3 : Int32))] [])
            refine own_go (fun _ => XS.iinc X0.here hx rfl (hb hby d3_66) rfl (l' := #[.val (.int x42), .val (.int (1 : Int32))]) rfl) ?_
            show GG _ _ _ _ _ _ _ s₁ (mkF m 69 #[.val (.int x42), .val (.int (1 : Int32))] [])
            refine own_go (fun _ => XS.iloadN X0.here hx rfl (hb hby d3_69) rfl) ?_
            show GG _ _ _ _ _ _ _ s₁ (mkF m 70 #[.val (.int x42), .val (.int (1 : Int32))] [(.int x42)])
            refine own_go (fun _ => XS.iconst X0.here hx rfl (hb hby d3_70)) ?_
            show GG _ _ _ _ _ _ _ s₁ (mkF m 71 #[.val (.int x42), .val (.int (1 : Int32))] [(.int (2 : Int32)), (.int x42)])
            refine own_go (fun _ => XS.iushr X0.here hx rfl (hb hby d3_71) rfl) ?_
            show GG _ _ _ _ _ _ _ s₁ (mkF m 72 #[.val (.int x42), .val (.int (1 : Int32))] [(.int ((x42.toUInt32 >>> ((2 : Int32) &&& 31).toUInt32).toInt32))])
            have cx45 := c_iushr x42 (2 : Int32) 2 (by decide) (by decide)
            generalize hx45 : ((x42.toUInt32 >>> ((2 : Int32) &&& 31).toUInt32).toInt32) = x45 at cx45 ⊢
            have rx45 := rng32 x45
            refine own_go (fun _ => XS.istoreN X0.here hx rfl (hb hby d3_72) rfl (l' := #[.val (.int x45), .val (.int (1 : Int32))]) rfl) ?_
            show GG _ _ _ _ _ _ _ s₁ (mkF m 73 #[.val (.int x45), .val (.int (1 : Int32))] [])
            refine own_go (fun _ => XS.iloadN X0.here hx rfl (hb hby d3_73) rfl) ?_
            show GG _ _ _ _ _ _ _ s₁ (mkF m 74 #[.val (.int x45), .val (.int (1 : Int32))] [(.int (1 : Int32))])
            refine own_go (fun _ => XS.iloadN X0.here hx rfl (hb hby d3_74) rfl) ?_
            show GG _ _ _ _ _ _ _ s₁ (mkF m 75 #[.val (.int x45), .val (.int (1 : Int32))] [(.int x45), (.int (1 : Int32))])
            refine own_go (fun _ => XS.iconst X0.here hx rfl (hb hby d3_75)) ?_
            show GG _ _ _ _ _ _ _ s₁ (mkF m 76 #[.val (.int x45), .val (.int (1 : Int32))] [(.int (1 : Int32)), (.int x45), (.int (1 : Int32))])
            refine own_go (fun _ => XS.iushr X0.here hx rfl (hb hby d3_76) rfl) ?_
            show GG _ _ _ _ _ _ _ s₁ (mkF m 77 #[.val (.int x45), .val (.int (1 : Int32))] [(.int ((x45.toUInt32 >>> ((1 : Int32) &&& 31).toUInt32).toInt32)), (.int (1 : Int32))])
            have cx46 := c_iushr x45 (1 : Int32) 1 (by decide) (by decide)
            generalize hx46 : ((x45.toUInt32 >>> ((1 : Int32) &&& 31).toUInt32).toInt32) = x46 at cx46 ⊢
            have rx46 := rng32 x46
            refine own_go (fun _ => XS.isub X0.here hx rfl (hb hby d3_77) rfl) ?_
            show GG _ _ _ _ _ _ _ s₁ (mkF m 78 #[.val (.int x45), .val (.int (1 : Int32))] [(.int ((1 : Int32) - x46))])
            have cx47 := c_isub (1 : Int32) x46
            simp only [show ((1 : Int32)).toInt = 1 from by decide] at cx47
            generalize hx47 : ((1 : Int32) - x46) = x47 at cx47 ⊢
            have rx47 := rng32 x47
            refine own_ret X0 hx hlk (t := .int) (w := (.int x47)) Bd.returns rfl (Or.inl ⟨rfl, by simp, _, rfl⟩) (hb hby d3_78) (by decide) (by decide) ?_
            show Q3 Z p0 h0 n0 (some (.int x47)) s₁.heap _
            rw [e0]
            exact ⟨_, rfl, own_nl 30 1073741824 (by decide) (by decide) (by omega) (fun _ => by omega) (fun _ => by omega), N0, rfl⟩
  · skip
    have ihc1 : ¬ (0 < p0.toInt) := fun q => hc1 (Int32.lt_iff_toInt_lt.mpr q)
    refine own_go (fun _ => XS.ifNo X0.here hx rfl (hb hby d3_1) rfl ((if0 _ _).trans (flt hc1).2.2.1)) ?_
    show GG _ _ _ _ _ _ _ s₁ (mkF m 4 #[.val (.int p0), .unset] [])
    refine own_go (fun _ => XS.iloadN X0.here hx rfl (hb hby d3_4) rfl) ?_
    show GG _ _ _ _ _ _ _ s₁ (mkF m 5 #[.val (.int p0), .unset] [(.int p0)])
    by_cases hc5 : p0 = (0 : Int32)
    · skip
      have ihc5 : (p0.toInt = 0) := Int32.toInt_inj.mpr hc5
      refine own_go (fun _ => XS.ifNo X0.here hx rfl (hb hby d3_5) rfl ((if0 _ _).trans (teq hc5).2)) ?_
      show GG _ _ _ _ _ _ _ s₁ (mkF m 8 #[.val (.int p0), .unset] [])
      refine own_go (fun _ => XS.bipush X0.here hx rfl (hb hby d3_8)) ?_
      show GG _ _ _ _ _ _ _ s₁ (mkF m 10 #[.val (.int p0), .unset] [(.int (32 : Int32))])
      refine own_go (fun _ => XS.goto X0.here hx rfl (pc0 := 10) (pc' := 14) rfl (hb hby d3_10) (by decide) (by decide)) ?_
      show GG _ _ _ _ _ _ _ s₁ (mkF m 14 #[.val (.int p0), .unset] [(.int (32 : Int32))])
      refine own_ret X0 hx hlk (t := .int) (w := (.int (32 : Int32))) Bd.returns rfl (Or.inl ⟨rfl, by simp, _, rfl⟩) (hb hby d3_14) (by decide) (by decide) ?_
      show Q3 Z p0 h0 n0 (some (.int (32 : Int32))) s₁.heap _
      rw [e0]
      exact ⟨_, rfl, Or.inl ⟨by omega, by decide⟩, N0, rfl⟩
    · skip
      have ihc5 : ¬ (p0.toInt = 0) := fun q => hc5 (Int32.toInt_inj.mp q)
      refine own_go (fun _ => XS.ifYes X0.here hx rfl (pc0 := 5) (pc' := 13) rfl (hb hby d3_5) rfl ((if0 _ _).trans (feq hc5).2) (by decide) (by decide)) ?_
      show GG _ _ _ _ _ _ _ s₁ (mkF m 13 #[.val (.int p0), .unset] [])
      refine own_go (fun _ => XS.iconst X0.here hx rfl (hb hby d3_13)) ?_
      show GG _ _ _ _ _ _ _ s₁ (mkF m 14 #[.val (.int p0), .unset] [(.int (0 : Int32))])
      refine own_ret X0 hx hlk (t := .int) (w := (.int (0 : Int32))) Bd.returns rfl (Or.inl ⟨rfl, by simp, _, rfl⟩) (hb hby d3_14) (by decide) (by decide) ?_
      show Q3 Z p0 h0 n0 (some (.int (0 : Int32))) s₁.heap _
      rw [e0]
      exact ⟨_, rfl, Or.inr ⟨31, by decide, by decide, by omega, by omega⟩, N0, rfl⟩
theorem d4_0 : decode jdk_29_method_65_code 0 = .ok (.iload_n 0, 1) := by decide +kernel
theorem d4_1 : decode jdk_29_method_65_code 1 = .ok (.iload_n 1, 1) := by decide +kernel
theorem d4_2 : decode jdk_29_method_65_code 2 = .ok (.if_icmp .lt 7, 3) := by decide +kernel
theorem d4_5 : decode jdk_29_method_65_code 5 = .ok (.iload_n 0, 1) := by decide +kernel
theorem d4_6 : decode jdk_29_method_65_code 6 = .ok (.goto 4, 3) := by decide +kernel
theorem d4_9 : decode jdk_29_method_65_code 9 = .ok (.iload_n 1, 1) := by decide +kernel
theorem d4_10 : decode jdk_29_method_65_code 10 = .ok (.ireturn, 1) := by decide +kernel
theorem ef_4 (m : MethodId) (x0 : Int32) (x1 : Int32) : entryFrame m #[(.int x0), (.int x1)] 2 = mkF m 0 #[.val (.int x0), .val (.int x1)] [] := by first | (simp [entryFrame, mkF, argsToLocals, Value.category]; done) | rfl
def Q4 (Z : State) (p0 : Int32) (p1 : Int32) (h0 : Heap) (n0 : Nat) (v : Option Value) (h : Heap) (L : List Loc) : Prop := v = some (.int (if p0 < p1 then p1 else p0)) ∧ Fr n0 L ∧ h = h0
set_option maxRecDepth 65536 in
set_option maxHeartbeats 40000000 in
theorem rm4 (l : Launch) (Z : State) (a0 : Array Value) (hw : ∀ d ∈ tables_1, d.before a0 Z = true) (ws : List Jvm.Cond) (p0 : Int32) (p1 : Int32) (h0 : Heap) (n0 : Nat) (Z0 : n0 ≤ h0.size)  :
    own_CT l Z (⟨"java/lang/Math", "max", "(II)I"⟩ : MethodName) jdk_29_method_65_code 2 (some .int) ws ({ frames := 0, cells := 0, slots := 0, locals := 0 } : Room) #[(.int p0), (.int p1)] h0 (Q4 Z p0 p1 h0 n0) := by
  refine MetFree.of_bodySF (Jvm.Free.JP.mathPlain rfl (by decide +kernel)) hisR ?_
  intro p e s m args below meth c s₁ Bd hml0 hP hK
  obtain ⟨rfl, hZ, hh⟩ := hP
  have hx := Bd.exec
  have hby := Bd.bytes
  have hml : c.maxLocals = 2 := hml0
  have hown : s.vm.findClass "java/lang/Math" = some m.cls := findClass_of_methodNamed Bd.named
  have hnm := (name_of_methodNamed Bd.named Bd.method).1
  have hlk : meth.locks = false := BodyLoose.notSynchronized Bd
  have X0 : Stand p l e ({ frames := 0, cells := 0, slots := 0, locals := 0 } : Room) s m #[(.int p0), (.int p1)] below meth c s₁ [] 0 0 := Stand.of_body Bd
  have e0 : s₁.heap = h0 := by rw [← hh, Bd.state]; rfl
  have N0 := Fr.nil n0
  show GG p e below s ({ frames := 0, cells := 0, slots := 0, locals := 0 } : Room).cells ({ frames := 0, cells := 0, slots := 0, locals := 0 } : Room).slots (Q4 Z p0 p1 h0 n0) s₁ (entryFrame m #[(.int p0), (.int p1)] 2)
  refine own_in (ef_4 m p0 p1) ?_
  show GG _ _ _ _ _ _ _ s₁ (mkF m 0 #[.val (.int p0), .val (.int p1)] [])
  refine own_go (fun _ => XS.iloadN X0.here hx rfl (hb hby d4_0) rfl) ?_
  show GG _ _ _ _ _ _ _ s₁ (mkF m 1 #[.val (.int p0), .val (.int p1)] [(.int p0)])
  refine own_go (fun _ => XS.iloadN X0.here hx rfl (hb hby d4_1) rfl) ?_
  show GG _ _ _ _ _ _ _ s₁ (mkF m 2 #[.val (.int p0), .val (.int p1)] [(.int p1), (.int p0)])
  by_cases hc2 : p0 < p1
  · skip
    refine own_go (fun _ => XS.icmpYes X0.here hx rfl (pc0 := 2) (pc' := 9) rfl (hb hby d4_2) rfl (tlt hc2).1 (by decide) (by decide)) ?_
    show GG _ _ _ _ _ _ _ s₁ (mkF m 9 #[.val (.int p0), .val (.int p1)] [])
    refine own_go (fun _ => XS.iloadN X0.here hx rfl (hb hby d4_9) rfl) ?_
    show GG _ _ _ _ _ _ _ s₁ (mkF m 10 #[.val (.int p0), .val (.int p1)] [(.int p1)])
    refine own_ret X0 hx hlk (t := .int) (w := (.int p1)) Bd.returns rfl (Or.inl ⟨rfl, by simp, _, rfl⟩) (hb hby d4_10) (by decide) (by decide) ?_
    show Q4 Z p0 p1 h0 n0 (some (.int p1)) s₁.heap _
    rw [e0]
    exact ⟨by simp only [if_pos hc2], N0, rfl⟩
  · skip
    refine own_go (fun _ => XS.icmpNo X0.here hx rfl (hb hby d4_2) rfl (flt hc2).1) ?_
    show GG _ _ _ _ _ _ _ s₁ (mkF m 5 #[.val (.int p0), .val (.int p1)] [])
    refine own_go (fun _ => XS.iloadN X0.here hx rfl (hb hby d4_5) rfl) ?_
    show GG _ _ _ _ _ _ _ s₁ (mkF m 6 #[.val (.int p0), .val (.int p1)] [(.int p0)])
    refine own_go (fun _ => XS.goto X0.here hx rfl (pc0 := 6) (pc' := 10) rfl (hb hby d4_6) (by decide) (by decide)) ?_
    show GG _ _ _ _ _ _ _ s₁ (mkF m 10 #[.val (.int p0), .val (.int p1)] [(.int p0)])
    refine own_ret X0 hx hlk (t := .int) (w := (.int p0)) Bd.returns rfl (Or.inl ⟨rfl, by simp, _, rfl⟩) (hb hby d4_10) (by decide) (by decide) ?_
    show Q4 Z p0 p1 h0 n0 (some (.int p0)) s₁.heap _
    rw [e0]
    exact ⟨by simp only [if_neg hc2], N0, rfl⟩
theorem pd__I_I_227 : parseMethodDescriptor "(I)I" = some ⟨[.int], some .int⟩ := by decide +kernel
theorem d2_0 : decode jdk_35_method_48_code 0 = .ok (.lload_n 0, 1) := by decide +kernel
theorem d2_1 : decode jdk_35_method_48_code 1 = .ok (.bipush 32, 2) := by decide +kernel
theorem d2_3 : decode jdk_35_method_48_code 3 = .ok (.lushr, 1) := by decide +kernel
theorem d2_4 : decode jdk_35_method_48_code 4 = .ok (.l2i, 1) := by decide +kernel
theorem d2_5 : decode jdk_35_method_48_code 5 = .ok (.istore_n 2, 1) := by decide +kernel
theorem d2_6 : decode jdk_35_method_48_code 6 = .ok (.iload_n 2, 1) := by decide +kernel
theorem d2_7 : decode jdk_35_method_48_code 7 = .ok (.ifCond .ne 14, 3) := by decide +kernel
theorem d2_10 : decode jdk_35_method_48_code 10 = .ok (.bipush 32, 2) := by decide +kernel
theorem d2_12 : decode jdk_35_method_48_code 12 = .ok (.lload_n 0, 1) := by decide +kernel
theorem d2_13 : decode jdk_35_method_48_code 13 = .ok (.l2i, 1) := by decide +kernel
theorem d2_14 : decode jdk_35_method_48_code 14 = .ok (.invokestatic 308, 3) := by decide +kernel
theorem d2_17 : decode jdk_35_method_48_code 17 = .ok (.iadd, 1) := by decide +kernel
theorem d2_18 : decode jdk_35_method_48_code 18 = .ok (.goto 7, 3) := by decide +kernel
theorem d2_21 : decode jdk_35_method_48_code 21 = .ok (.iload_n 2, 1) := by decide +kernel
theorem d2_22 : decode jdk_35_method_48_code 22 = .ok (.invokestatic 308, 3) := by decide +kernel
theorem d2_25 : decode jdk_35_method_48_code 25 = .ok (.ireturn, 1) := by decide +kernel
theorem pn_java_lang_Long : plainName "java/lang/Long" = true := by first | (simp [plainName, overriddenIn]; done) | decide +kernel
theorem ef_2 (m : MethodId) (x0 : Int64) : entryFrame m #[(.long x0)] 3 = mkF m 0 #[.val (.long x0), .second, .unset] [] := by first | (simp [entryFrame, mkF, argsToLocals, Value.category]; done) | rfl
def Q2 (Z : State) (q0 : Int64) (h0 : Heap) (n0 : Nat) (v : Option Value) (h : Heap) (L : List Loc) : Prop := ∃ r : Int32, v = some (.int r) ∧ NLZ (q0.toInt % 18446744073709551616) 64 r ∧ Fr n0 L ∧ h = h0
set_option maxRecDepth 65536 in
set_option maxHeartbeats 40000000 in
theorem rm2 (l : Launch) (Z : State) (a0 : Array Value) (hw : ∀ d ∈ tables_1, d.before a0 Z = true) (ws : List Jvm.Cond) (q0 : Int64) (h0 : Heap) (n0 : Nat) (Z0 : n0 ≤ h0.size)  :
    own_CT l Z (⟨"java/lang/Long", "numberOfLeadingZeros", "(J)I"⟩ : MethodName) jdk_35_method_48_code 3 (some .int) ws ({ frames := 1, cells := 0, slots := 0, locals := 14 } : Room) #[(.long q0)] h0 (Q2 Z q0 h0 n0) := by
  refine MetFree.of_bodySF (plainFor_of_name pn_java_lang_Long) hisR ?_
  intro p e s m args below meth c s₁ Bd hml0 hP hK
  obtain ⟨rfl, hZ, hh⟩ := hP
  have hx := Bd.exec
  have hby := Bd.bytes
  have hml : c.maxLocals = 3 := hml0
  have hown : s.vm.findClass "java/lang/Long" = some m.cls := findClass_of_methodNamed Bd.named
  have hnm := (name_of_methodNamed Bd.named Bd.method).1
  have hlk : meth.locks = false := BodyLoose.notSynchronized Bd
  have X0 : Stand p l e ({ frames := 1, cells := 0, slots := 0, locals := 14 } : Room) s m #[(.long q0)] below meth c s₁ [] 0 0 := Stand.of_body Bd
  have e0 : s₁.heap = h0 := by rw [← hh, Bd.state]; rfl
  have N0 := Fr.nil n0
  show GG p e below s ({ frames := 1, cells := 0, slots := 0, locals := 14 } : Room).cells ({ frames := 1, cells := 0, slots := 0, locals := 14 } : Room).slots (Q2 Z q0 h0 n0) s₁ (entryFrame m #[(.long q0)] 3)
  refine own_in (ef_2 m q0) ?_
  have rq0 := rng64 q0
  show GG _ _ _ _ _ _ _ s₁ (mkF m 0 #[.val (.long q0), .second, .unset] [])
  refine own_go (fun _ => XS.lloadN X0.here hx rfl (hb hby d2_0) rfl) ?_
  show GG _ _ _ _ _ _ _ s₁ (mkF m 1 #[.val (.long q0), .second, .unset] [(.long q0)])
  refine own_go (fun _ => XS.bipush X0.here hx rfl (hb hby d2_1)) ?_
  show GG _ _ _ _ _ _ _ s₁ (mkF m 3 #[.val (.long q0), .second, .unset] [(.int (32 : Int32)), (.long q0)])
  refine own_go (fun _ => XS.lushr X0.here hx rfl (hb hby d2_3) rfl) ?_
  show GG _ _ _ _ _ _ _ s₁ (mkF m 4 #[.val (.long q0), .second, .unset] [(.long ((q0.toUInt64 >>> ((32 : Int32) &&& 0x3f).toInt64.toUInt64).toInt64))])
  have cx1 := c_lushr q0 (32 : Int32) 32 (by decide) (by decide)
  generalize hx1 : ((q0.toUInt64 >>> ((32 : Int32) &&& 0x3f).toInt64.toUInt64).toInt64) = x1 at cx1 ⊢
  have rx1 := rng64 x1
  refine own_go (fun _ => XS.l2i X0.here hx rfl (hb hby d2_4) rfl) ?_
  show GG _ _ _ _ _ _ _ s₁ (mkF m 5 #[.val (.long q0), .second, .unset] [(.int (x1.toInt32))])
  have cx2 := c_l2i x1
  generalize hx2 : (x1.toInt32) = x2 at cx2 ⊢
  have rx2 := rng32 x2
  refine own_go (fun _ => XS.istoreN X0.here hx rfl (hb hby d2_5) rfl (l' := #[.val (.long q0), .second, .val (.int x2)]) rfl) ?_
  show GG _ _ _ _ _ _ _ s₁ (mkF m 6 #[.val (.long q0), .second, .val (.int x2)] [])
  refine own_go (fun _ => XS.iloadN X0.here hx rfl (hb hby d2_6) rfl) ?_
  show GG _ _ _ _ _ _ _ s₁ (mkF m 7 #[.val (.long q0), .second, .val (.int x2)] [(.int x2)])
  by_cases hc7 : x2 = (0 : Int32)
  · skip
    have ihc7 : (x2.toInt = 0) := Int32.toInt_inj.mpr hc7
    refine own_go (fun _ => XS.ifNo X0.here hx rfl (hb hby d2_7) rfl ((if0 _ _).trans (teq hc7).2)) ?_
    show GG _ _ _ _ _ _ _ s₁ (mkF m 10 #[.val (.long q0), .second, .val (.int x2)] [])
    refine own_go (fun _ => XS.bipush X0.here hx rfl (hb hby d2_10)) ?_
    show GG _ _ _ _ _ _ _ s₁ (mkF m 12 #[.val (.long q0), .second, .val (.int x2)] [(.int (32 : Int32))])
    refine own_go (fun _ => XS.lloadN X0.here hx rfl (hb hby d2_12) rfl) ?_
    show GG _ _ _ _ _ _ _ s₁ (mkF m 13 #[.val (.long q0), .second, .val (.int x2)] [(.long q0), (.int (32 : Int32))])
    refine own_go (fun _ => XS.l2i X0.here hx rfl (hb hby d2_13) rfl) ?_
    show GG _ _ _ _ _ _ _ s₁ (mkF m 14 #[.val (.long q0), .second, .val (.int x2)] [(.int (q0.toInt32)), (.int (32 : Int32))])
    have cx3 := c_l2i q0
    generalize hx3 : (q0.toInt32) = x3 at cx3 ⊢
    have rx3 := rng32 x3
    refine own_callS X0 hx hZ (y := (⟨"java/lang/Integer", "numberOfLeadingZeros", "(I)I"⟩ : MethodName)) 1 hown (hw _ (List.mem_of_getElem? (i := 8) rfl)) (hw _ (List.mem_of_getElem? (i := 9) rfl)) (hw _ (List.mem_of_getElem? (i := 10) rfl)) (hw _ (List.mem_of_getElem? (i := 11) rfl)) (by decide) (argsL := [(.int x3)]) (rest := [(.int (32 : Int32))]) (rm3 l Z a0 hw [] x3 h0 n0 Z0) (by decide) (by decide) (by decide) (by decide) (g := (mkF m 14 #[.val (.long q0), .second, .val (.int x2)] [(.int x3), (.int (32 : Int32))])) rfl (by rw [hml]; rfl) (lenOf pd__I_I_227 rfl) rfl (by show 2 * 0 + _ ≤ _; exact Nat.le_of_eq rfl) (hb hby d2_14) e0 ?_
    rintro v4 T4 L4 X4 ⟨y4, rfl, hy4, N4q, hh4⟩
    have N4 := Fr.app N0 N4q
    have ry4 := rng32 y4
    show GG _ _ _ _ _ _ _ T4 (mkF m 17 #[.val (.long q0), .second, .val (.int x2)] [(.int y4), (.int (32 : Int32))])
    refine own_go (fun _ => XS.iadd X4.here hx rfl (hb hby d2_17) rfl) ?_
    show GG _ _ _ _ _ _ _ T4 (mkF m 18 #[.val (.long q0), .second, .val (.int x2)] [(.int ((32 : Int32) + y4))])
    have cx5 := c_iadd (32 : Int32) y4
    simp only [show ((32 : Int32)).toInt = 32 from by decide] at cx5
    generalize hx5 : ((32 : Int32) + y4) = x5 at cx5 ⊢
    have rx5 := rng32 x5
    refine own_go (fun _ => XS.goto X4.here hx rfl (pc0 := 18) (pc' := 25) rfl (hb hby d2_18) (by decide) (by decide)) ?_
    show GG _ _ _ _ _ _ _ T4 (mkF m 25 #[.val (.long q0), .second, .val (.int x2)] [(.int x5)])
    refine own_ret X4 hx hlk (t := .int) (w := (.int x5)) Bd.returns rfl (Or.inl ⟨rfl, by simp, _, rfl⟩) (hb hby d2_25) (by decide) (by decide) ?_
    show Q2 Z q0 h0 n0 (some (.int x5)) T4.heap _
    rw [hh4]
    have hry : 0 ≤ y4.toInt ∧ y4.toInt ≤ 32 := by rcases hy4 with ⟨_, h⟩ | ⟨k, h1, h2, _⟩ <;> omega
    exact ⟨_, rfl, own_lo (u := q0.toInt % 18446744073709551616) (by rw [show q0.toInt % 18446744073709551616 = x3.toInt % 4294967296 by omega]; exact hy4) (by omega), N4, rfl⟩
  · skip
    have ihc7 : ¬ (x2.toInt = 0) := fun q => hc7 (Int32.toInt_inj.mp q)
    refine own_go (fun _ => XS.ifYes X0.here hx rfl (pc0 := 7) (pc' := 21) rfl (hb hby d2_7) rfl ((if0 _ _).trans (feq hc7).2) (by decide) (by decide)) ?_
    show GG _ _ _ _ _ _ _ s₁ (mkF m 21 #[.val (.long q0), .second, .val (.int x2)] [])
    refine own_go (fun _ => XS.iloadN X0.here hx rfl (hb hby d2_21) rfl) ?_
    show GG _ _ _ _ _ _ _ s₁ (mkF m 22 #[.val (.long q0), .second, .val (.int x2)] [(.int x2)])
    refine own_callS X0 hx hZ (y := (⟨"java/lang/Integer", "numberOfLeadingZeros", "(I)I"⟩ : MethodName)) 0 hown (hw _ (List.mem_of_getElem? (i := 8) rfl)) (hw _ (List.mem_of_getElem? (i := 9) rfl)) (hw _ (List.mem_of_getElem? (i := 10) rfl)) (hw _ (List.mem_of_getElem? (i := 11) rfl)) (by decide) (argsL := [(.int x2)]) (rest := []) (rm3 l Z a0 hw [] x2 h0 n0 Z0) (by decide) (by decide) (by decide) (by decide) (g := (mkF m 22 #[.val (.long q0), .second, .val (.int x2)] [(.int x2)])) rfl (by rw [hml]; rfl) (lenOf pd__I_I_227 rfl) rfl (by show 2 * 0 + _ ≤ _; exact Nat.le_of_eq rfl) (hb hby d2_22) e0 ?_
    rintro v6 T6 L6 X6 ⟨y6, rfl, hy6, N6q, hh6⟩
    have N6 := Fr.app N0 N6q
    have ry6 := rng32 y6
    show GG _ _ _ _ _ _ _ T6 (mkF m 25 #[.val (.long q0), .second, .val (.int x2)] [(.int y6)])
    refine own_ret X6 hx hlk (t := .int) (w := (.int y6)) Bd.returns rfl (Or.inl ⟨rfl, by simp, _, rfl⟩) (hb hby d2_25) (by decide) (by decide) ?_
    show Q2 Z q0 h0 n0 (some (.int y6)) T6.heap _
    rw [hh6]
    have hry : 0 ≤ y6.toInt ∧ y6.toInt ≤ 32 := by rcases hy6 with ⟨_, h⟩ | ⟨k, h1, h2, _⟩ <;> omega
    exact ⟨_, rfl, own_hi (v := x2.toInt % 4294967296) (by omega) (by omega) (by omega) hy6, N6, rfl⟩
theorem pd__J_I_228 : parseMethodDescriptor "(J)I" = some ⟨[.long], some .int⟩ := by decide +kernel
theorem pd__II_I_300 : parseMethodDescriptor "(II)I" = some ⟨[.int, .int], some .int⟩ := by decide +kernel
theorem d1_0 : decode prog_51_method_2_code 0 = .ok (.iconst 1, 1) := by decide +kernel
theorem d1_1 : decode prog_51_method_2_code 1 = .ok (.bipush 64, 2) := by decide +kernel
theorem d1_3 : decode prog_51_method_2_code 3 = .ok (.lload_n 0, 1) := by decide +kernel
theorem d1_4 : decode prog_51_method_2_code 4 = .ok (.invokestatic 9, 3) := by decide +kernel
theorem d1_7 : decode prog_51_method_2_code 7 = .ok (.isub, 1) := by decide +kernel
theorem d1_8 : decode prog_51_method_2_code 8 = .ok (.bipush 6, 2) := by decide +kernel
theorem d1_10 : decode prog_51_method_2_code 10 = .ok (.iadd, 1) := by decide +kernel
theorem d1_11 : decode prog_51_method_2_code 11 = .ok (.bipush 7, 2) := by decide +kernel
theorem d1_13 : decode prog_51_method_2_code 13 = .ok (.idiv, 1) := by decide +kernel
theorem d1_14 : decode prog_51_method_2_code 14 = .ok (.invokestatic 13, 3) := by decide +kernel
theorem d1_17 : decode prog_51_method_2_code 17 = .ok (.ireturn, 1) := by decide +kernel
theorem pn_com_example_observable_archive_observablearchive_core_Varints : plainName "com/example/observable_archive/observablearchive/core/Varints" = true := by first | (simp [plainName, overriddenIn]; done) | decide +kernel
theorem ef_1 (m : MethodId) (x0 : Int64) : entryFrame m #[(.long x0)] 2 = mkF m 0 #[.val (.long x0), .second] [] := by first | (simp [entryFrame, mkF, argsToLocals, Value.category]; done) | rfl
def Q1 (Z : State) (q0 : Int64) (h0 : Heap) (n0 : Nat) (v : Option Value) (h : Heap) (L : List Loc) : Prop := v = some (.int (refV q0)) ∧ Fr n0 L ∧ h = h0
set_option maxRecDepth 65536 in
set_option maxHeartbeats 40000000 in
theorem rm1 (l : Launch) (Z : State) (a0 : Array Value) (hw : ∀ d ∈ tables_1, d.before a0 Z = true) (ws : List Jvm.Cond) (q0 : Int64) (h0 : Heap) (n0 : Nat) (Z0 : n0 ≤ h0.size)  :
    own_CT l Z (⟨"com/example/observable_archive/observablearchive/core/Varints", "size", "(J)I"⟩ : MethodName) prog_51_method_2_code 2 (some .int) ws ({ frames := 2, cells := 0, slots := 0, locals := 30 } : Room) #[(.long q0)] h0 (Q1 Z q0 h0 n0) := by
  refine MetFree.of_bodySF (plainFor_of_name pn_com_example_observable_archive_observablearchive_core_Varints) hisR ?_
  intro p e s m args below meth c s₁ Bd hml0 hP hK
  obtain ⟨rfl, hZ, hh⟩ := hP
  have hx := Bd.exec
  have hby := Bd.bytes
  have hml : c.maxLocals = 2 := hml0
  have hown : s.vm.findClass "com/example/observable_archive/observablearchive/core/Varints" = some m.cls := findClass_of_methodNamed Bd.named
  have hnm := (name_of_methodNamed Bd.named Bd.method).1
  have hlk : meth.locks = false := BodyLoose.notSynchronized Bd
  have X0 : Stand p l e ({ frames := 2, cells := 0, slots := 0, locals := 30 } : Room) s m #[(.long q0)] below meth c s₁ [] 0 0 := Stand.of_body Bd
  have e0 : s₁.heap = h0 := by rw [← hh, Bd.state]; rfl
  have N0 := Fr.nil n0
  show GG p e below s ({ frames := 2, cells := 0, slots := 0, locals := 30 } : Room).cells ({ frames := 2, cells := 0, slots := 0, locals := 30 } : Room).slots (Q1 Z q0 h0 n0) s₁ (entryFrame m #[(.long q0)] 2)
  refine own_in (ef_1 m q0) ?_
  show GG _ _ _ _ _ _ _ s₁ (mkF m 0 #[.val (.long q0), .second] [])
  refine own_go (fun _ => XS.iconst X0.here hx rfl (hb hby d1_0)) ?_
  show GG _ _ _ _ _ _ _ s₁ (mkF m 1 #[.val (.long q0), .second] [(.int (1 : Int32))])
  refine own_go (fun _ => XS.bipush X0.here hx rfl (hb hby d1_1)) ?_
  show GG _ _ _ _ _ _ _ s₁ (mkF m 3 #[.val (.long q0), .second] [(.int (64 : Int32)), (.int (1 : Int32))])
  refine own_go (fun _ => XS.lloadN X0.here hx rfl (hb hby d1_3) rfl) ?_
  show GG _ _ _ _ _ _ _ s₁ (mkF m 4 #[.val (.long q0), .second] [(.long q0), (.int (64 : Int32)), (.int (1 : Int32))])
  refine own_callS X0 hx hZ (y := (⟨"java/lang/Long", "numberOfLeadingZeros", "(J)I"⟩ : MethodName)) 2 hown (hw _ (List.mem_of_getElem? (i := 4) rfl)) (hw _ (List.mem_of_getElem? (i := 5) rfl)) (hw _ (List.mem_of_getElem? (i := 6) rfl)) (hw _ (List.mem_of_getElem? (i := 7) rfl)) (by decide) (argsL := [(.long q0)]) (rest := [(.int (64 : Int32)), (.int (1 : Int32))]) (rm2 l Z a0 hw [] q0 h0 n0 Z0) (by decide) (by decide) (by decide) (by decide) (g := (mkF m 4 #[.val (.long q0), .second] [(.long q0), (.int (64 : Int32)), (.int (1 : Int32))])) rfl (by rw [hml]; rfl) (lenOf pd__J_I_228 rfl) rfl (by show 2 * 0 + _ ≤ _; exact Nat.le_of_eq rfl) (hb hby d1_4) e0 ?_
  rintro v1 T1 L1 X1 ⟨y1, rfl, hy1, N1q, hh1⟩
  have N1 := Fr.app N0 N1q
  have ry1 := rng32 y1
  show GG _ _ _ _ _ _ _ T1 (mkF m 7 #[.val (.long q0), .second] [(.int y1), (.int (64 : Int32)), (.int (1 : Int32))])
  refine own_go (fun _ => XS.isub X1.here hx rfl (hb hby d1_7) rfl) ?_
  show GG _ _ _ _ _ _ _ T1 (mkF m 8 #[.val (.long q0), .second] [(.int ((64 : Int32) - y1)), (.int (1 : Int32))])
  have cx2 := c_isub (64 : Int32) y1
  simp only [show ((64 : Int32)).toInt = 64 from by decide] at cx2
  generalize hx2 : ((64 : Int32) - y1) = x2 at cx2 ⊢
  have rx2 := rng32 x2
  refine own_go (fun _ => XS.bipush X1.here hx rfl (hb hby d1_8)) ?_
  show GG _ _ _ _ _ _ _ T1 (mkF m 10 #[.val (.long q0), .second] [(.int (6 : Int32)), (.int x2), (.int (1 : Int32))])
  refine own_go (fun _ => XS.iadd X1.here hx rfl (hb hby d1_10) rfl) ?_
  show GG _ _ _ _ _ _ _ T1 (mkF m 11 #[.val (.long q0), .second] [(.int (x2 + (6 : Int32))), (.int (1 : Int32))])
  have cx3 := c_iadd x2 (6 : Int32)
  simp only [show ((6 : Int32)).toInt = 6 from by decide] at cx3
  generalize hx3 : (x2 + (6 : Int32)) = x3 at cx3 ⊢
  have rx3 := rng32 x3
  refine own_go (fun _ => XS.bipush X1.here hx rfl (hb hby d1_11)) ?_
  show GG _ _ _ _ _ _ _ T1 (mkF m 13 #[.val (.long q0), .second] [(.int (7 : Int32)), (.int x3), (.int (1 : Int32))])
  refine own_go (fun _ => XS.idiv X1.here hx rfl (hb hby d1_13) rfl (by decide)) ?_
  show GG _ _ _ _ _ _ _ T1 (mkF m 14 #[.val (.long q0), .second] [(.int (x3 / (7 : Int32))), (.int (1 : Int32))])
  have cx4 := c_idiv x3 (7 : Int32) 7 (by decide) (by decide)
  generalize hx4 : (x3 / (7 : Int32)) = x4 at cx4 ⊢
  have rx4 := rng32 x4
  refine own_callS X1 hx hZ (y := (⟨"java/lang/Math", "max", "(II)I"⟩ : MethodName)) 0 hown (hw _ (List.mem_of_getElem? (i := 12) rfl)) (hw _ (List.mem_of_getElem? (i := 13) rfl)) (hw _ (List.mem_of_getElem? (i := 14) rfl)) (hw _ (List.mem_of_getElem? (i := 15) rfl)) (by decide) (argsL := [(.int (1 : Int32)), (.int x4)]) (rest := []) (rm4 l Z a0 hw [] (1 : Int32) x4 h0 n0 Z0) (by decide) (by decide) (by decide) (by decide) (g := (mkF m 14 #[.val (.long q0), .second] [(.int x4), (.int (1 : Int32))])) rfl (by rw [hml]; rfl) (lenOf pd__II_I_300 rfl) rfl (by show 2 * 0 + _ ≤ _; exact Nat.le_of_eq rfl) (hb hby d1_14) hh1 ?_
  rintro v5 T5 L5 X5 ⟨rfl, N5q, hh5⟩
  have N5 := Fr.app N1 N5q
  show GG _ _ _ _ _ _ _ T5 (mkF m 17 #[.val (.long q0), .second] [(.int (if (1 : Int32) < x4 then x4 else (1 : Int32)))])
  refine own_ret X5 hx hlk (t := .int) (w := (.int (if (1 : Int32) < x4 then x4 else (1 : Int32)))) Bd.returns rfl (Or.inl ⟨rfl, by simp, _, rfl⟩) (hb hby d1_17) (by decide) (by decide) ?_
  show Q1 Z q0 h0 n0 (some (.int (if (1 : Int32) < x4 then x4 else (1 : Int32)))) T5.heap _
  rw [hh5]
  have hr : 0 ≤ y1.toInt ∧ y1.toInt ≤ 64 := by rcases hy1 with ⟨_, h⟩ | ⟨k, h1, h2, _⟩ <;> omega
  have e2 : x2.toInt = 64 - y1.toInt := by omega
  have e3 : x3.toInt = 70 - y1.toInt := by omega
  have e4 : x4.toInt = (70 - y1.toInt) / 7 := by rw [← e3]; exact cx4.1 (by omega)
  clear cx4 cx3 cx2
  refine ⟨congrArg (fun z => some (Value.int z)) (own_ref hy1 ?_), N5, rfl⟩
  split <;> rename_i q <;> rw [Int32.lt_iff_toInt_lt, show (1 : Int32).toInt = 1 from by decide] at q
  · split <;> omega
  · rw [show (1 : Int32).toInt = 1 from by decide]; split <;> omega
theorem d5_0 : decode method_2_code 0 = .ok (.lload_n 0, 1) := by decide +kernel
theorem d5_1 : decode method_2_code 1 = .ok (.bipush 7, 2) := by decide +kernel
theorem d5_3 : decode method_2_code 3 = .ok (.lushr, 1) := by decide +kernel
theorem d5_4 : decode method_2_code 4 = .ok (.lconst 0, 1) := by decide +kernel
theorem d5_5 : decode method_2_code 5 = .ok (.lcmp, 1) := by decide +kernel
theorem d5_6 : decode method_2_code 6 = .ok (.ifCond .ne 5, 3) := by decide +kernel
theorem d5_9 : decode method_2_code 9 = .ok (.iconst 1, 1) := by decide +kernel
theorem d5_10 : decode method_2_code 10 = .ok (.ireturn, 1) := by decide +kernel
theorem d5_11 : decode method_2_code 11 = .ok (.lload_n 0, 1) := by decide +kernel
theorem d5_12 : decode method_2_code 12 = .ok (.bipush 14, 2) := by decide +kernel
theorem d5_14 : decode method_2_code 14 = .ok (.lushr, 1) := by decide +kernel
theorem d5_15 : decode method_2_code 15 = .ok (.lconst 0, 1) := by decide +kernel
theorem d5_16 : decode method_2_code 16 = .ok (.lcmp, 1) := by decide +kernel
theorem d5_17 : decode method_2_code 17 = .ok (.ifCond .ne 5, 3) := by decide +kernel
theorem d5_20 : decode method_2_code 20 = .ok (.iconst 2, 1) := by decide +kernel
theorem d5_21 : decode method_2_code 21 = .ok (.ireturn, 1) := by decide +kernel
theorem d5_22 : decode method_2_code 22 = .ok (.lload_n 0, 1) := by decide +kernel
theorem d5_23 : decode method_2_code 23 = .ok (.bipush 21, 2) := by decide +kernel
theorem d5_25 : decode method_2_code 25 = .ok (.lushr, 1) := by decide +kernel
theorem d5_26 : decode method_2_code 26 = .ok (.lconst 0, 1) := by decide +kernel
theorem d5_27 : decode method_2_code 27 = .ok (.lcmp, 1) := by decide +kernel
theorem d5_28 : decode method_2_code 28 = .ok (.ifCond .ne 5, 3) := by decide +kernel
theorem d5_31 : decode method_2_code 31 = .ok (.iconst 3, 1) := by decide +kernel
theorem d5_32 : decode method_2_code 32 = .ok (.ireturn, 1) := by decide +kernel
theorem d5_33 : decode method_2_code 33 = .ok (.lload_n 0, 1) := by decide +kernel
theorem d5_34 : decode method_2_code 34 = .ok (.bipush 28, 2) := by decide +kernel
theorem d5_36 : decode method_2_code 36 = .ok (.lushr, 1) := by decide +kernel
theorem d5_37 : decode method_2_code 37 = .ok (.lconst 0, 1) := by decide +kernel
theorem d5_38 : decode method_2_code 38 = .ok (.lcmp, 1) := by decide +kernel
theorem d5_39 : decode method_2_code 39 = .ok (.ifCond .ne 5, 3) := by decide +kernel
theorem d5_42 : decode method_2_code 42 = .ok (.iconst 4, 1) := by decide +kernel
theorem d5_43 : decode method_2_code 43 = .ok (.ireturn, 1) := by decide +kernel
theorem d5_44 : decode method_2_code 44 = .ok (.lload_n 0, 1) := by decide +kernel
theorem d5_45 : decode method_2_code 45 = .ok (.bipush 35, 2) := by decide +kernel
theorem d5_47 : decode method_2_code 47 = .ok (.lushr, 1) := by decide +kernel
theorem d5_48 : decode method_2_code 48 = .ok (.lconst 0, 1) := by decide +kernel
theorem d5_49 : decode method_2_code 49 = .ok (.lcmp, 1) := by decide +kernel
theorem d5_50 : decode method_2_code 50 = .ok (.ifCond .ne 5, 3) := by decide +kernel
theorem d5_53 : decode method_2_code 53 = .ok (.iconst 5, 1) := by decide +kernel
theorem d5_54 : decode method_2_code 54 = .ok (.ireturn, 1) := by decide +kernel
theorem d5_55 : decode method_2_code 55 = .ok (.lload_n 0, 1) := by decide +kernel
theorem d5_56 : decode method_2_code 56 = .ok (.bipush 42, 2) := by decide +kernel
theorem d5_58 : decode method_2_code 58 = .ok (.lushr, 1) := by decide +kernel
theorem d5_59 : decode method_2_code 59 = .ok (.lconst 0, 1) := by decide +kernel
theorem d5_60 : decode method_2_code 60 = .ok (.lcmp, 1) := by decide +kernel
theorem d5_61 : decode method_2_code 61 = .ok (.ifCond .ne 6, 3) := by decide +kernel
theorem d5_64 : decode method_2_code 64 = .ok (.bipush 6, 2) := by decide +kernel
theorem d5_66 : decode method_2_code 66 = .ok (.ireturn, 1) := by decide +kernel
theorem d5_67 : decode method_2_code 67 = .ok (.lload_n 0, 1) := by decide +kernel
theorem d5_68 : decode method_2_code 68 = .ok (.bipush 49, 2) := by decide +kernel
theorem d5_70 : decode method_2_code 70 = .ok (.lushr, 1) := by decide +kernel
theorem d5_71 : decode method_2_code 71 = .ok (.lconst 0, 1) := by decide +kernel
theorem d5_72 : decode method_2_code 72 = .ok (.lcmp, 1) := by decide +kernel
theorem d5_73 : decode method_2_code 73 = .ok (.ifCond .ne 6, 3) := by decide +kernel
theorem d5_76 : decode method_2_code 76 = .ok (.bipush 7, 2) := by decide +kernel
theorem d5_78 : decode method_2_code 78 = .ok (.ireturn, 1) := by decide +kernel
theorem d5_79 : decode method_2_code 79 = .ok (.lload_n 0, 1) := by decide +kernel
theorem d5_80 : decode method_2_code 80 = .ok (.bipush 56, 2) := by decide +kernel
theorem d5_82 : decode method_2_code 82 = .ok (.lushr, 1) := by decide +kernel
theorem d5_83 : decode method_2_code 83 = .ok (.lconst 0, 1) := by decide +kernel
theorem d5_84 : decode method_2_code 84 = .ok (.lcmp, 1) := by decide +kernel
theorem d5_85 : decode method_2_code 85 = .ok (.ifCond .ne 6, 3) := by decide +kernel
theorem d5_88 : decode method_2_code 88 = .ok (.bipush 8, 2) := by decide +kernel
theorem d5_90 : decode method_2_code 90 = .ok (.ireturn, 1) := by decide +kernel
theorem d5_91 : decode method_2_code 91 = .ok (.lload_n 0, 1) := by decide +kernel
theorem d5_92 : decode method_2_code 92 = .ok (.bipush 63, 2) := by decide +kernel
theorem d5_94 : decode method_2_code 94 = .ok (.lushr, 1) := by decide +kernel
theorem d5_95 : decode method_2_code 95 = .ok (.lconst 0, 1) := by decide +kernel
theorem d5_96 : decode method_2_code 96 = .ok (.lcmp, 1) := by decide +kernel
theorem d5_97 : decode method_2_code 97 = .ok (.ifCond .ne 6, 3) := by decide +kernel
theorem d5_100 : decode method_2_code 100 = .ok (.bipush 9, 2) := by decide +kernel
theorem d5_102 : decode method_2_code 102 = .ok (.ireturn, 1) := by decide +kernel
theorem d5_103 : decode method_2_code 103 = .ok (.bipush 10, 2) := by decide +kernel
theorem d5_105 : decode method_2_code 105 = .ok (.ireturn, 1) := by decide +kernel
theorem pn_com_example_observable_archive_observablearchive_core_VarintsSizePinLaw : plainName "com/example/observable_archive/observablearchive/core/VarintsSizePinLaw" = true := by first | (simp [plainName, overriddenIn]; done) | decide +kernel
theorem ef_5 (m : MethodId) (x0 : Int64) : entryFrame m #[(.long x0)] 2 = mkF m 0 #[.val (.long x0), .second] [] := by first | (simp [entryFrame, mkF, argsToLocals, Value.category]; done) | rfl
def Q5 (Z : State) (q0 : Int64) (h0 : Heap) (n0 : Nat) (v : Option Value) (h : Heap) (L : List Loc) : Prop := v = some (.int (refV q0)) ∧ Fr n0 L ∧ h = h0
set_option maxRecDepth 65536 in
set_option maxHeartbeats 40000000 in
theorem rm5 (l : Launch) (Z : State) (a0 : Array Value) (hw : ∀ d ∈ tables_1, d.before a0 Z = true) (ws : List Jvm.Cond) (q0 : Int64) (h0 : Heap) (n0 : Nat) (Z0 : n0 ≤ h0.size)  :
    own_CT l Z (⟨"com/example/observable_archive/observablearchive/core/VarintsSizePinLaw", "ref", "(J)I"⟩ : MethodName) method_2_code 2 (some .int) ws ({ frames := 0, cells := 0, slots := 0, locals := 0 } : Room) #[(.long q0)] h0 (Q5 Z q0 h0 n0) := by
  refine MetFree.of_bodySF (plainFor_of_name pn_com_example_observable_archive_observablearchive_core_VarintsSizePinLaw) hisR ?_
  intro p e s m args below meth c s₁ Bd hml0 hP hK
  obtain ⟨rfl, hZ, hh⟩ := hP
  have hx := Bd.exec
  have hby := Bd.bytes
  have hml : c.maxLocals = 2 := hml0
  have hown : s.vm.findClass "com/example/observable_archive/observablearchive/core/VarintsSizePinLaw" = some m.cls := findClass_of_methodNamed Bd.named
  have hnm := (name_of_methodNamed Bd.named Bd.method).1
  have hlk : meth.locks = false := BodyLoose.notSynchronized Bd
  have X0 : Stand p l e ({ frames := 0, cells := 0, slots := 0, locals := 0 } : Room) s m #[(.long q0)] below meth c s₁ [] 0 0 := Stand.of_body Bd
  have e0 : s₁.heap = h0 := by rw [← hh, Bd.state]; rfl
  have N0 := Fr.nil n0
  show GG p e below s ({ frames := 0, cells := 0, slots := 0, locals := 0 } : Room).cells ({ frames := 0, cells := 0, slots := 0, locals := 0 } : Room).slots (Q5 Z q0 h0 n0) s₁ (entryFrame m #[(.long q0)] 2)
  refine own_in (ef_5 m q0) ?_
  show GG _ _ _ _ _ _ _ s₁ (mkF m 0 #[.val (.long q0), .second] [])
  refine own_go (fun _ => XS.lloadN X0.here hx rfl (hb hby d5_0) rfl) ?_
  show GG _ _ _ _ _ _ _ s₁ (mkF m 1 #[.val (.long q0), .second] [(.long q0)])
  refine own_go (fun _ => XS.bipush X0.here hx rfl (hb hby d5_1)) ?_
  show GG _ _ _ _ _ _ _ s₁ (mkF m 3 #[.val (.long q0), .second] [(.int (7 : Int32)), (.long q0)])
  refine own_go (fun _ => XS.lushr X0.here hx rfl (hb hby d5_3) rfl) ?_
  show GG _ _ _ _ _ _ _ s₁ (mkF m 4 #[.val (.long q0), .second] [(.long ((q0.toUInt64 >>> ((7 : Int32) &&& 0x3f).toInt64.toUInt64).toInt64))])
  refine own_go (fun _ => XS.lconst X0.here hx rfl (hb hby d5_4)) ?_
  show GG _ _ _ _ _ _ _ s₁ (mkF m 5 #[.val (.long q0), .second] [(.long (0 : Int64)), (.long ((q0.toUInt64 >>> ((7 : Int32) &&& 0x3f).toInt64.toUInt64).toInt64))])
  refine own_go (fun _ => XS.lcmp X0.here hx rfl (hb hby d5_5) rfl) ?_
  show GG _ _ _ _ _ _ _ s₁ (mkF m 6 #[.val (.long q0), .second] [(.int (lcmpW ((q0.toUInt64 >>> ((7 : Int32) &&& 0x3f).toInt64.toUInt64).toInt64) (0 : Int64)))])
  by_cases hc6 : ((q0.toUInt64 >>> ((7 : Int32) &&& 0x3f).toInt64.toUInt64).toInt64) = (0 : Int64)
  · skip
    refine own_go (fun _ => XS.ifNo X0.here hx rfl (hb hby d5_6) rfl ((if0 _ _).trans (teq ((lw_eq _ _).mpr hc6)).2)) ?_
    show GG _ _ _ _ _ _ _ s₁ (mkF m 9 #[.val (.long q0), .second] [])
    refine own_go (fun _ => XS.iconst X0.here hx rfl (hb hby d5_9)) ?_
    show GG _ _ _ _ _ _ _ s₁ (mkF m 10 #[.val (.long q0), .second] [(.int (1 : Int32))])
    refine own_ret X0 hx hlk (t := .int) (w := (.int (1 : Int32))) Bd.returns rfl (Or.inl ⟨rfl, by simp, _, rfl⟩) (hb hby d5_10) (by decide) (by decide) ?_
    show Q5 Z q0 h0 n0 (some (.int (1 : Int32))) s₁.heap _
    rw [e0]
    exact ⟨by simp only [refV, if_pos (show rs q0 7 = 0 from hc6)], N0, rfl⟩
  · skip
    refine own_go (fun _ => XS.ifYes X0.here hx rfl (pc0 := 6) (pc' := 11) rfl (hb hby d5_6) rfl ((if0 _ _).trans (feq (fun q => hc6 ((lw_eq _ _).mp q))).2) (by decide) (by decide)) ?_
    show GG _ _ _ _ _ _ _ s₁ (mkF m 11 #[.val (.long q0), .second] [])
    refine own_go (fun _ => XS.lloadN X0.here hx rfl (hb hby d5_11) rfl) ?_
    show GG _ _ _ _ _ _ _ s₁ (mkF m 12 #[.val (.long q0), .second] [(.long q0)])
    refine own_go (fun _ => XS.bipush X0.here hx rfl (hb hby d5_12)) ?_
    show GG _ _ _ _ _ _ _ s₁ (mkF m 14 #[.val (.long q0), .second] [(.int (14 : Int32)), (.long q0)])
    refine own_go (fun _ => XS.lushr X0.here hx rfl (hb hby d5_14) rfl) ?_
    show GG _ _ _ _ _ _ _ s₁ (mkF m 15 #[.val (.long q0), .second] [(.long ((q0.toUInt64 >>> ((14 : Int32) &&& 0x3f).toInt64.toUInt64).toInt64))])
    refine own_go (fun _ => XS.lconst X0.here hx rfl (hb hby d5_15)) ?_
    show GG _ _ _ _ _ _ _ s₁ (mkF m 16 #[.val (.long q0), .second] [(.long (0 : Int64)), (.long ((q0.toUInt64 >>> ((14 : Int32) &&& 0x3f).toInt64.toUInt64).toInt64))])
    refine own_go (fun _ => XS.lcmp X0.here hx rfl (hb hby d5_16) rfl) ?_
    show GG _ _ _ _ _ _ _ s₁ (mkF m 17 #[.val (.long q0), .second] [(.int (lcmpW ((q0.toUInt64 >>> ((14 : Int32) &&& 0x3f).toInt64.toUInt64).toInt64) (0 : Int64)))])
    by_cases hc17 : ((q0.toUInt64 >>> ((14 : Int32) &&& 0x3f).toInt64.toUInt64).toInt64) = (0 : Int64)
    · skip
      refine own_go (fun _ => XS.ifNo X0.here hx rfl (hb hby d5_17) rfl ((if0 _ _).trans (teq ((lw_eq _ _).mpr hc17)).2)) ?_
      show GG _ _ _ _ _ _ _ s₁ (mkF m 20 #[.val (.long q0), .second] [])
      refine own_go (fun _ => XS.iconst X0.here hx rfl (hb hby d5_20)) ?_
      show GG _ _ _ _ _ _ _ s₁ (mkF m 21 #[.val (.long q0), .second] [(.int (2 : Int32))])
      refine own_ret X0 hx hlk (t := .int) (w := (.int (2 : Int32))) Bd.returns rfl (Or.inl ⟨rfl, by simp, _, rfl⟩) (hb hby d5_21) (by decide) (by decide) ?_
      show Q5 Z q0 h0 n0 (some (.int (2 : Int32))) s₁.heap _
      rw [e0]
      exact ⟨by simp only [refV, if_neg (show ¬ rs q0 7 = 0 from hc6), if_pos (show rs q0 14 = 0 from hc17)], N0, rfl⟩
    · skip
      refine own_go (fun _ => XS.ifYes X0.here hx rfl (pc0 := 17) (pc' := 22) rfl (hb hby d5_17) rfl ((if0 _ _).trans (feq (fun q => hc17 ((lw_eq _ _).mp q))).2) (by decide) (by decide)) ?_
      show GG _ _ _ _ _ _ _ s₁ (mkF m 22 #[.val (.long q0), .second] [])
      refine own_go (fun _ => XS.lloadN X0.here hx rfl (hb hby d5_22) rfl) ?_
      show GG _ _ _ _ _ _ _ s₁ (mkF m 23 #[.val (.long q0), .second] [(.long q0)])
      refine own_go (fun _ => XS.bipush X0.here hx rfl (hb hby d5_23)) ?_
      show GG _ _ _ _ _ _ _ s₁ (mkF m 25 #[.val (.long q0), .second] [(.int (21 : Int32)), (.long q0)])
      refine own_go (fun _ => XS.lushr X0.here hx rfl (hb hby d5_25) rfl) ?_
      show GG _ _ _ _ _ _ _ s₁ (mkF m 26 #[.val (.long q0), .second] [(.long ((q0.toUInt64 >>> ((21 : Int32) &&& 0x3f).toInt64.toUInt64).toInt64))])
      refine own_go (fun _ => XS.lconst X0.here hx rfl (hb hby d5_26)) ?_
      show GG _ _ _ _ _ _ _ s₁ (mkF m 27 #[.val (.long q0), .second] [(.long (0 : Int64)), (.long ((q0.toUInt64 >>> ((21 : Int32) &&& 0x3f).toInt64.toUInt64).toInt64))])
      refine own_go (fun _ => XS.lcmp X0.here hx rfl (hb hby d5_27) rfl) ?_
      show GG _ _ _ _ _ _ _ s₁ (mkF m 28 #[.val (.long q0), .second] [(.int (lcmpW ((q0.toUInt64 >>> ((21 : Int32) &&& 0x3f).toInt64.toUInt64).toInt64) (0 : Int64)))])
      by_cases hc28 : ((q0.toUInt64 >>> ((21 : Int32) &&& 0x3f).toInt64.toUInt64).toInt64) = (0 : Int64)
      · skip
        refine own_go (fun _ => XS.ifNo X0.here hx rfl (hb hby d5_28) rfl ((if0 _ _).trans (teq ((lw_eq _ _).mpr hc28)).2)) ?_
        show GG _ _ _ _ _ _ _ s₁ (mkF m 31 #[.val (.long q0), .second] [])
        refine own_go (fun _ => XS.iconst X0.here hx rfl (hb hby d5_31)) ?_
        show GG _ _ _ _ _ _ _ s₁ (mkF m 32 #[.val (.long q0), .second] [(.int (3 : Int32))])
        refine own_ret X0 hx hlk (t := .int) (w := (.int (3 : Int32))) Bd.returns rfl (Or.inl ⟨rfl, by simp, _, rfl⟩) (hb hby d5_32) (by decide) (by decide) ?_
        show Q5 Z q0 h0 n0 (some (.int (3 : Int32))) s₁.heap _
        rw [e0]
        exact ⟨by simp only [refV, if_neg (show ¬ rs q0 7 = 0 from hc6), if_neg (show ¬ rs q0 14 = 0 from hc17), if_pos (show rs q0 21 = 0 from hc28)], N0, rfl⟩
      · skip
        refine own_go (fun _ => XS.ifYes X0.here hx rfl (pc0 := 28) (pc' := 33) rfl (hb hby d5_28) rfl ((if0 _ _).trans (feq (fun q => hc28 ((lw_eq _ _).mp q))).2) (by decide) (by decide)) ?_
        show GG _ _ _ _ _ _ _ s₁ (mkF m 33 #[.val (.long q0), .second] [])
        refine own_go (fun _ => XS.lloadN X0.here hx rfl (hb hby d5_33) rfl) ?_
        show GG _ _ _ _ _ _ _ s₁ (mkF m 34 #[.val (.long q0), .second] [(.long q0)])
        refine own_go (fun _ => XS.bipush X0.here hx rfl (hb hby d5_34)) ?_
        show GG _ _ _ _ _ _ _ s₁ (mkF m 36 #[.val (.long q0), .second] [(.int (28 : Int32)), (.long q0)])
        refine own_go (fun _ => XS.lushr X0.here hx rfl (hb hby d5_36) rfl) ?_
        show GG _ _ _ _ _ _ _ s₁ (mkF m 37 #[.val (.long q0), .second] [(.long ((q0.toUInt64 >>> ((28 : Int32) &&& 0x3f).toInt64.toUInt64).toInt64))])
        refine own_go (fun _ => XS.lconst X0.here hx rfl (hb hby d5_37)) ?_
        show GG _ _ _ _ _ _ _ s₁ (mkF m 38 #[.val (.long q0), .second] [(.long (0 : Int64)), (.long ((q0.toUInt64 >>> ((28 : Int32) &&& 0x3f).toInt64.toUInt64).toInt64))])
        refine own_go (fun _ => XS.lcmp X0.here hx rfl (hb hby d5_38) rfl) ?_
        show GG _ _ _ _ _ _ _ s₁ (mkF m 39 #[.val (.long q0), .second] [(.int (lcmpW ((q0.toUInt64 >>> ((28 : Int32) &&& 0x3f).toInt64.toUInt64).toInt64) (0 : Int64)))])
        by_cases hc39 : ((q0.toUInt64 >>> ((28 : Int32) &&& 0x3f).toInt64.toUInt64).toInt64) = (0 : Int64)
        · skip
          refine own_go (fun _ => XS.ifNo X0.here hx rfl (hb hby d5_39) rfl ((if0 _ _).trans (teq ((lw_eq _ _).mpr hc39)).2)) ?_
          show GG _ _ _ _ _ _ _ s₁ (mkF m 42 #[.val (.long q0), .second] [])
          refine own_go (fun _ => XS.iconst X0.here hx rfl (hb hby d5_42)) ?_
          show GG _ _ _ _ _ _ _ s₁ (mkF m 43 #[.val (.long q0), .second] [(.int (4 : Int32))])
          refine own_ret X0 hx hlk (t := .int) (w := (.int (4 : Int32))) Bd.returns rfl (Or.inl ⟨rfl, by simp, _, rfl⟩) (hb hby d5_43) (by decide) (by decide) ?_
          show Q5 Z q0 h0 n0 (some (.int (4 : Int32))) s₁.heap _
          rw [e0]
          exact ⟨by simp only [refV, if_neg (show ¬ rs q0 7 = 0 from hc6), if_neg (show ¬ rs q0 14 = 0 from hc17), if_neg (show ¬ rs q0 21 = 0 from hc28), if_pos (show rs q0 28 = 0 from hc39)], N0, rfl⟩
        · skip
          refine own_go (fun _ => XS.ifYes X0.here hx rfl (pc0 := 39) (pc' := 44) rfl (hb hby d5_39) rfl ((if0 _ _).trans (feq (fun q => hc39 ((lw_eq _ _).mp q))).2) (by decide) (by decide)) ?_
          show GG _ _ _ _ _ _ _ s₁ (mkF m 44 #[.val (.long q0), .second] [])
          refine own_go (fun _ => XS.lloadN X0.here hx rfl (hb hby d5_44) rfl) ?_
          show GG _ _ _ _ _ _ _ s₁ (mkF m 45 #[.val (.long q0), .second] [(.long q0)])
          refine own_go (fun _ => XS.bipush X0.here hx rfl (hb hby d5_45)) ?_
          show GG _ _ _ _ _ _ _ s₁ (mkF m 47 #[.val (.long q0), .second] [(.int (35 : Int32)), (.long q0)])
          refine own_go (fun _ => XS.lushr X0.here hx rfl (hb hby d5_47) rfl) ?_
          show GG _ _ _ _ _ _ _ s₁ (mkF m 48 #[.val (.long q0), .second] [(.long ((q0.toUInt64 >>> ((35 : Int32) &&& 0x3f).toInt64.toUInt64).toInt64))])
          refine own_go (fun _ => XS.lconst X0.here hx rfl (hb hby d5_48)) ?_
          show GG _ _ _ _ _ _ _ s₁ (mkF m 49 #[.val (.long q0), .second] [(.long (0 : Int64)), (.long ((q0.toUInt64 >>> ((35 : Int32) &&& 0x3f).toInt64.toUInt64).toInt64))])
          refine own_go (fun _ => XS.lcmp X0.here hx rfl (hb hby d5_49) rfl) ?_
          show GG _ _ _ _ _ _ _ s₁ (mkF m 50 #[.val (.long q0), .second] [(.int (lcmpW ((q0.toUInt64 >>> ((35 : Int32) &&& 0x3f).toInt64.toUInt64).toInt64) (0 : Int64)))])
          by_cases hc50 : ((q0.toUInt64 >>> ((35 : Int32) &&& 0x3f).toInt64.toUInt64).toInt64) = (0 : Int64)
          · skip
            refine own_go (fun _ => XS.ifNo X0.here hx rfl (hb hby d5_50) rfl ((if0 _ _).trans (teq ((lw_eq _ _).mpr hc50)).2)) ?_
            show GG _ _ _ _ _ _ _ s₁ (mkF m 53 #[.val (.long q0), .second] [])
            refine own_go (fun _ => XS.iconst X0.here hx rfl (hb hby d5_53)) ?_
            show GG _ _ _ _ _ _ _ s₁ (mkF m 54 #[.val (.long q0), .second] [(.int (5 : Int32))])
            refine own_ret X0 hx hlk (t := .int) (w := (.int (5 : Int32))) Bd.returns rfl (Or.inl ⟨rfl, by simp, _, rfl⟩) (hb hby d5_54) (by decide) (by decide) ?_
            show Q5 Z q0 h0 n0 (some (.int (5 : Int32))) s₁.heap _
            rw [e0]
            exact ⟨by simp only [refV, if_neg (show ¬ rs q0 7 = 0 from hc6), if_neg (show ¬ rs q0 14 = 0 from hc17), if_neg (show ¬ rs q0 21 = 0 from hc28), if_neg (show ¬ rs q0 28 = 0 from hc39), if_pos (show rs q0 35 = 0 from hc50)], N0, rfl⟩
          · skip
            refine own_go (fun _ => XS.ifYes X0.here hx rfl (pc0 := 50) (pc' := 55) rfl (hb hby d5_50) rfl ((if0 _ _).trans (feq (fun q => hc50 ((lw_eq _ _).mp q))).2) (by decide) (by decide)) ?_
            show GG _ _ _ _ _ _ _ s₁ (mkF m 55 #[.val (.long q0), .second] [])
            refine own_go (fun _ => XS.lloadN X0.here hx rfl (hb hby d5_55) rfl) ?_
            show GG _ _ _ _ _ _ _ s₁ (mkF m 56 #[.val (.long q0), .second] [(.long q0)])
            refine own_go (fun _ => XS.bipush X0.here hx rfl (hb hby d5_56)) ?_
            show GG _ _ _ _ _ _ _ s₁ (mkF m 58 #[.val (.long q0), .second] [(.int (42 : Int32)), (.long q0)])
            refine own_go (fun _ => XS.lushr X0.here hx rfl (hb hby d5_58) rfl) ?_
            show GG _ _ _ _ _ _ _ s₁ (mkF m 59 #[.val (.long q0), .second] [(.long ((q0.toUInt64 >>> ((42 : Int32) &&& 0x3f).toInt64.toUInt64).toInt64))])
            refine own_go (fun _ => XS.lconst X0.here hx rfl (hb hby d5_59)) ?_
            show GG _ _ _ _ _ _ _ s₁ (mkF m 60 #[.val (.long q0), .second] [(.long (0 : Int64)), (.long ((q0.toUInt64 >>> ((42 : Int32) &&& 0x3f).toInt64.toUInt64).toInt64))])
            refine own_go (fun _ => XS.lcmp X0.here hx rfl (hb hby d5_60) rfl) ?_
            show GG _ _ _ _ _ _ _ s₁ (mkF m 61 #[.val (.long q0), .second] [(.int (lcmpW ((q0.toUInt64 >>> ((42 : Int32) &&& 0x3f).toInt64.toUInt64).toInt64) (0 : Int64)))])
            by_cases hc61 : ((q0.toUInt64 >>> ((42 : Int32) &&& 0x3f).toInt64.toUInt64).toInt64) = (0 : Int64)
            · skip
              refine own_go (fun _ => XS.ifNo X0.here hx rfl (hb hby d5_61) rfl ((if0 _ _).trans (teq ((lw_eq _ _).mpr hc61)).2)) ?_
              show GG _ _ _ _ _ _ _ s₁ (mkF m 64 #[.val (.long q0), .second] [])
              refine own_go (fun _ => XS.bipush X0.here hx rfl (hb hby d5_64)) ?_
              show GG _ _ _ _ _ _ _ s₁ (mkF m 66 #[.val (.long q0), .second] [(.int (6 : Int32))])
              refine own_ret X0 hx hlk (t := .int) (w := (.int (6 : Int32))) Bd.returns rfl (Or.inl ⟨rfl, by simp, _, rfl⟩) (hb hby d5_66) (by decide) (by decide) ?_
              show Q5 Z q0 h0 n0 (some (.int (6 : Int32))) s₁.heap _
              rw [e0]
              exact ⟨by simp only [refV, if_neg (show ¬ rs q0 7 = 0 from hc6), if_neg (show ¬ rs q0 14 = 0 from hc17), if_neg (show ¬ rs q0 21 = 0 from hc28), if_neg (show ¬ rs q0 28 = 0 from hc39), if_neg (show ¬ rs q0 35 = 0 from hc50), if_pos (show rs q0 42 = 0 from hc61)], N0, rfl⟩
            · skip
              refine own_go (fun _ => XS.ifYes X0.here hx rfl (pc0 := 61) (pc' := 67) rfl (hb hby d5_61) rfl ((if0 _ _).trans (feq (fun q => hc61 ((lw_eq _ _).mp q))).2) (by decide) (by decide)) ?_
              show GG _ _ _ _ _ _ _ s₁ (mkF m 67 #[.val (.long q0), .second] [])
              refine own_go (fun _ => XS.lloadN X0.here hx rfl (hb hby d5_67) rfl) ?_
              show GG _ _ _ _ _ _ _ s₁ (mkF m 68 #[.val (.long q0), .second] [(.long q0)])
              refine own_go (fun _ => XS.bipush X0.here hx rfl (hb hby d5_68)) ?_
              show GG _ _ _ _ _ _ _ s₁ (mkF m 70 #[.val (.long q0), .second] [(.int (49 : Int32)), (.long q0)])
              refine own_go (fun _ => XS.lushr X0.here hx rfl (hb hby d5_70) rfl) ?_
              show GG _ _ _ _ _ _ _ s₁ (mkF m 71 #[.val (.long q0), .second] [(.long ((q0.toUInt64 >>> ((49 : Int32) &&& 0x3f).toInt64.toUInt64).toInt64))])
              refine own_go (fun _ => XS.lconst X0.here hx rfl (hb hby d5_71)) ?_
              show GG _ _ _ _ _ _ _ s₁ (mkF m 72 #[.val (.long q0), .second] [(.long (0 : Int64)), (.long ((q0.toUInt64 >>> ((49 : Int32) &&& 0x3f).toInt64.toUInt64).toInt64))])
              refine own_go (fun _ => XS.lcmp X0.here hx rfl (hb hby d5_72) rfl) ?_
              show GG _ _ _ _ _ _ _ s₁ (mkF m 73 #[.val (.long q0), .second] [(.int (lcmpW ((q0.toUInt64 >>> ((49 : Int32) &&& 0x3f).toInt64.toUInt64).toInt64) (0 : Int64)))])
              by_cases hc73 : ((q0.toUInt64 >>> ((49 : Int32) &&& 0x3f).toInt64.toUInt64).toInt64) = (0 : Int64)
              · skip
                refine own_go (fun _ => XS.ifNo X0.here hx rfl (hb hby d5_73) rfl ((if0 _ _).trans (teq ((lw_eq _ _).mpr hc73)).2)) ?_
                show GG _ _ _ _ _ _ _ s₁ (mkF m 76 #[.val (.long q0), .second] [])
                refine own_go (fun _ => XS.bipush X0.here hx rfl (hb hby d5_76)) ?_
                show GG _ _ _ _ _ _ _ s₁ (mkF m 78 #[.val (.long q0), .second] [(.int (7 : Int32))])
                refine own_ret X0 hx hlk (t := .int) (w := (.int (7 : Int32))) Bd.returns rfl (Or.inl ⟨rfl, by simp, _, rfl⟩) (hb hby d5_78) (by decide) (by decide) ?_
                show Q5 Z q0 h0 n0 (some (.int (7 : Int32))) s₁.heap _
                rw [e0]
                exact ⟨by simp only [refV, if_neg (show ¬ rs q0 7 = 0 from hc6), if_neg (show ¬ rs q0 14 = 0 from hc17), if_neg (show ¬ rs q0 21 = 0 from hc28), if_neg (show ¬ rs q0 28 = 0 from hc39), if_neg (show ¬ rs q0 35 = 0 from hc50), if_neg (show ¬ rs q0 42 = 0 from hc61), if_pos (show rs q0 49 = 0 from hc73)], N0, rfl⟩
              · skip
                refine own_go (fun _ => XS.ifYes X0.here hx rfl (pc0 := 73) (pc' := 79) rfl (hb hby d5_73) rfl ((if0 _ _).trans (feq (fun q => hc73 ((lw_eq _ _).mp q))).2) (by decide) (by decide)) ?_
                show GG _ _ _ _ _ _ _ s₁ (mkF m 79 #[.val (.long q0), .second] [])
                refine own_go (fun _ => XS.lloadN X0.here hx rfl (hb hby d5_79) rfl) ?_
                show GG _ _ _ _ _ _ _ s₁ (mkF m 80 #[.val (.long q0), .second] [(.long q0)])
                refine own_go (fun _ => XS.bipush X0.here hx rfl (hb hby d5_80)) ?_
                show GG _ _ _ _ _ _ _ s₁ (mkF m 82 #[.val (.long q0), .second] [(.int (56 : Int32)), (.long q0)])
                refine own_go (fun _ => XS.lushr X0.here hx rfl (hb hby d5_82) rfl) ?_
                show GG _ _ _ _ _ _ _ s₁ (mkF m 83 #[.val (.long q0), .second] [(.long ((q0.toUInt64 >>> ((56 : Int32) &&& 0x3f).toInt64.toUInt64).toInt64))])
                refine own_go (fun _ => XS.lconst X0.here hx rfl (hb hby d5_83)) ?_
                show GG _ _ _ _ _ _ _ s₁ (mkF m 84 #[.val (.long q0), .second] [(.long (0 : Int64)), (.long ((q0.toUInt64 >>> ((56 : Int32) &&& 0x3f).toInt64.toUInt64).toInt64))])
                refine own_go (fun _ => XS.lcmp X0.here hx rfl (hb hby d5_84) rfl) ?_
                show GG _ _ _ _ _ _ _ s₁ (mkF m 85 #[.val (.long q0), .second] [(.int (lcmpW ((q0.toUInt64 >>> ((56 : Int32) &&& 0x3f).toInt64.toUInt64).toInt64) (0 : Int64)))])
                by_cases hc85 : ((q0.toUInt64 >>> ((56 : Int32) &&& 0x3f).toInt64.toUInt64).toInt64) = (0 : Int64)
                · skip
                  refine own_go (fun _ => XS.ifNo X0.here hx rfl (hb hby d5_85) rfl ((if0 _ _).trans (teq ((lw_eq _ _).mpr hc85)).2)) ?_
                  show GG _ _ _ _ _ _ _ s₁ (mkF m 88 #[.val (.long q0), .second] [])
                  refine own_go (fun _ => XS.bipush X0.here hx rfl (hb hby d5_88)) ?_
                  show GG _ _ _ _ _ _ _ s₁ (mkF m 90 #[.val (.long q0), .second] [(.int (8 : Int32))])
                  refine own_ret X0 hx hlk (t := .int) (w := (.int (8 : Int32))) Bd.returns rfl (Or.inl ⟨rfl, by simp, _, rfl⟩) (hb hby d5_90) (by decide) (by decide) ?_
                  show Q5 Z q0 h0 n0 (some (.int (8 : Int32))) s₁.heap _
                  rw [e0]
                  exact ⟨by simp only [refV, if_neg (show ¬ rs q0 7 = 0 from hc6), if_neg (show ¬ rs q0 14 = 0 from hc17), if_neg (show ¬ rs q0 21 = 0 from hc28), if_neg (show ¬ rs q0 28 = 0 from hc39), if_neg (show ¬ rs q0 35 = 0 from hc50), if_neg (show ¬ rs q0 42 = 0 from hc61), if_neg (show ¬ rs q0 49 = 0 from hc73), if_pos (show rs q0 56 = 0 from hc85)], N0, rfl⟩
                · skip
                  refine own_go (fun _ => XS.ifYes X0.here hx rfl (pc0 := 85) (pc' := 91) rfl (hb hby d5_85) rfl ((if0 _ _).trans (feq (fun q => hc85 ((lw_eq _ _).mp q))).2) (by decide) (by decide)) ?_
                  show GG _ _ _ _ _ _ _ s₁ (mkF m 91 #[.val (.long q0), .second] [])
                  refine own_go (fun _ => XS.lloadN X0.here hx rfl (hb hby d5_91) rfl) ?_
                  show GG _ _ _ _ _ _ _ s₁ (mkF m 92 #[.val (.long q0), .second] [(.long q0)])
                  refine own_go (fun _ => XS.bipush X0.here hx rfl (hb hby d5_92)) ?_
                  show GG _ _ _ _ _ _ _ s₁ (mkF m 94 #[.val (.long q0), .second] [(.int (63 : Int32)), (.long q0)])
                  refine own_go (fun _ => XS.lushr X0.here hx rfl (hb hby d5_94) rfl) ?_
                  show GG _ _ _ _ _ _ _ s₁ (mkF m 95 #[.val (.long q0), .second] [(.long ((q0.toUInt64 >>> ((63 : Int32) &&& 0x3f).toInt64.toUInt64).toInt64))])
                  refine own_go (fun _ => XS.lconst X0.here hx rfl (hb hby d5_95)) ?_
                  show GG _ _ _ _ _ _ _ s₁ (mkF m 96 #[.val (.long q0), .second] [(.long (0 : Int64)), (.long ((q0.toUInt64 >>> ((63 : Int32) &&& 0x3f).toInt64.toUInt64).toInt64))])
                  refine own_go (fun _ => XS.lcmp X0.here hx rfl (hb hby d5_96) rfl) ?_
                  show GG _ _ _ _ _ _ _ s₁ (mkF m 97 #[.val (.long q0), .second] [(.int (lcmpW ((q0.toUInt64 >>> ((63 : Int32) &&& 0x3f).toInt64.toUInt64).toInt64) (0 : Int64)))])
                  by_cases hc97 : ((q0.toUInt64 >>> ((63 : Int32) &&& 0x3f).toInt64.toUInt64).toInt64) = (0 : Int64)
                  · skip
                    refine own_go (fun _ => XS.ifNo X0.here hx rfl (hb hby d5_97) rfl ((if0 _ _).trans (teq ((lw_eq _ _).mpr hc97)).2)) ?_
                    show GG _ _ _ _ _ _ _ s₁ (mkF m 100 #[.val (.long q0), .second] [])
                    refine own_go (fun _ => XS.bipush X0.here hx rfl (hb hby d5_100)) ?_
                    show GG _ _ _ _ _ _ _ s₁ (mkF m 102 #[.val (.long q0), .second] [(.int (9 : Int32))])
                    refine own_ret X0 hx hlk (t := .int) (w := (.int (9 : Int32))) Bd.returns rfl (Or.inl ⟨rfl, by simp, _, rfl⟩) (hb hby d5_102) (by decide) (by decide) ?_
                    show Q5 Z q0 h0 n0 (some (.int (9 : Int32))) s₁.heap _
                    rw [e0]
                    exact ⟨by simp only [refV, if_neg (show ¬ rs q0 7 = 0 from hc6), if_neg (show ¬ rs q0 14 = 0 from hc17), if_neg (show ¬ rs q0 21 = 0 from hc28), if_neg (show ¬ rs q0 28 = 0 from hc39), if_neg (show ¬ rs q0 35 = 0 from hc50), if_neg (show ¬ rs q0 42 = 0 from hc61), if_neg (show ¬ rs q0 49 = 0 from hc73), if_neg (show ¬ rs q0 56 = 0 from hc85), if_pos (show rs q0 63 = 0 from hc97)], N0, rfl⟩
                  · skip
                    refine own_go (fun _ => XS.ifYes X0.here hx rfl (pc0 := 97) (pc' := 103) rfl (hb hby d5_97) rfl ((if0 _ _).trans (feq (fun q => hc97 ((lw_eq _ _).mp q))).2) (by decide) (by decide)) ?_
                    show GG _ _ _ _ _ _ _ s₁ (mkF m 103 #[.val (.long q0), .second] [])
                    refine own_go (fun _ => XS.bipush X0.here hx rfl (hb hby d5_103)) ?_
                    show GG _ _ _ _ _ _ _ s₁ (mkF m 105 #[.val (.long q0), .second] [(.int (10 : Int32))])
                    refine own_ret X0 hx hlk (t := .int) (w := (.int (10 : Int32))) Bd.returns rfl (Or.inl ⟨rfl, by simp, _, rfl⟩) (hb hby d5_105) (by decide) (by decide) ?_
                    show Q5 Z q0 h0 n0 (some (.int (10 : Int32))) s₁.heap _
                    rw [e0]
                    exact ⟨by simp only [refV, if_neg (show ¬ rs q0 7 = 0 from hc6), if_neg (show ¬ rs q0 14 = 0 from hc17), if_neg (show ¬ rs q0 21 = 0 from hc28), if_neg (show ¬ rs q0 28 = 0 from hc39), if_neg (show ¬ rs q0 35 = 0 from hc50), if_neg (show ¬ rs q0 42 = 0 from hc61), if_neg (show ¬ rs q0 49 = 0 from hc73), if_neg (show ¬ rs q0 56 = 0 from hc85), if_neg (show ¬ rs q0 63 = 0 from hc97)], N0, rfl⟩
theorem ef_0 (m : MethodId) (x0 : Int64) (x1 : Int32) : entryFrame m #[(.long x0), (.int x1)] maxLocals = mkF m 0 #[.val (.long x0), .second, .val (.int x1), .unset, .unset] [] := by first | (simp [entryFrame, mkF, argsToLocals, Value.category, maxLocals]; done) | rfl
def Q0 (Z : State) (q0 : Int64) (p1 : Int32) (h0 : Heap) (n0 : Nat) (v : Option Value) (h : Heap) (L : List Loc) : Prop := v = some (.int 1) ∧ Fr n0 L
set_option maxRecDepth 65536 in
set_option maxHeartbeats 40000000 in
theorem rm0 (l : Launch) (Z : State) (a0 : Array Value) (hw : ∀ d ∈ tables_1, d.before a0 Z = true) (ws : List Jvm.Cond) (q0 : Int64) (p1 : Int32) (h0 : Heap) (n0 : Nat) (Z0 : n0 ≤ h0.size)  :
    own_CT l Z x code maxLocals ret ws room_1 #[(.long q0), (.int p1)] h0 (Q0 Z q0 p1 h0 n0) := by
  refine MetFree.of_bodySF (plainFor_of_name pn_com_example_observable_archive_observablearchive_core_VarintsSizePinLaw) hisR ?_
  intro p e s m args below meth c s₁ Bd hml0 hP hK
  obtain ⟨rfl, hZ, hh⟩ := hP
  have hx := Bd.exec
  have hby := Bd.bytes
  have hml : c.maxLocals = 5 := hml0
  have hown : s.vm.findClass "com/example/observable_archive/observablearchive/core/VarintsSizePinLaw" = some m.cls := findClass_of_methodNamed Bd.named
  have hnm := (name_of_methodNamed Bd.named Bd.method).1
  have hlk : meth.locks = false := BodyLoose.notSynchronized Bd
  have X0 : Stand p l e room_1 s m #[(.long q0), (.int p1)] below meth c s₁ [] 0 0 := Stand.of_body Bd
  have e0 : s₁.heap = h0 := by rw [← hh, Bd.state]; rfl
  have N0 := Fr.nil n0
  show GG p e below s room_1.cells room_1.slots (Q0 Z q0 p1 h0 n0) s₁ (entryFrame m #[(.long q0), (.int p1)] maxLocals)
  refine own_in (ef_0 m q0 p1) ?_
  show GG _ _ _ _ _ _ _ s₁ (mkF m 0 #[.val (.long q0), .second, .val (.int p1), .unset, .unset] [])
  refine own_go (fun _ => XS.lloadN X0.here hx rfl (hb hby at_0) rfl) ?_
  show GG _ _ _ _ _ _ _ s₁ (mkF m 1 #[.val (.long q0), .second, .val (.int p1), .unset, .unset] [(.long q0)])
  refine own_go (fun _ => XS.iloadN X0.here hx rfl (hb hby at_1) rfl) ?_
  show GG _ _ _ _ _ _ _ s₁ (mkF m 2 #[.val (.long q0), .second, .val (.int p1), .unset, .unset] [(.int p1), (.long q0)])
  refine own_go (fun _ => XS.bipush X0.here hx rfl (hb hby at_2)) ?_
  show GG _ _ _ _ _ _ _ s₁ (mkF m 4 #[.val (.long q0), .second, .val (.int p1), .unset, .unset] [(.int (63 : Int32)), (.int p1), (.long q0)])
  refine own_go (fun _ => XS.iand X0.here hx rfl (hb hby at_4) rfl) ?_
  show GG _ _ _ _ _ _ _ s₁ (mkF m 5 #[.val (.long q0), .second, .val (.int p1), .unset, .unset] [(.int (p1 &&& (63 : Int32))), (.long q0)])
  refine own_go (fun _ => XS.lushr X0.here hx rfl (hb hby at_5) rfl) ?_
  show GG _ _ _ _ _ _ _ s₁ (mkF m 6 #[.val (.long q0), .second, .val (.int p1), .unset, .unset] [(.long ((q0.toUInt64 >>> ((p1 &&& (63 : Int32)) &&& 0x3f).toInt64.toUInt64).toInt64))])
  refine own_go (fun _ => XS.lstoreN X0.here hx rfl (hb hby at_6) rfl (l' := #[.val (.long q0), .second, .val (.int p1), .val (.long ((q0.toUInt64 >>> ((p1 &&& (63 : Int32)) &&& 0x3f).toInt64.toUInt64).toInt64)), .second]) rfl) ?_
  show GG _ _ _ _ _ _ _ s₁ (mkF m 7 #[.val (.long q0), .second, .val (.int p1), .val (.long ((q0.toUInt64 >>> ((p1 &&& (63 : Int32)) &&& 0x3f).toInt64.toUInt64).toInt64)), .second] [])
  generalize hx1 : ((q0.toUInt64 >>> ((p1 &&& (63 : Int32)) &&& 0x3f).toInt64.toUInt64).toInt64) = x1
  refine own_go (fun _ => XS.lloadN X0.here hx rfl (hb hby at_7) rfl) ?_
  show GG _ _ _ _ _ _ _ s₁ (mkF m 8 #[.val (.long q0), .second, .val (.int p1), .val (.long x1), .second] [(.long x1)])
  refine own_callS X0 hx hZ (y := (⟨"com/example/observable_archive/observablearchive/core/Varints", "size", "(J)I"⟩ : MethodName)) 0 hown (hw _ (List.mem_of_getElem? (i := 0) rfl)) (hw _ (List.mem_of_getElem? (i := 1) rfl)) (hw _ (List.mem_of_getElem? (i := 2) rfl)) (hw _ (List.mem_of_getElem? (i := 3) rfl)) (by decide) (argsL := [(.long x1)]) (rest := []) (rm1 l Z a0 hw [] x1 h0 n0 Z0) (by decide) (by decide) (by decide) (by decide) (g := (mkF m 8 #[.val (.long q0), .second, .val (.int p1), .val (.long x1), .second] [(.long x1)])) rfl (by rw [hml]; rfl) (lenOf pd__J_I_228 rfl) rfl (by show 2 * 0 + _ ≤ _; exact Nat.le_of_eq rfl) (hb hby at_8) e0 ?_
  rintro v2 T2 L2 X2 ⟨rfl, N2q, hh2⟩
  have N2 := Fr.app N0 N2q
  show GG _ _ _ _ _ _ _ T2 (mkF m 11 #[.val (.long q0), .second, .val (.int p1), .val (.long x1), .second] [(.int (refV x1))])
  refine own_go (fun _ => XS.lloadN X2.here hx rfl (hb hby at_11) rfl) ?_
  show GG _ _ _ _ _ _ _ T2 (mkF m 12 #[.val (.long q0), .second, .val (.int p1), .val (.long x1), .second] [(.long x1), (.int (refV x1))])
  refine own_callS X2 hx hZ (y := (⟨"com/example/observable_archive/observablearchive/core/VarintsSizePinLaw", "ref", "(J)I"⟩ : MethodName)) 1 hown (hw _ (List.mem_of_getElem? (i := 16) rfl)) (hw _ (List.mem_of_getElem? (i := 17) rfl)) (hw _ (List.mem_of_getElem? (i := 18) rfl)) (hw _ (List.mem_of_getElem? (i := 19) rfl)) (by decide) (argsL := [(.long x1)]) (rest := [(.int (refV x1))]) (rm5 l Z a0 hw [] x1 h0 n0 Z0) (by decide) (by decide) (by decide) (by decide) (g := (mkF m 12 #[.val (.long q0), .second, .val (.int p1), .val (.long x1), .second] [(.long x1), (.int (refV x1))])) rfl (by rw [hml]; rfl) (lenOf pd__J_I_228 rfl) rfl (by show 2 * 0 + _ ≤ _; exact Nat.le_of_eq rfl) (hb hby at_12) hh2 ?_
  rintro v3 T3 L3 X3 ⟨rfl, N3q, hh3⟩
  have N3 := Fr.app N2 N3q
  show GG _ _ _ _ _ _ _ T3 (mkF m 15 #[.val (.long q0), .second, .val (.int p1), .val (.long x1), .second] [(.int (refV x1)), (.int (refV x1))])
  have hc15 : (refV x1) = (refV x1) := rfl
  refine own_go (fun _ => XS.icmpNo X3.here hx rfl (hb hby at_15) rfl (teq hc15).2) ?_
  show GG _ _ _ _ _ _ _ T3 (mkF m 18 #[.val (.long q0), .second, .val (.int p1), .val (.long x1), .second] [])
  refine own_go (fun _ => XS.iconst X3.here hx rfl (hb hby at_18)) ?_
  show GG _ _ _ _ _ _ _ T3 (mkF m 19 #[.val (.long q0), .second, .val (.int p1), .val (.long x1), .second] [(.int (1 : Int32))])
  refine own_go (fun _ => XS.goto X3.here hx rfl (pc0 := 19) (pc' := 23) rfl (hb hby at_19) (by decide) (by decide)) ?_
  show GG _ _ _ _ _ _ _ T3 (mkF m 23 #[.val (.long q0), .second, .val (.int p1), .val (.long x1), .second] [(.int (1 : Int32))])
  refine own_ret X3 hx hlk (t := .boolean) (w := (.int (1 : Int32))) Bd.returns rfl (Or.inl ⟨rfl, by simp, _, rfl⟩) (hb hby at_23) (by decide) (by decide) ?_
  show Q0 Z q0 p1 h0 n0 (some (.int (1 : Int32))) T3.heap _
  rw [hh3]
  exact ⟨rfl, N3⟩
set_option maxRecDepth 65536 in
set_option maxHeartbeats 40000000 in
theorem comes_1 {Post : Tables → Env → Array Value → State → Outcome → State → Prop} (hpost : ∀ tb e args s v u, (limb_1_1.after args s (.returned v) u = true ∧ limb_1_2.after args s (.returned v) u = true ∧ True) → FrameEnd s (.returned v) u (Jvm.fieldLocs frame_1_writes args s ++ Jvm.arrayLocs frame_1_arrays args s ++ Jvm.staticLocs frame_1_statics s) 0 0 → Post tb e args s (.returned v) u) :
    ArmFor flags0 classFile x code maxLocals ret World_1 tables_1 room_1 Calls_1 rest_1 Pre_1 Post := by
  intro l hfl _ _ p e ha hc hk s m args below hf hA hF happ hP
  obtain ⟨hcalls, hrest, hpre⟩ := hP
  obtain ⟨-, -, -, hnamed, -, -, -, hat⟩ := (Spec.applies_iff hf).mp happ
  obtain ⟨hg, hn⟩ := and_e (Cond.before_iff.mp (show (Jvm.Cond.and given_1 narrow_1).before args s = true from hpre))
  obtain ⟨g1, g2⟩ := and_e hg
  obtain ⟨g3, g4⟩ := and_e g2
  obtain ⟨w0, w1, rfl⟩ : ∃ w0 w1 : Value, args = #[w0, w1] := by
    have hs : args.size = 2 := by simpa [Cond.value, given_1] using g1
    obtain ⟨L⟩ := args
    match L, hs with
    | [w0, w1], _ => exact ⟨w0, w1, rfl⟩
  have hw := fun d (hd : d ∈ tables_1) => atoms_spec (ws := Jvm.Cond.code x code maxLocals ret :: tables_1) hat d (List.mem_cons_of_mem _ hd)
  have hfit : Fit s := fun {y c} hc i hi => by
    obtain ⟨ha, rfl⟩ := Array.getElem?_eq_some_iff.mp hc
    have q := List.all_eq_true.mp ((Array.all_eq_true_iff_forall_mem.mp hF) _ (Array.getElem_mem ha)) i (List.mem_range.mpr hi)
    simpa [Array.getElem?_eq_getElem hi] using q
  obtain ⟨i0, ei0⟩ := isL_v g3
  obtain rfl : w0 = (.long i0) := Option.some.inj ei0
  obtain ⟨i1, ei1⟩ := is_v g4
  obtain rfl : w1 = (.int i1) := Option.some.inj ei1
  obtain ⟨n, o, h1, h2, h3, _, L, rfl, ⟨rfl, N⟩, hq⟩ := rm0 l s _ hw tables_1 i0 i1 s.heap s.heap.size (Nat.le_refl _)  p e ha hc hk s m _ below hf ((Spec.applies_iff_loose hf).mp happ).1 ⟨rfl, State.Warmed39.refl s, rfl⟩ trivial
  refine ⟨n, _, h1, h2, h3, hpost _ _ _ _ _ _ ⟨Cond.after_iff.mpr rfl, Cond.after_iff.mpr (eq_i res_at (Term.int_eval (1)) rfl), trivial⟩ ⟨hq.1, hq.2.1, (hq.2.2.sift fun y hy => Or.inr (N y hy)).mono (by decide) (by decide)⟩⟩
theorem main_1_1 : Claimed_1_1 := comes_1 fun _ _ _ _ _ _ h hF => ⟨h.1, hF⟩
theorem main_1_2 : Claimed_1_2 := comes_1 fun _ _ _ _ _ _ h hF => ⟨h.2.1, hF⟩
end Jvm.Pilot.@@N@@
namespace Jvm.Pilot.@@N@@
open Jvm Jvm.ClassFile Sem Op Lib Jvm.Free Jvm.Stand Jvm.Pilot.@@N@@.Jvm.D
/-! MADE BY PROGRAM (witnessworld.py) out of the Statement's table words and the real class files: 16 classes; the members and pool entries that the words name. The judged class is class 1, her method 2. -/
namespace start1
open Jvm.ClassFile
def u (s : String) : CpInfo := .utf8 (stringToUtf16 s)
/-- a pool by its gaps: so many unusable entries, then the entry; so many at the end -/
def gap : Nat → List CpInfo → List CpInfo
  | 0, r => r
  | n + 1, r => .unusable :: gap n r
def poolList (es : List (Nat × CpInfo)) (last : Nat) : List CpInfo := es.foldr (fun e r => gap e.1 (e.2 :: r)) (gap last [])
def pool (es : List (Nat × CpInfo)) (last : Nat) : Array CpInfo := ⟨poolList es last⟩
def fileOf (pool : Array CpInfo) (this : Nat) (attrs : Array Attribute := #[]) (ms : Array MethodInfo := #[]) (fl : Nat := 33) (sup : Nat := 0) (ifs : Array Nat := #[]) (fds : Array FieldInfo := #[]) : ClassFile where
  minorVersion := 0
  majorVersion := 65
  constantPool := pool
  accessFlags := fl
  thisClass := this
  superClass := sup
  interfaces := ifs
  fields := fds
  methods := ms
  attributes := attrs
def plain (name : String) (sup : Option ClassId) : Class where
  name := name
  kind := .ordinary
  loader := none
  accessFlags := 33
  super := sup
  interfaces := #[]
  cf := none
  fields := #[]
  methods := #[]
  instanceTypes := #[]
  staticTypes := #[]
  resolved := #[]
  callSites := []
  init := .initialized
  statics := none
  mirror := none

def pool0 : Array CpInfo := pool [(5, u "<init>"), (0, u "()V"), (1, .class_ 10), (1, u "java/lang/Object")] 113

def k0m0 : Method := { name := "<init>", desc := "()V", sig := { parameters := [], returnType := none }, accessFlags := 1, code := none }
/-- java/lang/Object -/
def k0 : Class := { plain "java/lang/Object" none with
  accessFlags := 33
  interfaces := #[]
  cf := some (fileOf pool0 8 #[] #[{ accessFlags := 1, nameIndex := 5, descriptorIndex := 6, attributes := #[] }] 33 0 #[] #[])
  fields := #[]
  methods := #[k0m0]
  instanceTypes := #[]
  staticTypes := #[]
  resolved := Array.replicate 124 none
  statics := none }

def pool1 : Array CpInfo := pool [(2, .class_ 4), (1, u "java/lang/Object"), (0, u "<init>"), (0, u "()V"), (0, .methodref 8 9), (0, .class_ 10), (0, .nameAndType 11 12), (0, u "com/example/observable_archive/observablearchive/core/Varints"), (0, u "size"), (0, u "(J)I"), (0, .methodref 14 15), (0, .class_ 16), (0, .nameAndType 17 12), (0, u "com/example/observable_archive/observablearchive/core/VarintsSizePinLaw"), (0, u "ref"), (3, u "law"), (0, u "(JI)Z")] 2

def k1m0 : Method := { name := "<init>", desc := "()V", sig := { parameters := [], returnType := none }, accessFlags := 2, code := none }
def k1c1 : Code := { maxStack := 4, maxLocals := 2, code := method_2_code, exceptionTable := #[], attributes := #[] }
def k1m1 : Method := { name := "ref", desc := "(J)I", sig := { parameters := [.long], returnType := some .int }, accessFlags := 10, code := some k1c1 }
def k1c2 : Code := { maxStack := 4, maxLocals := 5, code := code, exceptionTable := #[], attributes := #[] }
def k1m2 : Method := { name := "law", desc := "(JI)Z", sig := { parameters := [.long, .int], returnType := some .boolean }, accessFlags := 9, code := some k1c2 }
/-- com/example/observable_archive/observablearchive/core/VarintsSizePinLaw -/
def k1 : Class := { plain "com/example/observable_archive/observablearchive/core/VarintsSizePinLaw" (some 0) with
  accessFlags := 49
  interfaces := #[]
  cf := some (fileOf pool1 14 #[] #[{ accessFlags := 2, nameIndex := 5, descriptorIndex := 6, attributes := #[] }, { accessFlags := 10, nameIndex := 17, descriptorIndex := 12, attributes := #[] }, { accessFlags := 9, nameIndex := 21, descriptorIndex := 22, attributes := #[] }] 49 2 #[] #[])
  fields := #[]
  methods := #[k1m0, k1m1, k1m2]
  instanceTypes := #[]
  staticTypes := #[]
  resolved := Array.replicate 25 none
  statics := none }

def pool2 : Array CpInfo := pool [(2, .class_ 4), (1, u "java/lang/Object"), (0, u "<init>"), (0, u "()V"), (0, .class_ 8), (0, u "java/lang/Long"), (0, .methodref 7 10), (0, .nameAndType 11 12), (0, u "numberOfLeadingZeros"), (0, u "(J)I"), (0, .methodref 14 15), (0, .class_ 16), (0, .nameAndType 17 18), (0, u "java/lang/Math"), (0, u "max"), (0, u "(II)I"), (13, .class_ 34), (1, u "com/example/observable_archive/observablearchive/core/Varints"), (15, u "MAX_BYTES"), (0, u "I"), (4, u "size")] 5

def k2m0 : Method := { name := "<init>", desc := "()V", sig := { parameters := [], returnType := none }, accessFlags := 2, code := none }
def k2c1 : Code := { maxStack := 4, maxLocals := 2, code := prog_51_method_2_code, exceptionTable := #[], attributes := #[] }
def k2m1 : Method := { name := "size", desc := "(J)I", sig := { parameters := [.long], returnType := some .int }, accessFlags := 8, code := some k2c1 }
/-- com/example/observable_archive/observablearchive/core/Varints -/
def k2 : Class := { plain "com/example/observable_archive/observablearchive/core/Varints" (some 0) with
  accessFlags := 48
  interfaces := #[]
  cf := some (fileOf pool2 32 #[] #[{ accessFlags := 2, nameIndex := 5, descriptorIndex := 6, attributes := #[] }, { accessFlags := 8, nameIndex := 56, descriptorIndex := 12, attributes := #[] }] 48 2 #[] #[{ accessFlags := 24, nameIndex := 50, descriptorIndex := 51, attributes := #[] }])
  fields := #[{ name := "MAX_BYTES", type := .int, accessFlags := 24, slot := 0, constantValue := 0 }]
  methods := #[k2m0, k2m1]
  instanceTypes := #[]
  staticTypes := #[.int]
  resolved := Array.replicate 62 none
  statics := none }

def pool3 : Array CpInfo := pool [(1, .class_ 2), (0, u "java/io/Serializable"), (0, .class_ 4), (0, u "java/lang/Object")] 2

/-- java/io/Serializable -/
def k3 : Class := { plain "java/io/Serializable" (some 0) with
  accessFlags := 1537
  interfaces := #[]
  cf := some (fileOf pool3 1 #[] #[] 1537 3 #[] #[])
  fields := #[]
  methods := #[]
  instanceTypes := #[]
  staticTypes := #[]
  resolved := Array.replicate 7 none
  statics := none }

def pool4 : Array CpInfo := pool [(2, .class_ 4), (1, u "java/lang/Object"), (0, u "<init>"), (0, u "()V"), (1, .class_ 10), (1, u "java/lang/Number"), (2, .class_ 14), (0, u "java/io/Serializable"), (0, u "serialVersionUID"), (0, u "J")] 20

def k4m0 : Method := { name := "<init>", desc := "()V", sig := { parameters := [], returnType := none }, accessFlags := 1, code := none }
/-- java/lang/Number -/
def k4 : Class := { plain "java/lang/Number" (some 0) with
  accessFlags := 1057
  interfaces := #[3]
  cf := some (fileOf pool4 8 #[] #[{ accessFlags := 1, nameIndex := 5, descriptorIndex := 6, attributes := #[] }] 1057 2 #[13] #[{ accessFlags := 26, nameIndex := 15, descriptorIndex := 16, attributes := #[] }])
  fields := #[{ name := "serialVersionUID", type := .long, accessFlags := 26, slot := 0, constantValue := 0 }]
  methods := #[k4m0]
  instanceTypes := #[]
  staticTypes := #[.long]
  resolved := Array.replicate 37 none
  statics := none }

def pool5 : Array CpInfo := pool [(1, .class_ 2), (0, u "java/lang/Comparable"), (0, .class_ 4), (0, u "java/lang/Object")] 7

/-- java/lang/Comparable -/
def k5 : Class := { plain "java/lang/Comparable" (some 0) with
  accessFlags := 1537
  interfaces := #[]
  cf := some (fileOf pool5 1 #[] #[] 1537 3 #[] #[])
  fields := #[]
  methods := #[]
  instanceTypes := #[]
  staticTypes := #[]
  resolved := Array.replicate 12 none
  statics := none }

def pool6 : Array CpInfo := pool [(1, .class_ 2), (0, u "java/lang/constant/Constable"), (0, .class_ 4), (0, u "java/lang/Object")] 6

/-- java/lang/constant/Constable -/
def k6 : Class := { plain "java/lang/constant/Constable" (some 0) with
  accessFlags := 1537
  interfaces := #[]
  cf := some (fileOf pool6 1 #[] #[] 1537 3 #[] #[])
  fields := #[]
  methods := #[]
  instanceTypes := #[]
  staticTypes := #[]
  resolved := Array.replicate 11 none
  statics := none }

def pool7 : Array CpInfo := pool [(1, .class_ 2), (0, u "java/lang/constant/ConstantDesc"), (0, .class_ 4), (0, u "java/lang/Object")] 32

/-- java/lang/constant/ConstantDesc -/
def k7 : Class := { plain "java/lang/constant/ConstantDesc" (some 0) with
  accessFlags := 1537
  interfaces := #[]
  cf := some (fileOf pool7 1 #[] #[] 1537 3 #[] #[])
  fields := #[]
  methods := #[]
  instanceTypes := #[]
  staticTypes := #[]
  resolved := Array.replicate 37 none
  statics := none }

def pool8 : Array CpInfo := pool [(1, .class_ 2), (0, u "java/lang/Long"), (15, .class_ 20), (1, u "java/lang/Integer"), (79, u "numberOfLeadingZeros"), (0, u "(J)I"), (133, .class_ 237), (1, u "java/lang/Long$LongCache"), (33, .class_ 272), (0, u "java/lang/Number"), (2, u "value"), (0, u "J"), (31, .methodref 18 309), (0, .nameAndType 100 310), (0, u "(I)I"), (50, u "TYPE"), (0, u "Ljava/lang/Class;"), (0, .class_ 364), (0, u "java/lang/Comparable"), (0, .class_ 366), (0, u "java/lang/constant/Constable"), (0, .class_ 368), (0, u "java/lang/constant/ConstantDesc"), (0, u "MIN_VALUE"), (1, u "MAX_VALUE"), (4, u "SIZE"), (0, u "I"), (1, u "BYTES"), (1, u "serialVersionUID")] 142

def k8c0 : Code := { maxStack := 3, maxLocals := 3, code := jdk_35_method_48_code, exceptionTable := #[], attributes := #[] }
def k8m0 : Method := { name := "numberOfLeadingZeros", desc := "(J)I", sig := { parameters := [.long], returnType := some .int }, accessFlags := 9, code := some k8c0 }
/-- java/lang/Long -/
def k8 : Class := { plain "java/lang/Long" (some 4) with
  accessFlags := 49
  interfaces := #[5, 6, 7]
  cf := some (fileOf pool8 1 #[.nestMembers #[235]] #[{ accessFlags := 9, nameIndex := 100, descriptorIndex := 101, attributes := #[] }] 49 271 #[363, 365, 367] #[{ accessFlags := 25, nameIndex := 369, descriptorIndex := 276, attributes := #[] }, { accessFlags := 25, nameIndex := 371, descriptorIndex := 276, attributes := #[] }, { accessFlags := 25, nameIndex := 361, descriptorIndex := 362, attributes := #[] }, { accessFlags := 18, nameIndex := 275, descriptorIndex := 276, attributes := #[] }, { accessFlags := 25, nameIndex := 376, descriptorIndex := 377, attributes := #[] }, { accessFlags := 25, nameIndex := 379, descriptorIndex := 377, attributes := #[] }, { accessFlags := 26, nameIndex := 381, descriptorIndex := 276, attributes := #[] }])
  fields := #[{ name := "MIN_VALUE", type := .long, accessFlags := 25, slot := 0, constantValue := 0 }, { name := "MAX_VALUE", type := .long, accessFlags := 25, slot := 1, constantValue := 0 }, { name := "TYPE", type := (.object "java/lang/Class"), accessFlags := 25, slot := 2, constantValue := 0 }, { name := "value", type := .long, accessFlags := 18, slot := 0, constantValue := 0 }, { name := "SIZE", type := .int, accessFlags := 25, slot := 3, constantValue := 0 }, { name := "BYTES", type := .int, accessFlags := 25, slot := 4, constantValue := 0 }, { name := "serialVersionUID", type := .long, accessFlags := 26, slot := 5, constantValue := 0 }]
  methods := #[k8m0]
  instanceTypes := #[.long]
  staticTypes := #[.long, .long, (.object "java/lang/Class"), .int, .int, .long]
  resolved := Array.replicate 524 none
  statics := none }

def pool9 : Array CpInfo := pool [(1, .class_ 2), (0, u "java/lang/Integer"), (16, u "digits"), (0, u "[C"), (32, u "numberOfLeadingZeros"), (0, u "(I)I"), (30, u "DigitOnes"), (0, u "[B"), (2, u "DigitTens"), (99, .class_ 190), (0, u "java/lang/Integer$IntegerCache"), (3, u "I"), (8, .class_ 204), (0, u "java/lang/Number"), (2, u "value"), (56, .integer 65536), (37, u "TYPE"), (0, u "Ljava/lang/Class;"), (0, .class_ 305), (0, u "java/lang/Comparable"), (0, .class_ 307), (0, u "java/lang/constant/Constable"), (0, .class_ 309), (0, u "java/lang/constant/ConstantDesc"), (0, u "MIN_VALUE"), (1, u "MAX_VALUE"), (3, u "SIZE"), (1, u "BYTES"), (1, u "serialVersionUID"), (0, u "J")] 131

def k9c0 : Code := { maxStack := 3, maxLocals := 2, code := jdk_33_method_47_code, exceptionTable := #[], attributes := #[] }
def k9m0 : Method := { name := "numberOfLeadingZeros", desc := "(I)I", sig := { parameters := [.int], returnType := some .int }, accessFlags := 9, code := some k9c0 }
/-- java/lang/Integer -/
def k9 : Class := { plain "java/lang/Integer" (some 4) with
  accessFlags := 49
  interfaces := #[5, 6, 7]
  cf := some (fileOf pool9 1 #[.nestMembers #[189]] #[{ accessFlags := 9, nameIndex := 53, descriptorIndex := 54, attributes := #[] }] 49 203 #[304, 306, 308] #[{ accessFlags := 25, nameIndex := 310, descriptorIndex := 194, attributes := #[] }, { accessFlags := 25, nameIndex := 312, descriptorIndex := 194, attributes := #[] }, { accessFlags := 25, nameIndex := 302, descriptorIndex := 303, attributes := #[] }, { accessFlags := 24, nameIndex := 19, descriptorIndex := 20, attributes := #[] }, { accessFlags := 24, nameIndex := 89, descriptorIndex := 86, attributes := #[] }, { accessFlags := 24, nameIndex := 85, descriptorIndex := 86, attributes := #[] }, { accessFlags := 18, nameIndex := 207, descriptorIndex := 194, attributes := #[] }, { accessFlags := 25, nameIndex := 316, descriptorIndex := 194, attributes := #[] }, { accessFlags := 25, nameIndex := 318, descriptorIndex := 194, attributes := #[] }, { accessFlags := 26, nameIndex := 320, descriptorIndex := 321, attributes := #[] }])
  fields := #[{ name := "MIN_VALUE", type := .int, accessFlags := 25, slot := 0, constantValue := 0 }, { name := "MAX_VALUE", type := .int, accessFlags := 25, slot := 1, constantValue := 0 }, { name := "TYPE", type := (.object "java/lang/Class"), accessFlags := 25, slot := 2, constantValue := 0 }, { name := "digits", type := (.array .char), accessFlags := 24, slot := 3, constantValue := 0 }, { name := "DigitTens", type := (.array .byte), accessFlags := 24, slot := 4, constantValue := 0 }, { name := "DigitOnes", type := (.array .byte), accessFlags := 24, slot := 5, constantValue := 0 }, { name := "value", type := .int, accessFlags := 18, slot := 0, constantValue := 0 }, { name := "SIZE", type := .int, accessFlags := 25, slot := 6, constantValue := 0 }, { name := "BYTES", type := .int, accessFlags := 25, slot := 7, constantValue := 0 }, { name := "serialVersionUID", type := .long, accessFlags := 26, slot := 8, constantValue := 0 }]
  methods := #[k9m0]
  instanceTypes := #[.int]
  staticTypes := #[.int, .int, (.object "java/lang/Class"), (.array .char), (.array .byte), (.array .byte), .int, .int, .long]
  resolved := Array.replicate 453 none
  statics := none }

def pool10 : Array CpInfo := pool [(1, .class_ 2), (0, u "java/lang/Math"), (1, .class_ 6), (1, u "java/lang/Object"), (0, u "<init>"), (0, u "()V"), (89, .class_ 100), (1, u "java/lang/Math$RandomNumberGeneratorHolder"), (71, u "negativeZeroFloatBits"), (0, u "J"), (2, u "negativeZeroDoubleBits"), (21, u "max"), (46, u "$assertionsDisabled"), (0, u "Z"), (88, u "(II)I"), (2, u "twoToTheDoubleScaleDown"), (0, u "D"), (4, u "twoToTheDoubleScaleUp"), (9, u "E"), (3, u "PI"), (2, u "TAU"), (2, u "DEGREES_TO_RADIANS"), (0, u "RADIANS_TO_DEGREES")] 94

def k10m0 : Method := { name := "<init>", desc := "()V", sig := { parameters := [], returnType := none }, accessFlags := 2, code := none }
def k10c1 : Code := { maxStack := 2, maxLocals := 2, code := jdk_29_method_65_code, exceptionTable := #[], attributes := #[] }
def k10m1 : Method := { name := "max", desc := "(II)I", sig := { parameters := [.int, .int], returnType := some .int }, accessFlags := 9, code := some k10c1 }
/-- java/lang/Math -/
def k10 : Class := { plain "java/lang/Math" (some 0) with
  accessFlags := 49
  interfaces := #[]
  cf := some (fileOf pool10 1 #[.nestMembers #[98]] #[{ accessFlags := 2, nameIndex := 7, descriptorIndex := 8, attributes := #[] }, { accessFlags := 9, nameIndex := 198, descriptorIndex := 335, attributes := #[] }] 49 4 #[] #[{ accessFlags := 25, nameIndex := 354, descriptorIndex := 339, attributes := #[] }, { accessFlags := 25, nameIndex := 358, descriptorIndex := 339, attributes := #[] }, { accessFlags := 25, nameIndex := 361, descriptorIndex := 339, attributes := #[] }, { accessFlags := 26, nameIndex := 364, descriptorIndex := 339, attributes := #[] }, { accessFlags := 26, nameIndex := 365, descriptorIndex := 339, attributes := #[] }, { accessFlags := 26, nameIndex := 172, descriptorIndex := 173, attributes := #[] }, { accessFlags := 26, nameIndex := 176, descriptorIndex := 173, attributes := #[] }, { accessFlags := 8, nameIndex := 344, descriptorIndex := 339, attributes := #[] }, { accessFlags := 8, nameIndex := 338, descriptorIndex := 339, attributes := #[] }, { accessFlags := 4120, nameIndex := 245, descriptorIndex := 246, attributes := #[] }])
  fields := #[{ name := "E", type := .double, accessFlags := 25, slot := 0, constantValue := 0 }, { name := "PI", type := .double, accessFlags := 25, slot := 1, constantValue := 0 }, { name := "TAU", type := .double, accessFlags := 25, slot := 2, constantValue := 0 }, { name := "DEGREES_TO_RADIANS", type := .double, accessFlags := 26, slot := 3, constantValue := 0 }, { name := "RADIANS_TO_DEGREES", type := .double, accessFlags := 26, slot := 4, constantValue := 0 }, { name := "negativeZeroFloatBits", type := .long, accessFlags := 26, slot := 5, constantValue := 0 }, { name := "negativeZeroDoubleBits", type := .long, accessFlags := 26, slot := 6, constantValue := 0 }, { name := "twoToTheDoubleScaleUp", type := .double, accessFlags := 8, slot := 7, constantValue := 0 }, { name := "twoToTheDoubleScaleDown", type := .double, accessFlags := 8, slot := 8, constantValue := 0 }, { name := "$assertionsDisabled", type := .boolean, accessFlags := 4120, slot := 9, constantValue := 0 }]
  methods := #[k10m0, k10m1]
  instanceTypes := #[]
  staticTypes := #[.double, .double, .double, .double, .double, .long, .long, .double, .double, .boolean]
  resolved := Array.replicate 460 none
  statics := none }

def pool11 : Array CpInfo := pool [(1, u "java/lang/Cloneable"), (0, .class_ 1), (0, u "java/lang/Object"), (0, .class_ 3)] 3

/-- java/lang/Cloneable -/
def k11 : Class := { plain "java/lang/Cloneable" (some 0) with
  accessFlags := 1537
  interfaces := #[]
  cf := some (fileOf pool11 2 #[] #[] 1537 4 #[] #[])
  fields := #[]
  methods := #[]
  instanceTypes := #[]
  staticTypes := #[]
  resolved := Array.replicate 8 none
  statics := none }

/-- the primitive byte -/
def k12 : Class := { plain "byte" none with kind := .primitive 'B', accessFlags := 0x411 }
/-- [B -/
def k13 : Class := { plain "[B" (some 0) with kind := .array 12 .byte, interfaces := #[11, 3], accessFlags := 1041 }

/-- the primitive int -/
def k14 : Class := { plain "int" none with kind := .primitive 'I', accessFlags := 0x411 }
/-- [I -/
def k15 : Class := { plain "[I" (some 0) with kind := .array 14 .int, interfaces := #[11, 3], accessFlags := 1041 }

def heap : Heap := #[]
def classes : Array Class := #[k0, k1, k2, k3, k4, k5, k6, k7, k8, k9, k10, k11, k12, k13, k14, k15]
def interned : List (Array UInt16 × Addr) := []
def slotsUsed : Nat := 0
def theMethod : MethodId := ⟨1, 2⟩
def args0 : Array Value := #[.long 5, .int 7]
def aboutOver (below : List Frame) : State where
  vm := { classes := classes, interned := interned.toArray }
  heap := heap
  slotsUsed := slotsUsed
  threads := #[{ frames := .invoking theMethod args0 :: below }]
def below0 : List Frame := [.native { method := ⟨0, 0⟩, args := #[] }]
def about1 : State := aboutOver below0
def p0 : Program := .bare "" "" ""
def e0 : Env := launch0.env 0 0 0
theorem w_frames : about1.frames = Frame.invoking theMethod args0 :: below0 := rfl
set_option maxRecDepth 65536 in
theorem w_args : argsFit about1.vm theMethod args0 = true := by decide +kernel
set_option maxRecDepth 65536 in
theorem w_heap : heapFits about1 = true := by decide +kernel
set_option maxRecDepth 65536 in
theorem w_runnable : about1.curStatus? = some .runnable := by decide +kernel
set_option maxRecDepth 65536 in
theorem w_alone : about1.alone = true := by decide +kernel
set_option maxRecDepth 65536 in
theorem w_named : about1.methodNamed? x = some theMethod := by decide +kernel
set_option maxRecDepth 65536 in
theorem w_hears : about1.hears theMethod below0 = true := by decide +kernel
set_option maxRecDepth 65536 in
theorem w_ripe : about1.ripe theMethod args0 below0 = true := by decide +kernel
theorem w_running : about1.status = .running := rfl
set_option maxRecDepth 65536 in
theorem w_room : about1.hasRoom e0.platform room_1 = true :=
  launch0.hasRoom_least _ room_1 (by decide +kernel) (by decide +kernel) (by decide +kernel) (by decide +kernel) (by decide +kernel) (by decide +kernel)
theorem allAtoms_all (ts : List Jvm.Cond) (a : Array Jvm.Value) (st : Jvm.State) : (allAtoms ts).before a st = ts.all (fun c => c.before a st) := by
  induction ts with
  | nil => rfl
  | cons c t ih =>
    show (Jvm.Cond.and c (allAtoms t)).before a st = _
    rw [Jvm.Cond.before_and, ih, List.all_cons]
def words1 : List Jvm.Cond := Jvm.Cond.code x code maxLocals ret :: tables_1
/-- a 'code' word, met by the world's own term for the bytes: nothing is compared byte by byte -/
theorem code_word {y : MethodName} {bytes : ByteArray} {mx : Nat} {rt : Option FieldType} {a : Array Value} {s : State} {m : MethodId} {meth : Method} {c : Code} (h1 : s.methodNamed? y = some m) (h2 : s.vm.method? m = some meth) (h3 : meth.code = some c) (h4 : c.code = bytes)
    (h5 : (c.maxLocals == mx && c.exceptionTable.isEmpty && decide (c.maxStack ≤ mostOperands) && decide (meth.sig.returnType = rt) && !meth.locks && decide (parseMethodDescriptor y.desc = some meth.sig)) = true) : (Jvm.Cond.code y bytes mx rt).before a s = true := by
  simp only [Bool.and_eq_true, beq_iff_eq, Bool.not_eq_true', decide_eq_true_eq] at h5
  obtain ⟨⟨⟨⟨⟨g1, g2⟩, g3⟩, g4⟩, g5⟩, g6⟩ := h5
  simp [Cond.before, Cond.holds, Cond.value, h1, h2, h3, h4, g1, g2, g3, g4, g5, g6]
def isCode : Jvm.Cond → Bool
  | .code _ _ _ _ => true
  | _ => false
theorem all_split {L : List Jvm.Cond} {P : Jvm.Cond → Bool} (h1 : L.all (fun c => isCode c || P c) = true) (h2 : ∀ c ∈ L.filter isCode, P c = true) : L.all P = true := by
  refine List.all_eq_true.mpr fun c hc => ?_
  have h := List.all_eq_true.mp h1 c hc
  rcases Bool.eq_false_or_eq_true (isCode c) with hi | hi
  · exact h2 c (List.mem_filter.mpr ⟨hc, hi⟩)
  · simpa [hi] using h
set_option maxRecDepth 65536 in
theorem w_c0 : (Jvm.Cond.code x code maxLocals ret).before args0 about1 = true := code_word (m := ⟨1, 2⟩) (meth := k1m2) (c := k1c2) (by decide +kernel) rfl rfl rfl (by decide +kernel)
set_option maxRecDepth 65536 in
theorem w_c1 : (Jvm.Cond.code ({ cls := "com/example/observable_archive/observablearchive/core/Varints", name := "size", desc := "(J)I" } : Jvm.MethodName) prog_51_method_2_code (2 : Nat) (Option.some Jvm.ClassFile.FieldType.int)).before args0 about1 = true := code_word (m := ⟨2, 1⟩) (meth := k2m1) (c := k2c1) (by decide +kernel) rfl rfl rfl (by decide +kernel)
set_option maxRecDepth 65536 in
theorem w_c2 : (Jvm.Cond.code ({ cls := "java/lang/Long", name := "numberOfLeadingZeros", desc := "(J)I" } : Jvm.MethodName) jdk_35_method_48_code (3 : Nat) (Option.some Jvm.ClassFile.FieldType.int)).before args0 about1 = true := code_word (m := ⟨8, 0⟩) (meth := k8m0) (c := k8c0) (by decide +kernel) rfl rfl rfl (by decide +kernel)
set_option maxRecDepth 65536 in
theorem w_c3 : (Jvm.Cond.code ({ cls := "java/lang/Integer", name := "numberOfLeadingZeros", desc := "(I)I" } : Jvm.MethodName) jdk_33_method_47_code (2 : Nat) (Option.some Jvm.ClassFile.FieldType.int)).before args0 about1 = true := code_word (m := ⟨9, 0⟩) (meth := k9m0) (c := k9c0) (by decide +kernel) rfl rfl rfl (by decide +kernel)
set_option maxRecDepth 65536 in
theorem w_c4 : (Jvm.Cond.code ({ cls := "java/lang/Math", name := "max", desc := "(II)I" } : Jvm.MethodName) jdk_29_method_65_code (2 : Nat) (Option.some Jvm.ClassFile.FieldType.int)).before args0 about1 = true := code_word (m := ⟨10, 1⟩) (meth := k10m1) (c := k10c1) (by decide +kernel) rfl rfl rfl (by decide +kernel)
set_option maxRecDepth 65536 in
theorem w_c5 : (Jvm.Cond.code ({ cls := "com/example/observable_archive/observablearchive/core/VarintsSizePinLaw", name := "ref", desc := "(J)I" } : Jvm.MethodName) method_2_code (2 : Nat) (Option.some Jvm.ClassFile.FieldType.int)).before args0 about1 = true := code_word (m := ⟨1, 1⟩) (meth := k1m1) (c := k1c1) (by decide +kernel) rfl rfl rfl (by decide +kernel)
def codes1 : List Jvm.Cond := [Jvm.Cond.code x code maxLocals ret, Jvm.Cond.code ({ cls := "com/example/observable_archive/observablearchive/core/Varints", name := "size", desc := "(J)I" } : Jvm.MethodName) prog_51_method_2_code (2 : Nat) (Option.some Jvm.ClassFile.FieldType.int), Jvm.Cond.code ({ cls := "java/lang/Long", name := "numberOfLeadingZeros", desc := "(J)I" } : Jvm.MethodName) jdk_35_method_48_code (3 : Nat) (Option.some Jvm.ClassFile.FieldType.int), Jvm.Cond.code ({ cls := "java/lang/Integer", name := "numberOfLeadingZeros", desc := "(I)I" } : Jvm.MethodName) jdk_33_method_47_code (2 : Nat) (Option.some Jvm.ClassFile.FieldType.int), Jvm.Cond.code ({ cls := "java/lang/Math", name := "max", desc := "(II)I" } : Jvm.MethodName) jdk_29_method_65_code (2 : Nat) (Option.some Jvm.ClassFile.FieldType.int), Jvm.Cond.code ({ cls := "com/example/observable_archive/observablearchive/core/VarintsSizePinLaw", name := "ref", desc := "(J)I" } : Jvm.MethodName) method_2_code (2 : Nat) (Option.some Jvm.ClassFile.FieldType.int)]
set_option maxRecDepth 65536 in
theorem codes_eq : words1.filter isCode = codes1 := rfl
theorem w_codes : ∀ c ∈ words1.filter isCode, c.before args0 about1 = true := by
  rw [codes_eq]
  intro c hc
  simp only [codes1, List.mem_cons, List.not_mem_nil, or_false] at hc
  rcases hc with rfl | rfl | rfl | rfl | rfl | rfl
  · exact w_c0
  · exact w_c1
  · exact w_c2
  · exact w_c3
  · exact w_c4
  · exact w_c5
set_option maxRecDepth 65536 in
theorem w_t1 : words1.all (fun c => isCode c || c.before args0 about1) = true := by decide +kernel
theorem w_tables : (allAtoms (Jvm.Cond.code x code maxLocals ret :: tables_1)).before args0 about1 = true := by
  rw [allAtoms_all]
  show words1.all (fun c => c.before args0 about1) = true
  refine all_split ?_ w_codes
  rw [w_t1]
set_option maxRecDepth 65536 in
theorem w_case : (Jvm.Cond.and given_1 narrow_1).before args0 about1 = true := by decide +kernel
theorem w_applies : (headSpec (Jvm.Cond.code x code maxLocals ret :: tables_1) room_1).applies x e0.platform about1 = true :=
  (Spec.applies_iff w_frames).mpr ⟨w_running, w_runnable, w_alone, w_named, w_hears, w_ripe, w_room, w_tables⟩
theorem atStart : AtStart classFile x code maxLocals ret World_1 tables_1 room_1 Calls_1 rest_1 Pre_1 launch0 p0 e0 about1 theMethod args0 below0 :=
  ⟨lists_1, trivial, launch0.admits_env _ _ _, launch0.least_env, fairChoices_fair.cas, fairChoices_fair.clock, w_frames, w_args, w_heap, w_applies, trivial, trivial, w_case⟩
end start1
theorem witness_1 : WitnessClaimed_1 := ⟨start1.p0, start1.e0, start1.about1, start1.theMethod, start1.args0, start1.below0, start1.atStart⟩
end Jvm.Pilot.@@N@@
