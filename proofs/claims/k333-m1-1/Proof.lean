import JvmDerived
import JvmDerived.Pilot.@@N@@Statement
import JvmDerived.Pilot.@@N@@Code
set_option linter.unusedVariables false
set_option linter.unusedSimpArgs false
namespace Jvm.Pilot.@@N@@
open Jvm Jvm.ClassFile Sem Op Lib Jvm.Free Jvm.Stand Jvm.LawKit Jvm.RoadKit Bundle Jvm.Pilot.@@N@@.Jvm.D
section Own
variable {p : Program} {l : Launch} {e : Env} {R : Room} {s : State} {m : MethodId} {args : Array Value} {below : List Frame} {meth : Method} {c : Code} {T : State} {locs : List Loc} {cells slots : Nat} {Z : State} {a0 : Array Value} {h h' : Heap} {rc rs : Nat} {Q Qc : Option Value → Heap → List Loc → Prop}
/-- from here the run comes to its end, and leaves what Q says -/
def GG (p : Program) (e : Env) (below : List Frame) (s : State) (rc rs : Nat) (Q : Option Value → Heap → List Loc → Prop) (T : State) (g : JFrame) : Prop :=
  ∃ s₂ o, Steps p.tables e below (T.setTop g) s₂ ∧ s₂.status = .running ∧ Ended s₂ below o ∧ ∃ v L, o = .returned v ∧ Q v s₂.heap L ∧ FrameEnd s o s₂ L rc rs
theorem own_go {T' : State} {g g' : JFrame} (st : ∀ t, Steps p.tables e below (T'.setTop g') t → Steps p.tables e below (T.setTop g) t) (k : GG p e below s rc rs Q T' g') : GG p e below s rc rs Q T g := by
  obtain ⟨s₂, o, h1, h2⟩ := k
  exact ⟨s₂, o, st _ h1, h2⟩
theorem own_in {g g' : JFrame} (q : g = g') (k : GG p e below s rc rs Q T g') : GG p e below s rc rs Q T g := q ▸ k
theorem own_if {g1 g2 : JFrame} {P : Prop} [Decidable P] (k1 : P → GG p e below s rc rs Q T g1) (k2 : ¬ P → GG p e below s rc rs Q T g2) : GG p e below s rc rs Q T (if P then g1 else g2) := by
  by_cases q : P
  · rw [if_pos q]; exact k1 q
  · rw [if_neg q]; exact k2 q
theorem own_join {g g' : JFrame} (k1 : GG p e below s rc rs Q T g' → GG p e below s rc rs Q T g) (k2 : GG p e below s rc rs Q T g') : GG p e below s rc rs Q T g := k1 k2
abbrev own_CT (l : Launch) (Z : State) (y : MethodName) (bytes : ByteArray) (maxL : Nat) (ret : Option FieldType) (ws : List Jvm.Cond) (rm : Room) (as : Array Value) (h : Heap) (Qc : Option Value → Heap → List Loc → Prop) : Prop :=
  MetFree l y (head1 (Jvm.Cond.code y bytes maxL ret :: ws) rm) (fun a U => a = as ∧ Z.Warmed39 U.vm ∧ U.heap = h) (fun _ _ _ _ _ => True) (fun _ U o U' => ∃ v L, o = .returned v ∧ Qc v U'.heap L ∧ FrameEnd U o U' L rm.cells rm.slots)
theorem own_callS (X : Stand p l e R s m args below meth c T locs cells slots) (hx : p.tables.exec = Jvm.exec) (hZ : Z.Warmed39 s.vm) {own : String} {index : Nat} {y : MethodName} {bytes : ByteArray} {maxL : Nat} {ret : Option FieldType} {rm : Room} (W : Nat)
    (hown : s.vm.findClass own = some m.cls) (w1 : (Jvm.Cond.methodLink own index y).before a0 Z = true) (w2 : (Jvm.Cond.static y).before a0 Z = true) (w3 : (Jvm.Cond.initialized y.cls).before a0 Z = true) (w4 : (Jvm.Cond.code y bytes maxL ret).before a0 Z = true)
    (hy : y.cls ≠ "java/lang/invoke/MethodHandle" ∧ y.cls ≠ "java/lang/invoke/VarHandle") {argsL rest : List Value} (hM : own_CT l Z y bytes maxL ret [] rm argsL.toArray h Qc)
    (hf : rm.frames + 1 ≤ R.frames) (hl : W + (maxL + 11) + rm.locals ≤ R.locals) (hc : cells + rm.cells ≤ R.cells) (hs : slots + rm.slots ≤ R.slots)
    {g : JFrame} (hg : g.method = m) (hsize : g.locals.size = c.maxLocals) (hlen : ∀ sig, parseMethodDescriptor y.desc = some sig → argsL.length = sig.parameters.length) (hstack : g.stack = argsL.reverse ++ rest) (hW : 2 * g.monitorRoom + (rest.map fun v => v.category).sum ≤ W)
    (hdg : decode c.code g.pc = .ok (.invokestatic index, 3)) (eT : T.heap = h)
    (k : ∀ (v : Option Value) (T' : State) (L : List Loc), Stand p l e R s m args below meth c T' (locs ++ L) (cells + rm.cells) (slots + rm.slots) → Qc v T'.heap L → GG p e below s rc rs Q T' { g with pc := g.pc + 3, stack := v.toList ++ rest }) : GG p e below s rc rs Q T g := by
  obtain ⟨v, vm₁, ⟨T', L', k', n'⟩, -, X', ⟨L, hQ, q1, q2, q3⟩, st⟩ := Jvm.LawKit.callS X hx hown (mvT hZ w1) (mvT hZ w2) (mvT hZ w3) (mvT hZ w4) hy (backOf (W := W) hM hZ w4 w3 hf hl) hg hsize hlen hstack hW hdg (fun _ _ => ⟨rfl, eT, hc, hs⟩)
  dsimp only [Pt.U, Pt.locs, Pt.cells, Pt.slots] at X' q1 q2 q3 st hQ
  subst q1 q2 q3
  exact own_go st (k v T' L X' hQ)
theorem own_callI (X : Stand p l e R s m args below meth c T locs cells slots) (hx : p.tables.exec = Jvm.exec) (hZ : Z.Warmed39 s.vm) {own : String} {index : Nat} {y : MethodName} {bytes : ByteArray} {maxL : Nat} {rm : Room} (W : Nat) (hy1 : y.name = "<init>")
    (hown : s.vm.findClass own = some m.cls) (w1 : (Jvm.Cond.methodLink own index y).before a0 Z = true) (w2 : (Jvm.Cond.instanceMethod y).before a0 Z = true) (w3 : (Jvm.Cond.initialized y.cls).before a0 Z = true) (w4 : (Jvm.Cond.code y bytes maxL none).before a0 Z = true)
    (hy : y.cls ≠ "java/lang/invoke/MethodHandle" ∧ y.cls ≠ "java/lang/invoke/VarHandle") {a : Addr} {argsL rest : List Value} (hM : own_CT l Z y bytes maxL none [] rm (.ref a :: argsL).toArray h Qc)
    (hf : rm.frames + 1 ≤ R.frames) (hl : W + (maxL + 11) + rm.locals ≤ R.locals) (hc : cells + rm.cells ≤ R.cells) (hs : slots + rm.slots ≤ R.slots)
    {g : JFrame} (hg : g.method = m) (hsize : g.locals.size = c.maxLocals) (hlen : ∀ sig, parseMethodDescriptor y.desc = some sig → argsL.length = sig.parameters.length) (hstack : g.stack = argsL.reverse ++ .ref a :: rest) (hW : 2 * g.monitorRoom + (rest.map fun v => v.category).sum ≤ W)
    (hdg : decode c.code g.pc = .ok (.invokespecial index, 3)) (eT : T.heap = h)
    (k : ∀ (v : Option Value) (T' : State) (L : List Loc), Stand p l e R s m args below meth c T' (locs ++ L) (cells + rm.cells) (slots + rm.slots) → Qc v T'.heap L → GG p e below s rc rs Q T' { g with pc := g.pc + 3, stack := v.toList ++ rest }) : GG p e below s rc rs Q T g := by
  obtain ⟨v, vm₁, ⟨T', L', k', n'⟩, -, X', ⟨L, hQ, q1, q2, q3⟩, st⟩ := X.specialBack hx hy1 hown (mvT hZ w1) (mvT hZ w2) (mvT hZ w4) hy (backOf (W := W) hM hZ w4 w3 hf hl) hg hsize (Steps.refl _) hlen hstack hW hdg (fun _ _ => ⟨rfl, eT, hc, hs⟩)
  dsimp only [Pt.U, Pt.locs, Pt.cells, Pt.slots] at X' q1 q2 q3 st hQ
  subst q1 q2 q3
  exact own_go (fun _ => st.trans) (k v T' L X' hQ)
theorem own_callV (X : Stand p l e R s m args below meth c T locs cells slots) (hx : p.tables.exec = Jvm.exec) (hZ : Z.Warmed39 s.vm) {own C : String} {index : Nat} {y z : MethodName} {bytes : ByteArray} {maxL : Nat} {ret : Option FieldType} {rm : Room} (W : Nat)
    (hown : s.vm.findClass own = some m.cls) (w1 : (Jvm.Cond.methodLink own index y).before a0 Z = true) (w2 : (Jvm.Cond.declares y).before a0 Z = true) (hnf : NotFace s y) (w5 : (Jvm.Cond.selects C y z).before a0 Z = true) (w6 : (Jvm.Cond.instanceMethod z).before a0 Z = true) (w3 : (Jvm.Cond.initialized z.cls).before a0 Z = true) (w4 : (Jvm.Cond.code z bytes maxL ret).before a0 Z = true)
    (hy : y.cls ≠ "java/lang/invoke/MethodHandle" ∧ y.cls ≠ "java/lang/invoke/VarHandle") {a : Addr} {argsL rest : List Value} (hM : own_CT l Z z bytes maxL ret [] rm (.ref a :: argsL).toArray h Qc)
    (hf : rm.frames + 1 ≤ R.frames) (hl : W + (maxL + 11) + rm.locals ≤ R.locals) (hc : cells + rm.cells ≤ R.cells) (hs : slots + rm.slots ≤ R.slots) (E : Exa Z h a C)
    {g : JFrame} (hg : g.method = m) (hsize : g.locals.size = c.maxLocals) (hlen : ∀ sig, parseMethodDescriptor y.desc = some sig → argsL.length = sig.parameters.length) (hstack : g.stack = argsL.reverse ++ .ref a :: rest) (hW : 2 * g.monitorRoom + (rest.map fun v => v.category).sum ≤ W)
    (hdg : decode c.code g.pc = .ok (.invokevirtual index, 3)) (eT : T.heap = h)
    (k : ∀ (v : Option Value) (T' : State) (L : List Loc), Stand p l e R s m args below meth c T' (locs ++ L) (cells + rm.cells) (slots + rm.slots) → Qc v T'.heap L → GG p e below s rc rs Q T' { g with pc := g.pc + 3, stack := v.toList ++ rest }) : GG p e below s rc rs Q T g := by
  obtain ⟨cq, kq, qa, qb, qc⟩ := isOf hZ eT E
  obtain ⟨v, vm₁, ⟨T', L', k', n'⟩, -, X', ⟨L, hQ, q1, q2, q3⟩, st⟩ := X.virtualBack hx hown (mvT hZ w1) (mvT hZ w2) hnf (mvT hZ w5) (mvT hZ w6) hy (backOf (W := W) hM hZ w4 w3 hf hl) qa qc hg hsize (Steps.refl _) hlen hstack hW hdg (fun _ _ => ⟨rfl, eT, hc, hs⟩)
  dsimp only [Pt.U, Pt.locs, Pt.cells, Pt.slots] at X' q1 q2 q3 st hQ
  subst q1 q2 q3
  exact own_go (fun _ => st.trans) (k v T' L X' hQ)
theorem own_callP (X : Stand p l e R s m args below meth c T locs cells slots) (hx : p.tables.exec = Jvm.exec) (hZ : Z.Warmed39 s.vm) {own C : String} {index : Nat} {y : MethodName} {bytes : ByteArray} {maxL : Nat} {ret : Option FieldType} {rm : Room} (W : Nat)
    (hown : s.vm.findClass own = some m.cls) (w1 : (Jvm.Cond.methodLink own index y).before a0 Z = true) (w2 : (Jvm.Cond.instanceMethod y).before a0 Z = true) {kk : Nat} (w5 : (Jvm.Cond.instantiable y.cls kk).before a0 Z = true) (w6 : (Jvm.Cond.privateMethod y).before a0 Z = true) (w3 : (Jvm.Cond.initialized y.cls).before a0 Z = true) (w4 : (Jvm.Cond.code y bytes maxL ret).before a0 Z = true)
    (hy : y.cls ≠ "java/lang/invoke/MethodHandle" ∧ y.cls ≠ "java/lang/invoke/VarHandle") {a : Addr} {argsL rest : List Value} (hM : own_CT l Z y bytes maxL ret [] rm (.ref a :: argsL).toArray h Qc)
    (hf : rm.frames + 1 ≤ R.frames) (hl : W + (maxL + 11) + rm.locals ≤ R.locals) (hc : cells + rm.cells ≤ R.cells) (hs : slots + rm.slots ≤ R.slots) (E : Exa Z h a C)
    {g : JFrame} (hg : g.method = m) (hsize : g.locals.size = c.maxLocals) (hlen : ∀ sig, parseMethodDescriptor y.desc = some sig → argsL.length = sig.parameters.length) (hstack : g.stack = argsL.reverse ++ .ref a :: rest) (hW : 2 * g.monitorRoom + (rest.map fun v => v.category).sum ≤ W)
    (hdg : decode c.code g.pc = .ok (.invokevirtual index, 3)) (eT : T.heap = h)
    (k : ∀ (v : Option Value) (T' : State) (L : List Loc), Stand p l e R s m args below meth c T' (locs ++ L) (cells + rm.cells) (slots + rm.slots) → Qc v T'.heap L → GG p e below s rc rs Q T' { g with pc := g.pc + 3, stack := v.toList ++ rest }) : GG p e below s rc rs Q T g := by
  obtain ⟨cq, q, q'⟩ := E.cell
  have hpr : s.PrivateAt y := Cond.privateMethod_at (mvP hZ w6 (args := #[]))
  obtain ⟨c1, k1, i1, i2, -, i4, -⟩ := Cond.instantiable_spec (show (Jvm.Cond.instantiable y.cls kk).before args s = true from mv hZ w5)
  have hsel : (Jvm.Cond.selects y.cls y y).before args s = true := selects_self_of_private i1 i2 (Bool.or_eq_false_iff.mp i4).1 hpr (mvT hZ w2) hy
  obtain ⟨v, vm₁, ⟨T', L', k', n'⟩, -, X', ⟨L, hQ, q1, q2, q3⟩, st⟩ := X.privateBack hx hown (mvT hZ w1) (mvT hZ w2) hsel hpr (mvT hZ w4) hy (backOf (W := W) hM hZ w4 w3 hf hl) hg hsize (Steps.refl _) (by rw [eT]; exact q) q' hlen hstack hW hdg (fun _ _ => ⟨rfl, eT, hc, hs⟩)
  dsimp only [Pt.U, Pt.locs, Pt.cells, Pt.slots] at X' q1 q2 q3 st hQ
  subst q1 q2 q3
  exact own_go (fun _ => st.trans) (k v T' L X' hQ)
theorem own_ret (X : Stand p l e R s m args below meth c T locs cells slots) (hx : p.tables.exec = Jvm.exec) (hlk : meth.locks = false) {t : FieldType} {w : Value} {i : Instr} {pc : Nat} {Ls : Array Slot} {rest : List Value} (hret : meth.sig.returnType = some t) (hn : narrow t w = w)
    (hi : (i = .ireturn ∧ (t = .int ∨ t = .boolean ∨ t = .byte ∨ t = .char ∨ t = .short) ∧ ∃ z, w = .int z) ∨ (i = .lreturn ∧ t = .long ∧ ∃ z, w = .long z) ∨ (i = .dreturn ∧ t = .double ∧ ∃ z, w = .double z) ∨ (i = .freturn ∧ t = .float ∧ ∃ z, w = .float z) ∨ (i = .areturn ∧ t.isReference = true ∧ w.isRef = true))
    (hd : decode c.code pc = .ok (i, 1)) (hc : cells ≤ rc) (hs : slots ≤ rs) (hQ : Q (some w) T.heap locs) : GG p e below s rc rs Q T (mkF m pc Ls (w :: rest)) := by
  obtain ⟨fs, hr, hrun, hended, hW, hsame⟩ := X.leave (v := some w) (fun h => by rw [hret] at h; cases h) hlk
  exact ⟨_, _, retOut X hx hret hn hi hd hr, hrun, hended, _, _, rfl, hQ, ⟨_, rfl⟩, hW, hsame.mono hc hs⟩
theorem own_retV (X : Stand p l e R s m args below meth c T locs cells slots) (hx : p.tables.exec = Jvm.exec) (hlk : meth.locks = false) {pc : Nat} {Ls : Array Slot} (hret : meth.sig.returnType = none)
    (hd : decode c.code pc = .ok (.return_, 1)) (hc : cells ≤ rc) (hs : slots ≤ rs) (hQ : Q none T.heap locs) : GG p e below s rc rs Q T (mkF m pc Ls []) := by
  obtain ⟨fs, hr, hrun, hended, hW, hsame⟩ := X.leave (v := none) (fun _ => rfl) hlk
  exact ⟨_, _, X.returnOut hx hret hd hr, hrun, hended, _, _, rfl, hQ, ⟨_, rfl⟩, hW, hsame.mono hc hs⟩
theorem own_nZ {P : Prop} [Decidable P] : narrow .boolean (.int (if P then 1 else 0)) = .int (if P then 1 else 0) := by split <;> rfl
/-- an array of values, all of them named -/
def Arx (Z : State) (h : Heap) (a : Addr) (ty : FieldType) (vs : List Value) : Prop := vs.length < 2 ^ 31 ∧ ∃ k dv, Arv Z h a k ty (Int32.ofNat vs.length) vs dv
variable {a b : Addr} {ty : FieldType} {vs : List Value}
theorem own_ofNat {n : Nat} (q : n < 2 ^ 31) : (Int32.ofNat n).toInt = n := Int32.toInt_ofNat_of_lt q
theorem own_clamp {n : Nat} (q : n < 2 ^ 31) : (Int32.ofNat n).toNatClampNeg = n := by simp only [Int32.toNatClampNeg, own_ofNat q]; rfl
theorem Arx.lt (V : Arx Z h a ty vs) : a < h.size := by obtain ⟨_, k, dv, V⟩ := V; exact V.lt
theorem Arx.ext (V : Arx Z h a ty vs) (E : Ext h h') : Arx Z h' a ty vs := by obtain ⟨q, k, dv, V⟩ := V; exact ⟨q, k, dv, V.ext E⟩
theorem Arx.other {sl : Nat} {v : Value} (V : Arx Z h b ty vs) (W : Wr h h' a sl v) (n : b ≠ a) : Arx Z h' b ty vs := by obtain ⟨q, k, dv, V⟩ := V; exact ⟨q, k, dv, V.other W n⟩
theorem Arx.keep {ws : List Addr} (V : Arx Z h a ty vs) (K : Keep h h' ws) (n : a ∉ ws) : Arx Z h' a ty vs := by obtain ⟨q, k, dv, V⟩ := V; exact ⟨q, k, dv, V.keep K n⟩
theorem Arx.open {j : Int32} {v : Value} (V : Arx Z h a ty vs) (h0 : ¬ j < 0) (hv : vs[j.toNatClampNeg]? = some v) : ∃ cl, Arr Z h a cl ty ∧ ¬ (j < 0 ∨ cl.slots.size ≤ j.toNatClampNeg) ∧ cl.slots[j.toNatClampNeg]? = some v := by
  obtain ⟨q, k, dv, cl, A, -, S, -, H, -⟩ := V
  rw [own_clamp q] at S
  have hl := (List.getElem?_eq_some_iff.mp hv).1
  have e := H j.toNatClampNeg (by rw [S]; exact hl)
  rw [List.getD_eq_getElem?_getD, hv] at e
  exact ⟨cl, A, fun q' => q'.elim h0 (by rw [S]; exact Nat.not_le.mpr hl), e⟩
theorem own_len (X : Stand p l e R s m args below meth c T locs cells slots) (hx : p.tables.exec = Jvm.exec) (hZ : Z.Warmed39 s.vm) (eT : T.heap = h) (V : Arx Z h a ty vs) {g : JFrame} (hg : g.method = m) {rest : List Value} (hs : g.stack = .ref a :: rest) (hd : decode c.code g.pc = .ok (.arraylength, 1)) :
    ∀ t, Steps p.tables e below (T.setTop { g with pc := g.pc + 1, stack := .int (Int32.ofNat vs.length) :: rest }) t → Steps p.tables e below (T.setTop g) t := fun t k => by
  obtain ⟨q, k', dv, cl, A, -, S, N, -⟩ := V
  refine X.arraylength hx (by rw [eT]; exact A.1) (State.isArrayOf_alike hZ.alike A.2.1) hg hs hd _ ?_
  rw [len_of S N]; exact k
theorem own_iaload (X : Stand p l e R s m args below meth c T locs cells slots) (hx : p.tables.exec = Jvm.exec) (hZ : Z.Warmed39 s.vm) (eT : T.heap = h) (V : Arx Z h a .int vs) {j : Int32} {v : Value} (h0 : ¬ j < 0) (hv : vs[j.toNatClampNeg]? = some v) {g : JFrame} (hg : g.method = m) {rest : List Value} (hs : g.stack = .int j :: .ref a :: rest) (hd : decode c.code g.pc = .ok (.iaload, 1)) :
    ∀ t, Steps p.tables e below (T.setTop { g with pc := g.pc + 1, stack := v :: rest }) t → Steps p.tables e below (T.setTop g) t := fun t k => by
  obtain ⟨cl, A, h1, h2⟩ := V.open h0 hv
  exact X.iaload hx (by rw [eT]; exact A.1) (State.isArrayOf_alike hZ.alike A.2.1) A.2.2 h1 h2 hg hs hd _ k
theorem own_laload (X : Stand p l e R s m args below meth c T locs cells slots) (hx : p.tables.exec = Jvm.exec) (hZ : Z.Warmed39 s.vm) (eT : T.heap = h) (V : Arx Z h a .long vs) {j : Int32} {v : Value} (h0 : ¬ j < 0) (hv : vs[j.toNatClampNeg]? = some v) {g : JFrame} (hg : g.method = m) {rest : List Value} (hs : g.stack = .int j :: .ref a :: rest) (hd : decode c.code g.pc = .ok (.laload, 1)) :
    ∀ t, Steps p.tables e below (T.setTop { g with pc := g.pc + 1, stack := v :: rest }) t → Steps p.tables e below (T.setTop g) t := fun t k => by
  obtain ⟨cl, A, h1, h2⟩ := V.open h0 hv
  exact X.laload hx (by rw [eT]; exact A.1) (State.isArrayOf_alike hZ.alike A.2.1) A.2.2 h1 h2 hg hs hd _ k
theorem own_caload (X : Stand p l e R s m args below meth c T locs cells slots) (hx : p.tables.exec = Jvm.exec) (hZ : Z.Warmed39 s.vm) (eT : T.heap = h) (V : Arx Z h a .char vs) {j : Int32} {v : Value} (h0 : ¬ j < 0) (hv : vs[j.toNatClampNeg]? = some v) {g : JFrame} (hg : g.method = m) {rest : List Value} (hs : g.stack = .int j :: .ref a :: rest) (hd : decode c.code g.pc = .ok (.caload, 1)) :
    ∀ t, Steps p.tables e below (T.setTop { g with pc := g.pc + 1, stack := v :: rest }) t → Steps p.tables e below (T.setTop g) t := fun t k => by
  obtain ⟨cl, A, h1, h2⟩ := V.open h0 hv
  exact X.caload hx (by rw [eT]; exact A.1) (State.isArrayOf_alike hZ.alike A.2.1) A.2.2 h1 h2 hg hs hd _ k
theorem own_baload (X : Stand p l e R s m args below meth c T locs cells slots) (hx : p.tables.exec = Jvm.exec) (hZ : Z.Warmed39 s.vm) (eT : T.heap = h) (V : Arx Z h a .byte vs) {j : Int32} {v : Value} (h0 : ¬ j < 0) (hv : vs[j.toNatClampNeg]? = some v) {g : JFrame} (hg : g.method = m) {rest : List Value} (hs : g.stack = .int j :: .ref a :: rest) (hd : decode c.code g.pc = .ok (.baload, 1)) :
    ∀ t, Steps p.tables e below (T.setTop { g with pc := g.pc + 1, stack := v :: rest }) t → Steps p.tables e below (T.setTop g) t := fun t k => by
  obtain ⟨cl, A, h1, h2⟩ := V.open h0 hv
  exact X.baloadBytes hx (by rw [eT]; exact A.1) (State.isArrayOf_alike hZ.alike A.2.1) A.2.2 h1 h2 hg hs hd _ k
theorem own_aaload (X : Stand p l e R s m args below meth c T locs cells slots) (hx : p.tables.exec = Jvm.exec) (hZ : Z.Warmed39 s.vm) (eT : T.heap = h) (V : Arx Z h a ty vs) (ht : ty.isReference = true) {j : Int32} {v : Value} (h0 : ¬ j < 0) (hv : vs[j.toNatClampNeg]? = some v) {g : JFrame} (hg : g.method = m) {rest : List Value} (hs : g.stack = .int j :: .ref a :: rest) (hd : decode c.code g.pc = .ok (.aaload, 1)) :
    ∀ t, Steps p.tables e below (T.setTop { g with pc := g.pc + 1, stack := v :: rest }) t → Steps p.tables e below (T.setTop g) t := fun t k => by
  obtain ⟨cl, A, h1, h2⟩ := V.open h0 hv
  exact X.aaload hx (by rw [eT]; exact A.1) (State.isArrayOf_alike hZ.alike A.2.1) ht A.2.2 h1 h2 hg hs hd _ k
theorem Arx.put {j : Int32} {v : Value} (V : Arx Z h a ty vs) (h0 : ¬ j < 0) (hj : j.toNatClampNeg < vs.length) (hv : fits ty v = true) : ∃ cl, Arr Z h a cl ty ∧ ¬ (j < 0 ∨ cl.slots.size ≤ j.toNatClampNeg) ∧ ∀ {h' : Heap}, Wr h h' a j.toNatClampNeg v → Arx Z h' a ty (vs.set j.toNatClampNeg v) := by
  obtain ⟨q, k, dv, cl, A, q1, S, N, H, G⟩ := V
  refine ⟨cl, A, fun q' => q'.elim h0 ?_, fun W => ⟨by rw [List.length_set]; exact q, k, dv, ?_⟩⟩
  · rw [S, own_clamp q]; exact Nat.not_le.mpr hj
  · rw [List.length_set]; exact Arv.set A q1 S N H G hv W _ rfl hj
theorem own_iastore (X : Stand p l e R s m args below meth c T locs cells slots) (hx : p.tables.exec = Jvm.exec) (hZ : Z.Warmed39 s.vm) (eT : T.heap = h) (V : Arx Z h a .int vs) {j x : Int32} (h0 : ¬ j < 0) (hj : j.toNatClampNeg < vs.length) {g : JFrame} (hg : g.method = m) {rest : List Value} (hs : g.stack = .int x :: .int j :: .ref a :: rest) (hd : decode c.code g.pc = .ok (.iastore, 1)) :
    ∃ T' h', Stand p l e R s m args below meth c T' (locs ++ [⟨a, j.toNatClampNeg⟩]) cells slots ∧ T'.heap = h' ∧ Wr h h' a j.toNatClampNeg (.int x) ∧ Arx Z h' a .int (vs.set j.toNatClampNeg (.int x)) ∧ ∀ t, Steps p.tables e below (T'.setTop { g with pc := g.pc + 1, stack := rest }) t → Steps p.tables e below (T.setTop g) t := by
  obtain ⟨cl, A, h1, h2⟩ := V.put (v := .int x) h0 hj rfl
  obtain ⟨T', h', X', e', W, st⟩ := stI X hx hZ eT A h1 hg hs hd
  exact ⟨T', h', X', e', W, h2 W, st⟩
theorem own_lastore (X : Stand p l e R s m args below meth c T locs cells slots) (hx : p.tables.exec = Jvm.exec) (hZ : Z.Warmed39 s.vm) (eT : T.heap = h) (V : Arx Z h a .long vs) {j : Int32} {x : Int64} (h0 : ¬ j < 0) (hj : j.toNatClampNeg < vs.length) {g : JFrame} (hg : g.method = m) {rest : List Value} (hs : g.stack = .long x :: .int j :: .ref a :: rest) (hd : decode c.code g.pc = .ok (.lastore, 1)) :
    ∃ T' h', Stand p l e R s m args below meth c T' (locs ++ [⟨a, j.toNatClampNeg⟩]) cells slots ∧ T'.heap = h' ∧ Wr h h' a j.toNatClampNeg (.long x) ∧ Arx Z h' a .long (vs.set j.toNatClampNeg (.long x)) ∧ ∀ t, Steps p.tables e below (T'.setTop { g with pc := g.pc + 1, stack := rest }) t → Steps p.tables e below (T.setTop g) t := by
  obtain ⟨cl, A, h1, h2⟩ := V.put (v := .long x) h0 hj rfl
  obtain ⟨T', h', X', e', W, st⟩ := stJ X hx hZ eT A h1 hg hs hd
  exact ⟨T', h', X', e', W, h2 W, st⟩
theorem own_castore (X : Stand p l e R s m args below meth c T locs cells slots) (hx : p.tables.exec = Jvm.exec) (hZ : Z.Warmed39 s.vm) (eT : T.heap = h) (V : Arx Z h a .char vs) {j x : Int32} (h0 : ¬ j < 0) (hj : j.toNatClampNeg < vs.length) {g : JFrame} (hg : g.method = m) {rest : List Value} (hs : g.stack = .int x :: .int j :: .ref a :: rest) (hd : decode c.code g.pc = .ok (.castore, 1)) :
    ∃ T' h', Stand p l e R s m args below meth c T' (locs ++ [⟨a, j.toNatClampNeg⟩]) cells slots ∧ T'.heap = h' ∧ Wr h h' a j.toNatClampNeg (.int (nar .char x)) ∧ Arx Z h' a .char (vs.set j.toNatClampNeg (.int (nar .char x))) ∧ ∀ t, Steps p.tables e below (T'.setTop { g with pc := g.pc + 1, stack := rest }) t → Steps p.tables e below (T.setTop g) t := by
  obtain ⟨cl, A, h1, h2⟩ := V.put (v := .int (nar .char x)) h0 hj (fits_nar_char _)
  obtain ⟨T', h', X', e', W, st⟩ := stC X hx hZ eT A h1 hg hs hd
  exact ⟨T', h', X', e', W, h2 W, st⟩
theorem own_bastore (X : Stand p l e R s m args below meth c T locs cells slots) (hx : p.tables.exec = Jvm.exec) (hZ : Z.Warmed39 s.vm) (eT : T.heap = h) (V : Arx Z h a .byte vs) {j x : Int32} (h0 : ¬ j < 0) (hj : j.toNatClampNeg < vs.length) {g : JFrame} (hg : g.method = m) {rest : List Value} (hs : g.stack = .int x :: .int j :: .ref a :: rest) (hd : decode c.code g.pc = .ok (.bastore, 1)) :
    ∃ T' h', Stand p l e R s m args below meth c T' (locs ++ [⟨a, j.toNatClampNeg⟩]) cells slots ∧ T'.heap = h' ∧ Wr h h' a j.toNatClampNeg (.int (nar .byte x)) ∧ Arx Z h' a .byte (vs.set j.toNatClampNeg (.int (nar .byte x))) ∧ ∀ t, Steps p.tables e below (T'.setTop { g with pc := g.pc + 1, stack := rest }) t → Steps p.tables e below (T.setTop g) t := by
  obtain ⟨cl, A, h1, h2⟩ := V.put (v := .int (nar .byte x)) h0 hj (fits_nar_byte _)
  obtain ⟨T', h', X', e', W, st⟩ := stB X hx hZ eT A h1 hg hs hd
  exact ⟨T', h', X', e', W, h2 W, st⟩
theorem own_newarr (X : Stand p l e R s m args below meth c T locs cells slots) (hx : p.tables.exec = Jvm.exec) (hZ : Z.Warmed39 s.vm) {aty : ArrayType} (w : (Jvm.Cond.arrayClass (newarray.typeOf aty)).before a0 Z = true) (eT : T.heap = h) {g : JFrame} (hg : g.method = m) (hd : decode c.code g.pc = .ok (.newarray aty, 2)) {n : Int32} {rest : List Value} (hs : g.stack = .int n :: rest)
    (hn : ¬ n < 0) {cap : Nat} (hcap : n.toNatClampNeg ≤ cap) (hb : cap * 8 ≤ 536870912) (hc : cells + 1 ≤ R.cells) (hl : slots + cap ≤ R.slots) {ad : String} (had : "[" ++ (newarray.typeOf aty).toString = ad) :
    ∃ T' h' a, a = h.size ∧ Stand p l e R s m args below meth c T' locs (cells + 1) (slots + cap) ∧ T'.heap = h' ∧ Ext h h' ∧ Arx Z h' a (newarray.typeOf aty) (List.replicate n.toNatClampNeg (defaultValue (newarray.typeOf aty))) ∧ Exa Z h' a ad ∧
      ∀ t, Steps p.tables e below (T'.setTop { g with pc := g.pc + 2, stack := .ref a :: rest }) t → Steps p.tables e below (T.setTop g) t := by
  obtain ⟨T', h', cA, X', e', E, A, Ex, st⟩ := newPE X hx hZ w eT hg hd hs hn hcap hb hc hl had
  have b := back32 hn
  refine ⟨T', h', _, rfl, X', e', E, ⟨by rw [List.length_replicate]; exact b.2, cA, defaultValue (newarray.typeOf aty), ?_⟩, Ex, st⟩
  rw [List.length_replicate, show Int32.ofNat n.toNatClampNeg = n from b.1]
  exact (Arv.new A hn).pad (pad_rep [] _ _)
theorem own_clone (X : Stand p l e R s m args below meth c T locs cells slots) (hx : p.tables.exec = Jvm.exec) (hZ : Z.Warmed39 s.vm) {own ad : String} {index : Nat} (hown : s.vm.findClass own = some m.cls)
    (w1 : (Jvm.Cond.methodLink own index ⟨ad, "clone", "()Ljava/lang/Object;"⟩).before a0 Z = true) (w2 : (Jvm.Cond.sameMethod ad "java/lang/Object" "clone" "()Ljava/lang/Object;").before a0 Z = true) (w3 : (Jvm.Cond.native ⟨"java/lang/Object", "clone", "()Ljava/lang/Object;"⟩).before a0 Z = true)
    (w4 : (Jvm.Cond.instanceMethod ⟨"java/lang/Object", "clone", "()Ljava/lang/Object;"⟩).before a0 Z = true) (w5 : (Jvm.Cond.selects ad ⟨ad, "clone", "()Ljava/lang/Object;"⟩ ⟨"java/lang/Object", "clone", "()Ljava/lang/Object;"⟩).before a0 Z = true) (w6 : (Jvm.Cond.castable ad "java/lang/Cloneable").before a0 Z = true)
    (eT : T.heap = h) (V : Arx Z h a ty vs) (E : Exa Z h a ad) {g : JFrame} (hg : g.method = m) (hsize : g.locals.size = c.maxLocals) {rest : List Value} (hst : g.stack = .ref a :: rest) (hd : decode c.code g.pc = .ok (.invokevirtual index, 3))
    (hf : 1 ≤ R.frames) {W cap : Nat} (hW : 2 * g.monitorRoom + (rest.map fun v => v.category).sum ≤ W) (hl : W + 14 ≤ R.locals) (hcap : vs.length ≤ cap) (hc : cells + 1 ≤ R.cells) (hsl : slots + cap ≤ R.slots) :
    ∃ T' h' b, b = h.size ∧ Stand p l e R s m args below meth c T' locs (cells + 1) (slots + cap) ∧ T'.heap = h' ∧ Ext h h' ∧ Arx Z h' b ty vs ∧ Exa Z h' b ad ∧
      ∀ t, Steps p.tables e below (T'.setTop { g with pc := g.pc + 3, stack := .ref b :: rest }) t → Steps p.tables e below (T.setTop g) t := by
  obtain ⟨q, k, dv, V⟩ := V
  obtain ⟨T', h', X', e', ex, V', E', st⟩ := cloneH X hx hZ hown w1 w2 w3 w4 w5 w6 eT V.arh E hg hsize hst hd hf hW hl (by rw [own_clamp q]; exact hcap) hc hsl
  exact ⟨T', h', _, rfl, X', e', ex, ⟨q, k, dv, V'⟩, E', st⟩
end Own
def dg (V k : Nat) : Nat := V / 10 ^ k % 10
def outF (V c e i : Nat) : Int32 := if e ≤ i + c ∧ i < e then Int32.ofNat (48 + dg V (e - 1 - i)) else 0
def outL (V c e : Nat) : List Int32 := (List.range 22).map (outF V c e)
theorem own_ol (V c e : Nat) : (outL V c e).length = 22 := by simp [outL]
theorem own_put (V c e : Nat) (hc : c < e) (he : e ≤ 22) : (outL V c e).set (e - 1 - c) (Int32.ofNat (48 + dg V c)) = outL V (c + 1) e := by
  apply List.ext_getElem
  · simp [outL]
  · intro i h1 h2
    rw [List.getElem_set]
    simp only [outL, List.getElem_map, List.getElem_range]
    by_cases q : e - 1 - c = i
    · rw [if_pos q]
      unfold outF
      rw [if_pos ⟨by omega, by omega⟩, show e - 1 - i = c by omega]
    · rw [if_neg q]
      unfold outF
      by_cases g : e ≤ i + c ∧ i < e
      · rw [if_pos g, if_pos ⟨by omega, g.2⟩]
      · rw [if_neg g, if_neg (fun z => g ⟨by omega, z.2⟩)]
theorem own_out0 (V e : Nat) : outL V 0 e = List.replicate 22 0 := by
  apply List.ext_getElem
  · simp [outL]
  · intro i h1 h2
    simp only [outL, List.getElem_map, List.getElem_range, List.getElem_replicate]
    unfold outF
    rw [if_neg (fun z => absurd z.1 (by omega))]
theorem own_outget (V c e t : Nat) (h : t < 22) : ((outL V c e).map Value.int)[t]? = some (.int (outF V c e t)) := by
  rw [List.getElem?_map, List.getElem?_eq_getElem (by rw [own_ol]; exact h)]
  simp [outL]
theorem own_nat {i : Int32} {n : Nat} (h : i.toInt = n) : i.toNatClampNeg = n := by simp only [Int32.toNatClampNeg, h]; rfl
theorem own_nn {i : Int32} (h : 0 ≤ i.toInt) : ¬ i < 0 := fun q => absurd (Int32.lt_iff_toInt_lt.mp q) (by show ¬ i.toInt < 0; omega)
theorem own_nar : ∀ m : Fin 58, nar .char (Int32.ofNat m.val) = Int32.ofNat m.val := by decide +kernel
theorem own_dg (V k : Nat) : dg V k ≤ 9 := by unfold dg; omega
theorem own_cs {Z : State} {h : Heap} {a : Addr} {V c e : Nat} {x i : Int32} (hx : x.toInt = (48 + dg V c : Nat)) (hi : i.toInt = (e - 1 - c : Nat)) (hc : c < e) (he : e ≤ 22) (A : Arx Z h a .char (((outL V c e).map Value.int).set i.toNatClampNeg (.int (nar .char x)))) : Arx Z h a .char ((outL V (c + 1) e).map Value.int) := by
  have hd := own_dg V c
  have ex : x = Int32.ofNat (48 + dg V c) := by rw [← Int32.toInt_inj, own_ofNat (by omega), hx]
  rw [own_nat hi, ex, own_nar ⟨48 + dg V c, by omega⟩, ← List.map_set, own_put V c e hc he] at A
  exact A
def Tab2 (Z : State) (w : Addr) (f : Nat → Nat) : Prop := ∃ cl : Cell, Arr Z Z.heap w cl .char ∧ ∀ j : Int32, 0 ≤ j.toInt → j.toInt < 100 → ¬ (j < 0 ∨ cl.slots.size ≤ j.toNatClampNeg) ∧ cl.slots[j.toNatClampNeg]? = some (.int (Int32.ofNat (f j.toInt.toNat)))
theorem own_t48 {m : Nat} (h : m < 100) : (Int32.ofNat m).toInt = m := own_ofNat (by omega)
theorem own_pow2 (V c : Nat) : V / 10 ^ (c + 2) = V / 10 ^ c / 100 := by rw [Nat.pow_add, ← Nat.div_div_eq_div_mul]
theorem own_pow1 (V c : Nat) : V / 10 ^ (c + 1) = V / 10 ^ c / 10 := by rw [Nat.pow_succ, ← Nat.div_div_eq_div_mul]
theorem own_dg0 {V c r : Nat} (h : V / 10 ^ c = r) : dg V c = r % 10 := by unfold dg; rw [h]
theorem own_dg1 {V c r : Nat} (h : V / 10 ^ c = r) : dg V (c + 1) = r / 10 % 10 := by unfold dg; rw [own_pow1, h]
theorem d1_0 : decode prog_68_method_4_code 0 = .ok (.lload_n 0, 1) := by decide +kernel
theorem d1_1 : decode prog_68_method_4_code 1 = .ok (.lstore 5, 2) := by decide +kernel
theorem d1_3 : decode prog_68_method_4_code 3 = .ok (.iload 4, 2) := by decide +kernel
theorem d1_5 : decode prog_68_method_4_code 5 = .ok (.istore 7, 2) := by decide +kernel
theorem d1_7 : decode prog_68_method_4_code 7 = .ok (.iload_n 2, 1) := by decide +kernel
theorem d1_8 : decode prog_68_method_4_code 8 = .ok (.istore 8, 2) := by decide +kernel
theorem d1_10 : decode prog_68_method_4_code 10 = .ok (.iload 8, 2) := by decide +kernel
theorem d1_12 : decode prog_68_method_4_code 12 = .ok (.iconst 2, 1) := by decide +kernel
theorem d1_13 : decode prog_68_method_4_code 13 = .ok (.if_icmp .lt 59, 3) := by decide +kernel
theorem d1_16 : decode prog_68_method_4_code 16 = .ok (.lload 5, 2) := by decide +kernel
theorem d1_18 : decode prog_68_method_4_code 18 = .ok (.ldc2_w 35, 3) := by decide +kernel
theorem d1_21 : decode prog_68_method_4_code 21 = .ok (.ldiv, 1) := by decide +kernel
theorem d1_22 : decode prog_68_method_4_code 22 = .ok (.lstore 9, 2) := by decide +kernel
theorem d1_24 : decode prog_68_method_4_code 24 = .ok (.lload 5, 2) := by decide +kernel
theorem d1_26 : decode prog_68_method_4_code 26 = .ok (.lload 9, 2) := by decide +kernel
theorem d1_28 : decode prog_68_method_4_code 28 = .ok (.ldc2_w 35, 3) := by decide +kernel
theorem d1_31 : decode prog_68_method_4_code 31 = .ok (.lmul, 1) := by decide +kernel
theorem d1_32 : decode prog_68_method_4_code 32 = .ok (.lsub, 1) := by decide +kernel
theorem d1_33 : decode prog_68_method_4_code 33 = .ok (.l2i, 1) := by decide +kernel
theorem d1_34 : decode prog_68_method_4_code 34 = .ok (.istore 11, 2) := by decide +kernel
theorem d1_36 : decode prog_68_method_4_code 36 = .ok (.aload_n 3, 1) := by decide +kernel
theorem d1_37 : decode prog_68_method_4_code 37 = .ok (.iinc 7 (-1), 3) := by decide +kernel
theorem d1_40 : decode prog_68_method_4_code 40 = .ok (.iload 7, 2) := by decide +kernel
theorem d1_42 : decode prog_68_method_4_code 42 = .ok (.getstatic 37, 3) := by decide +kernel
theorem d1_45 : decode prog_68_method_4_code 45 = .ok (.iload 11, 2) := by decide +kernel
theorem d1_47 : decode prog_68_method_4_code 47 = .ok (.caload, 1) := by decide +kernel
theorem d1_48 : decode prog_68_method_4_code 48 = .ok (.castore, 1) := by decide +kernel
theorem d1_49 : decode prog_68_method_4_code 49 = .ok (.aload_n 3, 1) := by decide +kernel
theorem d1_50 : decode prog_68_method_4_code 50 = .ok (.iinc 7 (-1), 3) := by decide +kernel
theorem d1_53 : decode prog_68_method_4_code 53 = .ok (.iload 7, 2) := by decide +kernel
theorem d1_55 : decode prog_68_method_4_code 55 = .ok (.getstatic 41, 3) := by decide +kernel
theorem d1_58 : decode prog_68_method_4_code 58 = .ok (.iload 11, 2) := by decide +kernel
theorem d1_60 : decode prog_68_method_4_code 60 = .ok (.caload, 1) := by decide +kernel
theorem d1_61 : decode prog_68_method_4_code 61 = .ok (.castore, 1) := by decide +kernel
theorem d1_62 : decode prog_68_method_4_code 62 = .ok (.lload 9, 2) := by decide +kernel
theorem d1_64 : decode prog_68_method_4_code 64 = .ok (.lstore 5, 2) := by decide +kernel
theorem d1_66 : decode prog_68_method_4_code 66 = .ok (.iinc 8 (-2), 3) := by decide +kernel
theorem d1_69 : decode prog_68_method_4_code 69 = .ok (.goto (-59), 3) := by decide +kernel
theorem d1_72 : decode prog_68_method_4_code 72 = .ok (.iload_n 2, 1) := by decide +kernel
theorem d1_73 : decode prog_68_method_4_code 73 = .ok (.iconst 2, 1) := by decide +kernel
theorem d1_74 : decode prog_68_method_4_code 74 = .ok (.irem, 1) := by decide +kernel
theorem d1_75 : decode prog_68_method_4_code 75 = .ok (.ifCond .eq 37, 3) := by decide +kernel
theorem d1_78 : decode prog_68_method_4_code 78 = .ok (.lload 5, 2) := by decide +kernel
theorem d1_80 : decode prog_68_method_4_code 80 = .ok (.ldc2_w 44, 3) := by decide +kernel
theorem d1_83 : decode prog_68_method_4_code 83 = .ok (.ldiv, 1) := by decide +kernel
theorem d1_84 : decode prog_68_method_4_code 84 = .ok (.lstore 8, 2) := by decide +kernel
theorem d1_86 : decode prog_68_method_4_code 86 = .ok (.aload_n 3, 1) := by decide +kernel
theorem d1_87 : decode prog_68_method_4_code 87 = .ok (.iinc 7 (-1), 3) := by decide +kernel
theorem d1_90 : decode prog_68_method_4_code 90 = .ok (.iload 7, 2) := by decide +kernel
theorem d1_92 : decode prog_68_method_4_code 92 = .ok (.ldc2_w 46, 3) := by decide +kernel
theorem d1_95 : decode prog_68_method_4_code 95 = .ok (.lload 5, 2) := by decide +kernel
theorem d1_97 : decode prog_68_method_4_code 97 = .ok (.lload 8, 2) := by decide +kernel
theorem d1_99 : decode prog_68_method_4_code 99 = .ok (.ldc2_w 44, 3) := by decide +kernel
theorem d1_102 : decode prog_68_method_4_code 102 = .ok (.lmul, 1) := by decide +kernel
theorem d1_103 : decode prog_68_method_4_code 103 = .ok (.lsub, 1) := by decide +kernel
theorem d1_104 : decode prog_68_method_4_code 104 = .ok (.ladd, 1) := by decide +kernel
theorem d1_105 : decode prog_68_method_4_code 105 = .ok (.l2i, 1) := by decide +kernel
theorem d1_106 : decode prog_68_method_4_code 106 = .ok (.i2c, 1) := by decide +kernel
theorem d1_107 : decode prog_68_method_4_code 107 = .ok (.castore, 1) := by decide +kernel
theorem d1_108 : decode prog_68_method_4_code 108 = .ok (.lload 8, 2) := by decide +kernel
theorem d1_110 : decode prog_68_method_4_code 110 = .ok (.lstore 5, 2) := by decide +kernel
theorem d1_112 : decode prog_68_method_4_code 112 = .ok (.lload 5, 2) := by decide +kernel
theorem d1_114 : decode prog_68_method_4_code 114 = .ok (.lreturn, 1) := by decide +kernel
theorem pn_com_example_breakwater_breakwater_model_Digits : plainName "com/example/breakwater/breakwater/model/Digits" = true := by first | (simp [plainName, overriddenIn]; done) | decide +kernel
theorem ef_1 (m : MethodId) (x0 : Int64) (x1 : Int32) (x2 : Addr) (x3 : Int32) : entryFrame m #[(.long x0), (.int x1), (.ref x2), (.int x3)] 12 = mkF m 0 #[.val (.long x0), .second, .val (.int x1), .val (.ref x2), .val (.int x3), .unset, .unset, .unset, .unset, .unset, .unset, .unset] [] := by first | (simp [entryFrame, mkF, argsToLocals, Value.category]; done) | rfl
def Q1 (Z : State) (q0 : Int64) (p1 : Int32) (a2 : Addr) (p3 : Int32) (wAs wAf : Addr) (V cN eN : Nat) (h0 : Heap) (n0 : Nat) (v : Option Value) (h : Heap) (L : List Loc) : Prop := ∃ r : Int64, v = some (.long r) ∧ r.toInt = (V / 10 ^ cN : Nat) ∧ Fr n0 L ∧ Keep h0 h [a2] ∧ Arx Z h a2 .char ((outL V cN eN).map Value.int)
set_option maxRecDepth 65536 in
set_option maxHeartbeats 40000000 in
theorem rm1 (l : Launch) (Z : State) (a0 : Array Value) (hw : ∀ d ∈ tables_1, d.before a0 Z = true) (ws : List Jvm.Cond) (q0 : Int64) (p1 : Int32) (a2 : Addr) (p3 : Int32) (wAs wAf : Addr) (V cN eN : Nat) (h0 : Heap) (n0 : Nat) (Z0 : n0 ≤ h0.size) (O0 : Old Z n0 h0) (S_s : Sta Z Z.heap "com/example/breakwater/breakwater/model/Digits" "SECOND_OF_PAIR" "[C" (.ref wAs)) (T_s : Tab2 Z wAs (fun r => 48 + r % 10)) (S_f : Sta Z Z.heap "com/example/breakwater/breakwater/model/Digits" "FIRST_OF_PAIR" "[C" (.ref wAf)) (T_f : Tab2 Z wAf (fun r => 48 + r / 10)) (V_2 : Arx Z h0 a2 .char ((outL V 0 eN).map Value.int)) (g_2 : n0 ≤ a2) (hV : q0.toInt = V) (hc : p1.toInt = cN) (he : p3.toInt = eN) (hce : cN ≤ eN) (he22 : eN ≤ 22) :
    own_CT l Z (⟨"com/example/breakwater/breakwater/model/Digits", "writeLowest", "(JI[CI)J"⟩ : MethodName) prog_68_method_4_code 12 (some .long) ws ({ frames := 0, cells := 0, slots := 0, locals := 0 } : Room) #[(.long q0), (.int p1), (.ref a2), (.int p3)] h0 (Q1 Z q0 p1 a2 p3 wAs wAf V cN eN h0 n0) := by
  refine MetFree.of_bodySF (plainFor_of_name pn_com_example_breakwater_breakwater_model_Digits) hisR ?_
  intro p e s m args below meth c s₁ Bd hml0 hP hK
  obtain ⟨rfl, hZ, hh⟩ := hP
  have hx := Bd.exec
  have hby := Bd.bytes
  have hml : c.maxLocals = 12 := hml0
  have hown : s.vm.findClass "com/example/breakwater/breakwater/model/Digits" = some m.cls := findClass_of_methodNamed Bd.named
  have hnm := (name_of_methodNamed Bd.named Bd.method).1
  have hlk : meth.locks = false := BodyLoose.notSynchronized Bd
  have X0 : Stand p l e ({ frames := 0, cells := 0, slots := 0, locals := 0 } : Room) s m #[(.long q0), (.int p1), (.ref a2), (.int p3)] below meth c s₁ [] 0 0 := Stand.of_body Bd
  have e0 : s₁.heap = h0 := by rw [← hh, Bd.state]; rfl
  have N0 := Fr.nil n0
  show GG p e below s ({ frames := 0, cells := 0, slots := 0, locals := 0 } : Room).cells ({ frames := 0, cells := 0, slots := 0, locals := 0 } : Room).slots (Q1 Z q0 p1 a2 p3 wAs wAf V cN eN h0 n0) s₁ (entryFrame m #[(.long q0), (.int p1), (.ref a2), (.int p3)] 12)
  refine own_in (ef_1 m q0 p1 a2 p3) ?_
  obtain ⟨cls, A_s, hts⟩ := T_s
  obtain ⟨clf, A_f, htf⟩ := T_f
  have K0 := Keep.refl h0 [a2]
  show GG _ _ _ _ _ _ _ s₁ (mkF m 0 #[.val (.long q0), .second, .val (.int p1), .val (.ref a2), .val (.int p3), .unset, .unset, .unset, .unset, .unset, .unset, .unset] [])
  refine own_go (fun _ => XS.lloadN X0.here hx rfl (hb hby d1_0) rfl) ?_
  show GG _ _ _ _ _ _ _ s₁ (mkF m 1 #[.val (.long q0), .second, .val (.int p1), .val (.ref a2), .val (.int p3), .unset, .unset, .unset, .unset, .unset, .unset, .unset] [(.long q0)])
  refine own_go (fun _ => XS.lstore X0.here hx rfl (hb hby d1_1) rfl (l' := #[.val (.long q0), .second, .val (.int p1), .val (.ref a2), .val (.int p3), .val (.long q0), .second, .unset, .unset, .unset, .unset, .unset]) rfl) ?_
  show GG _ _ _ _ _ _ _ s₁ (mkF m 3 #[.val (.long q0), .second, .val (.int p1), .val (.ref a2), .val (.int p3), .val (.long q0), .second, .unset, .unset, .unset, .unset, .unset] [])
  refine own_go (fun _ => XS.iload X0.here hx rfl (hb hby d1_3) rfl) ?_
  show GG _ _ _ _ _ _ _ s₁ (mkF m 5 #[.val (.long q0), .second, .val (.int p1), .val (.ref a2), .val (.int p3), .val (.long q0), .second, .unset, .unset, .unset, .unset, .unset] [(.int p3)])
  refine own_go (fun _ => XS.istore X0.here hx rfl (hb hby d1_5) rfl (l' := #[.val (.long q0), .second, .val (.int p1), .val (.ref a2), .val (.int p3), .val (.long q0), .second, .val (.int p3), .unset, .unset, .unset, .unset]) rfl) ?_
  show GG _ _ _ _ _ _ _ s₁ (mkF m 7 #[.val (.long q0), .second, .val (.int p1), .val (.ref a2), .val (.int p3), .val (.long q0), .second, .val (.int p3), .unset, .unset, .unset, .unset] [])
  refine own_go (fun _ => XS.iloadN X0.here hx rfl (hb hby d1_7) rfl) ?_
  show GG _ _ _ _ _ _ _ s₁ (mkF m 8 #[.val (.long q0), .second, .val (.int p1), .val (.ref a2), .val (.int p3), .val (.long q0), .second, .val (.int p3), .unset, .unset, .unset, .unset] [(.int p1)])
  refine own_go (fun _ => XS.istore X0.here hx rfl (hb hby d1_8) rfl (l' := #[.val (.long q0), .second, .val (.int p1), .val (.ref a2), .val (.int p3), .val (.long q0), .second, .val (.int p3), .val (.int p1), .unset, .unset, .unset]) rfl) ?_
  show GG _ _ _ _ _ _ _ s₁ (mkF m 10 #[.val (.long q0), .second, .val (.int p1), .val (.ref a2), .val (.int p3), .val (.long q0), .second, .val (.int p3), .val (.int p1), .unset, .unset, .unset] [])
  have loop1 : ∀ (k : Nat) (d : Nat) (rest : Int64) (i left : Int32) (s9 s10 s11 : Slot) (TL : State) (hL : Heap) (lL : List Loc) (XL : Stand p l e ({ frames := 0, cells := 0, slots := 0, locals := 0 } : Room) s m #[(.long q0), (.int p1), (.ref a2), (.int p3)] below meth c TL lL 0 0) (eL : TL.heap = hL) (NL : Fr n0 lL) (hs : (s9 = .unset ∧ s10 = .unset ∧ s11 = .unset) ∨ ∃ (z : Int64) (t : Int32), s9 = .val (.long z) ∧ s10 = .second ∧ s11 = .val (.int t)) (hrest : rest.toInt = (V / 10 ^ d : Nat)) (hi : i.toInt + d = eN) (hleft : left.toInt + d = cN) (hk : left.toInt = 2 * (k : Int) + (cN % 2 : Nat)) (V_2 : Arx Z hL a2 .char ((outL V d eN).map Value.int)) (O0 : Old Z n0 hL) (K0 : Keep h0 hL [a2]), GG p e below s 0 0 (Q1 Z q0 p1 a2 p3 wAs wAf V cN eN h0 n0) TL (mkF m 10 #[.val (.long q0), .second, .val (.int p1), .val (.ref a2), .val (.int p3), .val (.long rest), .second, .val (.int i), .val (.int left), s9, s10, s11] []) := by
    intro k
    induction k with
    | zero =>
      intro d rest i left s9 s10 s11 TL hL lL XL eL NL hs hrest hi hleft hk V_2 O0 K0
      have ri := rng32 i
      have rr := rng64 rest
      have rl := rng32 left
      rcases hs with ⟨rfl, rfl, rfl⟩ | ⟨z, t, rfl, rfl, rfl⟩
      · skip
        show GG _ _ _ _ _ _ _ TL (mkF m 10 #[.val (.long q0), .second, .val (.int p1), .val (.ref a2), .val (.int p3), .val (.long rest), .second, .val (.int i), .val (.int left), .unset, .unset, .unset] [])
        refine own_go (fun _ => XS.iload XL.here hx rfl (hb hby d1_10) rfl) ?_
        show GG _ _ _ _ _ _ _ TL (mkF m 12 #[.val (.long q0), .second, .val (.int p1), .val (.ref a2), .val (.int p3), .val (.long rest), .second, .val (.int i), .val (.int left), .unset, .unset, .unset] [(.int left)])
        refine own_go (fun _ => XS.iconst XL.here hx rfl (hb hby d1_12)) ?_
        show GG _ _ _ _ _ _ _ TL (mkF m 13 #[.val (.long q0), .second, .val (.int p1), .val (.ref a2), .val (.int p3), .val (.long rest), .second, .val (.int i), .val (.int left), .unset, .unset, .unset] [(.int (2 : Int32)), (.int left)])
        have hc13 : left < (2 : Int32) := (Int32.lt_iff_toInt_lt.mpr ((by show (left.toInt < 2); omega : (left.toInt < 2))))
        refine own_go (fun _ => XS.icmpYes XL.here hx rfl (pc0 := 13) (pc' := 72) rfl (hb hby d1_13) rfl (tlt hc13).1 (by decide) (by decide)) ?_
        show GG _ _ _ _ _ _ _ TL (mkF m 72 #[.val (.long q0), .second, .val (.int p1), .val (.ref a2), .val (.int p3), .val (.long rest), .second, .val (.int i), .val (.int left), .unset, .unset, .unset] [])
        refine own_go (fun _ => XS.iloadN XL.here hx rfl (hb hby d1_72) rfl) ?_
        show GG _ _ _ _ _ _ _ TL (mkF m 73 #[.val (.long q0), .second, .val (.int p1), .val (.ref a2), .val (.int p3), .val (.long rest), .second, .val (.int i), .val (.int left), .unset, .unset, .unset] [(.int p1)])
        refine own_go (fun _ => XS.iconst XL.here hx rfl (hb hby d1_73)) ?_
        show GG _ _ _ _ _ _ _ TL (mkF m 74 #[.val (.long q0), .second, .val (.int p1), .val (.ref a2), .val (.int p3), .val (.long rest), .second, .val (.int i), .val (.int left), .unset, .unset, .unset] [(.int (2 : Int32)), (.int p1)])
        refine own_go (fun _ => iremM XL hx rfl (hb hby d1_74) rfl (by decide)) ?_
        show GG _ _ _ _ _ _ _ TL (mkF m 75 #[.val (.long q0), .second, .val (.int p1), .val (.ref a2), .val (.int p3), .val (.long rest), .second, .val (.int i), .val (.int left), .unset, .unset, .unset] [(.int (p1 % (2 : Int32)))])
        have cx2 := c_irem p1 (2 : Int32) 2 (by decide)
        generalize hx2 : (p1 % (2 : Int32)) = x2 at cx2 ⊢
        have rx2 := rng32 x2
        have hm : x2.toInt = cN % 2 := by have := cx2.1 (by omega); omega
        by_cases hb2 : cN % 2 = 0
        · skip
          have hdc : d = cN := by omega
          have hfin : rest.toInt = (V / 10 ^ cN : Nat) := by rw [← hdc]; exact hrest
          have hc75 : x2 = (0 : Int32) := (Int32.toInt_inj.mp ((by show (x2.toInt = 0); omega : (x2.toInt = 0))))
          refine own_go (fun _ => XS.ifYes XL.here hx rfl (pc0 := 75) (pc' := 112) rfl (hb hby d1_75) rfl ((if0 _ _).trans (teq hc75).1) (by decide) (by decide)) ?_
          show GG _ _ _ _ _ _ _ TL (mkF m 112 #[.val (.long q0), .second, .val (.int p1), .val (.ref a2), .val (.int p3), .val (.long rest), .second, .val (.int i), .val (.int left), .unset, .unset, .unset] [])
          refine own_go (fun _ => XS.lload XL.here hx rfl (hb hby d1_112) rfl) ?_
          show GG _ _ _ _ _ _ _ TL (mkF m 114 #[.val (.long q0), .second, .val (.int p1), .val (.ref a2), .val (.int p3), .val (.long rest), .second, .val (.int i), .val (.int left), .unset, .unset, .unset] [(.long rest)])
          refine own_ret XL hx hlk (t := .long) (w := (.long rest)) Bd.returns rfl (Or.inr (Or.inl ⟨rfl, rfl, _, rfl⟩)) (hb hby d1_114) (by decide) (by decide) ?_
          show Q1 Z q0 p1 a2 p3 wAs wAf V cN eN h0 n0 (some (.long rest)) TL.heap _
          rw [eL]
          exact ⟨_, rfl, hfin, NL, K0, by rw [← hdc]; exact V_2⟩
        · skip
          have hdc : d + 1 = cN := by omega
          obtain ⟨r, hr⟩ : ∃ r, V / 10 ^ d = r := ⟨_, rfl⟩
          rw [hr] at hrest
          have hd0 := own_dg0 hr
          have hc75 : ¬ (x2 = (0 : Int32)) := (fun q => absurd (Int32.toInt_inj.mpr q) ((by show ¬ (x2.toInt = 0); omega : ¬ (x2.toInt = 0))))
          refine own_go (fun _ => XS.ifNo XL.here hx rfl (hb hby d1_75) rfl ((if0 _ _).trans (feq hc75).1)) ?_
          show GG _ _ _ _ _ _ _ TL (mkF m 78 #[.val (.long q0), .second, .val (.int p1), .val (.ref a2), .val (.int p3), .val (.long rest), .second, .val (.int i), .val (.int left), .unset, .unset, .unset] [])
          refine own_go (fun _ => XS.lload XL.here hx rfl (hb hby d1_78) rfl) ?_
          show GG _ _ _ _ _ _ _ TL (mkF m 80 #[.val (.long q0), .second, .val (.int p1), .val (.ref a2), .val (.int p3), .val (.long rest), .second, .val (.int i), .val (.int left), .unset, .unset, .unset] [(.long rest)])
          refine own_go (fun _ => XL.ldc2Long hx hown (mvT hZ (hw _ (List.mem_of_getElem? (i := 32) rfl))) (g := (mkF m 80 #[.val (.long q0), .second, .val (.int p1), .val (.ref a2), .val (.int p3), .val (.long rest), .second, .val (.int i), .val (.int left), .unset, .unset, .unset] [(.long rest)])) rfl (hb hby d1_80) _) ?_
          show GG _ _ _ _ _ _ _ TL (mkF m 83 #[.val (.long q0), .second, .val (.int p1), .val (.ref a2), .val (.int p3), .val (.long rest), .second, .val (.int i), .val (.int left), .unset, .unset, .unset] [(.long (10 : Int64)), (.long rest)])
          refine own_go (fun _ => XS.ldiv XL.here hx rfl (hb hby d1_83) rfl (by decide)) ?_
          show GG _ _ _ _ _ _ _ TL (mkF m 84 #[.val (.long q0), .second, .val (.int p1), .val (.ref a2), .val (.int p3), .val (.long rest), .second, .val (.int i), .val (.int left), .unset, .unset, .unset] [(.long (rest / (10 : Int64)))])
          have cx3 := c_ldiv rest (10 : Int64) 10 (by decide) (by decide)
          generalize hx3 : (rest / (10 : Int64)) = x3 at cx3 ⊢
          have rx3 := rng64 x3
          refine own_go (fun _ => XS.lstore XL.here hx rfl (hb hby d1_84) rfl (l' := #[.val (.long q0), .second, .val (.int p1), .val (.ref a2), .val (.int p3), .val (.long rest), .second, .val (.int i), .val (.long x3), .second, .unset, .unset]) rfl) ?_
          show GG _ _ _ _ _ _ _ TL (mkF m 86 #[.val (.long q0), .second, .val (.int p1), .val (.ref a2), .val (.int p3), .val (.long rest), .second, .val (.int i), .val (.long x3), .second, .unset, .unset] [])
          refine own_go (fun _ => XS.aloadN XL.here hx rfl (hb hby d1_86) rfl rfl) ?_
          show GG _ _ _ _ _ _ _ TL (mkF m 87 #[.val (.long q0), .second, .val (.int p1), .val (.ref a2), .val (.int p3), .val (.long rest), .second, .val (.int i), .val (.long x3), .second, .unset, .unset] [(.ref a2)])
          refine own_go (fun _ => XS.iinc XL.here hx rfl (hb hby d1_87) rfl (l' := #[.val (.long q0), .second, .val (.int p1), .val (.ref a2), .val (.int p3), .val (.long rest), .second, .val (.int (i + (-1 : Int32))), .val (.long x3), .second, .unset, .unset]) rfl) ?_
          show GG _ _ _ _ _ _ _ TL (mkF m 90 #[.val (.long q0), .second, .val (.int p1), .val (.ref a2), .val (.int p3), .val (.long rest), .second, .val (.int (i + (-1 : Int32))), .val (.long x3), .second, .unset, .unset] [(.ref a2)])
          have cx4 := c_iadd i (-1 : Int32)
          simp only [show ((-1 : Int32)).toInt = -1 from by decide] at cx4
          generalize hx4 : (i + (-1 : Int32)) = x4 at cx4 ⊢
          have rx4 := rng32 x4
          have dx4 : x4.toInt = i.toInt + -1 := by omega
          clear cx4
          refine own_go (fun _ => XS.iload XL.here hx rfl (hb hby d1_90) rfl) ?_
          show GG _ _ _ _ _ _ _ TL (mkF m 92 #[.val (.long q0), .second, .val (.int p1), .val (.ref a2), .val (.int p3), .val (.long rest), .second, .val (.int x4), .val (.long x3), .second, .unset, .unset] [(.int x4), (.ref a2)])
          refine own_go (fun _ => XL.ldc2Long hx hown (mvT hZ (hw _ (List.mem_of_getElem? (i := 33) rfl))) (g := (mkF m 92 #[.val (.long q0), .second, .val (.int p1), .val (.ref a2), .val (.int p3), .val (.long rest), .second, .val (.int x4), .val (.long x3), .second, .unset, .unset] [(.int x4), (.ref a2)])) rfl (hb hby d1_92) _) ?_
          show GG _ _ _ _ _ _ _ TL (mkF m 95 #[.val (.long q0), .second, .val (.int p1), .val (.ref a2), .val (.int p3), .val (.long rest), .second, .val (.int x4), .val (.long x3), .second, .unset, .unset] [(.long (48 : Int64)), (.int x4), (.ref a2)])
          refine own_go (fun _ => XS.lload XL.here hx rfl (hb hby d1_95) rfl) ?_
          show GG _ _ _ _ _ _ _ TL (mkF m 97 #[.val (.long q0), .second, .val (.int p1), .val (.ref a2), .val (.int p3), .val (.long rest), .second, .val (.int x4), .val (.long x3), .second, .unset, .unset] [(.long rest), (.long (48 : Int64)), (.int x4), (.ref a2)])
          refine own_go (fun _ => XS.lload XL.here hx rfl (hb hby d1_97) rfl) ?_
          show GG _ _ _ _ _ _ _ TL (mkF m 99 #[.val (.long q0), .second, .val (.int p1), .val (.ref a2), .val (.int p3), .val (.long rest), .second, .val (.int x4), .val (.long x3), .second, .unset, .unset] [(.long x3), (.long rest), (.long (48 : Int64)), (.int x4), (.ref a2)])
          refine own_go (fun _ => XL.ldc2Long hx hown (mvT hZ (hw _ (List.mem_of_getElem? (i := 32) rfl))) (g := (mkF m 99 #[.val (.long q0), .second, .val (.int p1), .val (.ref a2), .val (.int p3), .val (.long rest), .second, .val (.int x4), .val (.long x3), .second, .unset, .unset] [(.long x3), (.long rest), (.long (48 : Int64)), (.int x4), (.ref a2)])) rfl (hb hby d1_99) _) ?_
          show GG _ _ _ _ _ _ _ TL (mkF m 102 #[.val (.long q0), .second, .val (.int p1), .val (.ref a2), .val (.int p3), .val (.long rest), .second, .val (.int x4), .val (.long x3), .second, .unset, .unset] [(.long (10 : Int64)), (.long x3), (.long rest), (.long (48 : Int64)), (.int x4), (.ref a2)])
          refine own_go (fun _ => XS.lmul XL.here hx rfl (hb hby d1_102) rfl) ?_
          show GG _ _ _ _ _ _ _ TL (mkF m 103 #[.val (.long q0), .second, .val (.int p1), .val (.ref a2), .val (.int p3), .val (.long rest), .second, .val (.int x4), .val (.long x3), .second, .unset, .unset] [(.long (x3 * (10 : Int64))), (.long rest), (.long (48 : Int64)), (.int x4), (.ref a2)])
          have cx5 := c_lmul x3 (10 : Int64)
          simp only [show ((10 : Int64)).toInt = 10 from by decide] at cx5
          generalize hx5 : (x3 * (10 : Int64)) = x5 at cx5 ⊢
          have rx5 := rng64 x5
          have dx5 : x5.toInt = x3.toInt * 10 := by omega
          clear cx5
          refine own_go (fun _ => XS.lsub XL.here hx rfl (hb hby d1_103) rfl) ?_
          show GG _ _ _ _ _ _ _ TL (mkF m 104 #[.val (.long q0), .second, .val (.int p1), .val (.ref a2), .val (.int p3), .val (.long rest), .second, .val (.int x4), .val (.long x3), .second, .unset, .unset] [(.long (rest - x5)), (.long (48 : Int64)), (.int x4), (.ref a2)])
          have cx6 := c_lsub rest x5
          generalize hx6 : (rest - x5) = x6 at cx6 ⊢
          have rx6 := rng64 x6
          have dx6 : x6.toInt = rest.toInt - x5.toInt := by omega
          clear cx6
          refine own_go (fun _ => XS.ladd XL.here hx rfl (hb hby d1_104) rfl) ?_
          show GG _ _ _ _ _ _ _ TL (mkF m 105 #[.val (.long q0), .second, .val (.int p1), .val (.ref a2), .val (.int p3), .val (.long rest), .second, .val (.int x4), .val (.long x3), .second, .unset, .unset] [(.long ((48 : Int64) + x6)), (.int x4), (.ref a2)])
          have cx7 := c_ladd (48 : Int64) x6
          simp only [show ((48 : Int64)).toInt = 48 from by decide] at cx7
          generalize hx7 : ((48 : Int64) + x6) = x7 at cx7 ⊢
          have rx7 := rng64 x7
          have dx7 : x7.toInt = 48 + x6.toInt := by omega
          clear cx7
          refine own_go (fun _ => XS.l2i XL.here hx rfl (hb hby d1_105) rfl) ?_
          show GG _ _ _ _ _ _ _ TL (mkF m 106 #[.val (.long q0), .second, .val (.int p1), .val (.ref a2), .val (.int p3), .val (.long rest), .second, .val (.int x4), .val (.long x3), .second, .unset, .unset] [(.int (x7.toInt32)), (.int x4), (.ref a2)])
          have cx8 := c_l2i x7
          generalize hx8 : (x7.toInt32) = x8 at cx8 ⊢
          have rx8 := rng32 x8
          have dx8 : x8.toInt = x7.toInt := by omega
          clear cx8
          refine own_go (fun _ => XS.i2c XL.here hx rfl (hb hby d1_106) rfl) ?_
          show GG _ _ _ _ _ _ _ TL (mkF m 107 #[.val (.long q0), .second, .val (.int p1), .val (.ref a2), .val (.int p3), .val (.long rest), .second, .val (.int x4), .val (.long x3), .second, .unset, .unset] [(.int (x8.toUInt32.toUInt16.toUInt32.toInt32)), (.int x4), (.ref a2)])
          have cx9 := c_i2c x8
          generalize hx9 : (x8.toUInt32.toUInt16.toUInt32.toInt32) = x9 at cx9 ⊢
          have rx9 := rng32 x9
          have dx9 : x9.toInt = x8.toInt := by omega
          clear cx9
          obtain ⟨T10, h10, X10, e10, W10, V10, st10⟩ := own_castore XL hx hZ eL V_2 (own_nn (by omega)) (by rw [List.length_map, own_ol]; simp only [Int32.toNatClampNeg]; omega) (g := (mkF m 107 #[.val (.long q0), .second, .val (.int p1), .val (.ref a2), .val (.int p3), .val (.long rest), .second, .val (.int x4), .val (.long x3), .second, .unset, .unset] [(.int x9), (.int x4), (.ref a2)])) rfl rfl (hb hby d1_107)
          have O0 := O0.wr W10 g_2
          have K0 := K0.wr W10 (Or.inl (List.mem_of_getElem? (i := 0) rfl))
          have V_2 : Arx Z h10 a2 .char ((outL V (d + 1) eN).map Value.int) := (own_cs (by omega) (by omega) (by omega) he22 V10)
          have N10 := Fr.snoc X10 NL g_2
          refine own_go (fun _ => st10 _) ?_
          show GG _ _ _ _ _ _ _ T10 (mkF m 108 #[.val (.long q0), .second, .val (.int p1), .val (.ref a2), .val (.int p3), .val (.long rest), .second, .val (.int x4), .val (.long x3), .second, .unset, .unset] [])
          refine own_go (fun _ => XS.lload X10.here hx rfl (hb hby d1_108) rfl) ?_
          show GG _ _ _ _ _ _ _ T10 (mkF m 110 #[.val (.long q0), .second, .val (.int p1), .val (.ref a2), .val (.int p3), .val (.long rest), .second, .val (.int x4), .val (.long x3), .second, .unset, .unset] [(.long x3)])
          refine own_go (fun _ => XS.lstore X10.here hx rfl (hb hby d1_110) rfl (l' := #[.val (.long q0), .second, .val (.int p1), .val (.ref a2), .val (.int p3), .val (.long x3), .second, .val (.int x4), .val (.long x3), .second, .unset, .unset]) rfl) ?_
          show GG _ _ _ _ _ _ _ T10 (mkF m 112 #[.val (.long q0), .second, .val (.int p1), .val (.ref a2), .val (.int p3), .val (.long x3), .second, .val (.int x4), .val (.long x3), .second, .unset, .unset] [])
          have hfin : x3.toInt = (V / 10 ^ cN : Nat) := by rw [← hdc, own_pow1, hr]; have := cx3.1 (by omega); omega
          refine own_go (fun _ => XS.lload X10.here hx rfl (hb hby d1_112) rfl) ?_
          show GG _ _ _ _ _ _ _ T10 (mkF m 114 #[.val (.long q0), .second, .val (.int p1), .val (.ref a2), .val (.int p3), .val (.long x3), .second, .val (.int x4), .val (.long x3), .second, .unset, .unset] [(.long x3)])
          refine own_ret X10 hx hlk (t := .long) (w := (.long x3)) Bd.returns rfl (Or.inr (Or.inl ⟨rfl, rfl, _, rfl⟩)) (hb hby d1_114) (by decide) (by decide) ?_
          show Q1 Z q0 p1 a2 p3 wAs wAf V cN eN h0 n0 (some (.long x3)) T10.heap _
          rw [e10]
          exact ⟨_, rfl, hfin, N10, K0, by rw [← hdc]; exact V_2⟩
      · skip
        show GG _ _ _ _ _ _ _ TL (mkF m 10 #[.val (.long q0), .second, .val (.int p1), .val (.ref a2), .val (.int p3), .val (.long rest), .second, .val (.int i), .val (.int left), .val (.long z), .second, .val (.int t)] [])
        refine own_go (fun _ => XS.iload XL.here hx rfl (hb hby d1_10) rfl) ?_
        show GG _ _ _ _ _ _ _ TL (mkF m 12 #[.val (.long q0), .second, .val (.int p1), .val (.ref a2), .val (.int p3), .val (.long rest), .second, .val (.int i), .val (.int left), .val (.long z), .second, .val (.int t)] [(.int left)])
        refine own_go (fun _ => XS.iconst XL.here hx rfl (hb hby d1_12)) ?_
        show GG _ _ _ _ _ _ _ TL (mkF m 13 #[.val (.long q0), .second, .val (.int p1), .val (.ref a2), .val (.int p3), .val (.long rest), .second, .val (.int i), .val (.int left), .val (.long z), .second, .val (.int t)] [(.int (2 : Int32)), (.int left)])
        have hc13 : left < (2 : Int32) := (Int32.lt_iff_toInt_lt.mpr ((by show (left.toInt < 2); omega : (left.toInt < 2))))
        refine own_go (fun _ => XS.icmpYes XL.here hx rfl (pc0 := 13) (pc' := 72) rfl (hb hby d1_13) rfl (tlt hc13).1 (by decide) (by decide)) ?_
        show GG _ _ _ _ _ _ _ TL (mkF m 72 #[.val (.long q0), .second, .val (.int p1), .val (.ref a2), .val (.int p3), .val (.long rest), .second, .val (.int i), .val (.int left), .val (.long z), .second, .val (.int t)] [])
        refine own_go (fun _ => XS.iloadN XL.here hx rfl (hb hby d1_72) rfl) ?_
        show GG _ _ _ _ _ _ _ TL (mkF m 73 #[.val (.long q0), .second, .val (.int p1), .val (.ref a2), .val (.int p3), .val (.long rest), .second, .val (.int i), .val (.int left), .val (.long z), .second, .val (.int t)] [(.int p1)])
        refine own_go (fun _ => XS.iconst XL.here hx rfl (hb hby d1_73)) ?_
        show GG _ _ _ _ _ _ _ TL (mkF m 74 #[.val (.long q0), .second, .val (.int p1), .val (.ref a2), .val (.int p3), .val (.long rest), .second, .val (.int i), .val (.int left), .val (.long z), .second, .val (.int t)] [(.int (2 : Int32)), (.int p1)])
        refine own_go (fun _ => iremM XL hx rfl (hb hby d1_74) rfl (by decide)) ?_
        show GG _ _ _ _ _ _ _ TL (mkF m 75 #[.val (.long q0), .second, .val (.int p1), .val (.ref a2), .val (.int p3), .val (.long rest), .second, .val (.int i), .val (.int left), .val (.long z), .second, .val (.int t)] [(.int (p1 % (2 : Int32)))])
        have cx11 := c_irem p1 (2 : Int32) 2 (by decide)
        generalize hx11 : (p1 % (2 : Int32)) = x11 at cx11 ⊢
        have rx11 := rng32 x11
        have hm : x11.toInt = cN % 2 := by have := cx11.1 (by omega); omega
        by_cases hb2 : cN % 2 = 0
        · skip
          have hdc : d = cN := by omega
          have hfin : rest.toInt = (V / 10 ^ cN : Nat) := by rw [← hdc]; exact hrest
          have hc75 : x11 = (0 : Int32) := (Int32.toInt_inj.mp ((by show (x11.toInt = 0); omega : (x11.toInt = 0))))
          refine own_go (fun _ => XS.ifYes XL.here hx rfl (pc0 := 75) (pc' := 112) rfl (hb hby d1_75) rfl ((if0 _ _).trans (teq hc75).1) (by decide) (by decide)) ?_
          show GG _ _ _ _ _ _ _ TL (mkF m 112 #[.val (.long q0), .second, .val (.int p1), .val (.ref a2), .val (.int p3), .val (.long rest), .second, .val (.int i), .val (.int left), .val (.long z), .second, .val (.int t)] [])
          refine own_go (fun _ => XS.lload XL.here hx rfl (hb hby d1_112) rfl) ?_
          show GG _ _ _ _ _ _ _ TL (mkF m 114 #[.val (.long q0), .second, .val (.int p1), .val (.ref a2), .val (.int p3), .val (.long rest), .second, .val (.int i), .val (.int left), .val (.long z), .second, .val (.int t)] [(.long rest)])
          refine own_ret XL hx hlk (t := .long) (w := (.long rest)) Bd.returns rfl (Or.inr (Or.inl ⟨rfl, rfl, _, rfl⟩)) (hb hby d1_114) (by decide) (by decide) ?_
          show Q1 Z q0 p1 a2 p3 wAs wAf V cN eN h0 n0 (some (.long rest)) TL.heap _
          rw [eL]
          exact ⟨_, rfl, hfin, NL, K0, by rw [← hdc]; exact V_2⟩
        · skip
          have hdc : d + 1 = cN := by omega
          obtain ⟨r, hr⟩ : ∃ r, V / 10 ^ d = r := ⟨_, rfl⟩
          rw [hr] at hrest
          have hd0 := own_dg0 hr
          have hc75 : ¬ (x11 = (0 : Int32)) := (fun q => absurd (Int32.toInt_inj.mpr q) ((by show ¬ (x11.toInt = 0); omega : ¬ (x11.toInt = 0))))
          refine own_go (fun _ => XS.ifNo XL.here hx rfl (hb hby d1_75) rfl ((if0 _ _).trans (feq hc75).1)) ?_
          show GG _ _ _ _ _ _ _ TL (mkF m 78 #[.val (.long q0), .second, .val (.int p1), .val (.ref a2), .val (.int p3), .val (.long rest), .second, .val (.int i), .val (.int left), .val (.long z), .second, .val (.int t)] [])
          refine own_go (fun _ => XS.lload XL.here hx rfl (hb hby d1_78) rfl) ?_
          show GG _ _ _ _ _ _ _ TL (mkF m 80 #[.val (.long q0), .second, .val (.int p1), .val (.ref a2), .val (.int p3), .val (.long rest), .second, .val (.int i), .val (.int left), .val (.long z), .second, .val (.int t)] [(.long rest)])
          refine own_go (fun _ => XL.ldc2Long hx hown (mvT hZ (hw _ (List.mem_of_getElem? (i := 32) rfl))) (g := (mkF m 80 #[.val (.long q0), .second, .val (.int p1), .val (.ref a2), .val (.int p3), .val (.long rest), .second, .val (.int i), .val (.int left), .val (.long z), .second, .val (.int t)] [(.long rest)])) rfl (hb hby d1_80) _) ?_
          show GG _ _ _ _ _ _ _ TL (mkF m 83 #[.val (.long q0), .second, .val (.int p1), .val (.ref a2), .val (.int p3), .val (.long rest), .second, .val (.int i), .val (.int left), .val (.long z), .second, .val (.int t)] [(.long (10 : Int64)), (.long rest)])
          refine own_go (fun _ => XS.ldiv XL.here hx rfl (hb hby d1_83) rfl (by decide)) ?_
          show GG _ _ _ _ _ _ _ TL (mkF m 84 #[.val (.long q0), .second, .val (.int p1), .val (.ref a2), .val (.int p3), .val (.long rest), .second, .val (.int i), .val (.int left), .val (.long z), .second, .val (.int t)] [(.long (rest / (10 : Int64)))])
          have cx12 := c_ldiv rest (10 : Int64) 10 (by decide) (by decide)
          generalize hx12 : (rest / (10 : Int64)) = x12 at cx12 ⊢
          have rx12 := rng64 x12
          refine own_go (fun _ => XS.lstore XL.here hx rfl (hb hby d1_84) rfl (l' := #[.val (.long q0), .second, .val (.int p1), .val (.ref a2), .val (.int p3), .val (.long rest), .second, .val (.int i), .val (.long x12), .second, .unset, .val (.int t)]) rfl) ?_
          show GG _ _ _ _ _ _ _ TL (mkF m 86 #[.val (.long q0), .second, .val (.int p1), .val (.ref a2), .val (.int p3), .val (.long rest), .second, .val (.int i), .val (.long x12), .second, .unset, .val (.int t)] [])
          refine own_go (fun _ => XS.aloadN XL.here hx rfl (hb hby d1_86) rfl rfl) ?_
          show GG _ _ _ _ _ _ _ TL (mkF m 87 #[.val (.long q0), .second, .val (.int p1), .val (.ref a2), .val (.int p3), .val (.long rest), .second, .val (.int i), .val (.long x12), .second, .unset, .val (.int t)] [(.ref a2)])
          refine own_go (fun _ => XS.iinc XL.here hx rfl (hb hby d1_87) rfl (l' := #[.val (.long q0), .second, .val (.int p1), .val (.ref a2), .val (.int p3), .val (.long rest), .second, .val (.int (i + (-1 : Int32))), .val (.long x12), .second, .unset, .val (.int t)]) rfl) ?_
          show GG _ _ _ _ _ _ _ TL (mkF m 90 #[.val (.long q0), .second, .val (.int p1), .val (.ref a2), .val (.int p3), .val (.long rest), .second, .val (.int (i + (-1 : Int32))), .val (.long x12), .second, .unset, .val (.int t)] [(.ref a2)])
          have cx13 := c_iadd i (-1 : Int32)
          simp only [show ((-1 : Int32)).toInt = -1 from by decide] at cx13
          generalize hx13 : (i + (-1 : Int32)) = x13 at cx13 ⊢
          have rx13 := rng32 x13
          have dx13 : x13.toInt = i.toInt + -1 := by omega
          clear cx13
          refine own_go (fun _ => XS.iload XL.here hx rfl (hb hby d1_90) rfl) ?_
          show GG _ _ _ _ _ _ _ TL (mkF m 92 #[.val (.long q0), .second, .val (.int p1), .val (.ref a2), .val (.int p3), .val (.long rest), .second, .val (.int x13), .val (.long x12), .second, .unset, .val (.int t)] [(.int x13), (.ref a2)])
          refine own_go (fun _ => XL.ldc2Long hx hown (mvT hZ (hw _ (List.mem_of_getElem? (i := 33) rfl))) (g := (mkF m 92 #[.val (.long q0), .second, .val (.int p1), .val (.ref a2), .val (.int p3), .val (.long rest), .second, .val (.int x13), .val (.long x12), .second, .unset, .val (.int t)] [(.int x13), (.ref a2)])) rfl (hb hby d1_92) _) ?_
          show GG _ _ _ _ _ _ _ TL (mkF m 95 #[.val (.long q0), .second, .val (.int p1), .val (.ref a2), .val (.int p3), .val (.long rest), .second, .val (.int x13), .val (.long x12), .second, .unset, .val (.int t)] [(.long (48 : Int64)), (.int x13), (.ref a2)])
          refine own_go (fun _ => XS.lload XL.here hx rfl (hb hby d1_95) rfl) ?_
          show GG _ _ _ _ _ _ _ TL (mkF m 97 #[.val (.long q0), .second, .val (.int p1), .val (.ref a2), .val (.int p3), .val (.long rest), .second, .val (.int x13), .val (.long x12), .second, .unset, .val (.int t)] [(.long rest), (.long (48 : Int64)), (.int x13), (.ref a2)])
          refine own_go (fun _ => XS.lload XL.here hx rfl (hb hby d1_97) rfl) ?_
          show GG _ _ _ _ _ _ _ TL (mkF m 99 #[.val (.long q0), .second, .val (.int p1), .val (.ref a2), .val (.int p3), .val (.long rest), .second, .val (.int x13), .val (.long x12), .second, .unset, .val (.int t)] [(.long x12), (.long rest), (.long (48 : Int64)), (.int x13), (.ref a2)])
          refine own_go (fun _ => XL.ldc2Long hx hown (mvT hZ (hw _ (List.mem_of_getElem? (i := 32) rfl))) (g := (mkF m 99 #[.val (.long q0), .second, .val (.int p1), .val (.ref a2), .val (.int p3), .val (.long rest), .second, .val (.int x13), .val (.long x12), .second, .unset, .val (.int t)] [(.long x12), (.long rest), (.long (48 : Int64)), (.int x13), (.ref a2)])) rfl (hb hby d1_99) _) ?_
          show GG _ _ _ _ _ _ _ TL (mkF m 102 #[.val (.long q0), .second, .val (.int p1), .val (.ref a2), .val (.int p3), .val (.long rest), .second, .val (.int x13), .val (.long x12), .second, .unset, .val (.int t)] [(.long (10 : Int64)), (.long x12), (.long rest), (.long (48 : Int64)), (.int x13), (.ref a2)])
          refine own_go (fun _ => XS.lmul XL.here hx rfl (hb hby d1_102) rfl) ?_
          show GG _ _ _ _ _ _ _ TL (mkF m 103 #[.val (.long q0), .second, .val (.int p1), .val (.ref a2), .val (.int p3), .val (.long rest), .second, .val (.int x13), .val (.long x12), .second, .unset, .val (.int t)] [(.long (x12 * (10 : Int64))), (.long rest), (.long (48 : Int64)), (.int x13), (.ref a2)])
          have cx14 := c_lmul x12 (10 : Int64)
          simp only [show ((10 : Int64)).toInt = 10 from by decide] at cx14
          generalize hx14 : (x12 * (10 : Int64)) = x14 at cx14 ⊢
          have rx14 := rng64 x14
          have dx14 : x14.toInt = x12.toInt * 10 := by omega
          clear cx14
          refine own_go (fun _ => XS.lsub XL.here hx rfl (hb hby d1_103) rfl) ?_
          show GG _ _ _ _ _ _ _ TL (mkF m 104 #[.val (.long q0), .second, .val (.int p1), .val (.ref a2), .val (.int p3), .val (.long rest), .second, .val (.int x13), .val (.long x12), .second, .unset, .val (.int t)] [(.long (rest - x14)), (.long (48 : Int64)), (.int x13), (.ref a2)])
          have cx15 := c_lsub rest x14
          generalize hx15 : (rest - x14) = x15 at cx15 ⊢
          have rx15 := rng64 x15
          have dx15 : x15.toInt = rest.toInt - x14.toInt := by omega
          clear cx15
          refine own_go (fun _ => XS.ladd XL.here hx rfl (hb hby d1_104) rfl) ?_
          show GG _ _ _ _ _ _ _ TL (mkF m 105 #[.val (.long q0), .second, .val (.int p1), .val (.ref a2), .val (.int p3), .val (.long rest), .second, .val (.int x13), .val (.long x12), .second, .unset, .val (.int t)] [(.long ((48 : Int64) + x15)), (.int x13), (.ref a2)])
          have cx16 := c_ladd (48 : Int64) x15
          simp only [show ((48 : Int64)).toInt = 48 from by decide] at cx16
          generalize hx16 : ((48 : Int64) + x15) = x16 at cx16 ⊢
          have rx16 := rng64 x16
          have dx16 : x16.toInt = 48 + x15.toInt := by omega
          clear cx16
          refine own_go (fun _ => XS.l2i XL.here hx rfl (hb hby d1_105) rfl) ?_
          show GG _ _ _ _ _ _ _ TL (mkF m 106 #[.val (.long q0), .second, .val (.int p1), .val (.ref a2), .val (.int p3), .val (.long rest), .second, .val (.int x13), .val (.long x12), .second, .unset, .val (.int t)] [(.int (x16.toInt32)), (.int x13), (.ref a2)])
          have cx17 := c_l2i x16
          generalize hx17 : (x16.toInt32) = x17 at cx17 ⊢
          have rx17 := rng32 x17
          have dx17 : x17.toInt = x16.toInt := by omega
          clear cx17
          refine own_go (fun _ => XS.i2c XL.here hx rfl (hb hby d1_106) rfl) ?_
          show GG _ _ _ _ _ _ _ TL (mkF m 107 #[.val (.long q0), .second, .val (.int p1), .val (.ref a2), .val (.int p3), .val (.long rest), .second, .val (.int x13), .val (.long x12), .second, .unset, .val (.int t)] [(.int (x17.toUInt32.toUInt16.toUInt32.toInt32)), (.int x13), (.ref a2)])
          have cx18 := c_i2c x17
          generalize hx18 : (x17.toUInt32.toUInt16.toUInt32.toInt32) = x18 at cx18 ⊢
          have rx18 := rng32 x18
          have dx18 : x18.toInt = x17.toInt := by omega
          clear cx18
          obtain ⟨T19, h19, X19, e19, W19, V19, st19⟩ := own_castore XL hx hZ eL V_2 (own_nn (by omega)) (by rw [List.length_map, own_ol]; simp only [Int32.toNatClampNeg]; omega) (g := (mkF m 107 #[.val (.long q0), .second, .val (.int p1), .val (.ref a2), .val (.int p3), .val (.long rest), .second, .val (.int x13), .val (.long x12), .second, .unset, .val (.int t)] [(.int x18), (.int x13), (.ref a2)])) rfl rfl (hb hby d1_107)
          have O0 := O0.wr W19 g_2
          have K0 := K0.wr W19 (Or.inl (List.mem_of_getElem? (i := 0) rfl))
          have V_2 : Arx Z h19 a2 .char ((outL V (d + 1) eN).map Value.int) := (own_cs (by omega) (by omega) (by omega) he22 V19)
          have N19 := Fr.snoc X19 NL g_2
          refine own_go (fun _ => st19 _) ?_
          show GG _ _ _ _ _ _ _ T19 (mkF m 108 #[.val (.long q0), .second, .val (.int p1), .val (.ref a2), .val (.int p3), .val (.long rest), .second, .val (.int x13), .val (.long x12), .second, .unset, .val (.int t)] [])
          refine own_go (fun _ => XS.lload X19.here hx rfl (hb hby d1_108) rfl) ?_
          show GG _ _ _ _ _ _ _ T19 (mkF m 110 #[.val (.long q0), .second, .val (.int p1), .val (.ref a2), .val (.int p3), .val (.long rest), .second, .val (.int x13), .val (.long x12), .second, .unset, .val (.int t)] [(.long x12)])
          refine own_go (fun _ => XS.lstore X19.here hx rfl (hb hby d1_110) rfl (l' := #[.val (.long q0), .second, .val (.int p1), .val (.ref a2), .val (.int p3), .val (.long x12), .second, .val (.int x13), .val (.long x12), .second, .unset, .val (.int t)]) rfl) ?_
          show GG _ _ _ _ _ _ _ T19 (mkF m 112 #[.val (.long q0), .second, .val (.int p1), .val (.ref a2), .val (.int p3), .val (.long x12), .second, .val (.int x13), .val (.long x12), .second, .unset, .val (.int t)] [])
          have hfin : x12.toInt = (V / 10 ^ cN : Nat) := by rw [← hdc, own_pow1, hr]; have := cx12.1 (by omega); omega
          refine own_go (fun _ => XS.lload X19.here hx rfl (hb hby d1_112) rfl) ?_
          show GG _ _ _ _ _ _ _ T19 (mkF m 114 #[.val (.long q0), .second, .val (.int p1), .val (.ref a2), .val (.int p3), .val (.long x12), .second, .val (.int x13), .val (.long x12), .second, .unset, .val (.int t)] [(.long x12)])
          refine own_ret X19 hx hlk (t := .long) (w := (.long x12)) Bd.returns rfl (Or.inr (Or.inl ⟨rfl, rfl, _, rfl⟩)) (hb hby d1_114) (by decide) (by decide) ?_
          show Q1 Z q0 p1 a2 p3 wAs wAf V cN eN h0 n0 (some (.long x12)) T19.heap _
          rw [e19]
          exact ⟨_, rfl, hfin, N19, K0, by rw [← hdc]; exact V_2⟩
    | succ k ih =>
      intro d rest i left s9 s10 s11 TL hL lL XL eL NL hs hrest hi hleft hk V_2 O0 K0
      have ri := rng32 i
      have rr := rng64 rest
      have rl := rng32 left
      obtain ⟨r, hr⟩ : ∃ r, V / 10 ^ d = r := ⟨_, rfl⟩
      rw [hr] at hrest
      have hd0 := own_dg0 hr
      have hd1 := own_dg1 hr
      rcases hs with ⟨rfl, rfl, rfl⟩ | ⟨z, t, rfl, rfl, rfl⟩
      · skip
        show GG _ _ _ _ _ _ _ TL (mkF m 10 #[.val (.long q0), .second, .val (.int p1), .val (.ref a2), .val (.int p3), .val (.long rest), .second, .val (.int i), .val (.int left), .unset, .unset, .unset] [])
        refine own_go (fun _ => XS.iload XL.here hx rfl (hb hby d1_10) rfl) ?_
        show GG _ _ _ _ _ _ _ TL (mkF m 12 #[.val (.long q0), .second, .val (.int p1), .val (.ref a2), .val (.int p3), .val (.long rest), .second, .val (.int i), .val (.int left), .unset, .unset, .unset] [(.int left)])
        refine own_go (fun _ => XS.iconst XL.here hx rfl (hb hby d1_12)) ?_
        show GG _ _ _ _ _ _ _ TL (mkF m 13 #[.val (.long q0), .second, .val (.int p1), .val (.ref a2), .val (.int p3), .val (.long rest), .second, .val (.int i), .val (.int left), .unset, .unset, .unset] [(.int (2 : Int32)), (.int left)])
        have hc13 : ¬ (left < (2 : Int32)) := (fun q => absurd (Int32.lt_iff_toInt_lt.mp q) ((by show ¬ (left.toInt < 2); omega : ¬ (left.toInt < 2))))
        refine own_go (fun _ => XS.icmpNo XL.here hx rfl (hb hby d1_13) rfl (flt hc13).1) ?_
        show GG _ _ _ _ _ _ _ TL (mkF m 16 #[.val (.long q0), .second, .val (.int p1), .val (.ref a2), .val (.int p3), .val (.long rest), .second, .val (.int i), .val (.int left), .unset, .unset, .unset] [])
        refine own_go (fun _ => XS.lload XL.here hx rfl (hb hby d1_16) rfl) ?_
        show GG _ _ _ _ _ _ _ TL (mkF m 18 #[.val (.long q0), .second, .val (.int p1), .val (.ref a2), .val (.int p3), .val (.long rest), .second, .val (.int i), .val (.int left), .unset, .unset, .unset] [(.long rest)])
        refine own_go (fun _ => XL.ldc2Long hx hown (mvT hZ (hw _ (List.mem_of_getElem? (i := 7) rfl))) (g := (mkF m 18 #[.val (.long q0), .second, .val (.int p1), .val (.ref a2), .val (.int p3), .val (.long rest), .second, .val (.int i), .val (.int left), .unset, .unset, .unset] [(.long rest)])) rfl (hb hby d1_18) _) ?_
        show GG _ _ _ _ _ _ _ TL (mkF m 21 #[.val (.long q0), .second, .val (.int p1), .val (.ref a2), .val (.int p3), .val (.long rest), .second, .val (.int i), .val (.int left), .unset, .unset, .unset] [(.long (100 : Int64)), (.long rest)])
        refine own_go (fun _ => XS.ldiv XL.here hx rfl (hb hby d1_21) rfl (by decide)) ?_
        show GG _ _ _ _ _ _ _ TL (mkF m 22 #[.val (.long q0), .second, .val (.int p1), .val (.ref a2), .val (.int p3), .val (.long rest), .second, .val (.int i), .val (.int left), .unset, .unset, .unset] [(.long (rest / (100 : Int64)))])
        have cx20 := c_ldiv rest (100 : Int64) 100 (by decide) (by decide)
        generalize hx20 : (rest / (100 : Int64)) = x20 at cx20 ⊢
        have rx20 := rng64 x20
        refine own_go (fun _ => XS.lstore XL.here hx rfl (hb hby d1_22) rfl (l' := #[.val (.long q0), .second, .val (.int p1), .val (.ref a2), .val (.int p3), .val (.long rest), .second, .val (.int i), .val (.int left), .val (.long x20), .second, .unset]) rfl) ?_
        show GG _ _ _ _ _ _ _ TL (mkF m 24 #[.val (.long q0), .second, .val (.int p1), .val (.ref a2), .val (.int p3), .val (.long rest), .second, .val (.int i), .val (.int left), .val (.long x20), .second, .unset] [])
        have ex20 : x20.toInt = rest.toInt / 100 := cx20.1 (by omega)
        clear cx20
        refine own_go (fun _ => XS.lload XL.here hx rfl (hb hby d1_24) rfl) ?_
        show GG _ _ _ _ _ _ _ TL (mkF m 26 #[.val (.long q0), .second, .val (.int p1), .val (.ref a2), .val (.int p3), .val (.long rest), .second, .val (.int i), .val (.int left), .val (.long x20), .second, .unset] [(.long rest)])
        refine own_go (fun _ => XS.lload XL.here hx rfl (hb hby d1_26) rfl) ?_
        show GG _ _ _ _ _ _ _ TL (mkF m 28 #[.val (.long q0), .second, .val (.int p1), .val (.ref a2), .val (.int p3), .val (.long rest), .second, .val (.int i), .val (.int left), .val (.long x20), .second, .unset] [(.long x20), (.long rest)])
        refine own_go (fun _ => XL.ldc2Long hx hown (mvT hZ (hw _ (List.mem_of_getElem? (i := 7) rfl))) (g := (mkF m 28 #[.val (.long q0), .second, .val (.int p1), .val (.ref a2), .val (.int p3), .val (.long rest), .second, .val (.int i), .val (.int left), .val (.long x20), .second, .unset] [(.long x20), (.long rest)])) rfl (hb hby d1_28) _) ?_
        show GG _ _ _ _ _ _ _ TL (mkF m 31 #[.val (.long q0), .second, .val (.int p1), .val (.ref a2), .val (.int p3), .val (.long rest), .second, .val (.int i), .val (.int left), .val (.long x20), .second, .unset] [(.long (100 : Int64)), (.long x20), (.long rest)])
        refine own_go (fun _ => XS.lmul XL.here hx rfl (hb hby d1_31) rfl) ?_
        show GG _ _ _ _ _ _ _ TL (mkF m 32 #[.val (.long q0), .second, .val (.int p1), .val (.ref a2), .val (.int p3), .val (.long rest), .second, .val (.int i), .val (.int left), .val (.long x20), .second, .unset] [(.long (x20 * (100 : Int64))), (.long rest)])
        have cx21 := c_lmul x20 (100 : Int64)
        simp only [show ((100 : Int64)).toInt = 100 from by decide] at cx21
        generalize hx21 : (x20 * (100 : Int64)) = x21 at cx21 ⊢
        have rx21 := rng64 x21
        have dx21 : x21.toInt = x20.toInt * 100 := by omega
        clear cx21
        refine own_go (fun _ => XS.lsub XL.here hx rfl (hb hby d1_32) rfl) ?_
        show GG _ _ _ _ _ _ _ TL (mkF m 33 #[.val (.long q0), .second, .val (.int p1), .val (.ref a2), .val (.int p3), .val (.long rest), .second, .val (.int i), .val (.int left), .val (.long x20), .second, .unset] [(.long (rest - x21))])
        have cx22 := c_lsub rest x21
        generalize hx22 : (rest - x21) = x22 at cx22 ⊢
        have rx22 := rng64 x22
        have dx22 : x22.toInt = rest.toInt - x21.toInt := by omega
        clear cx22
        refine own_go (fun _ => XS.l2i XL.here hx rfl (hb hby d1_33) rfl) ?_
        show GG _ _ _ _ _ _ _ TL (mkF m 34 #[.val (.long q0), .second, .val (.int p1), .val (.ref a2), .val (.int p3), .val (.long rest), .second, .val (.int i), .val (.int left), .val (.long x20), .second, .unset] [(.int (x22.toInt32))])
        have cx23 := c_l2i x22
        generalize hx23 : (x22.toInt32) = x23 at cx23 ⊢
        have rx23 := rng32 x23
        have dx23 : x23.toInt = x22.toInt := by omega
        clear cx23
        refine own_go (fun _ => XS.istore XL.here hx rfl (hb hby d1_34) rfl (l' := #[.val (.long q0), .second, .val (.int p1), .val (.ref a2), .val (.int p3), .val (.long rest), .second, .val (.int i), .val (.int left), .val (.long x20), .second, .val (.int x23)]) rfl) ?_
        show GG _ _ _ _ _ _ _ TL (mkF m 36 #[.val (.long q0), .second, .val (.int p1), .val (.ref a2), .val (.int p3), .val (.long rest), .second, .val (.int i), .val (.int left), .val (.long x20), .second, .val (.int x23)] [])
        refine own_go (fun _ => XS.aloadN XL.here hx rfl (hb hby d1_36) rfl rfl) ?_
        show GG _ _ _ _ _ _ _ TL (mkF m 37 #[.val (.long q0), .second, .val (.int p1), .val (.ref a2), .val (.int p3), .val (.long rest), .second, .val (.int i), .val (.int left), .val (.long x20), .second, .val (.int x23)] [(.ref a2)])
        refine own_go (fun _ => XS.iinc XL.here hx rfl (hb hby d1_37) rfl (l' := #[.val (.long q0), .second, .val (.int p1), .val (.ref a2), .val (.int p3), .val (.long rest), .second, .val (.int (i + (-1 : Int32))), .val (.int left), .val (.long x20), .second, .val (.int x23)]) rfl) ?_
        show GG _ _ _ _ _ _ _ TL (mkF m 40 #[.val (.long q0), .second, .val (.int p1), .val (.ref a2), .val (.int p3), .val (.long rest), .second, .val (.int (i + (-1 : Int32))), .val (.int left), .val (.long x20), .second, .val (.int x23)] [(.ref a2)])
        have cx24 := c_iadd i (-1 : Int32)
        simp only [show ((-1 : Int32)).toInt = -1 from by decide] at cx24
        generalize hx24 : (i + (-1 : Int32)) = x24 at cx24 ⊢
        have rx24 := rng32 x24
        have dx24 : x24.toInt = i.toInt + -1 := by omega
        clear cx24
        refine own_go (fun _ => XS.iload XL.here hx rfl (hb hby d1_40) rfl) ?_
        show GG _ _ _ _ _ _ _ TL (mkF m 42 #[.val (.long q0), .second, .val (.int p1), .val (.ref a2), .val (.int p3), .val (.long rest), .second, .val (.int x24), .val (.int left), .val (.long x20), .second, .val (.int x23)] [(.int x24), (.ref a2)])
        have S_s' := S_s.ext O0.2
        have A_s' := A_s.ext O0.2
        obtain ⟨T25, X25, e25, st25⟩ := getS2 XL hx hZ hown (host := "") (Or.inl (hw _ (List.mem_of_getElem? (i := 8) rfl))) Via.refl eL S_s' (g := (mkF m 42 #[.val (.long q0), .second, .val (.int p1), .val (.ref a2), .val (.int p3), .val (.long rest), .second, .val (.int x24), .val (.int left), .val (.long x20), .second, .val (.int x23)] [(.int x24), (.ref a2)])) rfl (hb hby d1_42)
        refine own_go (fun _ => st25 _) ?_
        show GG _ _ _ _ _ _ _ T25 (mkF m 45 #[.val (.long q0), .second, .val (.int p1), .val (.ref a2), .val (.int p3), .val (.long rest), .second, .val (.int x24), .val (.int left), .val (.long x20), .second, .val (.int x23)] [(.ref wAs), (.int x24), (.ref a2)])
        refine own_go (fun _ => XS.iload X25.here hx rfl (hb hby d1_45) rfl) ?_
        show GG _ _ _ _ _ _ _ T25 (mkF m 47 #[.val (.long q0), .second, .val (.int p1), .val (.ref a2), .val (.int p3), .val (.long rest), .second, .val (.int x24), .val (.int left), .val (.long x20), .second, .val (.int x23)] [(.int x23), (.ref wAs), (.int x24), (.ref a2)])
        obtain ⟨hins, hats⟩ := hts x23 (by omega) (by omega)
        refine own_go (fun _ => X25.caload hx (j := x23) (v := (.int (Int32.ofNat (48 + x23.toInt.toNat % 10)))) (by rw [e25]; exact A_s'.1) (State.isArrayOf_alike hZ.alike A_s'.2.1) A_s'.2.2 hins hats (g := (mkF m 47 #[.val (.long q0), .second, .val (.int p1), .val (.ref a2), .val (.int p3), .val (.long rest), .second, .val (.int x24), .val (.int left), .val (.long x20), .second, .val (.int x23)] [(.int x23), (.ref wAs), (.int x24), (.ref a2)])) rfl rfl (hb hby d1_47) _) ?_
        show GG _ _ _ _ _ _ _ T25 (mkF m 48 #[.val (.long q0), .second, .val (.int p1), .val (.ref a2), .val (.int p3), .val (.long rest), .second, .val (.int x24), .val (.int left), .val (.long x20), .second, .val (.int x23)] [(.int (Int32.ofNat (48 + x23.toInt.toNat % 10))), (.int x24), (.ref a2)])
        obtain ⟨T26, h26, X26, e26, W26, V26, st26⟩ := own_castore X25 hx hZ e25 V_2 (own_nn (by omega)) (by rw [List.length_map, own_ol]; simp only [Int32.toNatClampNeg]; omega) (g := (mkF m 48 #[.val (.long q0), .second, .val (.int p1), .val (.ref a2), .val (.int p3), .val (.long rest), .second, .val (.int x24), .val (.int left), .val (.long x20), .second, .val (.int x23)] [(.int (Int32.ofNat (48 + x23.toInt.toNat % 10))), (.int x24), (.ref a2)])) rfl rfl (hb hby d1_48)
        have O0 := O0.wr W26 g_2
        have K0 := K0.wr W26 (Or.inl (List.mem_of_getElem? (i := 0) rfl))
        have V_2 : Arx Z h26 a2 .char ((outL V (d + 1) eN).map Value.int) := (own_cs (by rw [own_t48 (by omega)]; omega) (by omega) (by omega) he22 V26)
        have N26 := Fr.snoc X26 NL g_2
        refine own_go (fun _ => st26 _) ?_
        show GG _ _ _ _ _ _ _ T26 (mkF m 49 #[.val (.long q0), .second, .val (.int p1), .val (.ref a2), .val (.int p3), .val (.long rest), .second, .val (.int x24), .val (.int left), .val (.long x20), .second, .val (.int x23)] [])
        refine own_go (fun _ => XS.aloadN X26.here hx rfl (hb hby d1_49) rfl rfl) ?_
        show GG _ _ _ _ _ _ _ T26 (mkF m 50 #[.val (.long q0), .second, .val (.int p1), .val (.ref a2), .val (.int p3), .val (.long rest), .second, .val (.int x24), .val (.int left), .val (.long x20), .second, .val (.int x23)] [(.ref a2)])
        refine own_go (fun _ => XS.iinc X26.here hx rfl (hb hby d1_50) rfl (l' := #[.val (.long q0), .second, .val (.int p1), .val (.ref a2), .val (.int p3), .val (.long rest), .second, .val (.int (x24 + (-1 : Int32))), .val (.int left), .val (.long x20), .second, .val (.int x23)]) rfl) ?_
        show GG _ _ _ _ _ _ _ T26 (mkF m 53 #[.val (.long q0), .second, .val (.int p1), .val (.ref a2), .val (.int p3), .val (.long rest), .second, .val (.int (x24 + (-1 : Int32))), .val (.int left), .val (.long x20), .second, .val (.int x23)] [(.ref a2)])
        have cx27 := c_iadd x24 (-1 : Int32)
        simp only [show ((-1 : Int32)).toInt = -1 from by decide] at cx27
        generalize hx27 : (x24 + (-1 : Int32)) = x27 at cx27 ⊢
        have rx27 := rng32 x27
        have dx27 : x27.toInt = x24.toInt + -1 := by omega
        clear cx27
        refine own_go (fun _ => XS.iload X26.here hx rfl (hb hby d1_53) rfl) ?_
        show GG _ _ _ _ _ _ _ T26 (mkF m 55 #[.val (.long q0), .second, .val (.int p1), .val (.ref a2), .val (.int p3), .val (.long rest), .second, .val (.int x27), .val (.int left), .val (.long x20), .second, .val (.int x23)] [(.int x27), (.ref a2)])
        have S_f' := S_f.ext O0.2
        have A_f' := A_f.ext O0.2
        obtain ⟨T28, X28, e28, st28⟩ := getS2 X26 hx hZ hown (host := "") (Or.inl (hw _ (List.mem_of_getElem? (i := 10) rfl))) Via.refl e26 S_f' (g := (mkF m 55 #[.val (.long q0), .second, .val (.int p1), .val (.ref a2), .val (.int p3), .val (.long rest), .second, .val (.int x27), .val (.int left), .val (.long x20), .second, .val (.int x23)] [(.int x27), (.ref a2)])) rfl (hb hby d1_55)
        refine own_go (fun _ => st28 _) ?_
        show GG _ _ _ _ _ _ _ T28 (mkF m 58 #[.val (.long q0), .second, .val (.int p1), .val (.ref a2), .val (.int p3), .val (.long rest), .second, .val (.int x27), .val (.int left), .val (.long x20), .second, .val (.int x23)] [(.ref wAf), (.int x27), (.ref a2)])
        refine own_go (fun _ => XS.iload X28.here hx rfl (hb hby d1_58) rfl) ?_
        show GG _ _ _ _ _ _ _ T28 (mkF m 60 #[.val (.long q0), .second, .val (.int p1), .val (.ref a2), .val (.int p3), .val (.long rest), .second, .val (.int x27), .val (.int left), .val (.long x20), .second, .val (.int x23)] [(.int x23), (.ref wAf), (.int x27), (.ref a2)])
        obtain ⟨hinf, hatf⟩ := htf x23 (by omega) (by omega)
        refine own_go (fun _ => X28.caload hx (j := x23) (v := (.int (Int32.ofNat (48 + x23.toInt.toNat / 10)))) (by rw [e28]; exact A_f'.1) (State.isArrayOf_alike hZ.alike A_f'.2.1) A_f'.2.2 hinf hatf (g := (mkF m 60 #[.val (.long q0), .second, .val (.int p1), .val (.ref a2), .val (.int p3), .val (.long rest), .second, .val (.int x27), .val (.int left), .val (.long x20), .second, .val (.int x23)] [(.int x23), (.ref wAf), (.int x27), (.ref a2)])) rfl rfl (hb hby d1_60) _) ?_
        show GG _ _ _ _ _ _ _ T28 (mkF m 61 #[.val (.long q0), .second, .val (.int p1), .val (.ref a2), .val (.int p3), .val (.long rest), .second, .val (.int x27), .val (.int left), .val (.long x20), .second, .val (.int x23)] [(.int (Int32.ofNat (48 + x23.toInt.toNat / 10))), (.int x27), (.ref a2)])
        obtain ⟨T29, h29, X29, e29, W29, V29, st29⟩ := own_castore X28 hx hZ e28 V_2 (own_nn (by omega)) (by rw [List.length_map, own_ol]; simp only [Int32.toNatClampNeg]; omega) (g := (mkF m 61 #[.val (.long q0), .second, .val (.int p1), .val (.ref a2), .val (.int p3), .val (.long rest), .second, .val (.int x27), .val (.int left), .val (.long x20), .second, .val (.int x23)] [(.int (Int32.ofNat (48 + x23.toInt.toNat / 10))), (.int x27), (.ref a2)])) rfl rfl (hb hby d1_61)
        have O0 := O0.wr W29 g_2
        have K0 := K0.wr W29 (Or.inl (List.mem_of_getElem? (i := 0) rfl))
        have V_2 : Arx Z h29 a2 .char ((outL V (d + 2) eN).map Value.int) := (own_cs (by rw [own_t48 (by omega)]; omega) (by omega) (by omega) he22 V29)
        have N29 := Fr.snoc X29 N26 g_2
        refine own_go (fun _ => st29 _) ?_
        show GG _ _ _ _ _ _ _ T29 (mkF m 62 #[.val (.long q0), .second, .val (.int p1), .val (.ref a2), .val (.int p3), .val (.long rest), .second, .val (.int x27), .val (.int left), .val (.long x20), .second, .val (.int x23)] [])
        refine own_go (fun _ => XS.lload X29.here hx rfl (hb hby d1_62) rfl) ?_
        show GG _ _ _ _ _ _ _ T29 (mkF m 64 #[.val (.long q0), .second, .val (.int p1), .val (.ref a2), .val (.int p3), .val (.long rest), .second, .val (.int x27), .val (.int left), .val (.long x20), .second, .val (.int x23)] [(.long x20)])
        refine own_go (fun _ => XS.lstore X29.here hx rfl (hb hby d1_64) rfl (l' := #[.val (.long q0), .second, .val (.int p1), .val (.ref a2), .val (.int p3), .val (.long x20), .second, .val (.int x27), .val (.int left), .val (.long x20), .second, .val (.int x23)]) rfl) ?_
        show GG _ _ _ _ _ _ _ T29 (mkF m 66 #[.val (.long q0), .second, .val (.int p1), .val (.ref a2), .val (.int p3), .val (.long x20), .second, .val (.int x27), .val (.int left), .val (.long x20), .second, .val (.int x23)] [])
        refine own_go (fun _ => XS.iinc X29.here hx rfl (hb hby d1_66) rfl (l' := #[.val (.long q0), .second, .val (.int p1), .val (.ref a2), .val (.int p3), .val (.long x20), .second, .val (.int x27), .val (.int (left + (-2 : Int32))), .val (.long x20), .second, .val (.int x23)]) rfl) ?_
        show GG _ _ _ _ _ _ _ T29 (mkF m 69 #[.val (.long q0), .second, .val (.int p1), .val (.ref a2), .val (.int p3), .val (.long x20), .second, .val (.int x27), .val (.int (left + (-2 : Int32))), .val (.long x20), .second, .val (.int x23)] [])
        have cx30 := c_iadd left (-2 : Int32)
        simp only [show ((-2 : Int32)).toInt = -2 from by decide] at cx30
        generalize hx30 : (left + (-2 : Int32)) = x30 at cx30 ⊢
        have rx30 := rng32 x30
        have dx30 : x30.toInt = left.toInt + -2 := by omega
        clear cx30
        refine own_go (fun _ => XS.goto X29.here hx rfl (pc0 := 69) (pc' := 10) rfl (hb hby d1_69) (by decide) (by decide)) ?_
        show GG _ _ _ _ _ _ _ T29 (mkF m 10 #[.val (.long q0), .second, .val (.int p1), .val (.ref a2), .val (.int p3), .val (.long x20), .second, .val (.int x27), .val (.int x30), .val (.long x20), .second, .val (.int x23)] [])
        exact ih (d + 2) x20 x27 x30 _ _ _ T29 _ _ X29 e29 N29 (Or.inr ⟨_, _, rfl, rfl, rfl⟩) (by rw [own_pow2, hr]; omega) (by omega) (by omega) (by omega) V_2 O0 K0
      · skip
        show GG _ _ _ _ _ _ _ TL (mkF m 10 #[.val (.long q0), .second, .val (.int p1), .val (.ref a2), .val (.int p3), .val (.long rest), .second, .val (.int i), .val (.int left), .val (.long z), .second, .val (.int t)] [])
        refine own_go (fun _ => XS.iload XL.here hx rfl (hb hby d1_10) rfl) ?_
        show GG _ _ _ _ _ _ _ TL (mkF m 12 #[.val (.long q0), .second, .val (.int p1), .val (.ref a2), .val (.int p3), .val (.long rest), .second, .val (.int i), .val (.int left), .val (.long z), .second, .val (.int t)] [(.int left)])
        refine own_go (fun _ => XS.iconst XL.here hx rfl (hb hby d1_12)) ?_
        show GG _ _ _ _ _ _ _ TL (mkF m 13 #[.val (.long q0), .second, .val (.int p1), .val (.ref a2), .val (.int p3), .val (.long rest), .second, .val (.int i), .val (.int left), .val (.long z), .second, .val (.int t)] [(.int (2 : Int32)), (.int left)])
        have hc13 : ¬ (left < (2 : Int32)) := (fun q => absurd (Int32.lt_iff_toInt_lt.mp q) ((by show ¬ (left.toInt < 2); omega : ¬ (left.toInt < 2))))
        refine own_go (fun _ => XS.icmpNo XL.here hx rfl (hb hby d1_13) rfl (flt hc13).1) ?_
        show GG _ _ _ _ _ _ _ TL (mkF m 16 #[.val (.long q0), .second, .val (.int p1), .val (.ref a2), .val (.int p3), .val (.long rest), .second, .val (.int i), .val (.int left), .val (.long z), .second, .val (.int t)] [])
        refine own_go (fun _ => XS.lload XL.here hx rfl (hb hby d1_16) rfl) ?_
        show GG _ _ _ _ _ _ _ TL (mkF m 18 #[.val (.long q0), .second, .val (.int p1), .val (.ref a2), .val (.int p3), .val (.long rest), .second, .val (.int i), .val (.int left), .val (.long z), .second, .val (.int t)] [(.long rest)])
        refine own_go (fun _ => XL.ldc2Long hx hown (mvT hZ (hw _ (List.mem_of_getElem? (i := 7) rfl))) (g := (mkF m 18 #[.val (.long q0), .second, .val (.int p1), .val (.ref a2), .val (.int p3), .val (.long rest), .second, .val (.int i), .val (.int left), .val (.long z), .second, .val (.int t)] [(.long rest)])) rfl (hb hby d1_18) _) ?_
        show GG _ _ _ _ _ _ _ TL (mkF m 21 #[.val (.long q0), .second, .val (.int p1), .val (.ref a2), .val (.int p3), .val (.long rest), .second, .val (.int i), .val (.int left), .val (.long z), .second, .val (.int t)] [(.long (100 : Int64)), (.long rest)])
        refine own_go (fun _ => XS.ldiv XL.here hx rfl (hb hby d1_21) rfl (by decide)) ?_
        show GG _ _ _ _ _ _ _ TL (mkF m 22 #[.val (.long q0), .second, .val (.int p1), .val (.ref a2), .val (.int p3), .val (.long rest), .second, .val (.int i), .val (.int left), .val (.long z), .second, .val (.int t)] [(.long (rest / (100 : Int64)))])
        have cx31 := c_ldiv rest (100 : Int64) 100 (by decide) (by decide)
        generalize hx31 : (rest / (100 : Int64)) = x31 at cx31 ⊢
        have rx31 := rng64 x31
        refine own_go (fun _ => XS.lstore XL.here hx rfl (hb hby d1_22) rfl (l' := #[.val (.long q0), .second, .val (.int p1), .val (.ref a2), .val (.int p3), .val (.long rest), .second, .val (.int i), .val (.int left), .val (.long x31), .second, .val (.int t)]) rfl) ?_
        show GG _ _ _ _ _ _ _ TL (mkF m 24 #[.val (.long q0), .second, .val (.int p1), .val (.ref a2), .val (.int p3), .val (.long rest), .second, .val (.int i), .val (.int left), .val (.long x31), .second, .val (.int t)] [])
        have ex31 : x31.toInt = rest.toInt / 100 := cx31.1 (by omega)
        clear cx31
        refine own_go (fun _ => XS.lload XL.here hx rfl (hb hby d1_24) rfl) ?_
        show GG _ _ _ _ _ _ _ TL (mkF m 26 #[.val (.long q0), .second, .val (.int p1), .val (.ref a2), .val (.int p3), .val (.long rest), .second, .val (.int i), .val (.int left), .val (.long x31), .second, .val (.int t)] [(.long rest)])
        refine own_go (fun _ => XS.lload XL.here hx rfl (hb hby d1_26) rfl) ?_
        show GG _ _ _ _ _ _ _ TL (mkF m 28 #[.val (.long q0), .second, .val (.int p1), .val (.ref a2), .val (.int p3), .val (.long rest), .second, .val (.int i), .val (.int left), .val (.long x31), .second, .val (.int t)] [(.long x31), (.long rest)])
        refine own_go (fun _ => XL.ldc2Long hx hown (mvT hZ (hw _ (List.mem_of_getElem? (i := 7) rfl))) (g := (mkF m 28 #[.val (.long q0), .second, .val (.int p1), .val (.ref a2), .val (.int p3), .val (.long rest), .second, .val (.int i), .val (.int left), .val (.long x31), .second, .val (.int t)] [(.long x31), (.long rest)])) rfl (hb hby d1_28) _) ?_
        show GG _ _ _ _ _ _ _ TL (mkF m 31 #[.val (.long q0), .second, .val (.int p1), .val (.ref a2), .val (.int p3), .val (.long rest), .second, .val (.int i), .val (.int left), .val (.long x31), .second, .val (.int t)] [(.long (100 : Int64)), (.long x31), (.long rest)])
        refine own_go (fun _ => XS.lmul XL.here hx rfl (hb hby d1_31) rfl) ?_
        show GG _ _ _ _ _ _ _ TL (mkF m 32 #[.val (.long q0), .second, .val (.int p1), .val (.ref a2), .val (.int p3), .val (.long rest), .second, .val (.int i), .val (.int left), .val (.long x31), .second, .val (.int t)] [(.long (x31 * (100 : Int64))), (.long rest)])
        have cx32 := c_lmul x31 (100 : Int64)
        simp only [show ((100 : Int64)).toInt = 100 from by decide] at cx32
        generalize hx32 : (x31 * (100 : Int64)) = x32 at cx32 ⊢
        have rx32 := rng64 x32
        have dx32 : x32.toInt = x31.toInt * 100 := by omega
        clear cx32
        refine own_go (fun _ => XS.lsub XL.here hx rfl (hb hby d1_32) rfl) ?_
        show GG _ _ _ _ _ _ _ TL (mkF m 33 #[.val (.long q0), .second, .val (.int p1), .val (.ref a2), .val (.int p3), .val (.long rest), .second, .val (.int i), .val (.int left), .val (.long x31), .second, .val (.int t)] [(.long (rest - x32))])
        have cx33 := c_lsub rest x32
        generalize hx33 : (rest - x32) = x33 at cx33 ⊢
        have rx33 := rng64 x33
        have dx33 : x33.toInt = rest.toInt - x32.toInt := by omega
        clear cx33
        refine own_go (fun _ => XS.l2i XL.here hx rfl (hb hby d1_33) rfl) ?_
        show GG _ _ _ _ _ _ _ TL (mkF m 34 #[.val (.long q0), .second, .val (.int p1), .val (.ref a2), .val (.int p3), .val (.long rest), .second, .val (.int i), .val (.int left), .val (.long x31), .second, .val (.int t)] [(.int (x33.toInt32))])
        have cx34 := c_l2i x33
        generalize hx34 : (x33.toInt32) = x34 at cx34 ⊢
        have rx34 := rng32 x34
        have dx34 : x34.toInt = x33.toInt := by omega
        clear cx34
        refine own_go (fun _ => XS.istore XL.here hx rfl (hb hby d1_34) rfl (l' := #[.val (.long q0), .second, .val (.int p1), .val (.ref a2), .val (.int p3), .val (.long rest), .second, .val (.int i), .val (.int left), .val (.long x31), .second, .val (.int x34)]) rfl) ?_
        show GG _ _ _ _ _ _ _ TL (mkF m 36 #[.val (.long q0), .second, .val (.int p1), .val (.ref a2), .val (.int p3), .val (.long rest), .second, .val (.int i), .val (.int left), .val (.long x31), .second, .val (.int x34)] [])
        refine own_go (fun _ => XS.aloadN XL.here hx rfl (hb hby d1_36) rfl rfl) ?_
        show GG _ _ _ _ _ _ _ TL (mkF m 37 #[.val (.long q0), .second, .val (.int p1), .val (.ref a2), .val (.int p3), .val (.long rest), .second, .val (.int i), .val (.int left), .val (.long x31), .second, .val (.int x34)] [(.ref a2)])
        refine own_go (fun _ => XS.iinc XL.here hx rfl (hb hby d1_37) rfl (l' := #[.val (.long q0), .second, .val (.int p1), .val (.ref a2), .val (.int p3), .val (.long rest), .second, .val (.int (i + (-1 : Int32))), .val (.int left), .val (.long x31), .second, .val (.int x34)]) rfl) ?_
        show GG _ _ _ _ _ _ _ TL (mkF m 40 #[.val (.long q0), .second, .val (.int p1), .val (.ref a2), .val (.int p3), .val (.long rest), .second, .val (.int (i + (-1 : Int32))), .val (.int left), .val (.long x31), .second, .val (.int x34)] [(.ref a2)])
        have cx35 := c_iadd i (-1 : Int32)
        simp only [show ((-1 : Int32)).toInt = -1 from by decide] at cx35
        generalize hx35 : (i + (-1 : Int32)) = x35 at cx35 ⊢
        have rx35 := rng32 x35
        have dx35 : x35.toInt = i.toInt + -1 := by omega
        clear cx35
        refine own_go (fun _ => XS.iload XL.here hx rfl (hb hby d1_40) rfl) ?_
        show GG _ _ _ _ _ _ _ TL (mkF m 42 #[.val (.long q0), .second, .val (.int p1), .val (.ref a2), .val (.int p3), .val (.long rest), .second, .val (.int x35), .val (.int left), .val (.long x31), .second, .val (.int x34)] [(.int x35), (.ref a2)])
        have S_s' := S_s.ext O0.2
        have A_s' := A_s.ext O0.2
        obtain ⟨T36, X36, e36, st36⟩ := getS2 XL hx hZ hown (host := "") (Or.inl (hw _ (List.mem_of_getElem? (i := 8) rfl))) Via.refl eL S_s' (g := (mkF m 42 #[.val (.long q0), .second, .val (.int p1), .val (.ref a2), .val (.int p3), .val (.long rest), .second, .val (.int x35), .val (.int left), .val (.long x31), .second, .val (.int x34)] [(.int x35), (.ref a2)])) rfl (hb hby d1_42)
        refine own_go (fun _ => st36 _) ?_
        show GG _ _ _ _ _ _ _ T36 (mkF m 45 #[.val (.long q0), .second, .val (.int p1), .val (.ref a2), .val (.int p3), .val (.long rest), .second, .val (.int x35), .val (.int left), .val (.long x31), .second, .val (.int x34)] [(.ref wAs), (.int x35), (.ref a2)])
        refine own_go (fun _ => XS.iload X36.here hx rfl (hb hby d1_45) rfl) ?_
        show GG _ _ _ _ _ _ _ T36 (mkF m 47 #[.val (.long q0), .second, .val (.int p1), .val (.ref a2), .val (.int p3), .val (.long rest), .second, .val (.int x35), .val (.int left), .val (.long x31), .second, .val (.int x34)] [(.int x34), (.ref wAs), (.int x35), (.ref a2)])
        obtain ⟨hins, hats⟩ := hts x34 (by omega) (by omega)
        refine own_go (fun _ => X36.caload hx (j := x34) (v := (.int (Int32.ofNat (48 + x34.toInt.toNat % 10)))) (by rw [e36]; exact A_s'.1) (State.isArrayOf_alike hZ.alike A_s'.2.1) A_s'.2.2 hins hats (g := (mkF m 47 #[.val (.long q0), .second, .val (.int p1), .val (.ref a2), .val (.int p3), .val (.long rest), .second, .val (.int x35), .val (.int left), .val (.long x31), .second, .val (.int x34)] [(.int x34), (.ref wAs), (.int x35), (.ref a2)])) rfl rfl (hb hby d1_47) _) ?_
        show GG _ _ _ _ _ _ _ T36 (mkF m 48 #[.val (.long q0), .second, .val (.int p1), .val (.ref a2), .val (.int p3), .val (.long rest), .second, .val (.int x35), .val (.int left), .val (.long x31), .second, .val (.int x34)] [(.int (Int32.ofNat (48 + x34.toInt.toNat % 10))), (.int x35), (.ref a2)])
        obtain ⟨T37, h37, X37, e37, W37, V37, st37⟩ := own_castore X36 hx hZ e36 V_2 (own_nn (by omega)) (by rw [List.length_map, own_ol]; simp only [Int32.toNatClampNeg]; omega) (g := (mkF m 48 #[.val (.long q0), .second, .val (.int p1), .val (.ref a2), .val (.int p3), .val (.long rest), .second, .val (.int x35), .val (.int left), .val (.long x31), .second, .val (.int x34)] [(.int (Int32.ofNat (48 + x34.toInt.toNat % 10))), (.int x35), (.ref a2)])) rfl rfl (hb hby d1_48)
        have O0 := O0.wr W37 g_2
        have K0 := K0.wr W37 (Or.inl (List.mem_of_getElem? (i := 0) rfl))
        have V_2 : Arx Z h37 a2 .char ((outL V (d + 1) eN).map Value.int) := (own_cs (by rw [own_t48 (by omega)]; omega) (by omega) (by omega) he22 V37)
        have N37 := Fr.snoc X37 NL g_2
        refine own_go (fun _ => st37 _) ?_
        show GG _ _ _ _ _ _ _ T37 (mkF m 49 #[.val (.long q0), .second, .val (.int p1), .val (.ref a2), .val (.int p3), .val (.long rest), .second, .val (.int x35), .val (.int left), .val (.long x31), .second, .val (.int x34)] [])
        refine own_go (fun _ => XS.aloadN X37.here hx rfl (hb hby d1_49) rfl rfl) ?_
        show GG _ _ _ _ _ _ _ T37 (mkF m 50 #[.val (.long q0), .second, .val (.int p1), .val (.ref a2), .val (.int p3), .val (.long rest), .second, .val (.int x35), .val (.int left), .val (.long x31), .second, .val (.int x34)] [(.ref a2)])
        refine own_go (fun _ => XS.iinc X37.here hx rfl (hb hby d1_50) rfl (l' := #[.val (.long q0), .second, .val (.int p1), .val (.ref a2), .val (.int p3), .val (.long rest), .second, .val (.int (x35 + (-1 : Int32))), .val (.int left), .val (.long x31), .second, .val (.int x34)]) rfl) ?_
        show GG _ _ _ _ _ _ _ T37 (mkF m 53 #[.val (.long q0), .second, .val (.int p1), .val (.ref a2), .val (.int p3), .val (.long rest), .second, .val (.int (x35 + (-1 : Int32))), .val (.int left), .val (.long x31), .second, .val (.int x34)] [(.ref a2)])
        have cx38 := c_iadd x35 (-1 : Int32)
        simp only [show ((-1 : Int32)).toInt = -1 from by decide] at cx38
        generalize hx38 : (x35 + (-1 : Int32)) = x38 at cx38 ⊢
        have rx38 := rng32 x38
        have dx38 : x38.toInt = x35.toInt + -1 := by omega
        clear cx38
        refine own_go (fun _ => XS.iload X37.here hx rfl (hb hby d1_53) rfl) ?_
        show GG _ _ _ _ _ _ _ T37 (mkF m 55 #[.val (.long q0), .second, .val (.int p1), .val (.ref a2), .val (.int p3), .val (.long rest), .second, .val (.int x38), .val (.int left), .val (.long x31), .second, .val (.int x34)] [(.int x38), (.ref a2)])
        have S_f' := S_f.ext O0.2
        have A_f' := A_f.ext O0.2
        obtain ⟨T39, X39, e39, st39⟩ := getS2 X37 hx hZ hown (host := "") (Or.inl (hw _ (List.mem_of_getElem? (i := 10) rfl))) Via.refl e37 S_f' (g := (mkF m 55 #[.val (.long q0), .second, .val (.int p1), .val (.ref a2), .val (.int p3), .val (.long rest), .second, .val (.int x38), .val (.int left), .val (.long x31), .second, .val (.int x34)] [(.int x38), (.ref a2)])) rfl (hb hby d1_55)
        refine own_go (fun _ => st39 _) ?_
        show GG _ _ _ _ _ _ _ T39 (mkF m 58 #[.val (.long q0), .second, .val (.int p1), .val (.ref a2), .val (.int p3), .val (.long rest), .second, .val (.int x38), .val (.int left), .val (.long x31), .second, .val (.int x34)] [(.ref wAf), (.int x38), (.ref a2)])
        refine own_go (fun _ => XS.iload X39.here hx rfl (hb hby d1_58) rfl) ?_
        show GG _ _ _ _ _ _ _ T39 (mkF m 60 #[.val (.long q0), .second, .val (.int p1), .val (.ref a2), .val (.int p3), .val (.long rest), .second, .val (.int x38), .val (.int left), .val (.long x31), .second, .val (.int x34)] [(.int x34), (.ref wAf), (.int x38), (.ref a2)])
        obtain ⟨hinf, hatf⟩ := htf x34 (by omega) (by omega)
        refine own_go (fun _ => X39.caload hx (j := x34) (v := (.int (Int32.ofNat (48 + x34.toInt.toNat / 10)))) (by rw [e39]; exact A_f'.1) (State.isArrayOf_alike hZ.alike A_f'.2.1) A_f'.2.2 hinf hatf (g := (mkF m 60 #[.val (.long q0), .second, .val (.int p1), .val (.ref a2), .val (.int p3), .val (.long rest), .second, .val (.int x38), .val (.int left), .val (.long x31), .second, .val (.int x34)] [(.int x34), (.ref wAf), (.int x38), (.ref a2)])) rfl rfl (hb hby d1_60) _) ?_
        show GG _ _ _ _ _ _ _ T39 (mkF m 61 #[.val (.long q0), .second, .val (.int p1), .val (.ref a2), .val (.int p3), .val (.long rest), .second, .val (.int x38), .val (.int left), .val (.long x31), .second, .val (.int x34)] [(.int (Int32.ofNat (48 + x34.toInt.toNat / 10))), (.int x38), (.ref a2)])
        obtain ⟨T40, h40, X40, e40, W40, V40, st40⟩ := own_castore X39 hx hZ e39 V_2 (own_nn (by omega)) (by rw [List.length_map, own_ol]; simp only [Int32.toNatClampNeg]; omega) (g := (mkF m 61 #[.val (.long q0), .second, .val (.int p1), .val (.ref a2), .val (.int p3), .val (.long rest), .second, .val (.int x38), .val (.int left), .val (.long x31), .second, .val (.int x34)] [(.int (Int32.ofNat (48 + x34.toInt.toNat / 10))), (.int x38), (.ref a2)])) rfl rfl (hb hby d1_61)
        have O0 := O0.wr W40 g_2
        have K0 := K0.wr W40 (Or.inl (List.mem_of_getElem? (i := 0) rfl))
        have V_2 : Arx Z h40 a2 .char ((outL V (d + 2) eN).map Value.int) := (own_cs (by rw [own_t48 (by omega)]; omega) (by omega) (by omega) he22 V40)
        have N40 := Fr.snoc X40 N37 g_2
        refine own_go (fun _ => st40 _) ?_
        show GG _ _ _ _ _ _ _ T40 (mkF m 62 #[.val (.long q0), .second, .val (.int p1), .val (.ref a2), .val (.int p3), .val (.long rest), .second, .val (.int x38), .val (.int left), .val (.long x31), .second, .val (.int x34)] [])
        refine own_go (fun _ => XS.lload X40.here hx rfl (hb hby d1_62) rfl) ?_
        show GG _ _ _ _ _ _ _ T40 (mkF m 64 #[.val (.long q0), .second, .val (.int p1), .val (.ref a2), .val (.int p3), .val (.long rest), .second, .val (.int x38), .val (.int left), .val (.long x31), .second, .val (.int x34)] [(.long x31)])
        refine own_go (fun _ => XS.lstore X40.here hx rfl (hb hby d1_64) rfl (l' := #[.val (.long q0), .second, .val (.int p1), .val (.ref a2), .val (.int p3), .val (.long x31), .second, .val (.int x38), .val (.int left), .val (.long x31), .second, .val (.int x34)]) rfl) ?_
        show GG _ _ _ _ _ _ _ T40 (mkF m 66 #[.val (.long q0), .second, .val (.int p1), .val (.ref a2), .val (.int p3), .val (.long x31), .second, .val (.int x38), .val (.int left), .val (.long x31), .second, .val (.int x34)] [])
        refine own_go (fun _ => XS.iinc X40.here hx rfl (hb hby d1_66) rfl (l' := #[.val (.long q0), .second, .val (.int p1), .val (.ref a2), .val (.int p3), .val (.long x31), .second, .val (.int x38), .val (.int (left + (-2 : Int32))), .val (.long x31), .second, .val (.int x34)]) rfl) ?_
        show GG _ _ _ _ _ _ _ T40 (mkF m 69 #[.val (.long q0), .second, .val (.int p1), .val (.ref a2), .val (.int p3), .val (.long x31), .second, .val (.int x38), .val (.int (left + (-2 : Int32))), .val (.long x31), .second, .val (.int x34)] [])
        have cx41 := c_iadd left (-2 : Int32)
        simp only [show ((-2 : Int32)).toInt = -2 from by decide] at cx41
        generalize hx41 : (left + (-2 : Int32)) = x41 at cx41 ⊢
        have rx41 := rng32 x41
        have dx41 : x41.toInt = left.toInt + -2 := by omega
        clear cx41
        refine own_go (fun _ => XS.goto X40.here hx rfl (pc0 := 69) (pc' := 10) rfl (hb hby d1_69) (by decide) (by decide)) ?_
        show GG _ _ _ _ _ _ _ T40 (mkF m 10 #[.val (.long q0), .second, .val (.int p1), .val (.ref a2), .val (.int p3), .val (.long x31), .second, .val (.int x38), .val (.int x41), .val (.long x31), .second, .val (.int x34)] [])
        exact ih (d + 2) x31 x38 x41 _ _ _ T40 _ _ X40 e40 N40 (Or.inr ⟨_, _, rfl, rfl, rfl⟩) (by rw [own_pow2, hr]; omega) (by omega) (by omega) (by omega) V_2 O0 K0
  exact loop1 (cN / 2) 0 q0 p3 p1 .unset .unset .unset s₁ h0 _ X0 e0 N0 (Or.inl ⟨rfl, rfl, rfl⟩) (by rw [hV]; simp) (by omega) (by omega) (by omega) V_2 O0 K0
theorem own_p19 (k : Nat) (h : k < 19) : ∃ z : Int64, ([.long (1 : Int64), .long (10 : Int64), .long (100 : Int64), .long (1000 : Int64), .long (10000 : Int64), .long (100000 : Int64), .long (1000000 : Int64), .long (10000000 : Int64), .long (100000000 : Int64), .long (1000000000 : Int64), .long (10000000000 : Int64), .long (100000000000 : Int64), .long (1000000000000 : Int64), .long (10000000000000 : Int64), .long (100000000000000 : Int64), .long (1000000000000000 : Int64), .long (10000000000000000 : Int64), .long (100000000000000000 : Int64), .long (1000000000000000000 : Int64)] : List Value)[k]? = some (.long z) ∧ z.toInt = (10 ^ k : Nat) := by
  match k, h with
  | 0, _ => exact ⟨1, rfl, by decide +kernel⟩
  | 1, _ => exact ⟨10, rfl, by decide +kernel⟩
  | 2, _ => exact ⟨100, rfl, by decide +kernel⟩
  | 3, _ => exact ⟨1000, rfl, by decide +kernel⟩
  | 4, _ => exact ⟨10000, rfl, by decide +kernel⟩
  | 5, _ => exact ⟨100000, rfl, by decide +kernel⟩
  | 6, _ => exact ⟨1000000, rfl, by decide +kernel⟩
  | 7, _ => exact ⟨10000000, rfl, by decide +kernel⟩
  | 8, _ => exact ⟨100000000, rfl, by decide +kernel⟩
  | 9, _ => exact ⟨1000000000, rfl, by decide +kernel⟩
  | 10, _ => exact ⟨10000000000, rfl, by decide +kernel⟩
  | 11, _ => exact ⟨100000000000, rfl, by decide +kernel⟩
  | 12, _ => exact ⟨1000000000000, rfl, by decide +kernel⟩
  | 13, _ => exact ⟨10000000000000, rfl, by decide +kernel⟩
  | 14, _ => exact ⟨100000000000000, rfl, by decide +kernel⟩
  | 15, _ => exact ⟨1000000000000000, rfl, by decide +kernel⟩
  | 16, _ => exact ⟨10000000000000000, rfl, by decide +kernel⟩
  | 17, _ => exact ⟨100000000000000000, rfl, by decide +kernel⟩
  | 18, _ => exact ⟨1000000000000000000, rfl, by decide +kernel⟩
  | k + 19, h => exact absurd h (by omega)
theorem own_pne {z : Int64} {k : Nat} (h : z.toInt = (10 ^ k : Nat)) : z ≠ 0 ∧ z ≠ -1 := by
  have p : 0 < 10 ^ k := Nat.pow_pos (by decide)
  exact ⟨fun q => by rw [q, show (0 : Int64).toInt = 0 from by decide] at h; omega, fun q => by rw [q, show (-1 : Int64).toInt = -1 from by decide] at h; omega⟩
theorem own_ldv {a z : Int64} {V k : Nat} (ha : a.toInt = V) (h : z.toInt = (10 ^ k : Nat)) : (a / z).toInt = (V / 10 ^ k : Nat) := by
  have q := (c_ldiv a z _ h (own_pne h).2).1 (by omega)
  rw [q, ha]; exact (Int.natCast_ediv _ _).symm
theorem own_big {V : Nat} (h : V < 9223372036854775808) : V / 10 ^ 19 = 0 := Nat.div_eq_of_lt (Nat.lt_trans h (by decide))
theorem own_outin {V c e i : Nat} (h : e ≤ i + c ∧ i < e) : outF V c e i = Int32.ofNat (48 + dg V (e - 1 - i)) := by unfold outF; rw [if_pos h]
theorem own_outo {V c e i : Nat} (h : ¬ (e ≤ i + c ∧ i < e)) : outF V c e i = 0 := by unfold outF; rw [if_neg h]
theorem pd__JI_CI_J_533 : parseMethodDescriptor "(JI[CI)J" = some ⟨[.long, .int, (.array .char), .int], some .long⟩ := by decide +kernel
theorem pn_com_example_breakwater_breakwater_model_DigitsWriteLowestPinLaw : plainName "com/example/breakwater/breakwater/model/DigitsWriteLowestPinLaw" = true := by first | (simp [plainName, overriddenIn]; done) | decide +kernel
theorem ef_0 (m : MethodId) (x0 : Int64) (x1 : Int32) (x2 : Int32) (x3 : Int32) : entryFrame m #[(.long x0), (.int x1), (.int x2), (.int x3)] maxLocals = mkF m 0 #[.val (.long x0), .second, .val (.int x1), .val (.int x2), .val (.int x3), .unset, .unset, .unset, .unset, .unset, .unset, .unset, .unset, .unset, .unset, .unset, .unset, .unset] [] := by first | (simp [entryFrame, mkF, argsToLocals, Value.category, maxLocals]; done) | rfl
def Q0 (Z : State) (q0 : Int64) (p1 : Int32) (p2 : Int32) (p3 : Int32) (wAs wAf : Addr) (h0 : Heap) (n0 : Nat) (v : Option Value) (h : Heap) (L : List Loc) : Prop := v = some (.int 1) ∧ Fr n0 L
set_option maxRecDepth 65536 in
set_option maxHeartbeats 40000000 in
theorem rm0 (l : Launch) (Z : State) (a0 : Array Value) (hw : ∀ d ∈ tables_1, d.before a0 Z = true) (ws : List Jvm.Cond) (q0 : Int64) (p1 : Int32) (p2 : Int32) (p3 : Int32) (wAs wAf : Addr) (h0 : Heap) (n0 : Nat) (Z0 : n0 ≤ h0.size) (O0 : Old Z n0 h0) (S_s : Sta Z Z.heap "com/example/breakwater/breakwater/model/Digits" "SECOND_OF_PAIR" "[C" (.ref wAs)) (T_s : Tab2 Z wAs (fun r => 48 + r % 10)) (S_f : Sta Z Z.heap "com/example/breakwater/breakwater/model/Digits" "FIRST_OF_PAIR" "[C" (.ref wAf)) (T_f : Tab2 Z wAf (fun r => 48 + r / 10)) :
    own_CT l Z x code maxLocals ret ws room_1 #[(.long q0), (.int p1), (.int p2), (.int p3)] h0 (Q0 Z q0 p1 p2 p3 wAs wAf h0 n0) := by
  refine MetFree.of_bodySF (plainFor_of_name pn_com_example_breakwater_breakwater_model_DigitsWriteLowestPinLaw) hisR ?_
  intro p e s m args below meth c s₁ Bd hml0 hP hK
  obtain ⟨rfl, hZ, hh⟩ := hP
  have hx := Bd.exec
  have hby := Bd.bytes
  have hml : c.maxLocals = 18 := hml0
  have hown : s.vm.findClass "com/example/breakwater/breakwater/model/DigitsWriteLowestPinLaw" = some m.cls := findClass_of_methodNamed Bd.named
  have hnm := (name_of_methodNamed Bd.named Bd.method).1
  have hlk : meth.locks = false := BodyLoose.notSynchronized Bd
  have X0 : Stand p l e room_1 s m #[(.long q0), (.int p1), (.int p2), (.int p3)] below meth c s₁ [] 0 0 := Stand.of_body Bd
  have e0 : s₁.heap = h0 := by rw [← hh, Bd.state]; rfl
  have N0 := Fr.nil n0
  show GG p e below s room_1.cells room_1.slots (Q0 Z q0 p1 p2 p3 wAs wAf h0 n0) s₁ (entryFrame m #[(.long q0), (.int p1), (.int p2), (.int p3)] maxLocals)
  refine own_in (ef_0 m q0 p1 p2 p3) ?_
  have K0 := Keep.refl h0 []
  show GG _ _ _ _ _ _ _ s₁ (mkF m 0 #[.val (.long q0), .second, .val (.int p1), .val (.int p2), .val (.int p3), .unset, .unset, .unset, .unset, .unset, .unset, .unset, .unset, .unset, .unset, .unset, .unset, .unset] [])
  refine own_go (fun _ => XS.lloadN X0.here hx rfl (hb hby at_0) rfl) ?_
  show GG _ _ _ _ _ _ _ s₁ (mkF m 1 #[.val (.long q0), .second, .val (.int p1), .val (.int p2), .val (.int p3), .unset, .unset, .unset, .unset, .unset, .unset, .unset, .unset, .unset, .unset, .unset, .unset, .unset] [(.long q0)])
  refine own_go (fun _ => X0.ldc2Long hx hown (mvT hZ (hw _ (List.mem_of_getElem? (i := 0) rfl))) (g := (mkF m 1 #[.val (.long q0), .second, .val (.int p1), .val (.int p2), .val (.int p3), .unset, .unset, .unset, .unset, .unset, .unset, .unset, .unset, .unset, .unset, .unset, .unset, .unset] [(.long q0)])) rfl (hb hby at_1) _) ?_
  show GG _ _ _ _ _ _ _ s₁ (mkF m 4 #[.val (.long q0), .second, .val (.int p1), .val (.int p2), .val (.int p3), .unset, .unset, .unset, .unset, .unset, .unset, .unset, .unset, .unset, .unset, .unset, .unset, .unset] [(.long (9223372036854775807 : Int64)), (.long q0)])
  refine own_go (fun _ => XS.land X0.here hx rfl (hb hby at_4) rfl) ?_
  show GG _ _ _ _ _ _ _ s₁ (mkF m 5 #[.val (.long q0), .second, .val (.int p1), .val (.int p2), .val (.int p3), .unset, .unset, .unset, .unset, .unset, .unset, .unset, .unset, .unset, .unset, .unset, .unset, .unset] [(.long (q0 &&& (9223372036854775807 : Int64)))])
  have cx1 := c_maskL q0 (9223372036854775807 : Int64) 63 (by decide) (by decide)
  generalize hx1 : (q0 &&& (9223372036854775807 : Int64)) = x1 at cx1 ⊢
  have rx1 := rng64 x1
  refine own_go (fun _ => XS.lstore X0.here hx rfl (hb hby at_5) rfl (l' := #[.val (.long q0), .second, .val (.int p1), .val (.int p2), .val (.int p3), .val (.long x1), .second, .unset, .unset, .unset, .unset, .unset, .unset, .unset, .unset, .unset, .unset, .unset]) rfl) ?_
  show GG _ _ _ _ _ _ _ s₁ (mkF m 7 #[.val (.long q0), .second, .val (.int p1), .val (.int p2), .val (.int p3), .val (.long x1), .second, .unset, .unset, .unset, .unset, .unset, .unset, .unset, .unset, .unset, .unset, .unset] [])
  refine own_go (fun _ => XS.iloadN X0.here hx rfl (hb hby at_7) rfl) ?_
  show GG _ _ _ _ _ _ _ s₁ (mkF m 8 #[.val (.long q0), .second, .val (.int p1), .val (.int p2), .val (.int p3), .val (.long x1), .second, .unset, .unset, .unset, .unset, .unset, .unset, .unset, .unset, .unset, .unset, .unset] [(.int p1)])
  refine own_go (fun _ => X0.ldcInt hx hown (mvT hZ (hw _ (List.mem_of_getElem? (i := 1) rfl))) (g := (mkF m 8 #[.val (.long q0), .second, .val (.int p1), .val (.int p2), .val (.int p3), .val (.long x1), .second, .unset, .unset, .unset, .unset, .unset, .unset, .unset, .unset, .unset, .unset, .unset] [(.int p1)])) rfl (hb hby at_8) _) ?_
  show GG _ _ _ _ _ _ _ s₁ (mkF m 10 #[.val (.long q0), .second, .val (.int p1), .val (.int p2), .val (.int p3), .val (.long x1), .second, .unset, .unset, .unset, .unset, .unset, .unset, .unset, .unset, .unset, .unset, .unset] [(.int (2147483647 : Int32)), (.int p1)])
  refine own_go (fun _ => XS.iand X0.here hx rfl (hb hby at_10) rfl) ?_
  show GG _ _ _ _ _ _ _ s₁ (mkF m 11 #[.val (.long q0), .second, .val (.int p1), .val (.int p2), .val (.int p3), .val (.long x1), .second, .unset, .unset, .unset, .unset, .unset, .unset, .unset, .unset, .unset, .unset, .unset] [(.int (p1 &&& (2147483647 : Int32)))])
  have cx2 := c_mask p1 (2147483647 : Int32) 31 (by decide) (by decide)
  generalize hx2 : (p1 &&& (2147483647 : Int32)) = x2 at cx2 ⊢
  have rx2 := rng32 x2
  refine own_go (fun _ => XS.bipush X0.here hx rfl (hb hby at_11)) ?_
  show GG _ _ _ _ _ _ _ s₁ (mkF m 13 #[.val (.long q0), .second, .val (.int p1), .val (.int p2), .val (.int p3), .val (.long x1), .second, .unset, .unset, .unset, .unset, .unset, .unset, .unset, .unset, .unset, .unset, .unset] [(.int (20 : Int32)), (.int x2)])
  refine own_go (fun _ => iremM X0 hx rfl (hb hby at_13) rfl (by decide)) ?_
  show GG _ _ _ _ _ _ _ s₁ (mkF m 14 #[.val (.long q0), .second, .val (.int p1), .val (.int p2), .val (.int p3), .val (.long x1), .second, .unset, .unset, .unset, .unset, .unset, .unset, .unset, .unset, .unset, .unset, .unset] [(.int (x2 % (20 : Int32)))])
  have cx3 := c_irem x2 (20 : Int32) 20 (by decide)
  generalize hx3 : (x2 % (20 : Int32)) = x3 at cx3 ⊢
  have rx3 := rng32 x3
  refine own_go (fun _ => XS.istore X0.here hx rfl (hb hby at_14) rfl (l' := #[.val (.long q0), .second, .val (.int p1), .val (.int p2), .val (.int p3), .val (.long x1), .second, .val (.int x3), .unset, .unset, .unset, .unset, .unset, .unset, .unset, .unset, .unset, .unset]) rfl) ?_
  show GG _ _ _ _ _ _ _ s₁ (mkF m 16 #[.val (.long q0), .second, .val (.int p1), .val (.int p2), .val (.int p3), .val (.long x1), .second, .val (.int x3), .unset, .unset, .unset, .unset, .unset, .unset, .unset, .unset, .unset, .unset] [])
  refine own_go (fun _ => XS.iload X0.here hx rfl (hb hby at_16) rfl) ?_
  show GG _ _ _ _ _ _ _ s₁ (mkF m 18 #[.val (.long q0), .second, .val (.int p1), .val (.int p2), .val (.int p3), .val (.long x1), .second, .val (.int x3), .unset, .unset, .unset, .unset, .unset, .unset, .unset, .unset, .unset, .unset] [(.int x3)])
  refine own_go (fun _ => XS.iloadN X0.here hx rfl (hb hby at_18) rfl) ?_
  show GG _ _ _ _ _ _ _ s₁ (mkF m 19 #[.val (.long q0), .second, .val (.int p1), .val (.int p2), .val (.int p3), .val (.long x1), .second, .val (.int x3), .unset, .unset, .unset, .unset, .unset, .unset, .unset, .unset, .unset, .unset] [(.int p2), (.int x3)])
  refine own_go (fun _ => X0.ldcInt hx hown (mvT hZ (hw _ (List.mem_of_getElem? (i := 1) rfl))) (g := (mkF m 19 #[.val (.long q0), .second, .val (.int p1), .val (.int p2), .val (.int p3), .val (.long x1), .second, .val (.int x3), .unset, .unset, .unset, .unset, .unset, .unset, .unset, .unset, .unset, .unset] [(.int p2), (.int x3)])) rfl (hb hby at_19) _) ?_
  show GG _ _ _ _ _ _ _ s₁ (mkF m 21 #[.val (.long q0), .second, .val (.int p1), .val (.int p2), .val (.int p3), .val (.long x1), .second, .val (.int x3), .unset, .unset, .unset, .unset, .unset, .unset, .unset, .unset, .unset, .unset] [(.int (2147483647 : Int32)), (.int p2), (.int x3)])
  refine own_go (fun _ => XS.iand X0.here hx rfl (hb hby at_21) rfl) ?_
  show GG _ _ _ _ _ _ _ s₁ (mkF m 22 #[.val (.long q0), .second, .val (.int p1), .val (.int p2), .val (.int p3), .val (.long x1), .second, .val (.int x3), .unset, .unset, .unset, .unset, .unset, .unset, .unset, .unset, .unset, .unset] [(.int (p2 &&& (2147483647 : Int32))), (.int x3)])
  have cx4 := c_mask p2 (2147483647 : Int32) 31 (by decide) (by decide)
  generalize hx4 : (p2 &&& (2147483647 : Int32)) = x4 at cx4 ⊢
  have rx4 := rng32 x4
  refine own_go (fun _ => XS.bipush X0.here hx rfl (hb hby at_22)) ?_
  show GG _ _ _ _ _ _ _ s₁ (mkF m 24 #[.val (.long q0), .second, .val (.int p1), .val (.int p2), .val (.int p3), .val (.long x1), .second, .val (.int x3), .unset, .unset, .unset, .unset, .unset, .unset, .unset, .unset, .unset, .unset] [(.int (23 : Int32)), (.int x4), (.int x3)])
  refine own_go (fun _ => XS.iload X0.here hx rfl (hb hby at_24) rfl) ?_
  show GG _ _ _ _ _ _ _ s₁ (mkF m 26 #[.val (.long q0), .second, .val (.int p1), .val (.int p2), .val (.int p3), .val (.long x1), .second, .val (.int x3), .unset, .unset, .unset, .unset, .unset, .unset, .unset, .unset, .unset, .unset] [(.int x3), (.int (23 : Int32)), (.int x4), (.int x3)])
  refine own_go (fun _ => XS.isub X0.here hx rfl (hb hby at_26) rfl) ?_
  show GG _ _ _ _ _ _ _ s₁ (mkF m 27 #[.val (.long q0), .second, .val (.int p1), .val (.int p2), .val (.int p3), .val (.long x1), .second, .val (.int x3), .unset, .unset, .unset, .unset, .unset, .unset, .unset, .unset, .unset, .unset] [(.int ((23 : Int32) - x3)), (.int x4), (.int x3)])
  have cx5 := c_isub (23 : Int32) x3
  simp only [show ((23 : Int32)).toInt = 23 from by decide] at cx5
  generalize hx5 : ((23 : Int32) - x3) = x5 at cx5 ⊢
  have rx5 := rng32 x5
  have dx5 : x5.toInt = 23 - x3.toInt := by omega
  clear cx5
  have hnz : x5 ≠ 0 := fun q => absurd (Int32.toInt_inj.mpr q) (by show ¬ x5.toInt = 0; omega)
  refine own_go (fun _ => iremM X0 hx rfl (hb hby at_27) rfl hnz) ?_
  show GG _ _ _ _ _ _ _ s₁ (mkF m 28 #[.val (.long q0), .second, .val (.int p1), .val (.int p2), .val (.int p3), .val (.long x1), .second, .val (.int x3), .unset, .unset, .unset, .unset, .unset, .unset, .unset, .unset, .unset, .unset] [(.int (x4 % x5)), (.int x3)])
  have cx6 := c_iremV x4 x5
  generalize hx6 : (x4 % x5) = x6 at cx6 ⊢
  have rx6 := rng32 x6
  have qx6 := cx6.1 (by omega) (by omega)
  clear cx6
  refine own_go (fun _ => XS.iadd X0.here hx rfl (hb hby at_28) rfl) ?_
  show GG _ _ _ _ _ _ _ s₁ (mkF m 29 #[.val (.long q0), .second, .val (.int p1), .val (.int p2), .val (.int p3), .val (.long x1), .second, .val (.int x3), .unset, .unset, .unset, .unset, .unset, .unset, .unset, .unset, .unset, .unset] [(.int (x3 + x6))])
  have cx7 := c_iadd x3 x6
  generalize hx7 : (x3 + x6) = x7 at cx7 ⊢
  have rx7 := rng32 x7
  have dx7 : x7.toInt = x3.toInt + x6.toInt := by omega
  clear cx7
  refine own_go (fun _ => XS.istore X0.here hx rfl (hb hby at_29) rfl (l' := #[.val (.long q0), .second, .val (.int p1), .val (.int p2), .val (.int p3), .val (.long x1), .second, .val (.int x3), .val (.int x7), .unset, .unset, .unset, .unset, .unset, .unset, .unset, .unset, .unset]) rfl) ?_
  show GG _ _ _ _ _ _ _ s₁ (mkF m 31 #[.val (.long q0), .second, .val (.int p1), .val (.int p2), .val (.int p3), .val (.long x1), .second, .val (.int x3), .val (.int x7), .unset, .unset, .unset, .unset, .unset, .unset, .unset, .unset, .unset] [])
  refine own_go (fun _ => XS.iload X0.here hx rfl (hb hby at_31) rfl) ?_
  show GG _ _ _ _ _ _ _ s₁ (mkF m 33 #[.val (.long q0), .second, .val (.int p1), .val (.int p2), .val (.int p3), .val (.long x1), .second, .val (.int x3), .val (.int x7), .unset, .unset, .unset, .unset, .unset, .unset, .unset, .unset, .unset] [(.int p3)])
  refine own_go (fun _ => X0.ldcInt hx hown (mvT hZ (hw _ (List.mem_of_getElem? (i := 1) rfl))) (g := (mkF m 33 #[.val (.long q0), .second, .val (.int p1), .val (.int p2), .val (.int p3), .val (.long x1), .second, .val (.int x3), .val (.int x7), .unset, .unset, .unset, .unset, .unset, .unset, .unset, .unset, .unset] [(.int p3)])) rfl (hb hby at_33) _) ?_
  show GG _ _ _ _ _ _ _ s₁ (mkF m 35 #[.val (.long q0), .second, .val (.int p1), .val (.int p2), .val (.int p3), .val (.long x1), .second, .val (.int x3), .val (.int x7), .unset, .unset, .unset, .unset, .unset, .unset, .unset, .unset, .unset] [(.int (2147483647 : Int32)), (.int p3)])
  refine own_go (fun _ => XS.iand X0.here hx rfl (hb hby at_35) rfl) ?_
  show GG _ _ _ _ _ _ _ s₁ (mkF m 36 #[.val (.long q0), .second, .val (.int p1), .val (.int p2), .val (.int p3), .val (.long x1), .second, .val (.int x3), .val (.int x7), .unset, .unset, .unset, .unset, .unset, .unset, .unset, .unset, .unset] [(.int (p3 &&& (2147483647 : Int32)))])
  have cx8 := c_mask p3 (2147483647 : Int32) 31 (by decide) (by decide)
  generalize hx8 : (p3 &&& (2147483647 : Int32)) = x8 at cx8 ⊢
  have rx8 := rng32 x8
  refine own_go (fun _ => XS.bipush X0.here hx rfl (hb hby at_36)) ?_
  show GG _ _ _ _ _ _ _ s₁ (mkF m 38 #[.val (.long q0), .second, .val (.int p1), .val (.int p2), .val (.int p3), .val (.long x1), .second, .val (.int x3), .val (.int x7), .unset, .unset, .unset, .unset, .unset, .unset, .unset, .unset, .unset] [(.int (22 : Int32)), (.int x8)])
  refine own_go (fun _ => iremM X0 hx rfl (hb hby at_38) rfl (by decide)) ?_
  show GG _ _ _ _ _ _ _ s₁ (mkF m 39 #[.val (.long q0), .second, .val (.int p1), .val (.int p2), .val (.int p3), .val (.long x1), .second, .val (.int x3), .val (.int x7), .unset, .unset, .unset, .unset, .unset, .unset, .unset, .unset, .unset] [(.int (x8 % (22 : Int32)))])
  have cx9 := c_irem x8 (22 : Int32) 22 (by decide)
  generalize hx9 : (x8 % (22 : Int32)) = x9 at cx9 ⊢
  have rx9 := rng32 x9
  refine own_go (fun _ => XS.istore X0.here hx rfl (hb hby at_39) rfl (l' := #[.val (.long q0), .second, .val (.int p1), .val (.int p2), .val (.int p3), .val (.long x1), .second, .val (.int x3), .val (.int x7), .val (.int x9), .unset, .unset, .unset, .unset, .unset, .unset, .unset, .unset]) rfl) ?_
  show GG _ _ _ _ _ _ _ s₁ (mkF m 41 #[.val (.long q0), .second, .val (.int p1), .val (.int p2), .val (.int p3), .val (.long x1), .second, .val (.int x3), .val (.int x7), .val (.int x9), .unset, .unset, .unset, .unset, .unset, .unset, .unset, .unset] [])
  refine own_go (fun _ => XS.bipush X0.here hx rfl (hb hby at_41)) ?_
  show GG _ _ _ _ _ _ _ s₁ (mkF m 43 #[.val (.long q0), .second, .val (.int p1), .val (.int p2), .val (.int p3), .val (.long x1), .second, .val (.int x3), .val (.int x7), .val (.int x9), .unset, .unset, .unset, .unset, .unset, .unset, .unset, .unset] [(.int (22 : Int32))])
  obtain ⟨T10, h10, ob10, g10, X10, e10, E10, V_ob10, E_ob10, st10⟩ := own_newarr X0 hx hZ (hw _ (List.mem_of_getElem? (i := 2) rfl)) e0 (g := (mkF m 43 #[.val (.long q0), .second, .val (.int p1), .val (.int p2), .val (.int p3), .val (.long x1), .second, .val (.int x3), .val (.int x7), .val (.int x9), .unset, .unset, .unset, .unset, .unset, .unset, .unset, .unset] [(.int (22 : Int32))])) rfl (hb hby at_43) rfl (by decide) (cap := 22) (by decide) (by decide) (by decide) (by decide) (ad := "[C") (by decide)
  have sz_ob10 : h0.size ≤ ob10 := Nat.le_trans K0.1 (Nat.le_of_eq g10.symm)
  have g_ob10 : n0 ≤ ob10 := Nat.le_trans Z0 sz_ob10
  have K0 := K0.ext E10
  have O0 := O0.ext E10
  have V_ob10 : Arx Z h10 ob10 .char [(.int (0 : Int32)), (.int (0 : Int32)), (.int (0 : Int32)), (.int (0 : Int32)), (.int (0 : Int32)), (.int (0 : Int32)), (.int (0 : Int32)), (.int (0 : Int32)), (.int (0 : Int32)), (.int (0 : Int32)), (.int (0 : Int32)), (.int (0 : Int32)), (.int (0 : Int32)), (.int (0 : Int32)), (.int (0 : Int32)), (.int (0 : Int32)), (.int (0 : Int32)), (.int (0 : Int32)), (.int (0 : Int32)), (.int (0 : Int32)), (.int (0 : Int32)), (.int (0 : Int32))] := V_ob10
  refine own_go (fun _ => st10 _) ?_
  show GG _ _ _ _ _ _ _ T10 (mkF m 45 #[.val (.long q0), .second, .val (.int p1), .val (.int p2), .val (.int p3), .val (.long x1), .second, .val (.int x3), .val (.int x7), .val (.int x9), .unset, .unset, .unset, .unset, .unset, .unset, .unset, .unset] [(.ref ob10)])
  refine own_go (fun _ => XS.astore X10.here hx rfl (hb hby at_45) rfl rfl (l' := #[.val (.long q0), .second, .val (.int p1), .val (.int p2), .val (.int p3), .val (.long x1), .second, .val (.int x3), .val (.int x7), .val (.int x9), .val (.ref ob10), .unset, .unset, .unset, .unset, .unset, .unset, .unset]) rfl) ?_
  show GG _ _ _ _ _ _ _ T10 (mkF m 47 #[.val (.long q0), .second, .val (.int p1), .val (.int p2), .val (.int p3), .val (.long x1), .second, .val (.int x3), .val (.int x7), .val (.int x9), .val (.ref ob10), .unset, .unset, .unset, .unset, .unset, .unset, .unset] [])
  obtain ⟨V, hV⟩ : ∃ z : Nat, x1.toInt = z := ⟨x1.toInt.toNat, by omega⟩
  obtain ⟨cN, hc⟩ : ∃ z : Nat, x3.toInt = z := ⟨x3.toInt.toNat, by omega⟩
  obtain ⟨eN, he⟩ : ∃ z : Nat, x7.toInt = z := ⟨x7.toInt.toNat, by omega⟩
  obtain ⟨tN, ht⟩ : ∃ z : Nat, x9.toInt = z := ⟨x9.toInt.toNat, by omega⟩
  have V00 : Arx Z h10 ob10 .char ((outL V 0 eN).map Value.int) := by rw [own_out0]; exact V_ob10
  refine own_go (fun _ => XS.lload X10.here hx rfl (hb hby at_47) rfl) ?_
  show GG _ _ _ _ _ _ _ T10 (mkF m 49 #[.val (.long q0), .second, .val (.int p1), .val (.int p2), .val (.int p3), .val (.long x1), .second, .val (.int x3), .val (.int x7), .val (.int x9), .val (.ref ob10), .unset, .unset, .unset, .unset, .unset, .unset, .unset] [(.long x1)])
  refine own_go (fun _ => XS.iload X10.here hx rfl (hb hby at_49) rfl) ?_
  show GG _ _ _ _ _ _ _ T10 (mkF m 51 #[.val (.long q0), .second, .val (.int p1), .val (.int p2), .val (.int p3), .val (.long x1), .second, .val (.int x3), .val (.int x7), .val (.int x9), .val (.ref ob10), .unset, .unset, .unset, .unset, .unset, .unset, .unset] [(.int x3), (.long x1)])
  refine own_go (fun _ => XS.aload X10.here hx rfl (hb hby at_51) rfl rfl) ?_
  show GG _ _ _ _ _ _ _ T10 (mkF m 53 #[.val (.long q0), .second, .val (.int p1), .val (.int p2), .val (.int p3), .val (.long x1), .second, .val (.int x3), .val (.int x7), .val (.int x9), .val (.ref ob10), .unset, .unset, .unset, .unset, .unset, .unset, .unset] [(.ref ob10), (.int x3), (.long x1)])
  refine own_go (fun _ => XS.iload X10.here hx rfl (hb hby at_53) rfl) ?_
  show GG _ _ _ _ _ _ _ T10 (mkF m 55 #[.val (.long q0), .second, .val (.int p1), .val (.int p2), .val (.int p3), .val (.long x1), .second, .val (.int x3), .val (.int x7), .val (.int x9), .val (.ref ob10), .unset, .unset, .unset, .unset, .unset, .unset, .unset] [(.int x7), (.ref ob10), (.int x3), (.long x1)])
  refine own_callS X10 hx hZ (y := (⟨"com/example/breakwater/breakwater/model/Digits", "writeLowest", "(JI[CI)J"⟩ : MethodName)) 0 hown (hw _ (List.mem_of_getElem? (i := 3) rfl)) (hw _ (List.mem_of_getElem? (i := 4) rfl)) (hw _ (List.mem_of_getElem? (i := 5) rfl)) (hw _ (List.mem_of_getElem? (i := 6) rfl)) (by decide) (argsL := [(.long x1), (.int x3), (.ref ob10), (.int x7)]) (rest := []) (rm1 l Z a0 hw [] x1 x3 ob10 x7 wAs wAf V cN eN h10 n0 (Nat.le_trans Z0 K0.1) O0 S_s T_s S_f T_f V00 g_ob10 hV hc he (by omega) (by omega)) (by decide) (by decide) (by decide) (by decide) (g := (mkF m 55 #[.val (.long q0), .second, .val (.int p1), .val (.int p2), .val (.int p3), .val (.long x1), .second, .val (.int x3), .val (.int x7), .val (.int x9), .val (.ref ob10), .unset, .unset, .unset, .unset, .unset, .unset, .unset] [(.int x7), (.ref ob10), (.int x3), (.long x1)])) rfl (by rw [hml]; rfl) (lenOf pd__JI_CI_J_533 rfl) rfl (by show 2 * 0 + _ ≤ _; exact Nat.le_of_eq rfl) (hb hby at_55) e10 ?_
  rintro v11 T11 L11 X11 ⟨rq11, rfl, hr11, N11q, Kq11, Vq11⟩
  have N11 := Fr.app N0 N11q
  have K0 := K0.trans Kq11 (allS (Or.inr sz_ob10) all0)
  have O0 := O0.keep Kq11 (allS g_ob10 all0)
  have E_ob10 := E_ob10.keep Kq11
  show GG _ _ _ _ _ _ _ T11 (mkF m 58 #[.val (.long q0), .second, .val (.int p1), .val (.int p2), .val (.int p3), .val (.long x1), .second, .val (.int x3), .val (.int x7), .val (.int x9), .val (.ref ob10), .unset, .unset, .unset, .unset, .unset, .unset, .unset] [(.long rq11)])
  refine own_go (fun _ => XS.lstore X11.here hx rfl (hb hby at_58) rfl (l' := #[.val (.long q0), .second, .val (.int p1), .val (.int p2), .val (.int p3), .val (.long x1), .second, .val (.int x3), .val (.int x7), .val (.int x9), .val (.ref ob10), .val (.long rq11), .second, .unset, .unset, .unset, .unset, .unset]) rfl) ?_
  show GG _ _ _ _ _ _ _ T11 (mkF m 60 #[.val (.long q0), .second, .val (.int p1), .val (.int p2), .val (.int p3), .val (.long x1), .second, .val (.int x3), .val (.int x7), .val (.int x9), .val (.ref ob10), .val (.long rq11), .second, .unset, .unset, .unset, .unset, .unset] [])
  refine own_go (fun _ => XS.bipush X11.here hx rfl (hb hby at_60)) ?_
  show GG _ _ _ _ _ _ _ T11 (mkF m 62 #[.val (.long q0), .second, .val (.int p1), .val (.int p2), .val (.int p3), .val (.long x1), .second, .val (.int x3), .val (.int x7), .val (.int x9), .val (.ref ob10), .val (.long rq11), .second, .unset, .unset, .unset, .unset, .unset] [(.int (19 : Int32))])
  obtain ⟨T12, h12, ob12, g12, X12, e12, E12, V_ob12, E_ob12, st12⟩ := own_newarr X11 hx hZ (hw _ (List.mem_of_getElem? (i := 12) rfl)) rfl (g := (mkF m 62 #[.val (.long q0), .second, .val (.int p1), .val (.int p2), .val (.int p3), .val (.long x1), .second, .val (.int x3), .val (.int x7), .val (.int x9), .val (.ref ob10), .val (.long rq11), .second, .unset, .unset, .unset, .unset, .unset] [(.int (19 : Int32))])) rfl (hb hby at_62) rfl (by decide) (cap := 19) (by decide) (by decide) (by decide) (by decide) (ad := "[J") (by decide)
  have ne_ob10_ob12 : ob10 ≠ ob12 := Nat.ne_of_lt (Nat.lt_of_lt_of_le Vq11.lt (Nat.le_of_eq g12.symm))
  have sz_ob12 : h0.size ≤ ob12 := Nat.le_trans K0.1 (Nat.le_of_eq g12.symm)
  have g_ob12 : n0 ≤ ob12 := Nat.le_trans Z0 sz_ob12
  have K0 := K0.ext E12
  have O0 := O0.ext E12
  have Vq11 := Vq11.ext E12
  have E_ob10 := E_ob10.ext E12
  have V_ob12 : Arx Z h12 ob12 .long [(.long (0 : Int64)), (.long (0 : Int64)), (.long (0 : Int64)), (.long (0 : Int64)), (.long (0 : Int64)), (.long (0 : Int64)), (.long (0 : Int64)), (.long (0 : Int64)), (.long (0 : Int64)), (.long (0 : Int64)), (.long (0 : Int64)), (.long (0 : Int64)), (.long (0 : Int64)), (.long (0 : Int64)), (.long (0 : Int64)), (.long (0 : Int64)), (.long (0 : Int64)), (.long (0 : Int64)), (.long (0 : Int64))] := V_ob12
  refine own_go (fun _ => st12 _) ?_
  show GG _ _ _ _ _ _ _ T12 (mkF m 64 #[.val (.long q0), .second, .val (.int p1), .val (.int p2), .val (.int p3), .val (.long x1), .second, .val (.int x3), .val (.int x7), .val (.int x9), .val (.ref ob10), .val (.long rq11), .second, .unset, .unset, .unset, .unset, .unset] [(.ref ob12)])
  refine own_go (fun _ => XS.dup X12.here hx rfl (hb hby at_64) rfl rfl) ?_
  show GG _ _ _ _ _ _ _ T12 (mkF m 65 #[.val (.long q0), .second, .val (.int p1), .val (.int p2), .val (.int p3), .val (.long x1), .second, .val (.int x3), .val (.int x7), .val (.int x9), .val (.ref ob10), .val (.long rq11), .second, .unset, .unset, .unset, .unset, .unset] [(.ref ob12), (.ref ob12)])
  refine own_go (fun _ => XS.iconst X12.here hx rfl (hb hby at_65)) ?_
  show GG _ _ _ _ _ _ _ T12 (mkF m 66 #[.val (.long q0), .second, .val (.int p1), .val (.int p2), .val (.int p3), .val (.long x1), .second, .val (.int x3), .val (.int x7), .val (.int x9), .val (.ref ob10), .val (.long rq11), .second, .unset, .unset, .unset, .unset, .unset] [(.int (0 : Int32)), (.ref ob12), (.ref ob12)])
  refine own_go (fun _ => XS.lconst X12.here hx rfl (hb hby at_66)) ?_
  show GG _ _ _ _ _ _ _ T12 (mkF m 67 #[.val (.long q0), .second, .val (.int p1), .val (.int p2), .val (.int p3), .val (.long x1), .second, .val (.int x3), .val (.int x7), .val (.int x9), .val (.ref ob10), .val (.long rq11), .second, .unset, .unset, .unset, .unset, .unset] [(.long (1 : Int64)), (.int (0 : Int32)), (.ref ob12), (.ref ob12)])
  obtain ⟨T13, h13, X13, e13, W13, V13, st13⟩ := own_lastore X12 hx hZ e12 V_ob12 (by decide) (Nat.le_of_ble_eq_true rfl) (g := (mkF m 67 #[.val (.long q0), .second, .val (.int p1), .val (.int p2), .val (.int p3), .val (.long x1), .second, .val (.int x3), .val (.int x7), .val (.int x9), .val (.ref ob10), .val (.long rq11), .second, .unset, .unset, .unset, .unset, .unset] [(.long (1 : Int64)), (.int (0 : Int32)), (.ref ob12), (.ref ob12)])) rfl rfl (hb hby at_67)
  have K0 := K0.wr W13 (Or.inr sz_ob12)
  have O0 := O0.wr W13 g_ob12
  have Vq11 := Vq11.other W13 ne_ob10_ob12
  have E_ob10 := E_ob10.wr W13
  have E_ob12 := E_ob12.wr W13
  have V_ob12 : Arx Z h13 ob12 .long [(.long (1 : Int64)), (.long (0 : Int64)), (.long (0 : Int64)), (.long (0 : Int64)), (.long (0 : Int64)), (.long (0 : Int64)), (.long (0 : Int64)), (.long (0 : Int64)), (.long (0 : Int64)), (.long (0 : Int64)), (.long (0 : Int64)), (.long (0 : Int64)), (.long (0 : Int64)), (.long (0 : Int64)), (.long (0 : Int64)), (.long (0 : Int64)), (.long (0 : Int64)), (.long (0 : Int64)), (.long (0 : Int64))] := V13
  have N13 := Fr.snoc X13 N11 g_ob12
  refine own_go (fun _ => st13 _) ?_
  show GG _ _ _ _ _ _ _ T13 (mkF m 68 #[.val (.long q0), .second, .val (.int p1), .val (.int p2), .val (.int p3), .val (.long x1), .second, .val (.int x3), .val (.int x7), .val (.int x9), .val (.ref ob10), .val (.long rq11), .second, .unset, .unset, .unset, .unset, .unset] [(.ref ob12)])
  refine own_go (fun _ => XS.dup X13.here hx rfl (hb hby at_68) rfl rfl) ?_
  show GG _ _ _ _ _ _ _ T13 (mkF m 69 #[.val (.long q0), .second, .val (.int p1), .val (.int p2), .val (.int p3), .val (.long x1), .second, .val (.int x3), .val (.int x7), .val (.int x9), .val (.ref ob10), .val (.long rq11), .second, .unset, .unset, .unset, .unset, .unset] [(.ref ob12), (.ref ob12)])
  refine own_go (fun _ => XS.iconst X13.here hx rfl (hb hby at_69)) ?_
  show GG _ _ _ _ _ _ _ T13 (mkF m 70 #[.val (.long q0), .second, .val (.int p1), .val (.int p2), .val (.int p3), .val (.long x1), .second, .val (.int x3), .val (.int x7), .val (.int x9), .val (.ref ob10), .val (.long rq11), .second, .unset, .unset, .unset, .unset, .unset] [(.int (1 : Int32)), (.ref ob12), (.ref ob12)])
  refine own_go (fun _ => X13.ldc2Long hx hown (mvT hZ (hw _ (List.mem_of_getElem? (i := 13) rfl))) (g := (mkF m 70 #[.val (.long q0), .second, .val (.int p1), .val (.int p2), .val (.int p3), .val (.long x1), .second, .val (.int x3), .val (.int x7), .val (.int x9), .val (.ref ob10), .val (.long rq11), .second, .unset, .unset, .unset, .unset, .unset] [(.int (1 : Int32)), (.ref ob12), (.ref ob12)])) rfl (hb hby at_70) _) ?_
  show GG _ _ _ _ _ _ _ T13 (mkF m 73 #[.val (.long q0), .second, .val (.int p1), .val (.int p2), .val (.int p3), .val (.long x1), .second, .val (.int x3), .val (.int x7), .val (.int x9), .val (.ref ob10), .val (.long rq11), .second, .unset, .unset, .unset, .unset, .unset] [(.long (10 : Int64)), (.int (1 : Int32)), (.ref ob12), (.ref ob12)])
  obtain ⟨T14, h14, X14, e14, W14, V14, st14⟩ := own_lastore X13 hx hZ e13 V_ob12 (by decide) (Nat.le_of_ble_eq_true rfl) (g := (mkF m 73 #[.val (.long q0), .second, .val (.int p1), .val (.int p2), .val (.int p3), .val (.long x1), .second, .val (.int x3), .val (.int x7), .val (.int x9), .val (.ref ob10), .val (.long rq11), .second, .unset, .unset, .unset, .unset, .unset] [(.long (10 : Int64)), (.int (1 : Int32)), (.ref ob12), (.ref ob12)])) rfl rfl (hb hby at_73)
  have K0 := K0.wr W14 (Or.inr sz_ob12)
  have O0 := O0.wr W14 g_ob12
  have Vq11 := Vq11.other W14 ne_ob10_ob12
  have E_ob10 := E_ob10.wr W14
  have E_ob12 := E_ob12.wr W14
  have V_ob12 : Arx Z h14 ob12 .long [(.long (1 : Int64)), (.long (10 : Int64)), (.long (0 : Int64)), (.long (0 : Int64)), (.long (0 : Int64)), (.long (0 : Int64)), (.long (0 : Int64)), (.long (0 : Int64)), (.long (0 : Int64)), (.long (0 : Int64)), (.long (0 : Int64)), (.long (0 : Int64)), (.long (0 : Int64)), (.long (0 : Int64)), (.long (0 : Int64)), (.long (0 : Int64)), (.long (0 : Int64)), (.long (0 : Int64)), (.long (0 : Int64))] := V14
  have N14 := Fr.snoc X14 N13 g_ob12
  refine own_go (fun _ => st14 _) ?_
  show GG _ _ _ _ _ _ _ T14 (mkF m 74 #[.val (.long q0), .second, .val (.int p1), .val (.int p2), .val (.int p3), .val (.long x1), .second, .val (.int x3), .val (.int x7), .val (.int x9), .val (.ref ob10), .val (.long rq11), .second, .unset, .unset, .unset, .unset, .unset] [(.ref ob12)])
  refine own_go (fun _ => XS.dup X14.here hx rfl (hb hby at_74) rfl rfl) ?_
  show GG _ _ _ _ _ _ _ T14 (mkF m 75 #[.val (.long q0), .second, .val (.int p1), .val (.int p2), .val (.int p3), .val (.long x1), .second, .val (.int x3), .val (.int x7), .val (.int x9), .val (.ref ob10), .val (.long rq11), .second, .unset, .unset, .unset, .unset, .unset] [(.ref ob12), (.ref ob12)])
  refine own_go (fun _ => XS.iconst X14.here hx rfl (hb hby at_75)) ?_
  show GG _ _ _ _ _ _ _ T14 (mkF m 76 #[.val (.long q0), .second, .val (.int p1), .val (.int p2), .val (.int p3), .val (.long x1), .second, .val (.int x3), .val (.int x7), .val (.int x9), .val (.ref ob10), .val (.long rq11), .second, .unset, .unset, .unset, .unset, .unset] [(.int (2 : Int32)), (.ref ob12), (.ref ob12)])
  refine own_go (fun _ => X14.ldc2Long hx hown (mvT hZ (hw _ (List.mem_of_getElem? (i := 14) rfl))) (g := (mkF m 76 #[.val (.long q0), .second, .val (.int p1), .val (.int p2), .val (.int p3), .val (.long x1), .second, .val (.int x3), .val (.int x7), .val (.int x9), .val (.ref ob10), .val (.long rq11), .second, .unset, .unset, .unset, .unset, .unset] [(.int (2 : Int32)), (.ref ob12), (.ref ob12)])) rfl (hb hby at_76) _) ?_
  show GG _ _ _ _ _ _ _ T14 (mkF m 79 #[.val (.long q0), .second, .val (.int p1), .val (.int p2), .val (.int p3), .val (.long x1), .second, .val (.int x3), .val (.int x7), .val (.int x9), .val (.ref ob10), .val (.long rq11), .second, .unset, .unset, .unset, .unset, .unset] [(.long (100 : Int64)), (.int (2 : Int32)), (.ref ob12), (.ref ob12)])
  obtain ⟨T15, h15, X15, e15, W15, V15, st15⟩ := own_lastore X14 hx hZ e14 V_ob12 (by decide) (Nat.le_of_ble_eq_true rfl) (g := (mkF m 79 #[.val (.long q0), .second, .val (.int p1), .val (.int p2), .val (.int p3), .val (.long x1), .second, .val (.int x3), .val (.int x7), .val (.int x9), .val (.ref ob10), .val (.long rq11), .second, .unset, .unset, .unset, .unset, .unset] [(.long (100 : Int64)), (.int (2 : Int32)), (.ref ob12), (.ref ob12)])) rfl rfl (hb hby at_79)
  have K0 := K0.wr W15 (Or.inr sz_ob12)
  have O0 := O0.wr W15 g_ob12
  have Vq11 := Vq11.other W15 ne_ob10_ob12
  have E_ob10 := E_ob10.wr W15
  have E_ob12 := E_ob12.wr W15
  have V_ob12 : Arx Z h15 ob12 .long [(.long (1 : Int64)), (.long (10 : Int64)), (.long (100 : Int64)), (.long (0 : Int64)), (.long (0 : Int64)), (.long (0 : Int64)), (.long (0 : Int64)), (.long (0 : Int64)), (.long (0 : Int64)), (.long (0 : Int64)), (.long (0 : Int64)), (.long (0 : Int64)), (.long (0 : Int64)), (.long (0 : Int64)), (.long (0 : Int64)), (.long (0 : Int64)), (.long (0 : Int64)), (.long (0 : Int64)), (.long (0 : Int64))] := V15
  have N15 := Fr.snoc X15 N14 g_ob12
  refine own_go (fun _ => st15 _) ?_
  show GG _ _ _ _ _ _ _ T15 (mkF m 80 #[.val (.long q0), .second, .val (.int p1), .val (.int p2), .val (.int p3), .val (.long x1), .second, .val (.int x3), .val (.int x7), .val (.int x9), .val (.ref ob10), .val (.long rq11), .second, .unset, .unset, .unset, .unset, .unset] [(.ref ob12)])
  refine own_go (fun _ => XS.dup X15.here hx rfl (hb hby at_80) rfl rfl) ?_
  show GG _ _ _ _ _ _ _ T15 (mkF m 81 #[.val (.long q0), .second, .val (.int p1), .val (.int p2), .val (.int p3), .val (.long x1), .second, .val (.int x3), .val (.int x7), .val (.int x9), .val (.ref ob10), .val (.long rq11), .second, .unset, .unset, .unset, .unset, .unset] [(.ref ob12), (.ref ob12)])
  refine own_go (fun _ => XS.iconst X15.here hx rfl (hb hby at_81)) ?_
  show GG _ _ _ _ _ _ _ T15 (mkF m 82 #[.val (.long q0), .second, .val (.int p1), .val (.int p2), .val (.int p3), .val (.long x1), .second, .val (.int x3), .val (.int x7), .val (.int x9), .val (.ref ob10), .val (.long rq11), .second, .unset, .unset, .unset, .unset, .unset] [(.int (3 : Int32)), (.ref ob12), (.ref ob12)])
  refine own_go (fun _ => X15.ldc2Long hx hown (mvT hZ (hw _ (List.mem_of_getElem? (i := 15) rfl))) (g := (mkF m 82 #[.val (.long q0), .second, .val (.int p1), .val (.int p2), .val (.int p3), .val (.long x1), .second, .val (.int x3), .val (.int x7), .val (.int x9), .val (.ref ob10), .val (.long rq11), .second, .unset, .unset, .unset, .unset, .unset] [(.int (3 : Int32)), (.ref ob12), (.ref ob12)])) rfl (hb hby at_82) _) ?_
  show GG _ _ _ _ _ _ _ T15 (mkF m 85 #[.val (.long q0), .second, .val (.int p1), .val (.int p2), .val (.int p3), .val (.long x1), .second, .val (.int x3), .val (.int x7), .val (.int x9), .val (.ref ob10), .val (.long rq11), .second, .unset, .unset, .unset, .unset, .unset] [(.long (1000 : Int64)), (.int (3 : Int32)), (.ref ob12), (.ref ob12)])
  obtain ⟨T16, h16, X16, e16, W16, V16, st16⟩ := own_lastore X15 hx hZ e15 V_ob12 (by decide) (Nat.le_of_ble_eq_true rfl) (g := (mkF m 85 #[.val (.long q0), .second, .val (.int p1), .val (.int p2), .val (.int p3), .val (.long x1), .second, .val (.int x3), .val (.int x7), .val (.int x9), .val (.ref ob10), .val (.long rq11), .second, .unset, .unset, .unset, .unset, .unset] [(.long (1000 : Int64)), (.int (3 : Int32)), (.ref ob12), (.ref ob12)])) rfl rfl (hb hby at_85)
  have K0 := K0.wr W16 (Or.inr sz_ob12)
  have O0 := O0.wr W16 g_ob12
  have Vq11 := Vq11.other W16 ne_ob10_ob12
  have E_ob10 := E_ob10.wr W16
  have E_ob12 := E_ob12.wr W16
  have V_ob12 : Arx Z h16 ob12 .long [(.long (1 : Int64)), (.long (10 : Int64)), (.long (100 : Int64)), (.long (1000 : Int64)), (.long (0 : Int64)), (.long (0 : Int64)), (.long (0 : Int64)), (.long (0 : Int64)), (.long (0 : Int64)), (.long (0 : Int64)), (.long (0 : Int64)), (.long (0 : Int64)), (.long (0 : Int64)), (.long (0 : Int64)), (.long (0 : Int64)), (.long (0 : Int64)), (.long (0 : Int64)), (.long (0 : Int64)), (.long (0 : Int64))] := V16
  have N16 := Fr.snoc X16 N15 g_ob12
  refine own_go (fun _ => st16 _) ?_
  show GG _ _ _ _ _ _ _ T16 (mkF m 86 #[.val (.long q0), .second, .val (.int p1), .val (.int p2), .val (.int p3), .val (.long x1), .second, .val (.int x3), .val (.int x7), .val (.int x9), .val (.ref ob10), .val (.long rq11), .second, .unset, .unset, .unset, .unset, .unset] [(.ref ob12)])
  refine own_go (fun _ => XS.dup X16.here hx rfl (hb hby at_86) rfl rfl) ?_
  show GG _ _ _ _ _ _ _ T16 (mkF m 87 #[.val (.long q0), .second, .val (.int p1), .val (.int p2), .val (.int p3), .val (.long x1), .second, .val (.int x3), .val (.int x7), .val (.int x9), .val (.ref ob10), .val (.long rq11), .second, .unset, .unset, .unset, .unset, .unset] [(.ref ob12), (.ref ob12)])
  refine own_go (fun _ => XS.iconst X16.here hx rfl (hb hby at_87)) ?_
  show GG _ _ _ _ _ _ _ T16 (mkF m 88 #[.val (.long q0), .second, .val (.int p1), .val (.int p2), .val (.int p3), .val (.long x1), .second, .val (.int x3), .val (.int x7), .val (.int x9), .val (.ref ob10), .val (.long rq11), .second, .unset, .unset, .unset, .unset, .unset] [(.int (4 : Int32)), (.ref ob12), (.ref ob12)])
  refine own_go (fun _ => X16.ldc2Long hx hown (mvT hZ (hw _ (List.mem_of_getElem? (i := 16) rfl))) (g := (mkF m 88 #[.val (.long q0), .second, .val (.int p1), .val (.int p2), .val (.int p3), .val (.long x1), .second, .val (.int x3), .val (.int x7), .val (.int x9), .val (.ref ob10), .val (.long rq11), .second, .unset, .unset, .unset, .unset, .unset] [(.int (4 : Int32)), (.ref ob12), (.ref ob12)])) rfl (hb hby at_88) _) ?_
  show GG _ _ _ _ _ _ _ T16 (mkF m 91 #[.val (.long q0), .second, .val (.int p1), .val (.int p2), .val (.int p3), .val (.long x1), .second, .val (.int x3), .val (.int x7), .val (.int x9), .val (.ref ob10), .val (.long rq11), .second, .unset, .unset, .unset, .unset, .unset] [(.long (10000 : Int64)), (.int (4 : Int32)), (.ref ob12), (.ref ob12)])
  obtain ⟨T17, h17, X17, e17, W17, V17, st17⟩ := own_lastore X16 hx hZ e16 V_ob12 (by decide) (Nat.le_of_ble_eq_true rfl) (g := (mkF m 91 #[.val (.long q0), .second, .val (.int p1), .val (.int p2), .val (.int p3), .val (.long x1), .second, .val (.int x3), .val (.int x7), .val (.int x9), .val (.ref ob10), .val (.long rq11), .second, .unset, .unset, .unset, .unset, .unset] [(.long (10000 : Int64)), (.int (4 : Int32)), (.ref ob12), (.ref ob12)])) rfl rfl (hb hby at_91)
  have K0 := K0.wr W17 (Or.inr sz_ob12)
  have O0 := O0.wr W17 g_ob12
  have Vq11 := Vq11.other W17 ne_ob10_ob12
  have E_ob10 := E_ob10.wr W17
  have E_ob12 := E_ob12.wr W17
  have V_ob12 : Arx Z h17 ob12 .long [(.long (1 : Int64)), (.long (10 : Int64)), (.long (100 : Int64)), (.long (1000 : Int64)), (.long (10000 : Int64)), (.long (0 : Int64)), (.long (0 : Int64)), (.long (0 : Int64)), (.long (0 : Int64)), (.long (0 : Int64)), (.long (0 : Int64)), (.long (0 : Int64)), (.long (0 : Int64)), (.long (0 : Int64)), (.long (0 : Int64)), (.long (0 : Int64)), (.long (0 : Int64)), (.long (0 : Int64)), (.long (0 : Int64))] := V17
  have N17 := Fr.snoc X17 N16 g_ob12
  refine own_go (fun _ => st17 _) ?_
  show GG _ _ _ _ _ _ _ T17 (mkF m 92 #[.val (.long q0), .second, .val (.int p1), .val (.int p2), .val (.int p3), .val (.long x1), .second, .val (.int x3), .val (.int x7), .val (.int x9), .val (.ref ob10), .val (.long rq11), .second, .unset, .unset, .unset, .unset, .unset] [(.ref ob12)])
  refine own_go (fun _ => XS.dup X17.here hx rfl (hb hby at_92) rfl rfl) ?_
  show GG _ _ _ _ _ _ _ T17 (mkF m 93 #[.val (.long q0), .second, .val (.int p1), .val (.int p2), .val (.int p3), .val (.long x1), .second, .val (.int x3), .val (.int x7), .val (.int x9), .val (.ref ob10), .val (.long rq11), .second, .unset, .unset, .unset, .unset, .unset] [(.ref ob12), (.ref ob12)])
  refine own_go (fun _ => XS.iconst X17.here hx rfl (hb hby at_93)) ?_
  show GG _ _ _ _ _ _ _ T17 (mkF m 94 #[.val (.long q0), .second, .val (.int p1), .val (.int p2), .val (.int p3), .val (.long x1), .second, .val (.int x3), .val (.int x7), .val (.int x9), .val (.ref ob10), .val (.long rq11), .second, .unset, .unset, .unset, .unset, .unset] [(.int (5 : Int32)), (.ref ob12), (.ref ob12)])
  refine own_go (fun _ => X17.ldc2Long hx hown (mvT hZ (hw _ (List.mem_of_getElem? (i := 17) rfl))) (g := (mkF m 94 #[.val (.long q0), .second, .val (.int p1), .val (.int p2), .val (.int p3), .val (.long x1), .second, .val (.int x3), .val (.int x7), .val (.int x9), .val (.ref ob10), .val (.long rq11), .second, .unset, .unset, .unset, .unset, .unset] [(.int (5 : Int32)), (.ref ob12), (.ref ob12)])) rfl (hb hby at_94) _) ?_
  show GG _ _ _ _ _ _ _ T17 (mkF m 97 #[.val (.long q0), .second, .val (.int p1), .val (.int p2), .val (.int p3), .val (.long x1), .second, .val (.int x3), .val (.int x7), .val (.int x9), .val (.ref ob10), .val (.long rq11), .second, .unset, .unset, .unset, .unset, .unset] [(.long (100000 : Int64)), (.int (5 : Int32)), (.ref ob12), (.ref ob12)])
  obtain ⟨T18, h18, X18, e18, W18, V18, st18⟩ := own_lastore X17 hx hZ e17 V_ob12 (by decide) (Nat.le_of_ble_eq_true rfl) (g := (mkF m 97 #[.val (.long q0), .second, .val (.int p1), .val (.int p2), .val (.int p3), .val (.long x1), .second, .val (.int x3), .val (.int x7), .val (.int x9), .val (.ref ob10), .val (.long rq11), .second, .unset, .unset, .unset, .unset, .unset] [(.long (100000 : Int64)), (.int (5 : Int32)), (.ref ob12), (.ref ob12)])) rfl rfl (hb hby at_97)
  have K0 := K0.wr W18 (Or.inr sz_ob12)
  have O0 := O0.wr W18 g_ob12
  have Vq11 := Vq11.other W18 ne_ob10_ob12
  have E_ob10 := E_ob10.wr W18
  have E_ob12 := E_ob12.wr W18
  have V_ob12 : Arx Z h18 ob12 .long [(.long (1 : Int64)), (.long (10 : Int64)), (.long (100 : Int64)), (.long (1000 : Int64)), (.long (10000 : Int64)), (.long (100000 : Int64)), (.long (0 : Int64)), (.long (0 : Int64)), (.long (0 : Int64)), (.long (0 : Int64)), (.long (0 : Int64)), (.long (0 : Int64)), (.long (0 : Int64)), (.long (0 : Int64)), (.long (0 : Int64)), (.long (0 : Int64)), (.long (0 : Int64)), (.long (0 : Int64)), (.long (0 : Int64))] := V18
  have N18 := Fr.snoc X18 N17 g_ob12
  refine own_go (fun _ => st18 _) ?_
  show GG _ _ _ _ _ _ _ T18 (mkF m 98 #[.val (.long q0), .second, .val (.int p1), .val (.int p2), .val (.int p3), .val (.long x1), .second, .val (.int x3), .val (.int x7), .val (.int x9), .val (.ref ob10), .val (.long rq11), .second, .unset, .unset, .unset, .unset, .unset] [(.ref ob12)])
  refine own_go (fun _ => XS.dup X18.here hx rfl (hb hby at_98) rfl rfl) ?_
  show GG _ _ _ _ _ _ _ T18 (mkF m 99 #[.val (.long q0), .second, .val (.int p1), .val (.int p2), .val (.int p3), .val (.long x1), .second, .val (.int x3), .val (.int x7), .val (.int x9), .val (.ref ob10), .val (.long rq11), .second, .unset, .unset, .unset, .unset, .unset] [(.ref ob12), (.ref ob12)])
  refine own_go (fun _ => XS.bipush X18.here hx rfl (hb hby at_99)) ?_
  show GG _ _ _ _ _ _ _ T18 (mkF m 101 #[.val (.long q0), .second, .val (.int p1), .val (.int p2), .val (.int p3), .val (.long x1), .second, .val (.int x3), .val (.int x7), .val (.int x9), .val (.ref ob10), .val (.long rq11), .second, .unset, .unset, .unset, .unset, .unset] [(.int (6 : Int32)), (.ref ob12), (.ref ob12)])
  refine own_go (fun _ => X18.ldc2Long hx hown (mvT hZ (hw _ (List.mem_of_getElem? (i := 18) rfl))) (g := (mkF m 101 #[.val (.long q0), .second, .val (.int p1), .val (.int p2), .val (.int p3), .val (.long x1), .second, .val (.int x3), .val (.int x7), .val (.int x9), .val (.ref ob10), .val (.long rq11), .second, .unset, .unset, .unset, .unset, .unset] [(.int (6 : Int32)), (.ref ob12), (.ref ob12)])) rfl (hb hby at_101) _) ?_
  show GG _ _ _ _ _ _ _ T18 (mkF m 104 #[.val (.long q0), .second, .val (.int p1), .val (.int p2), .val (.int p3), .val (.long x1), .second, .val (.int x3), .val (.int x7), .val (.int x9), .val (.ref ob10), .val (.long rq11), .second, .unset, .unset, .unset, .unset, .unset] [(.long (1000000 : Int64)), (.int (6 : Int32)), (.ref ob12), (.ref ob12)])
  obtain ⟨T19, h19, X19, e19, W19, V19, st19⟩ := own_lastore X18 hx hZ e18 V_ob12 (by decide) (Nat.le_of_ble_eq_true rfl) (g := (mkF m 104 #[.val (.long q0), .second, .val (.int p1), .val (.int p2), .val (.int p3), .val (.long x1), .second, .val (.int x3), .val (.int x7), .val (.int x9), .val (.ref ob10), .val (.long rq11), .second, .unset, .unset, .unset, .unset, .unset] [(.long (1000000 : Int64)), (.int (6 : Int32)), (.ref ob12), (.ref ob12)])) rfl rfl (hb hby at_104)
  have K0 := K0.wr W19 (Or.inr sz_ob12)
  have O0 := O0.wr W19 g_ob12
  have Vq11 := Vq11.other W19 ne_ob10_ob12
  have E_ob10 := E_ob10.wr W19
  have E_ob12 := E_ob12.wr W19
  have V_ob12 : Arx Z h19 ob12 .long [(.long (1 : Int64)), (.long (10 : Int64)), (.long (100 : Int64)), (.long (1000 : Int64)), (.long (10000 : Int64)), (.long (100000 : Int64)), (.long (1000000 : Int64)), (.long (0 : Int64)), (.long (0 : Int64)), (.long (0 : Int64)), (.long (0 : Int64)), (.long (0 : Int64)), (.long (0 : Int64)), (.long (0 : Int64)), (.long (0 : Int64)), (.long (0 : Int64)), (.long (0 : Int64)), (.long (0 : Int64)), (.long (0 : Int64))] := V19
  have N19 := Fr.snoc X19 N18 g_ob12
  refine own_go (fun _ => st19 _) ?_
  show GG _ _ _ _ _ _ _ T19 (mkF m 105 #[.val (.long q0), .second, .val (.int p1), .val (.int p2), .val (.int p3), .val (.long x1), .second, .val (.int x3), .val (.int x7), .val (.int x9), .val (.ref ob10), .val (.long rq11), .second, .unset, .unset, .unset, .unset, .unset] [(.ref ob12)])
  refine own_go (fun _ => XS.dup X19.here hx rfl (hb hby at_105) rfl rfl) ?_
  show GG _ _ _ _ _ _ _ T19 (mkF m 106 #[.val (.long q0), .second, .val (.int p1), .val (.int p2), .val (.int p3), .val (.long x1), .second, .val (.int x3), .val (.int x7), .val (.int x9), .val (.ref ob10), .val (.long rq11), .second, .unset, .unset, .unset, .unset, .unset] [(.ref ob12), (.ref ob12)])
  refine own_go (fun _ => XS.bipush X19.here hx rfl (hb hby at_106)) ?_
  show GG _ _ _ _ _ _ _ T19 (mkF m 108 #[.val (.long q0), .second, .val (.int p1), .val (.int p2), .val (.int p3), .val (.long x1), .second, .val (.int x3), .val (.int x7), .val (.int x9), .val (.ref ob10), .val (.long rq11), .second, .unset, .unset, .unset, .unset, .unset] [(.int (7 : Int32)), (.ref ob12), (.ref ob12)])
  refine own_go (fun _ => X19.ldc2Long hx hown (mvT hZ (hw _ (List.mem_of_getElem? (i := 19) rfl))) (g := (mkF m 108 #[.val (.long q0), .second, .val (.int p1), .val (.int p2), .val (.int p3), .val (.long x1), .second, .val (.int x3), .val (.int x7), .val (.int x9), .val (.ref ob10), .val (.long rq11), .second, .unset, .unset, .unset, .unset, .unset] [(.int (7 : Int32)), (.ref ob12), (.ref ob12)])) rfl (hb hby at_108) _) ?_
  show GG _ _ _ _ _ _ _ T19 (mkF m 111 #[.val (.long q0), .second, .val (.int p1), .val (.int p2), .val (.int p3), .val (.long x1), .second, .val (.int x3), .val (.int x7), .val (.int x9), .val (.ref ob10), .val (.long rq11), .second, .unset, .unset, .unset, .unset, .unset] [(.long (10000000 : Int64)), (.int (7 : Int32)), (.ref ob12), (.ref ob12)])
  obtain ⟨T20, h20, X20, e20, W20, V20, st20⟩ := own_lastore X19 hx hZ e19 V_ob12 (by decide) (Nat.le_of_ble_eq_true rfl) (g := (mkF m 111 #[.val (.long q0), .second, .val (.int p1), .val (.int p2), .val (.int p3), .val (.long x1), .second, .val (.int x3), .val (.int x7), .val (.int x9), .val (.ref ob10), .val (.long rq11), .second, .unset, .unset, .unset, .unset, .unset] [(.long (10000000 : Int64)), (.int (7 : Int32)), (.ref ob12), (.ref ob12)])) rfl rfl (hb hby at_111)
  have K0 := K0.wr W20 (Or.inr sz_ob12)
  have O0 := O0.wr W20 g_ob12
  have Vq11 := Vq11.other W20 ne_ob10_ob12
  have E_ob10 := E_ob10.wr W20
  have E_ob12 := E_ob12.wr W20
  have V_ob12 : Arx Z h20 ob12 .long [(.long (1 : Int64)), (.long (10 : Int64)), (.long (100 : Int64)), (.long (1000 : Int64)), (.long (10000 : Int64)), (.long (100000 : Int64)), (.long (1000000 : Int64)), (.long (10000000 : Int64)), (.long (0 : Int64)), (.long (0 : Int64)), (.long (0 : Int64)), (.long (0 : Int64)), (.long (0 : Int64)), (.long (0 : Int64)), (.long (0 : Int64)), (.long (0 : Int64)), (.long (0 : Int64)), (.long (0 : Int64)), (.long (0 : Int64))] := V20
  have N20 := Fr.snoc X20 N19 g_ob12
  refine own_go (fun _ => st20 _) ?_
  show GG _ _ _ _ _ _ _ T20 (mkF m 112 #[.val (.long q0), .second, .val (.int p1), .val (.int p2), .val (.int p3), .val (.long x1), .second, .val (.int x3), .val (.int x7), .val (.int x9), .val (.ref ob10), .val (.long rq11), .second, .unset, .unset, .unset, .unset, .unset] [(.ref ob12)])
  refine own_go (fun _ => XS.dup X20.here hx rfl (hb hby at_112) rfl rfl) ?_
  show GG _ _ _ _ _ _ _ T20 (mkF m 113 #[.val (.long q0), .second, .val (.int p1), .val (.int p2), .val (.int p3), .val (.long x1), .second, .val (.int x3), .val (.int x7), .val (.int x9), .val (.ref ob10), .val (.long rq11), .second, .unset, .unset, .unset, .unset, .unset] [(.ref ob12), (.ref ob12)])
  refine own_go (fun _ => XS.bipush X20.here hx rfl (hb hby at_113)) ?_
  show GG _ _ _ _ _ _ _ T20 (mkF m 115 #[.val (.long q0), .second, .val (.int p1), .val (.int p2), .val (.int p3), .val (.long x1), .second, .val (.int x3), .val (.int x7), .val (.int x9), .val (.ref ob10), .val (.long rq11), .second, .unset, .unset, .unset, .unset, .unset] [(.int (8 : Int32)), (.ref ob12), (.ref ob12)])
  refine own_go (fun _ => X20.ldc2Long hx hown (mvT hZ (hw _ (List.mem_of_getElem? (i := 20) rfl))) (g := (mkF m 115 #[.val (.long q0), .second, .val (.int p1), .val (.int p2), .val (.int p3), .val (.long x1), .second, .val (.int x3), .val (.int x7), .val (.int x9), .val (.ref ob10), .val (.long rq11), .second, .unset, .unset, .unset, .unset, .unset] [(.int (8 : Int32)), (.ref ob12), (.ref ob12)])) rfl (hb hby at_115) _) ?_
  show GG _ _ _ _ _ _ _ T20 (mkF m 118 #[.val (.long q0), .second, .val (.int p1), .val (.int p2), .val (.int p3), .val (.long x1), .second, .val (.int x3), .val (.int x7), .val (.int x9), .val (.ref ob10), .val (.long rq11), .second, .unset, .unset, .unset, .unset, .unset] [(.long (100000000 : Int64)), (.int (8 : Int32)), (.ref ob12), (.ref ob12)])
  obtain ⟨T21, h21, X21, e21, W21, V21, st21⟩ := own_lastore X20 hx hZ e20 V_ob12 (by decide) (Nat.le_of_ble_eq_true rfl) (g := (mkF m 118 #[.val (.long q0), .second, .val (.int p1), .val (.int p2), .val (.int p3), .val (.long x1), .second, .val (.int x3), .val (.int x7), .val (.int x9), .val (.ref ob10), .val (.long rq11), .second, .unset, .unset, .unset, .unset, .unset] [(.long (100000000 : Int64)), (.int (8 : Int32)), (.ref ob12), (.ref ob12)])) rfl rfl (hb hby at_118)
  have K0 := K0.wr W21 (Or.inr sz_ob12)
  have O0 := O0.wr W21 g_ob12
  have Vq11 := Vq11.other W21 ne_ob10_ob12
  have E_ob10 := E_ob10.wr W21
  have E_ob12 := E_ob12.wr W21
  have V_ob12 : Arx Z h21 ob12 .long [(.long (1 : Int64)), (.long (10 : Int64)), (.long (100 : Int64)), (.long (1000 : Int64)), (.long (10000 : Int64)), (.long (100000 : Int64)), (.long (1000000 : Int64)), (.long (10000000 : Int64)), (.long (100000000 : Int64)), (.long (0 : Int64)), (.long (0 : Int64)), (.long (0 : Int64)), (.long (0 : Int64)), (.long (0 : Int64)), (.long (0 : Int64)), (.long (0 : Int64)), (.long (0 : Int64)), (.long (0 : Int64)), (.long (0 : Int64))] := V21
  have N21 := Fr.snoc X21 N20 g_ob12
  refine own_go (fun _ => st21 _) ?_
  show GG _ _ _ _ _ _ _ T21 (mkF m 119 #[.val (.long q0), .second, .val (.int p1), .val (.int p2), .val (.int p3), .val (.long x1), .second, .val (.int x3), .val (.int x7), .val (.int x9), .val (.ref ob10), .val (.long rq11), .second, .unset, .unset, .unset, .unset, .unset] [(.ref ob12)])
  refine own_go (fun _ => XS.dup X21.here hx rfl (hb hby at_119) rfl rfl) ?_
  show GG _ _ _ _ _ _ _ T21 (mkF m 120 #[.val (.long q0), .second, .val (.int p1), .val (.int p2), .val (.int p3), .val (.long x1), .second, .val (.int x3), .val (.int x7), .val (.int x9), .val (.ref ob10), .val (.long rq11), .second, .unset, .unset, .unset, .unset, .unset] [(.ref ob12), (.ref ob12)])
  refine own_go (fun _ => XS.bipush X21.here hx rfl (hb hby at_120)) ?_
  show GG _ _ _ _ _ _ _ T21 (mkF m 122 #[.val (.long q0), .second, .val (.int p1), .val (.int p2), .val (.int p3), .val (.long x1), .second, .val (.int x3), .val (.int x7), .val (.int x9), .val (.ref ob10), .val (.long rq11), .second, .unset, .unset, .unset, .unset, .unset] [(.int (9 : Int32)), (.ref ob12), (.ref ob12)])
  refine own_go (fun _ => X21.ldc2Long hx hown (mvT hZ (hw _ (List.mem_of_getElem? (i := 21) rfl))) (g := (mkF m 122 #[.val (.long q0), .second, .val (.int p1), .val (.int p2), .val (.int p3), .val (.long x1), .second, .val (.int x3), .val (.int x7), .val (.int x9), .val (.ref ob10), .val (.long rq11), .second, .unset, .unset, .unset, .unset, .unset] [(.int (9 : Int32)), (.ref ob12), (.ref ob12)])) rfl (hb hby at_122) _) ?_
  show GG _ _ _ _ _ _ _ T21 (mkF m 125 #[.val (.long q0), .second, .val (.int p1), .val (.int p2), .val (.int p3), .val (.long x1), .second, .val (.int x3), .val (.int x7), .val (.int x9), .val (.ref ob10), .val (.long rq11), .second, .unset, .unset, .unset, .unset, .unset] [(.long (1000000000 : Int64)), (.int (9 : Int32)), (.ref ob12), (.ref ob12)])
  obtain ⟨T22, h22, X22, e22, W22, V22, st22⟩ := own_lastore X21 hx hZ e21 V_ob12 (by decide) (Nat.le_of_ble_eq_true rfl) (g := (mkF m 125 #[.val (.long q0), .second, .val (.int p1), .val (.int p2), .val (.int p3), .val (.long x1), .second, .val (.int x3), .val (.int x7), .val (.int x9), .val (.ref ob10), .val (.long rq11), .second, .unset, .unset, .unset, .unset, .unset] [(.long (1000000000 : Int64)), (.int (9 : Int32)), (.ref ob12), (.ref ob12)])) rfl rfl (hb hby at_125)
  have K0 := K0.wr W22 (Or.inr sz_ob12)
  have O0 := O0.wr W22 g_ob12
  have Vq11 := Vq11.other W22 ne_ob10_ob12
  have E_ob10 := E_ob10.wr W22
  have E_ob12 := E_ob12.wr W22
  have V_ob12 : Arx Z h22 ob12 .long [(.long (1 : Int64)), (.long (10 : Int64)), (.long (100 : Int64)), (.long (1000 : Int64)), (.long (10000 : Int64)), (.long (100000 : Int64)), (.long (1000000 : Int64)), (.long (10000000 : Int64)), (.long (100000000 : Int64)), (.long (1000000000 : Int64)), (.long (0 : Int64)), (.long (0 : Int64)), (.long (0 : Int64)), (.long (0 : Int64)), (.long (0 : Int64)), (.long (0 : Int64)), (.long (0 : Int64)), (.long (0 : Int64)), (.long (0 : Int64))] := V22
  have N22 := Fr.snoc X22 N21 g_ob12
  refine own_go (fun _ => st22 _) ?_
  show GG _ _ _ _ _ _ _ T22 (mkF m 126 #[.val (.long q0), .second, .val (.int p1), .val (.int p2), .val (.int p3), .val (.long x1), .second, .val (.int x3), .val (.int x7), .val (.int x9), .val (.ref ob10), .val (.long rq11), .second, .unset, .unset, .unset, .unset, .unset] [(.ref ob12)])
  refine own_go (fun _ => XS.dup X22.here hx rfl (hb hby at_126) rfl rfl) ?_
  show GG _ _ _ _ _ _ _ T22 (mkF m 127 #[.val (.long q0), .second, .val (.int p1), .val (.int p2), .val (.int p3), .val (.long x1), .second, .val (.int x3), .val (.int x7), .val (.int x9), .val (.ref ob10), .val (.long rq11), .second, .unset, .unset, .unset, .unset, .unset] [(.ref ob12), (.ref ob12)])
  refine own_go (fun _ => XS.bipush X22.here hx rfl (hb hby at_127)) ?_
  show GG _ _ _ _ _ _ _ T22 (mkF m 129 #[.val (.long q0), .second, .val (.int p1), .val (.int p2), .val (.int p3), .val (.long x1), .second, .val (.int x3), .val (.int x7), .val (.int x9), .val (.ref ob10), .val (.long rq11), .second, .unset, .unset, .unset, .unset, .unset] [(.int (10 : Int32)), (.ref ob12), (.ref ob12)])
  refine own_go (fun _ => X22.ldc2Long hx hown (mvT hZ (hw _ (List.mem_of_getElem? (i := 22) rfl))) (g := (mkF m 129 #[.val (.long q0), .second, .val (.int p1), .val (.int p2), .val (.int p3), .val (.long x1), .second, .val (.int x3), .val (.int x7), .val (.int x9), .val (.ref ob10), .val (.long rq11), .second, .unset, .unset, .unset, .unset, .unset] [(.int (10 : Int32)), (.ref ob12), (.ref ob12)])) rfl (hb hby at_129) _) ?_
  show GG _ _ _ _ _ _ _ T22 (mkF m 132 #[.val (.long q0), .second, .val (.int p1), .val (.int p2), .val (.int p3), .val (.long x1), .second, .val (.int x3), .val (.int x7), .val (.int x9), .val (.ref ob10), .val (.long rq11), .second, .unset, .unset, .unset, .unset, .unset] [(.long (10000000000 : Int64)), (.int (10 : Int32)), (.ref ob12), (.ref ob12)])
  obtain ⟨T23, h23, X23, e23, W23, V23, st23⟩ := own_lastore X22 hx hZ e22 V_ob12 (by decide) (Nat.le_of_ble_eq_true rfl) (g := (mkF m 132 #[.val (.long q0), .second, .val (.int p1), .val (.int p2), .val (.int p3), .val (.long x1), .second, .val (.int x3), .val (.int x7), .val (.int x9), .val (.ref ob10), .val (.long rq11), .second, .unset, .unset, .unset, .unset, .unset] [(.long (10000000000 : Int64)), (.int (10 : Int32)), (.ref ob12), (.ref ob12)])) rfl rfl (hb hby at_132)
  have K0 := K0.wr W23 (Or.inr sz_ob12)
  have O0 := O0.wr W23 g_ob12
  have Vq11 := Vq11.other W23 ne_ob10_ob12
  have E_ob10 := E_ob10.wr W23
  have E_ob12 := E_ob12.wr W23
  have V_ob12 : Arx Z h23 ob12 .long [(.long (1 : Int64)), (.long (10 : Int64)), (.long (100 : Int64)), (.long (1000 : Int64)), (.long (10000 : Int64)), (.long (100000 : Int64)), (.long (1000000 : Int64)), (.long (10000000 : Int64)), (.long (100000000 : Int64)), (.long (1000000000 : Int64)), (.long (10000000000 : Int64)), (.long (0 : Int64)), (.long (0 : Int64)), (.long (0 : Int64)), (.long (0 : Int64)), (.long (0 : Int64)), (.long (0 : Int64)), (.long (0 : Int64)), (.long (0 : Int64))] := V23
  have N23 := Fr.snoc X23 N22 g_ob12
  refine own_go (fun _ => st23 _) ?_
  show GG _ _ _ _ _ _ _ T23 (mkF m 133 #[.val (.long q0), .second, .val (.int p1), .val (.int p2), .val (.int p3), .val (.long x1), .second, .val (.int x3), .val (.int x7), .val (.int x9), .val (.ref ob10), .val (.long rq11), .second, .unset, .unset, .unset, .unset, .unset] [(.ref ob12)])
  refine own_go (fun _ => XS.dup X23.here hx rfl (hb hby at_133) rfl rfl) ?_
  show GG _ _ _ _ _ _ _ T23 (mkF m 134 #[.val (.long q0), .second, .val (.int p1), .val (.int p2), .val (.int p3), .val (.long x1), .second, .val (.int x3), .val (.int x7), .val (.int x9), .val (.ref ob10), .val (.long rq11), .second, .unset, .unset, .unset, .unset, .unset] [(.ref ob12), (.ref ob12)])
  refine own_go (fun _ => XS.bipush X23.here hx rfl (hb hby at_134)) ?_
  show GG _ _ _ _ _ _ _ T23 (mkF m 136 #[.val (.long q0), .second, .val (.int p1), .val (.int p2), .val (.int p3), .val (.long x1), .second, .val (.int x3), .val (.int x7), .val (.int x9), .val (.ref ob10), .val (.long rq11), .second, .unset, .unset, .unset, .unset, .unset] [(.int (11 : Int32)), (.ref ob12), (.ref ob12)])
  refine own_go (fun _ => X23.ldc2Long hx hown (mvT hZ (hw _ (List.mem_of_getElem? (i := 23) rfl))) (g := (mkF m 136 #[.val (.long q0), .second, .val (.int p1), .val (.int p2), .val (.int p3), .val (.long x1), .second, .val (.int x3), .val (.int x7), .val (.int x9), .val (.ref ob10), .val (.long rq11), .second, .unset, .unset, .unset, .unset, .unset] [(.int (11 : Int32)), (.ref ob12), (.ref ob12)])) rfl (hb hby at_136) _) ?_
  show GG _ _ _ _ _ _ _ T23 (mkF m 139 #[.val (.long q0), .second, .val (.int p1), .val (.int p2), .val (.int p3), .val (.long x1), .second, .val (.int x3), .val (.int x7), .val (.int x9), .val (.ref ob10), .val (.long rq11), .second, .unset, .unset, .unset, .unset, .unset] [(.long (100000000000 : Int64)), (.int (11 : Int32)), (.ref ob12), (.ref ob12)])
  obtain ⟨T24, h24, X24, e24, W24, V24, st24⟩ := own_lastore X23 hx hZ e23 V_ob12 (by decide) (Nat.le_of_ble_eq_true rfl) (g := (mkF m 139 #[.val (.long q0), .second, .val (.int p1), .val (.int p2), .val (.int p3), .val (.long x1), .second, .val (.int x3), .val (.int x7), .val (.int x9), .val (.ref ob10), .val (.long rq11), .second, .unset, .unset, .unset, .unset, .unset] [(.long (100000000000 : Int64)), (.int (11 : Int32)), (.ref ob12), (.ref ob12)])) rfl rfl (hb hby at_139)
  have K0 := K0.wr W24 (Or.inr sz_ob12)
  have O0 := O0.wr W24 g_ob12
  have Vq11 := Vq11.other W24 ne_ob10_ob12
  have E_ob10 := E_ob10.wr W24
  have E_ob12 := E_ob12.wr W24
  have V_ob12 : Arx Z h24 ob12 .long [(.long (1 : Int64)), (.long (10 : Int64)), (.long (100 : Int64)), (.long (1000 : Int64)), (.long (10000 : Int64)), (.long (100000 : Int64)), (.long (1000000 : Int64)), (.long (10000000 : Int64)), (.long (100000000 : Int64)), (.long (1000000000 : Int64)), (.long (10000000000 : Int64)), (.long (100000000000 : Int64)), (.long (0 : Int64)), (.long (0 : Int64)), (.long (0 : Int64)), (.long (0 : Int64)), (.long (0 : Int64)), (.long (0 : Int64)), (.long (0 : Int64))] := V24
  have N24 := Fr.snoc X24 N23 g_ob12
  refine own_go (fun _ => st24 _) ?_
  show GG _ _ _ _ _ _ _ T24 (mkF m 140 #[.val (.long q0), .second, .val (.int p1), .val (.int p2), .val (.int p3), .val (.long x1), .second, .val (.int x3), .val (.int x7), .val (.int x9), .val (.ref ob10), .val (.long rq11), .second, .unset, .unset, .unset, .unset, .unset] [(.ref ob12)])
  refine own_go (fun _ => XS.dup X24.here hx rfl (hb hby at_140) rfl rfl) ?_
  show GG _ _ _ _ _ _ _ T24 (mkF m 141 #[.val (.long q0), .second, .val (.int p1), .val (.int p2), .val (.int p3), .val (.long x1), .second, .val (.int x3), .val (.int x7), .val (.int x9), .val (.ref ob10), .val (.long rq11), .second, .unset, .unset, .unset, .unset, .unset] [(.ref ob12), (.ref ob12)])
  refine own_go (fun _ => XS.bipush X24.here hx rfl (hb hby at_141)) ?_
  show GG _ _ _ _ _ _ _ T24 (mkF m 143 #[.val (.long q0), .second, .val (.int p1), .val (.int p2), .val (.int p3), .val (.long x1), .second, .val (.int x3), .val (.int x7), .val (.int x9), .val (.ref ob10), .val (.long rq11), .second, .unset, .unset, .unset, .unset, .unset] [(.int (12 : Int32)), (.ref ob12), (.ref ob12)])
  refine own_go (fun _ => X24.ldc2Long hx hown (mvT hZ (hw _ (List.mem_of_getElem? (i := 24) rfl))) (g := (mkF m 143 #[.val (.long q0), .second, .val (.int p1), .val (.int p2), .val (.int p3), .val (.long x1), .second, .val (.int x3), .val (.int x7), .val (.int x9), .val (.ref ob10), .val (.long rq11), .second, .unset, .unset, .unset, .unset, .unset] [(.int (12 : Int32)), (.ref ob12), (.ref ob12)])) rfl (hb hby at_143) _) ?_
  show GG _ _ _ _ _ _ _ T24 (mkF m 146 #[.val (.long q0), .second, .val (.int p1), .val (.int p2), .val (.int p3), .val (.long x1), .second, .val (.int x3), .val (.int x7), .val (.int x9), .val (.ref ob10), .val (.long rq11), .second, .unset, .unset, .unset, .unset, .unset] [(.long (1000000000000 : Int64)), (.int (12 : Int32)), (.ref ob12), (.ref ob12)])
  obtain ⟨T25, h25, X25, e25, W25, V25, st25⟩ := own_lastore X24 hx hZ e24 V_ob12 (by decide) (Nat.le_of_ble_eq_true rfl) (g := (mkF m 146 #[.val (.long q0), .second, .val (.int p1), .val (.int p2), .val (.int p3), .val (.long x1), .second, .val (.int x3), .val (.int x7), .val (.int x9), .val (.ref ob10), .val (.long rq11), .second, .unset, .unset, .unset, .unset, .unset] [(.long (1000000000000 : Int64)), (.int (12 : Int32)), (.ref ob12), (.ref ob12)])) rfl rfl (hb hby at_146)
  have K0 := K0.wr W25 (Or.inr sz_ob12)
  have O0 := O0.wr W25 g_ob12
  have Vq11 := Vq11.other W25 ne_ob10_ob12
  have E_ob10 := E_ob10.wr W25
  have E_ob12 := E_ob12.wr W25
  have V_ob12 : Arx Z h25 ob12 .long [(.long (1 : Int64)), (.long (10 : Int64)), (.long (100 : Int64)), (.long (1000 : Int64)), (.long (10000 : Int64)), (.long (100000 : Int64)), (.long (1000000 : Int64)), (.long (10000000 : Int64)), (.long (100000000 : Int64)), (.long (1000000000 : Int64)), (.long (10000000000 : Int64)), (.long (100000000000 : Int64)), (.long (1000000000000 : Int64)), (.long (0 : Int64)), (.long (0 : Int64)), (.long (0 : Int64)), (.long (0 : Int64)), (.long (0 : Int64)), (.long (0 : Int64))] := V25
  have N25 := Fr.snoc X25 N24 g_ob12
  refine own_go (fun _ => st25 _) ?_
  show GG _ _ _ _ _ _ _ T25 (mkF m 147 #[.val (.long q0), .second, .val (.int p1), .val (.int p2), .val (.int p3), .val (.long x1), .second, .val (.int x3), .val (.int x7), .val (.int x9), .val (.ref ob10), .val (.long rq11), .second, .unset, .unset, .unset, .unset, .unset] [(.ref ob12)])
  refine own_go (fun _ => XS.dup X25.here hx rfl (hb hby at_147) rfl rfl) ?_
  show GG _ _ _ _ _ _ _ T25 (mkF m 148 #[.val (.long q0), .second, .val (.int p1), .val (.int p2), .val (.int p3), .val (.long x1), .second, .val (.int x3), .val (.int x7), .val (.int x9), .val (.ref ob10), .val (.long rq11), .second, .unset, .unset, .unset, .unset, .unset] [(.ref ob12), (.ref ob12)])
  refine own_go (fun _ => XS.bipush X25.here hx rfl (hb hby at_148)) ?_
  show GG _ _ _ _ _ _ _ T25 (mkF m 150 #[.val (.long q0), .second, .val (.int p1), .val (.int p2), .val (.int p3), .val (.long x1), .second, .val (.int x3), .val (.int x7), .val (.int x9), .val (.ref ob10), .val (.long rq11), .second, .unset, .unset, .unset, .unset, .unset] [(.int (13 : Int32)), (.ref ob12), (.ref ob12)])
  refine own_go (fun _ => X25.ldc2Long hx hown (mvT hZ (hw _ (List.mem_of_getElem? (i := 25) rfl))) (g := (mkF m 150 #[.val (.long q0), .second, .val (.int p1), .val (.int p2), .val (.int p3), .val (.long x1), .second, .val (.int x3), .val (.int x7), .val (.int x9), .val (.ref ob10), .val (.long rq11), .second, .unset, .unset, .unset, .unset, .unset] [(.int (13 : Int32)), (.ref ob12), (.ref ob12)])) rfl (hb hby at_150) _) ?_
  show GG _ _ _ _ _ _ _ T25 (mkF m 153 #[.val (.long q0), .second, .val (.int p1), .val (.int p2), .val (.int p3), .val (.long x1), .second, .val (.int x3), .val (.int x7), .val (.int x9), .val (.ref ob10), .val (.long rq11), .second, .unset, .unset, .unset, .unset, .unset] [(.long (10000000000000 : Int64)), (.int (13 : Int32)), (.ref ob12), (.ref ob12)])
  obtain ⟨T26, h26, X26, e26, W26, V26, st26⟩ := own_lastore X25 hx hZ e25 V_ob12 (by decide) (Nat.le_of_ble_eq_true rfl) (g := (mkF m 153 #[.val (.long q0), .second, .val (.int p1), .val (.int p2), .val (.int p3), .val (.long x1), .second, .val (.int x3), .val (.int x7), .val (.int x9), .val (.ref ob10), .val (.long rq11), .second, .unset, .unset, .unset, .unset, .unset] [(.long (10000000000000 : Int64)), (.int (13 : Int32)), (.ref ob12), (.ref ob12)])) rfl rfl (hb hby at_153)
  have K0 := K0.wr W26 (Or.inr sz_ob12)
  have O0 := O0.wr W26 g_ob12
  have Vq11 := Vq11.other W26 ne_ob10_ob12
  have E_ob10 := E_ob10.wr W26
  have E_ob12 := E_ob12.wr W26
  have V_ob12 : Arx Z h26 ob12 .long [(.long (1 : Int64)), (.long (10 : Int64)), (.long (100 : Int64)), (.long (1000 : Int64)), (.long (10000 : Int64)), (.long (100000 : Int64)), (.long (1000000 : Int64)), (.long (10000000 : Int64)), (.long (100000000 : Int64)), (.long (1000000000 : Int64)), (.long (10000000000 : Int64)), (.long (100000000000 : Int64)), (.long (1000000000000 : Int64)), (.long (10000000000000 : Int64)), (.long (0 : Int64)), (.long (0 : Int64)), (.long (0 : Int64)), (.long (0 : Int64)), (.long (0 : Int64))] := V26
  have N26 := Fr.snoc X26 N25 g_ob12
  refine own_go (fun _ => st26 _) ?_
  show GG _ _ _ _ _ _ _ T26 (mkF m 154 #[.val (.long q0), .second, .val (.int p1), .val (.int p2), .val (.int p3), .val (.long x1), .second, .val (.int x3), .val (.int x7), .val (.int x9), .val (.ref ob10), .val (.long rq11), .second, .unset, .unset, .unset, .unset, .unset] [(.ref ob12)])
  refine own_go (fun _ => XS.dup X26.here hx rfl (hb hby at_154) rfl rfl) ?_
  show GG _ _ _ _ _ _ _ T26 (mkF m 155 #[.val (.long q0), .second, .val (.int p1), .val (.int p2), .val (.int p3), .val (.long x1), .second, .val (.int x3), .val (.int x7), .val (.int x9), .val (.ref ob10), .val (.long rq11), .second, .unset, .unset, .unset, .unset, .unset] [(.ref ob12), (.ref ob12)])
  refine own_go (fun _ => XS.bipush X26.here hx rfl (hb hby at_155)) ?_
  show GG _ _ _ _ _ _ _ T26 (mkF m 157 #[.val (.long q0), .second, .val (.int p1), .val (.int p2), .val (.int p3), .val (.long x1), .second, .val (.int x3), .val (.int x7), .val (.int x9), .val (.ref ob10), .val (.long rq11), .second, .unset, .unset, .unset, .unset, .unset] [(.int (14 : Int32)), (.ref ob12), (.ref ob12)])
  refine own_go (fun _ => X26.ldc2Long hx hown (mvT hZ (hw _ (List.mem_of_getElem? (i := 26) rfl))) (g := (mkF m 157 #[.val (.long q0), .second, .val (.int p1), .val (.int p2), .val (.int p3), .val (.long x1), .second, .val (.int x3), .val (.int x7), .val (.int x9), .val (.ref ob10), .val (.long rq11), .second, .unset, .unset, .unset, .unset, .unset] [(.int (14 : Int32)), (.ref ob12), (.ref ob12)])) rfl (hb hby at_157) _) ?_
  show GG _ _ _ _ _ _ _ T26 (mkF m 160 #[.val (.long q0), .second, .val (.int p1), .val (.int p2), .val (.int p3), .val (.long x1), .second, .val (.int x3), .val (.int x7), .val (.int x9), .val (.ref ob10), .val (.long rq11), .second, .unset, .unset, .unset, .unset, .unset] [(.long (100000000000000 : Int64)), (.int (14 : Int32)), (.ref ob12), (.ref ob12)])
  obtain ⟨T27, h27, X27, e27, W27, V27, st27⟩ := own_lastore X26 hx hZ e26 V_ob12 (by decide) (Nat.le_of_ble_eq_true rfl) (g := (mkF m 160 #[.val (.long q0), .second, .val (.int p1), .val (.int p2), .val (.int p3), .val (.long x1), .second, .val (.int x3), .val (.int x7), .val (.int x9), .val (.ref ob10), .val (.long rq11), .second, .unset, .unset, .unset, .unset, .unset] [(.long (100000000000000 : Int64)), (.int (14 : Int32)), (.ref ob12), (.ref ob12)])) rfl rfl (hb hby at_160)
  have K0 := K0.wr W27 (Or.inr sz_ob12)
  have O0 := O0.wr W27 g_ob12
  have Vq11 := Vq11.other W27 ne_ob10_ob12
  have E_ob10 := E_ob10.wr W27
  have E_ob12 := E_ob12.wr W27
  have V_ob12 : Arx Z h27 ob12 .long [(.long (1 : Int64)), (.long (10 : Int64)), (.long (100 : Int64)), (.long (1000 : Int64)), (.long (10000 : Int64)), (.long (100000 : Int64)), (.long (1000000 : Int64)), (.long (10000000 : Int64)), (.long (100000000 : Int64)), (.long (1000000000 : Int64)), (.long (10000000000 : Int64)), (.long (100000000000 : Int64)), (.long (1000000000000 : Int64)), (.long (10000000000000 : Int64)), (.long (100000000000000 : Int64)), (.long (0 : Int64)), (.long (0 : Int64)), (.long (0 : Int64)), (.long (0 : Int64))] := V27
  have N27 := Fr.snoc X27 N26 g_ob12
  refine own_go (fun _ => st27 _) ?_
  show GG _ _ _ _ _ _ _ T27 (mkF m 161 #[.val (.long q0), .second, .val (.int p1), .val (.int p2), .val (.int p3), .val (.long x1), .second, .val (.int x3), .val (.int x7), .val (.int x9), .val (.ref ob10), .val (.long rq11), .second, .unset, .unset, .unset, .unset, .unset] [(.ref ob12)])
  refine own_go (fun _ => XS.dup X27.here hx rfl (hb hby at_161) rfl rfl) ?_
  show GG _ _ _ _ _ _ _ T27 (mkF m 162 #[.val (.long q0), .second, .val (.int p1), .val (.int p2), .val (.int p3), .val (.long x1), .second, .val (.int x3), .val (.int x7), .val (.int x9), .val (.ref ob10), .val (.long rq11), .second, .unset, .unset, .unset, .unset, .unset] [(.ref ob12), (.ref ob12)])
  refine own_go (fun _ => XS.bipush X27.here hx rfl (hb hby at_162)) ?_
  show GG _ _ _ _ _ _ _ T27 (mkF m 164 #[.val (.long q0), .second, .val (.int p1), .val (.int p2), .val (.int p3), .val (.long x1), .second, .val (.int x3), .val (.int x7), .val (.int x9), .val (.ref ob10), .val (.long rq11), .second, .unset, .unset, .unset, .unset, .unset] [(.int (15 : Int32)), (.ref ob12), (.ref ob12)])
  refine own_go (fun _ => X27.ldc2Long hx hown (mvT hZ (hw _ (List.mem_of_getElem? (i := 27) rfl))) (g := (mkF m 164 #[.val (.long q0), .second, .val (.int p1), .val (.int p2), .val (.int p3), .val (.long x1), .second, .val (.int x3), .val (.int x7), .val (.int x9), .val (.ref ob10), .val (.long rq11), .second, .unset, .unset, .unset, .unset, .unset] [(.int (15 : Int32)), (.ref ob12), (.ref ob12)])) rfl (hb hby at_164) _) ?_
  show GG _ _ _ _ _ _ _ T27 (mkF m 167 #[.val (.long q0), .second, .val (.int p1), .val (.int p2), .val (.int p3), .val (.long x1), .second, .val (.int x3), .val (.int x7), .val (.int x9), .val (.ref ob10), .val (.long rq11), .second, .unset, .unset, .unset, .unset, .unset] [(.long (1000000000000000 : Int64)), (.int (15 : Int32)), (.ref ob12), (.ref ob12)])
  obtain ⟨T28, h28, X28, e28, W28, V28, st28⟩ := own_lastore X27 hx hZ e27 V_ob12 (by decide) (Nat.le_of_ble_eq_true rfl) (g := (mkF m 167 #[.val (.long q0), .second, .val (.int p1), .val (.int p2), .val (.int p3), .val (.long x1), .second, .val (.int x3), .val (.int x7), .val (.int x9), .val (.ref ob10), .val (.long rq11), .second, .unset, .unset, .unset, .unset, .unset] [(.long (1000000000000000 : Int64)), (.int (15 : Int32)), (.ref ob12), (.ref ob12)])) rfl rfl (hb hby at_167)
  have K0 := K0.wr W28 (Or.inr sz_ob12)
  have O0 := O0.wr W28 g_ob12
  have Vq11 := Vq11.other W28 ne_ob10_ob12
  have E_ob10 := E_ob10.wr W28
  have E_ob12 := E_ob12.wr W28
  have V_ob12 : Arx Z h28 ob12 .long [(.long (1 : Int64)), (.long (10 : Int64)), (.long (100 : Int64)), (.long (1000 : Int64)), (.long (10000 : Int64)), (.long (100000 : Int64)), (.long (1000000 : Int64)), (.long (10000000 : Int64)), (.long (100000000 : Int64)), (.long (1000000000 : Int64)), (.long (10000000000 : Int64)), (.long (100000000000 : Int64)), (.long (1000000000000 : Int64)), (.long (10000000000000 : Int64)), (.long (100000000000000 : Int64)), (.long (1000000000000000 : Int64)), (.long (0 : Int64)), (.long (0 : Int64)), (.long (0 : Int64))] := V28
  have N28 := Fr.snoc X28 N27 g_ob12
  refine own_go (fun _ => st28 _) ?_
  show GG _ _ _ _ _ _ _ T28 (mkF m 168 #[.val (.long q0), .second, .val (.int p1), .val (.int p2), .val (.int p3), .val (.long x1), .second, .val (.int x3), .val (.int x7), .val (.int x9), .val (.ref ob10), .val (.long rq11), .second, .unset, .unset, .unset, .unset, .unset] [(.ref ob12)])
  refine own_go (fun _ => XS.dup X28.here hx rfl (hb hby at_168) rfl rfl) ?_
  show GG _ _ _ _ _ _ _ T28 (mkF m 169 #[.val (.long q0), .second, .val (.int p1), .val (.int p2), .val (.int p3), .val (.long x1), .second, .val (.int x3), .val (.int x7), .val (.int x9), .val (.ref ob10), .val (.long rq11), .second, .unset, .unset, .unset, .unset, .unset] [(.ref ob12), (.ref ob12)])
  refine own_go (fun _ => XS.bipush X28.here hx rfl (hb hby at_169)) ?_
  show GG _ _ _ _ _ _ _ T28 (mkF m 171 #[.val (.long q0), .second, .val (.int p1), .val (.int p2), .val (.int p3), .val (.long x1), .second, .val (.int x3), .val (.int x7), .val (.int x9), .val (.ref ob10), .val (.long rq11), .second, .unset, .unset, .unset, .unset, .unset] [(.int (16 : Int32)), (.ref ob12), (.ref ob12)])
  refine own_go (fun _ => X28.ldc2Long hx hown (mvT hZ (hw _ (List.mem_of_getElem? (i := 28) rfl))) (g := (mkF m 171 #[.val (.long q0), .second, .val (.int p1), .val (.int p2), .val (.int p3), .val (.long x1), .second, .val (.int x3), .val (.int x7), .val (.int x9), .val (.ref ob10), .val (.long rq11), .second, .unset, .unset, .unset, .unset, .unset] [(.int (16 : Int32)), (.ref ob12), (.ref ob12)])) rfl (hb hby at_171) _) ?_
  show GG _ _ _ _ _ _ _ T28 (mkF m 174 #[.val (.long q0), .second, .val (.int p1), .val (.int p2), .val (.int p3), .val (.long x1), .second, .val (.int x3), .val (.int x7), .val (.int x9), .val (.ref ob10), .val (.long rq11), .second, .unset, .unset, .unset, .unset, .unset] [(.long (10000000000000000 : Int64)), (.int (16 : Int32)), (.ref ob12), (.ref ob12)])
  obtain ⟨T29, h29, X29, e29, W29, V29, st29⟩ := own_lastore X28 hx hZ e28 V_ob12 (by decide) (Nat.le_of_ble_eq_true rfl) (g := (mkF m 174 #[.val (.long q0), .second, .val (.int p1), .val (.int p2), .val (.int p3), .val (.long x1), .second, .val (.int x3), .val (.int x7), .val (.int x9), .val (.ref ob10), .val (.long rq11), .second, .unset, .unset, .unset, .unset, .unset] [(.long (10000000000000000 : Int64)), (.int (16 : Int32)), (.ref ob12), (.ref ob12)])) rfl rfl (hb hby at_174)
  have K0 := K0.wr W29 (Or.inr sz_ob12)
  have O0 := O0.wr W29 g_ob12
  have Vq11 := Vq11.other W29 ne_ob10_ob12
  have E_ob10 := E_ob10.wr W29
  have E_ob12 := E_ob12.wr W29
  have V_ob12 : Arx Z h29 ob12 .long [(.long (1 : Int64)), (.long (10 : Int64)), (.long (100 : Int64)), (.long (1000 : Int64)), (.long (10000 : Int64)), (.long (100000 : Int64)), (.long (1000000 : Int64)), (.long (10000000 : Int64)), (.long (100000000 : Int64)), (.long (1000000000 : Int64)), (.long (10000000000 : Int64)), (.long (100000000000 : Int64)), (.long (1000000000000 : Int64)), (.long (10000000000000 : Int64)), (.long (100000000000000 : Int64)), (.long (1000000000000000 : Int64)), (.long (10000000000000000 : Int64)), (.long (0 : Int64)), (.long (0 : Int64))] := V29
  have N29 := Fr.snoc X29 N28 g_ob12
  refine own_go (fun _ => st29 _) ?_
  show GG _ _ _ _ _ _ _ T29 (mkF m 175 #[.val (.long q0), .second, .val (.int p1), .val (.int p2), .val (.int p3), .val (.long x1), .second, .val (.int x3), .val (.int x7), .val (.int x9), .val (.ref ob10), .val (.long rq11), .second, .unset, .unset, .unset, .unset, .unset] [(.ref ob12)])
  refine own_go (fun _ => XS.dup X29.here hx rfl (hb hby at_175) rfl rfl) ?_
  show GG _ _ _ _ _ _ _ T29 (mkF m 176 #[.val (.long q0), .second, .val (.int p1), .val (.int p2), .val (.int p3), .val (.long x1), .second, .val (.int x3), .val (.int x7), .val (.int x9), .val (.ref ob10), .val (.long rq11), .second, .unset, .unset, .unset, .unset, .unset] [(.ref ob12), (.ref ob12)])
  refine own_go (fun _ => XS.bipush X29.here hx rfl (hb hby at_176)) ?_
  show GG _ _ _ _ _ _ _ T29 (mkF m 178 #[.val (.long q0), .second, .val (.int p1), .val (.int p2), .val (.int p3), .val (.long x1), .second, .val (.int x3), .val (.int x7), .val (.int x9), .val (.ref ob10), .val (.long rq11), .second, .unset, .unset, .unset, .unset, .unset] [(.int (17 : Int32)), (.ref ob12), (.ref ob12)])
  refine own_go (fun _ => X29.ldc2Long hx hown (mvT hZ (hw _ (List.mem_of_getElem? (i := 29) rfl))) (g := (mkF m 178 #[.val (.long q0), .second, .val (.int p1), .val (.int p2), .val (.int p3), .val (.long x1), .second, .val (.int x3), .val (.int x7), .val (.int x9), .val (.ref ob10), .val (.long rq11), .second, .unset, .unset, .unset, .unset, .unset] [(.int (17 : Int32)), (.ref ob12), (.ref ob12)])) rfl (hb hby at_178) _) ?_
  show GG _ _ _ _ _ _ _ T29 (mkF m 181 #[.val (.long q0), .second, .val (.int p1), .val (.int p2), .val (.int p3), .val (.long x1), .second, .val (.int x3), .val (.int x7), .val (.int x9), .val (.ref ob10), .val (.long rq11), .second, .unset, .unset, .unset, .unset, .unset] [(.long (100000000000000000 : Int64)), (.int (17 : Int32)), (.ref ob12), (.ref ob12)])
  obtain ⟨T30, h30, X30, e30, W30, V30, st30⟩ := own_lastore X29 hx hZ e29 V_ob12 (by decide) (Nat.le_of_ble_eq_true rfl) (g := (mkF m 181 #[.val (.long q0), .second, .val (.int p1), .val (.int p2), .val (.int p3), .val (.long x1), .second, .val (.int x3), .val (.int x7), .val (.int x9), .val (.ref ob10), .val (.long rq11), .second, .unset, .unset, .unset, .unset, .unset] [(.long (100000000000000000 : Int64)), (.int (17 : Int32)), (.ref ob12), (.ref ob12)])) rfl rfl (hb hby at_181)
  have K0 := K0.wr W30 (Or.inr sz_ob12)
  have O0 := O0.wr W30 g_ob12
  have Vq11 := Vq11.other W30 ne_ob10_ob12
  have E_ob10 := E_ob10.wr W30
  have E_ob12 := E_ob12.wr W30
  have V_ob12 : Arx Z h30 ob12 .long [(.long (1 : Int64)), (.long (10 : Int64)), (.long (100 : Int64)), (.long (1000 : Int64)), (.long (10000 : Int64)), (.long (100000 : Int64)), (.long (1000000 : Int64)), (.long (10000000 : Int64)), (.long (100000000 : Int64)), (.long (1000000000 : Int64)), (.long (10000000000 : Int64)), (.long (100000000000 : Int64)), (.long (1000000000000 : Int64)), (.long (10000000000000 : Int64)), (.long (100000000000000 : Int64)), (.long (1000000000000000 : Int64)), (.long (10000000000000000 : Int64)), (.long (100000000000000000 : Int64)), (.long (0 : Int64))] := V30
  have N30 := Fr.snoc X30 N29 g_ob12
  refine own_go (fun _ => st30 _) ?_
  show GG _ _ _ _ _ _ _ T30 (mkF m 182 #[.val (.long q0), .second, .val (.int p1), .val (.int p2), .val (.int p3), .val (.long x1), .second, .val (.int x3), .val (.int x7), .val (.int x9), .val (.ref ob10), .val (.long rq11), .second, .unset, .unset, .unset, .unset, .unset] [(.ref ob12)])
  refine own_go (fun _ => XS.dup X30.here hx rfl (hb hby at_182) rfl rfl) ?_
  show GG _ _ _ _ _ _ _ T30 (mkF m 183 #[.val (.long q0), .second, .val (.int p1), .val (.int p2), .val (.int p3), .val (.long x1), .second, .val (.int x3), .val (.int x7), .val (.int x9), .val (.ref ob10), .val (.long rq11), .second, .unset, .unset, .unset, .unset, .unset] [(.ref ob12), (.ref ob12)])
  refine own_go (fun _ => XS.bipush X30.here hx rfl (hb hby at_183)) ?_
  show GG _ _ _ _ _ _ _ T30 (mkF m 185 #[.val (.long q0), .second, .val (.int p1), .val (.int p2), .val (.int p3), .val (.long x1), .second, .val (.int x3), .val (.int x7), .val (.int x9), .val (.ref ob10), .val (.long rq11), .second, .unset, .unset, .unset, .unset, .unset] [(.int (18 : Int32)), (.ref ob12), (.ref ob12)])
  refine own_go (fun _ => X30.ldc2Long hx hown (mvT hZ (hw _ (List.mem_of_getElem? (i := 30) rfl))) (g := (mkF m 185 #[.val (.long q0), .second, .val (.int p1), .val (.int p2), .val (.int p3), .val (.long x1), .second, .val (.int x3), .val (.int x7), .val (.int x9), .val (.ref ob10), .val (.long rq11), .second, .unset, .unset, .unset, .unset, .unset] [(.int (18 : Int32)), (.ref ob12), (.ref ob12)])) rfl (hb hby at_185) _) ?_
  show GG _ _ _ _ _ _ _ T30 (mkF m 188 #[.val (.long q0), .second, .val (.int p1), .val (.int p2), .val (.int p3), .val (.long x1), .second, .val (.int x3), .val (.int x7), .val (.int x9), .val (.ref ob10), .val (.long rq11), .second, .unset, .unset, .unset, .unset, .unset] [(.long (1000000000000000000 : Int64)), (.int (18 : Int32)), (.ref ob12), (.ref ob12)])
  obtain ⟨T31, h31, X31, e31, W31, V31, st31⟩ := own_lastore X30 hx hZ e30 V_ob12 (by decide) (Nat.le_of_ble_eq_true rfl) (g := (mkF m 188 #[.val (.long q0), .second, .val (.int p1), .val (.int p2), .val (.int p3), .val (.long x1), .second, .val (.int x3), .val (.int x7), .val (.int x9), .val (.ref ob10), .val (.long rq11), .second, .unset, .unset, .unset, .unset, .unset] [(.long (1000000000000000000 : Int64)), (.int (18 : Int32)), (.ref ob12), (.ref ob12)])) rfl rfl (hb hby at_188)
  have K0 := K0.wr W31 (Or.inr sz_ob12)
  have O0 := O0.wr W31 g_ob12
  have Vq11 := Vq11.other W31 ne_ob10_ob12
  have E_ob10 := E_ob10.wr W31
  have E_ob12 := E_ob12.wr W31
  have V_ob12 : Arx Z h31 ob12 .long [(.long (1 : Int64)), (.long (10 : Int64)), (.long (100 : Int64)), (.long (1000 : Int64)), (.long (10000 : Int64)), (.long (100000 : Int64)), (.long (1000000 : Int64)), (.long (10000000 : Int64)), (.long (100000000 : Int64)), (.long (1000000000 : Int64)), (.long (10000000000 : Int64)), (.long (100000000000 : Int64)), (.long (1000000000000 : Int64)), (.long (10000000000000 : Int64)), (.long (100000000000000 : Int64)), (.long (1000000000000000 : Int64)), (.long (10000000000000000 : Int64)), (.long (100000000000000000 : Int64)), (.long (1000000000000000000 : Int64))] := V31
  have N31 := Fr.snoc X31 N30 g_ob12
  refine own_go (fun _ => st31 _) ?_
  show GG _ _ _ _ _ _ _ T31 (mkF m 189 #[.val (.long q0), .second, .val (.int p1), .val (.int p2), .val (.int p3), .val (.long x1), .second, .val (.int x3), .val (.int x7), .val (.int x9), .val (.ref ob10), .val (.long rq11), .second, .unset, .unset, .unset, .unset, .unset] [(.ref ob12)])
  refine own_go (fun _ => XS.astore X31.here hx rfl (hb hby at_189) rfl rfl (l' := #[.val (.long q0), .second, .val (.int p1), .val (.int p2), .val (.int p3), .val (.long x1), .second, .val (.int x3), .val (.int x7), .val (.int x9), .val (.ref ob10), .val (.long rq11), .second, .val (.ref ob12), .unset, .unset, .unset, .unset]) rfl) ?_
  show GG _ _ _ _ _ _ _ T31 (mkF m 191 #[.val (.long q0), .second, .val (.int p1), .val (.int p2), .val (.int p3), .val (.long x1), .second, .val (.int x3), .val (.int x7), .val (.int x9), .val (.ref ob10), .val (.long rq11), .second, .val (.ref ob12), .unset, .unset, .unset, .unset] [])
  refine own_go (fun _ => XS.iload X31.here hx rfl (hb hby at_191) rfl) ?_
  show GG _ _ _ _ _ _ _ T31 (mkF m 193 #[.val (.long q0), .second, .val (.int p1), .val (.int p2), .val (.int p3), .val (.long x1), .second, .val (.int x3), .val (.int x7), .val (.int x9), .val (.ref ob10), .val (.long rq11), .second, .val (.ref ob12), .unset, .unset, .unset, .unset] [(.int x3)])
  refine own_go (fun _ => XS.bipush X31.here hx rfl (hb hby at_193)) ?_
  show GG _ _ _ _ _ _ _ T31 (mkF m 195 #[.val (.long q0), .second, .val (.int p1), .val (.int p2), .val (.int p3), .val (.long x1), .second, .val (.int x3), .val (.int x7), .val (.int x9), .val (.ref ob10), .val (.long rq11), .second, .val (.ref ob12), .unset, .unset, .unset, .unset] [(.int (19 : Int32)), (.int x3)])
  have hvb : V < 9223372036854775808 := by have := rng64 x1; omega
  by_cases h19 : cN = 19
  · skip
    have hc195 : x3 = (19 : Int32) := (Int32.toInt_inj.mp ((by show (x3.toInt = 19); omega : (x3.toInt = 19))))
    refine own_go (fun _ => XS.icmpNo X31.here hx rfl (hb hby at_195) rfl (teq hc195).2) ?_
    show GG _ _ _ _ _ _ _ T31 (mkF m 198 #[.val (.long q0), .second, .val (.int p1), .val (.int p2), .val (.int p3), .val (.long x1), .second, .val (.int x3), .val (.int x7), .val (.int x9), .val (.ref ob10), .val (.long rq11), .second, .val (.ref ob12), .unset, .unset, .unset, .unset] [])
    refine own_go (fun _ => XS.lconst X31.here hx rfl (hb hby at_198)) ?_
    show GG _ _ _ _ _ _ _ T31 (mkF m 199 #[.val (.long q0), .second, .val (.int p1), .val (.int p2), .val (.int p3), .val (.long x1), .second, .val (.int x3), .val (.int x7), .val (.int x9), .val (.ref ob10), .val (.long rq11), .second, .val (.ref ob12), .unset, .unset, .unset, .unset] [(.long (0 : Int64))])
    refine own_go (fun _ => XS.goto X31.here hx rfl (pc0 := 199) (pc' := 210) rfl (hb hby at_199) (by decide) (by decide)) ?_
    show GG _ _ _ _ _ _ _ T31 (mkF m 210 #[.val (.long q0), .second, .val (.int p1), .val (.int p2), .val (.int p3), .val (.long x1), .second, .val (.int x3), .val (.int x7), .val (.int x9), .val (.ref ob10), .val (.long rq11), .second, .val (.ref ob12), .unset, .unset, .unset, .unset] [(.long (0 : Int64))])
    have e14 : (0 : Int64).toInt = (V / 10 ^ cN : Nat) := by rw [h19, own_big hvb]; decide
    refine own_go (fun _ => XS.lstore X31.here hx rfl (hb hby at_210) rfl (l' := #[.val (.long q0), .second, .val (.int p1), .val (.int p2), .val (.int p3), .val (.long x1), .second, .val (.int x3), .val (.int x7), .val (.int x9), .val (.ref ob10), .val (.long rq11), .second, .val (.ref ob12), .val (.long (0 : Int64)), .second, .unset, .unset]) rfl) ?_
    show GG _ _ _ _ _ _ _ T31 (mkF m 212 #[.val (.long q0), .second, .val (.int p1), .val (.int p2), .val (.int p3), .val (.long x1), .second, .val (.int x3), .val (.int x7), .val (.int x9), .val (.ref ob10), .val (.long rq11), .second, .val (.ref ob12), .val (.long (0 : Int64)), .second, .unset, .unset] [])
    refine own_go (fun _ => XS.lload X31.here hx rfl (hb hby at_212) rfl) ?_
    show GG _ _ _ _ _ _ _ T31 (mkF m 214 #[.val (.long q0), .second, .val (.int p1), .val (.int p2), .val (.int p3), .val (.long x1), .second, .val (.int x3), .val (.int x7), .val (.int x9), .val (.ref ob10), .val (.long rq11), .second, .val (.ref ob12), .val (.long (0 : Int64)), .second, .unset, .unset] [(.long rq11)])
    refine own_go (fun _ => XS.lload X31.here hx rfl (hb hby at_214) rfl) ?_
    show GG _ _ _ _ _ _ _ T31 (mkF m 216 #[.val (.long q0), .second, .val (.int p1), .val (.int p2), .val (.int p3), .val (.long x1), .second, .val (.int x3), .val (.int x7), .val (.int x9), .val (.ref ob10), .val (.long rq11), .second, .val (.ref ob12), .val (.long (0 : Int64)), .second, .unset, .unset] [(.long (0 : Int64)), (.long rq11)])
    refine own_go (fun _ => XS.lcmp X31.here hx rfl (hb hby at_216) rfl) ?_
    show GG _ _ _ _ _ _ _ T31 (mkF m 217 #[.val (.long q0), .second, .val (.int p1), .val (.int p2), .val (.int p3), .val (.long x1), .second, .val (.int x3), .val (.int x7), .val (.int x9), .val (.ref ob10), .val (.long rq11), .second, .val (.ref ob12), .val (.long (0 : Int64)), .second, .unset, .unset] [(.int (lcmpW rq11 (0 : Int64)))])
    have hc217 : rq11 = (0 : Int64) := Int64.toInt_inj.mp (by rw [hr11, e14])
    refine own_go (fun _ => XS.ifYes X31.here hx rfl (pc0 := 217) (pc' := 222) rfl (hb hby at_217) rfl ((if0 _ _).trans (teq ((lw_eq _ _).mpr hc217)).1) (by decide) (by decide)) ?_
    show GG _ _ _ _ _ _ _ T31 (mkF m 222 #[.val (.long q0), .second, .val (.int p1), .val (.int p2), .val (.int p3), .val (.long x1), .second, .val (.int x3), .val (.int x7), .val (.int x9), .val (.ref ob10), .val (.long rq11), .second, .val (.ref ob12), .val (.long (0 : Int64)), .second, .unset, .unset] [])
    refine own_go (fun _ => XS.iload X31.here hx rfl (hb hby at_222) rfl) ?_
    show GG _ _ _ _ _ _ _ T31 (mkF m 224 #[.val (.long q0), .second, .val (.int p1), .val (.int p2), .val (.int p3), .val (.long x1), .second, .val (.int x3), .val (.int x7), .val (.int x9), .val (.ref ob10), .val (.long rq11), .second, .val (.ref ob12), .val (.long (0 : Int64)), .second, .unset, .unset] [(.int x7)])
    refine own_go (fun _ => XS.iload X31.here hx rfl (hb hby at_224) rfl) ?_
    show GG _ _ _ _ _ _ _ T31 (mkF m 226 #[.val (.long q0), .second, .val (.int p1), .val (.int p2), .val (.int p3), .val (.long x1), .second, .val (.int x3), .val (.int x7), .val (.int x9), .val (.ref ob10), .val (.long rq11), .second, .val (.ref ob12), .val (.long (0 : Int64)), .second, .unset, .unset] [(.int x3), (.int x7)])
    refine own_go (fun _ => XS.isub X31.here hx rfl (hb hby at_226) rfl) ?_
    show GG _ _ _ _ _ _ _ T31 (mkF m 227 #[.val (.long q0), .second, .val (.int p1), .val (.int p2), .val (.int p3), .val (.long x1), .second, .val (.int x3), .val (.int x7), .val (.int x9), .val (.ref ob10), .val (.long rq11), .second, .val (.ref ob12), .val (.long (0 : Int64)), .second, .unset, .unset] [(.int (x7 - x3))])
    have cx32 := c_isub x7 x3
    generalize hx32 : (x7 - x3) = x32 at cx32 ⊢
    have rx32 := rng32 x32
    have dx32 : x32.toInt = x7.toInt - x3.toInt := by omega
    clear cx32
    refine own_go (fun _ => XS.istore X31.here hx rfl (hb hby at_227) rfl (l' := #[.val (.long q0), .second, .val (.int p1), .val (.int p2), .val (.int p3), .val (.long x1), .second, .val (.int x3), .val (.int x7), .val (.int x9), .val (.ref ob10), .val (.long rq11), .second, .val (.ref ob12), .val (.long (0 : Int64)), .second, .val (.int x32), .unset]) rfl) ?_
    show GG _ _ _ _ _ _ _ T31 (mkF m 229 #[.val (.long q0), .second, .val (.int p1), .val (.int p2), .val (.int p3), .val (.long x1), .second, .val (.int x3), .val (.int x7), .val (.int x9), .val (.ref ob10), .val (.long rq11), .second, .val (.ref ob12), .val (.long (0 : Int64)), .second, .val (.int x32), .unset] [])
    refine own_go (fun _ => XS.iload X31.here hx rfl (hb hby at_229) rfl) ?_
    show GG _ _ _ _ _ _ _ T31 (mkF m 231 #[.val (.long q0), .second, .val (.int p1), .val (.int p2), .val (.int p3), .val (.long x1), .second, .val (.int x3), .val (.int x7), .val (.int x9), .val (.ref ob10), .val (.long rq11), .second, .val (.ref ob12), .val (.long (0 : Int64)), .second, .val (.int x32), .unset] [(.int x9)])
    refine own_go (fun _ => XS.iload X31.here hx rfl (hb hby at_231) rfl) ?_
    show GG _ _ _ _ _ _ _ T31 (mkF m 233 #[.val (.long q0), .second, .val (.int p1), .val (.int p2), .val (.int p3), .val (.long x1), .second, .val (.int x3), .val (.int x7), .val (.int x9), .val (.ref ob10), .val (.long rq11), .second, .val (.ref ob12), .val (.long (0 : Int64)), .second, .val (.int x32), .unset] [(.int x32), (.int x9)])
    by_cases hc233 : x9 < x32
    · skip
      have ihc233 : (x9.toInt < x32.toInt) := Int32.lt_iff_toInt_lt.mp hc233
      refine own_go (fun _ => XS.icmpYes X31.here hx rfl (pc0 := 233) (pc' := 284) rfl (hb hby at_233) rfl (tlt hc233).1 (by decide) (by decide)) ?_
      show GG _ _ _ _ _ _ _ T31 (mkF m 284 #[.val (.long q0), .second, .val (.int p1), .val (.int p2), .val (.int p3), .val (.long x1), .second, .val (.int x3), .val (.int x7), .val (.int x9), .val (.ref ob10), .val (.long rq11), .second, .val (.ref ob12), .val (.long (0 : Int64)), .second, .val (.int x32), .unset] [])
      refine own_go (fun _ => XS.aload X31.here hx rfl (hb hby at_284) rfl rfl) ?_
      show GG _ _ _ _ _ _ _ T31 (mkF m 286 #[.val (.long q0), .second, .val (.int p1), .val (.int p2), .val (.int p3), .val (.long x1), .second, .val (.int x3), .val (.int x7), .val (.int x9), .val (.ref ob10), .val (.long rq11), .second, .val (.ref ob12), .val (.long (0 : Int64)), .second, .val (.int x32), .unset] [(.ref ob10)])
      refine own_go (fun _ => XS.iload X31.here hx rfl (hb hby at_286) rfl) ?_
      show GG _ _ _ _ _ _ _ T31 (mkF m 288 #[.val (.long q0), .second, .val (.int p1), .val (.int p2), .val (.int p3), .val (.long x1), .second, .val (.int x3), .val (.int x7), .val (.int x9), .val (.ref ob10), .val (.long rq11), .second, .val (.ref ob12), .val (.long (0 : Int64)), .second, .val (.int x32), .unset] [(.int x9), (.ref ob10)])
      refine own_go (fun _ => own_caload X31 hx hZ e31 Vq11 (j := x9) (v := (.int (outF V cN eN tN))) (own_nn (by omega)) (by rw [own_nat ht]; exact own_outget V cN eN tN (by omega)) (g := (mkF m 288 #[.val (.long q0), .second, .val (.int p1), .val (.int p2), .val (.int p3), .val (.long x1), .second, .val (.int x3), .val (.int x7), .val (.int x9), .val (.ref ob10), .val (.long rq11), .second, .val (.ref ob12), .val (.long (0 : Int64)), .second, .val (.int x32), .unset] [(.int x9), (.ref ob10)])) rfl rfl (hb hby at_288) _) ?_
      show GG _ _ _ _ _ _ _ T31 (mkF m 289 #[.val (.long q0), .second, .val (.int p1), .val (.int p2), .val (.int p3), .val (.long x1), .second, .val (.int x3), .val (.int x7), .val (.int x9), .val (.ref ob10), .val (.long rq11), .second, .val (.ref ob12), .val (.long (0 : Int64)), .second, .val (.int x32), .unset] [(.int (outF V cN eN tN))])
      have hc289 : (outF V cN eN tN) = (0 : Int32) := own_outo (fun z => by omega)
      refine own_go (fun _ => XS.ifNo X31.here hx rfl (hb hby at_289) rfl ((if0 _ _).trans (teq hc289).2)) ?_
      show GG _ _ _ _ _ _ _ T31 (mkF m 292 #[.val (.long q0), .second, .val (.int p1), .val (.int p2), .val (.int p3), .val (.long x1), .second, .val (.int x3), .val (.int x7), .val (.int x9), .val (.ref ob10), .val (.long rq11), .second, .val (.ref ob12), .val (.long (0 : Int64)), .second, .val (.int x32), .unset] [])
      refine own_go (fun _ => XS.iconst X31.here hx rfl (hb hby at_292)) ?_
      show GG _ _ _ _ _ _ _ T31 (mkF m 293 #[.val (.long q0), .second, .val (.int p1), .val (.int p2), .val (.int p3), .val (.long x1), .second, .val (.int x3), .val (.int x7), .val (.int x9), .val (.ref ob10), .val (.long rq11), .second, .val (.ref ob12), .val (.long (0 : Int64)), .second, .val (.int x32), .unset] [(.int (1 : Int32))])
      refine own_go (fun _ => XS.goto X31.here hx rfl (pc0 := 293) (pc' := 297) rfl (hb hby at_293) (by decide) (by decide)) ?_
      show GG _ _ _ _ _ _ _ T31 (mkF m 297 #[.val (.long q0), .second, .val (.int p1), .val (.int p2), .val (.int p3), .val (.long x1), .second, .val (.int x3), .val (.int x7), .val (.int x9), .val (.ref ob10), .val (.long rq11), .second, .val (.ref ob12), .val (.long (0 : Int64)), .second, .val (.int x32), .unset] [(.int (1 : Int32))])
      refine own_ret X31 hx hlk (t := .boolean) (w := (.int (1 : Int32))) Bd.returns rfl (Or.inl ⟨rfl, by simp, _, rfl⟩) (hb hby at_297) (by decide) (by decide) ?_
      show Q0 Z q0 p1 p2 p3 wAs wAf h0 n0 (some (.int (1 : Int32))) T31.heap _
      rw [e31]
      exact ⟨rfl, N31⟩
    · skip
      have ihc233 : ¬ (x9.toInt < x32.toInt) := fun q => hc233 (Int32.lt_iff_toInt_lt.mpr q)
      refine own_go (fun _ => XS.icmpNo X31.here hx rfl (hb hby at_233) rfl (flt hc233).1) ?_
      show GG _ _ _ _ _ _ _ T31 (mkF m 236 #[.val (.long q0), .second, .val (.int p1), .val (.int p2), .val (.int p3), .val (.long x1), .second, .val (.int x3), .val (.int x7), .val (.int x9), .val (.ref ob10), .val (.long rq11), .second, .val (.ref ob12), .val (.long (0 : Int64)), .second, .val (.int x32), .unset] [])
      refine own_go (fun _ => XS.iload X31.here hx rfl (hb hby at_236) rfl) ?_
      show GG _ _ _ _ _ _ _ T31 (mkF m 238 #[.val (.long q0), .second, .val (.int p1), .val (.int p2), .val (.int p3), .val (.long x1), .second, .val (.int x3), .val (.int x7), .val (.int x9), .val (.ref ob10), .val (.long rq11), .second, .val (.ref ob12), .val (.long (0 : Int64)), .second, .val (.int x32), .unset] [(.int x9)])
      refine own_go (fun _ => XS.iload X31.here hx rfl (hb hby at_238) rfl) ?_
      show GG _ _ _ _ _ _ _ T31 (mkF m 240 #[.val (.long q0), .second, .val (.int p1), .val (.int p2), .val (.int p3), .val (.long x1), .second, .val (.int x3), .val (.int x7), .val (.int x9), .val (.ref ob10), .val (.long rq11), .second, .val (.ref ob12), .val (.long (0 : Int64)), .second, .val (.int x32), .unset] [(.int x7), (.int x9)])
      by_cases hc240 : x9 < x7
      · skip
        have ihc240 : (x9.toInt < x7.toInt) := Int32.lt_iff_toInt_lt.mp hc240
        refine own_go (fun _ => XS.icmpNo X31.here hx rfl (hb hby at_240) rfl (tlt hc240).2.1) ?_
        show GG _ _ _ _ _ _ _ T31 (mkF m 243 #[.val (.long q0), .second, .val (.int p1), .val (.int p2), .val (.int p3), .val (.long x1), .second, .val (.int x3), .val (.int x7), .val (.int x9), .val (.ref ob10), .val (.long rq11), .second, .val (.ref ob12), .val (.long (0 : Int64)), .second, .val (.int x32), .unset] [])
        refine own_go (fun _ => XS.iload X31.here hx rfl (hb hby at_243) rfl) ?_
        show GG _ _ _ _ _ _ _ T31 (mkF m 245 #[.val (.long q0), .second, .val (.int p1), .val (.int p2), .val (.int p3), .val (.long x1), .second, .val (.int x3), .val (.int x7), .val (.int x9), .val (.ref ob10), .val (.long rq11), .second, .val (.ref ob12), .val (.long (0 : Int64)), .second, .val (.int x32), .unset] [(.int x7)])
        refine own_go (fun _ => XS.iconst X31.here hx rfl (hb hby at_245)) ?_
        show GG _ _ _ _ _ _ _ T31 (mkF m 246 #[.val (.long q0), .second, .val (.int p1), .val (.int p2), .val (.int p3), .val (.long x1), .second, .val (.int x3), .val (.int x7), .val (.int x9), .val (.ref ob10), .val (.long rq11), .second, .val (.ref ob12), .val (.long (0 : Int64)), .second, .val (.int x32), .unset] [(.int (1 : Int32)), (.int x7)])
        refine own_go (fun _ => XS.isub X31.here hx rfl (hb hby at_246) rfl) ?_
        show GG _ _ _ _ _ _ _ T31 (mkF m 247 #[.val (.long q0), .second, .val (.int p1), .val (.int p2), .val (.int p3), .val (.long x1), .second, .val (.int x3), .val (.int x7), .val (.int x9), .val (.ref ob10), .val (.long rq11), .second, .val (.ref ob12), .val (.long (0 : Int64)), .second, .val (.int x32), .unset] [(.int (x7 - (1 : Int32)))])
        have cx33 := c_isub x7 (1 : Int32)
        simp only [show ((1 : Int32)).toInt = 1 from by decide] at cx33
        generalize hx33 : (x7 - (1 : Int32)) = x33 at cx33 ⊢
        have rx33 := rng32 x33
        have dx33 : x33.toInt = x7.toInt - 1 := by omega
        clear cx33
        refine own_go (fun _ => XS.iload X31.here hx rfl (hb hby at_247) rfl) ?_
        show GG _ _ _ _ _ _ _ T31 (mkF m 249 #[.val (.long q0), .second, .val (.int p1), .val (.int p2), .val (.int p3), .val (.long x1), .second, .val (.int x3), .val (.int x7), .val (.int x9), .val (.ref ob10), .val (.long rq11), .second, .val (.ref ob12), .val (.long (0 : Int64)), .second, .val (.int x32), .unset] [(.int x9), (.int x33)])
        refine own_go (fun _ => XS.isub X31.here hx rfl (hb hby at_249) rfl) ?_
        show GG _ _ _ _ _ _ _ T31 (mkF m 250 #[.val (.long q0), .second, .val (.int p1), .val (.int p2), .val (.int p3), .val (.long x1), .second, .val (.int x3), .val (.int x7), .val (.int x9), .val (.ref ob10), .val (.long rq11), .second, .val (.ref ob12), .val (.long (0 : Int64)), .second, .val (.int x32), .unset] [(.int (x33 - x9))])
        have cx34 := c_isub x33 x9
        generalize hx34 : (x33 - x9) = x34 at cx34 ⊢
        have rx34 := rng32 x34
        have dx34 : x34.toInt = x33.toInt - x9.toInt := by omega
        clear cx34
        refine own_go (fun _ => XS.istore X31.here hx rfl (hb hby at_250) rfl (l' := #[.val (.long q0), .second, .val (.int p1), .val (.int p2), .val (.int p3), .val (.long x1), .second, .val (.int x3), .val (.int x7), .val (.int x9), .val (.ref ob10), .val (.long rq11), .second, .val (.ref ob12), .val (.long (0 : Int64)), .second, .val (.int x32), .val (.int x34)]) rfl) ?_
        show GG _ _ _ _ _ _ _ T31 (mkF m 252 #[.val (.long q0), .second, .val (.int p1), .val (.int p2), .val (.int p3), .val (.long x1), .second, .val (.int x3), .val (.int x7), .val (.int x9), .val (.ref ob10), .val (.long rq11), .second, .val (.ref ob12), .val (.long (0 : Int64)), .second, .val (.int x32), .val (.int x34)] [])
        obtain ⟨kN, hk⟩ : ∃ z : Nat, x34.toInt = z := ⟨x34.toInt.toNat, by omega⟩
        refine own_go (fun _ => XS.aload X31.here hx rfl (hb hby at_252) rfl rfl) ?_
        show GG _ _ _ _ _ _ _ T31 (mkF m 254 #[.val (.long q0), .second, .val (.int p1), .val (.int p2), .val (.int p3), .val (.long x1), .second, .val (.int x3), .val (.int x7), .val (.int x9), .val (.ref ob10), .val (.long rq11), .second, .val (.ref ob12), .val (.long (0 : Int64)), .second, .val (.int x32), .val (.int x34)] [(.ref ob10)])
        refine own_go (fun _ => XS.iload X31.here hx rfl (hb hby at_254) rfl) ?_
        show GG _ _ _ _ _ _ _ T31 (mkF m 256 #[.val (.long q0), .second, .val (.int p1), .val (.int p2), .val (.int p3), .val (.long x1), .second, .val (.int x3), .val (.int x7), .val (.int x9), .val (.ref ob10), .val (.long rq11), .second, .val (.ref ob12), .val (.long (0 : Int64)), .second, .val (.int x32), .val (.int x34)] [(.int x9), (.ref ob10)])
        refine own_go (fun _ => own_caload X31 hx hZ e31 Vq11 (j := x9) (v := (.int (outF V cN eN tN))) (own_nn (by omega)) (by rw [own_nat ht]; exact own_outget V cN eN tN (by omega)) (g := (mkF m 256 #[.val (.long q0), .second, .val (.int p1), .val (.int p2), .val (.int p3), .val (.long x1), .second, .val (.int x3), .val (.int x7), .val (.int x9), .val (.ref ob10), .val (.long rq11), .second, .val (.ref ob12), .val (.long (0 : Int64)), .second, .val (.int x32), .val (.int x34)] [(.int x9), (.ref ob10)])) rfl rfl (hb hby at_256) _) ?_
        show GG _ _ _ _ _ _ _ T31 (mkF m 257 #[.val (.long q0), .second, .val (.int p1), .val (.int p2), .val (.int p3), .val (.long x1), .second, .val (.int x3), .val (.int x7), .val (.int x9), .val (.ref ob10), .val (.long rq11), .second, .val (.ref ob12), .val (.long (0 : Int64)), .second, .val (.int x32), .val (.int x34)] [(.int (outF V cN eN tN))])
        refine own_go (fun _ => X31.ldc2Long hx hown (mvT hZ (hw _ (List.mem_of_getElem? (i := 31) rfl))) (g := (mkF m 257 #[.val (.long q0), .second, .val (.int p1), .val (.int p2), .val (.int p3), .val (.long x1), .second, .val (.int x3), .val (.int x7), .val (.int x9), .val (.ref ob10), .val (.long rq11), .second, .val (.ref ob12), .val (.long (0 : Int64)), .second, .val (.int x32), .val (.int x34)] [(.int (outF V cN eN tN))])) rfl (hb hby at_257) _) ?_
        show GG _ _ _ _ _ _ _ T31 (mkF m 260 #[.val (.long q0), .second, .val (.int p1), .val (.int p2), .val (.int p3), .val (.long x1), .second, .val (.int x3), .val (.int x7), .val (.int x9), .val (.ref ob10), .val (.long rq11), .second, .val (.ref ob12), .val (.long (0 : Int64)), .second, .val (.int x32), .val (.int x34)] [(.long (48 : Int64)), (.int (outF V cN eN tN))])
        refine own_go (fun _ => XS.lload X31.here hx rfl (hb hby at_260) rfl) ?_
        show GG _ _ _ _ _ _ _ T31 (mkF m 262 #[.val (.long q0), .second, .val (.int p1), .val (.int p2), .val (.int p3), .val (.long x1), .second, .val (.int x3), .val (.int x7), .val (.int x9), .val (.ref ob10), .val (.long rq11), .second, .val (.ref ob12), .val (.long (0 : Int64)), .second, .val (.int x32), .val (.int x34)] [(.long x1), (.long (48 : Int64)), (.int (outF V cN eN tN))])
        refine own_go (fun _ => XS.aload X31.here hx rfl (hb hby at_262) rfl rfl) ?_
        show GG _ _ _ _ _ _ _ T31 (mkF m 264 #[.val (.long q0), .second, .val (.int p1), .val (.int p2), .val (.int p3), .val (.long x1), .second, .val (.int x3), .val (.int x7), .val (.int x9), .val (.ref ob10), .val (.long rq11), .second, .val (.ref ob12), .val (.long (0 : Int64)), .second, .val (.int x32), .val (.int x34)] [(.ref ob12), (.long x1), (.long (48 : Int64)), (.int (outF V cN eN tN))])
        refine own_go (fun _ => XS.iload X31.here hx rfl (hb hby at_264) rfl) ?_
        show GG _ _ _ _ _ _ _ T31 (mkF m 266 #[.val (.long q0), .second, .val (.int p1), .val (.int p2), .val (.int p3), .val (.long x1), .second, .val (.int x3), .val (.int x7), .val (.int x9), .val (.ref ob10), .val (.long rq11), .second, .val (.ref ob12), .val (.long (0 : Int64)), .second, .val (.int x32), .val (.int x34)] [(.int x34), (.ref ob12), (.long x1), (.long (48 : Int64)), (.int (outF V cN eN tN))])
        obtain ⟨zb, hzb, hpb⟩ := own_p19 kN (by omega)
        refine own_go (fun _ => own_laload X31 hx hZ e31 V_ob12 (j := x34) (v := (.long zb)) (own_nn (by omega)) (by rw [own_nat hk]; exact hzb) (g := (mkF m 266 #[.val (.long q0), .second, .val (.int p1), .val (.int p2), .val (.int p3), .val (.long x1), .second, .val (.int x3), .val (.int x7), .val (.int x9), .val (.ref ob10), .val (.long rq11), .second, .val (.ref ob12), .val (.long (0 : Int64)), .second, .val (.int x32), .val (.int x34)] [(.int x34), (.ref ob12), (.long x1), (.long (48 : Int64)), (.int (outF V cN eN tN))])) rfl rfl (hb hby at_266) _) ?_
        show GG _ _ _ _ _ _ _ T31 (mkF m 267 #[.val (.long q0), .second, .val (.int p1), .val (.int p2), .val (.int p3), .val (.long x1), .second, .val (.int x3), .val (.int x7), .val (.int x9), .val (.ref ob10), .val (.long rq11), .second, .val (.ref ob12), .val (.long (0 : Int64)), .second, .val (.int x32), .val (.int x34)] [(.long zb), (.long x1), (.long (48 : Int64)), (.int (outF V cN eN tN))])
        refine own_go (fun _ => XS.ldiv X31.here hx rfl (hb hby at_267) rfl (own_pne hpb).1) ?_
        show GG _ _ _ _ _ _ _ T31 (mkF m 268 #[.val (.long q0), .second, .val (.int p1), .val (.int p2), .val (.int p3), .val (.long x1), .second, .val (.int x3), .val (.int x7), .val (.int x9), .val (.ref ob10), .val (.long rq11), .second, .val (.ref ob12), .val (.long (0 : Int64)), .second, .val (.int x32), .val (.int x34)] [(.long (x1 / zb)), (.long (48 : Int64)), (.int (outF V cN eN tN))])
        generalize hx35 : (x1 / zb) = x35
        have rx35 := rng64 x35
        have e267 : x35.toInt = (V / 10 ^ kN : Nat) := hx35 ▸ own_ldv hV hpb
        obtain ⟨rV, hrV⟩ : ∃ r, V / 10 ^ kN = r := ⟨_, rfl⟩
        rw [hrV] at e267
        have hdg : dg V kN = rV % 10 := own_dg0 hrV
        refine own_go (fun _ => X31.ldc2Long hx hown (mvT hZ (hw _ (List.mem_of_getElem? (i := 13) rfl))) (g := (mkF m 268 #[.val (.long q0), .second, .val (.int p1), .val (.int p2), .val (.int p3), .val (.long x1), .second, .val (.int x3), .val (.int x7), .val (.int x9), .val (.ref ob10), .val (.long rq11), .second, .val (.ref ob12), .val (.long (0 : Int64)), .second, .val (.int x32), .val (.int x34)] [(.long x35), (.long (48 : Int64)), (.int (outF V cN eN tN))])) rfl (hb hby at_268) _) ?_
        show GG _ _ _ _ _ _ _ T31 (mkF m 271 #[.val (.long q0), .second, .val (.int p1), .val (.int p2), .val (.int p3), .val (.long x1), .second, .val (.int x3), .val (.int x7), .val (.int x9), .val (.ref ob10), .val (.long rq11), .second, .val (.ref ob12), .val (.long (0 : Int64)), .second, .val (.int x32), .val (.int x34)] [(.long (10 : Int64)), (.long x35), (.long (48 : Int64)), (.int (outF V cN eN tN))])
        refine own_go (fun _ => XS.lrem X31.here hx rfl (hb hby at_271) rfl (by decide)) ?_
        show GG _ _ _ _ _ _ _ T31 (mkF m 272 #[.val (.long q0), .second, .val (.int p1), .val (.int p2), .val (.int p3), .val (.long x1), .second, .val (.int x3), .val (.int x7), .val (.int x9), .val (.ref ob10), .val (.long rq11), .second, .val (.ref ob12), .val (.long (0 : Int64)), .second, .val (.int x32), .val (.int x34)] [(.long (x35 - (x35 / (10 : Int64)) * (10 : Int64))), (.long (48 : Int64)), (.int (outF V cN eN tN))])
        have cx36 := c_lrem x35 (10 : Int64) 10 (by decide)
        generalize hx36 : (x35 - (x35 / (10 : Int64)) * (10 : Int64)) = x36 at cx36 ⊢
        have rx36 := rng64 x36
        refine own_go (fun _ => XS.ladd X31.here hx rfl (hb hby at_272) rfl) ?_
        show GG _ _ _ _ _ _ _ T31 (mkF m 273 #[.val (.long q0), .second, .val (.int p1), .val (.int p2), .val (.int p3), .val (.long x1), .second, .val (.int x3), .val (.int x7), .val (.int x9), .val (.ref ob10), .val (.long rq11), .second, .val (.ref ob12), .val (.long (0 : Int64)), .second, .val (.int x32), .val (.int x34)] [(.long ((48 : Int64) + x36)), (.int (outF V cN eN tN))])
        have cx37 := c_ladd (48 : Int64) x36
        simp only [show ((48 : Int64)).toInt = 48 from by decide] at cx37
        generalize hx37 : ((48 : Int64) + x36) = x37 at cx37 ⊢
        have rx37 := rng64 x37
        have dx37 : x37.toInt = 48 + x36.toInt := by omega
        clear cx37
        refine own_go (fun _ => XS.l2i X31.here hx rfl (hb hby at_273) rfl) ?_
        show GG _ _ _ _ _ _ _ T31 (mkF m 274 #[.val (.long q0), .second, .val (.int p1), .val (.int p2), .val (.int p3), .val (.long x1), .second, .val (.int x3), .val (.int x7), .val (.int x9), .val (.ref ob10), .val (.long rq11), .second, .val (.ref ob12), .val (.long (0 : Int64)), .second, .val (.int x32), .val (.int x34)] [(.int (x37.toInt32)), (.int (outF V cN eN tN))])
        have cx38 := c_l2i x37
        generalize hx38 : (x37.toInt32) = x38 at cx38 ⊢
        have rx38 := rng32 x38
        have dx38 : x38.toInt = x37.toInt := by omega
        clear cx38
        refine own_go (fun _ => XS.i2c X31.here hx rfl (hb hby at_274) rfl) ?_
        show GG _ _ _ _ _ _ _ T31 (mkF m 275 #[.val (.long q0), .second, .val (.int p1), .val (.int p2), .val (.int p3), .val (.long x1), .second, .val (.int x3), .val (.int x7), .val (.int x9), .val (.ref ob10), .val (.long rq11), .second, .val (.ref ob12), .val (.long (0 : Int64)), .second, .val (.int x32), .val (.int x34)] [(.int (x38.toUInt32.toUInt16.toUInt32.toInt32)), (.int (outF V cN eN tN))])
        have cx39 := c_i2c x38
        generalize hx39 : (x38.toUInt32.toUInt16.toUInt32.toInt32) = x39 at cx39 ⊢
        have rx39 := rng32 x39
        have dx39 : x39.toInt = x38.toInt := by omega
        clear cx39
        have hc275 : (outF V cN eN tN) = x39 := by rw [own_outin ⟨by omega, by omega⟩, ← Int32.toInt_inj, show eN - 1 - tN = kN by omega, hdg, own_ofNat (by omega)]; omega
        refine own_go (fun _ => XS.icmpNo X31.here hx rfl (hb hby at_275) rfl (teq hc275).2) ?_
        show GG _ _ _ _ _ _ _ T31 (mkF m 278 #[.val (.long q0), .second, .val (.int p1), .val (.int p2), .val (.int p3), .val (.long x1), .second, .val (.int x3), .val (.int x7), .val (.int x9), .val (.ref ob10), .val (.long rq11), .second, .val (.ref ob12), .val (.long (0 : Int64)), .second, .val (.int x32), .val (.int x34)] [])
        refine own_go (fun _ => XS.iconst X31.here hx rfl (hb hby at_278)) ?_
        show GG _ _ _ _ _ _ _ T31 (mkF m 279 #[.val (.long q0), .second, .val (.int p1), .val (.int p2), .val (.int p3), .val (.long x1), .second, .val (.int x3), .val (.int x7), .val (.int x9), .val (.ref ob10), .val (.long rq11), .second, .val (.ref ob12), .val (.long (0 : Int64)), .second, .val (.int x32), .val (.int x34)] [(.int (1 : Int32))])
        refine own_go (fun _ => XS.goto X31.here hx rfl (pc0 := 279) (pc' := 283) rfl (hb hby at_279) (by decide) (by decide)) ?_
        show GG _ _ _ _ _ _ _ T31 (mkF m 283 #[.val (.long q0), .second, .val (.int p1), .val (.int p2), .val (.int p3), .val (.long x1), .second, .val (.int x3), .val (.int x7), .val (.int x9), .val (.ref ob10), .val (.long rq11), .second, .val (.ref ob12), .val (.long (0 : Int64)), .second, .val (.int x32), .val (.int x34)] [(.int (1 : Int32))])
        refine own_ret X31 hx hlk (t := .boolean) (w := (.int (1 : Int32))) Bd.returns rfl (Or.inl ⟨rfl, by simp, _, rfl⟩) (hb hby at_283) (by decide) (by decide) ?_
        show Q0 Z q0 p1 p2 p3 wAs wAf h0 n0 (some (.int (1 : Int32))) T31.heap _
        rw [e31]
        exact ⟨rfl, N31⟩
      · skip
        have ihc240 : ¬ (x9.toInt < x7.toInt) := fun q => hc240 (Int32.lt_iff_toInt_lt.mpr q)
        refine own_go (fun _ => XS.icmpYes X31.here hx rfl (pc0 := 240) (pc' := 284) rfl (hb hby at_240) rfl (flt hc240).2.1 (by decide) (by decide)) ?_
        show GG _ _ _ _ _ _ _ T31 (mkF m 284 #[.val (.long q0), .second, .val (.int p1), .val (.int p2), .val (.int p3), .val (.long x1), .second, .val (.int x3), .val (.int x7), .val (.int x9), .val (.ref ob10), .val (.long rq11), .second, .val (.ref ob12), .val (.long (0 : Int64)), .second, .val (.int x32), .unset] [])
        refine own_go (fun _ => XS.aload X31.here hx rfl (hb hby at_284) rfl rfl) ?_
        show GG _ _ _ _ _ _ _ T31 (mkF m 286 #[.val (.long q0), .second, .val (.int p1), .val (.int p2), .val (.int p3), .val (.long x1), .second, .val (.int x3), .val (.int x7), .val (.int x9), .val (.ref ob10), .val (.long rq11), .second, .val (.ref ob12), .val (.long (0 : Int64)), .second, .val (.int x32), .unset] [(.ref ob10)])
        refine own_go (fun _ => XS.iload X31.here hx rfl (hb hby at_286) rfl) ?_
        show GG _ _ _ _ _ _ _ T31 (mkF m 288 #[.val (.long q0), .second, .val (.int p1), .val (.int p2), .val (.int p3), .val (.long x1), .second, .val (.int x3), .val (.int x7), .val (.int x9), .val (.ref ob10), .val (.long rq11), .second, .val (.ref ob12), .val (.long (0 : Int64)), .second, .val (.int x32), .unset] [(.int x9), (.ref ob10)])
        refine own_go (fun _ => own_caload X31 hx hZ e31 Vq11 (j := x9) (v := (.int (outF V cN eN tN))) (own_nn (by omega)) (by rw [own_nat ht]; exact own_outget V cN eN tN (by omega)) (g := (mkF m 288 #[.val (.long q0), .second, .val (.int p1), .val (.int p2), .val (.int p3), .val (.long x1), .second, .val (.int x3), .val (.int x7), .val (.int x9), .val (.ref ob10), .val (.long rq11), .second, .val (.ref ob12), .val (.long (0 : Int64)), .second, .val (.int x32), .unset] [(.int x9), (.ref ob10)])) rfl rfl (hb hby at_288) _) ?_
        show GG _ _ _ _ _ _ _ T31 (mkF m 289 #[.val (.long q0), .second, .val (.int p1), .val (.int p2), .val (.int p3), .val (.long x1), .second, .val (.int x3), .val (.int x7), .val (.int x9), .val (.ref ob10), .val (.long rq11), .second, .val (.ref ob12), .val (.long (0 : Int64)), .second, .val (.int x32), .unset] [(.int (outF V cN eN tN))])
        have hc289 : (outF V cN eN tN) = (0 : Int32) := own_outo (fun z => by omega)
        refine own_go (fun _ => XS.ifNo X31.here hx rfl (hb hby at_289) rfl ((if0 _ _).trans (teq hc289).2)) ?_
        show GG _ _ _ _ _ _ _ T31 (mkF m 292 #[.val (.long q0), .second, .val (.int p1), .val (.int p2), .val (.int p3), .val (.long x1), .second, .val (.int x3), .val (.int x7), .val (.int x9), .val (.ref ob10), .val (.long rq11), .second, .val (.ref ob12), .val (.long (0 : Int64)), .second, .val (.int x32), .unset] [])
        refine own_go (fun _ => XS.iconst X31.here hx rfl (hb hby at_292)) ?_
        show GG _ _ _ _ _ _ _ T31 (mkF m 293 #[.val (.long q0), .second, .val (.int p1), .val (.int p2), .val (.int p3), .val (.long x1), .second, .val (.int x3), .val (.int x7), .val (.int x9), .val (.ref ob10), .val (.long rq11), .second, .val (.ref ob12), .val (.long (0 : Int64)), .second, .val (.int x32), .unset] [(.int (1 : Int32))])
        refine own_go (fun _ => XS.goto X31.here hx rfl (pc0 := 293) (pc' := 297) rfl (hb hby at_293) (by decide) (by decide)) ?_
        show GG _ _ _ _ _ _ _ T31 (mkF m 297 #[.val (.long q0), .second, .val (.int p1), .val (.int p2), .val (.int p3), .val (.long x1), .second, .val (.int x3), .val (.int x7), .val (.int x9), .val (.ref ob10), .val (.long rq11), .second, .val (.ref ob12), .val (.long (0 : Int64)), .second, .val (.int x32), .unset] [(.int (1 : Int32))])
        refine own_ret X31 hx hlk (t := .boolean) (w := (.int (1 : Int32))) Bd.returns rfl (Or.inl ⟨rfl, by simp, _, rfl⟩) (hb hby at_297) (by decide) (by decide) ?_
        show Q0 Z q0 p1 p2 p3 wAs wAf h0 n0 (some (.int (1 : Int32))) T31.heap _
        rw [e31]
        exact ⟨rfl, N31⟩
  · skip
    have hc195 : ¬ (x3 = (19 : Int32)) := (fun q => absurd (Int32.toInt_inj.mpr q) ((by show ¬ (x3.toInt = 19); omega : ¬ (x3.toInt = 19))))
    refine own_go (fun _ => XS.icmpYes X31.here hx rfl (pc0 := 195) (pc' := 202) rfl (hb hby at_195) rfl (feq hc195).2 (by decide) (by decide)) ?_
    show GG _ _ _ _ _ _ _ T31 (mkF m 202 #[.val (.long q0), .second, .val (.int p1), .val (.int p2), .val (.int p3), .val (.long x1), .second, .val (.int x3), .val (.int x7), .val (.int x9), .val (.ref ob10), .val (.long rq11), .second, .val (.ref ob12), .unset, .unset, .unset, .unset] [])
    refine own_go (fun _ => XS.lload X31.here hx rfl (hb hby at_202) rfl) ?_
    show GG _ _ _ _ _ _ _ T31 (mkF m 204 #[.val (.long q0), .second, .val (.int p1), .val (.int p2), .val (.int p3), .val (.long x1), .second, .val (.int x3), .val (.int x7), .val (.int x9), .val (.ref ob10), .val (.long rq11), .second, .val (.ref ob12), .unset, .unset, .unset, .unset] [(.long x1)])
    refine own_go (fun _ => XS.aload X31.here hx rfl (hb hby at_204) rfl rfl) ?_
    show GG _ _ _ _ _ _ _ T31 (mkF m 206 #[.val (.long q0), .second, .val (.int p1), .val (.int p2), .val (.int p3), .val (.long x1), .second, .val (.int x3), .val (.int x7), .val (.int x9), .val (.ref ob10), .val (.long rq11), .second, .val (.ref ob12), .unset, .unset, .unset, .unset] [(.ref ob12), (.long x1)])
    refine own_go (fun _ => XS.iload X31.here hx rfl (hb hby at_206) rfl) ?_
    show GG _ _ _ _ _ _ _ T31 (mkF m 208 #[.val (.long q0), .second, .val (.int p1), .val (.int p2), .val (.int p3), .val (.long x1), .second, .val (.int x3), .val (.int x7), .val (.int x9), .val (.ref ob10), .val (.long rq11), .second, .val (.ref ob12), .unset, .unset, .unset, .unset] [(.int x3), (.ref ob12), (.long x1)])
    obtain ⟨za, hza, hpa⟩ := own_p19 cN (by omega)
    refine own_go (fun _ => own_laload X31 hx hZ e31 V_ob12 (j := x3) (v := (.long za)) (own_nn (by omega)) (by rw [own_nat hc]; exact hza) (g := (mkF m 208 #[.val (.long q0), .second, .val (.int p1), .val (.int p2), .val (.int p3), .val (.long x1), .second, .val (.int x3), .val (.int x7), .val (.int x9), .val (.ref ob10), .val (.long rq11), .second, .val (.ref ob12), .unset, .unset, .unset, .unset] [(.int x3), (.ref ob12), (.long x1)])) rfl rfl (hb hby at_208) _) ?_
    show GG _ _ _ _ _ _ _ T31 (mkF m 209 #[.val (.long q0), .second, .val (.int p1), .val (.int p2), .val (.int p3), .val (.long x1), .second, .val (.int x3), .val (.int x7), .val (.int x9), .val (.ref ob10), .val (.long rq11), .second, .val (.ref ob12), .unset, .unset, .unset, .unset] [(.long za), (.long x1)])
    refine own_go (fun _ => XS.ldiv X31.here hx rfl (hb hby at_209) rfl (own_pne hpa).1) ?_
    show GG _ _ _ _ _ _ _ T31 (mkF m 210 #[.val (.long q0), .second, .val (.int p1), .val (.int p2), .val (.int p3), .val (.long x1), .second, .val (.int x3), .val (.int x7), .val (.int x9), .val (.ref ob10), .val (.long rq11), .second, .val (.ref ob12), .unset, .unset, .unset, .unset] [(.long (x1 / za))])
    generalize hx40 : (x1 / za) = x40
    have rx40 := rng64 x40
    have e14 : x40.toInt = (V / 10 ^ cN : Nat) := hx40 ▸ own_ldv hV hpa
    refine own_go (fun _ => XS.lstore X31.here hx rfl (hb hby at_210) rfl (l' := #[.val (.long q0), .second, .val (.int p1), .val (.int p2), .val (.int p3), .val (.long x1), .second, .val (.int x3), .val (.int x7), .val (.int x9), .val (.ref ob10), .val (.long rq11), .second, .val (.ref ob12), .val (.long x40), .second, .unset, .unset]) rfl) ?_
    show GG _ _ _ _ _ _ _ T31 (mkF m 212 #[.val (.long q0), .second, .val (.int p1), .val (.int p2), .val (.int p3), .val (.long x1), .second, .val (.int x3), .val (.int x7), .val (.int x9), .val (.ref ob10), .val (.long rq11), .second, .val (.ref ob12), .val (.long x40), .second, .unset, .unset] [])
    refine own_go (fun _ => XS.lload X31.here hx rfl (hb hby at_212) rfl) ?_
    show GG _ _ _ _ _ _ _ T31 (mkF m 214 #[.val (.long q0), .second, .val (.int p1), .val (.int p2), .val (.int p3), .val (.long x1), .second, .val (.int x3), .val (.int x7), .val (.int x9), .val (.ref ob10), .val (.long rq11), .second, .val (.ref ob12), .val (.long x40), .second, .unset, .unset] [(.long rq11)])
    refine own_go (fun _ => XS.lload X31.here hx rfl (hb hby at_214) rfl) ?_
    show GG _ _ _ _ _ _ _ T31 (mkF m 216 #[.val (.long q0), .second, .val (.int p1), .val (.int p2), .val (.int p3), .val (.long x1), .second, .val (.int x3), .val (.int x7), .val (.int x9), .val (.ref ob10), .val (.long rq11), .second, .val (.ref ob12), .val (.long x40), .second, .unset, .unset] [(.long x40), (.long rq11)])
    refine own_go (fun _ => XS.lcmp X31.here hx rfl (hb hby at_216) rfl) ?_
    show GG _ _ _ _ _ _ _ T31 (mkF m 217 #[.val (.long q0), .second, .val (.int p1), .val (.int p2), .val (.int p3), .val (.long x1), .second, .val (.int x3), .val (.int x7), .val (.int x9), .val (.ref ob10), .val (.long rq11), .second, .val (.ref ob12), .val (.long x40), .second, .unset, .unset] [(.int (lcmpW rq11 x40))])
    have hc217 : rq11 = x40 := Int64.toInt_inj.mp (by rw [hr11, e14])
    refine own_go (fun _ => XS.ifYes X31.here hx rfl (pc0 := 217) (pc' := 222) rfl (hb hby at_217) rfl ((if0 _ _).trans (teq ((lw_eq _ _).mpr hc217)).1) (by decide) (by decide)) ?_
    show GG _ _ _ _ _ _ _ T31 (mkF m 222 #[.val (.long q0), .second, .val (.int p1), .val (.int p2), .val (.int p3), .val (.long x1), .second, .val (.int x3), .val (.int x7), .val (.int x9), .val (.ref ob10), .val (.long rq11), .second, .val (.ref ob12), .val (.long x40), .second, .unset, .unset] [])
    refine own_go (fun _ => XS.iload X31.here hx rfl (hb hby at_222) rfl) ?_
    show GG _ _ _ _ _ _ _ T31 (mkF m 224 #[.val (.long q0), .second, .val (.int p1), .val (.int p2), .val (.int p3), .val (.long x1), .second, .val (.int x3), .val (.int x7), .val (.int x9), .val (.ref ob10), .val (.long rq11), .second, .val (.ref ob12), .val (.long x40), .second, .unset, .unset] [(.int x7)])
    refine own_go (fun _ => XS.iload X31.here hx rfl (hb hby at_224) rfl) ?_
    show GG _ _ _ _ _ _ _ T31 (mkF m 226 #[.val (.long q0), .second, .val (.int p1), .val (.int p2), .val (.int p3), .val (.long x1), .second, .val (.int x3), .val (.int x7), .val (.int x9), .val (.ref ob10), .val (.long rq11), .second, .val (.ref ob12), .val (.long x40), .second, .unset, .unset] [(.int x3), (.int x7)])
    refine own_go (fun _ => XS.isub X31.here hx rfl (hb hby at_226) rfl) ?_
    show GG _ _ _ _ _ _ _ T31 (mkF m 227 #[.val (.long q0), .second, .val (.int p1), .val (.int p2), .val (.int p3), .val (.long x1), .second, .val (.int x3), .val (.int x7), .val (.int x9), .val (.ref ob10), .val (.long rq11), .second, .val (.ref ob12), .val (.long x40), .second, .unset, .unset] [(.int (x7 - x3))])
    have cx41 := c_isub x7 x3
    generalize hx41 : (x7 - x3) = x41 at cx41 ⊢
    have rx41 := rng32 x41
    have dx41 : x41.toInt = x7.toInt - x3.toInt := by omega
    clear cx41
    refine own_go (fun _ => XS.istore X31.here hx rfl (hb hby at_227) rfl (l' := #[.val (.long q0), .second, .val (.int p1), .val (.int p2), .val (.int p3), .val (.long x1), .second, .val (.int x3), .val (.int x7), .val (.int x9), .val (.ref ob10), .val (.long rq11), .second, .val (.ref ob12), .val (.long x40), .second, .val (.int x41), .unset]) rfl) ?_
    show GG _ _ _ _ _ _ _ T31 (mkF m 229 #[.val (.long q0), .second, .val (.int p1), .val (.int p2), .val (.int p3), .val (.long x1), .second, .val (.int x3), .val (.int x7), .val (.int x9), .val (.ref ob10), .val (.long rq11), .second, .val (.ref ob12), .val (.long x40), .second, .val (.int x41), .unset] [])
    refine own_go (fun _ => XS.iload X31.here hx rfl (hb hby at_229) rfl) ?_
    show GG _ _ _ _ _ _ _ T31 (mkF m 231 #[.val (.long q0), .second, .val (.int p1), .val (.int p2), .val (.int p3), .val (.long x1), .second, .val (.int x3), .val (.int x7), .val (.int x9), .val (.ref ob10), .val (.long rq11), .second, .val (.ref ob12), .val (.long x40), .second, .val (.int x41), .unset] [(.int x9)])
    refine own_go (fun _ => XS.iload X31.here hx rfl (hb hby at_231) rfl) ?_
    show GG _ _ _ _ _ _ _ T31 (mkF m 233 #[.val (.long q0), .second, .val (.int p1), .val (.int p2), .val (.int p3), .val (.long x1), .second, .val (.int x3), .val (.int x7), .val (.int x9), .val (.ref ob10), .val (.long rq11), .second, .val (.ref ob12), .val (.long x40), .second, .val (.int x41), .unset] [(.int x41), (.int x9)])
    by_cases hc233 : x9 < x41
    · skip
      have ihc233 : (x9.toInt < x41.toInt) := Int32.lt_iff_toInt_lt.mp hc233
      refine own_go (fun _ => XS.icmpYes X31.here hx rfl (pc0 := 233) (pc' := 284) rfl (hb hby at_233) rfl (tlt hc233).1 (by decide) (by decide)) ?_
      show GG _ _ _ _ _ _ _ T31 (mkF m 284 #[.val (.long q0), .second, .val (.int p1), .val (.int p2), .val (.int p3), .val (.long x1), .second, .val (.int x3), .val (.int x7), .val (.int x9), .val (.ref ob10), .val (.long rq11), .second, .val (.ref ob12), .val (.long x40), .second, .val (.int x41), .unset] [])
      refine own_go (fun _ => XS.aload X31.here hx rfl (hb hby at_284) rfl rfl) ?_
      show GG _ _ _ _ _ _ _ T31 (mkF m 286 #[.val (.long q0), .second, .val (.int p1), .val (.int p2), .val (.int p3), .val (.long x1), .second, .val (.int x3), .val (.int x7), .val (.int x9), .val (.ref ob10), .val (.long rq11), .second, .val (.ref ob12), .val (.long x40), .second, .val (.int x41), .unset] [(.ref ob10)])
      refine own_go (fun _ => XS.iload X31.here hx rfl (hb hby at_286) rfl) ?_
      show GG _ _ _ _ _ _ _ T31 (mkF m 288 #[.val (.long q0), .second, .val (.int p1), .val (.int p2), .val (.int p3), .val (.long x1), .second, .val (.int x3), .val (.int x7), .val (.int x9), .val (.ref ob10), .val (.long rq11), .second, .val (.ref ob12), .val (.long x40), .second, .val (.int x41), .unset] [(.int x9), (.ref ob10)])
      refine own_go (fun _ => own_caload X31 hx hZ e31 Vq11 (j := x9) (v := (.int (outF V cN eN tN))) (own_nn (by omega)) (by rw [own_nat ht]; exact own_outget V cN eN tN (by omega)) (g := (mkF m 288 #[.val (.long q0), .second, .val (.int p1), .val (.int p2), .val (.int p3), .val (.long x1), .second, .val (.int x3), .val (.int x7), .val (.int x9), .val (.ref ob10), .val (.long rq11), .second, .val (.ref ob12), .val (.long x40), .second, .val (.int x41), .unset] [(.int x9), (.ref ob10)])) rfl rfl (hb hby at_288) _) ?_
      show GG _ _ _ _ _ _ _ T31 (mkF m 289 #[.val (.long q0), .second, .val (.int p1), .val (.int p2), .val (.int p3), .val (.long x1), .second, .val (.int x3), .val (.int x7), .val (.int x9), .val (.ref ob10), .val (.long rq11), .second, .val (.ref ob12), .val (.long x40), .second, .val (.int x41), .unset] [(.int (outF V cN eN tN))])
      have hc289 : (outF V cN eN tN) = (0 : Int32) := own_outo (fun z => by omega)
      refine own_go (fun _ => XS.ifNo X31.here hx rfl (hb hby at_289) rfl ((if0 _ _).trans (teq hc289).2)) ?_
      show GG _ _ _ _ _ _ _ T31 (mkF m 292 #[.val (.long q0), .second, .val (.int p1), .val (.int p2), .val (.int p3), .val (.long x1), .second, .val (.int x3), .val (.int x7), .val (.int x9), .val (.ref ob10), .val (.long rq11), .second, .val (.ref ob12), .val (.long x40), .second, .val (.int x41), .unset] [])
      refine own_go (fun _ => XS.iconst X31.here hx rfl (hb hby at_292)) ?_
      show GG _ _ _ _ _ _ _ T31 (mkF m 293 #[.val (.long q0), .second, .val (.int p1), .val (.int p2), .val (.int p3), .val (.long x1), .second, .val (.int x3), .val (.int x7), .val (.int x9), .val (.ref ob10), .val (.long rq11), .second, .val (.ref ob12), .val (.long x40), .second, .val (.int x41), .unset] [(.int (1 : Int32))])
      refine own_go (fun _ => XS.goto X31.here hx rfl (pc0 := 293) (pc' := 297) rfl (hb hby at_293) (by decide) (by decide)) ?_
      show GG _ _ _ _ _ _ _ T31 (mkF m 297 #[.val (.long q0), .second, .val (.int p1), .val (.int p2), .val (.int p3), .val (.long x1), .second, .val (.int x3), .val (.int x7), .val (.int x9), .val (.ref ob10), .val (.long rq11), .second, .val (.ref ob12), .val (.long x40), .second, .val (.int x41), .unset] [(.int (1 : Int32))])
      refine own_ret X31 hx hlk (t := .boolean) (w := (.int (1 : Int32))) Bd.returns rfl (Or.inl ⟨rfl, by simp, _, rfl⟩) (hb hby at_297) (by decide) (by decide) ?_
      show Q0 Z q0 p1 p2 p3 wAs wAf h0 n0 (some (.int (1 : Int32))) T31.heap _
      rw [e31]
      exact ⟨rfl, N31⟩
    · skip
      have ihc233 : ¬ (x9.toInt < x41.toInt) := fun q => hc233 (Int32.lt_iff_toInt_lt.mpr q)
      refine own_go (fun _ => XS.icmpNo X31.here hx rfl (hb hby at_233) rfl (flt hc233).1) ?_
      show GG _ _ _ _ _ _ _ T31 (mkF m 236 #[.val (.long q0), .second, .val (.int p1), .val (.int p2), .val (.int p3), .val (.long x1), .second, .val (.int x3), .val (.int x7), .val (.int x9), .val (.ref ob10), .val (.long rq11), .second, .val (.ref ob12), .val (.long x40), .second, .val (.int x41), .unset] [])
      refine own_go (fun _ => XS.iload X31.here hx rfl (hb hby at_236) rfl) ?_
      show GG _ _ _ _ _ _ _ T31 (mkF m 238 #[.val (.long q0), .second, .val (.int p1), .val (.int p2), .val (.int p3), .val (.long x1), .second, .val (.int x3), .val (.int x7), .val (.int x9), .val (.ref ob10), .val (.long rq11), .second, .val (.ref ob12), .val (.long x40), .second, .val (.int x41), .unset] [(.int x9)])
      refine own_go (fun _ => XS.iload X31.here hx rfl (hb hby at_238) rfl) ?_
      show GG _ _ _ _ _ _ _ T31 (mkF m 240 #[.val (.long q0), .second, .val (.int p1), .val (.int p2), .val (.int p3), .val (.long x1), .second, .val (.int x3), .val (.int x7), .val (.int x9), .val (.ref ob10), .val (.long rq11), .second, .val (.ref ob12), .val (.long x40), .second, .val (.int x41), .unset] [(.int x7), (.int x9)])
      by_cases hc240 : x9 < x7
      · skip
        have ihc240 : (x9.toInt < x7.toInt) := Int32.lt_iff_toInt_lt.mp hc240
        refine own_go (fun _ => XS.icmpNo X31.here hx rfl (hb hby at_240) rfl (tlt hc240).2.1) ?_
        show GG _ _ _ _ _ _ _ T31 (mkF m 243 #[.val (.long q0), .second, .val (.int p1), .val (.int p2), .val (.int p3), .val (.long x1), .second, .val (.int x3), .val (.int x7), .val (.int x9), .val (.ref ob10), .val (.long rq11), .second, .val (.ref ob12), .val (.long x40), .second, .val (.int x41), .unset] [])
        refine own_go (fun _ => XS.iload X31.here hx rfl (hb hby at_243) rfl) ?_
        show GG _ _ _ _ _ _ _ T31 (mkF m 245 #[.val (.long q0), .second, .val (.int p1), .val (.int p2), .val (.int p3), .val (.long x1), .second, .val (.int x3), .val (.int x7), .val (.int x9), .val (.ref ob10), .val (.long rq11), .second, .val (.ref ob12), .val (.long x40), .second, .val (.int x41), .unset] [(.int x7)])
        refine own_go (fun _ => XS.iconst X31.here hx rfl (hb hby at_245)) ?_
        show GG _ _ _ _ _ _ _ T31 (mkF m 246 #[.val (.long q0), .second, .val (.int p1), .val (.int p2), .val (.int p3), .val (.long x1), .second, .val (.int x3), .val (.int x7), .val (.int x9), .val (.ref ob10), .val (.long rq11), .second, .val (.ref ob12), .val (.long x40), .second, .val (.int x41), .unset] [(.int (1 : Int32)), (.int x7)])
        refine own_go (fun _ => XS.isub X31.here hx rfl (hb hby at_246) rfl) ?_
        show GG _ _ _ _ _ _ _ T31 (mkF m 247 #[.val (.long q0), .second, .val (.int p1), .val (.int p2), .val (.int p3), .val (.long x1), .second, .val (.int x3), .val (.int x7), .val (.int x9), .val (.ref ob10), .val (.long rq11), .second, .val (.ref ob12), .val (.long x40), .second, .val (.int x41), .unset] [(.int (x7 - (1 : Int32)))])
        have cx42 := c_isub x7 (1 : Int32)
        simp only [show ((1 : Int32)).toInt = 1 from by decide] at cx42
        generalize hx42 : (x7 - (1 : Int32)) = x42 at cx42 ⊢
        have rx42 := rng32 x42
        have dx42 : x42.toInt = x7.toInt - 1 := by omega
        clear cx42
        refine own_go (fun _ => XS.iload X31.here hx rfl (hb hby at_247) rfl) ?_
        show GG _ _ _ _ _ _ _ T31 (mkF m 249 #[.val (.long q0), .second, .val (.int p1), .val (.int p2), .val (.int p3), .val (.long x1), .second, .val (.int x3), .val (.int x7), .val (.int x9), .val (.ref ob10), .val (.long rq11), .second, .val (.ref ob12), .val (.long x40), .second, .val (.int x41), .unset] [(.int x9), (.int x42)])
        refine own_go (fun _ => XS.isub X31.here hx rfl (hb hby at_249) rfl) ?_
        show GG _ _ _ _ _ _ _ T31 (mkF m 250 #[.val (.long q0), .second, .val (.int p1), .val (.int p2), .val (.int p3), .val (.long x1), .second, .val (.int x3), .val (.int x7), .val (.int x9), .val (.ref ob10), .val (.long rq11), .second, .val (.ref ob12), .val (.long x40), .second, .val (.int x41), .unset] [(.int (x42 - x9))])
        have cx43 := c_isub x42 x9
        generalize hx43 : (x42 - x9) = x43 at cx43 ⊢
        have rx43 := rng32 x43
        have dx43 : x43.toInt = x42.toInt - x9.toInt := by omega
        clear cx43
        refine own_go (fun _ => XS.istore X31.here hx rfl (hb hby at_250) rfl (l' := #[.val (.long q0), .second, .val (.int p1), .val (.int p2), .val (.int p3), .val (.long x1), .second, .val (.int x3), .val (.int x7), .val (.int x9), .val (.ref ob10), .val (.long rq11), .second, .val (.ref ob12), .val (.long x40), .second, .val (.int x41), .val (.int x43)]) rfl) ?_
        show GG _ _ _ _ _ _ _ T31 (mkF m 252 #[.val (.long q0), .second, .val (.int p1), .val (.int p2), .val (.int p3), .val (.long x1), .second, .val (.int x3), .val (.int x7), .val (.int x9), .val (.ref ob10), .val (.long rq11), .second, .val (.ref ob12), .val (.long x40), .second, .val (.int x41), .val (.int x43)] [])
        obtain ⟨kN, hk⟩ : ∃ z : Nat, x43.toInt = z := ⟨x43.toInt.toNat, by omega⟩
        refine own_go (fun _ => XS.aload X31.here hx rfl (hb hby at_252) rfl rfl) ?_
        show GG _ _ _ _ _ _ _ T31 (mkF m 254 #[.val (.long q0), .second, .val (.int p1), .val (.int p2), .val (.int p3), .val (.long x1), .second, .val (.int x3), .val (.int x7), .val (.int x9), .val (.ref ob10), .val (.long rq11), .second, .val (.ref ob12), .val (.long x40), .second, .val (.int x41), .val (.int x43)] [(.ref ob10)])
        refine own_go (fun _ => XS.iload X31.here hx rfl (hb hby at_254) rfl) ?_
        show GG _ _ _ _ _ _ _ T31 (mkF m 256 #[.val (.long q0), .second, .val (.int p1), .val (.int p2), .val (.int p3), .val (.long x1), .second, .val (.int x3), .val (.int x7), .val (.int x9), .val (.ref ob10), .val (.long rq11), .second, .val (.ref ob12), .val (.long x40), .second, .val (.int x41), .val (.int x43)] [(.int x9), (.ref ob10)])
        refine own_go (fun _ => own_caload X31 hx hZ e31 Vq11 (j := x9) (v := (.int (outF V cN eN tN))) (own_nn (by omega)) (by rw [own_nat ht]; exact own_outget V cN eN tN (by omega)) (g := (mkF m 256 #[.val (.long q0), .second, .val (.int p1), .val (.int p2), .val (.int p3), .val (.long x1), .second, .val (.int x3), .val (.int x7), .val (.int x9), .val (.ref ob10), .val (.long rq11), .second, .val (.ref ob12), .val (.long x40), .second, .val (.int x41), .val (.int x43)] [(.int x9), (.ref ob10)])) rfl rfl (hb hby at_256) _) ?_
        show GG _ _ _ _ _ _ _ T31 (mkF m 257 #[.val (.long q0), .second, .val (.int p1), .val (.int p2), .val (.int p3), .val (.long x1), .second, .val (.int x3), .val (.int x7), .val (.int x9), .val (.ref ob10), .val (.long rq11), .second, .val (.ref ob12), .val (.long x40), .second, .val (.int x41), .val (.int x43)] [(.int (outF V cN eN tN))])
        refine own_go (fun _ => X31.ldc2Long hx hown (mvT hZ (hw _ (List.mem_of_getElem? (i := 31) rfl))) (g := (mkF m 257 #[.val (.long q0), .second, .val (.int p1), .val (.int p2), .val (.int p3), .val (.long x1), .second, .val (.int x3), .val (.int x7), .val (.int x9), .val (.ref ob10), .val (.long rq11), .second, .val (.ref ob12), .val (.long x40), .second, .val (.int x41), .val (.int x43)] [(.int (outF V cN eN tN))])) rfl (hb hby at_257) _) ?_
        show GG _ _ _ _ _ _ _ T31 (mkF m 260 #[.val (.long q0), .second, .val (.int p1), .val (.int p2), .val (.int p3), .val (.long x1), .second, .val (.int x3), .val (.int x7), .val (.int x9), .val (.ref ob10), .val (.long rq11), .second, .val (.ref ob12), .val (.long x40), .second, .val (.int x41), .val (.int x43)] [(.long (48 : Int64)), (.int (outF V cN eN tN))])
        refine own_go (fun _ => XS.lload X31.here hx rfl (hb hby at_260) rfl) ?_
        show GG _ _ _ _ _ _ _ T31 (mkF m 262 #[.val (.long q0), .second, .val (.int p1), .val (.int p2), .val (.int p3), .val (.long x1), .second, .val (.int x3), .val (.int x7), .val (.int x9), .val (.ref ob10), .val (.long rq11), .second, .val (.ref ob12), .val (.long x40), .second, .val (.int x41), .val (.int x43)] [(.long x1), (.long (48 : Int64)), (.int (outF V cN eN tN))])
        refine own_go (fun _ => XS.aload X31.here hx rfl (hb hby at_262) rfl rfl) ?_
        show GG _ _ _ _ _ _ _ T31 (mkF m 264 #[.val (.long q0), .second, .val (.int p1), .val (.int p2), .val (.int p3), .val (.long x1), .second, .val (.int x3), .val (.int x7), .val (.int x9), .val (.ref ob10), .val (.long rq11), .second, .val (.ref ob12), .val (.long x40), .second, .val (.int x41), .val (.int x43)] [(.ref ob12), (.long x1), (.long (48 : Int64)), (.int (outF V cN eN tN))])
        refine own_go (fun _ => XS.iload X31.here hx rfl (hb hby at_264) rfl) ?_
        show GG _ _ _ _ _ _ _ T31 (mkF m 266 #[.val (.long q0), .second, .val (.int p1), .val (.int p2), .val (.int p3), .val (.long x1), .second, .val (.int x3), .val (.int x7), .val (.int x9), .val (.ref ob10), .val (.long rq11), .second, .val (.ref ob12), .val (.long x40), .second, .val (.int x41), .val (.int x43)] [(.int x43), (.ref ob12), (.long x1), (.long (48 : Int64)), (.int (outF V cN eN tN))])
        obtain ⟨zb, hzb, hpb⟩ := own_p19 kN (by omega)
        refine own_go (fun _ => own_laload X31 hx hZ e31 V_ob12 (j := x43) (v := (.long zb)) (own_nn (by omega)) (by rw [own_nat hk]; exact hzb) (g := (mkF m 266 #[.val (.long q0), .second, .val (.int p1), .val (.int p2), .val (.int p3), .val (.long x1), .second, .val (.int x3), .val (.int x7), .val (.int x9), .val (.ref ob10), .val (.long rq11), .second, .val (.ref ob12), .val (.long x40), .second, .val (.int x41), .val (.int x43)] [(.int x43), (.ref ob12), (.long x1), (.long (48 : Int64)), (.int (outF V cN eN tN))])) rfl rfl (hb hby at_266) _) ?_
        show GG _ _ _ _ _ _ _ T31 (mkF m 267 #[.val (.long q0), .second, .val (.int p1), .val (.int p2), .val (.int p3), .val (.long x1), .second, .val (.int x3), .val (.int x7), .val (.int x9), .val (.ref ob10), .val (.long rq11), .second, .val (.ref ob12), .val (.long x40), .second, .val (.int x41), .val (.int x43)] [(.long zb), (.long x1), (.long (48 : Int64)), (.int (outF V cN eN tN))])
        refine own_go (fun _ => XS.ldiv X31.here hx rfl (hb hby at_267) rfl (own_pne hpb).1) ?_
        show GG _ _ _ _ _ _ _ T31 (mkF m 268 #[.val (.long q0), .second, .val (.int p1), .val (.int p2), .val (.int p3), .val (.long x1), .second, .val (.int x3), .val (.int x7), .val (.int x9), .val (.ref ob10), .val (.long rq11), .second, .val (.ref ob12), .val (.long x40), .second, .val (.int x41), .val (.int x43)] [(.long (x1 / zb)), (.long (48 : Int64)), (.int (outF V cN eN tN))])
        generalize hx44 : (x1 / zb) = x44
        have rx44 := rng64 x44
        have e267 : x44.toInt = (V / 10 ^ kN : Nat) := hx44 ▸ own_ldv hV hpb
        obtain ⟨rV, hrV⟩ : ∃ r, V / 10 ^ kN = r := ⟨_, rfl⟩
        rw [hrV] at e267
        have hdg : dg V kN = rV % 10 := own_dg0 hrV
        refine own_go (fun _ => X31.ldc2Long hx hown (mvT hZ (hw _ (List.mem_of_getElem? (i := 13) rfl))) (g := (mkF m 268 #[.val (.long q0), .second, .val (.int p1), .val (.int p2), .val (.int p3), .val (.long x1), .second, .val (.int x3), .val (.int x7), .val (.int x9), .val (.ref ob10), .val (.long rq11), .second, .val (.ref ob12), .val (.long x40), .second, .val (.int x41), .val (.int x43)] [(.long x44), (.long (48 : Int64)), (.int (outF V cN eN tN))])) rfl (hb hby at_268) _) ?_
        show GG _ _ _ _ _ _ _ T31 (mkF m 271 #[.val (.long q0), .second, .val (.int p1), .val (.int p2), .val (.int p3), .val (.long x1), .second, .val (.int x3), .val (.int x7), .val (.int x9), .val (.ref ob10), .val (.long rq11), .second, .val (.ref ob12), .val (.long x40), .second, .val (.int x41), .val (.int x43)] [(.long (10 : Int64)), (.long x44), (.long (48 : Int64)), (.int (outF V cN eN tN))])
        refine own_go (fun _ => XS.lrem X31.here hx rfl (hb hby at_271) rfl (by decide)) ?_
        show GG _ _ _ _ _ _ _ T31 (mkF m 272 #[.val (.long q0), .second, .val (.int p1), .val (.int p2), .val (.int p3), .val (.long x1), .second, .val (.int x3), .val (.int x7), .val (.int x9), .val (.ref ob10), .val (.long rq11), .second, .val (.ref ob12), .val (.long x40), .second, .val (.int x41), .val (.int x43)] [(.long (x44 - (x44 / (10 : Int64)) * (10 : Int64))), (.long (48 : Int64)), (.int (outF V cN eN tN))])
        have cx45 := c_lrem x44 (10 : Int64) 10 (by decide)
        generalize hx45 : (x44 - (x44 / (10 : Int64)) * (10 : Int64)) = x45 at cx45 ⊢
        have rx45 := rng64 x45
        refine own_go (fun _ => XS.ladd X31.here hx rfl (hb hby at_272) rfl) ?_
        show GG _ _ _ _ _ _ _ T31 (mkF m 273 #[.val (.long q0), .second, .val (.int p1), .val (.int p2), .val (.int p3), .val (.long x1), .second, .val (.int x3), .val (.int x7), .val (.int x9), .val (.ref ob10), .val (.long rq11), .second, .val (.ref ob12), .val (.long x40), .second, .val (.int x41), .val (.int x43)] [(.long ((48 : Int64) + x45)), (.int (outF V cN eN tN))])
        have cx46 := c_ladd (48 : Int64) x45
        simp only [show ((48 : Int64)).toInt = 48 from by decide] at cx46
        generalize hx46 : ((48 : Int64) + x45) = x46 at cx46 ⊢
        have rx46 := rng64 x46
        have dx46 : x46.toInt = 48 + x45.toInt := by omega
        clear cx46
        refine own_go (fun _ => XS.l2i X31.here hx rfl (hb hby at_273) rfl) ?_
        show GG _ _ _ _ _ _ _ T31 (mkF m 274 #[.val (.long q0), .second, .val (.int p1), .val (.int p2), .val (.int p3), .val (.long x1), .second, .val (.int x3), .val (.int x7), .val (.int x9), .val (.ref ob10), .val (.long rq11), .second, .val (.ref ob12), .val (.long x40), .second, .val (.int x41), .val (.int x43)] [(.int (x46.toInt32)), (.int (outF V cN eN tN))])
        have cx47 := c_l2i x46
        generalize hx47 : (x46.toInt32) = x47 at cx47 ⊢
        have rx47 := rng32 x47
        have dx47 : x47.toInt = x46.toInt := by omega
        clear cx47
        refine own_go (fun _ => XS.i2c X31.here hx rfl (hb hby at_274) rfl) ?_
        show GG _ _ _ _ _ _ _ T31 (mkF m 275 #[.val (.long q0), .second, .val (.int p1), .val (.int p2), .val (.int p3), .val (.long x1), .second, .val (.int x3), .val (.int x7), .val (.int x9), .val (.ref ob10), .val (.long rq11), .second, .val (.ref ob12), .val (.long x40), .second, .val (.int x41), .val (.int x43)] [(.int (x47.toUInt32.toUInt16.toUInt32.toInt32)), (.int (outF V cN eN tN))])
        have cx48 := c_i2c x47
        generalize hx48 : (x47.toUInt32.toUInt16.toUInt32.toInt32) = x48 at cx48 ⊢
        have rx48 := rng32 x48
        have dx48 : x48.toInt = x47.toInt := by omega
        clear cx48
        have hc275 : (outF V cN eN tN) = x48 := by rw [own_outin ⟨by omega, by omega⟩, ← Int32.toInt_inj, show eN - 1 - tN = kN by omega, hdg, own_ofNat (by omega)]; omega
        refine own_go (fun _ => XS.icmpNo X31.here hx rfl (hb hby at_275) rfl (teq hc275).2) ?_
        show GG _ _ _ _ _ _ _ T31 (mkF m 278 #[.val (.long q0), .second, .val (.int p1), .val (.int p2), .val (.int p3), .val (.long x1), .second, .val (.int x3), .val (.int x7), .val (.int x9), .val (.ref ob10), .val (.long rq11), .second, .val (.ref ob12), .val (.long x40), .second, .val (.int x41), .val (.int x43)] [])
        refine own_go (fun _ => XS.iconst X31.here hx rfl (hb hby at_278)) ?_
        show GG _ _ _ _ _ _ _ T31 (mkF m 279 #[.val (.long q0), .second, .val (.int p1), .val (.int p2), .val (.int p3), .val (.long x1), .second, .val (.int x3), .val (.int x7), .val (.int x9), .val (.ref ob10), .val (.long rq11), .second, .val (.ref ob12), .val (.long x40), .second, .val (.int x41), .val (.int x43)] [(.int (1 : Int32))])
        refine own_go (fun _ => XS.goto X31.here hx rfl (pc0 := 279) (pc' := 283) rfl (hb hby at_279) (by decide) (by decide)) ?_
        show GG _ _ _ _ _ _ _ T31 (mkF m 283 #[.val (.long q0), .second, .val (.int p1), .val (.int p2), .val (.int p3), .val (.long x1), .second, .val (.int x3), .val (.int x7), .val (.int x9), .val (.ref ob10), .val (.long rq11), .second, .val (.ref ob12), .val (.long x40), .second, .val (.int x41), .val (.int x43)] [(.int (1 : Int32))])
        refine own_ret X31 hx hlk (t := .boolean) (w := (.int (1 : Int32))) Bd.returns rfl (Or.inl ⟨rfl, by simp, _, rfl⟩) (hb hby at_283) (by decide) (by decide) ?_
        show Q0 Z q0 p1 p2 p3 wAs wAf h0 n0 (some (.int (1 : Int32))) T31.heap _
        rw [e31]
        exact ⟨rfl, N31⟩
      · skip
        have ihc240 : ¬ (x9.toInt < x7.toInt) := fun q => hc240 (Int32.lt_iff_toInt_lt.mpr q)
        refine own_go (fun _ => XS.icmpYes X31.here hx rfl (pc0 := 240) (pc' := 284) rfl (hb hby at_240) rfl (flt hc240).2.1 (by decide) (by decide)) ?_
        show GG _ _ _ _ _ _ _ T31 (mkF m 284 #[.val (.long q0), .second, .val (.int p1), .val (.int p2), .val (.int p3), .val (.long x1), .second, .val (.int x3), .val (.int x7), .val (.int x9), .val (.ref ob10), .val (.long rq11), .second, .val (.ref ob12), .val (.long x40), .second, .val (.int x41), .unset] [])
        refine own_go (fun _ => XS.aload X31.here hx rfl (hb hby at_284) rfl rfl) ?_
        show GG _ _ _ _ _ _ _ T31 (mkF m 286 #[.val (.long q0), .second, .val (.int p1), .val (.int p2), .val (.int p3), .val (.long x1), .second, .val (.int x3), .val (.int x7), .val (.int x9), .val (.ref ob10), .val (.long rq11), .second, .val (.ref ob12), .val (.long x40), .second, .val (.int x41), .unset] [(.ref ob10)])
        refine own_go (fun _ => XS.iload X31.here hx rfl (hb hby at_286) rfl) ?_
        show GG _ _ _ _ _ _ _ T31 (mkF m 288 #[.val (.long q0), .second, .val (.int p1), .val (.int p2), .val (.int p3), .val (.long x1), .second, .val (.int x3), .val (.int x7), .val (.int x9), .val (.ref ob10), .val (.long rq11), .second, .val (.ref ob12), .val (.long x40), .second, .val (.int x41), .unset] [(.int x9), (.ref ob10)])
        refine own_go (fun _ => own_caload X31 hx hZ e31 Vq11 (j := x9) (v := (.int (outF V cN eN tN))) (own_nn (by omega)) (by rw [own_nat ht]; exact own_outget V cN eN tN (by omega)) (g := (mkF m 288 #[.val (.long q0), .second, .val (.int p1), .val (.int p2), .val (.int p3), .val (.long x1), .second, .val (.int x3), .val (.int x7), .val (.int x9), .val (.ref ob10), .val (.long rq11), .second, .val (.ref ob12), .val (.long x40), .second, .val (.int x41), .unset] [(.int x9), (.ref ob10)])) rfl rfl (hb hby at_288) _) ?_
        show GG _ _ _ _ _ _ _ T31 (mkF m 289 #[.val (.long q0), .second, .val (.int p1), .val (.int p2), .val (.int p3), .val (.long x1), .second, .val (.int x3), .val (.int x7), .val (.int x9), .val (.ref ob10), .val (.long rq11), .second, .val (.ref ob12), .val (.long x40), .second, .val (.int x41), .unset] [(.int (outF V cN eN tN))])
        have hc289 : (outF V cN eN tN) = (0 : Int32) := own_outo (fun z => by omega)
        refine own_go (fun _ => XS.ifNo X31.here hx rfl (hb hby at_289) rfl ((if0 _ _).trans (teq hc289).2)) ?_
        show GG _ _ _ _ _ _ _ T31 (mkF m 292 #[.val (.long q0), .second, .val (.int p1), .val (.int p2), .val (.int p3), .val (.long x1), .second, .val (.int x3), .val (.int x7), .val (.int x9), .val (.ref ob10), .val (.long rq11), .second, .val (.ref ob12), .val (.long x40), .second, .val (.int x41), .unset] [])
        refine own_go (fun _ => XS.iconst X31.here hx rfl (hb hby at_292)) ?_
        show GG _ _ _ _ _ _ _ T31 (mkF m 293 #[.val (.long q0), .second, .val (.int p1), .val (.int p2), .val (.int p3), .val (.long x1), .second, .val (.int x3), .val (.int x7), .val (.int x9), .val (.ref ob10), .val (.long rq11), .second, .val (.ref ob12), .val (.long x40), .second, .val (.int x41), .unset] [(.int (1 : Int32))])
        refine own_go (fun _ => XS.goto X31.here hx rfl (pc0 := 293) (pc' := 297) rfl (hb hby at_293) (by decide) (by decide)) ?_
        show GG _ _ _ _ _ _ _ T31 (mkF m 297 #[.val (.long q0), .second, .val (.int p1), .val (.int p2), .val (.int p3), .val (.long x1), .second, .val (.int x3), .val (.int x7), .val (.int x9), .val (.ref ob10), .val (.long rq11), .second, .val (.ref ob12), .val (.long x40), .second, .val (.int x41), .unset] [(.int (1 : Int32))])
        refine own_ret X31 hx hlk (t := .boolean) (w := (.int (1 : Int32))) Bd.returns rfl (Or.inl ⟨rfl, by simp, _, rfl⟩) (hb hby at_297) (by decide) (by decide) ?_
        show Q0 Z q0 p1 p2 p3 wAs wAf h0 n0 (some (.int (1 : Int32))) T31.heap _
        rw [e31]
        exact ⟨rfl, N31⟩
theorem own_eqe {args : Array Value} {s : State} {o : Option Outcome} {idx : List Nat} {t u : Term} (h : (Jvm.Cond.eq t u).value args s o s idx = some true) : t.eval args s o idx s = u.eval args s o idx s := by
  obtain ⟨a, b, h1, h2, -, -⟩ := cmp_v (Or.inl h)
  rw [h1, h2]
  simp only [Cond.value, h1, h2] at h
  cases a <;> cases b <;> simp_all
theorem own_orE {args : Array Value} {s : State} {o : Option Outcome} {idx : List Nat} {P Q : Jvm.Cond} (h : (Jvm.Cond.or P Q).value args s o s idx = some true) (hP : P.value args s o s idx = some false) : Q.value args s o s idx = some true := by
  simpa only [Cond.value, hP] using h
theorem own_ltF {args : Array Value} {s : State} {o : Option Outcome} {i : Nat} (c : Int32) (hi : i < 100) (h : c.toInt ≤ i) : (Jvm.Cond.lt (.index 0) (.int c)).value args s o s [i] = some false := by
  show some (decide (Int32.ofNat i < c)) = some false
  rw [decide_eq_false (fun q => absurd (Int32.lt_iff_toInt_lt.mp q) (by rw [own_ofNat (by omega)]; omega))]
theorem own_leF {args : Array Value} {s : State} {o : Option Outcome} {i : Nat} (c : Int32) (hi : i < 100) (h : i < c.toInt) : (Jvm.Cond.le (.int c) (.index 0)).value args s o s [i] = some false := by
  show some (decide (c ≤ Int32.ofNat i)) = some false
  rw [decide_eq_false (fun q => absurd (Int32.le_iff_toInt_le.mp q) (by rw [own_ofNat (by omega)]; omega))]
theorem own_eA {args : Array Value} {s : State} {o : Option Outcome} {i : Nat} {T : Term} (z : Int64) (hi : i < 100) (h : (Jvm.Cond.eq (.op1 .i2l T) (.op2 .ladd (.op1 .i2l (.index 0)) (.long z))).value args s o s [i] = some true) (hz : -1000 ≤ z.toInt ∧ z.toInt ≤ 1000) : ∃ a : Int32, T.eval args s o [i] s = some (.int a) ∧ a.toInt = i + z.toInt := by
  have e := own_eqe h
  have e2 : (Term.op2 .ladd (.op1 .i2l (.index 0)) (.long z)).eval args s o [i] s = some (.long ((Int32.ofNat i).toInt64 + z)) := rfl
  rw [e2] at e
  have e3 : (Term.op1 .i2l T).eval args s o [i] s = (T.eval args s o [i] s).bind Unary.i2l.apply := rfl
  rw [e3] at e
  cases ht : T.eval args s o [i] s with
  | none => rw [ht] at e; cases e
  | some v =>
    rw [ht] at e
    cases v with
    | int a =>
      have e4 : a.toInt64 = (Int32.ofNat i).toInt64 + z := Value.long.inj (Option.some.inj e)
      have e5 := congrArg Int64.toInt e4
      have k1 := c_i2l a
      have k2 := c_i2l (Int32.ofNat i)
      have k3 := c_ladd (Int32.ofNat i).toInt64 z
      have k4 := rng64 ((Int32.ofNat i).toInt64 + z)
      rw [own_ofNat (by omega)] at k2
      exact ⟨a, rfl, by have := rng32 a; omega⟩
    | _ => cases e
theorem own_eB {args : Array Value} {s : State} {o : Option Outcome} {i : Nat} {T : Term} (z : Int32) (hi : i < 100) (h : (Jvm.Cond.eq T (.sub (.index 0) (.int z))).value args s o s [i] = some true) (hz : -1000 ≤ z.toInt ∧ z.toInt ≤ 1000) : ∃ a : Int32, T.eval args s o [i] s = some (.int a) ∧ a.toInt = i - z.toInt := by
  have e : T.eval args s o [i] s = some (.int (Int32.ofNat i - z)) := own_eqe h
  have k3 := c_isub (Int32.ofNat i) z
  have k4 := rng32 (Int32.ofNat i - z)
  rw [own_ofNat (by omega)] at k3
  exact ⟨_, e, by omega⟩
theorem own_eC {args : Array Value} {s : State} {o : Option Outcome} {i : Nat} {T : Term} (z : Int32) (h : (Jvm.Cond.eq T (.int z)).value args s o s [i] = some true) : ∃ a : Int32, T.eval args s o [i] s = some (.int a) ∧ a.toInt = z.toInt := ⟨_, own_eqe h, rfl⟩
theorem own_tab0 {args : Array Value} {s : State} {T : Term} {wC : Addr} (ev : T.eval args s none [] s = some (.ref wC)) (ha : (Jvm.Cond.arrayOf T .char).value args s none s [] = some true)
    (hl : (Jvm.Cond.eq (Term.length T) (Term.int (100 : Int32))).value args s none s [] = some true) : ∃ cl, Arr s s.heap wC cl .char ∧ s.arrayAt? wC = some cl ∧ cl.slots.size = 100 := by
  obtain ⟨cl, A⟩ := Arr.start ev ha
  obtain ⟨b, cell, e1, e2, e3, e4⟩ := Jvm.Lib.length_spec (own_eqe hl)
  cases ev.symm.trans e1
  cases (State.arrayAt?_spec e2).1.symm.trans A.1
  refine ⟨cl, A, e2, ?_⟩
  have := congrArg Int32.toInt (Value.int.inj e4)
  rw [len_toInt e3] at this
  have k : (100 : Int32).toInt = 100 := by decide
  omega
theorem own_tab {args : Array Value} {s : State} {C n d : String} {wC : Addr} {cl : Cell} {f : Nat → Nat} (ev : (Term.static C n d).eval args s none [] s = some (.ref wC)) (A : Arr s s.heap wC cl .char) (e2 : s.arrayAt? wC = some cl) (hs : cl.slots.size = 100) (hf : ∀ i, i < 100 → f i < 1000)
    (hE : ∀ i, i < 100 → ∃ a : Int32, (Term.elem (Term.static C n d) (.index 0)).eval args s none [i] s = some (.int a) ∧ a.toInt = f i) : Tab2 s wC f := by
  refine ⟨cl, A, fun j j0 j1 => ?_⟩
  have hr : j.toNatClampNeg < cl.slots.size := by rw [hs]; simp only [Int32.toNatClampNeg]; omega
  have hj : Int32.ofNat j.toNatClampNeg = j := by rw [← Int32.toInt_inj, own_ofNat (by omega)]; simp only [Int32.toNatClampNeg]; omega
  refine ⟨fun q => q.elim (fun q => absurd (Int32.lt_iff_toInt_lt.mp q) (by show ¬ j.toInt < 0; omega)) (Nat.not_le.mpr hr), ?_⟩
  obtain ⟨a, f1, f2⟩ := hE j.toNatClampNeg (hs ▸ hr)
  obtain ⟨y, i, cell', g1, g2, g3, -, g5⟩ := Term.elem_spec f1
  have g1' : (Term.static C n d).eval args s none [] s = some (.ref y) := g1
  cases ev.symm.trans g1'
  cases e2.symm.trans g3
  have gi : Int32.ofNat j.toNatClampNeg = i := Value.int.inj (Option.some.inj g2)
  rw [← gi, hj] at g5
  have e : a = Int32.ofNat (f j.toInt.toNat) := by
    have b := hf j.toInt.toNat (by omega)
    rw [← Int32.toInt_inj, own_ofNat (by omega), f2, show j.toNatClampNeg = j.toInt.toNat from rfl]
  rw [g5, e]
set_option maxRecDepth 65536 in
set_option maxHeartbeats 40000000 in
theorem comes_1 {Post : Tables → Env → Array Value → State → Outcome → State → Prop} (hpost : ∀ tb e args s v u, (limb_1_1.after args s (.returned v) u = true ∧ limb_1_2.after args s (.returned v) u = true ∧ True) → FrameEnd s (.returned v) u (Jvm.fieldLocs frame_1_writes args s ++ Jvm.arrayLocs frame_1_arrays args s ++ Jvm.staticLocs frame_1_statics s) 16 192 → Post tb e args s (.returned v) u) :
    ArmFor flags0 classFile x code maxLocals ret World_1 tables_1 room_1 Calls_1 rest_1 Pre_1 Post := by
  intro l hfl _ _ p e ha hc hk s m args below hf hA hF happ hP
  obtain ⟨hcalls, hrest, hpre⟩ := hP
  obtain ⟨-, -, -, hnamed, -, -, -, hat⟩ := (Spec.applies_iff hf).mp happ
  obtain ⟨hg, hn⟩ := and_e (Cond.before_iff.mp (show (Jvm.Cond.and given_1 narrow_1).before args s = true from hpre))
  obtain ⟨g1, g2⟩ := and_e hg
  obtain ⟨g3, g4⟩ := and_e g2
  obtain ⟨g5, g6⟩ := and_e g4
  obtain ⟨g7, g8⟩ := and_e g6
  obtain ⟨w0, w1, w2, w3, rfl⟩ : ∃ w0 w1 w2 w3 : Value, args = #[w0, w1, w2, w3] := by
    have hs : args.size = 4 := by simpa [Cond.value, given_1] using g1
    obtain ⟨L⟩ := args
    match L, hs with
    | [w0, w1, w2, w3], _ => exact ⟨w0, w1, w2, w3, rfl⟩
  have hw := fun d (hd : d ∈ tables_1) => atoms_spec (ws := Jvm.Cond.code x code maxLocals ret :: tables_1) hat d (List.mem_cons_of_mem _ hd)
  have hfit : Fit s := fun {y c} hc i hi => by
    obtain ⟨ha, rfl⟩ := Array.getElem?_eq_some_iff.mp hc
    have q := List.all_eq_true.mp ((Array.all_eq_true_iff_forall_mem.mp hF) _ (Array.getElem_mem ha)) i (List.mem_range.mpr hi)
    simpa [Array.getElem?_eq_getElem hi] using q
  obtain ⟨i0, ei0⟩ := isL_v g3
  obtain rfl : w0 = (.long i0) := Option.some.inj ei0
  obtain ⟨i1, ei1⟩ := is_v g5
  obtain rfl : w1 = (.int i1) := Option.some.inj ei1
  obtain ⟨i2, ei2⟩ := is_v g7
  obtain rfl : w2 = (.int i2) := Option.some.inj ei2
  obtain ⟨i3, ei3⟩ := is_v g8
  obtain rfl : w3 = (.int i3) := Option.some.inj ei3
  obtain ⟨n0, r0⟩ := and_e hn
  obtain ⟨n1, r1⟩ := and_e r0
  obtain ⟨n2, r2⟩ := and_e r1
  obtain ⟨n3, r3⟩ := and_e r2
  obtain ⟨n4, r4⟩ := and_e r3
  obtain ⟨n5, r5⟩ := and_e r4
  obtain ⟨n6, r6⟩ := and_e r5
  obtain ⟨n7, r7⟩ := and_e r6
  obtain ⟨n8, r8⟩ := and_e r7
  obtain ⟨n9, r9⟩ := and_e r8
  obtain ⟨n10, r10⟩ := and_e r9
  obtain ⟨n11, r11⟩ := and_e r10
  obtain ⟨n12, r12⟩ := and_e r11
  obtain ⟨n13, r13⟩ := and_e r12
  obtain ⟨n14, r14⟩ := and_e r13
  obtain ⟨n15, r15⟩ := and_e r14
  obtain ⟨n16, r16⟩ := and_e r15
  obtain ⟨n17, r17⟩ := and_e r16
  obtain ⟨n18, r18⟩ := and_e r17
  obtain ⟨n19, r19⟩ := and_e r18
  obtain ⟨n20, r20⟩ := and_e r19
  obtain ⟨n21, r21⟩ := and_e r20
  obtain ⟨n22, r22⟩ := and_e r21
  have n23 := r22
  obtain ⟨wsx, evs⟩ := arr_v n0
  have S_s := Sta.start evs (Or.inr ⟨(hw _ (List.mem_of_getElem? (i := 5) rfl)), (hw _ (List.mem_of_getElem? (i := 9) rfl))⟩)
  obtain ⟨cs, As, es, zs⟩ := own_tab0 evs n0 n1
  have T_s : Tab2 s wsx (fun r => 48 + r % 10) := own_tab evs As es zs (fun i hi => by show 48 + _ < 1000; omega) (fun i hi => by
    by_cases b0 : i < 10
    · obtain ⟨a, h1, ha⟩ := own_eA 48 hi (own_orE (Cond.all_elim evs es n4 i (zs ▸ hi)) (own_leF 10 hi (by show (i : Int) < 10; omega))) (by decide)
      exact ⟨a, h1, by show a.toInt = ((48 + i % 10 : Nat) : Int); rw [ha, show (48 : Int64).toInt = 48 from by decide]; omega⟩
    by_cases b1 : i < 20
    · obtain ⟨a, h1, ha⟩ := own_eA 38 hi (own_orE (own_orE (Cond.all_elim evs es n5 i (zs ▸ hi)) (own_ltF 10 hi (by show (10 : Int) ≤ i; omega))) (own_leF 20 hi (by show (i : Int) < 20; omega))) (by decide)
      exact ⟨a, h1, by show a.toInt = ((48 + i % 10 : Nat) : Int); rw [ha, show (38 : Int64).toInt = 38 from by decide]; omega⟩
    by_cases b2 : i < 30
    · obtain ⟨a, h1, ha⟩ := own_eA 28 hi (own_orE (own_orE (Cond.all_elim evs es n6 i (zs ▸ hi)) (own_ltF 20 hi (by show (20 : Int) ≤ i; omega))) (own_leF 30 hi (by show (i : Int) < 30; omega))) (by decide)
      exact ⟨a, h1, by show a.toInt = ((48 + i % 10 : Nat) : Int); rw [ha, show (28 : Int64).toInt = 28 from by decide]; omega⟩
    by_cases b3 : i < 40
    · obtain ⟨a, h1, ha⟩ := own_eA 18 hi (own_orE (own_orE (Cond.all_elim evs es n7 i (zs ▸ hi)) (own_ltF 30 hi (by show (30 : Int) ≤ i; omega))) (own_leF 40 hi (by show (i : Int) < 40; omega))) (by decide)
      exact ⟨a, h1, by show a.toInt = ((48 + i % 10 : Nat) : Int); rw [ha, show (18 : Int64).toInt = 18 from by decide]; omega⟩
    by_cases b4 : i < 50
    · obtain ⟨a, h1, ha⟩ := own_eA 8 hi (own_orE (own_orE (Cond.all_elim evs es n8 i (zs ▸ hi)) (own_ltF 40 hi (by show (40 : Int) ≤ i; omega))) (own_leF 50 hi (by show (i : Int) < 50; omega))) (by decide)
      exact ⟨a, h1, by show a.toInt = ((48 + i % 10 : Nat) : Int); rw [ha, show (8 : Int64).toInt = 8 from by decide]; omega⟩
    by_cases b5 : i < 60
    · obtain ⟨a, h1, ha⟩ := own_eB 2 hi (own_orE (own_orE (Cond.all_elim evs es n9 i (zs ▸ hi)) (own_ltF 50 hi (by show (50 : Int) ≤ i; omega))) (own_leF 60 hi (by show (i : Int) < 60; omega))) (by decide)
      exact ⟨a, h1, by show a.toInt = ((48 + i % 10 : Nat) : Int); rw [ha, show (2 : Int32).toInt = 2 from by decide]; omega⟩
    by_cases b6 : i < 70
    · obtain ⟨a, h1, ha⟩ := own_eB 12 hi (own_orE (own_orE (Cond.all_elim evs es n10 i (zs ▸ hi)) (own_ltF 60 hi (by show (60 : Int) ≤ i; omega))) (own_leF 70 hi (by show (i : Int) < 70; omega))) (by decide)
      exact ⟨a, h1, by show a.toInt = ((48 + i % 10 : Nat) : Int); rw [ha, show (12 : Int32).toInt = 12 from by decide]; omega⟩
    by_cases b7 : i < 80
    · obtain ⟨a, h1, ha⟩ := own_eB 22 hi (own_orE (own_orE (Cond.all_elim evs es n11 i (zs ▸ hi)) (own_ltF 70 hi (by show (70 : Int) ≤ i; omega))) (own_leF 80 hi (by show (i : Int) < 80; omega))) (by decide)
      exact ⟨a, h1, by show a.toInt = ((48 + i % 10 : Nat) : Int); rw [ha, show (22 : Int32).toInt = 22 from by decide]; omega⟩
    by_cases b8 : i < 90
    · obtain ⟨a, h1, ha⟩ := own_eB 32 hi (own_orE (own_orE (Cond.all_elim evs es n12 i (zs ▸ hi)) (own_ltF 80 hi (by show (80 : Int) ≤ i; omega))) (own_leF 90 hi (by show (i : Int) < 90; omega))) (by decide)
      exact ⟨a, h1, by show a.toInt = ((48 + i % 10 : Nat) : Int); rw [ha, show (32 : Int32).toInt = 32 from by decide]; omega⟩
    obtain ⟨a, h1, ha⟩ := own_eB 42 hi (own_orE (Cond.all_elim evs es n13 i (zs ▸ hi)) (own_ltF 90 hi (by show (90 : Int) ≤ i; omega))) (by decide)
    exact ⟨a, h1, by show a.toInt = ((48 + i % 10 : Nat) : Int); rw [ha, show (42 : Int32).toInt = 42 from by decide]; omega⟩)
  obtain ⟨wfx, evf⟩ := arr_v n2
  have S_f := Sta.start evf (Or.inr ⟨(hw _ (List.mem_of_getElem? (i := 5) rfl)), (hw _ (List.mem_of_getElem? (i := 11) rfl))⟩)
  obtain ⟨cf, Af, ef, zf⟩ := own_tab0 evf n2 n3
  have T_f : Tab2 s wfx (fun r => 48 + r / 10) := own_tab evf Af ef zf (fun i hi => by show 48 + _ < 1000; omega) (fun i hi => by
    by_cases b0 : i < 10
    · obtain ⟨a, h1, ha⟩ := own_eC 48 (own_orE (Cond.all_elim evf ef n14 i (zf ▸ hi)) (own_leF 10 hi (by show (i : Int) < 10; omega)))
      exact ⟨a, h1, by show a.toInt = ((48 + i / 10 : Nat) : Int); rw [ha, show (48 : Int32).toInt = 48 from by decide]; omega⟩
    by_cases b1 : i < 20
    · obtain ⟨a, h1, ha⟩ := own_eC 49 (own_orE (own_orE (Cond.all_elim evf ef n15 i (zf ▸ hi)) (own_ltF 10 hi (by show (10 : Int) ≤ i; omega))) (own_leF 20 hi (by show (i : Int) < 20; omega)))
      exact ⟨a, h1, by show a.toInt = ((48 + i / 10 : Nat) : Int); rw [ha, show (49 : Int32).toInt = 49 from by decide]; omega⟩
    by_cases b2 : i < 30
    · obtain ⟨a, h1, ha⟩ := own_eC 50 (own_orE (own_orE (Cond.all_elim evf ef n16 i (zf ▸ hi)) (own_ltF 20 hi (by show (20 : Int) ≤ i; omega))) (own_leF 30 hi (by show (i : Int) < 30; omega)))
      exact ⟨a, h1, by show a.toInt = ((48 + i / 10 : Nat) : Int); rw [ha, show (50 : Int32).toInt = 50 from by decide]; omega⟩
    by_cases b3 : i < 40
    · obtain ⟨a, h1, ha⟩ := own_eC 51 (own_orE (own_orE (Cond.all_elim evf ef n17 i (zf ▸ hi)) (own_ltF 30 hi (by show (30 : Int) ≤ i; omega))) (own_leF 40 hi (by show (i : Int) < 40; omega)))
      exact ⟨a, h1, by show a.toInt = ((48 + i / 10 : Nat) : Int); rw [ha, show (51 : Int32).toInt = 51 from by decide]; omega⟩
    by_cases b4 : i < 50
    · obtain ⟨a, h1, ha⟩ := own_eC 52 (own_orE (own_orE (Cond.all_elim evf ef n18 i (zf ▸ hi)) (own_ltF 40 hi (by show (40 : Int) ≤ i; omega))) (own_leF 50 hi (by show (i : Int) < 50; omega)))
      exact ⟨a, h1, by show a.toInt = ((48 + i / 10 : Nat) : Int); rw [ha, show (52 : Int32).toInt = 52 from by decide]; omega⟩
    by_cases b5 : i < 60
    · obtain ⟨a, h1, ha⟩ := own_eC 53 (own_orE (own_orE (Cond.all_elim evf ef n19 i (zf ▸ hi)) (own_ltF 50 hi (by show (50 : Int) ≤ i; omega))) (own_leF 60 hi (by show (i : Int) < 60; omega)))
      exact ⟨a, h1, by show a.toInt = ((48 + i / 10 : Nat) : Int); rw [ha, show (53 : Int32).toInt = 53 from by decide]; omega⟩
    by_cases b6 : i < 70
    · obtain ⟨a, h1, ha⟩ := own_eC 54 (own_orE (own_orE (Cond.all_elim evf ef n20 i (zf ▸ hi)) (own_ltF 60 hi (by show (60 : Int) ≤ i; omega))) (own_leF 70 hi (by show (i : Int) < 70; omega)))
      exact ⟨a, h1, by show a.toInt = ((48 + i / 10 : Nat) : Int); rw [ha, show (54 : Int32).toInt = 54 from by decide]; omega⟩
    by_cases b7 : i < 80
    · obtain ⟨a, h1, ha⟩ := own_eC 55 (own_orE (own_orE (Cond.all_elim evf ef n21 i (zf ▸ hi)) (own_ltF 70 hi (by show (70 : Int) ≤ i; omega))) (own_leF 80 hi (by show (i : Int) < 80; omega)))
      exact ⟨a, h1, by show a.toInt = ((48 + i / 10 : Nat) : Int); rw [ha, show (55 : Int32).toInt = 55 from by decide]; omega⟩
    by_cases b8 : i < 90
    · obtain ⟨a, h1, ha⟩ := own_eC 56 (own_orE (own_orE (Cond.all_elim evf ef n22 i (zf ▸ hi)) (own_ltF 80 hi (by show (80 : Int) ≤ i; omega))) (own_leF 90 hi (by show (i : Int) < 90; omega)))
      exact ⟨a, h1, by show a.toInt = ((48 + i / 10 : Nat) : Int); rw [ha, show (56 : Int32).toInt = 56 from by decide]; omega⟩
    obtain ⟨a, h1, ha⟩ := own_eC 57 (own_orE (Cond.all_elim evf ef n23 i (zf ▸ hi)) (own_ltF 90 hi (by show (90 : Int) ≤ i; omega)))
    exact ⟨a, h1, by show a.toInt = ((48 + i / 10 : Nat) : Int); rw [ha, show (57 : Int32).toInt = 57 from by decide]; omega⟩)
  obtain ⟨n, o, h1, h2, h3, _, L, rfl, ⟨rfl, N⟩, hq⟩ := rm0 l s _ hw tables_1 i0 i1 i2 i3 wsx wfx s.heap s.heap.size (Nat.le_refl _) (Old.start s) S_s T_s S_f T_f p e ha hc hk s m _ below hf ((Spec.applies_iff_loose hf).mp happ).1 ⟨rfl, State.Warmed39.refl s, rfl⟩ trivial
  refine ⟨n, _, h1, h2, h3, hpost _ _ _ _ _ _ ⟨Cond.after_iff.mpr rfl, Cond.after_iff.mpr (eq_i res_at (Term.int_eval (1)) rfl), trivial⟩ ⟨hq.1, hq.2.1, (hq.2.2.sift fun y hy => Or.inr (N y hy)).mono (by decide) (by decide)⟩⟩
theorem main_1_1 : Claimed_1_1 := comes_1 fun _ _ _ _ _ _ h hF => ⟨h.1, hF⟩
theorem main_1_2 : Claimed_1_2 := comes_1 fun _ _ _ _ _ _ h hF => ⟨h.2.1, hF⟩
end Jvm.Pilot.@@N@@
namespace Jvm.Pilot.@@N@@
open Jvm Jvm.ClassFile Sem Op Lib Jvm.Free Jvm.Stand Jvm.Pilot.@@N@@.Jvm.D
/-! MADE BY PROGRAM (witnessworld.py) out of the Statement's table words and the real class files: 13 classes; the members and pool entries that the words name. The judged class is class 1, her method 1. -/
namespace start1
open Jvm.ClassFile
def u (s : String) : CpInfo := .utf8 (stringToUtf16 s)
/-- a pool by its gaps: so many unusable entries, then the entry; so many at the end -/
def gap : Nat → List CpInfo → List CpInfo
  | 0, r => r
  | n + 1, r => .unusable :: gap n r
def poolList (es : List (Nat × CpInfo)) (last : Nat) : List CpInfo := es.foldr (fun e r => gap e.1 (e.2 :: r)) (gap last [])
def pool (es : List (Nat × CpInfo)) (last : Nat) : Array CpInfo := ⟨poolList es last⟩
def fileOf (pool : Array CpInfo) (this : Nat) (attrs : Array Attribute := #[]) (ms : Array MethodInfo := #[]) (fl : Nat := 33) (sup : Nat := 0) (ifs : Array Nat := #[]) (fds : Array FieldInfo := #[]) : ClassFile where
  minorVersion := 0
  majorVersion := 65
  constantPool := pool
  accessFlags := fl
  thisClass := this
  superClass := sup
  interfaces := ifs
  fields := fds
  methods := ms
  attributes := attrs
def plain (name : String) (sup : Option ClassId) : Class where
  name := name
  kind := .ordinary
  loader := none
  accessFlags := 33
  super := sup
  interfaces := #[]
  cf := none
  fields := #[]
  methods := #[]
  instanceTypes := #[]
  staticTypes := #[]
  resolved := #[]
  callSites := []
  init := .initialized
  statics := none
  mirror := none

def pool0 : Array CpInfo := pool [(5, u "<init>"), (0, u "()V"), (1, .class_ 10), (1, u "java/lang/Object")] 113

def k0m0 : Method := { name := "<init>", desc := "()V", sig := { parameters := [], returnType := none }, accessFlags := 1, code := none }
/-- java/lang/Object -/
def k0 : Class := { plain "java/lang/Object" none with
  accessFlags := 33
  interfaces := #[]
  cf := some (fileOf pool0 8 #[] #[{ accessFlags := 1, nameIndex := 5, descriptorIndex := 6, attributes := #[] }] 33 0 #[] #[])
  fields := #[]
  methods := #[k0m0]
  instanceTypes := #[]
  staticTypes := #[]
  resolved := Array.replicate 124 none
  statics := none }

def pool1 : Array CpInfo := pool [(2, .class_ 4), (1, u "java/lang/Object"), (0, u "<init>"), (0, u "()V"), (2, .long 9223372036854775807), (1, .integer 2147483647), (0, .methodref 13 14), (0, .class_ 15), (0, .nameAndType 16 17), (0, u "com/example/breakwater/breakwater/model/Digits"), (0, u "writeLowest"), (0, u "(JI[CI)J"), (0, .long 10), (1, .long 100), (1, .long 1000), (1, .long 10000), (1, .long 100000), (1, .long 1000000), (1, .long 10000000), (1, .long 100000000), (1, .long 1000000000), (1, .long 10000000000), (1, .long 100000000000), (1, .long 1000000000000), (1, .long 10000000000000), (1, .long 100000000000000), (1, .long 1000000000000000), (1, .long 10000000000000000), (1, .long 100000000000000000), (1, .long 1000000000000000000), (1, .long 48), (1, .class_ 57), (0, u "com/example/breakwater/breakwater/model/DigitsWriteLowestPinLaw"), (2, u "law"), (0, u "(JIII)Z")] 7

def k1m0 : Method := { name := "<init>", desc := "()V", sig := { parameters := [], returnType := none }, accessFlags := 2, code := none }
def k1c1 : Code := { maxStack := 7, maxLocals := 18, code := code, exceptionTable := #[], attributes := #[] }
def k1m1 : Method := { name := "law", desc := "(JIII)Z", sig := { parameters := [.long, .int, .int, .int], returnType := some .boolean }, accessFlags := 9, code := some k1c1 }
/-- com/example/breakwater/breakwater/model/DigitsWriteLowestPinLaw -/
def k1 : Class := { plain "com/example/breakwater/breakwater/model/DigitsWriteLowestPinLaw" (some 0) with
  accessFlags := 49
  interfaces := #[]
  cf := some (fileOf pool1 56 #[] #[{ accessFlags := 2, nameIndex := 5, descriptorIndex := 6, attributes := #[] }, { accessFlags := 9, nameIndex := 60, descriptorIndex := 61, attributes := #[] }] 49 2 #[] #[])
  fields := #[]
  methods := #[k1m0, k1m1]
  instanceTypes := #[]
  staticTypes := #[]
  resolved := Array.replicate 69 none
  statics := none }

def pool2 : Array CpInfo := pool [(2, .class_ 4), (1, u "java/lang/Object"), (0, u "<init>"), (0, u "()V"), (10, .class_ 19), (1, u "com/example/breakwater/breakwater/model/Digits"), (4, u "writeLowest"), (0, u "(JI[CI)J"), (7, u "POWERS_OF_TEN"), (0, u "[J"), (0, .long 100), (1, .fieldref 17 38), (0, .nameAndType 39 40), (0, u "SECOND_OF_PAIR"), (0, u "[C"), (0, .fieldref 17 42), (0, .nameAndType 43 40), (0, u "FIRST_OF_PAIR"), (0, .long 10), (1, .long 48), (35, u "LONGEST"), (0, u "I"), (2, u "ZEROS"), (0, u "J"), (0, u "LOW_SEVEN_BITS"), (0, u "PAST_NINE")] 29

def k2m0 : Method := { name := "<init>", desc := "()V", sig := { parameters := [], returnType := none }, accessFlags := 2, code := none }
def k2c1 : Code := { maxStack := 10, maxLocals := 12, code := prog_68_method_4_code, exceptionTable := #[], attributes := #[] }
def k2m1 : Method := { name := "writeLowest", desc := "(JI[CI)J", sig := { parameters := [.long, .int, (.array .char), .int], returnType := some .long }, accessFlags := 9, code := some k2c1 }
/-- com/example/breakwater/breakwater/model/Digits -/
def k2 : Class := { plain "com/example/breakwater/breakwater/model/Digits" (some 0) with
  accessFlags := 49
  interfaces := #[]
  cf := some (fileOf pool2 17 #[] #[{ accessFlags := 2, nameIndex := 5, descriptorIndex := 6, attributes := #[] }, { accessFlags := 9, nameIndex := 24, descriptorIndex := 25, attributes := #[] }] 49 2 #[] #[{ accessFlags := 25, nameIndex := 82, descriptorIndex := 83, attributes := #[] }, { accessFlags := 26, nameIndex := 33, descriptorIndex := 34, attributes := #[] }, { accessFlags := 26, nameIndex := 43, descriptorIndex := 40, attributes := #[] }, { accessFlags := 26, nameIndex := 39, descriptorIndex := 40, attributes := #[] }, { accessFlags := 26, nameIndex := 86, descriptorIndex := 87, attributes := #[] }, { accessFlags := 26, nameIndex := 88, descriptorIndex := 87, attributes := #[] }, { accessFlags := 26, nameIndex := 89, descriptorIndex := 87, attributes := #[] }])
  fields := #[{ name := "LONGEST", type := .int, accessFlags := 25, slot := 0, constantValue := 0 }, { name := "POWERS_OF_TEN", type := (.array .long), accessFlags := 26, slot := 1, constantValue := 0 }, { name := "FIRST_OF_PAIR", type := (.array .char), accessFlags := 26, slot := 2, constantValue := 0 }, { name := "SECOND_OF_PAIR", type := (.array .char), accessFlags := 26, slot := 3, constantValue := 0 }, { name := "ZEROS", type := .long, accessFlags := 26, slot := 4, constantValue := 0 }, { name := "LOW_SEVEN_BITS", type := .long, accessFlags := 26, slot := 5, constantValue := 0 }, { name := "PAST_NINE", type := .long, accessFlags := 26, slot := 6, constantValue := 0 }]
  methods := #[k2m0, k2m1]
  instanceTypes := #[]
  staticTypes := #[.int, (.array .long), (.array .char), (.array .char), .long, .long, .long]
  resolved := Array.replicate 119 none
  statics := some 0 }

def pool3 : Array CpInfo := pool [(1, u "java/lang/Cloneable"), (0, .class_ 1), (0, u "java/lang/Object"), (0, .class_ 3)] 3

/-- java/lang/Cloneable -/
def k3 : Class := { plain "java/lang/Cloneable" (some 0) with
  accessFlags := 1537
  interfaces := #[]
  cf := some (fileOf pool3 2 #[] #[] 1537 4 #[] #[])
  fields := #[]
  methods := #[]
  instanceTypes := #[]
  staticTypes := #[]
  resolved := Array.replicate 8 none
  statics := none }

def pool4 : Array CpInfo := pool [(1, u "java/io/Serializable"), (0, .class_ 1), (0, u "java/lang/Object"), (0, .class_ 3)] 3

/-- java/io/Serializable -/
def k4 : Class := { plain "java/io/Serializable" (some 0) with
  accessFlags := 1537
  interfaces := #[]
  cf := some (fileOf pool4 2 #[] #[] 1537 4 #[] #[])
  fields := #[]
  methods := #[]
  instanceTypes := #[]
  staticTypes := #[]
  resolved := Array.replicate 8 none
  statics := none }

/-- the primitive byte -/
def k5 : Class := { plain "byte" none with kind := .primitive 'B', accessFlags := 0x411 }
/-- [B -/
def k6 : Class := { plain "[B" (some 0) with kind := .array 5 .byte, interfaces := #[3, 4], accessFlags := 1041 }

/-- the primitive char -/
def k7 : Class := { plain "char" none with kind := .primitive 'C', accessFlags := 0x411 }
/-- [C -/
def k8 : Class := { plain "[C" (some 0) with kind := .array 7 .char, interfaces := #[3, 4], accessFlags := 1041 }

/-- the primitive int -/
def k9 : Class := { plain "int" none with kind := .primitive 'I', accessFlags := 0x411 }
/-- [I -/
def k10 : Class := { plain "[I" (some 0) with kind := .array 9 .int, interfaces := #[3, 4], accessFlags := 1041 }

/-- the primitive long -/
def k11 : Class := { plain "long" none with kind := .primitive 'J', accessFlags := 0x411 }
/-- [J -/
def k12 : Class := { plain "[J" (some 0) with kind := .array 11 .long, interfaces := #[3, 4], accessFlags := 1041 }

def heap : Heap := #[{ cls := 2, slots := #[.int 0, .null, .ref 2, .ref 1, .long 0, .long 0, .long 0], vm := .statics 2 },
  { cls := 8, slots := #[.int 48, .int 49, .int 50, .int 51, .int 52, .int 53, .int 54, .int 55, .int 56, .int 57, .int 48, .int 49, .int 50, .int 51, .int 52, .int 53, .int 54, .int 55, .int 56, .int 57, .int 48, .int 49, .int 50, .int 51, .int 52, .int 53, .int 54, .int 55, .int 56, .int 57, .int 48, .int 49, .int 50, .int 51, .int 52, .int 53, .int 54, .int 55, .int 56, .int 57, .int 48, .int 49, .int 50, .int 51, .int 52, .int 53, .int 54, .int 55, .int 56, .int 57, .int 48, .int 49, .int 50, .int 51, .int 52, .int 53, .int 54, .int 55, .int 56, .int 57, .int 48, .int 49, .int 50, .int 51, .int 52, .int 53, .int 54, .int 55, .int 56, .int 57, .int 48, .int 49, .int 50, .int 51, .int 52, .int 53, .int 54, .int 55, .int 56, .int 57, .int 48, .int 49, .int 50, .int 51, .int 52, .int 53, .int 54, .int 55, .int 56, .int 57, .int 48, .int 49, .int 50, .int 51, .int 52, .int 53, .int 54, .int 55, .int 56, .int 57], vm := .none },
  { cls := 8, slots := #[.int 48, .int 48, .int 48, .int 48, .int 48, .int 48, .int 48, .int 48, .int 48, .int 48, .int 49, .int 49, .int 49, .int 49, .int 49, .int 49, .int 49, .int 49, .int 49, .int 49, .int 50, .int 50, .int 50, .int 50, .int 50, .int 50, .int 50, .int 50, .int 50, .int 50, .int 51, .int 51, .int 51, .int 51, .int 51, .int 51, .int 51, .int 51, .int 51, .int 51, .int 52, .int 52, .int 52, .int 52, .int 52, .int 52, .int 52, .int 52, .int 52, .int 52, .int 53, .int 53, .int 53, .int 53, .int 53, .int 53, .int 53, .int 53, .int 53, .int 53, .int 54, .int 54, .int 54, .int 54, .int 54, .int 54, .int 54, .int 54, .int 54, .int 54, .int 55, .int 55, .int 55, .int 55, .int 55, .int 55, .int 55, .int 55, .int 55, .int 55, .int 56, .int 56, .int 56, .int 56, .int 56, .int 56, .int 56, .int 56, .int 56, .int 56, .int 57, .int 57, .int 57, .int 57, .int 57, .int 57, .int 57, .int 57, .int 57, .int 57], vm := .none }]
def classes : Array Class := #[k0, k1, k2, k3, k4, k5, k6, k7, k8, k9, k10, k11, k12]
def interned : List (Array UInt16 × Addr) := []
def slotsUsed : Nat := 207
def theMethod : MethodId := ⟨1, 1⟩
def args0 : Array Value := #[.long 12345, .int 4, .int 5, .int 3]
def aboutOver (below : List Frame) : State where
  vm := { classes := classes, interned := interned.toArray }
  heap := heap
  slotsUsed := slotsUsed
  threads := #[{ frames := .invoking theMethod args0 :: below }]
def below0 : List Frame := [.native { method := ⟨0, 0⟩, args := #[] }]
def about1 : State := aboutOver below0
def p0 : Program := .bare "" "" ""
def e0 : Env := launch0.env 0 0 0
theorem w_frames : about1.frames = Frame.invoking theMethod args0 :: below0 := rfl
set_option maxRecDepth 65536 in
theorem w_args : argsFit about1.vm theMethod args0 = true := by decide +kernel
set_option maxRecDepth 65536 in
theorem w_heap : heapFits about1 = true := by decide +kernel
set_option maxRecDepth 65536 in
theorem w_runnable : about1.curStatus? = some .runnable := by decide +kernel
set_option maxRecDepth 65536 in
theorem w_alone : about1.alone = true := by decide +kernel
set_option maxRecDepth 65536 in
theorem w_named : about1.methodNamed? x = some theMethod := by decide +kernel
set_option maxRecDepth 65536 in
theorem w_hears : about1.hears theMethod below0 = true := by decide +kernel
set_option maxRecDepth 65536 in
theorem w_ripe : about1.ripe theMethod args0 below0 = true := by decide +kernel
theorem w_running : about1.status = .running := rfl
set_option maxRecDepth 65536 in
theorem w_room : about1.hasRoom e0.platform room_1 = true :=
  launch0.hasRoom_least _ room_1 (by decide +kernel) (by decide +kernel) (by decide +kernel) (by decide +kernel) (by decide +kernel) (by decide +kernel)
theorem allAtoms_all (ts : List Jvm.Cond) (a : Array Jvm.Value) (st : Jvm.State) : (allAtoms ts).before a st = ts.all (fun c => c.before a st) := by
  induction ts with
  | nil => rfl
  | cons c t ih =>
    show (Jvm.Cond.and c (allAtoms t)).before a st = _
    rw [Jvm.Cond.before_and, ih, List.all_cons]
def words1 : List Jvm.Cond := Jvm.Cond.code x code maxLocals ret :: tables_1
/-- a 'code' word, met by the world's own term for the bytes: nothing is compared byte by byte -/
theorem code_word {y : MethodName} {bytes : ByteArray} {mx : Nat} {rt : Option FieldType} {a : Array Value} {s : State} {m : MethodId} {meth : Method} {c : Code} (h1 : s.methodNamed? y = some m) (h2 : s.vm.method? m = some meth) (h3 : meth.code = some c) (h4 : c.code = bytes)
    (h5 : (c.maxLocals == mx && c.exceptionTable.isEmpty && decide (c.maxStack ≤ mostOperands) && decide (meth.sig.returnType = rt) && !meth.locks && decide (parseMethodDescriptor y.desc = some meth.sig)) = true) : (Jvm.Cond.code y bytes mx rt).before a s = true := by
  simp only [Bool.and_eq_true, beq_iff_eq, Bool.not_eq_true', decide_eq_true_eq] at h5
  obtain ⟨⟨⟨⟨⟨g1, g2⟩, g3⟩, g4⟩, g5⟩, g6⟩ := h5
  simp [Cond.before, Cond.holds, Cond.value, h1, h2, h3, h4, g1, g2, g3, g4, g5, g6]
def isCode : Jvm.Cond → Bool
  | .code _ _ _ _ => true
  | _ => false
theorem all_split {L : List Jvm.Cond} {P : Jvm.Cond → Bool} (h1 : L.all (fun c => isCode c || P c) = true) (h2 : ∀ c ∈ L.filter isCode, P c = true) : L.all P = true := by
  refine List.all_eq_true.mpr fun c hc => ?_
  have h := List.all_eq_true.mp h1 c hc
  rcases Bool.eq_false_or_eq_true (isCode c) with hi | hi
  · exact h2 c (List.mem_filter.mpr ⟨hc, hi⟩)
  · simpa [hi] using h
set_option maxRecDepth 65536 in
theorem w_c0 : (Jvm.Cond.code x code maxLocals ret).before args0 about1 = true := code_word (m := ⟨1, 1⟩) (meth := k1m1) (c := k1c1) (by decide +kernel) rfl rfl rfl (by decide +kernel)
set_option maxRecDepth 65536 in
theorem w_c1 : (Jvm.Cond.code ({ cls := "com/example/breakwater/breakwater/model/Digits", name := "writeLowest", desc := "(JI[CI)J" } : Jvm.MethodName) prog_68_method_4_code (12 : Nat) (Option.some Jvm.ClassFile.FieldType.long)).before args0 about1 = true := code_word (m := ⟨2, 1⟩) (meth := k2m1) (c := k2c1) (by decide +kernel) rfl rfl rfl (by decide +kernel)
def codes1 : List Jvm.Cond := [Jvm.Cond.code x code maxLocals ret, Jvm.Cond.code ({ cls := "com/example/breakwater/breakwater/model/Digits", name := "writeLowest", desc := "(JI[CI)J" } : Jvm.MethodName) prog_68_method_4_code (12 : Nat) (Option.some Jvm.ClassFile.FieldType.long)]
set_option maxRecDepth 65536 in
theorem codes_eq : words1.filter isCode = codes1 := rfl
theorem w_codes : ∀ c ∈ words1.filter isCode, c.before args0 about1 = true := by
  rw [codes_eq]
  intro c hc
  simp only [codes1, List.mem_cons, List.not_mem_nil, or_false] at hc
  rcases hc with rfl | rfl
  · exact w_c0
  · exact w_c1
set_option maxRecDepth 65536 in
theorem w_t1 : (words1.take 24).all (fun c => isCode c || c.before args0 about1) = true := by decide +kernel
set_option maxRecDepth 65536 in
theorem w_t2 : (words1.drop 24).all (fun c => isCode c || c.before args0 about1) = true := by decide +kernel
theorem w_tables : (allAtoms (Jvm.Cond.code x code maxLocals ret :: tables_1)).before args0 about1 = true := by
  rw [allAtoms_all]
  show words1.all (fun c => c.before args0 about1) = true
  refine all_split ?_ w_codes
  rw [← List.take_append_drop 24 words1, List.all_append, w_t1, w_t2]
  rfl
set_option maxRecDepth 65536 in
theorem w_case : (Jvm.Cond.and given_1 narrow_1).before args0 about1 = true := by decide +kernel
theorem w_applies : (headSpec (Jvm.Cond.code x code maxLocals ret :: tables_1) room_1).applies x e0.platform about1 = true :=
  (Spec.applies_iff w_frames).mpr ⟨w_running, w_runnable, w_alone, w_named, w_hears, w_ripe, w_room, w_tables⟩
theorem atStart : AtStart classFile x code maxLocals ret World_1 tables_1 room_1 Calls_1 rest_1 Pre_1 launch0 p0 e0 about1 theMethod args0 below0 :=
  ⟨lists_1, trivial, launch0.admits_env _ _ _, launch0.least_env, fairChoices_fair.cas, fairChoices_fair.clock, w_frames, w_args, w_heap, w_applies, trivial, trivial, w_case⟩
end start1
theorem witness_1 : WitnessClaimed_1 := ⟨start1.p0, start1.e0, start1.about1, start1.theMethod, start1.args0, start1.below0, start1.atStart⟩
end Jvm.Pilot.@@N@@
