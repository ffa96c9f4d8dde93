import JvmDerived
import JvmDerived.Pilot.@@N@@Statement
import JvmDerived.Pilot.@@N@@Code
set_option linter.unusedVariables false
set_option linter.unusedSimpArgs false
namespace Jvm.Pilot.@@N@@
open Jvm Jvm.ClassFile Sem Op Lib Jvm.Free Jvm.Stand Jvm.LawKit Jvm.RoadKit Bundle Jvm.Pilot.@@N@@.Jvm.D
section Own
variable {p : Program} {l : Launch} {e : Env} {R : Room} {s : State} {m : MethodId} {args : Array Value} {below : List Frame} {meth : Method} {c : Code} {T : State} {locs : List Loc} {cells slots : Nat} {Z : State} {a0 : Array Value} {h h' : Heap} {rc rs : Nat} {Q Qc : Option Value → Heap → List Loc → Prop}
/-- from here the run comes to its end, and leaves what Q says -/
def GG (p : Program) (e : Env) (below : List Frame) (s : State) (rc rs : Nat) (Q : Option Value → Heap → List Loc → Prop) (T : State) (g : JFrame) : Prop :=
  ∃ s₂ o, Steps p.tables e below (T.setTop g) s₂ ∧ s₂.status = .running ∧ Ended s₂ below o ∧ ∃ v L, o = .returned v ∧ Q v s₂.heap L ∧ FrameEnd s o s₂ L rc rs
theorem own_go {T' : State} {g g' : JFrame} (st : ∀ t, Steps p.tables e below (T'.setTop g') t → Steps p.tables e below (T.setTop g) t) (k : GG p e below s rc rs Q T' g') : GG p e below s rc rs Q T g := by
  obtain ⟨s₂, o, h1, h2⟩ := k
  exact ⟨s₂, o, st _ h1, h2⟩
theorem own_in {g g' : JFrame} (q : g = g') (k : GG p e below s rc rs Q T g') : GG p e below s rc rs Q T g := q ▸ k
theorem own_if {g1 g2 : JFrame} {P : Prop} [Decidable P] (k1 : P → GG p e below s rc rs Q T g1) (k2 : ¬ P → GG p e below s rc rs Q T g2) : GG p e below s rc rs Q T (if P then g1 else g2) := by
  by_cases q : P
  · rw [if_pos q]; exact k1 q
  · rw [if_neg q]; exact k2 q
theorem own_join {g g' : JFrame} (k1 : GG p e below s rc rs Q T g' → GG p e below s rc rs Q T g) (k2 : GG p e below s rc rs Q T g') : GG p e below s rc rs Q T g := k1 k2
abbrev own_CT (l : Launch) (Z : State) (y : MethodName) (bytes : ByteArray) (maxL : Nat) (ret : Option FieldType) (ws : List Jvm.Cond) (rm : Room) (as : Array Value) (h : Heap) (Qc : Option Value → Heap → List Loc → Prop) : Prop :=
  MetFree l y (head1 (Jvm.Cond.code y bytes maxL ret :: ws) rm) (fun a U => a = as ∧ Z.Warmed39 U.vm ∧ U.heap = h) (fun _ _ _ _ _ => True) (fun _ U o U' => ∃ v L, o = .returned v ∧ Qc v U'.heap L ∧ FrameEnd U o U' L rm.cells rm.slots)
theorem own_callS (X : Stand p l e R s m args below meth c T locs cells slots) (hx : p.tables.exec = Jvm.exec) (hZ : Z.Warmed39 s.vm) {own : String} {index : Nat} {y : MethodName} {bytes : ByteArray} {maxL : Nat} {ret : Option FieldType} {rm : Room} (W : Nat)
    (hown : s.vm.findClass own = some m.cls) (w1 : (Jvm.Cond.methodLink own index y).before a0 Z = true) (w2 : (Jvm.Cond.static y).before a0 Z = true) (w3 : (Jvm.Cond.initialized y.cls).before a0 Z = true) (w4 : (Jvm.Cond.code y bytes maxL ret).before a0 Z = true)
    (hy : y.cls ≠ "java/lang/invoke/MethodHandle" ∧ y.cls ≠ "java/lang/invoke/VarHandle") {argsL rest : List Value} (hM : own_CT l Z y bytes maxL ret [] rm argsL.toArray h Qc)
    (hf : rm.frames + 1 ≤ R.frames) (hl : W + (maxL + 11) + rm.locals ≤ R.locals) (hc : cells + rm.cells ≤ R.cells) (hs : slots + rm.slots ≤ R.slots)
    {g : JFrame} (hg : g.method = m) (hsize : g.locals.size = c.maxLocals) (hlen : ∀ sig, parseMethodDescriptor y.desc = some sig → argsL.length = sig.parameters.length) (hstack : g.stack = argsL.reverse ++ rest) (hW : 2 * g.monitorRoom + (rest.map fun v => v.category).sum ≤ W)
    (hdg : decode c.code g.pc = .ok (.invokestatic index, 3)) (eT : T.heap = h)
    (k : ∀ (v : Option Value) (T' : State) (L : List Loc), Stand p l e R s m args below meth c T' (locs ++ L) (cells + rm.cells) (slots + rm.slots) → Qc v T'.heap L → GG p e below s rc rs Q T' { g with pc := g.pc + 3, stack := v.toList ++ rest }) : GG p e below s rc rs Q T g := by
  obtain ⟨v, vm₁, ⟨T', L', k', n'⟩, -, X', ⟨L, hQ, q1, q2, q3⟩, st⟩ := Jvm.LawKit.callS X hx hown (mvT hZ w1) (mvT hZ w2) (mvT hZ w3) (mvT hZ w4) hy (backOf (W := W) hM hZ w4 w3 hf hl) hg hsize hlen hstack hW hdg (fun _ _ => ⟨rfl, eT, hc, hs⟩)
  dsimp only [Pt.U, Pt.locs, Pt.cells, Pt.slots] at X' q1 q2 q3 st hQ
  subst q1 q2 q3
  exact own_go st (k v T' L X' hQ)
theorem own_callI (X : Stand p l e R s m args below meth c T locs cells slots) (hx : p.tables.exec = Jvm.exec) (hZ : Z.Warmed39 s.vm) {own : String} {index : Nat} {y : MethodName} {bytes : ByteArray} {maxL : Nat} {rm : Room} (W : Nat) (hy1 : y.name = "<init>")
    (hown : s.vm.findClass own = some m.cls) (w1 : (Jvm.Cond.methodLink own index y).before a0 Z = true) (w2 : (Jvm.Cond.instanceMethod y).before a0 Z = true) (w3 : (Jvm.Cond.initialized y.cls).before a0 Z = true) (w4 : (Jvm.Cond.code y bytes maxL none).before a0 Z = true)
    (hy : y.cls ≠ "java/lang/invoke/MethodHandle" ∧ y.cls ≠ "java/lang/invoke/VarHandle") {a : Addr} {argsL rest : List Value} (hM : own_CT l Z y bytes maxL none [] rm (.ref a :: argsL).toArray h Qc)
    (hf : rm.frames + 1 ≤ R.frames) (hl : W + (maxL + 11) + rm.locals ≤ R.locals) (hc : cells + rm.cells ≤ R.cells) (hs : slots + rm.slots ≤ R.slots)
    {g : JFrame} (hg : g.method = m) (hsize : g.locals.size = c.maxLocals) (hlen : ∀ sig, parseMethodDescriptor y.desc = some sig → argsL.length = sig.parameters.length) (hstack : g.stack = argsL.reverse ++ .ref a :: rest) (hW : 2 * g.monitorRoom + (rest.map fun v => v.category).sum ≤ W)
    (hdg : decode c.code g.pc = .ok (.invokespecial index, 3)) (eT : T.heap = h)
    (k : ∀ (v : Option Value) (T' : State) (L : List Loc), Stand p l e R s m args below meth c T' (locs ++ L) (cells + rm.cells) (slots + rm.slots) → Qc v T'.heap L → GG p e below s rc rs Q T' { g with pc := g.pc + 3, stack := v.toList ++ rest }) : GG p e below s rc rs Q T g := by
  obtain ⟨v, vm₁, ⟨T', L', k', n'⟩, -, X', ⟨L, hQ, q1, q2, q3⟩, st⟩ := X.specialBack hx hy1 hown (mvT hZ w1) (mvT hZ w2) (mvT hZ w4) hy (backOf (W := W) hM hZ w4 w3 hf hl) hg hsize (Steps.refl _) hlen hstack hW hdg (fun _ _ => ⟨rfl, eT, hc, hs⟩)
  dsimp only [Pt.U, Pt.locs, Pt.cells, Pt.slots] at X' q1 q2 q3 st hQ
  subst q1 q2 q3
  exact own_go (fun _ => st.trans) (k v T' L X' hQ)
theorem own_callV (X : Stand p l e R s m args below meth c T locs cells slots) (hx : p.tables.exec = Jvm.exec) (hZ : Z.Warmed39 s.vm) {own C : String} {index : Nat} {y z : MethodName} {bytes : ByteArray} {maxL : Nat} {ret : Option FieldType} {rm : Room} (W : Nat)
    (hown : s.vm.findClass own = some m.cls) (w1 : (Jvm.Cond.methodLink own index y).before a0 Z = true) (w2 : (Jvm.Cond.declares y).before a0 Z = true) (hnf : NotFace s y) (w5 : (Jvm.Cond.selects C y z).before a0 Z = true) (w6 : (Jvm.Cond.instanceMethod z).before a0 Z = true) (w3 : (Jvm.Cond.initialized z.cls).before a0 Z = true) (w4 : (Jvm.Cond.code z bytes maxL ret).before a0 Z = true)
    (hy : y.cls ≠ "java/lang/invoke/MethodHandle" ∧ y.cls ≠ "java/lang/invoke/VarHandle") {a : Addr} {argsL rest : List Value} (hM : own_CT l Z z bytes maxL ret [] rm (.ref a :: argsL).toArray h Qc)
    (hf : rm.frames + 1 ≤ R.frames) (hl : W + (maxL + 11) + rm.locals ≤ R.locals) (hc : cells + rm.cells ≤ R.cells) (hs : slots + rm.slots ≤ R.slots) (E : Exa Z h a C)
    {g : JFrame} (hg : g.method = m) (hsize : g.locals.size = c.maxLocals) (hlen : ∀ sig, parseMethodDescriptor y.desc = some sig → argsL.length = sig.parameters.length) (hstack : g.stack = argsL.reverse ++ .ref a :: rest) (hW : 2 * g.monitorRoom + (rest.map fun v => v.category).sum ≤ W)
    (hdg : decode c.code g.pc = .ok (.invokevirtual index, 3)) (eT : T.heap = h)
    (k : ∀ (v : Option Value) (T' : State) (L : List Loc), Stand p l e R s m args below meth c T' (locs ++ L) (cells + rm.cells) (slots + rm.slots) → Qc v T'.heap L → GG p e below s rc rs Q T' { g with pc := g.pc + 3, stack := v.toList ++ rest }) : GG p e below s rc rs Q T g := by
  obtain ⟨cq, kq, qa, qb, qc⟩ := isOf hZ eT E
  obtain ⟨v, vm₁, ⟨T', L', k', n'⟩, -, X', ⟨L, hQ, q1, q2, q3⟩, st⟩ := X.virtualBack hx hown (mvT hZ w1) (mvT hZ w2) hnf (mvT hZ w5) (mvT hZ w6) hy (backOf (W := W) hM hZ w4 w3 hf hl) qa qc hg hsize (Steps.refl _) hlen hstack hW hdg (fun _ _ => ⟨rfl, eT, hc, hs⟩)
  dsimp only [Pt.U, Pt.locs, Pt.cells, Pt.slots] at X' q1 q2 q3 st hQ
  subst q1 q2 q3
  exact own_go (fun _ => st.trans) (k v T' L X' hQ)
theorem own_callP (X : Stand p l e R s m args below meth c T locs cells slots) (hx : p.tables.exec = Jvm.exec) (hZ : Z.Warmed39 s.vm) {own C : String} {index : Nat} {y : MethodName} {bytes : ByteArray} {maxL : Nat} {ret : Option FieldType} {rm : Room} (W : Nat)
    (hown : s.vm.findClass own = some m.cls) (w1 : (Jvm.Cond.methodLink own index y).before a0 Z = true) (w2 : (Jvm.Cond.instanceMethod y).before a0 Z = true) {kk : Nat} (w5 : (Jvm.Cond.instantiable y.cls kk).before a0 Z = true) (w6 : (Jvm.Cond.privateMethod y).before a0 Z = true) (w3 : (Jvm.Cond.initialized y.cls).before a0 Z = true) (w4 : (Jvm.Cond.code y bytes maxL ret).before a0 Z = true)
    (hy : y.cls ≠ "java/lang/invoke/MethodHandle" ∧ y.cls ≠ "java/lang/invoke/VarHandle") {a : Addr} {argsL rest : List Value} (hM : own_CT l Z y bytes maxL ret [] rm (.ref a :: argsL).toArray h Qc)
    (hf : rm.frames + 1 ≤ R.frames) (hl : W + (maxL + 11) + rm.locals ≤ R.locals) (hc : cells + rm.cells ≤ R.cells) (hs : slots + rm.slots ≤ R.slots) (E : Exa Z h a C)
    {g : JFrame} (hg : g.method = m) (hsize : g.locals.size = c.maxLocals) (hlen : ∀ sig, parseMethodDescriptor y.desc = some sig → argsL.length = sig.parameters.length) (hstack : g.stack = argsL.reverse ++ .ref a :: rest) (hW : 2 * g.monitorRoom + (rest.map fun v => v.category).sum ≤ W)
    (hdg : decode c.code g.pc = .ok (.invokevirtual index, 3)) (eT : T.heap = h)
    (k : ∀ (v : Option Value) (T' : State) (L : List Loc), Stand p l e R s m args below meth c T' (locs ++ L) (cells + rm.cells) (slots + rm.slots) → Qc v T'.heap L → GG p e below s rc rs Q T' { g with pc := g.pc + 3, stack := v.toList ++ rest }) : GG p e below s rc rs Q T g := by
  obtain ⟨cq, q, q'⟩ := E.cell
  have hpr : s.PrivateAt y := Cond.privateMethod_at (mvP hZ w6 (args := #[]))
  obtain ⟨c1, k1, i1, i2, -, i4, -⟩ := Cond.instantiable_spec (show (Jvm.Cond.instantiable y.cls kk).before args s = true from mv hZ w5)
  have hsel : (Jvm.Cond.selects y.cls y y).before args s = true := selects_self_of_private i1 i2 (Bool.or_eq_false_iff.mp i4).1 hpr (mvT hZ w2) hy
  obtain ⟨v, vm₁, ⟨T', L', k', n'⟩, -, X', ⟨L, hQ, q1, q2, q3⟩, st⟩ := X.privateBack hx hown (mvT hZ w1) (mvT hZ w2) hsel hpr (mvT hZ w4) hy (backOf (W := W) hM hZ w4 w3 hf hl) hg hsize (Steps.refl _) (by rw [eT]; exact q) q' hlen hstack hW hdg (fun _ _ => ⟨rfl, eT, hc, hs⟩)
  dsimp only [Pt.U, Pt.locs, Pt.cells, Pt.slots] at X' q1 q2 q3 st hQ
  subst q1 q2 q3
  exact own_go (fun _ => st.trans) (k v T' L X' hQ)
theorem own_ret (X : Stand p l e R s m args below meth c T locs cells slots) (hx : p.tables.exec = Jvm.exec) (hlk : meth.locks = false) {t : FieldType} {w : Value} {i : Instr} {pc : Nat} {Ls : Array Slot} {rest : List Value} (hret : meth.sig.returnType = some t) (hn : narrow t w = w)
    (hi : (i = .ireturn ∧ (t = .int ∨ t = .boolean ∨ t = .byte ∨ t = .char ∨ t = .short) ∧ ∃ z, w = .int z) ∨ (i = .lreturn ∧ t = .long ∧ ∃ z, w = .long z) ∨ (i = .dreturn ∧ t = .double ∧ ∃ z, w = .double z) ∨ (i = .freturn ∧ t = .float ∧ ∃ z, w = .float z) ∨ (i = .areturn ∧ t.isReference = true ∧ w.isRef = true))
    (hd : decode c.code pc = .ok (i, 1)) (hc : cells ≤ rc) (hs : slots ≤ rs) (hQ : Q (some w) T.heap locs) : GG p e below s rc rs Q T (mkF m pc Ls (w :: rest)) := by
  obtain ⟨fs, hr, hrun, hended, hW, hsame⟩ := X.leave (v := some w) (fun h => by rw [hret] at h; cases h) hlk
  exact ⟨_, _, retOut X hx hret hn hi hd hr, hrun, hended, _, _, rfl, hQ, ⟨_, rfl⟩, hW, hsame.mono hc hs⟩
theorem own_retV (X : Stand p l e R s m args below meth c T locs cells slots) (hx : p.tables.exec = Jvm.exec) (hlk : meth.locks = false) {pc : Nat} {Ls : Array Slot} (hret : meth.sig.returnType = none)
    (hd : decode c.code pc = .ok (.return_, 1)) (hc : cells ≤ rc) (hs : slots ≤ rs) (hQ : Q none T.heap locs) : GG p e below s rc rs Q T (mkF m pc Ls []) := by
  obtain ⟨fs, hr, hrun, hended, hW, hsame⟩ := X.leave (v := none) (fun _ => rfl) hlk
  exact ⟨_, _, X.returnOut hx hret hd hr, hrun, hended, _, _, rfl, hQ, ⟨_, rfl⟩, hW, hsame.mono hc hs⟩
theorem own_nZ {P : Prop} [Decidable P] : narrow .boolean (.int (if P then 1 else 0)) = .int (if P then 1 else 0) := by split <;> rfl
/-- an array of values, all of them named -/
def Arx (Z : State) (h : Heap) (a : Addr) (ty : FieldType) (vs : List Value) : Prop := vs.length < 2 ^ 31 ∧ ∃ k dv, Arv Z h a k ty (Int32.ofNat vs.length) vs dv
variable {a b : Addr} {ty : FieldType} {vs : List Value}
theorem own_ofNat {n : Nat} (q : n < 2 ^ 31) : (Int32.ofNat n).toInt = n := Int32.toInt_ofNat_of_lt q
theorem own_clamp {n : Nat} (q : n < 2 ^ 31) : (Int32.ofNat n).toNatClampNeg = n := by simp only [Int32.toNatClampNeg, own_ofNat q]; rfl
theorem Arx.lt (V : Arx Z h a ty vs) : a < h.size := by obtain ⟨_, k, dv, V⟩ := V; exact V.lt
theorem Arx.ext (V : Arx Z h a ty vs) (E : Ext h h') : Arx Z h' a ty vs := by obtain ⟨q, k, dv, V⟩ := V; exact ⟨q, k, dv, V.ext E⟩
theorem Arx.other {sl : Nat} {v : Value} (V : Arx Z h b ty vs) (W : Wr h h' a sl v) (n : b ≠ a) : Arx Z h' b ty vs := by obtain ⟨q, k, dv, V⟩ := V; exact ⟨q, k, dv, V.other W n⟩
theorem Arx.keep {ws : List Addr} (V : Arx Z h a ty vs) (K : Keep h h' ws) (n : a ∉ ws) : Arx Z h' a ty vs := by obtain ⟨q, k, dv, V⟩ := V; exact ⟨q, k, dv, V.keep K n⟩
theorem Arx.open {j : Int32} {v : Value} (V : Arx Z h a ty vs) (h0 : ¬ j < 0) (hv : vs[j.toNatClampNeg]? = some v) : ∃ cl, Arr Z h a cl ty ∧ ¬ (j < 0 ∨ cl.slots.size ≤ j.toNatClampNeg) ∧ cl.slots[j.toNatClampNeg]? = some v := by
  obtain ⟨q, k, dv, cl, A, -, S, -, H, -⟩ := V
  rw [own_clamp q] at S
  have hl := (List.getElem?_eq_some_iff.mp hv).1
  have e := H j.toNatClampNeg (by rw [S]; exact hl)
  rw [List.getD_eq_getElem?_getD, hv] at e
  exact ⟨cl, A, fun q' => q'.elim h0 (by rw [S]; exact Nat.not_le.mpr hl), e⟩
theorem own_len (X : Stand p l e R s m args below meth c T locs cells slots) (hx : p.tables.exec = Jvm.exec) (hZ : Z.Warmed39 s.vm) (eT : T.heap = h) (V : Arx Z h a ty vs) {g : JFrame} (hg : g.method = m) {rest : List Value} (hs : g.stack = .ref a :: rest) (hd : decode c.code g.pc = .ok (.arraylength, 1)) :
    ∀ t, Steps p.tables e below (T.setTop { g with pc := g.pc + 1, stack := .int (Int32.ofNat vs.length) :: rest }) t → Steps p.tables e below (T.setTop g) t := fun t k => by
  obtain ⟨q, k', dv, cl, A, -, S, N, -⟩ := V
  refine X.arraylength hx (by rw [eT]; exact A.1) (State.isArrayOf_alike hZ.alike A.2.1) hg hs hd _ ?_
  rw [len_of S N]; exact k
theorem own_iaload (X : Stand p l e R s m args below meth c T locs cells slots) (hx : p.tables.exec = Jvm.exec) (hZ : Z.Warmed39 s.vm) (eT : T.heap = h) (V : Arx Z h a .int vs) {j : Int32} {v : Value} (h0 : ¬ j < 0) (hv : vs[j.toNatClampNeg]? = some v) {g : JFrame} (hg : g.method = m) {rest : List Value} (hs : g.stack = .int j :: .ref a :: rest) (hd : decode c.code g.pc = .ok (.iaload, 1)) :
    ∀ t, Steps p.tables e below (T.setTop { g with pc := g.pc + 1, stack := v :: rest }) t → Steps p.tables e below (T.setTop g) t := fun t k => by
  obtain ⟨cl, A, h1, h2⟩ := V.open h0 hv
  exact X.iaload hx (by rw [eT]; exact A.1) (State.isArrayOf_alike hZ.alike A.2.1) A.2.2 h1 h2 hg hs hd _ k
theorem own_laload (X : Stand p l e R s m args below meth c T locs cells slots) (hx : p.tables.exec = Jvm.exec) (hZ : Z.Warmed39 s.vm) (eT : T.heap = h) (V : Arx Z h a .long vs) {j : Int32} {v : Value} (h0 : ¬ j < 0) (hv : vs[j.toNatClampNeg]? = some v) {g : JFrame} (hg : g.method = m) {rest : List Value} (hs : g.stack = .int j :: .ref a :: rest) (hd : decode c.code g.pc = .ok (.laload, 1)) :
    ∀ t, Steps p.tables e below (T.setTop { g with pc := g.pc + 1, stack := v :: rest }) t → Steps p.tables e below (T.setTop g) t := fun t k => by
  obtain ⟨cl, A, h1, h2⟩ := V.open h0 hv
  exact X.laload hx (by rw [eT]; exact A.1) (State.isArrayOf_alike hZ.alike A.2.1) A.2.2 h1 h2 hg hs hd _ k
theorem own_caload (X : Stand p l e R s m args below meth c T locs cells slots) (hx : p.tables.exec = Jvm.exec) (hZ : Z.Warmed39 s.vm) (eT : T.heap = h) (V : Arx Z h a .char vs) {j : Int32} {v : Value} (h0 : ¬ j < 0) (hv : vs[j.toNatClampNeg]? = some v) {g : JFrame} (hg : g.method = m) {rest : List Value} (hs : g.stack = .int j :: .ref a :: rest) (hd : decode c.code g.pc = .ok (.caload, 1)) :
    ∀ t, Steps p.tables e below (T.setTop { g with pc := g.pc + 1, stack := v :: rest }) t → Steps p.tables e below (T.setTop g) t := fun t k => by
  obtain ⟨cl, A, h1, h2⟩ := V.open h0 hv
  exact X.caload hx (by rw [eT]; exact A.1) (State.isArrayOf_alike hZ.alike A.2.1) A.2.2 h1 h2 hg hs hd _ k
theorem own_baload (X : Stand p l e R s m args below meth c T locs cells slots) (hx : p.tables.exec = Jvm.exec) (hZ : Z.Warmed39 s.vm) (eT : T.heap = h) (V : Arx Z h a .byte vs) {j : Int32} {v : Value} (h0 : ¬ j < 0) (hv : vs[j.toNatClampNeg]? = some v) {g : JFrame} (hg : g.method = m) {rest : List Value} (hs : g.stack = .int j :: .ref a :: rest) (hd : decode c.code g.pc = .ok (.baload, 1)) :
    ∀ t, Steps p.tables e below (T.setTop { g with pc := g.pc + 1, stack := v :: rest }) t → Steps p.tables e below (T.setTop g) t := fun t k => by
  obtain ⟨cl, A, h1, h2⟩ := V.open h0 hv
  exact X.baloadBytes hx (by rw [eT]; exact A.1) (State.isArrayOf_alike hZ.alike A.2.1) A.2.2 h1 h2 hg hs hd _ k
theorem own_aaload (X : Stand p l e R s m args below meth c T locs cells slots) (hx : p.tables.exec = Jvm.exec) (hZ : Z.Warmed39 s.vm) (eT : T.heap = h) (V : Arx Z h a ty vs) (ht : ty.isReference = true) {j : Int32} {v : Value} (h0 : ¬ j < 0) (hv : vs[j.toNatClampNeg]? = some v) {g : JFrame} (hg : g.method = m) {rest : List Value} (hs : g.stack = .int j :: .ref a :: rest) (hd : decode c.code g.pc = .ok (.aaload, 1)) :
    ∀ t, Steps p.tables e below (T.setTop { g with pc := g.pc + 1, stack := v :: rest }) t → Steps p.tables e below (T.setTop g) t := fun t k => by
  obtain ⟨cl, A, h1, h2⟩ := V.open h0 hv
  exact X.aaload hx (by rw [eT]; exact A.1) (State.isArrayOf_alike hZ.alike A.2.1) ht A.2.2 h1 h2 hg hs hd _ k
theorem Arx.put {j : Int32} {v : Value} (V : Arx Z h a ty vs) (h0 : ¬ j < 0) (hj : j.toNatClampNeg < vs.length) (hv : fits ty v = true) : ∃ cl, Arr Z h a cl ty ∧ ¬ (j < 0 ∨ cl.slots.size ≤ j.toNatClampNeg) ∧ ∀ {h' : Heap}, Wr h h' a j.toNatClampNeg v → Arx Z h' a ty (vs.set j.toNatClampNeg v) := by
  obtain ⟨q, k, dv, cl, A, q1, S, N, H, G⟩ := V
  refine ⟨cl, A, fun q' => q'.elim h0 ?_, fun W => ⟨by rw [List.length_set]; exact q, k, dv, ?_⟩⟩
  · rw [S, own_clamp q]; exact Nat.not_le.mpr hj
  · rw [List.length_set]; exact Arv.set A q1 S N H G hv W _ rfl hj
theorem own_iastore (X : Stand p l e R s m args below meth c T locs cells slots) (hx : p.tables.exec = Jvm.exec) (hZ : Z.Warmed39 s.vm) (eT : T.heap = h) (V : Arx Z h a .int vs) {j x : Int32} (h0 : ¬ j < 0) (hj : j.toNatClampNeg < vs.length) {g : JFrame} (hg : g.method = m) {rest : List Value} (hs : g.stack = .int x :: .int j :: .ref a :: rest) (hd : decode c.code g.pc = .ok (.iastore, 1)) :
    ∃ T' h', Stand p l e R s m args below meth c T' (locs ++ [⟨a, j.toNatClampNeg⟩]) cells slots ∧ T'.heap = h' ∧ Wr h h' a j.toNatClampNeg (.int x) ∧ Arx Z h' a .int (vs.set j.toNatClampNeg (.int x)) ∧ ∀ t, Steps p.tables e below (T'.setTop { g with pc := g.pc + 1, stack := rest }) t → Steps p.tables e below (T.setTop g) t := by
  obtain ⟨cl, A, h1, h2⟩ := V.put (v := .int x) h0 hj rfl
  obtain ⟨T', h', X', e', W, st⟩ := stI X hx hZ eT A h1 hg hs hd
  exact ⟨T', h', X', e', W, h2 W, st⟩
theorem own_lastore (X : Stand p l e R s m args below meth c T locs cells slots) (hx : p.tables.exec = Jvm.exec) (hZ : Z.Warmed39 s.vm) (eT : T.heap = h) (V : Arx Z h a .long vs) {j : Int32} {x : Int64} (h0 : ¬ j < 0) (hj : j.toNatClampNeg < vs.length) {g : JFrame} (hg : g.method = m) {rest : List Value} (hs : g.stack = .long x :: .int j :: .ref a :: rest) (hd : decode c.code g.pc = .ok (.lastore, 1)) :
    ∃ T' h', Stand p l e R s m args below meth c T' (locs ++ [⟨a, j.toNatClampNeg⟩]) cells slots ∧ T'.heap = h' ∧ Wr h h' a j.toNatClampNeg (.long x) ∧ Arx Z h' a .long (vs.set j.toNatClampNeg (.long x)) ∧ ∀ t, Steps p.tables e below (T'.setTop { g with pc := g.pc + 1, stack := rest }) t → Steps p.tables e below (T.setTop g) t := by
  obtain ⟨cl, A, h1, h2⟩ := V.put (v := .long x) h0 hj rfl
  obtain ⟨T', h', X', e', W, st⟩ := stJ X hx hZ eT A h1 hg hs hd
  exact ⟨T', h', X', e', W, h2 W, st⟩
theorem own_castore (X : Stand p l e R s m args below meth c T locs cells slots) (hx : p.tables.exec = Jvm.exec) (hZ : Z.Warmed39 s.vm) (eT : T.heap = h) (V : Arx Z h a .char vs) {j x : Int32} (h0 : ¬ j < 0) (hj : j.toNatClampNeg < vs.length) {g : JFrame} (hg : g.method = m) {rest : List Value} (hs : g.stack = .int x :: .int j :: .ref a :: rest) (hd : decode c.code g.pc = .ok (.castore, 1)) :
    ∃ T' h', Stand p l e R s m args below meth c T' (locs ++ [⟨a, j.toNatClampNeg⟩]) cells slots ∧ T'.heap = h' ∧ Wr h h' a j.toNatClampNeg (.int (nar .char x)) ∧ Arx Z h' a .char (vs.set j.toNatClampNeg (.int (nar .char x))) ∧ ∀ t, Steps p.tables e below (T'.setTop { g with pc := g.pc + 1, stack := rest }) t → Steps p.tables e below (T.setTop g) t := by
  obtain ⟨cl, A, h1, h2⟩ := V.put (v := .int (nar .char x)) h0 hj (fits_nar_char _)
  obtain ⟨T', h', X', e', W, st⟩ := stC X hx hZ eT A h1 hg hs hd
  exact ⟨T', h', X', e', W, h2 W, st⟩
theorem own_bastore (X : Stand p l e R s m args below meth c T locs cells slots) (hx : p.tables.exec = Jvm.exec) (hZ : Z.Warmed39 s.vm) (eT : T.heap = h) (V : Arx Z h a .byte vs) {j x : Int32} (h0 : ¬ j < 0) (hj : j.toNatClampNeg < vs.length) {g : JFrame} (hg : g.method = m) {rest : List Value} (hs : g.stack = .int x :: .int j :: .ref a :: rest) (hd : decode c.code g.pc = .ok (.bastore, 1)) :
    ∃ T' h', Stand p l e R s m args below meth c T' (locs ++ [⟨a, j.toNatClampNeg⟩]) cells slots ∧ T'.heap = h' ∧ Wr h h' a j.toNatClampNeg (.int (nar .byte x)) ∧ Arx Z h' a .byte (vs.set j.toNatClampNeg (.int (nar .byte x))) ∧ ∀ t, Steps p.tables e below (T'.setTop { g with pc := g.pc + 1, stack := rest }) t → Steps p.tables e below (T.setTop g) t := by
  obtain ⟨cl, A, h1, h2⟩ := V.put (v := .int (nar .byte x)) h0 hj (fits_nar_byte _)
  obtain ⟨T', h', X', e', W, st⟩ := stB X hx hZ eT A h1 hg hs hd
  exact ⟨T', h', X', e', W, h2 W, st⟩
theorem own_newarr (X : Stand p l e R s m args below meth c T locs cells slots) (hx : p.tables.exec = Jvm.exec) (hZ : Z.Warmed39 s.vm) {aty : ArrayType} (w : (Jvm.Cond.arrayClass (newarray.typeOf aty)).before a0 Z = true) (eT : T.heap = h) {g : JFrame} (hg : g.method = m) (hd : decode c.code g.pc = .ok (.newarray aty, 2)) {n : Int32} {rest : List Value} (hs : g.stack = .int n :: rest)
    (hn : ¬ n < 0) {cap : Nat} (hcap : n.toNatClampNeg ≤ cap) (hb : cap * 8 ≤ 536870912) (hc : cells + 1 ≤ R.cells) (hl : slots + cap ≤ R.slots) {ad : String} (had : "[" ++ (newarray.typeOf aty).toString = ad) :
    ∃ T' h' a, a = h.size ∧ Stand p l e R s m args below meth c T' locs (cells + 1) (slots + cap) ∧ T'.heap = h' ∧ Ext h h' ∧ Arx Z h' a (newarray.typeOf aty) (List.replicate n.toNatClampNeg (defaultValue (newarray.typeOf aty))) ∧ Exa Z h' a ad ∧
      ∀ t, Steps p.tables e below (T'.setTop { g with pc := g.pc + 2, stack := .ref a :: rest }) t → Steps p.tables e below (T.setTop g) t := by
  obtain ⟨T', h', cA, X', e', E, A, Ex, st⟩ := newPE X hx hZ w eT hg hd hs hn hcap hb hc hl had
  have b := back32 hn
  refine ⟨T', h', _, rfl, X', e', E, ⟨by rw [List.length_replicate]; exact b.2, cA, defaultValue (newarray.typeOf aty), ?_⟩, Ex, st⟩
  rw [List.length_replicate, show Int32.ofNat n.toNatClampNeg = n from b.1]
  exact (Arv.new A hn).pad (pad_rep [] _ _)
theorem own_clone (X : Stand p l e R s m args below meth c T locs cells slots) (hx : p.tables.exec = Jvm.exec) (hZ : Z.Warmed39 s.vm) {own ad : String} {index : Nat} (hown : s.vm.findClass own = some m.cls)
    (w1 : (Jvm.Cond.methodLink own index ⟨ad, "clone", "()Ljava/lang/Object;"⟩).before a0 Z = true) (w2 : (Jvm.Cond.sameMethod ad "java/lang/Object" "clone" "()Ljava/lang/Object;").before a0 Z = true) (w3 : (Jvm.Cond.native ⟨"java/lang/Object", "clone", "()Ljava/lang/Object;"⟩).before a0 Z = true)
    (w4 : (Jvm.Cond.instanceMethod ⟨"java/lang/Object", "clone", "()Ljava/lang/Object;"⟩).before a0 Z = true) (w5 : (Jvm.Cond.selects ad ⟨ad, "clone", "()Ljava/lang/Object;"⟩ ⟨"java/lang/Object", "clone", "()Ljava/lang/Object;"⟩).before a0 Z = true) (w6 : (Jvm.Cond.castable ad "java/lang/Cloneable").before a0 Z = true)
    (eT : T.heap = h) (V : Arx Z h a ty vs) (E : Exa Z h a ad) {g : JFrame} (hg : g.method = m) (hsize : g.locals.size = c.maxLocals) {rest : List Value} (hst : g.stack = .ref a :: rest) (hd : decode c.code g.pc = .ok (.invokevirtual index, 3))
    (hf : 1 ≤ R.frames) {W cap : Nat} (hW : 2 * g.monitorRoom + (rest.map fun v => v.category).sum ≤ W) (hl : W + 14 ≤ R.locals) (hcap : vs.length ≤ cap) (hc : cells + 1 ≤ R.cells) (hsl : slots + cap ≤ R.slots) :
    ∃ T' h' b, b = h.size ∧ Stand p l e R s m args below meth c T' locs (cells + 1) (slots + cap) ∧ T'.heap = h' ∧ Ext h h' ∧ Arx Z h' b ty vs ∧ Exa Z h' b ad ∧
      ∀ t, Steps p.tables e below (T'.setTop { g with pc := g.pc + 3, stack := .ref b :: rest }) t → Steps p.tables e below (T.setTop g) t := by
  obtain ⟨q, k, dv, V⟩ := V
  obtain ⟨T', h', X', e', ex, V', E', st⟩ := cloneH X hx hZ hown w1 w2 w3 w4 w5 w6 eT V.arh E hg hsize hst hd hf hW hl (by rw [own_clamp q]; exact hcap) hc hsl
  exact ⟨T', h', _, rfl, X', e', ex, ⟨q, k, dv, V'⟩, E', st⟩
end Own
def un (z : Int64) : Nat := z.toBitVec.toNat
theorem own_un (z : Int64) : (un z : Int) = z.toInt % 18446744073709551616 := by
  have h : z.toInt = z.toBitVec.toInt := rfl
  have h2 := z.toBitVec.isLt
  rw [h, BitVec.toInt_eq_toNat_cond]
  unfold un
  split <;> omega
theorem own_add (a b : Int64) : un (a + b) = (un a + un b) % 18446744073709551616 := BitVec.toNat_add _ _
theorem own_mul (a b : Int64) : un (a * b) = (un a * un b) % 18446744073709551616 := BitVec.toNat_mul _ _
theorem own_and (a b : Int64) : un (a &&& b) = un a &&& un b := BitVec.toNat_and _ _
theorem own_or (a b : Int64) : un (a ||| b) = un a ||| un b := BitVec.toNat_or _ _
theorem own_xor (a b : Int64) : un (a ^^^ b) = un a ^^^ un b := BitVec.toNat_xor _ _
def us (x : Int64) (q : Int32) : Int64 := ((x.toUInt64 >>> (q &&& 0x3f).toInt64.toUInt64).toInt64)
theorem own_us (x : Int64) (q : Int32) (k : Nat) (hk : q.toBitVec.toNat % 64 = k) (h0 : 0 < k) : un (us x q) = un x / 2 ^ k := by
  have h := c_lushr x q k hk h0
  have h1 := own_un x
  have h2 := own_un (us x q)
  have h3 : (us x q).toInt = (un x : Int) / (2 ^ k : Nat) := by rw [h1]; exact h
  rw [h3] at h2
  have h4 : (un x : Int) / (2 ^ k : Nat) = ((un x / 2 ^ k : Nat) : Int) := (Int.natCast_ediv _ _).symm
  rw [h4] at h2
  have h5 : un x / 2 ^ k ≤ un x := Nat.div_le_self _ _
  have h6 : un x < 18446744073709551616 := x.toBitVec.isLt
  generalize un x / 2 ^ k = t at *
  clear h h1 h3 h4
  omega
theorem own_split (u m k : Nat) : u &&& m = (u % 2 ^ k &&& m % 2 ^ k) + 2 ^ k * (u / 2 ^ k &&& m / 2 ^ k) := by
  rw [← Nat.and_mod_two_pow, ← Nat.and_div_two_pow]
  exact (Nat.mod_add_div _ _).symm
theorem own_xsplit (u m k : Nat) : u ^^^ m = (u % 2 ^ k ^^^ m % 2 ^ k) + 2 ^ k * (u / 2 ^ k ^^^ m / 2 ^ k) := by
  rw [← Nat.xor_mod_two_pow, ← Nat.xor_div_two_pow]
  exact (Nat.mod_add_div _ _).symm
theorem own_m16 (lo hi r m : Nat) (h1 : lo < 256) (h2 : hi < 256) : (lo + 256 * hi + 65536 * r) &&& (255 + 65536 * m) = lo + 65536 * (r &&& m) := by
  rw [own_split _ _ 16]
  have e1 : (lo + 256 * hi + 65536 * r) % 2 ^ 16 = lo + 256 * hi := by omega
  have e2 : (255 + 65536 * m) % 2 ^ 16 = 2 ^ 8 - 1 := by omega
  have e3 : (lo + 256 * hi + 65536 * r) / 2 ^ 16 = r := by omega
  have e4 : (255 + 65536 * m) / 2 ^ 16 = m := by omega
  rw [e1, e2, e3, e4, Nat.and_two_pow_sub_one_eq_mod]
  have e5 : (lo + 256 * hi) % 2 ^ 8 = lo := by omega
  rw [e5]
theorem own_m32 (lo hi r m : Nat) (h1 : lo < 65536) (h2 : hi < 65536) : (lo + 65536 * hi + 4294967296 * r) &&& (65535 + 4294967296 * m) = lo + 4294967296 * (r &&& m) := by
  rw [own_split _ _ 32]
  have e1 : (lo + 65536 * hi + 4294967296 * r) % 2 ^ 32 = lo + 65536 * hi := by omega
  have e2 : (65535 + 4294967296 * m) % 2 ^ 32 = 2 ^ 16 - 1 := by omega
  have e3 : (lo + 65536 * hi + 4294967296 * r) / 2 ^ 32 = r := by omega
  have e4 : (65535 + 4294967296 * m) / 2 ^ 32 = m := by omega
  rw [e1, e2, e3, e4, Nat.and_two_pow_sub_one_eq_mod]
  have e5 : (lo + 65536 * hi) % 2 ^ 16 = lo := by omega
  rw [e5]
def v1 (V : Int64) : Int64 := ((V * (10 : Int64)) + us V 8) &&& (71777214294589695 : Int64)
def v2 (V : Int64) : Int64 := ((V * (100 : Int64)) + us V 16) &&& (281470681808895 : Int64)
def v3 (V : Int64) : Int64 := ((V * (10000 : Int64)) + us V 32) &&& (4294967295 : Int64)
def vof (d : Int64) (c : Int32) : Int64 := v3 (v2 (v1 ((d ^^^ (3472328296227680304 : Int64)) <<< (((-c) * (8 : Int32)) &&& 0x3f).toInt64)))
theorem own_v1 (V : Int64) (e0 e1 e2 e3 e4 e5 e6 e7 : Nat) (h0 : e0 ≤ 9) (h1 : e1 ≤ 9) (h2 : e2 ≤ 9) (h3 : e3 ≤ 9) (h4 : e4 ≤ 9) (h5 : e5 ≤ 9) (h6 : e6 ≤ 9) (h7 : e7 ≤ 9)
    (h : un V = e0 + 256 * (e1 + 256 * (e2 + 256 * (e3 + 256 * (e4 + 256 * (e5 + 256 * (e6 + 256 * e7))))))) :
    un (v1 V) = (10 * e0 + e1) + 65536 * ((10 * e2 + e3) + 65536 * ((10 * e4 + e5) + 65536 * (10 * e6 + e7))) := by
  unfold v1
  rw [own_and, own_add, own_mul, own_us V 8 8 (by decide +kernel) (by decide +kernel), show un (10 : Int64) = 10 from by decide +kernel, show un (71777214294589695 : Int64) = 255 + 65536 * (255 + 65536 * (255 + 65536 * (255 + 65536 * 0))) from by decide +kernel]
  have hd : un V / 2 ^ 8 = e1 + 256 * (e2 + 256 * (e3 + 256 * (e4 + 256 * (e5 + 256 * (e6 + 256 * e7))))) := by
    rw [h]; generalize e1 + 256 * (e2 + 256 * (e3 + 256 * (e4 + 256 * (e5 + 256 * (e6 + 256 * e7))))) = R; clear h; omega
  rw [hd, Nat.mod_eq_of_lt (a := un V * 10) (by rw [h]; omega), Nat.mod_eq_of_lt (by rw [h]; omega), h]
  have e : (e0 + 256 * (e1 + 256 * (e2 + 256 * (e3 + 256 * (e4 + 256 * (e5 + 256 * (e6 + 256 * e7))))))) * 10 + (e1 + 256 * (e2 + 256 * (e3 + 256 * (e4 + 256 * (e5 + 256 * (e6 + 256 * e7)))))) = (10 * e0 + e1) + 256 * (10 * e1 + e2) + 65536 * ((10 * e2 + e3) + 256 * (10 * e3 + e4) + 65536 * ((10 * e4 + e5) + 256 * (10 * e5 + e6) + 65536 * ((10 * e6 + e7) + 256 * (10 * e7) + 65536 * 0))) := by omega
  rw [e, own_m16 _ _ _ _ (by omega) (by omega), own_m16 _ _ _ _ (by omega) (by omega), own_m16 _ _ _ _ (by omega) (by omega), own_m16 _ _ _ _ (by omega) (by omega), Nat.zero_and]
  omega
theorem own_v2 (V : Int64) (f0 f1 f2 f3 : Nat) (h0 : f0 ≤ 99) (h1 : f1 ≤ 99) (h2 : f2 ≤ 99) (h3 : f3 ≤ 99) (h : un V = f0 + 65536 * (f1 + 65536 * (f2 + 65536 * f3))) : un (v2 V) = (100 * f0 + f1) + 4294967296 * (100 * f2 + f3) := by
  unfold v2
  rw [own_and, own_add, own_mul, own_us V 16 16 (by decide +kernel) (by decide +kernel), show un (100 : Int64) = 100 from by decide +kernel, show un (281470681808895 : Int64) = 65535 + 4294967296 * (65535 + 4294967296 * 0) from by decide +kernel]
  have hd : un V / 2 ^ 16 = f1 + 65536 * (f2 + 65536 * f3) := by
    rw [h]; generalize f1 + 65536 * (f2 + 65536 * f3) = R; clear h; omega
  rw [hd, Nat.mod_eq_of_lt (a := un V * 100) (by rw [h]; omega), Nat.mod_eq_of_lt (by rw [h]; omega), h]
  have e : (f0 + 65536 * (f1 + 65536 * (f2 + 65536 * f3))) * 100 + (f1 + 65536 * (f2 + 65536 * f3)) = (100 * f0 + f1) + 65536 * (100 * f1 + f2) + 4294967296 * ((100 * f2 + f3) + 65536 * (100 * f3) + 4294967296 * 0) := by omega
  rw [e, own_m32 _ _ _ _ (by omega) (by omega), own_m32 _ _ _ _ (by omega) (by omega), Nat.zero_and]
  omega
theorem own_v3 (V : Int64) (g0 g1 : Nat) (h0 : g0 ≤ 9999) (h1 : g1 ≤ 9999) (h : un V = g0 + 4294967296 * g1) : un (v3 V) = 10000 * g0 + g1 := by
  unfold v3
  rw [own_and, own_add, own_mul, own_us V 32 32 (by decide +kernel) (by decide +kernel), show un (10000 : Int64) = 10000 from by decide +kernel, show un (4294967295 : Int64) = 2 ^ 32 - 1 from by decide +kernel, Nat.and_two_pow_sub_one_eq_mod]
  have hd : un V / 2 ^ 32 = g1 := by rw [h]; clear h; omega
  rw [hd, Nat.mod_eq_of_lt (a := un V * 10000) (by rw [h]; omega), Nat.mod_eq_of_lt (a := un V * 10000 + g1) (by rw [h]; omega), h]
  clear h hd
  omega
theorem own_x8 (d r z : Nat) (h : d ≤ 9) : (48 + d + 256 * r) ^^^ (48 + 256 * z) = d + 256 * (r ^^^ z) := by
  rw [own_xsplit _ _ 8]
  have e1 : (48 + d + 256 * r) % 2 ^ 8 = 48 + d := by omega
  have e2 : (48 + 256 * z) % 2 ^ 8 = 48 := by omega
  have e3 : (48 + d + 256 * r) / 2 ^ 8 = r := by omega
  have e4 : (48 + 256 * z) / 2 ^ 8 = z := by omega
  have e5 : (48 + d) ^^^ 48 = d := by
    have all : ∀ d : Fin 10, (48 + d.val) ^^^ 48 = d.val := by decide
    exact all ⟨d, by omega⟩
  rw [e1, e2, e3, e4, e5]
theorem own_wx (W : Int64) (d0 d1 d2 d3 d4 d5 d6 d7 : Nat) (h0 : d0 ≤ 9) (h1 : d1 ≤ 9) (h2 : d2 ≤ 9) (h3 : d3 ≤ 9) (h4 : d4 ≤ 9) (h5 : d5 ≤ 9) (h6 : d6 ≤ 9) (h7 : d7 ≤ 9)
    (h : un W = 48 + d0 + 256 * (48 + d1 + 256 * (48 + d2 + 256 * (48 + d3 + 256 * (48 + d4 + 256 * (48 + d5 + 256 * (48 + d6 + 256 * (48 + d7)))))))) :
    un (W ^^^ (3472328296227680304 : Int64)) = d0 + 256 * (d1 + 256 * (d2 + 256 * (d3 + 256 * (d4 + 256 * (d5 + 256 * (d6 + 256 * d7)))))) := by
  rw [own_xor, h, show un (3472328296227680304 : Int64) = 48 + 256 * (48 + 256 * (48 + 256 * (48 + 256 * (48 + 256 * (48 + 256 * (48 + 256 * (48 + 256 * 0))))))) from by decide +kernel, show 48 + d7 = 48 + d7 + 256 * 0 from rfl, own_x8 _ _ _ h0, own_x8 _ _ _ h1, own_x8 _ _ _ h2, own_x8 _ _ _ h3, own_x8 _ _ _ h4, own_x8 _ _ _ h5, own_x8 _ _ _ h6, own_x8 _ _ _ h7, Nat.zero_xor, Nat.mul_zero, Nat.add_zero]
theorem own_in1 (W J M c0 : Int64) (k : Nat) (h1 : un M % 2 ^ k = 2 ^ k - 1) (h2 : un c0 % 2 ^ k = 0) : un (((W &&& M) ||| (J &&& c0)) ^^^ (3472328296227680304 : Int64)) % 2 ^ k = un (W ^^^ (3472328296227680304 : Int64)) % 2 ^ k := by
  rw [own_xor, own_xor W, Nat.xor_mod_two_pow, Nat.xor_mod_two_pow, own_or, Nat.or_mod_two_pow, own_and, own_and, Nat.and_mod_two_pow, Nat.and_mod_two_pow, h1, h2, Nat.and_zero, Nat.or_zero, Nat.and_two_pow_sub_one_eq_mod, Nat.mod_mod]
theorem own_sl (x : Int64) (q : Int32) (k : Nat) (hk : q.toBitVec.toNat % 64 = k) : ((un (x <<< (q &&& 0x3f).toInt64) : Int) - un x * (2 ^ k : Nat)) % 18446744073709551616 = 0 := by
  have h := c_lshl x q k hk
  have h1 := own_un x
  have h2 := own_un (x <<< (q &&& 0x3f).toInt64)
  rw [h1, h2]
  generalize (2 ^ k : Nat) = K at *
  generalize (x <<< (q &&& 0x3f).toInt64).toInt = y at *
  generalize x.toInt = z at *
  have e1 : (y % 18446744073709551616 - z % 18446744073709551616 * (K : Int)) % 18446744073709551616 = (y - z * K) % 18446744073709551616 := by
    rw [Int.sub_emod, Int.emod_emod, Int.mul_emod, Int.emod_emod, ← Int.mul_emod, ← Int.sub_emod]
  rw [e1]; exact h
def dby (x q : Int64) (i : Int32) : Int64 := (((48 : Int64) + ((x / q) - ((x / q) / (10 : Int64)) * (10 : Int64))) <<< (((8 : Int32) * i) &&& 0x3f).toInt64)
theorem d1_0 : decode method_2_code 0 = .ok (.lload_n 0, 1) := by decide +kernel
theorem d1_1 : decode method_2_code 1 = .ok (.lload_n 2, 1) := by decide +kernel
theorem d1_2 : decode method_2_code 2 = .ok (.ldiv, 1) := by decide +kernel
theorem d1_3 : decode method_2_code 3 = .ok (.ldc2_w 7, 3) := by decide +kernel
theorem d1_6 : decode method_2_code 6 = .ok (.lrem, 1) := by decide +kernel
theorem d1_7 : decode method_2_code 7 = .ok (.lstore 5, 2) := by decide +kernel
theorem d1_9 : decode method_2_code 9 = .ok (.ldc2_w 9, 3) := by decide +kernel
theorem d1_12 : decode method_2_code 12 = .ok (.lload 5, 2) := by decide +kernel
theorem d1_14 : decode method_2_code 14 = .ok (.ladd, 1) := by decide +kernel
theorem d1_15 : decode method_2_code 15 = .ok (.bipush 8, 2) := by decide +kernel
theorem d1_17 : decode method_2_code 17 = .ok (.iload 4, 2) := by decide +kernel
theorem d1_19 : decode method_2_code 19 = .ok (.imul, 1) := by decide +kernel
theorem d1_20 : decode method_2_code 20 = .ok (.lshl, 1) := by decide +kernel
theorem d1_21 : decode method_2_code 21 = .ok (.lreturn, 1) := by decide +kernel
theorem pn_com_example_breakwater_breakwater_model_DigitsValueOfPinLaw : plainName "com/example/breakwater/breakwater/model/DigitsValueOfPinLaw" = true := by first | (simp [plainName, overriddenIn]; done) | decide +kernel
theorem ef_1 (m : MethodId) (x0 : Int64) (x1 : Int64) (x2 : Int32) : entryFrame m #[(.long x0), (.long x1), (.int x2)] 7 = mkF m 0 #[.val (.long x0), .second, .val (.long x1), .second, .val (.int x2), .unset, .unset] [] := by first | (simp [entryFrame, mkF, argsToLocals, Value.category]; done) | rfl
def Q1 (Z : State) (q0 : Int64) (q1 : Int64) (p2 : Int32) (h0 : Heap) (n0 : Nat) (v : Option Value) (h : Heap) (L : List Loc) : Prop := v = some (.long (dby q0 q1 p2)) ∧ Fr n0 L ∧ h = h0
set_option maxRecDepth 65536 in
set_option maxHeartbeats 40000000 in
theorem rm1 (l : Launch) (Z : State) (a0 : Array Value) (hw : ∀ d ∈ tables_1, d.before a0 Z = true) (ws : List Jvm.Cond) (q0 : Int64) (q1 : Int64) (p2 : Int32) (h0 : Heap) (n0 : Nat) (Z0 : n0 ≤ h0.size) (hq : q1 ≠ 0) :
    own_CT l Z (⟨"com/example/breakwater/breakwater/model/DigitsValueOfPinLaw", "digitByte", "(JJI)J"⟩ : MethodName) method_2_code 7 (some .long) ws ({ frames := 0, cells := 0, slots := 0, locals := 0 } : Room) #[(.long q0), (.long q1), (.int p2)] h0 (Q1 Z q0 q1 p2 h0 n0) := by
  refine MetFree.of_bodySF (plainFor_of_name pn_com_example_breakwater_breakwater_model_DigitsValueOfPinLaw) hisR ?_
  intro p e s m args below meth c s₁ Bd hml0 hP hK
  obtain ⟨rfl, hZ, hh⟩ := hP
  have hx := Bd.exec
  have hby := Bd.bytes
  have hml : c.maxLocals = 7 := hml0
  have hown : s.vm.findClass "com/example/breakwater/breakwater/model/DigitsValueOfPinLaw" = some m.cls := findClass_of_methodNamed Bd.named
  have hnm := (name_of_methodNamed Bd.named Bd.method).1
  have hlk : meth.locks = false := BodyLoose.notSynchronized Bd
  have X0 : Stand p l e ({ frames := 0, cells := 0, slots := 0, locals := 0 } : Room) s m #[(.long q0), (.long q1), (.int p2)] below meth c s₁ [] 0 0 := Stand.of_body Bd
  have e0 : s₁.heap = h0 := by rw [← hh, Bd.state]; rfl
  have N0 := Fr.nil n0
  show GG p e below s ({ frames := 0, cells := 0, slots := 0, locals := 0 } : Room).cells ({ frames := 0, cells := 0, slots := 0, locals := 0 } : Room).slots (Q1 Z q0 q1 p2 h0 n0) s₁ (entryFrame m #[(.long q0), (.long q1), (.int p2)] 7)
  refine own_in (ef_1 m q0 q1 p2) ?_
  show GG _ _ _ _ _ _ _ s₁ (mkF m 0 #[.val (.long q0), .second, .val (.long q1), .second, .val (.int p2), .unset, .unset] [])
  refine own_go (fun _ => XS.lloadN X0.here hx rfl (hb hby d1_0) rfl) ?_
  show GG _ _ _ _ _ _ _ s₁ (mkF m 1 #[.val (.long q0), .second, .val (.long q1), .second, .val (.int p2), .unset, .unset] [(.long q0)])
  refine own_go (fun _ => XS.lloadN X0.here hx rfl (hb hby d1_1) rfl) ?_
  show GG _ _ _ _ _ _ _ s₁ (mkF m 2 #[.val (.long q0), .second, .val (.long q1), .second, .val (.int p2), .unset, .unset] [(.long q1), (.long q0)])
  refine own_go (fun _ => XS.ldiv X0.here hx rfl (hb hby d1_2) rfl hq) ?_
  show GG _ _ _ _ _ _ _ s₁ (mkF m 3 #[.val (.long q0), .second, .val (.long q1), .second, .val (.int p2), .unset, .unset] [(.long (q0 / q1))])
  refine own_go (fun _ => X0.ldc2Long hx hown (mvT hZ (hw _ (List.mem_of_getElem? (i := 1) rfl))) (g := (mkF m 3 #[.val (.long q0), .second, .val (.long q1), .second, .val (.int p2), .unset, .unset] [(.long (q0 / q1))])) rfl (hb hby d1_3) _) ?_
  show GG _ _ _ _ _ _ _ s₁ (mkF m 6 #[.val (.long q0), .second, .val (.long q1), .second, .val (.int p2), .unset, .unset] [(.long (10 : Int64)), (.long (q0 / q1))])
  refine own_go (fun _ => XS.lrem X0.here hx rfl (hb hby d1_6) rfl (by decide)) ?_
  show GG _ _ _ _ _ _ _ s₁ (mkF m 7 #[.val (.long q0), .second, .val (.long q1), .second, .val (.int p2), .unset, .unset] [(.long ((q0 / q1) - ((q0 / q1) / (10 : Int64)) * (10 : Int64)))])
  refine own_go (fun _ => XS.lstore X0.here hx rfl (hb hby d1_7) rfl (l' := #[.val (.long q0), .second, .val (.long q1), .second, .val (.int p2), .val (.long ((q0 / q1) - ((q0 / q1) / (10 : Int64)) * (10 : Int64))), .second]) rfl) ?_
  show GG _ _ _ _ _ _ _ s₁ (mkF m 9 #[.val (.long q0), .second, .val (.long q1), .second, .val (.int p2), .val (.long ((q0 / q1) - ((q0 / q1) / (10 : Int64)) * (10 : Int64))), .second] [])
  refine own_go (fun _ => X0.ldc2Long hx hown (mvT hZ (hw _ (List.mem_of_getElem? (i := 14) rfl))) (g := (mkF m 9 #[.val (.long q0), .second, .val (.long q1), .second, .val (.int p2), .val (.long ((q0 / q1) - ((q0 / q1) / (10 : Int64)) * (10 : Int64))), .second] [])) rfl (hb hby d1_9) _) ?_
  show GG _ _ _ _ _ _ _ s₁ (mkF m 12 #[.val (.long q0), .second, .val (.long q1), .second, .val (.int p2), .val (.long ((q0 / q1) - ((q0 / q1) / (10 : Int64)) * (10 : Int64))), .second] [(.long (48 : Int64))])
  refine own_go (fun _ => XS.lload X0.here hx rfl (hb hby d1_12) rfl) ?_
  show GG _ _ _ _ _ _ _ s₁ (mkF m 14 #[.val (.long q0), .second, .val (.long q1), .second, .val (.int p2), .val (.long ((q0 / q1) - ((q0 / q1) / (10 : Int64)) * (10 : Int64))), .second] [(.long ((q0 / q1) - ((q0 / q1) / (10 : Int64)) * (10 : Int64))), (.long (48 : Int64))])
  refine own_go (fun _ => XS.ladd X0.here hx rfl (hb hby d1_14) rfl) ?_
  show GG _ _ _ _ _ _ _ s₁ (mkF m 15 #[.val (.long q0), .second, .val (.long q1), .second, .val (.int p2), .val (.long ((q0 / q1) - ((q0 / q1) / (10 : Int64)) * (10 : Int64))), .second] [(.long ((48 : Int64) + ((q0 / q1) - ((q0 / q1) / (10 : Int64)) * (10 : Int64))))])
  refine own_go (fun _ => XS.bipush X0.here hx rfl (hb hby d1_15)) ?_
  show GG _ _ _ _ _ _ _ s₁ (mkF m 17 #[.val (.long q0), .second, .val (.long q1), .second, .val (.int p2), .val (.long ((q0 / q1) - ((q0 / q1) / (10 : Int64)) * (10 : Int64))), .second] [(.int (8 : Int32)), (.long ((48 : Int64) + ((q0 / q1) - ((q0 / q1) / (10 : Int64)) * (10 : Int64))))])
  refine own_go (fun _ => XS.iload X0.here hx rfl (hb hby d1_17) rfl) ?_
  show GG _ _ _ _ _ _ _ s₁ (mkF m 19 #[.val (.long q0), .second, .val (.long q1), .second, .val (.int p2), .val (.long ((q0 / q1) - ((q0 / q1) / (10 : Int64)) * (10 : Int64))), .second] [(.int p2), (.int (8 : Int32)), (.long ((48 : Int64) + ((q0 / q1) - ((q0 / q1) / (10 : Int64)) * (10 : Int64))))])
  refine own_go (fun _ => XS.imul X0.here hx rfl (hb hby d1_19) rfl) ?_
  show GG _ _ _ _ _ _ _ s₁ (mkF m 20 #[.val (.long q0), .second, .val (.long q1), .second, .val (.int p2), .val (.long ((q0 / q1) - ((q0 / q1) / (10 : Int64)) * (10 : Int64))), .second] [(.int ((8 : Int32) * p2)), (.long ((48 : Int64) + ((q0 / q1) - ((q0 / q1) / (10 : Int64)) * (10 : Int64))))])
  refine own_go (fun _ => XS.lshl X0.here hx rfl (hb hby d1_20) rfl) ?_
  show GG _ _ _ _ _ _ _ s₁ (mkF m 21 #[.val (.long q0), .second, .val (.long q1), .second, .val (.int p2), .val (.long ((q0 / q1) - ((q0 / q1) / (10 : Int64)) * (10 : Int64))), .second] [(.long (((48 : Int64) + ((q0 / q1) - ((q0 / q1) / (10 : Int64)) * (10 : Int64))) <<< (((8 : Int32) * p2) &&& 0x3f).toInt64))])
  refine own_ret X0 hx hlk (t := .long) (w := (.long (((48 : Int64) + ((q0 / q1) - ((q0 / q1) / (10 : Int64)) * (10 : Int64))) <<< (((8 : Int32) * p2) &&& 0x3f).toInt64))) Bd.returns rfl (Or.inr (Or.inl ⟨rfl, rfl, _, rfl⟩)) (hb hby d1_21) (by decide) (by decide) ?_
  show Q1 Z q0 q1 p2 h0 n0 (some (.long (((48 : Int64) + ((q0 / q1) - ((q0 / q1) / (10 : Int64)) * (10 : Int64))) <<< (((8 : Int32) * p2) &&& 0x3f).toInt64))) s₁.heap _
  rw [e0]
  exact ⟨rfl, N0, rfl⟩
theorem d2_0 : decode prog_68_method_6_code 0 = .ok (.lload_n 0, 1) := by decide +kernel
theorem d2_1 : decode prog_68_method_6_code 1 = .ok (.ldc2_w 48, 3) := by decide +kernel
theorem d2_4 : decode prog_68_method_6_code 4 = .ok (.lxor, 1) := by decide +kernel
theorem d2_5 : decode prog_68_method_6_code 5 = .ok (.iload_n 2, 1) := by decide +kernel
theorem d2_6 : decode prog_68_method_6_code 6 = .ok (.ineg, 1) := by decide +kernel
theorem d2_7 : decode prog_68_method_6_code 7 = .ok (.bipush 8, 2) := by decide +kernel
theorem d2_9 : decode prog_68_method_6_code 9 = .ok (.imul, 1) := by decide +kernel
theorem d2_10 : decode prog_68_method_6_code 10 = .ok (.lshl, 1) := by decide +kernel
theorem d2_11 : decode prog_68_method_6_code 11 = .ok (.lstore_n 3, 1) := by decide +kernel
theorem d2_12 : decode prog_68_method_6_code 12 = .ok (.lload_n 3, 1) := by decide +kernel
theorem d2_13 : decode prog_68_method_6_code 13 = .ok (.ldc2_w 44, 3) := by decide +kernel
theorem d2_16 : decode prog_68_method_6_code 16 = .ok (.lmul, 1) := by decide +kernel
theorem d2_17 : decode prog_68_method_6_code 17 = .ok (.lload_n 3, 1) := by decide +kernel
theorem d2_18 : decode prog_68_method_6_code 18 = .ok (.bipush 8, 2) := by decide +kernel
theorem d2_20 : decode prog_68_method_6_code 20 = .ok (.lushr, 1) := by decide +kernel
theorem d2_21 : decode prog_68_method_6_code 21 = .ok (.ladd, 1) := by decide +kernel
theorem d2_22 : decode prog_68_method_6_code 22 = .ok (.ldc2_w 66, 3) := by decide +kernel
theorem d2_25 : decode prog_68_method_6_code 25 = .ok (.land, 1) := by decide +kernel
theorem d2_26 : decode prog_68_method_6_code 26 = .ok (.lstore_n 3, 1) := by decide +kernel
theorem d2_27 : decode prog_68_method_6_code 27 = .ok (.lload_n 3, 1) := by decide +kernel
theorem d2_28 : decode prog_68_method_6_code 28 = .ok (.ldc2_w 35, 3) := by decide +kernel
theorem d2_31 : decode prog_68_method_6_code 31 = .ok (.lmul, 1) := by decide +kernel
theorem d2_32 : decode prog_68_method_6_code 32 = .ok (.lload_n 3, 1) := by decide +kernel
theorem d2_33 : decode prog_68_method_6_code 33 = .ok (.bipush 16, 2) := by decide +kernel
theorem d2_35 : decode prog_68_method_6_code 35 = .ok (.lushr, 1) := by decide +kernel
theorem d2_36 : decode prog_68_method_6_code 36 = .ok (.ladd, 1) := by decide +kernel
theorem d2_37 : decode prog_68_method_6_code 37 = .ok (.ldc2_w 68, 3) := by decide +kernel
theorem d2_40 : decode prog_68_method_6_code 40 = .ok (.land, 1) := by decide +kernel
theorem d2_41 : decode prog_68_method_6_code 41 = .ok (.lstore_n 3, 1) := by decide +kernel
theorem d2_42 : decode prog_68_method_6_code 42 = .ok (.lload_n 3, 1) := by decide +kernel
theorem d2_43 : decode prog_68_method_6_code 43 = .ok (.ldc2_w 70, 3) := by decide +kernel
theorem d2_46 : decode prog_68_method_6_code 46 = .ok (.lmul, 1) := by decide +kernel
theorem d2_47 : decode prog_68_method_6_code 47 = .ok (.lload_n 3, 1) := by decide +kernel
theorem d2_48 : decode prog_68_method_6_code 48 = .ok (.bipush 32, 2) := by decide +kernel
theorem d2_50 : decode prog_68_method_6_code 50 = .ok (.lushr, 1) := by decide +kernel
theorem d2_51 : decode prog_68_method_6_code 51 = .ok (.ladd, 1) := by decide +kernel
theorem d2_52 : decode prog_68_method_6_code 52 = .ok (.ldc2_w 72, 3) := by decide +kernel
theorem d2_55 : decode prog_68_method_6_code 55 = .ok (.land, 1) := by decide +kernel
theorem d2_56 : decode prog_68_method_6_code 56 = .ok (.lreturn, 1) := by decide +kernel
theorem pn_com_example_breakwater_breakwater_model_Digits : plainName "com/example/breakwater/breakwater/model/Digits" = true := by first | (simp [plainName, overriddenIn]; done) | decide +kernel
theorem ef_2 (m : MethodId) (x0 : Int64) (x1 : Int32) : entryFrame m #[(.long x0), (.int x1)] 5 = mkF m 0 #[.val (.long x0), .second, .val (.int x1), .unset, .unset] [] := by first | (simp [entryFrame, mkF, argsToLocals, Value.category]; done) | rfl
def Q2 (Z : State) (q0 : Int64) (p1 : Int32) (h0 : Heap) (n0 : Nat) (v : Option Value) (h : Heap) (L : List Loc) : Prop := v = some (.long (vof q0 p1)) ∧ Fr n0 L ∧ h = h0
set_option maxRecDepth 65536 in
set_option maxHeartbeats 40000000 in
theorem rm2 (l : Launch) (Z : State) (a0 : Array Value) (hw : ∀ d ∈ tables_1, d.before a0 Z = true) (ws : List Jvm.Cond) (q0 : Int64) (p1 : Int32) (h0 : Heap) (n0 : Nat) (Z0 : n0 ≤ h0.size)  :
    own_CT l Z (⟨"com/example/breakwater/breakwater/model/Digits", "valueOf", "(JI)J"⟩ : MethodName) prog_68_method_6_code 5 (some .long) ws ({ frames := 0, cells := 0, slots := 0, locals := 0 } : Room) #[(.long q0), (.int p1)] h0 (Q2 Z q0 p1 h0 n0) := by
  refine MetFree.of_bodySF (plainFor_of_name pn_com_example_breakwater_breakwater_model_Digits) hisR ?_
  intro p e s m args below meth c s₁ Bd hml0 hP hK
  obtain ⟨rfl, hZ, hh⟩ := hP
  have hx := Bd.exec
  have hby := Bd.bytes
  have hml : c.maxLocals = 5 := hml0
  have hown : s.vm.findClass "com/example/breakwater/breakwater/model/Digits" = some m.cls := findClass_of_methodNamed Bd.named
  have hnm := (name_of_methodNamed Bd.named Bd.method).1
  have hlk : meth.locks = false := BodyLoose.notSynchronized Bd
  have X0 : Stand p l e ({ frames := 0, cells := 0, slots := 0, locals := 0 } : Room) s m #[(.long q0), (.int p1)] below meth c s₁ [] 0 0 := Stand.of_body Bd
  have e0 : s₁.heap = h0 := by rw [← hh, Bd.state]; rfl
  have N0 := Fr.nil n0
  show GG p e below s ({ frames := 0, cells := 0, slots := 0, locals := 0 } : Room).cells ({ frames := 0, cells := 0, slots := 0, locals := 0 } : Room).slots (Q2 Z q0 p1 h0 n0) s₁ (entryFrame m #[(.long q0), (.int p1)] 5)
  refine own_in (ef_2 m q0 p1) ?_
  show GG _ _ _ _ _ _ _ s₁ (mkF m 0 #[.val (.long q0), .second, .val (.int p1), .unset, .unset] [])
  refine own_go (fun _ => XS.lloadN X0.here hx rfl (hb hby d2_0) rfl) ?_
  show GG _ _ _ _ _ _ _ s₁ (mkF m 1 #[.val (.long q0), .second, .val (.int p1), .unset, .unset] [(.long q0)])
  refine own_go (fun _ => X0.ldc2Long hx hown (mvT hZ (hw _ (List.mem_of_getElem? (i := 20) rfl))) (g := (mkF m 1 #[.val (.long q0), .second, .val (.int p1), .unset, .unset] [(.long q0)])) rfl (hb hby d2_1) _) ?_
  show GG _ _ _ _ _ _ _ s₁ (mkF m 4 #[.val (.long q0), .second, .val (.int p1), .unset, .unset] [(.long (3472328296227680304 : Int64)), (.long q0)])
  refine own_go (fun _ => XS.lxor X0.here hx rfl (hb hby d2_4) rfl) ?_
  show GG _ _ _ _ _ _ _ s₁ (mkF m 5 #[.val (.long q0), .second, .val (.int p1), .unset, .unset] [(.long (q0 ^^^ (3472328296227680304 : Int64)))])
  refine own_go (fun _ => XS.iloadN X0.here hx rfl (hb hby d2_5) rfl) ?_
  show GG _ _ _ _ _ _ _ s₁ (mkF m 6 #[.val (.long q0), .second, .val (.int p1), .unset, .unset] [(.int p1), (.long (q0 ^^^ (3472328296227680304 : Int64)))])
  refine own_go (fun _ => XS.ineg X0.here hx rfl (hb hby d2_6) rfl) ?_
  show GG _ _ _ _ _ _ _ s₁ (mkF m 7 #[.val (.long q0), .second, .val (.int p1), .unset, .unset] [(.int (-p1)), (.long (q0 ^^^ (3472328296227680304 : Int64)))])
  refine own_go (fun _ => XS.bipush X0.here hx rfl (hb hby d2_7)) ?_
  show GG _ _ _ _ _ _ _ s₁ (mkF m 9 #[.val (.long q0), .second, .val (.int p1), .unset, .unset] [(.int (8 : Int32)), (.int (-p1)), (.long (q0 ^^^ (3472328296227680304 : Int64)))])
  refine own_go (fun _ => XS.imul X0.here hx rfl (hb hby d2_9) rfl) ?_
  show GG _ _ _ _ _ _ _ s₁ (mkF m 10 #[.val (.long q0), .second, .val (.int p1), .unset, .unset] [(.int ((-p1) * (8 : Int32))), (.long (q0 ^^^ (3472328296227680304 : Int64)))])
  refine own_go (fun _ => XS.lshl X0.here hx rfl (hb hby d2_10) rfl) ?_
  show GG _ _ _ _ _ _ _ s₁ (mkF m 11 #[.val (.long q0), .second, .val (.int p1), .unset, .unset] [(.long ((q0 ^^^ (3472328296227680304 : Int64)) <<< (((-p1) * (8 : Int32)) &&& 0x3f).toInt64))])
  refine own_go (fun _ => XS.lstoreN X0.here hx rfl (hb hby d2_11) rfl (l' := #[.val (.long q0), .second, .val (.int p1), .val (.long ((q0 ^^^ (3472328296227680304 : Int64)) <<< (((-p1) * (8 : Int32)) &&& 0x3f).toInt64)), .second]) rfl) ?_
  show GG _ _ _ _ _ _ _ s₁ (mkF m 12 #[.val (.long q0), .second, .val (.int p1), .val (.long ((q0 ^^^ (3472328296227680304 : Int64)) <<< (((-p1) * (8 : Int32)) &&& 0x3f).toInt64)), .second] [])
  refine own_go (fun _ => XS.lloadN X0.here hx rfl (hb hby d2_12) rfl) ?_
  show GG _ _ _ _ _ _ _ s₁ (mkF m 13 #[.val (.long q0), .second, .val (.int p1), .val (.long ((q0 ^^^ (3472328296227680304 : Int64)) <<< (((-p1) * (8 : Int32)) &&& 0x3f).toInt64)), .second] [(.long ((q0 ^^^ (3472328296227680304 : Int64)) <<< (((-p1) * (8 : Int32)) &&& 0x3f).toInt64))])
  refine own_go (fun _ => X0.ldc2Long hx hown (mvT hZ (hw _ (List.mem_of_getElem? (i := 21) rfl))) (g := (mkF m 13 #[.val (.long q0), .second, .val (.int p1), .val (.long ((q0 ^^^ (3472328296227680304 : Int64)) <<< (((-p1) * (8 : Int32)) &&& 0x3f).toInt64)), .second] [(.long ((q0 ^^^ (3472328296227680304 : Int64)) <<< (((-p1) * (8 : Int32)) &&& 0x3f).toInt64))])) rfl (hb hby d2_13) _) ?_
  show GG _ _ _ _ _ _ _ s₁ (mkF m 16 #[.val (.long q0), .second, .val (.int p1), .val (.long ((q0 ^^^ (3472328296227680304 : Int64)) <<< (((-p1) * (8 : Int32)) &&& 0x3f).toInt64)), .second] [(.long (10 : Int64)), (.long ((q0 ^^^ (3472328296227680304 : Int64)) <<< (((-p1) * (8 : Int32)) &&& 0x3f).toInt64))])
  refine own_go (fun _ => XS.lmul X0.here hx rfl (hb hby d2_16) rfl) ?_
  show GG _ _ _ _ _ _ _ s₁ (mkF m 17 #[.val (.long q0), .second, .val (.int p1), .val (.long ((q0 ^^^ (3472328296227680304 : Int64)) <<< (((-p1) * (8 : Int32)) &&& 0x3f).toInt64)), .second] [(.long (((q0 ^^^ (3472328296227680304 : Int64)) <<< (((-p1) * (8 : Int32)) &&& 0x3f).toInt64) * (10 : Int64)))])
  refine own_go (fun _ => XS.lloadN X0.here hx rfl (hb hby d2_17) rfl) ?_
  show GG _ _ _ _ _ _ _ s₁ (mkF m 18 #[.val (.long q0), .second, .val (.int p1), .val (.long ((q0 ^^^ (3472328296227680304 : Int64)) <<< (((-p1) * (8 : Int32)) &&& 0x3f).toInt64)), .second] [(.long ((q0 ^^^ (3472328296227680304 : Int64)) <<< (((-p1) * (8 : Int32)) &&& 0x3f).toInt64)), (.long (((q0 ^^^ (3472328296227680304 : Int64)) <<< (((-p1) * (8 : Int32)) &&& 0x3f).toInt64) * (10 : Int64)))])
  refine own_go (fun _ => XS.bipush X0.here hx rfl (hb hby d2_18)) ?_
  show GG _ _ _ _ _ _ _ s₁ (mkF m 20 #[.val (.long q0), .second, .val (.int p1), .val (.long ((q0 ^^^ (3472328296227680304 : Int64)) <<< (((-p1) * (8 : Int32)) &&& 0x3f).toInt64)), .second] [(.int (8 : Int32)), (.long ((q0 ^^^ (3472328296227680304 : Int64)) <<< (((-p1) * (8 : Int32)) &&& 0x3f).toInt64)), (.long (((q0 ^^^ (3472328296227680304 : Int64)) <<< (((-p1) * (8 : Int32)) &&& 0x3f).toInt64) * (10 : Int64)))])
  refine own_go (fun _ => XS.lushr X0.here hx rfl (hb hby d2_20) rfl) ?_
  show GG _ _ _ _ _ _ _ s₁ (mkF m 21 #[.val (.long q0), .second, .val (.int p1), .val (.long ((q0 ^^^ (3472328296227680304 : Int64)) <<< (((-p1) * (8 : Int32)) &&& 0x3f).toInt64)), .second] [(.long ((((q0 ^^^ (3472328296227680304 : Int64)) <<< (((-p1) * (8 : Int32)) &&& 0x3f).toInt64).toUInt64 >>> ((8 : Int32) &&& 0x3f).toInt64.toUInt64).toInt64)), (.long (((q0 ^^^ (3472328296227680304 : Int64)) <<< (((-p1) * (8 : Int32)) &&& 0x3f).toInt64) * (10 : Int64)))])
  refine own_go (fun _ => XS.ladd X0.here hx rfl (hb hby d2_21) rfl) ?_
  show GG _ _ _ _ _ _ _ s₁ (mkF m 22 #[.val (.long q0), .second, .val (.int p1), .val (.long ((q0 ^^^ (3472328296227680304 : Int64)) <<< (((-p1) * (8 : Int32)) &&& 0x3f).toInt64)), .second] [(.long ((((q0 ^^^ (3472328296227680304 : Int64)) <<< (((-p1) * (8 : Int32)) &&& 0x3f).toInt64) * (10 : Int64)) + ((((q0 ^^^ (3472328296227680304 : Int64)) <<< (((-p1) * (8 : Int32)) &&& 0x3f).toInt64).toUInt64 >>> ((8 : Int32) &&& 0x3f).toInt64.toUInt64).toInt64)))])
  refine own_go (fun _ => X0.ldc2Long hx hown (mvT hZ (hw _ (List.mem_of_getElem? (i := 22) rfl))) (g := (mkF m 22 #[.val (.long q0), .second, .val (.int p1), .val (.long ((q0 ^^^ (3472328296227680304 : Int64)) <<< (((-p1) * (8 : Int32)) &&& 0x3f).toInt64)), .second] [(.long ((((q0 ^^^ (3472328296227680304 : Int64)) <<< (((-p1) * (8 : Int32)) &&& 0x3f).toInt64) * (10 : Int64)) + ((((q0 ^^^ (3472328296227680304 : Int64)) <<< (((-p1) * (8 : Int32)) &&& 0x3f).toInt64).toUInt64 >>> ((8 : Int32) &&& 0x3f).toInt64.toUInt64).toInt64)))])) rfl (hb hby d2_22) _) ?_
  show GG _ _ _ _ _ _ _ s₁ (mkF m 25 #[.val (.long q0), .second, .val (.int p1), .val (.long ((q0 ^^^ (3472328296227680304 : Int64)) <<< (((-p1) * (8 : Int32)) &&& 0x3f).toInt64)), .second] [(.long (71777214294589695 : Int64)), (.long ((((q0 ^^^ (3472328296227680304 : Int64)) <<< (((-p1) * (8 : Int32)) &&& 0x3f).toInt64) * (10 : Int64)) + ((((q0 ^^^ (3472328296227680304 : Int64)) <<< (((-p1) * (8 : Int32)) &&& 0x3f).toInt64).toUInt64 >>> ((8 : Int32) &&& 0x3f).toInt64.toUInt64).toInt64)))])
  refine own_go (fun _ => XS.land X0.here hx rfl (hb hby d2_25) rfl) ?_
  show GG _ _ _ _ _ _ _ s₁ (mkF m 26 #[.val (.long q0), .second, .val (.int p1), .val (.long ((q0 ^^^ (3472328296227680304 : Int64)) <<< (((-p1) * (8 : Int32)) &&& 0x3f).toInt64)), .second] [(.long (((((q0 ^^^ (3472328296227680304 : Int64)) <<< (((-p1) * (8 : Int32)) &&& 0x3f).toInt64) * (10 : Int64)) + ((((q0 ^^^ (3472328296227680304 : Int64)) <<< (((-p1) * (8 : Int32)) &&& 0x3f).toInt64).toUInt64 >>> ((8 : Int32) &&& 0x3f).toInt64.toUInt64).toInt64)) &&& (71777214294589695 : Int64)))])
  refine own_go (fun _ => XS.lstoreN X0.here hx rfl (hb hby d2_26) rfl (l' := #[.val (.long q0), .second, .val (.int p1), .val (.long (((((q0 ^^^ (3472328296227680304 : Int64)) <<< (((-p1) * (8 : Int32)) &&& 0x3f).toInt64) * (10 : Int64)) + ((((q0 ^^^ (3472328296227680304 : Int64)) <<< (((-p1) * (8 : Int32)) &&& 0x3f).toInt64).toUInt64 >>> ((8 : Int32) &&& 0x3f).toInt64.toUInt64).toInt64)) &&& (71777214294589695 : Int64))), .second]) rfl) ?_
  show GG _ _ _ _ _ _ _ s₁ (mkF m 27 #[.val (.long q0), .second, .val (.int p1), .val (.long (((((q0 ^^^ (3472328296227680304 : Int64)) <<< (((-p1) * (8 : Int32)) &&& 0x3f).toInt64) * (10 : Int64)) + ((((q0 ^^^ (3472328296227680304 : Int64)) <<< (((-p1) * (8 : Int32)) &&& 0x3f).toInt64).toUInt64 >>> ((8 : Int32) &&& 0x3f).toInt64.toUInt64).toInt64)) &&& (71777214294589695 : Int64))), .second] [])
  refine own_go (fun _ => XS.lloadN X0.here hx rfl (hb hby d2_27) rfl) ?_
  show GG _ _ _ _ _ _ _ s₁ (mkF m 28 #[.val (.long q0), .second, .val (.int p1), .val (.long (((((q0 ^^^ (3472328296227680304 : Int64)) <<< (((-p1) * (8 : Int32)) &&& 0x3f).toInt64) * (10 : Int64)) + ((((q0 ^^^ (3472328296227680304 : Int64)) <<< (((-p1) * (8 : Int32)) &&& 0x3f).toInt64).toUInt64 >>> ((8 : Int32) &&& 0x3f).toInt64.toUInt64).toInt64)) &&& (71777214294589695 : Int64))), .second] [(.long (((((q0 ^^^ (3472328296227680304 : Int64)) <<< (((-p1) * (8 : Int32)) &&& 0x3f).toInt64) * (10 : Int64)) + ((((q0 ^^^ (3472328296227680304 : Int64)) <<< (((-p1) * (8 : Int32)) &&& 0x3f).toInt64).toUInt64 >>> ((8 : Int32) &&& 0x3f).toInt64.toUInt64).toInt64)) &&& (71777214294589695 : Int64)))])
  refine own_go (fun _ => X0.ldc2Long hx hown (mvT hZ (hw _ (List.mem_of_getElem? (i := 23) rfl))) (g := (mkF m 28 #[.val (.long q0), .second, .val (.int p1), .val (.long (((((q0 ^^^ (3472328296227680304 : Int64)) <<< (((-p1) * (8 : Int32)) &&& 0x3f).toInt64) * (10 : Int64)) + ((((q0 ^^^ (3472328296227680304 : Int64)) <<< (((-p1) * (8 : Int32)) &&& 0x3f).toInt64).toUInt64 >>> ((8 : Int32) &&& 0x3f).toInt64.toUInt64).toInt64)) &&& (71777214294589695 : Int64))), .second] [(.long (((((q0 ^^^ (3472328296227680304 : Int64)) <<< (((-p1) * (8 : Int32)) &&& 0x3f).toInt64) * (10 : Int64)) + ((((q0 ^^^ (3472328296227680304 : Int64)) <<< (((-p1) * (8 : Int32)) &&& 0x3f).toInt64).toUInt64 >>> ((8 : Int32) &&& 0x3f).toInt64.toUInt64).toInt64)) &&& (71777214294589695 : Int64)))])) rfl (hb hby d2_28) _) ?_
  show GG _ _ _ _ _ _ _ s₁ (mkF m 31 #[.val (.long q0), .second, .val (.int p1), .val (.long (((((q0 ^^^ (3472328296227680304 : Int64)) <<< (((-p1) * (8 : Int32)) &&& 0x3f).toInt64) * (10 : Int64)) + ((((q0 ^^^ (3472328296227680304 : Int64)) <<< (((-p1) * (8 : Int32)) &&& 0x3f).toInt64).toUInt64 >>> ((8 : Int32) &&& 0x3f).toInt64.toUInt64).toInt64)) &&& (71777214294589695 : Int64))), .second] [(.long (100 : Int64)), (.long (((((q0 ^^^ (3472328296227680304 : Int64)) <<< (((-p1) * (8 : Int32)) &&& 0x3f).toInt64) * (10 : Int64)) + ((((q0 ^^^ (3472328296227680304 : Int64)) <<< (((-p1) * (8 : Int32)) &&& 0x3f).toInt64).toUInt64 >>> ((8 : Int32) &&& 0x3f).toInt64.toUInt64).toInt64)) &&& (71777214294589695 : Int64)))])
  refine own_go (fun _ => XS.lmul X0.here hx rfl (hb hby d2_31) rfl) ?_
  show GG _ _ _ _ _ _ _ s₁ (mkF m 32 #[.val (.long q0), .second, .val (.int p1), .val (.long (((((q0 ^^^ (3472328296227680304 : Int64)) <<< (((-p1) * (8 : Int32)) &&& 0x3f).toInt64) * (10 : Int64)) + ((((q0 ^^^ (3472328296227680304 : Int64)) <<< (((-p1) * (8 : Int32)) &&& 0x3f).toInt64).toUInt64 >>> ((8 : Int32) &&& 0x3f).toInt64.toUInt64).toInt64)) &&& (71777214294589695 : Int64))), .second] [(.long ((((((q0 ^^^ (3472328296227680304 : Int64)) <<< (((-p1) * (8 : Int32)) &&& 0x3f).toInt64) * (10 : Int64)) + ((((q0 ^^^ (3472328296227680304 : Int64)) <<< (((-p1) * (8 : Int32)) &&& 0x3f).toInt64).toUInt64 >>> ((8 : Int32) &&& 0x3f).toInt64.toUInt64).toInt64)) &&& (71777214294589695 : Int64)) * (100 : Int64)))])
  refine own_go (fun _ => XS.lloadN X0.here hx rfl (hb hby d2_32) rfl) ?_
  show GG _ _ _ _ _ _ _ s₁ (mkF m 33 #[.val (.long q0), .second, .val (.int p1), .val (.long (((((q0 ^^^ (3472328296227680304 : Int64)) <<< (((-p1) * (8 : Int32)) &&& 0x3f).toInt64) * (10 : Int64)) + ((((q0 ^^^ (3472328296227680304 : Int64)) <<< (((-p1) * (8 : Int32)) &&& 0x3f).toInt64).toUInt64 >>> ((8 : Int32) &&& 0x3f).toInt64.toUInt64).toInt64)) &&& (71777214294589695 : Int64))), .second] [(.long (((((q0 ^^^ (3472328296227680304 : Int64)) <<< (((-p1) * (8 : Int32)) &&& 0x3f).toInt64) * (10 : Int64)) + ((((q0 ^^^ (3472328296227680304 : Int64)) <<< (((-p1) * (8 : Int32)) &&& 0x3f).toInt64).toUInt64 >>> ((8 : Int32) &&& 0x3f).toInt64.toUInt64).toInt64)) &&& (71777214294589695 : Int64))), (.long ((((((q0 ^^^ (3472328296227680304 : Int64)) <<< (((-p1) * (8 : Int32)) &&& 0x3f).toInt64) * (10 : Int64)) + ((((q0 ^^^ (3472328296227680304 : Int64)) <<< (((-p1) * (8 : Int32)) &&& 0x3f).toInt64).toUInt64 >>> ((8 : Int32) &&& 0x3f).toInt64.toUInt64).toInt64)) &&& (71777214294589695 : Int64)) * (100 : Int64)))])
  refine own_go (fun _ => XS.bipush X0.here hx rfl (hb hby d2_33)) ?_
  show GG _ _ _ _ _ _ _ s₁ (mkF m 35 #[.val (.long q0), .second, .val (.int p1), .val (.long (((((q0 ^^^ (3472328296227680304 : Int64)) <<< (((-p1) * (8 : Int32)) &&& 0x3f).toInt64) * (10 : Int64)) + ((((q0 ^^^ (3472328296227680304 : Int64)) <<< (((-p1) * (8 : Int32)) &&& 0x3f).toInt64).toUInt64 >>> ((8 : Int32) &&& 0x3f).toInt64.toUInt64).toInt64)) &&& (71777214294589695 : Int64))), .second] [(.int (16 : Int32)), (.long (((((q0 ^^^ (3472328296227680304 : Int64)) <<< (((-p1) * (8 : Int32)) &&& 0x3f).toInt64) * (10 : Int64)) + ((((q0 ^^^ (3472328296227680304 : Int64)) <<< (((-p1) * (8 : Int32)) &&& 0x3f).toInt64).toUInt64 >>> ((8 : Int32) &&& 0x3f).toInt64.toUInt64).toInt64)) &&& (71777214294589695 : Int64))), (.long ((((((q0 ^^^ (3472328296227680304 : Int64)) <<< (((-p1) * (8 : Int32)) &&& 0x3f).toInt64) * (10 : Int64)) + ((((q0 ^^^ (3472328296227680304 : Int64)) <<< (((-p1) * (8 : Int32)) &&& 0x3f).toInt64).toUInt64 >>> ((8 : Int32) &&& 0x3f).toInt64.toUInt64).toInt64)) &&& (71777214294589695 : Int64)) * (100 : Int64)))])
  refine own_go (fun _ => XS.lushr X0.here hx rfl (hb hby d2_35) rfl) ?_
  show GG _ _ _ _ _ _ _ s₁ (mkF m 36 #[.val (.long q0), .second, .val (.int p1), .val (.long (((((q0 ^^^ (3472328296227680304 : Int64)) <<< (((-p1) * (8 : Int32)) &&& 0x3f).toInt64) * (10 : Int64)) + ((((q0 ^^^ (3472328296227680304 : Int64)) <<< (((-p1) * (8 : Int32)) &&& 0x3f).toInt64).toUInt64 >>> ((8 : Int32) &&& 0x3f).toInt64.toUInt64).toInt64)) &&& (71777214294589695 : Int64))), .second] [(.long (((((((q0 ^^^ (3472328296227680304 : Int64)) <<< (((-p1) * (8 : Int32)) &&& 0x3f).toInt64) * (10 : Int64)) + ((((q0 ^^^ (3472328296227680304 : Int64)) <<< (((-p1) * (8 : Int32)) &&& 0x3f).toInt64).toUInt64 >>> ((8 : Int32) &&& 0x3f).toInt64.toUInt64).toInt64)) &&& (71777214294589695 : Int64)).toUInt64 >>> ((16 : Int32) &&& 0x3f).toInt64.toUInt64).toInt64)), (.long ((((((q0 ^^^ (3472328296227680304 : Int64)) <<< (((-p1) * (8 : Int32)) &&& 0x3f).toInt64) * (10 : Int64)) + ((((q0 ^^^ (3472328296227680304 : Int64)) <<< (((-p1) * (8 : Int32)) &&& 0x3f).toInt64).toUInt64 >>> ((8 : Int32) &&& 0x3f).toInt64.toUInt64).toInt64)) &&& (71777214294589695 : Int64)) * (100 : Int64)))])
  refine own_go (fun _ => XS.ladd X0.here hx rfl (hb hby d2_36) rfl) ?_
  show GG _ _ _ _ _ _ _ s₁ (mkF m 37 #[.val (.long q0), .second, .val (.int p1), .val (.long (((((q0 ^^^ (3472328296227680304 : Int64)) <<< (((-p1) * (8 : Int32)) &&& 0x3f).toInt64) * (10 : Int64)) + ((((q0 ^^^ (3472328296227680304 : Int64)) <<< (((-p1) * (8 : Int32)) &&& 0x3f).toInt64).toUInt64 >>> ((8 : Int32) &&& 0x3f).toInt64.toUInt64).toInt64)) &&& (71777214294589695 : Int64))), .second] [(.long (((((((q0 ^^^ (3472328296227680304 : Int64)) <<< (((-p1) * (8 : Int32)) &&& 0x3f).toInt64) * (10 : Int64)) + ((((q0 ^^^ (3472328296227680304 : Int64)) <<< (((-p1) * (8 : Int32)) &&& 0x3f).toInt64).toUInt64 >>> ((8 : Int32) &&& 0x3f).toInt64.toUInt64).toInt64)) &&& (71777214294589695 : Int64)) * (100 : Int64)) + (((((((q0 ^^^ (3472328296227680304 : Int64)) <<< (((-p1) * (8 : Int32)) &&& 0x3f).toInt64) * (10 : Int64)) + ((((q0 ^^^ (3472328296227680304 : Int64)) <<< (((-p1) * (8 : Int32)) &&& 0x3f).toInt64).toUInt64 >>> ((8 : Int32) &&& 0x3f).toInt64.toUInt64).toInt64)) &&& (71777214294589695 : Int64)).toUInt64 >>> ((16 : Int32) &&& 0x3f).toInt64.toUInt64).toInt64)))])
  refine own_go (fun _ => X0.ldc2Long hx hown (mvT hZ (hw _ (List.mem_of_getElem? (i := 24) rfl))) (g := (mkF m 37 #[.val (.long q0), .second, .val (.int p1), .val (.long (((((q0 ^^^ (3472328296227680304 : Int64)) <<< (((-p1) * (8 : Int32)) &&& 0x3f).toInt64) * (10 : Int64)) + ((((q0 ^^^ (3472328296227680304 : Int64)) <<< (((-p1) * (8 : Int32)) &&& 0x3f).toInt64).toUInt64 >>> ((8 : Int32) &&& 0x3f).toInt64.toUInt64).toInt64)) &&& (71777214294589695 : Int64))), .second] [(.long (((((((q0 ^^^ (3472328296227680304 : Int64)) <<< (((-p1) * (8 : Int32)) &&& 0x3f).toInt64) * (10 : Int64)) + ((((q0 ^^^ (3472328296227680304 : Int64)) <<< (((-p1) * (8 : Int32)) &&& 0x3f).toInt64).toUInt64 >>> ((8 : Int32) &&& 0x3f).toInt64.toUInt64).toInt64)) &&& (71777214294589695 : Int64)) * (100 : Int64)) + (((((((q0 ^^^ (3472328296227680304 : Int64)) <<< (((-p1) * (8 : Int32)) &&& 0x3f).toInt64) * (10 : Int64)) + ((((q0 ^^^ (3472328296227680304 : Int64)) <<< (((-p1) * (8 : Int32)) &&& 0x3f).toInt64).toUInt64 >>> ((8 : Int32) &&& 0x3f).toInt64.toUInt64).toInt64)) &&& (71777214294589695 : Int64)).toUInt64 >>> ((16 : Int32) &&& 0x3f).toInt64.toUInt64).toInt64)))])) rfl (hb hby d2_37) _) ?_
  show GG _ _ _ _ _ _ _ s₁ (mkF m 40 #[.val (.long q0), .second, .val (.int p1), .val (.long (((((q0 ^^^ (3472328296227680304 : Int64)) <<< (((-p1) * (8 : Int32)) &&& 0x3f).toInt64) * (10 : Int64)) + ((((q0 ^^^ (3472328296227680304 : Int64)) <<< (((-p1) * (8 : Int32)) &&& 0x3f).toInt64).toUInt64 >>> ((8 : Int32) &&& 0x3f).toInt64.toUInt64).toInt64)) &&& (71777214294589695 : Int64))), .second] [(.long (281470681808895 : Int64)), (.long (((((((q0 ^^^ (3472328296227680304 : Int64)) <<< (((-p1) * (8 : Int32)) &&& 0x3f).toInt64) * (10 : Int64)) + ((((q0 ^^^ (3472328296227680304 : Int64)) <<< (((-p1) * (8 : Int32)) &&& 0x3f).toInt64).toUInt64 >>> ((8 : Int32) &&& 0x3f).toInt64.toUInt64).toInt64)) &&& (71777214294589695 : Int64)) * (100 : Int64)) + (((((((q0 ^^^ (3472328296227680304 : Int64)) <<< (((-p1) * (8 : Int32)) &&& 0x3f).toInt64) * (10 : Int64)) + ((((q0 ^^^ (3472328296227680304 : Int64)) <<< (((-p1) * (8 : Int32)) &&& 0x3f).toInt64).toUInt64 >>> ((8 : Int32) &&& 0x3f).toInt64.toUInt64).toInt64)) &&& (71777214294589695 : Int64)).toUInt64 >>> ((16 : Int32) &&& 0x3f).toInt64.toUInt64).toInt64)))])
  refine own_go (fun _ => XS.land X0.here hx rfl (hb hby d2_40) rfl) ?_
  show GG _ _ _ _ _ _ _ s₁ (mkF m 41 #[.val (.long q0), .second, .val (.int p1), .val (.long (((((q0 ^^^ (3472328296227680304 : Int64)) <<< (((-p1) * (8 : Int32)) &&& 0x3f).toInt64) * (10 : Int64)) + ((((q0 ^^^ (3472328296227680304 : Int64)) <<< (((-p1) * (8 : Int32)) &&& 0x3f).toInt64).toUInt64 >>> ((8 : Int32) &&& 0x3f).toInt64.toUInt64).toInt64)) &&& (71777214294589695 : Int64))), .second] [(.long ((((((((q0 ^^^ (3472328296227680304 : Int64)) <<< (((-p1) * (8 : Int32)) &&& 0x3f).toInt64) * (10 : Int64)) + ((((q0 ^^^ (3472328296227680304 : Int64)) <<< (((-p1) * (8 : Int32)) &&& 0x3f).toInt64).toUInt64 >>> ((8 : Int32) &&& 0x3f).toInt64.toUInt64).toInt64)) &&& (71777214294589695 : Int64)) * (100 : Int64)) + (((((((q0 ^^^ (3472328296227680304 : Int64)) <<< (((-p1) * (8 : Int32)) &&& 0x3f).toInt64) * (10 : Int64)) + ((((q0 ^^^ (3472328296227680304 : Int64)) <<< (((-p1) * (8 : Int32)) &&& 0x3f).toInt64).toUInt64 >>> ((8 : Int32) &&& 0x3f).toInt64.toUInt64).toInt64)) &&& (71777214294589695 : Int64)).toUInt64 >>> ((16 : Int32) &&& 0x3f).toInt64.toUInt64).toInt64)) &&& (281470681808895 : Int64)))])
  refine own_go (fun _ => XS.lstoreN X0.here hx rfl (hb hby d2_41) rfl (l' := #[.val (.long q0), .second, .val (.int p1), .val (.long ((((((((q0 ^^^ (3472328296227680304 : Int64)) <<< (((-p1) * (8 : Int32)) &&& 0x3f).toInt64) * (10 : Int64)) + ((((q0 ^^^ (3472328296227680304 : Int64)) <<< (((-p1) * (8 : Int32)) &&& 0x3f).toInt64).toUInt64 >>> ((8 : Int32) &&& 0x3f).toInt64.toUInt64).toInt64)) &&& (71777214294589695 : Int64)) * (100 : Int64)) + (((((((q0 ^^^ (3472328296227680304 : Int64)) <<< (((-p1) * (8 : Int32)) &&& 0x3f).toInt64) * (10 : Int64)) + ((((q0 ^^^ (3472328296227680304 : Int64)) <<< (((-p1) * (8 : Int32)) &&& 0x3f).toInt64).toUInt64 >>> ((8 : Int32) &&& 0x3f).toInt64.toUInt64).toInt64)) &&& (71777214294589695 : Int64)).toUInt64 >>> ((16 : Int32) &&& 0x3f).toInt64.toUInt64).toInt64)) &&& (281470681808895 : Int64))), .second]) rfl) ?_
  show GG _ _ _ _ _ _ _ s₁ (mkF m 42 #[.val (.long q0), .second, .val (.int p1), .val (.long ((((((((q0 ^^^ (3472328296227680304 : Int64)) <<< (((-p1) * (8 : Int32)) &&& 0x3f).toInt64) * (10 : Int64)) + ((((q0 ^^^ (3472328296227680304 : Int64)) <<< (((-p1) * (8 : Int32)) &&& 0x3f).toInt64).toUInt64 >>> ((8 : Int32) &&& 0x3f).toInt64.toUInt64).toInt64)) &&& (71777214294589695 : Int64)) * (100 : Int64)) + (((((((q0 ^^^ (3472328296227680304 : Int64)) <<< (((-p1) * (8 : Int32)) &&& 0x3f).toInt64) * (10 : Int64)) + ((((q0 ^^^ (3472328296227680304 : Int64)) <<< (((-p1) * (8 : Int32)) &&& 0x3f).toInt64).toUInt64 >>> ((8 : Int32) &&& 0x3f).toInt64.toUInt64).toInt64)) &&& (71777214294589695 : Int64)).toUInt64 >>> ((16 : Int32) &&& 0x3f).toInt64.toUInt64).toInt64)) &&& (281470681808895 : Int64))), .second] [])
  refine own_go (fun _ => XS.lloadN X0.here hx rfl (hb hby d2_42) rfl) ?_
  show GG _ _ _ _ _ _ _ s₁ (mkF m 43 #[.val (.long q0), .second, .val (.int p1), .val (.long ((((((((q0 ^^^ (3472328296227680304 : Int64)) <<< (((-p1) * (8 : Int32)) &&& 0x3f).toInt64) * (10 : Int64)) + ((((q0 ^^^ (3472328296227680304 : Int64)) <<< (((-p1) * (8 : Int32)) &&& 0x3f).toInt64).toUInt64 >>> ((8 : Int32) &&& 0x3f).toInt64.toUInt64).toInt64)) &&& (71777214294589695 : Int64)) * (100 : Int64)) + (((((((q0 ^^^ (3472328296227680304 : Int64)) <<< (((-p1) * (8 : Int32)) &&& 0x3f).toInt64) * (10 : Int64)) + ((((q0 ^^^ (3472328296227680304 : Int64)) <<< (((-p1) * (8 : Int32)) &&& 0x3f).toInt64).toUInt64 >>> ((8 : Int32) &&& 0x3f).toInt64.toUInt64).toInt64)) &&& (71777214294589695 : Int64)).toUInt64 >>> ((16 : Int32) &&& 0x3f).toInt64.toUInt64).toInt64)) &&& (281470681808895 : Int64))), .second] [(.long ((((((((q0 ^^^ (3472328296227680304 : Int64)) <<< (((-p1) * (8 : Int32)) &&& 0x3f).toInt64) * (10 : Int64)) + ((((q0 ^^^ (3472328296227680304 : Int64)) <<< (((-p1) * (8 : Int32)) &&& 0x3f).toInt64).toUInt64 >>> ((8 : Int32) &&& 0x3f).toInt64.toUInt64).toInt64)) &&& (71777214294589695 : Int64)) * (100 : Int64)) + (((((((q0 ^^^ (3472328296227680304 : Int64)) <<< (((-p1) * (8 : Int32)) &&& 0x3f).toInt64) * (10 : Int64)) + ((((q0 ^^^ (3472328296227680304 : Int64)) <<< (((-p1) * (8 : Int32)) &&& 0x3f).toInt64).toUInt64 >>> ((8 : Int32) &&& 0x3f).toInt64.toUInt64).toInt64)) &&& (71777214294589695 : Int64)).toUInt64 >>> ((16 : Int32) &&& 0x3f).toInt64.toUInt64).toInt64)) &&& (281470681808895 : Int64)))])
  refine own_go (fun _ => X0.ldc2Long hx hown (mvT hZ (hw _ (List.mem_of_getElem? (i := 25) rfl))) (g := (mkF m 43 #[.val (.long q0), .second, .val (.int p1), .val (.long ((((((((q0 ^^^ (3472328296227680304 : Int64)) <<< (((-p1) * (8 : Int32)) &&& 0x3f).toInt64) * (10 : Int64)) + ((((q0 ^^^ (3472328296227680304 : Int64)) <<< (((-p1) * (8 : Int32)) &&& 0x3f).toInt64).toUInt64 >>> ((8 : Int32) &&& 0x3f).toInt64.toUInt64).toInt64)) &&& (71777214294589695 : Int64)) * (100 : Int64)) + (((((((q0 ^^^ (3472328296227680304 : Int64)) <<< (((-p1) * (8 : Int32)) &&& 0x3f).toInt64) * (10 : Int64)) + ((((q0 ^^^ (3472328296227680304 : Int64)) <<< (((-p1) * (8 : Int32)) &&& 0x3f).toInt64).toUInt64 >>> ((8 : Int32) &&& 0x3f).toInt64.toUInt64).toInt64)) &&& (71777214294589695 : Int64)).toUInt64 >>> ((16 : Int32) &&& 0x3f).toInt64.toUInt64).toInt64)) &&& (281470681808895 : Int64))), .second] [(.long ((((((((q0 ^^^ (3472328296227680304 : Int64)) <<< (((-p1) * (8 : Int32)) &&& 0x3f).toInt64) * (10 : Int64)) + ((((q0 ^^^ (3472328296227680304 : Int64)) <<< (((-p1) * (8 : Int32)) &&& 0x3f).toInt64).toUInt64 >>> ((8 : Int32) &&& 0x3f).toInt64.toUInt64).toInt64)) &&& (71777214294589695 : Int64)) * (100 : Int64)) + (((((((q0 ^^^ (3472328296227680304 : Int64)) <<< (((-p1) * (8 : Int32)) &&& 0x3f).toInt64) * (10 : Int64)) + ((((q0 ^^^ (3472328296227680304 : Int64)) <<< (((-p1) * (8 : Int32)) &&& 0x3f).toInt64).toUInt64 >>> ((8 : Int32) &&& 0x3f).toInt64.toUInt64).toInt64)) &&& (71777214294589695 : Int64)).toUInt64 >>> ((16 : Int32) &&& 0x3f).toInt64.toUInt64).toInt64)) &&& (281470681808895 : Int64)))])) rfl (hb hby d2_43) _) ?_
  show GG _ _ _ _ _ _ _ s₁ (mkF m 46 #[.val (.long q0), .second, .val (.int p1), .val (.long ((((((((q0 ^^^ (3472328296227680304 : Int64)) <<< (((-p1) * (8 : Int32)) &&& 0x3f).toInt64) * (10 : Int64)) + ((((q0 ^^^ (3472328296227680304 : Int64)) <<< (((-p1) * (8 : Int32)) &&& 0x3f).toInt64).toUInt64 >>> ((8 : Int32) &&& 0x3f).toInt64.toUInt64).toInt64)) &&& (71777214294589695 : Int64)) * (100 : Int64)) + (((((((q0 ^^^ (3472328296227680304 : Int64)) <<< (((-p1) * (8 : Int32)) &&& 0x3f).toInt64) * (10 : Int64)) + ((((q0 ^^^ (3472328296227680304 : Int64)) <<< (((-p1) * (8 : Int32)) &&& 0x3f).toInt64).toUInt64 >>> ((8 : Int32) &&& 0x3f).toInt64.toUInt64).toInt64)) &&& (71777214294589695 : Int64)).toUInt64 >>> ((16 : Int32) &&& 0x3f).toInt64.toUInt64).toInt64)) &&& (281470681808895 : Int64))), .second] [(.long (10000 : Int64)), (.long ((((((((q0 ^^^ (3472328296227680304 : Int64)) <<< (((-p1) * (8 : Int32)) &&& 0x3f).toInt64) * (10 : Int64)) + ((((q0 ^^^ (3472328296227680304 : Int64)) <<< (((-p1) * (8 : Int32)) &&& 0x3f).toInt64).toUInt64 >>> ((8 : Int32) &&& 0x3f).toInt64.toUInt64).toInt64)) &&& (71777214294589695 : Int64)) * (100 : Int64)) + (((((((q0 ^^^ (3472328296227680304 : Int64)) <<< (((-p1) * (8 : Int32)) &&& 0x3f).toInt64) * (10 : Int64)) + ((((q0 ^^^ (3472328296227680304 : Int64)) <<< (((-p1) * (8 : Int32)) &&& 0x3f).toInt64).toUInt64 >>> ((8 : Int32) &&& 0x3f).toInt64.toUInt64).toInt64)) &&& (71777214294589695 : Int64)).toUInt64 >>> ((16 : Int32) &&& 0x3f).toInt64.toUInt64).toInt64)) &&& (281470681808895 : Int64)))])
  refine own_go (fun _ => XS.lmul X0.here hx rfl (hb hby d2_46) rfl) ?_
  show GG _ _ _ _ _ _ _ s₁ (mkF m 47 #[.val (.long q0), .second, .val (.int p1), .val (.long ((((((((q0 ^^^ (3472328296227680304 : Int64)) <<< (((-p1) * (8 : Int32)) &&& 0x3f).toInt64) * (10 : Int64)) + ((((q0 ^^^ (3472328296227680304 : Int64)) <<< (((-p1) * (8 : Int32)) &&& 0x3f).toInt64).toUInt64 >>> ((8 : Int32) &&& 0x3f).toInt64.toUInt64).toInt64)) &&& (71777214294589695 : Int64)) * (100 : Int64)) + (((((((q0 ^^^ (3472328296227680304 : Int64)) <<< (((-p1) * (8 : Int32)) &&& 0x3f).toInt64) * (10 : Int64)) + ((((q0 ^^^ (3472328296227680304 : Int64)) <<< (((-p1) * (8 : Int32)) &&& 0x3f).toInt64).toUInt64 >>> ((8 : Int32) &&& 0x3f).toInt64.toUInt64).toInt64)) &&& (71777214294589695 : Int64)).toUInt64 >>> ((16 : Int32) &&& 0x3f).toInt64.toUInt64).toInt64)) &&& (281470681808895 : Int64))), .second] [(.long (((((((((q0 ^^^ (3472328296227680304 : Int64)) <<< (((-p1) * (8 : Int32)) &&& 0x3f).toInt64) * (10 : Int64)) + ((((q0 ^^^ (3472328296227680304 : Int64)) <<< (((-p1) * (8 : Int32)) &&& 0x3f).toInt64).toUInt64 >>> ((8 : Int32) &&& 0x3f).toInt64.toUInt64).toInt64)) &&& (71777214294589695 : Int64)) * (100 : Int64)) + (((((((q0 ^^^ (3472328296227680304 : Int64)) <<< (((-p1) * (8 : Int32)) &&& 0x3f).toInt64) * (10 : Int64)) + ((((q0 ^^^ (3472328296227680304 : Int64)) <<< (((-p1) * (8 : Int32)) &&& 0x3f).toInt64).toUInt64 >>> ((8 : Int32) &&& 0x3f).toInt64.toUInt64).toInt64)) &&& (71777214294589695 : Int64)).toUInt64 >>> ((16 : Int32) &&& 0x3f).toInt64.toUInt64).toInt64)) &&& (281470681808895 : Int64)) * (10000 : Int64)))])
  refine own_go (fun _ => XS.lloadN X0.here hx rfl (hb hby d2_47) rfl) ?_
  show GG _ _ _ _ _ _ _ s₁ (mkF m 48 #[.val (.long q0), .second, .val (.int p1), .val (.long ((((((((q0 ^^^ (3472328296227680304 : Int64)) <<< (((-p1) * (8 : Int32)) &&& 0x3f).toInt64) * (10 : Int64)) + ((((q0 ^^^ (3472328296227680304 : Int64)) <<< (((-p1) * (8 : Int32)) &&& 0x3f).toInt64).toUInt64 >>> ((8 : Int32) &&& 0x3f).toInt64.toUInt64).toInt64)) &&& (71777214294589695 : Int64)) * (100 : Int64)) + (((((((q0 ^^^ (3472328296227680304 : Int64)) <<< (((-p1) * (8 : Int32)) &&& 0x3f).toInt64) * (10 : Int64)) + ((((q0 ^^^ (3472328296227680304 : Int64)) <<< (((-p1) * (8 : Int32)) &&& 0x3f).toInt64).toUInt64 >>> ((8 : Int32) &&& 0x3f).toInt64.toUInt64).toInt64)) &&& (71777214294589695 : Int64)).toUInt64 >>> ((16 : Int32) &&& 0x3f).toInt64.toUInt64).toInt64)) &&& (281470681808895 : Int64))), .second] [(.long ((((((((q0 ^^^ (3472328296227680304 : Int64)) <<< (((-p1) * (8 : Int32)) &&& 0x3f).toInt64) * (10 : Int64)) + ((((q0 ^^^ (3472328296227680304 : Int64)) <<< (((-p1) * (8 : Int32)) &&& 0x3f).toInt64).toUInt64 >>> ((8 : Int32) &&& 0x3f).toInt64.toUInt64).toInt64)) &&& (71777214294589695 : Int64)) * (100 : Int64)) + (((((((q0 ^^^ (3472328296227680304 : Int64)) <<< (((-p1) * (8 : Int32)) &&& 0x3f).toInt64) * (10 : Int64)) + ((((q0 ^^^ (3472328296227680304 : Int64)) <<< (((-p1) * (8 : Int32)) &&& 0x3f).toInt64).toUInt64 >>> ((8 : Int32) &&& 0x3f).toInt64.toUInt64).toInt64)) &&& (71777214294589695 : Int64)).toUInt64 >>> ((16 : Int32) &&& 0x3f).toInt64.toUInt64).toInt64)) &&& (281470681808895 : Int64))), (.long (((((((((q0 ^^^ (3472328296227680304 : Int64)) <<< (((-p1) * (8 : Int32)) &&& 0x3f).toInt64) * (10 : Int64)) + ((((q0 ^^^ (3472328296227680304 : Int64)) <<< (((-p1) * (8 : Int32)) &&& 0x3f).toInt64).toUInt64 >>> ((8 : Int32) &&& 0x3f).toInt64.toUInt64).toInt64)) &&& (71777214294589695 : Int64)) * (100 : Int64)) + (((((((q0 ^^^ (3472328296227680304 : Int64)) <<< (((-p1) * (8 : Int32)) &&& 0x3f).toInt64) * (10 : Int64)) + ((((q0 ^^^ (3472328296227680304 : Int64)) <<< (((-p1) * (8 : Int32)) &&& 0x3f).toInt64).toUInt64 >>> ((8 : Int32) &&& 0x3f).toInt64.toUInt64).toInt64)) &&& (71777214294589695 : Int64)).toUInt64 >>> ((16 : Int32) &&& 0x3f).toInt64.toUInt64).toInt64)) &&& (281470681808895 : Int64)) * (10000 : Int64)))])
  refine own_go (fun _ => XS.bipush X0.here hx rfl (hb hby d2_48)) ?_
  show GG _ _ _ _ _ _ _ s₁ (mkF m 50 #[.val (.long q0), .second, .val (.int p1), .val (.long ((((((((q0 ^^^ (3472328296227680304 : Int64)) <<< (((-p1) * (8 : Int32)) &&& 0x3f).toInt64) * (10 : Int64)) + ((((q0 ^^^ (3472328296227680304 : Int64)) <<< (((-p1) * (8 : Int32)) &&& 0x3f).toInt64).toUInt64 >>> ((8 : Int32) &&& 0x3f).toInt64.toUInt64).toInt64)) &&& (71777214294589695 : Int64)) * (100 : Int64)) + (((((((q0 ^^^ (3472328296227680304 : Int64)) <<< (((-p1) * (8 : Int32)) &&& 0x3f).toInt64) * (10 : Int64)) + ((((q0 ^^^ (3472328296227680304 : Int64)) <<< (((-p1) * (8 : Int32)) &&& 0x3f).toInt64).toUInt64 >>> ((8 : Int32) &&& 0x3f).toInt64.toUInt64).toInt64)) &&& (71777214294589695 : Int64)).toUInt64 >>> ((16 : Int32) &&& 0x3f).toInt64.toUInt64).toInt64)) &&& (281470681808895 : Int64))), .second] [(.int (32 : Int32)), (.long ((((((((q0 ^^^ (3472328296227680304 : Int64)) <<< (((-p1) * (8 : Int32)) &&& 0x3f).toInt64) * (10 : Int64)) + ((((q0 ^^^ (3472328296227680304 : Int64)) <<< (((-p1) * (8 : Int32)) &&& 0x3f).toInt64).toUInt64 >>> ((8 : Int32) &&& 0x3f).toInt64.toUInt64).toInt64)) &&& (71777214294589695 : Int64)) * (100 : Int64)) + (((((((q0 ^^^ (3472328296227680304 : Int64)) <<< (((-p1) * (8 : Int32)) &&& 0x3f).toInt64) * (10 : Int64)) + ((((q0 ^^^ (3472328296227680304 : Int64)) <<< (((-p1) * (8 : Int32)) &&& 0x3f).toInt64).toUInt64 >>> ((8 : Int32) &&& 0x3f).toInt64.toUInt64).toInt64)) &&& (71777214294589695 : Int64)).toUInt64 >>> ((16 : Int32) &&& 0x3f).toInt64.toUInt64).toInt64)) &&& (281470681808895 : Int64))), (.long (((((((((q0 ^^^ (3472328296227680304 : Int64)) <<< (((-p1) * (8 : Int32)) &&& 0x3f).toInt64) * (10 : Int64)) + ((((q0 ^^^ (3472328296227680304 : Int64)) <<< (((-p1) * (8 : Int32)) &&& 0x3f).toInt64).toUInt64 >>> ((8 : Int32) &&& 0x3f).toInt64.toUInt64).toInt64)) &&& (71777214294589695 : Int64)) * (100 : Int64)) + (((((((q0 ^^^ (3472328296227680304 : Int64)) <<< (((-p1) * (8 : Int32)) &&& 0x3f).toInt64) * (10 : Int64)) + ((((q0 ^^^ (3472328296227680304 : Int64)) <<< (((-p1) * (8 : Int32)) &&& 0x3f).toInt64).toUInt64 >>> ((8 : Int32) &&& 0x3f).toInt64.toUInt64).toInt64)) &&& (71777214294589695 : Int64)).toUInt64 >>> ((16 : Int32) &&& 0x3f).toInt64.toUInt64).toInt64)) &&& (281470681808895 : Int64)) * (10000 : Int64)))])
  refine own_go (fun _ => XS.lushr X0.here hx rfl (hb hby d2_50) rfl) ?_
  show GG _ _ _ _ _ _ _ s₁ (mkF m 51 #[.val (.long q0), .second, .val (.int p1), .val (.long ((((((((q0 ^^^ (3472328296227680304 : Int64)) <<< (((-p1) * (8 : Int32)) &&& 0x3f).toInt64) * (10 : Int64)) + ((((q0 ^^^ (3472328296227680304 : Int64)) <<< (((-p1) * (8 : Int32)) &&& 0x3f).toInt64).toUInt64 >>> ((8 : Int32) &&& 0x3f).toInt64.toUInt64).toInt64)) &&& (71777214294589695 : Int64)) * (100 : Int64)) + (((((((q0 ^^^ (3472328296227680304 : Int64)) <<< (((-p1) * (8 : Int32)) &&& 0x3f).toInt64) * (10 : Int64)) + ((((q0 ^^^ (3472328296227680304 : Int64)) <<< (((-p1) * (8 : Int32)) &&& 0x3f).toInt64).toUInt64 >>> ((8 : Int32) &&& 0x3f).toInt64.toUInt64).toInt64)) &&& (71777214294589695 : Int64)).toUInt64 >>> ((16 : Int32) &&& 0x3f).toInt64.toUInt64).toInt64)) &&& (281470681808895 : Int64))), .second] [(.long ((((((((((q0 ^^^ (3472328296227680304 : Int64)) <<< (((-p1) * (8 : Int32)) &&& 0x3f).toInt64) * (10 : Int64)) + ((((q0 ^^^ (3472328296227680304 : Int64)) <<< (((-p1) * (8 : Int32)) &&& 0x3f).toInt64).toUInt64 >>> ((8 : Int32) &&& 0x3f).toInt64.toUInt64).toInt64)) &&& (71777214294589695 : Int64)) * (100 : Int64)) + (((((((q0 ^^^ (3472328296227680304 : Int64)) <<< (((-p1) * (8 : Int32)) &&& 0x3f).toInt64) * (10 : Int64)) + ((((q0 ^^^ (3472328296227680304 : Int64)) <<< (((-p1) * (8 : Int32)) &&& 0x3f).toInt64).toUInt64 >>> ((8 : Int32) &&& 0x3f).toInt64.toUInt64).toInt64)) &&& (71777214294589695 : Int64)).toUInt64 >>> ((16 : Int32) &&& 0x3f).toInt64.toUInt64).toInt64)) &&& (281470681808895 : Int64)).toUInt64 >>> ((32 : Int32) &&& 0x3f).toInt64.toUInt64).toInt64)), (.long (((((((((q0 ^^^ (3472328296227680304 : Int64)) <<< (((-p1) * (8 : Int32)) &&& 0x3f).toInt64) * (10 : Int64)) + ((((q0 ^^^ (3472328296227680304 : Int64)) <<< (((-p1) * (8 : Int32)) &&& 0x3f).toInt64).toUInt64 >>> ((8 : Int32) &&& 0x3f).toInt64.toUInt64).toInt64)) &&& (71777214294589695 : Int64)) * (100 : Int64)) + (((((((q0 ^^^ (3472328296227680304 : Int64)) <<< (((-p1) * (8 : Int32)) &&& 0x3f).toInt64) * (10 : Int64)) + ((((q0 ^^^ (3472328296227680304 : Int64)) <<< (((-p1) * (8 : Int32)) &&& 0x3f).toInt64).toUInt64 >>> ((8 : Int32) &&& 0x3f).toInt64.toUInt64).toInt64)) &&& (71777214294589695 : Int64)).toUInt64 >>> ((16 : Int32) &&& 0x3f).toInt64.toUInt64).toInt64)) &&& (281470681808895 : Int64)) * (10000 : Int64)))])
  refine own_go (fun _ => XS.ladd X0.here hx rfl (hb hby d2_51) rfl) ?_
  show GG _ _ _ _ _ _ _ s₁ (mkF m 52 #[.val (.long q0), .second, .val (.int p1), .val (.long ((((((((q0 ^^^ (3472328296227680304 : Int64)) <<< (((-p1) * (8 : Int32)) &&& 0x3f).toInt64) * (10 : Int64)) + ((((q0 ^^^ (3472328296227680304 : Int64)) <<< (((-p1) * (8 : Int32)) &&& 0x3f).toInt64).toUInt64 >>> ((8 : Int32) &&& 0x3f).toInt64.toUInt64).toInt64)) &&& (71777214294589695 : Int64)) * (100 : Int64)) + (((((((q0 ^^^ (3472328296227680304 : Int64)) <<< (((-p1) * (8 : Int32)) &&& 0x3f).toInt64) * (10 : Int64)) + ((((q0 ^^^ (3472328296227680304 : Int64)) <<< (((-p1) * (8 : Int32)) &&& 0x3f).toInt64).toUInt64 >>> ((8 : Int32) &&& 0x3f).toInt64.toUInt64).toInt64)) &&& (71777214294589695 : Int64)).toUInt64 >>> ((16 : Int32) &&& 0x3f).toInt64.toUInt64).toInt64)) &&& (281470681808895 : Int64))), .second] [(.long ((((((((((q0 ^^^ (3472328296227680304 : Int64)) <<< (((-p1) * (8 : Int32)) &&& 0x3f).toInt64) * (10 : Int64)) + ((((q0 ^^^ (3472328296227680304 : Int64)) <<< (((-p1) * (8 : Int32)) &&& 0x3f).toInt64).toUInt64 >>> ((8 : Int32) &&& 0x3f).toInt64.toUInt64).toInt64)) &&& (71777214294589695 : Int64)) * (100 : Int64)) + (((((((q0 ^^^ (3472328296227680304 : Int64)) <<< (((-p1) * (8 : Int32)) &&& 0x3f).toInt64) * (10 : Int64)) + ((((q0 ^^^ (3472328296227680304 : Int64)) <<< (((-p1) * (8 : Int32)) &&& 0x3f).toInt64).toUInt64 >>> ((8 : Int32) &&& 0x3f).toInt64.toUInt64).toInt64)) &&& (71777214294589695 : Int64)).toUInt64 >>> ((16 : Int32) &&& 0x3f).toInt64.toUInt64).toInt64)) &&& (281470681808895 : Int64)) * (10000 : Int64)) + ((((((((((q0 ^^^ (3472328296227680304 : Int64)) <<< (((-p1) * (8 : Int32)) &&& 0x3f).toInt64) * (10 : Int64)) + ((((q0 ^^^ (3472328296227680304 : Int64)) <<< (((-p1) * (8 : Int32)) &&& 0x3f).toInt64).toUInt64 >>> ((8 : Int32) &&& 0x3f).toInt64.toUInt64).toInt64)) &&& (71777214294589695 : Int64)) * (100 : Int64)) + (((((((q0 ^^^ (3472328296227680304 : Int64)) <<< (((-p1) * (8 : Int32)) &&& 0x3f).toInt64) * (10 : Int64)) + ((((q0 ^^^ (3472328296227680304 : Int64)) <<< (((-p1) * (8 : Int32)) &&& 0x3f).toInt64).toUInt64 >>> ((8 : Int32) &&& 0x3f).toInt64.toUInt64).toInt64)) &&& (71777214294589695 : Int64)).toUInt64 >>> ((16 : Int32) &&& 0x3f).toInt64.toUInt64).toInt64)) &&& (281470681808895 : Int64)).toUInt64 >>> ((32 : Int32) &&& 0x3f).toInt64.toUInt64).toInt64)))])
  refine own_go (fun _ => X0.ldc2Long hx hown (mvT hZ (hw _ (List.mem_of_getElem? (i := 26) rfl))) (g := (mkF m 52 #[.val (.long q0), .second, .val (.int p1), .val (.long ((((((((q0 ^^^ (3472328296227680304 : Int64)) <<< (((-p1) * (8 : Int32)) &&& 0x3f).toInt64) * (10 : Int64)) + ((((q0 ^^^ (3472328296227680304 : Int64)) <<< (((-p1) * (8 : Int32)) &&& 0x3f).toInt64).toUInt64 >>> ((8 : Int32) &&& 0x3f).toInt64.toUInt64).toInt64)) &&& (71777214294589695 : Int64)) * (100 : Int64)) + (((((((q0 ^^^ (3472328296227680304 : Int64)) <<< (((-p1) * (8 : Int32)) &&& 0x3f).toInt64) * (10 : Int64)) + ((((q0 ^^^ (3472328296227680304 : Int64)) <<< (((-p1) * (8 : Int32)) &&& 0x3f).toInt64).toUInt64 >>> ((8 : Int32) &&& 0x3f).toInt64.toUInt64).toInt64)) &&& (71777214294589695 : Int64)).toUInt64 >>> ((16 : Int32) &&& 0x3f).toInt64.toUInt64).toInt64)) &&& (281470681808895 : Int64))), .second] [(.long ((((((((((q0 ^^^ (3472328296227680304 : Int64)) <<< (((-p1) * (8 : Int32)) &&& 0x3f).toInt64) * (10 : Int64)) + ((((q0 ^^^ (3472328296227680304 : Int64)) <<< (((-p1) * (8 : Int32)) &&& 0x3f).toInt64).toUInt64 >>> ((8 : Int32) &&& 0x3f).toInt64.toUInt64).toInt64)) &&& (71777214294589695 : Int64)) * (100 : Int64)) + (((((((q0 ^^^ (3472328296227680304 : Int64)) <<< (((-p1) * (8 : Int32)) &&& 0x3f).toInt64) * (10 : Int64)) + ((((q0 ^^^ (3472328296227680304 : Int64)) <<< (((-p1) * (8 : Int32)) &&& 0x3f).toInt64).toUInt64 >>> ((8 : Int32) &&& 0x3f).toInt64.toUInt64).toInt64)) &&& (71777214294589695 : Int64)).toUInt64 >>> ((16 : Int32) &&& 0x3f).toInt64.toUInt64).toInt64)) &&& (281470681808895 : Int64)) * (10000 : Int64)) + ((((((((((q0 ^^^ (3472328296227680304 : Int64)) <<< (((-p1) * (8 : Int32)) &&& 0x3f).toInt64) * (10 : Int64)) + ((((q0 ^^^ (3472328296227680304 : Int64)) <<< (((-p1) * (8 : Int32)) &&& 0x3f).toInt64).toUInt64 >>> ((8 : Int32) &&& 0x3f).toInt64.toUInt64).toInt64)) &&& (71777214294589695 : Int64)) * (100 : Int64)) + (((((((q0 ^^^ (3472328296227680304 : Int64)) <<< (((-p1) * (8 : Int32)) &&& 0x3f).toInt64) * (10 : Int64)) + ((((q0 ^^^ (3472328296227680304 : Int64)) <<< (((-p1) * (8 : Int32)) &&& 0x3f).toInt64).toUInt64 >>> ((8 : Int32) &&& 0x3f).toInt64.toUInt64).toInt64)) &&& (71777214294589695 : Int64)).toUInt64 >>> ((16 : Int32) &&& 0x3f).toInt64.toUInt64).toInt64)) &&& (281470681808895 : Int64)).toUInt64 >>> ((32 : Int32) &&& 0x3f).toInt64.toUInt64).toInt64)))])) rfl (hb hby d2_52) _) ?_
  show GG _ _ _ _ _ _ _ s₁ (mkF m 55 #[.val (.long q0), .second, .val (.int p1), .val (.long ((((((((q0 ^^^ (3472328296227680304 : Int64)) <<< (((-p1) * (8 : Int32)) &&& 0x3f).toInt64) * (10 : Int64)) + ((((q0 ^^^ (3472328296227680304 : Int64)) <<< (((-p1) * (8 : Int32)) &&& 0x3f).toInt64).toUInt64 >>> ((8 : Int32) &&& 0x3f).toInt64.toUInt64).toInt64)) &&& (71777214294589695 : Int64)) * (100 : Int64)) + (((((((q0 ^^^ (3472328296227680304 : Int64)) <<< (((-p1) * (8 : Int32)) &&& 0x3f).toInt64) * (10 : Int64)) + ((((q0 ^^^ (3472328296227680304 : Int64)) <<< (((-p1) * (8 : Int32)) &&& 0x3f).toInt64).toUInt64 >>> ((8 : Int32) &&& 0x3f).toInt64.toUInt64).toInt64)) &&& (71777214294589695 : Int64)).toUInt64 >>> ((16 : Int32) &&& 0x3f).toInt64.toUInt64).toInt64)) &&& (281470681808895 : Int64))), .second] [(.long (4294967295 : Int64)), (.long ((((((((((q0 ^^^ (3472328296227680304 : Int64)) <<< (((-p1) * (8 : Int32)) &&& 0x3f).toInt64) * (10 : Int64)) + ((((q0 ^^^ (3472328296227680304 : Int64)) <<< (((-p1) * (8 : Int32)) &&& 0x3f).toInt64).toUInt64 >>> ((8 : Int32) &&& 0x3f).toInt64.toUInt64).toInt64)) &&& (71777214294589695 : Int64)) * (100 : Int64)) + (((((((q0 ^^^ (3472328296227680304 : Int64)) <<< (((-p1) * (8 : Int32)) &&& 0x3f).toInt64) * (10 : Int64)) + ((((q0 ^^^ (3472328296227680304 : Int64)) <<< (((-p1) * (8 : Int32)) &&& 0x3f).toInt64).toUInt64 >>> ((8 : Int32) &&& 0x3f).toInt64.toUInt64).toInt64)) &&& (71777214294589695 : Int64)).toUInt64 >>> ((16 : Int32) &&& 0x3f).toInt64.toUInt64).toInt64)) &&& (281470681808895 : Int64)) * (10000 : Int64)) + ((((((((((q0 ^^^ (3472328296227680304 : Int64)) <<< (((-p1) * (8 : Int32)) &&& 0x3f).toInt64) * (10 : Int64)) + ((((q0 ^^^ (3472328296227680304 : Int64)) <<< (((-p1) * (8 : Int32)) &&& 0x3f).toInt64).toUInt64 >>> ((8 : Int32) &&& 0x3f).toInt64.toUInt64).toInt64)) &&& (71777214294589695 : Int64)) * (100 : Int64)) + (((((((q0 ^^^ (3472328296227680304 : Int64)) <<< (((-p1) * (8 : Int32)) &&& 0x3f).toInt64) * (10 : Int64)) + ((((q0 ^^^ (3472328296227680304 : Int64)) <<< (((-p1) * (8 : Int32)) &&& 0x3f).toInt64).toUInt64 >>> ((8 : Int32) &&& 0x3f).toInt64.toUInt64).toInt64)) &&& (71777214294589695 : Int64)).toUInt64 >>> ((16 : Int32) &&& 0x3f).toInt64.toUInt64).toInt64)) &&& (281470681808895 : Int64)).toUInt64 >>> ((32 : Int32) &&& 0x3f).toInt64.toUInt64).toInt64)))])
  refine own_go (fun _ => XS.land X0.here hx rfl (hb hby d2_55) rfl) ?_
  show GG _ _ _ _ _ _ _ s₁ (mkF m 56 #[.val (.long q0), .second, .val (.int p1), .val (.long ((((((((q0 ^^^ (3472328296227680304 : Int64)) <<< (((-p1) * (8 : Int32)) &&& 0x3f).toInt64) * (10 : Int64)) + ((((q0 ^^^ (3472328296227680304 : Int64)) <<< (((-p1) * (8 : Int32)) &&& 0x3f).toInt64).toUInt64 >>> ((8 : Int32) &&& 0x3f).toInt64.toUInt64).toInt64)) &&& (71777214294589695 : Int64)) * (100 : Int64)) + (((((((q0 ^^^ (3472328296227680304 : Int64)) <<< (((-p1) * (8 : Int32)) &&& 0x3f).toInt64) * (10 : Int64)) + ((((q0 ^^^ (3472328296227680304 : Int64)) <<< (((-p1) * (8 : Int32)) &&& 0x3f).toInt64).toUInt64 >>> ((8 : Int32) &&& 0x3f).toInt64.toUInt64).toInt64)) &&& (71777214294589695 : Int64)).toUInt64 >>> ((16 : Int32) &&& 0x3f).toInt64.toUInt64).toInt64)) &&& (281470681808895 : Int64))), .second] [(.long (((((((((((q0 ^^^ (3472328296227680304 : Int64)) <<< (((-p1) * (8 : Int32)) &&& 0x3f).toInt64) * (10 : Int64)) + ((((q0 ^^^ (3472328296227680304 : Int64)) <<< (((-p1) * (8 : Int32)) &&& 0x3f).toInt64).toUInt64 >>> ((8 : Int32) &&& 0x3f).toInt64.toUInt64).toInt64)) &&& (71777214294589695 : Int64)) * (100 : Int64)) + (((((((q0 ^^^ (3472328296227680304 : Int64)) <<< (((-p1) * (8 : Int32)) &&& 0x3f).toInt64) * (10 : Int64)) + ((((q0 ^^^ (3472328296227680304 : Int64)) <<< (((-p1) * (8 : Int32)) &&& 0x3f).toInt64).toUInt64 >>> ((8 : Int32) &&& 0x3f).toInt64.toUInt64).toInt64)) &&& (71777214294589695 : Int64)).toUInt64 >>> ((16 : Int32) &&& 0x3f).toInt64.toUInt64).toInt64)) &&& (281470681808895 : Int64)) * (10000 : Int64)) + ((((((((((q0 ^^^ (3472328296227680304 : Int64)) <<< (((-p1) * (8 : Int32)) &&& 0x3f).toInt64) * (10 : Int64)) + ((((q0 ^^^ (3472328296227680304 : Int64)) <<< (((-p1) * (8 : Int32)) &&& 0x3f).toInt64).toUInt64 >>> ((8 : Int32) &&& 0x3f).toInt64.toUInt64).toInt64)) &&& (71777214294589695 : Int64)) * (100 : Int64)) + (((((((q0 ^^^ (3472328296227680304 : Int64)) <<< (((-p1) * (8 : Int32)) &&& 0x3f).toInt64) * (10 : Int64)) + ((((q0 ^^^ (3472328296227680304 : Int64)) <<< (((-p1) * (8 : Int32)) &&& 0x3f).toInt64).toUInt64 >>> ((8 : Int32) &&& 0x3f).toInt64.toUInt64).toInt64)) &&& (71777214294589695 : Int64)).toUInt64 >>> ((16 : Int32) &&& 0x3f).toInt64.toUInt64).toInt64)) &&& (281470681808895 : Int64)).toUInt64 >>> ((32 : Int32) &&& 0x3f).toInt64.toUInt64).toInt64)) &&& (4294967295 : Int64)))])
  refine own_ret X0 hx hlk (t := .long) (w := (.long (((((((((((q0 ^^^ (3472328296227680304 : Int64)) <<< (((-p1) * (8 : Int32)) &&& 0x3f).toInt64) * (10 : Int64)) + ((((q0 ^^^ (3472328296227680304 : Int64)) <<< (((-p1) * (8 : Int32)) &&& 0x3f).toInt64).toUInt64 >>> ((8 : Int32) &&& 0x3f).toInt64.toUInt64).toInt64)) &&& (71777214294589695 : Int64)) * (100 : Int64)) + (((((((q0 ^^^ (3472328296227680304 : Int64)) <<< (((-p1) * (8 : Int32)) &&& 0x3f).toInt64) * (10 : Int64)) + ((((q0 ^^^ (3472328296227680304 : Int64)) <<< (((-p1) * (8 : Int32)) &&& 0x3f).toInt64).toUInt64 >>> ((8 : Int32) &&& 0x3f).toInt64.toUInt64).toInt64)) &&& (71777214294589695 : Int64)).toUInt64 >>> ((16 : Int32) &&& 0x3f).toInt64.toUInt64).toInt64)) &&& (281470681808895 : Int64)) * (10000 : Int64)) + ((((((((((q0 ^^^ (3472328296227680304 : Int64)) <<< (((-p1) * (8 : Int32)) &&& 0x3f).toInt64) * (10 : Int64)) + ((((q0 ^^^ (3472328296227680304 : Int64)) <<< (((-p1) * (8 : Int32)) &&& 0x3f).toInt64).toUInt64 >>> ((8 : Int32) &&& 0x3f).toInt64.toUInt64).toInt64)) &&& (71777214294589695 : Int64)) * (100 : Int64)) + (((((((q0 ^^^ (3472328296227680304 : Int64)) <<< (((-p1) * (8 : Int32)) &&& 0x3f).toInt64) * (10 : Int64)) + ((((q0 ^^^ (3472328296227680304 : Int64)) <<< (((-p1) * (8 : Int32)) &&& 0x3f).toInt64).toUInt64 >>> ((8 : Int32) &&& 0x3f).toInt64.toUInt64).toInt64)) &&& (71777214294589695 : Int64)).toUInt64 >>> ((16 : Int32) &&& 0x3f).toInt64.toUInt64).toInt64)) &&& (281470681808895 : Int64)).toUInt64 >>> ((32 : Int32) &&& 0x3f).toInt64.toUInt64).toInt64)) &&& (4294967295 : Int64)))) Bd.returns rfl (Or.inr (Or.inl ⟨rfl, rfl, _, rfl⟩)) (hb hby d2_56) (by decide) (by decide) ?_
  show Q2 Z q0 p1 h0 n0 (some (.long (((((((((((q0 ^^^ (3472328296227680304 : Int64)) <<< (((-p1) * (8 : Int32)) &&& 0x3f).toInt64) * (10 : Int64)) + ((((q0 ^^^ (3472328296227680304 : Int64)) <<< (((-p1) * (8 : Int32)) &&& 0x3f).toInt64).toUInt64 >>> ((8 : Int32) &&& 0x3f).toInt64.toUInt64).toInt64)) &&& (71777214294589695 : Int64)) * (100 : Int64)) + (((((((q0 ^^^ (3472328296227680304 : Int64)) <<< (((-p1) * (8 : Int32)) &&& 0x3f).toInt64) * (10 : Int64)) + ((((q0 ^^^ (3472328296227680304 : Int64)) <<< (((-p1) * (8 : Int32)) &&& 0x3f).toInt64).toUInt64 >>> ((8 : Int32) &&& 0x3f).toInt64.toUInt64).toInt64)) &&& (71777214294589695 : Int64)).toUInt64 >>> ((16 : Int32) &&& 0x3f).toInt64.toUInt64).toInt64)) &&& (281470681808895 : Int64)) * (10000 : Int64)) + ((((((((((q0 ^^^ (3472328296227680304 : Int64)) <<< (((-p1) * (8 : Int32)) &&& 0x3f).toInt64) * (10 : Int64)) + ((((q0 ^^^ (3472328296227680304 : Int64)) <<< (((-p1) * (8 : Int32)) &&& 0x3f).toInt64).toUInt64 >>> ((8 : Int32) &&& 0x3f).toInt64.toUInt64).toInt64)) &&& (71777214294589695 : Int64)) * (100 : Int64)) + (((((((q0 ^^^ (3472328296227680304 : Int64)) <<< (((-p1) * (8 : Int32)) &&& 0x3f).toInt64) * (10 : Int64)) + ((((q0 ^^^ (3472328296227680304 : Int64)) <<< (((-p1) * (8 : Int32)) &&& 0x3f).toInt64).toUInt64 >>> ((8 : Int32) &&& 0x3f).toInt64.toUInt64).toInt64)) &&& (71777214294589695 : Int64)).toUInt64 >>> ((16 : Int32) &&& 0x3f).toInt64.toUInt64).toInt64)) &&& (281470681808895 : Int64)).toUInt64 >>> ((32 : Int32) &&& 0x3f).toInt64.toUInt64).toInt64)) &&& (4294967295 : Int64)))) s₁.heap _
  rw [e0]
  exact ⟨rfl, N0, rfl⟩
theorem own_dby (x q : Int64) (i : Int32) (Q : Int) (k : Nat) (hx : 0 ≤ x.toInt) (hq : q.toInt = Q) (hQ : 0 < Q) (hq1 : q ≠ -1) (hi : ((8 : Int32) * i).toBitVec.toNat % 64 = k) (hk : k ≤ 56) : (dby x q i).toInt = (48 + x.toInt / Q % 10) * (2 ^ k : Nat) := by
  have h1 := (c_ldiv x q Q hq hq1).1 hx
  have h0 : 0 ≤ (x / q).toInt := by rw [h1]; exact Int.ediv_nonneg hx (Int.le_of_lt hQ)
  have h2 := (c_lrem (x / q) 10 10 (by decide +kernel)).1 h0
  rw [h1] at h2
  have h3 := c_ladd 48 ((x / q) - ((x / q) / (10 : Int64)) * (10 : Int64))
  have r3 := rng64 ((48 : Int64) + ((x / q) - ((x / q) / (10 : Int64)) * (10 : Int64)))
  have h4 := c_lshl ((48 : Int64) + ((x / q) - ((x / q) / (10 : Int64)) * (10 : Int64))) ((8 : Int32) * i) k hi
  have r4 := rng64 (dby x q i)
  unfold dby at *
  rw [show (48 : Int64).toInt = 48 from by decide +kernel, h2] at h3
  generalize x.toInt / Q = t at *
  have h5 : ((48 : Int64) + ((x / q) - ((x / q) / (10 : Int64)) * (10 : Int64))).toInt = 48 + t % 10 := by omega
  rw [h5] at h4
  have hK : (2 ^ k : Nat) ≤ 2 ^ 56 := Nat.pow_le_pow_right (by decide +kernel) hk
  have hK0 : 0 < 2 ^ k := Nat.two_pow_pos k
  generalize (2 ^ k : Nat) = K at *
  have h6 : 0 ≤ (48 + t % 10) * (K : Int) := Int.mul_nonneg (by omega) (by omega)
  have h7 : (48 + t % 10) * (K : Int) ≤ 57 * (K : Int) := Int.mul_le_mul_of_nonneg_right (by omega) (by omega)
  generalize (48 + t % 10) * (K : Int) = m at *
  omega
theorem own_orS (y z : Int64) (k : Nat) (hk : k ≤ 63) (P : Int) (hP : P = (2 ^ k : Nat)) (h1 : 0 ≤ y.toInt) (h2 : y.toInt < P) (h3 : z.toInt % P = 0) (h4 : 0 ≤ z.toInt) (h5 : y.toInt + z.toInt < 9223372036854775808) : (y ||| z).toInt = y.toInt + z.toInt := by
  have o := c_orL' y z k hk P hP h3 h1 h2
  have q := rng64 (y ||| z)
  generalize (y ||| z).toInt = t at *
  generalize y.toInt = u at *
  generalize z.toInt = w at *
  clear h3
  omega
theorem own_modeq (a p : Nat) (h : ((a : Int) - p) % 18446744073709551616 = 0) (ha : a < 18446744073709551616) : a = p % 18446744073709551616 := by omega
theorem own_sl2 (x : Int64) (q : Int32) (k : Nat) (hk : q.toBitVec.toNat % 64 = k) : un (x <<< (q &&& 0x3f).toInt64) = (un x * 2 ^ k) % 18446744073709551616 := by
  refine own_modeq _ _ ?_ (x <<< (q &&& 0x3f).toInt64).toBitVec.isLt
  rw [Int.natCast_mul]; exact own_sl x q k hk
theorem own_b10 {a b : Nat} (ha : a ≤ 9) (hb : b ≤ 9) : 10 * a + b ≤ 99 := by omega
theorem own_b100 {a b : Nat} (ha : a ≤ 99) (hb : b ≤ 99) : 100 * a + b ≤ 9999 := by omega
theorem own_dd (n m : Nat) : n / m = 10 * (n / (m * 10)) + n / m % 10 := by
  rw [← Nat.div_div_eq_div_mul]; omega
def wrd (x : Int64) : Int64 := ((((((((dby x 10000000 0) ||| (dby x 1000000 1)) ||| (dby x 100000 2)) ||| (dby x 10000 3)) ||| (dby x 1000 4)) ||| (dby x 100 5)) ||| (dby x 10 6)) ||| (dby x 1 7))
theorem own_wrd (x : Int64) (hx : 0 ≤ x.toInt) : (wrd x).toInt = 48 + x.toInt / 10000000 % 10 + 256 * (48 + x.toInt / 1000000 % 10 + 256 * (48 + x.toInt / 100000 % 10 + 256 * (48 + x.toInt / 10000 % 10 + 256 * (48 + x.toInt / 1000 % 10 + 256 * (48 + x.toInt / 100 % 10 + 256 * (48 + x.toInt / 10 % 10 + 256 * (48 + x.toInt % 10))))))) := by
  have b0 := own_dby x 10000000 0 10000000 0 hx (by decide +kernel) (by decide +kernel) (by decide +kernel) (by decide +kernel) (by decide +kernel)
  have b1 := own_dby x 1000000 1 1000000 8 hx (by decide +kernel) (by decide +kernel) (by decide +kernel) (by decide +kernel) (by decide +kernel)
  have b2 := own_dby x 100000 2 100000 16 hx (by decide +kernel) (by decide +kernel) (by decide +kernel) (by decide +kernel) (by decide +kernel)
  have b3 := own_dby x 10000 3 10000 24 hx (by decide +kernel) (by decide +kernel) (by decide +kernel) (by decide +kernel) (by decide +kernel)
  have b4 := own_dby x 1000 4 1000 32 hx (by decide +kernel) (by decide +kernel) (by decide +kernel) (by decide +kernel) (by decide +kernel)
  have b5 := own_dby x 100 5 100 40 hx (by decide +kernel) (by decide +kernel) (by decide +kernel) (by decide +kernel) (by decide +kernel)
  have b6 := own_dby x 10 6 10 48 hx (by decide +kernel) (by decide +kernel) (by decide +kernel) (by decide +kernel) (by decide +kernel)
  have b7 := own_dby x 1 7 1 56 hx (by decide +kernel) (by decide +kernel) (by decide +kernel) (by decide +kernel) (by decide +kernel)
  rw [Int.ediv_one] at b7
  unfold wrd
  generalize dby x 10000000 0 = y0 at *
  generalize dby x 1000000 1 = y1 at *
  generalize dby x 100000 2 = y2 at *
  generalize dby x 10000 3 = y3 at *
  generalize dby x 1000 4 = y4 at *
  generalize dby x 100 5 = y5 at *
  generalize dby x 10 6 = y6 at *
  generalize dby x 1 7 = y7 at *
  have m0 : 0 ≤ x.toInt / 10000000 % 10 ∧ x.toInt / 10000000 % 10 ≤ 9 := by omega
  have m1 : 0 ≤ x.toInt / 1000000 % 10 ∧ x.toInt / 1000000 % 10 ≤ 9 := by omega
  have m2 : 0 ≤ x.toInt / 100000 % 10 ∧ x.toInt / 100000 % 10 ≤ 9 := by omega
  have m3 : 0 ≤ x.toInt / 10000 % 10 ∧ x.toInt / 10000 % 10 ≤ 9 := by omega
  have m4 : 0 ≤ x.toInt / 1000 % 10 ∧ x.toInt / 1000 % 10 ≤ 9 := by omega
  have m5 : 0 ≤ x.toInt / 100 % 10 ∧ x.toInt / 100 % 10 ≤ 9 := by omega
  have m6 : 0 ≤ x.toInt / 10 % 10 ∧ x.toInt / 10 % 10 ≤ 9 := by omega
  have m7 : 0 ≤ x.toInt % 10 ∧ x.toInt % 10 ≤ 9 := by omega
  generalize x.toInt / 10000000 % 10 = d0 at *
  generalize x.toInt / 1000000 % 10 = d1 at *
  generalize x.toInt / 100000 % 10 = d2 at *
  generalize x.toInt / 10000 % 10 = d3 at *
  generalize x.toInt / 1000 % 10 = d4 at *
  generalize x.toInt / 100 % 10 = d5 at *
  generalize x.toInt / 10 % 10 = d6 at *
  generalize x.toInt % 10 = d7 at *
  have e1 : (y0 ||| y1).toInt = (48 + d0) * 1+(48 + d1) * 256 := by rw [own_orS y0 y1 8 (by decide +kernel) 256 (by decide +kernel) (by omega) (by omega) (by omega) (by omega) (by omega)]; omega
  generalize (y0 ||| y1) = z1 at *
  clear b1 b0
  have e2 : (z1 ||| y2).toInt = (48 + d0) * 1+(48 + d1) * 256+(48 + d2) * 65536 := by rw [own_orS z1 y2 16 (by decide +kernel) 65536 (by decide +kernel) (by omega) (by omega) (by omega) (by omega) (by omega)]; omega
  generalize (z1 ||| y2) = z2 at *
  clear b2 e1
  have e3 : (z2 ||| y3).toInt = (48 + d0) * 1+(48 + d1) * 256+(48 + d2) * 65536+(48 + d3) * 16777216 := by rw [own_orS z2 y3 24 (by decide +kernel) 16777216 (by decide +kernel) (by omega) (by omega) (by omega) (by omega) (by omega)]; omega
  generalize (z2 ||| y3) = z3 at *
  clear b3 e2
  have e4 : (z3 ||| y4).toInt = (48 + d0) * 1+(48 + d1) * 256+(48 + d2) * 65536+(48 + d3) * 16777216+(48 + d4) * 4294967296 := by rw [own_orS z3 y4 32 (by decide +kernel) 4294967296 (by decide +kernel) (by omega) (by omega) (by omega) (by omega) (by omega)]; omega
  generalize (z3 ||| y4) = z4 at *
  clear b4 e3
  have e5 : (z4 ||| y5).toInt = (48 + d0) * 1+(48 + d1) * 256+(48 + d2) * 65536+(48 + d3) * 16777216+(48 + d4) * 4294967296+(48 + d5) * 1099511627776 := by rw [own_orS z4 y5 40 (by decide +kernel) 1099511627776 (by decide +kernel) (by omega) (by omega) (by omega) (by omega) (by omega)]; omega
  generalize (z4 ||| y5) = z5 at *
  clear b5 e4
  have e6 : (z5 ||| y6).toInt = (48 + d0) * 1+(48 + d1) * 256+(48 + d2) * 65536+(48 + d3) * 16777216+(48 + d4) * 4294967296+(48 + d5) * 1099511627776+(48 + d6) * 281474976710656 := by rw [own_orS z5 y6 48 (by decide +kernel) 281474976710656 (by decide +kernel) (by omega) (by omega) (by omega) (by omega) (by omega)]; omega
  generalize (z5 ||| y6) = z6 at *
  clear b6 e5
  have e7 : (z6 ||| y7).toInt = (48 + d0) * 1+(48 + d1) * 256+(48 + d2) * 65536+(48 + d3) * 16777216+(48 + d4) * 4294967296+(48 + d5) * 1099511627776+(48 + d6) * 281474976710656+(48 + d7) * 72057594037927936 := by rw [own_orS z6 y7 56 (by decide +kernel) 72057594037927936 (by decide +kernel) (by omega) (by omega) (by omega) (by omega) (by omega)]; omega
  generalize (z6 ||| y7) = z7 at *
  clear b7 e6
  rw [e7]; clear e7; omega
theorem own_wd (x : Int64) (hx : 0 ≤ x.toInt) : un (wrd x) = 48 + x.toInt.toNat / 10000000 % 10 + 256 * (48 + x.toInt.toNat / 1000000 % 10 + 256 * (48 + x.toInt.toNat / 100000 % 10 + 256 * (48 + x.toInt.toNat / 10000 % 10 + 256 * (48 + x.toInt.toNat / 1000 % 10 + 256 * (48 + x.toInt.toNat / 100 % 10 + 256 * (48 + x.toInt.toNat / 10 % 10 + 256 * (48 + x.toInt.toNat % 10))))))) := by
  have h := own_wrd x hx
  have h1 := own_un (wrd x)
  rw [h] at h1
  obtain ⟨n, hn⟩ : ∃ n : Nat, x.toInt = n := ⟨x.toInt.toNat, (Int.toNat_of_nonneg hx).symm⟩
  rw [hn] at h1 ⊢
  rw [Int.toNat_natCast]
  have k0 : (n : Int) / 10000000 % 10 = ((n / 10000000 % 10 : Nat) : Int) := rfl
  have k1 : (n : Int) / 1000000 % 10 = ((n / 1000000 % 10 : Nat) : Int) := rfl
  have k2 : (n : Int) / 100000 % 10 = ((n / 100000 % 10 : Nat) : Int) := rfl
  have k3 : (n : Int) / 10000 % 10 = ((n / 10000 % 10 : Nat) : Int) := rfl
  have k4 : (n : Int) / 1000 % 10 = ((n / 1000 % 10 : Nat) : Int) := rfl
  have k5 : (n : Int) / 100 % 10 = ((n / 100 % 10 : Nat) : Int) := rfl
  have k6 : (n : Int) / 10 % 10 = ((n / 10 % 10 : Nat) : Int) := rfl
  have k7 : (n : Int) % 10 = ((n % 10 : Nat) : Int) := rfl
  rw [k0, k1, k2, k3, k4, k5, k6, k7] at h1
  have m0 : n / 10000000 % 10 < 10 := Nat.mod_lt _ (by decide)
  have m1 : n / 1000000 % 10 < 10 := Nat.mod_lt _ (by decide)
  have m2 : n / 100000 % 10 < 10 := Nat.mod_lt _ (by decide)
  have m3 : n / 10000 % 10 < 10 := Nat.mod_lt _ (by decide)
  have m4 : n / 1000 % 10 < 10 := Nat.mod_lt _ (by decide)
  have m5 : n / 100 % 10 < 10 := Nat.mod_lt _ (by decide)
  have m6 : n / 10 % 10 < 10 := Nat.mod_lt _ (by decide)
  have m7 : n % 10 < 10 := Nat.mod_lt _ (by decide)
  clear k0 k1 k2 k3 k4 k5 k6 k7 h hx hn
  generalize n / 10000000 % 10 = d0 at *
  generalize n / 1000000 % 10 = d1 at *
  generalize n / 100000 % 10 = d2 at *
  generalize n / 10000 % 10 = d3 at *
  generalize n / 1000 % 10 = d4 at *
  generalize n / 100 % 10 = d5 at *
  generalize n / 10 % 10 = d6 at *
  generalize n % 10 = d7 at *
  rw [Int.emod_eq_of_lt (by omega) (by omega)] at h1
  omega
theorem own_fin1 (x J : Int64) (hx : 0 ≤ x.toInt) (hx2 : x.toInt < 100000000) : vof (((wrd x) &&& (((1 : Int64) <<< ((8 : Int32) &&& 0x3f).toInt64) - (1 : Int64))) ||| (J &&& ((((1 : Int64) <<< ((8 : Int32) &&& 0x3f).toInt64) - (1 : Int64)) ^^^ (-1 : Int64)))) (1 : Int32) = x / (10000000 : Int64) := by
  have hw := own_wd x hx
  obtain ⟨n, hn⟩ : ∃ n : Nat, x.toInt = n := ⟨x.toInt.toNat, (Int.toNat_of_nonneg hx).symm⟩
  rw [hn, Int.toNat_natCast] at hw
  have hn8 : n < 100000000 := by clear hw; omega
  obtain ⟨d0, h0⟩ : ∃ d, d = n / 10000000 % 10 := ⟨_, rfl⟩
  obtain ⟨d1, h1⟩ : ∃ d, d = n / 1000000 % 10 := ⟨_, rfl⟩
  obtain ⟨d2, h2⟩ : ∃ d, d = n / 100000 % 10 := ⟨_, rfl⟩
  obtain ⟨d3, h3⟩ : ∃ d, d = n / 10000 % 10 := ⟨_, rfl⟩
  obtain ⟨d4, h4⟩ : ∃ d, d = n / 1000 % 10 := ⟨_, rfl⟩
  obtain ⟨d5, h5⟩ : ∃ d, d = n / 100 % 10 := ⟨_, rfl⟩
  obtain ⟨d6, h6⟩ : ∃ d, d = n / 10 % 10 := ⟨_, rfl⟩
  obtain ⟨d7, h7⟩ : ∃ d, d = n % 10 := ⟨_, rfl⟩
  rw [← h0, ← h1, ← h2, ← h3, ← h4, ← h5, ← h6, ← h7] at hw
  have g0 : d0 ≤ 9 := by rw [h0]; exact Nat.le_of_lt_succ (Nat.mod_lt _ (by decide))
  have g1 : d1 ≤ 9 := by rw [h1]; exact Nat.le_of_lt_succ (Nat.mod_lt _ (by decide))
  have g2 : d2 ≤ 9 := by rw [h2]; exact Nat.le_of_lt_succ (Nat.mod_lt _ (by decide))
  have g3 : d3 ≤ 9 := by rw [h3]; exact Nat.le_of_lt_succ (Nat.mod_lt _ (by decide))
  have g4 : d4 ≤ 9 := by rw [h4]; exact Nat.le_of_lt_succ (Nat.mod_lt _ (by decide))
  have g5 : d5 ≤ 9 := by rw [h5]; exact Nat.le_of_lt_succ (Nat.mod_lt _ (by decide))
  have g6 : d6 ≤ 9 := by rw [h6]; exact Nat.le_of_lt_succ (Nat.mod_lt _ (by decide))
  have g7 : d7 ≤ 9 := by rw [h7]; exact Nat.le_of_lt_succ (Nat.mod_lt _ (by decide))
  have wx := own_wx (wrd x) d0 d1 d2 d3 d4 d5 d6 d7 g0 g1 g2 g3 g4 g5 g6 g7 hw
  have in1 := own_in1 (wrd x) J (((1 : Int64) <<< ((8 : Int32) &&& 0x3f).toInt64) - (1 : Int64)) ((((1 : Int64) <<< ((8 : Int32) &&& 0x3f).toInt64) - (1 : Int64)) ^^^ (-1 : Int64)) 8 (by decide +kernel) (by decide +kernel)
  rw [wx] at in1
  unfold vof
  generalize (((wrd x) &&& (((1 : Int64) <<< ((8 : Int32) &&& 0x3f).toInt64) - (1 : Int64))) ||| (J &&& ((((1 : Int64) <<< ((8 : Int32) &&& 0x3f).toInt64) - (1 : Int64)) ^^^ (-1 : Int64)))) ^^^ (3472328296227680304 : Int64) = D at *
  have sl := own_sl2 D ((-(1 : Int32)) * (8 : Int32)) 56 (by decide +kernel)
  generalize D <<< (((-(1 : Int32)) * (8 : Int32)) &&& 0x3f).toInt64 = V at *
  have hVl : un V < 18446744073709551616 := V.toBitVec.isLt
  have hr : (d0 + 256 * (d1 + 256 * (d2 + 256 * (d3 + 256 * (d4 + 256 * (d5 + 256 * (d6 + 256 * d7))))))) % 256 = d0 := by
    clear in1 sl hVl wx hw h0 h1 h2 h3 h4 h5 h6 h7
    omega
  rw [show (2 : Nat) ^ 8 = 256 from by decide +kernel, hr] at in1
  have hV0 : un V = (d0) * 72057594037927936 := by
    rw [sl, show (18446744073709551616 : Nat) = 256 * 72057594037927936 from by decide +kernel, show (2 : Nat) ^ 56 = 72057594037927936 from by decide +kernel, Nat.mul_mod_mul_right, in1]
  have hV : un V = 0 + 256 * (0 + 256 * (0 + 256 * (0 + 256 * (0 + 256 * (0 + 256 * (0 + 256 * d0)))))) := by
    rw [hV0]; clear in1 sl hVl hr wx hw hV0; omega
  have hv1 := own_v1 V 0 0 0 0 0 0 0 d0 (Nat.zero_le 9) (Nat.zero_le 9) (Nat.zero_le 9) (Nat.zero_le 9) (Nat.zero_le 9) (Nat.zero_le 9) (Nat.zero_le 9) g0 hV
  have hv2 := own_v2 (v1 V) _ _ _ _ (own_b10 (Nat.zero_le 9) (Nat.zero_le 9)) (own_b10 (Nat.zero_le 9) (Nat.zero_le 9)) (own_b10 (Nat.zero_le 9) (Nat.zero_le 9)) (own_b10 (Nat.zero_le 9) g0) hv1
  have hv3 := own_v3 (v2 (v1 V)) _ _ (own_b100 (own_b10 (Nat.zero_le 9) (Nat.zero_le 9)) (own_b10 (Nat.zero_le 9) (Nat.zero_le 9))) (own_b100 (own_b10 (Nat.zero_le 9) (Nat.zero_le 9)) (own_b10 (Nat.zero_le 9) g0)) hv2
  have hd := (c_ldiv x (10000000 : Int64) 10000000 (by decide +kernel) (by decide +kernel)).1 hx
  have hu := own_un (v3 (v2 (v1 V)))
  have hr3 := rng64 (v3 (v2 (v1 V)))
  rw [← Int64.toInt_inj, hd, hn]
  rw [hv3] at hu
  have t0 := own_dd n 1
  have t1 := own_dd n 10
  have t2 := own_dd n 100
  have t3 := own_dd n 1000
  have t4 := own_dd n 10000
  have t5 := own_dd n 100000
  have t6 := own_dd n 1000000
  have t7 := own_dd n 10000000
  simp only [Nat.one_mul, Nat.div_one, show 10 * 10 = 100 from rfl, show 100 * 10 = 1000 from rfl, show 1000 * 10 = 10000 from rfl, show 10000 * 10 = 100000 from rfl, show 100000 * 10 = 1000000 from rfl, show 1000000 * 10 = 10000000 from rfl, show 10000000 * 10 = 100000000 from rfl] at t0 t1 t2 t3 t4 t5 t6 t7
  rw [← h0] at t7
  rw [← h1] at t6
  rw [← h2] at t5
  rw [← h3] at t4
  rw [← h4] at t3
  rw [← h5] at t2
  rw [← h6] at t1
  rw [← h7] at t0
  have t8 : n / 100000000 = 0 := Nat.div_eq_of_lt hn8
  have hq : ((n : Int) / (10000000 : Int)) = ((n / 10000000 : Nat) : Int) := rfl
  rw [hq]
  clear hv1 hv2 hv3 hV hV0 hr sl in1 wx hw hd hx hx2 hn hn8 hq hVl h0 h1 h2 h3 h4 h5 h6 h7
  generalize n / 100000000 = q8 at *
  generalize n / 10000000 = q7 at *
  generalize n / 1000000 = q6 at *
  generalize n / 100000 = q5 at *
  generalize n / 10000 = q4 at *
  generalize n / 1000 = q3 at *
  generalize n / 100 = q2 at *
  generalize n / 10 = q1 at *
  generalize (v3 (v2 (v1 V))).toInt = y at *
  subst t8
  omega
theorem own_fin2 (x J : Int64) (hx : 0 ≤ x.toInt) (hx2 : x.toInt < 100000000) : vof (((wrd x) &&& (((1 : Int64) <<< ((16 : Int32) &&& 0x3f).toInt64) - (1 : Int64))) ||| (J &&& ((((1 : Int64) <<< ((16 : Int32) &&& 0x3f).toInt64) - (1 : Int64)) ^^^ (-1 : Int64)))) (2 : Int32) = x / (1000000 : Int64) := by
  have hw := own_wd x hx
  obtain ⟨n, hn⟩ : ∃ n : Nat, x.toInt = n := ⟨x.toInt.toNat, (Int.toNat_of_nonneg hx).symm⟩
  rw [hn, Int.toNat_natCast] at hw
  have hn8 : n < 100000000 := by clear hw; omega
  obtain ⟨d0, h0⟩ : ∃ d, d = n / 10000000 % 10 := ⟨_, rfl⟩
  obtain ⟨d1, h1⟩ : ∃ d, d = n / 1000000 % 10 := ⟨_, rfl⟩
  obtain ⟨d2, h2⟩ : ∃ d, d = n / 100000 % 10 := ⟨_, rfl⟩
  obtain ⟨d3, h3⟩ : ∃ d, d = n / 10000 % 10 := ⟨_, rfl⟩
  obtain ⟨d4, h4⟩ : ∃ d, d = n / 1000 % 10 := ⟨_, rfl⟩
  obtain ⟨d5, h5⟩ : ∃ d, d = n / 100 % 10 := ⟨_, rfl⟩
  obtain ⟨d6, h6⟩ : ∃ d, d = n / 10 % 10 := ⟨_, rfl⟩
  obtain ⟨d7, h7⟩ : ∃ d, d = n % 10 := ⟨_, rfl⟩
  rw [← h0, ← h1, ← h2, ← h3, ← h4, ← h5, ← h6, ← h7] at hw
  have g0 : d0 ≤ 9 := by rw [h0]; exact Nat.le_of_lt_succ (Nat.mod_lt _ (by decide))
  have g1 : d1 ≤ 9 := by rw [h1]; exact Nat.le_of_lt_succ (Nat.mod_lt _ (by decide))
  have g2 : d2 ≤ 9 := by rw [h2]; exact Nat.le_of_lt_succ (Nat.mod_lt _ (by decide))
  have g3 : d3 ≤ 9 := by rw [h3]; exact Nat.le_of_lt_succ (Nat.mod_lt _ (by decide))
  have g4 : d4 ≤ 9 := by rw [h4]; exact Nat.le_of_lt_succ (Nat.mod_lt _ (by decide))
  have g5 : d5 ≤ 9 := by rw [h5]; exact Nat.le_of_lt_succ (Nat.mod_lt _ (by decide))
  have g6 : d6 ≤ 9 := by rw [h6]; exact Nat.le_of_lt_succ (Nat.mod_lt _ (by decide))
  have g7 : d7 ≤ 9 := by rw [h7]; exact Nat.le_of_lt_succ (Nat.mod_lt _ (by decide))
  have wx := own_wx (wrd x) d0 d1 d2 d3 d4 d5 d6 d7 g0 g1 g2 g3 g4 g5 g6 g7 hw
  have in1 := own_in1 (wrd x) J (((1 : Int64) <<< ((16 : Int32) &&& 0x3f).toInt64) - (1 : Int64)) ((((1 : Int64) <<< ((16 : Int32) &&& 0x3f).toInt64) - (1 : Int64)) ^^^ (-1 : Int64)) 16 (by decide +kernel) (by decide +kernel)
  rw [wx] at in1
  unfold vof
  generalize (((wrd x) &&& (((1 : Int64) <<< ((16 : Int32) &&& 0x3f).toInt64) - (1 : Int64))) ||| (J &&& ((((1 : Int64) <<< ((16 : Int32) &&& 0x3f).toInt64) - (1 : Int64)) ^^^ (-1 : Int64)))) ^^^ (3472328296227680304 : Int64) = D at *
  have sl := own_sl2 D ((-(2 : Int32)) * (8 : Int32)) 48 (by decide +kernel)
  generalize D <<< (((-(2 : Int32)) * (8 : Int32)) &&& 0x3f).toInt64 = V at *
  have hVl : un V < 18446744073709551616 := V.toBitVec.isLt
  have hr : (d0 + 256 * (d1 + 256 * (d2 + 256 * (d3 + 256 * (d4 + 256 * (d5 + 256 * (d6 + 256 * d7))))))) % 65536 = d0 + 256 * (d1) := by
    clear in1 sl hVl wx hw h0 h1 h2 h3 h4 h5 h6 h7
    omega
  rw [show (2 : Nat) ^ 16 = 65536 from by decide +kernel, hr] at in1
  have hV0 : un V = (d0 + 256 * (d1)) * 281474976710656 := by
    rw [sl, show (18446744073709551616 : Nat) = 65536 * 281474976710656 from by decide +kernel, show (2 : Nat) ^ 48 = 281474976710656 from by decide +kernel, Nat.mul_mod_mul_right, in1]
  have hV : un V = 0 + 256 * (0 + 256 * (0 + 256 * (0 + 256 * (0 + 256 * (0 + 256 * (d0 + 256 * d1)))))) := by
    rw [hV0]; clear in1 sl hVl hr wx hw hV0; omega
  have hv1 := own_v1 V 0 0 0 0 0 0 d0 d1 (Nat.zero_le 9) (Nat.zero_le 9) (Nat.zero_le 9) (Nat.zero_le 9) (Nat.zero_le 9) (Nat.zero_le 9) g0 g1 hV
  have hv2 := own_v2 (v1 V) _ _ _ _ (own_b10 (Nat.zero_le 9) (Nat.zero_le 9)) (own_b10 (Nat.zero_le 9) (Nat.zero_le 9)) (own_b10 (Nat.zero_le 9) (Nat.zero_le 9)) (own_b10 g0 g1) hv1
  have hv3 := own_v3 (v2 (v1 V)) _ _ (own_b100 (own_b10 (Nat.zero_le 9) (Nat.zero_le 9)) (own_b10 (Nat.zero_le 9) (Nat.zero_le 9))) (own_b100 (own_b10 (Nat.zero_le 9) (Nat.zero_le 9)) (own_b10 g0 g1)) hv2
  have hd := (c_ldiv x (1000000 : Int64) 1000000 (by decide +kernel) (by decide +kernel)).1 hx
  have hu := own_un (v3 (v2 (v1 V)))
  have hr3 := rng64 (v3 (v2 (v1 V)))
  rw [← Int64.toInt_inj, hd, hn]
  rw [hv3] at hu
  have t0 := own_dd n 1
  have t1 := own_dd n 10
  have t2 := own_dd n 100
  have t3 := own_dd n 1000
  have t4 := own_dd n 10000
  have t5 := own_dd n 100000
  have t6 := own_dd n 1000000
  have t7 := own_dd n 10000000
  simp only [Nat.one_mul, Nat.div_one, show 10 * 10 = 100 from rfl, show 100 * 10 = 1000 from rfl, show 1000 * 10 = 10000 from rfl, show 10000 * 10 = 100000 from rfl, show 100000 * 10 = 1000000 from rfl, show 1000000 * 10 = 10000000 from rfl, show 10000000 * 10 = 100000000 from rfl] at t0 t1 t2 t3 t4 t5 t6 t7
  rw [← h0] at t7
  rw [← h1] at t6
  rw [← h2] at t5
  rw [← h3] at t4
  rw [← h4] at t3
  rw [← h5] at t2
  rw [← h6] at t1
  rw [← h7] at t0
  have t8 : n / 100000000 = 0 := Nat.div_eq_of_lt hn8
  have hq : ((n : Int) / (1000000 : Int)) = ((n / 1000000 : Nat) : Int) := rfl
  rw [hq]
  clear hv1 hv2 hv3 hV hV0 hr sl in1 wx hw hd hx hx2 hn hn8 hq hVl h0 h1 h2 h3 h4 h5 h6 h7
  generalize n / 100000000 = q8 at *
  generalize n / 10000000 = q7 at *
  generalize n / 1000000 = q6 at *
  generalize n / 100000 = q5 at *
  generalize n / 10000 = q4 at *
  generalize n / 1000 = q3 at *
  generalize n / 100 = q2 at *
  generalize n / 10 = q1 at *
  generalize (v3 (v2 (v1 V))).toInt = y at *
  subst t8
  omega
theorem own_fin3 (x J : Int64) (hx : 0 ≤ x.toInt) (hx2 : x.toInt < 100000000) : vof (((wrd x) &&& (((1 : Int64) <<< ((24 : Int32) &&& 0x3f).toInt64) - (1 : Int64))) ||| (J &&& ((((1 : Int64) <<< ((24 : Int32) &&& 0x3f).toInt64) - (1 : Int64)) ^^^ (-1 : Int64)))) (3 : Int32) = x / (100000 : Int64) := by
  have hw := own_wd x hx
  obtain ⟨n, hn⟩ : ∃ n : Nat, x.toInt = n := ⟨x.toInt.toNat, (Int.toNat_of_nonneg hx).symm⟩
  rw [hn, Int.toNat_natCast] at hw
  have hn8 : n < 100000000 := by clear hw; omega
  obtain ⟨d0, h0⟩ : ∃ d, d = n / 10000000 % 10 := ⟨_, rfl⟩
  obtain ⟨d1, h1⟩ : ∃ d, d = n / 1000000 % 10 := ⟨_, rfl⟩
  obtain ⟨d2, h2⟩ : ∃ d, d = n / 100000 % 10 := ⟨_, rfl⟩
  obtain ⟨d3, h3⟩ : ∃ d, d = n / 10000 % 10 := ⟨_, rfl⟩
  obtain ⟨d4, h4⟩ : ∃ d, d = n / 1000 % 10 := ⟨_, rfl⟩
  obtain ⟨d5, h5⟩ : ∃ d, d = n / 100 % 10 := ⟨_, rfl⟩
  obtain ⟨d6, h6⟩ : ∃ d, d = n / 10 % 10 := ⟨_, rfl⟩
  obtain ⟨d7, h7⟩ : ∃ d, d = n % 10 := ⟨_, rfl⟩
  rw [← h0, ← h1, ← h2, ← h3, ← h4, ← h5, ← h6, ← h7] at hw
  have g0 : d0 ≤ 9 := by rw [h0]; exact Nat.le_of_lt_succ (Nat.mod_lt _ (by decide))
  have g1 : d1 ≤ 9 := by rw [h1]; exact Nat.le_of_lt_succ (Nat.mod_lt _ (by decide))
  have g2 : d2 ≤ 9 := by rw [h2]; exact Nat.le_of_lt_succ (Nat.mod_lt _ (by decide))
  have g3 : d3 ≤ 9 := by rw [h3]; exact Nat.le_of_lt_succ (Nat.mod_lt _ (by decide))
  have g4 : d4 ≤ 9 := by rw [h4]; exact Nat.le_of_lt_succ (Nat.mod_lt _ (by decide))
  have g5 : d5 ≤ 9 := by rw [h5]; exact Nat.le_of_lt_succ (Nat.mod_lt _ (by decide))
  have g6 : d6 ≤ 9 := by rw [h6]; exact Nat.le_of_lt_succ (Nat.mod_lt _ (by decide))
  have g7 : d7 ≤ 9 := by rw [h7]; exact Nat.le_of_lt_succ (Nat.mod_lt _ (by decide))
  have wx := own_wx (wrd x) d0 d1 d2 d3 d4 d5 d6 d7 g0 g1 g2 g3 g4 g5 g6 g7 hw
  have in1 := own_in1 (wrd x) J (((1 : Int64) <<< ((24 : Int32) &&& 0x3f).toInt64) - (1 : Int64)) ((((1 : Int64) <<< ((24 : Int32) &&& 0x3f).toInt64) - (1 : Int64)) ^^^ (-1 : Int64)) 24 (by decide +kernel) (by decide +kernel)
  rw [wx] at in1
  unfold vof
  generalize (((wrd x) &&& (((1 : Int64) <<< ((24 : Int32) &&& 0x3f).toInt64) - (1 : Int64))) ||| (J &&& ((((1 : Int64) <<< ((24 : Int32) &&& 0x3f).toInt64) - (1 : Int64)) ^^^ (-1 : Int64)))) ^^^ (3472328296227680304 : Int64) = D at *
  have sl := own_sl2 D ((-(3 : Int32)) * (8 : Int32)) 40 (by decide +kernel)
  generalize D <<< (((-(3 : Int32)) * (8 : Int32)) &&& 0x3f).toInt64 = V at *
  have hVl : un V < 18446744073709551616 := V.toBitVec.isLt
  have hr : (d0 + 256 * (d1 + 256 * (d2 + 256 * (d3 + 256 * (d4 + 256 * (d5 + 256 * (d6 + 256 * d7))))))) % 16777216 = d0 + 256 * (d1 + 256 * (d2)) := by
    clear in1 sl hVl wx hw h0 h1 h2 h3 h4 h5 h6 h7
    omega
  rw [show (2 : Nat) ^ 24 = 16777216 from by decide +kernel, hr] at in1
  have hV0 : un V = (d0 + 256 * (d1 + 256 * (d2))) * 1099511627776 := by
    rw [sl, show (18446744073709551616 : Nat) = 16777216 * 1099511627776 from by decide +kernel, show (2 : Nat) ^ 40 = 1099511627776 from by decide +kernel, Nat.mul_mod_mul_right, in1]
  have hV : un V = 0 + 256 * (0 + 256 * (0 + 256 * (0 + 256 * (0 + 256 * (d0 + 256 * (d1 + 256 * d2)))))) := by
    rw [hV0]; clear in1 sl hVl hr wx hw hV0; omega
  have hv1 := own_v1 V 0 0 0 0 0 d0 d1 d2 (Nat.zero_le 9) (Nat.zero_le 9) (Nat.zero_le 9) (Nat.zero_le 9) (Nat.zero_le 9) g0 g1 g2 hV
  have hv2 := own_v2 (v1 V) _ _ _ _ (own_b10 (Nat.zero_le 9) (Nat.zero_le 9)) (own_b10 (Nat.zero_le 9) (Nat.zero_le 9)) (own_b10 (Nat.zero_le 9) g0) (own_b10 g1 g2) hv1
  have hv3 := own_v3 (v2 (v1 V)) _ _ (own_b100 (own_b10 (Nat.zero_le 9) (Nat.zero_le 9)) (own_b10 (Nat.zero_le 9) (Nat.zero_le 9))) (own_b100 (own_b10 (Nat.zero_le 9) g0) (own_b10 g1 g2)) hv2
  have hd := (c_ldiv x (100000 : Int64) 100000 (by decide +kernel) (by decide +kernel)).1 hx
  have hu := own_un (v3 (v2 (v1 V)))
  have hr3 := rng64 (v3 (v2 (v1 V)))
  rw [← Int64.toInt_inj, hd, hn]
  rw [hv3] at hu
  have t0 := own_dd n 1
  have t1 := own_dd n 10
  have t2 := own_dd n 100
  have t3 := own_dd n 1000
  have t4 := own_dd n 10000
  have t5 := own_dd n 100000
  have t6 := own_dd n 1000000
  have t7 := own_dd n 10000000
  simp only [Nat.one_mul, Nat.div_one, show 10 * 10 = 100 from rfl, show 100 * 10 = 1000 from rfl, show 1000 * 10 = 10000 from rfl, show 10000 * 10 = 100000 from rfl, show 100000 * 10 = 1000000 from rfl, show 1000000 * 10 = 10000000 from rfl, show 10000000 * 10 = 100000000 from rfl] at t0 t1 t2 t3 t4 t5 t6 t7
  rw [← h0] at t7
  rw [← h1] at t6
  rw [← h2] at t5
  rw [← h3] at t4
  rw [← h4] at t3
  rw [← h5] at t2
  rw [← h6] at t1
  rw [← h7] at t0
  have t8 : n / 100000000 = 0 := Nat.div_eq_of_lt hn8
  have hq : ((n : Int) / (100000 : Int)) = ((n / 100000 : Nat) : Int) := rfl
  rw [hq]
  clear hv1 hv2 hv3 hV hV0 hr sl in1 wx hw hd hx hx2 hn hn8 hq hVl h0 h1 h2 h3 h4 h5 h6 h7
  generalize n / 100000000 = q8 at *
  generalize n / 10000000 = q7 at *
  generalize n / 1000000 = q6 at *
  generalize n / 100000 = q5 at *
  generalize n / 10000 = q4 at *
  generalize n / 1000 = q3 at *
  generalize n / 100 = q2 at *
  generalize n / 10 = q1 at *
  generalize (v3 (v2 (v1 V))).toInt = y at *
  subst t8
  omega
theorem own_fin4 (x J : Int64) (hx : 0 ≤ x.toInt) (hx2 : x.toInt < 100000000) : vof (((wrd x) &&& (((1 : Int64) <<< ((32 : Int32) &&& 0x3f).toInt64) - (1 : Int64))) ||| (J &&& ((((1 : Int64) <<< ((32 : Int32) &&& 0x3f).toInt64) - (1 : Int64)) ^^^ (-1 : Int64)))) (4 : Int32) = x / (10000 : Int64) := by
  have hw := own_wd x hx
  obtain ⟨n, hn⟩ : ∃ n : Nat, x.toInt = n := ⟨x.toInt.toNat, (Int.toNat_of_nonneg hx).symm⟩
  rw [hn, Int.toNat_natCast] at hw
  have hn8 : n < 100000000 := by clear hw; omega
  obtain ⟨d0, h0⟩ : ∃ d, d = n / 10000000 % 10 := ⟨_, rfl⟩
  obtain ⟨d1, h1⟩ : ∃ d, d = n / 1000000 % 10 := ⟨_, rfl⟩
  obtain ⟨d2, h2⟩ : ∃ d, d = n / 100000 % 10 := ⟨_, rfl⟩
  obtain ⟨d3, h3⟩ : ∃ d, d = n / 10000 % 10 := ⟨_, rfl⟩
  obtain ⟨d4, h4⟩ : ∃ d, d = n / 1000 % 10 := ⟨_, rfl⟩
  obtain ⟨d5, h5⟩ : ∃ d, d = n / 100 % 10 := ⟨_, rfl⟩
  obtain ⟨d6, h6⟩ : ∃ d, d = n / 10 % 10 := ⟨_, rfl⟩
  obtain ⟨d7, h7⟩ : ∃ d, d = n % 10 := ⟨_, rfl⟩
  rw [← h0, ← h1, ← h2, ← h3, ← h4, ← h5, ← h6, ← h7] at hw
  have g0 : d0 ≤ 9 := by rw [h0]; exact Nat.le_of_lt_succ (Nat.mod_lt _ (by decide))
  have g1 : d1 ≤ 9 := by rw [h1]; exact Nat.le_of_lt_succ (Nat.mod_lt _ (by decide))
  have g2 : d2 ≤ 9 := by rw [h2]; exact Nat.le_of_lt_succ (Nat.mod_lt _ (by decide))
  have g3 : d3 ≤ 9 := by rw [h3]; exact Nat.le_of_lt_succ (Nat.mod_lt _ (by decide))
  have g4 : d4 ≤ 9 := by rw [h4]; exact Nat.le_of_lt_succ (Nat.mod_lt _ (by decide))
  have g5 : d5 ≤ 9 := by rw [h5]; exact Nat.le_of_lt_succ (Nat.mod_lt _ (by decide))
  have g6 : d6 ≤ 9 := by rw [h6]; exact Nat.le_of_lt_succ (Nat.mod_lt _ (by decide))
  have g7 : d7 ≤ 9 := by rw [h7]; exact Nat.le_of_lt_succ (Nat.mod_lt _ (by decide))
  have wx := own_wx (wrd x) d0 d1 d2 d3 d4 d5 d6 d7 g0 g1 g2 g3 g4 g5 g6 g7 hw
  have in1 := own_in1 (wrd x) J (((1 : Int64) <<< ((32 : Int32) &&& 0x3f).toInt64) - (1 : Int64)) ((((1 : Int64) <<< ((32 : Int32) &&& 0x3f).toInt64) - (1 : Int64)) ^^^ (-1 : Int64)) 32 (by decide +kernel) (by decide +kernel)
  rw [wx] at in1
  unfold vof
  generalize (((wrd x) &&& (((1 : Int64) <<< ((32 : Int32) &&& 0x3f).toInt64) - (1 : Int64))) ||| (J &&& ((((1 : Int64) <<< ((32 : Int32) &&& 0x3f).toInt64) - (1 : Int64)) ^^^ (-1 : Int64)))) ^^^ (3472328296227680304 : Int64) = D at *
  have sl := own_sl2 D ((-(4 : Int32)) * (8 : Int32)) 32 (by decide +kernel)
  generalize D <<< (((-(4 : Int32)) * (8 : Int32)) &&& 0x3f).toInt64 = V at *
  have hVl : un V < 18446744073709551616 := V.toBitVec.isLt
  have hr : (d0 + 256 * (d1 + 256 * (d2 + 256 * (d3 + 256 * (d4 + 256 * (d5 + 256 * (d6 + 256 * d7))))))) % 4294967296 = d0 + 256 * (d1 + 256 * (d2 + 256 * (d3))) := by
    clear in1 sl hVl wx hw h0 h1 h2 h3 h4 h5 h6 h7
    omega
  rw [show (2 : Nat) ^ 32 = 4294967296 from by decide +kernel, hr] at in1
  have hV0 : un V = (d0 + 256 * (d1 + 256 * (d2 + 256 * (d3)))) * 4294967296 := by
    rw [sl, show (18446744073709551616 : Nat) = 4294967296 * 4294967296 from by decide +kernel, show (2 : Nat) ^ 32 = 4294967296 from by decide +kernel, Nat.mul_mod_mul_right, in1]
  have hV : un V = 0 + 256 * (0 + 256 * (0 + 256 * (0 + 256 * (d0 + 256 * (d1 + 256 * (d2 + 256 * d3)))))) := by
    rw [hV0]; clear in1 sl hVl hr wx hw hV0; omega
  have hv1 := own_v1 V 0 0 0 0 d0 d1 d2 d3 (Nat.zero_le 9) (Nat.zero_le 9) (Nat.zero_le 9) (Nat.zero_le 9) g0 g1 g2 g3 hV
  have hv2 := own_v2 (v1 V) _ _ _ _ (own_b10 (Nat.zero_le 9) (Nat.zero_le 9)) (own_b10 (Nat.zero_le 9) (Nat.zero_le 9)) (own_b10 g0 g1) (own_b10 g2 g3) hv1
  have hv3 := own_v3 (v2 (v1 V)) _ _ (own_b100 (own_b10 (Nat.zero_le 9) (Nat.zero_le 9)) (own_b10 (Nat.zero_le 9) (Nat.zero_le 9))) (own_b100 (own_b10 g0 g1) (own_b10 g2 g3)) hv2
  have hd := (c_ldiv x (10000 : Int64) 10000 (by decide +kernel) (by decide +kernel)).1 hx
  have hu := own_un (v3 (v2 (v1 V)))
  have hr3 := rng64 (v3 (v2 (v1 V)))
  rw [← Int64.toInt_inj, hd, hn]
  rw [hv3] at hu
  have t0 := own_dd n 1
  have t1 := own_dd n 10
  have t2 := own_dd n 100
  have t3 := own_dd n 1000
  have t4 := own_dd n 10000
  have t5 := own_dd n 100000
  have t6 := own_dd n 1000000
  have t7 := own_dd n 10000000
  simp only [Nat.one_mul, Nat.div_one, show 10 * 10 = 100 from rfl, show 100 * 10 = 1000 from rfl, show 1000 * 10 = 10000 from rfl, show 10000 * 10 = 100000 from rfl, show 100000 * 10 = 1000000 from rfl, show 1000000 * 10 = 10000000 from rfl, show 10000000 * 10 = 100000000 from rfl] at t0 t1 t2 t3 t4 t5 t6 t7
  rw [← h0] at t7
  rw [← h1] at t6
  rw [← h2] at t5
  rw [← h3] at t4
  rw [← h4] at t3
  rw [← h5] at t2
  rw [← h6] at t1
  rw [← h7] at t0
  have t8 : n / 100000000 = 0 := Nat.div_eq_of_lt hn8
  have hq : ((n : Int) / (10000 : Int)) = ((n / 10000 : Nat) : Int) := rfl
  rw [hq]
  clear hv1 hv2 hv3 hV hV0 hr sl in1 wx hw hd hx hx2 hn hn8 hq hVl h0 h1 h2 h3 h4 h5 h6 h7
  generalize n / 100000000 = q8 at *
  generalize n / 10000000 = q7 at *
  generalize n / 1000000 = q6 at *
  generalize n / 100000 = q5 at *
  generalize n / 10000 = q4 at *
  generalize n / 1000 = q3 at *
  generalize n / 100 = q2 at *
  generalize n / 10 = q1 at *
  generalize (v3 (v2 (v1 V))).toInt = y at *
  subst t8
  omega
theorem own_fin5 (x J : Int64) (hx : 0 ≤ x.toInt) (hx2 : x.toInt < 100000000) : vof (((wrd x) &&& (((1 : Int64) <<< ((40 : Int32) &&& 0x3f).toInt64) - (1 : Int64))) ||| (J &&& ((((1 : Int64) <<< ((40 : Int32) &&& 0x3f).toInt64) - (1 : Int64)) ^^^ (-1 : Int64)))) (5 : Int32) = x / (1000 : Int64) := by
  have hw := own_wd x hx
  obtain ⟨n, hn⟩ : ∃ n : Nat, x.toInt = n := ⟨x.toInt.toNat, (Int.toNat_of_nonneg hx).symm⟩
  rw [hn, Int.toNat_natCast] at hw
  have hn8 : n < 100000000 := by clear hw; omega
  obtain ⟨d0, h0⟩ : ∃ d, d = n / 10000000 % 10 := ⟨_, rfl⟩
  obtain ⟨d1, h1⟩ : ∃ d, d = n / 1000000 % 10 := ⟨_, rfl⟩
  obtain ⟨d2, h2⟩ : ∃ d, d = n / 100000 % 10 := ⟨_, rfl⟩
  obtain ⟨d3, h3⟩ : ∃ d, d = n / 10000 % 10 := ⟨_, rfl⟩
  obtain ⟨d4, h4⟩ : ∃ d, d = n / 1000 % 10 := ⟨_, rfl⟩
  obtain ⟨d5, h5⟩ : ∃ d, d = n / 100 % 10 := ⟨_, rfl⟩
  obtain ⟨d6, h6⟩ : ∃ d, d = n / 10 % 10 := ⟨_, rfl⟩
  obtain ⟨d7, h7⟩ : ∃ d, d = n % 10 := ⟨_, rfl⟩
  rw [← h0, ← h1, ← h2, ← h3, ← h4, ← h5, ← h6, ← h7] at hw
  have g0 : d0 ≤ 9 := by rw [h0]; exact Nat.le_of_lt_succ (Nat.mod_lt _ (by decide))
  have g1 : d1 ≤ 9 := by rw [h1]; exact Nat.le_of_lt_succ (Nat.mod_lt _ (by decide))
  have g2 : d2 ≤ 9 := by rw [h2]; exact Nat.le_of_lt_succ (Nat.mod_lt _ (by decide))
  have g3 : d3 ≤ 9 := by rw [h3]; exact Nat.le_of_lt_succ (Nat.mod_lt _ (by decide))
  have g4 : d4 ≤ 9 := by rw [h4]; exact Nat.le_of_lt_succ (Nat.mod_lt _ (by decide))
  have g5 : d5 ≤ 9 := by rw [h5]; exact Nat.le_of_lt_succ (Nat.mod_lt _ (by decide))
  have g6 : d6 ≤ 9 := by rw [h6]; exact Nat.le_of_lt_succ (Nat.mod_lt _ (by decide))
  have g7 : d7 ≤ 9 := by rw [h7]; exact Nat.le_of_lt_succ (Nat.mod_lt _ (by decide))
  have wx := own_wx (wrd x) d0 d1 d2 d3 d4 d5 d6 d7 g0 g1 g2 g3 g4 g5 g6 g7 hw
  have in1 := own_in1 (wrd x) J (((1 : Int64) <<< ((40 : Int32) &&& 0x3f).toInt64) - (1 : Int64)) ((((1 : Int64) <<< ((40 : Int32) &&& 0x3f).toInt64) - (1 : Int64)) ^^^ (-1 : Int64)) 40 (by decide +kernel) (by decide +kernel)
  rw [wx] at in1
  unfold vof
  generalize (((wrd x) &&& (((1 : Int64) <<< ((40 : Int32) &&& 0x3f).toInt64) - (1 : Int64))) ||| (J &&& ((((1 : Int64) <<< ((40 : Int32) &&& 0x3f).toInt64) - (1 : Int64)) ^^^ (-1 : Int64)))) ^^^ (3472328296227680304 : Int64) = D at *
  have sl := own_sl2 D ((-(5 : Int32)) * (8 : Int32)) 24 (by decide +kernel)
  generalize D <<< (((-(5 : Int32)) * (8 : Int32)) &&& 0x3f).toInt64 = V at *
  have hVl : un V < 18446744073709551616 := V.toBitVec.isLt
  have hr : (d0 + 256 * (d1 + 256 * (d2 + 256 * (d3 + 256 * (d4 + 256 * (d5 + 256 * (d6 + 256 * d7))))))) % 1099511627776 = d0 + 256 * (d1 + 256 * (d2 + 256 * (d3 + 256 * (d4)))) := by
    clear in1 sl hVl wx hw h0 h1 h2 h3 h4 h5 h6 h7
    omega
  rw [show (2 : Nat) ^ 40 = 1099511627776 from by decide +kernel, hr] at in1
  have hV0 : un V = (d0 + 256 * (d1 + 256 * (d2 + 256 * (d3 + 256 * (d4))))) * 16777216 := by
    rw [sl, show (18446744073709551616 : Nat) = 1099511627776 * 16777216 from by decide +kernel, show (2 : Nat) ^ 24 = 16777216 from by decide +kernel, Nat.mul_mod_mul_right, in1]
  have hV : un V = 0 + 256 * (0 + 256 * (0 + 256 * (d0 + 256 * (d1 + 256 * (d2 + 256 * (d3 + 256 * d4)))))) := by
    rw [hV0]; clear in1 sl hVl hr wx hw hV0; omega
  have hv1 := own_v1 V 0 0 0 d0 d1 d2 d3 d4 (Nat.zero_le 9) (Nat.zero_le 9) (Nat.zero_le 9) g0 g1 g2 g3 g4 hV
  have hv2 := own_v2 (v1 V) _ _ _ _ (own_b10 (Nat.zero_le 9) (Nat.zero_le 9)) (own_b10 (Nat.zero_le 9) g0) (own_b10 g1 g2) (own_b10 g3 g4) hv1
  have hv3 := own_v3 (v2 (v1 V)) _ _ (own_b100 (own_b10 (Nat.zero_le 9) (Nat.zero_le 9)) (own_b10 (Nat.zero_le 9) g0)) (own_b100 (own_b10 g1 g2) (own_b10 g3 g4)) hv2
  have hd := (c_ldiv x (1000 : Int64) 1000 (by decide +kernel) (by decide +kernel)).1 hx
  have hu := own_un (v3 (v2 (v1 V)))
  have hr3 := rng64 (v3 (v2 (v1 V)))
  rw [← Int64.toInt_inj, hd, hn]
  rw [hv3] at hu
  have t0 := own_dd n 1
  have t1 := own_dd n 10
  have t2 := own_dd n 100
  have t3 := own_dd n 1000
  have t4 := own_dd n 10000
  have t5 := own_dd n 100000
  have t6 := own_dd n 1000000
  have t7 := own_dd n 10000000
  simp only [Nat.one_mul, Nat.div_one, show 10 * 10 = 100 from rfl, show 100 * 10 = 1000 from rfl, show 1000 * 10 = 10000 from rfl, show 10000 * 10 = 100000 from rfl, show 100000 * 10 = 1000000 from rfl, show 1000000 * 10 = 10000000 from rfl, show 10000000 * 10 = 100000000 from rfl] at t0 t1 t2 t3 t4 t5 t6 t7
  rw [← h0] at t7
  rw [← h1] at t6
  rw [← h2] at t5
  rw [← h3] at t4
  rw [← h4] at t3
  rw [← h5] at t2
  rw [← h6] at t1
  rw [← h7] at t0
  have t8 : n / 100000000 = 0 := Nat.div_eq_of_lt hn8
  have hq : ((n : Int) / (1000 : Int)) = ((n / 1000 : Nat) : Int) := rfl
  rw [hq]
  clear hv1 hv2 hv3 hV hV0 hr sl in1 wx hw hd hx hx2 hn hn8 hq hVl h0 h1 h2 h3 h4 h5 h6 h7
  generalize n / 100000000 = q8 at *
  generalize n / 10000000 = q7 at *
  generalize n / 1000000 = q6 at *
  generalize n / 100000 = q5 at *
  generalize n / 10000 = q4 at *
  generalize n / 1000 = q3 at *
  generalize n / 100 = q2 at *
  generalize n / 10 = q1 at *
  generalize (v3 (v2 (v1 V))).toInt = y at *
  subst t8
  omega
theorem own_fin6 (x J : Int64) (hx : 0 ≤ x.toInt) (hx2 : x.toInt < 100000000) : vof (((wrd x) &&& (((1 : Int64) <<< ((48 : Int32) &&& 0x3f).toInt64) - (1 : Int64))) ||| (J &&& ((((1 : Int64) <<< ((48 : Int32) &&& 0x3f).toInt64) - (1 : Int64)) ^^^ (-1 : Int64)))) (6 : Int32) = x / (100 : Int64) := by
  have hw := own_wd x hx
  obtain ⟨n, hn⟩ : ∃ n : Nat, x.toInt = n := ⟨x.toInt.toNat, (Int.toNat_of_nonneg hx).symm⟩
  rw [hn, Int.toNat_natCast] at hw
  have hn8 : n < 100000000 := by clear hw; omega
  obtain ⟨d0, h0⟩ : ∃ d, d = n / 10000000 % 10 := ⟨_, rfl⟩
  obtain ⟨d1, h1⟩ : ∃ d, d = n / 1000000 % 10 := ⟨_, rfl⟩
  obtain ⟨d2, h2⟩ : ∃ d, d = n / 100000 % 10 := ⟨_, rfl⟩
  obtain ⟨d3, h3⟩ : ∃ d, d = n / 10000 % 10 := ⟨_, rfl⟩
  obtain ⟨d4, h4⟩ : ∃ d, d = n / 1000 % 10 := ⟨_, rfl⟩
  obtain ⟨d5, h5⟩ : ∃ d, d = n / 100 % 10 := ⟨_, rfl⟩
  obtain ⟨d6, h6⟩ : ∃ d, d = n / 10 % 10 := ⟨_, rfl⟩
  obtain ⟨d7, h7⟩ : ∃ d, d = n % 10 := ⟨_, rfl⟩
  rw [← h0, ← h1, ← h2, ← h3, ← h4, ← h5, ← h6, ← h7] at hw
  have g0 : d0 ≤ 9 := by rw [h0]; exact Nat.le_of_lt_succ (Nat.mod_lt _ (by decide))
  have g1 : d1 ≤ 9 := by rw [h1]; exact Nat.le_of_lt_succ (Nat.mod_lt _ (by decide))
  have g2 : d2 ≤ 9 := by rw [h2]; exact Nat.le_of_lt_succ (Nat.mod_lt _ (by decide))
  have g3 : d3 ≤ 9 := by rw [h3]; exact Nat.le_of_lt_succ (Nat.mod_lt _ (by decide))
  have g4 : d4 ≤ 9 := by rw [h4]; exact Nat.le_of_lt_succ (Nat.mod_lt _ (by decide))
  have g5 : d5 ≤ 9 := by rw [h5]; exact Nat.le_of_lt_succ (Nat.mod_lt _ (by decide))
  have g6 : d6 ≤ 9 := by rw [h6]; exact Nat.le_of_lt_succ (Nat.mod_lt _ (by decide))
  have g7 : d7 ≤ 9 := by rw [h7]; exact Nat.le_of_lt_succ (Nat.mod_lt _ (by decide))
  have wx := own_wx (wrd x) d0 d1 d2 d3 d4 d5 d6 d7 g0 g1 g2 g3 g4 g5 g6 g7 hw
  have in1 := own_in1 (wrd x) J (((1 : Int64) <<< ((48 : Int32) &&& 0x3f).toInt64) - (1 : Int64)) ((((1 : Int64) <<< ((48 : Int32) &&& 0x3f).toInt64) - (1 : Int64)) ^^^ (-1 : Int64)) 48 (by decide +kernel) (by decide +kernel)
  rw [wx] at in1
  unfold vof
  generalize (((wrd x) &&& (((1 : Int64) <<< ((48 : Int32) &&& 0x3f).toInt64) - (1 : Int64))) ||| (J &&& ((((1 : Int64) <<< ((48 : Int32) &&& 0x3f).toInt64) - (1 : Int64)) ^^^ (-1 : Int64)))) ^^^ (3472328296227680304 : Int64) = D at *
  have sl := own_sl2 D ((-(6 : Int32)) * (8 : Int32)) 16 (by decide +kernel)
  generalize D <<< (((-(6 : Int32)) * (8 : Int32)) &&& 0x3f).toInt64 = V at *
  have hVl : un V < 18446744073709551616 := V.toBitVec.isLt
  have hr : (d0 + 256 * (d1 + 256 * (d2 + 256 * (d3 + 256 * (d4 + 256 * (d5 + 256 * (d6 + 256 * d7))))))) % 281474976710656 = d0 + 256 * (d1 + 256 * (d2 + 256 * (d3 + 256 * (d4 + 256 * (d5))))) := by
    clear in1 sl hVl wx hw h0 h1 h2 h3 h4 h5 h6 h7
    omega
  rw [show (2 : Nat) ^ 48 = 281474976710656 from by decide +kernel, hr] at in1
  have hV0 : un V = (d0 + 256 * (d1 + 256 * (d2 + 256 * (d3 + 256 * (d4 + 256 * (d5)))))) * 65536 := by
    rw [sl, show (18446744073709551616 : Nat) = 281474976710656 * 65536 from by decide +kernel, show (2 : Nat) ^ 16 = 65536 from by decide +kernel, Nat.mul_mod_mul_right, in1]
  have hV : un V = 0 + 256 * (0 + 256 * (d0 + 256 * (d1 + 256 * (d2 + 256 * (d3 + 256 * (d4 + 256 * d5)))))) := by
    rw [hV0]; clear in1 sl hVl hr wx hw hV0; omega
  have hv1 := own_v1 V 0 0 d0 d1 d2 d3 d4 d5 (Nat.zero_le 9) (Nat.zero_le 9) g0 g1 g2 g3 g4 g5 hV
  have hv2 := own_v2 (v1 V) _ _ _ _ (own_b10 (Nat.zero_le 9) (Nat.zero_le 9)) (own_b10 g0 g1) (own_b10 g2 g3) (own_b10 g4 g5) hv1
  have hv3 := own_v3 (v2 (v1 V)) _ _ (own_b100 (own_b10 (Nat.zero_le 9) (Nat.zero_le 9)) (own_b10 g0 g1)) (own_b100 (own_b10 g2 g3) (own_b10 g4 g5)) hv2
  have hd := (c_ldiv x (100 : Int64) 100 (by decide +kernel) (by decide +kernel)).1 hx
  have hu := own_un (v3 (v2 (v1 V)))
  have hr3 := rng64 (v3 (v2 (v1 V)))
  rw [← Int64.toInt_inj, hd, hn]
  rw [hv3] at hu
  have t0 := own_dd n 1
  have t1 := own_dd n 10
  have t2 := own_dd n 100
  have t3 := own_dd n 1000
  have t4 := own_dd n 10000
  have t5 := own_dd n 100000
  have t6 := own_dd n 1000000
  have t7 := own_dd n 10000000
  simp only [Nat.one_mul, Nat.div_one, show 10 * 10 = 100 from rfl, show 100 * 10 = 1000 from rfl, show 1000 * 10 = 10000 from rfl, show 10000 * 10 = 100000 from rfl, show 100000 * 10 = 1000000 from rfl, show 1000000 * 10 = 10000000 from rfl, show 10000000 * 10 = 100000000 from rfl] at t0 t1 t2 t3 t4 t5 t6 t7
  rw [← h0] at t7
  rw [← h1] at t6
  rw [← h2] at t5
  rw [← h3] at t4
  rw [← h4] at t3
  rw [← h5] at t2
  rw [← h6] at t1
  rw [← h7] at t0
  have t8 : n / 100000000 = 0 := Nat.div_eq_of_lt hn8
  have hq : ((n : Int) / (100 : Int)) = ((n / 100 : Nat) : Int) := rfl
  rw [hq]
  clear hv1 hv2 hv3 hV hV0 hr sl in1 wx hw hd hx hx2 hn hn8 hq hVl h0 h1 h2 h3 h4 h5 h6 h7
  generalize n / 100000000 = q8 at *
  generalize n / 10000000 = q7 at *
  generalize n / 1000000 = q6 at *
  generalize n / 100000 = q5 at *
  generalize n / 10000 = q4 at *
  generalize n / 1000 = q3 at *
  generalize n / 100 = q2 at *
  generalize n / 10 = q1 at *
  generalize (v3 (v2 (v1 V))).toInt = y at *
  subst t8
  omega
theorem own_fin7 (x J : Int64) (hx : 0 ≤ x.toInt) (hx2 : x.toInt < 100000000) : vof (((wrd x) &&& (((1 : Int64) <<< ((56 : Int32) &&& 0x3f).toInt64) - (1 : Int64))) ||| (J &&& ((((1 : Int64) <<< ((56 : Int32) &&& 0x3f).toInt64) - (1 : Int64)) ^^^ (-1 : Int64)))) (7 : Int32) = x / (10 : Int64) := by
  have hw := own_wd x hx
  obtain ⟨n, hn⟩ : ∃ n : Nat, x.toInt = n := ⟨x.toInt.toNat, (Int.toNat_of_nonneg hx).symm⟩
  rw [hn, Int.toNat_natCast] at hw
  have hn8 : n < 100000000 := by clear hw; omega
  obtain ⟨d0, h0⟩ : ∃ d, d = n / 10000000 % 10 := ⟨_, rfl⟩
  obtain ⟨d1, h1⟩ : ∃ d, d = n / 1000000 % 10 := ⟨_, rfl⟩
  obtain ⟨d2, h2⟩ : ∃ d, d = n / 100000 % 10 := ⟨_, rfl⟩
  obtain ⟨d3, h3⟩ : ∃ d, d = n / 10000 % 10 := ⟨_, rfl⟩
  obtain ⟨d4, h4⟩ : ∃ d, d = n / 1000 % 10 := ⟨_, rfl⟩
  obtain ⟨d5, h5⟩ : ∃ d, d = n / 100 % 10 := ⟨_, rfl⟩
  obtain ⟨d6, h6⟩ : ∃ d, d = n / 10 % 10 := ⟨_, rfl⟩
  obtain ⟨d7, h7⟩ : ∃ d, d = n % 10 := ⟨_, rfl⟩
  rw [← h0, ← h1, ← h2, ← h3, ← h4, ← h5, ← h6, ← h7] at hw
  have g0 : d0 ≤ 9 := by rw [h0]; exact Nat.le_of_lt_succ (Nat.mod_lt _ (by decide))
  have g1 : d1 ≤ 9 := by rw [h1]; exact Nat.le_of_lt_succ (Nat.mod_lt _ (by decide))
  have g2 : d2 ≤ 9 := by rw [h2]; exact Nat.le_of_lt_succ (Nat.mod_lt _ (by decide))
  have g3 : d3 ≤ 9 := by rw [h3]; exact Nat.le_of_lt_succ (Nat.mod_lt _ (by decide))
  have g4 : d4 ≤ 9 := by rw [h4]; exact Nat.le_of_lt_succ (Nat.mod_lt _ (by decide))
  have g5 : d5 ≤ 9 := by rw [h5]; exact Nat.le_of_lt_succ (Nat.mod_lt _ (by decide))
  have g6 : d6 ≤ 9 := by rw [h6]; exact Nat.le_of_lt_succ (Nat.mod_lt _ (by decide))
  have g7 : d7 ≤ 9 := by rw [h7]; exact Nat.le_of_lt_succ (Nat.mod_lt _ (by decide))
  have wx := own_wx (wrd x) d0 d1 d2 d3 d4 d5 d6 d7 g0 g1 g2 g3 g4 g5 g6 g7 hw
  have in1 := own_in1 (wrd x) J (((1 : Int64) <<< ((56 : Int32) &&& 0x3f).toInt64) - (1 : Int64)) ((((1 : Int64) <<< ((56 : Int32) &&& 0x3f).toInt64) - (1 : Int64)) ^^^ (-1 : Int64)) 56 (by decide +kernel) (by decide +kernel)
  rw [wx] at in1
  unfold vof
  generalize (((wrd x) &&& (((1 : Int64) <<< ((56 : Int32) &&& 0x3f).toInt64) - (1 : Int64))) ||| (J &&& ((((1 : Int64) <<< ((56 : Int32) &&& 0x3f).toInt64) - (1 : Int64)) ^^^ (-1 : Int64)))) ^^^ (3472328296227680304 : Int64) = D at *
  have sl := own_sl2 D ((-(7 : Int32)) * (8 : Int32)) 8 (by decide +kernel)
  generalize D <<< (((-(7 : Int32)) * (8 : Int32)) &&& 0x3f).toInt64 = V at *
  have hVl : un V < 18446744073709551616 := V.toBitVec.isLt
  have hr : (d0 + 256 * (d1 + 256 * (d2 + 256 * (d3 + 256 * (d4 + 256 * (d5 + 256 * (d6 + 256 * d7))))))) % 72057594037927936 = d0 + 256 * (d1 + 256 * (d2 + 256 * (d3 + 256 * (d4 + 256 * (d5 + 256 * (d6)))))) := by
    clear in1 sl hVl wx hw h0 h1 h2 h3 h4 h5 h6 h7
    omega
  rw [show (2 : Nat) ^ 56 = 72057594037927936 from by decide +kernel, hr] at in1
  have hV0 : un V = (d0 + 256 * (d1 + 256 * (d2 + 256 * (d3 + 256 * (d4 + 256 * (d5 + 256 * (d6))))))) * 256 := by
    rw [sl, show (18446744073709551616 : Nat) = 72057594037927936 * 256 from by decide +kernel, show (2 : Nat) ^ 8 = 256 from by decide +kernel, Nat.mul_mod_mul_right, in1]
  have hV : un V = 0 + 256 * (d0 + 256 * (d1 + 256 * (d2 + 256 * (d3 + 256 * (d4 + 256 * (d5 + 256 * d6)))))) := by
    rw [hV0]; clear in1 sl hVl hr wx hw hV0; omega
  have hv1 := own_v1 V 0 d0 d1 d2 d3 d4 d5 d6 (Nat.zero_le 9) g0 g1 g2 g3 g4 g5 g6 hV
  have hv2 := own_v2 (v1 V) _ _ _ _ (own_b10 (Nat.zero_le 9) g0) (own_b10 g1 g2) (own_b10 g3 g4) (own_b10 g5 g6) hv1
  have hv3 := own_v3 (v2 (v1 V)) _ _ (own_b100 (own_b10 (Nat.zero_le 9) g0) (own_b10 g1 g2)) (own_b100 (own_b10 g3 g4) (own_b10 g5 g6)) hv2
  have hd := (c_ldiv x (10 : Int64) 10 (by decide +kernel) (by decide +kernel)).1 hx
  have hu := own_un (v3 (v2 (v1 V)))
  have hr3 := rng64 (v3 (v2 (v1 V)))
  rw [← Int64.toInt_inj, hd, hn]
  rw [hv3] at hu
  have t0 := own_dd n 1
  have t1 := own_dd n 10
  have t2 := own_dd n 100
  have t3 := own_dd n 1000
  have t4 := own_dd n 10000
  have t5 := own_dd n 100000
  have t6 := own_dd n 1000000
  have t7 := own_dd n 10000000
  simp only [Nat.one_mul, Nat.div_one, show 10 * 10 = 100 from rfl, show 100 * 10 = 1000 from rfl, show 1000 * 10 = 10000 from rfl, show 10000 * 10 = 100000 from rfl, show 100000 * 10 = 1000000 from rfl, show 1000000 * 10 = 10000000 from rfl, show 10000000 * 10 = 100000000 from rfl] at t0 t1 t2 t3 t4 t5 t6 t7
  rw [← h0] at t7
  rw [← h1] at t6
  rw [← h2] at t5
  rw [← h3] at t4
  rw [← h4] at t3
  rw [← h5] at t2
  rw [← h6] at t1
  rw [← h7] at t0
  have t8 : n / 100000000 = 0 := Nat.div_eq_of_lt hn8
  have hq : ((n : Int) / (10 : Int)) = ((n / 10 : Nat) : Int) := rfl
  rw [hq]
  clear hv1 hv2 hv3 hV hV0 hr sl in1 wx hw hd hx hx2 hn hn8 hq hVl h0 h1 h2 h3 h4 h5 h6 h7
  generalize n / 100000000 = q8 at *
  generalize n / 10000000 = q7 at *
  generalize n / 1000000 = q6 at *
  generalize n / 100000 = q5 at *
  generalize n / 10000 = q4 at *
  generalize n / 1000 = q3 at *
  generalize n / 100 = q2 at *
  generalize n / 10 = q1 at *
  generalize (v3 (v2 (v1 V))).toInt = y at *
  subst t8
  omega
theorem own_fin8 (x J : Int64) (hx : 0 ≤ x.toInt) (hx2 : x.toInt < 100000000) : vof (((wrd x) &&& (-1 : Int64)) ||| (J &&& (0 : Int64))) (8 : Int32) = x / (1 : Int64) := by
  have hw := own_wd x hx
  obtain ⟨n, hn⟩ : ∃ n : Nat, x.toInt = n := ⟨x.toInt.toNat, (Int.toNat_of_nonneg hx).symm⟩
  rw [hn, Int.toNat_natCast] at hw
  have hn8 : n < 100000000 := by clear hw; omega
  obtain ⟨d0, h0⟩ : ∃ d, d = n / 10000000 % 10 := ⟨_, rfl⟩
  obtain ⟨d1, h1⟩ : ∃ d, d = n / 1000000 % 10 := ⟨_, rfl⟩
  obtain ⟨d2, h2⟩ : ∃ d, d = n / 100000 % 10 := ⟨_, rfl⟩
  obtain ⟨d3, h3⟩ : ∃ d, d = n / 10000 % 10 := ⟨_, rfl⟩
  obtain ⟨d4, h4⟩ : ∃ d, d = n / 1000 % 10 := ⟨_, rfl⟩
  obtain ⟨d5, h5⟩ : ∃ d, d = n / 100 % 10 := ⟨_, rfl⟩
  obtain ⟨d6, h6⟩ : ∃ d, d = n / 10 % 10 := ⟨_, rfl⟩
  obtain ⟨d7, h7⟩ : ∃ d, d = n % 10 := ⟨_, rfl⟩
  rw [← h0, ← h1, ← h2, ← h3, ← h4, ← h5, ← h6, ← h7] at hw
  have g0 : d0 ≤ 9 := by rw [h0]; exact Nat.le_of_lt_succ (Nat.mod_lt _ (by decide))
  have g1 : d1 ≤ 9 := by rw [h1]; exact Nat.le_of_lt_succ (Nat.mod_lt _ (by decide))
  have g2 : d2 ≤ 9 := by rw [h2]; exact Nat.le_of_lt_succ (Nat.mod_lt _ (by decide))
  have g3 : d3 ≤ 9 := by rw [h3]; exact Nat.le_of_lt_succ (Nat.mod_lt _ (by decide))
  have g4 : d4 ≤ 9 := by rw [h4]; exact Nat.le_of_lt_succ (Nat.mod_lt _ (by decide))
  have g5 : d5 ≤ 9 := by rw [h5]; exact Nat.le_of_lt_succ (Nat.mod_lt _ (by decide))
  have g6 : d6 ≤ 9 := by rw [h6]; exact Nat.le_of_lt_succ (Nat.mod_lt _ (by decide))
  have g7 : d7 ≤ 9 := by rw [h7]; exact Nat.le_of_lt_succ (Nat.mod_lt _ (by decide))
  have wx := own_wx (wrd x) d0 d1 d2 d3 d4 d5 d6 d7 g0 g1 g2 g3 g4 g5 g6 g7 hw
  have in1 := own_in1 (wrd x) J (-1 : Int64) (0 : Int64) 64 (by decide +kernel) (by decide +kernel)
  rw [wx] at in1
  unfold vof
  generalize (((wrd x) &&& (-1 : Int64)) ||| (J &&& (0 : Int64))) ^^^ (3472328296227680304 : Int64) = D at *
  have sl := own_sl2 D ((-(8 : Int32)) * (8 : Int32)) 0 (by decide +kernel)
  generalize D <<< (((-(8 : Int32)) * (8 : Int32)) &&& 0x3f).toInt64 = V at *
  have hVl : un V < 18446744073709551616 := V.toBitVec.isLt
  have hr : (d0 + 256 * (d1 + 256 * (d2 + 256 * (d3 + 256 * (d4 + 256 * (d5 + 256 * (d6 + 256 * d7))))))) % 18446744073709551616 = d0 + 256 * (d1 + 256 * (d2 + 256 * (d3 + 256 * (d4 + 256 * (d5 + 256 * (d6 + 256 * (d7))))))) := by
    clear in1 sl hVl wx hw h0 h1 h2 h3 h4 h5 h6 h7
    omega
  rw [show (2 : Nat) ^ 64 = 18446744073709551616 from by decide +kernel, hr] at in1
  have hV0 : un V = (d0 + 256 * (d1 + 256 * (d2 + 256 * (d3 + 256 * (d4 + 256 * (d5 + 256 * (d6 + 256 * (d7)))))))) * 1 := by
    rw [sl, show (18446744073709551616 : Nat) = 18446744073709551616 * 1 from by decide +kernel, show (2 : Nat) ^ 0 = 1 from by decide +kernel, Nat.mul_mod_mul_right, in1]
  have hV : un V = d0 + 256 * (d1 + 256 * (d2 + 256 * (d3 + 256 * (d4 + 256 * (d5 + 256 * (d6 + 256 * d7)))))) := by
    rw [hV0]; clear in1 sl hVl hr wx hw hV0; omega
  have hv1 := own_v1 V d0 d1 d2 d3 d4 d5 d6 d7 g0 g1 g2 g3 g4 g5 g6 g7 hV
  have hv2 := own_v2 (v1 V) _ _ _ _ (own_b10 g0 g1) (own_b10 g2 g3) (own_b10 g4 g5) (own_b10 g6 g7) hv1
  have hv3 := own_v3 (v2 (v1 V)) _ _ (own_b100 (own_b10 g0 g1) (own_b10 g2 g3)) (own_b100 (own_b10 g4 g5) (own_b10 g6 g7)) hv2
  have hd := (c_ldiv x (1 : Int64) 1 (by decide +kernel) (by decide +kernel)).1 hx
  have hu := own_un (v3 (v2 (v1 V)))
  have hr3 := rng64 (v3 (v2 (v1 V)))
  rw [← Int64.toInt_inj, hd, hn]
  rw [hv3] at hu
  have t0 := own_dd n 1
  have t1 := own_dd n 10
  have t2 := own_dd n 100
  have t3 := own_dd n 1000
  have t4 := own_dd n 10000
  have t5 := own_dd n 100000
  have t6 := own_dd n 1000000
  have t7 := own_dd n 10000000
  simp only [Nat.one_mul, Nat.div_one, show 10 * 10 = 100 from rfl, show 100 * 10 = 1000 from rfl, show 1000 * 10 = 10000 from rfl, show 10000 * 10 = 100000 from rfl, show 100000 * 10 = 1000000 from rfl, show 1000000 * 10 = 10000000 from rfl, show 10000000 * 10 = 100000000 from rfl] at t0 t1 t2 t3 t4 t5 t6 t7
  rw [← h0] at t7
  rw [← h1] at t6
  rw [← h2] at t5
  rw [← h3] at t4
  rw [← h4] at t3
  rw [← h5] at t2
  rw [← h6] at t1
  rw [← h7] at t0
  have t8 : n / 100000000 = 0 := Nat.div_eq_of_lt hn8
  have hq : ((n : Int) / (1 : Int)) = ((n / 1 : Nat) : Int) := rfl
  rw [hq]
  clear hv1 hv2 hv3 hV hV0 hr sl in1 wx hw hd hx hx2 hn hn8 hq hVl h0 h1 h2 h3 h4 h5 h6 h7
  generalize n / 100000000 = q8 at *
  generalize n / 10000000 = q7 at *
  generalize n / 1000000 = q6 at *
  generalize n / 100000 = q5 at *
  generalize n / 10000 = q4 at *
  generalize n / 1000 = q3 at *
  generalize n / 100 = q2 at *
  generalize n / 10 = q1 at *
  generalize (v3 (v2 (v1 V))).toInt = y at *
  subst t8
  omega
theorem pd__JJI_J_376 : parseMethodDescriptor "(JJI)J" = some ⟨[.long, .long, .int], some .long⟩ := by decide +kernel
theorem pd__JI_J_302 : parseMethodDescriptor "(JI)J" = some ⟨[.long, .int], some .long⟩ := by decide +kernel
theorem ef_0 (m : MethodId) (x0 : Int32) (x1 : Int32) (x2 : Int64) : entryFrame m #[(.int x0), (.int x1), (.long x2)] maxLocals = mkF m 0 #[.val (.int x0), .val (.int x1), .val (.long x2), .second, .unset, .unset, .unset, .unset, .unset, .unset, .unset, .unset, .unset, .unset] [] := by first | (simp [entryFrame, mkF, argsToLocals, Value.category, maxLocals]; done) | rfl
def Q0 (Z : State) (p0 : Int32) (p1 : Int32) (q2 : Int64) (h0 : Heap) (n0 : Nat) (v : Option Value) (h : Heap) (L : List Loc) : Prop := v = some (.int 1) ∧ Fr n0 L
set_option maxRecDepth 65536 in
set_option maxHeartbeats 40000000 in
theorem rm0 (l : Launch) (Z : State) (a0 : Array Value) (hw : ∀ d ∈ tables_1, d.before a0 Z = true) (ws : List Jvm.Cond) (p0 : Int32) (p1 : Int32) (q2 : Int64) (h0 : Heap) (n0 : Nat) (Z0 : n0 ≤ h0.size)  :
    own_CT l Z x code maxLocals ret ws room_1 #[(.int p0), (.int p1), (.long q2)] h0 (Q0 Z p0 p1 q2 h0 n0) := by
  refine MetFree.of_bodySF (plainFor_of_name pn_com_example_breakwater_breakwater_model_DigitsValueOfPinLaw) hisR ?_
  intro p e s m args below meth c s₁ Bd hml0 hP hK
  obtain ⟨rfl, hZ, hh⟩ := hP
  have hx := Bd.exec
  have hby := Bd.bytes
  have hml : c.maxLocals = 14 := hml0
  have hown : s.vm.findClass "com/example/breakwater/breakwater/model/DigitsValueOfPinLaw" = some m.cls := findClass_of_methodNamed Bd.named
  have hnm := (name_of_methodNamed Bd.named Bd.method).1
  have hlk : meth.locks = false := BodyLoose.notSynchronized Bd
  have X0 : Stand p l e room_1 s m #[(.int p0), (.int p1), (.long q2)] below meth c s₁ [] 0 0 := Stand.of_body Bd
  have e0 : s₁.heap = h0 := by rw [← hh, Bd.state]; rfl
  have N0 := Fr.nil n0
  show GG p e below s room_1.cells room_1.slots (Q0 Z p0 p1 q2 h0 n0) s₁ (entryFrame m #[(.int p0), (.int p1), (.long q2)] maxLocals)
  refine own_in (ef_0 m p0 p1 q2) ?_
  show GG _ _ _ _ _ _ _ s₁ (mkF m 0 #[.val (.int p0), .val (.int p1), .val (.long q2), .second, .unset, .unset, .unset, .unset, .unset, .unset, .unset, .unset, .unset, .unset] [])
  refine own_go (fun _ => XS.bipush X0.here hx rfl (hb hby at_0)) ?_
  show GG _ _ _ _ _ _ _ s₁ (mkF m 2 #[.val (.int p0), .val (.int p1), .val (.long q2), .second, .unset, .unset, .unset, .unset, .unset, .unset, .unset, .unset, .unset, .unset] [(.int (9 : Int32))])
  have K0 := Keep.refl h0 []
  obtain ⟨T1, h1, ob1, g1, X1, e1, E1, V_ob1, E_ob1, st1⟩ := own_newarr X0 hx hZ (hw _ (List.mem_of_getElem? (i := 0) rfl)) e0 (g := (mkF m 2 #[.val (.int p0), .val (.int p1), .val (.long q2), .second, .unset, .unset, .unset, .unset, .unset, .unset, .unset, .unset, .unset, .unset] [(.int (9 : Int32))])) rfl (hb hby at_2) rfl (by decide) (cap := 9) (by decide) (by decide) (by decide) (by decide) (ad := "[J") (by decide)
  have sz_ob1 : h0.size ≤ ob1 := Nat.le_trans K0.1 (Nat.le_of_eq g1.symm)
  have g_ob1 : n0 ≤ ob1 := Nat.le_trans Z0 sz_ob1
  have K0 := K0.ext E1
  have V_ob1 : Arx Z h1 ob1 .long [(.long (0 : Int64)), (.long (0 : Int64)), (.long (0 : Int64)), (.long (0 : Int64)), (.long (0 : Int64)), (.long (0 : Int64)), (.long (0 : Int64)), (.long (0 : Int64)), (.long (0 : Int64))] := V_ob1
  refine own_go (fun _ => st1 _) ?_
  show GG _ _ _ _ _ _ _ T1 (mkF m 4 #[.val (.int p0), .val (.int p1), .val (.long q2), .second, .unset, .unset, .unset, .unset, .unset, .unset, .unset, .unset, .unset, .unset] [(.ref ob1)])
  refine own_go (fun _ => XS.dup X1.here hx rfl (hb hby at_4) rfl rfl) ?_
  show GG _ _ _ _ _ _ _ T1 (mkF m 5 #[.val (.int p0), .val (.int p1), .val (.long q2), .second, .unset, .unset, .unset, .unset, .unset, .unset, .unset, .unset, .unset, .unset] [(.ref ob1), (.ref ob1)])
  refine own_go (fun _ => XS.iconst X1.here hx rfl (hb hby at_5)) ?_
  show GG _ _ _ _ _ _ _ T1 (mkF m 6 #[.val (.int p0), .val (.int p1), .val (.long q2), .second, .unset, .unset, .unset, .unset, .unset, .unset, .unset, .unset, .unset, .unset] [(.int (0 : Int32)), (.ref ob1), (.ref ob1)])
  refine own_go (fun _ => XS.lconst X1.here hx rfl (hb hby at_6)) ?_
  show GG _ _ _ _ _ _ _ T1 (mkF m 7 #[.val (.int p0), .val (.int p1), .val (.long q2), .second, .unset, .unset, .unset, .unset, .unset, .unset, .unset, .unset, .unset, .unset] [(.long (1 : Int64)), (.int (0 : Int32)), (.ref ob1), (.ref ob1)])
  obtain ⟨T2, h2, X2, e2, W2, V2, st2⟩ := own_lastore X1 hx hZ e1 V_ob1 (by decide) (Nat.le_of_ble_eq_true rfl) (g := (mkF m 7 #[.val (.int p0), .val (.int p1), .val (.long q2), .second, .unset, .unset, .unset, .unset, .unset, .unset, .unset, .unset, .unset, .unset] [(.long (1 : Int64)), (.int (0 : Int32)), (.ref ob1), (.ref ob1)])) rfl rfl (hb hby at_7)
  have K0 := K0.wr W2 (Or.inr sz_ob1)
  have E_ob1 := E_ob1.wr W2
  have V_ob1 : Arx Z h2 ob1 .long [(.long (1 : Int64)), (.long (0 : Int64)), (.long (0 : Int64)), (.long (0 : Int64)), (.long (0 : Int64)), (.long (0 : Int64)), (.long (0 : Int64)), (.long (0 : Int64)), (.long (0 : Int64))] := V2
  have N2 := Fr.snoc X2 N0 g_ob1
  refine own_go (fun _ => st2 _) ?_
  show GG _ _ _ _ _ _ _ T2 (mkF m 8 #[.val (.int p0), .val (.int p1), .val (.long q2), .second, .unset, .unset, .unset, .unset, .unset, .unset, .unset, .unset, .unset, .unset] [(.ref ob1)])
  refine own_go (fun _ => XS.dup X2.here hx rfl (hb hby at_8) rfl rfl) ?_
  show GG _ _ _ _ _ _ _ T2 (mkF m 9 #[.val (.int p0), .val (.int p1), .val (.long q2), .second, .unset, .unset, .unset, .unset, .unset, .unset, .unset, .unset, .unset, .unset] [(.ref ob1), (.ref ob1)])
  refine own_go (fun _ => XS.iconst X2.here hx rfl (hb hby at_9)) ?_
  show GG _ _ _ _ _ _ _ T2 (mkF m 10 #[.val (.int p0), .val (.int p1), .val (.long q2), .second, .unset, .unset, .unset, .unset, .unset, .unset, .unset, .unset, .unset, .unset] [(.int (1 : Int32)), (.ref ob1), (.ref ob1)])
  refine own_go (fun _ => X2.ldc2Long hx hown (mvT hZ (hw _ (List.mem_of_getElem? (i := 1) rfl))) (g := (mkF m 10 #[.val (.int p0), .val (.int p1), .val (.long q2), .second, .unset, .unset, .unset, .unset, .unset, .unset, .unset, .unset, .unset, .unset] [(.int (1 : Int32)), (.ref ob1), (.ref ob1)])) rfl (hb hby at_10) _) ?_
  show GG _ _ _ _ _ _ _ T2 (mkF m 13 #[.val (.int p0), .val (.int p1), .val (.long q2), .second, .unset, .unset, .unset, .unset, .unset, .unset, .unset, .unset, .unset, .unset] [(.long (10 : Int64)), (.int (1 : Int32)), (.ref ob1), (.ref ob1)])
  obtain ⟨T3, h3, X3, e3, W3, V3, st3⟩ := own_lastore X2 hx hZ e2 V_ob1 (by decide) (Nat.le_of_ble_eq_true rfl) (g := (mkF m 13 #[.val (.int p0), .val (.int p1), .val (.long q2), .second, .unset, .unset, .unset, .unset, .unset, .unset, .unset, .unset, .unset, .unset] [(.long (10 : Int64)), (.int (1 : Int32)), (.ref ob1), (.ref ob1)])) rfl rfl (hb hby at_13)
  have K0 := K0.wr W3 (Or.inr sz_ob1)
  have E_ob1 := E_ob1.wr W3
  have V_ob1 : Arx Z h3 ob1 .long [(.long (1 : Int64)), (.long (10 : Int64)), (.long (0 : Int64)), (.long (0 : Int64)), (.long (0 : Int64)), (.long (0 : Int64)), (.long (0 : Int64)), (.long (0 : Int64)), (.long (0 : Int64))] := V3
  have N3 := Fr.snoc X3 N2 g_ob1
  refine own_go (fun _ => st3 _) ?_
  show GG _ _ _ _ _ _ _ T3 (mkF m 14 #[.val (.int p0), .val (.int p1), .val (.long q2), .second, .unset, .unset, .unset, .unset, .unset, .unset, .unset, .unset, .unset, .unset] [(.ref ob1)])
  refine own_go (fun _ => XS.dup X3.here hx rfl (hb hby at_14) rfl rfl) ?_
  show GG _ _ _ _ _ _ _ T3 (mkF m 15 #[.val (.int p0), .val (.int p1), .val (.long q2), .second, .unset, .unset, .unset, .unset, .unset, .unset, .unset, .unset, .unset, .unset] [(.ref ob1), (.ref ob1)])
  refine own_go (fun _ => XS.iconst X3.here hx rfl (hb hby at_15)) ?_
  show GG _ _ _ _ _ _ _ T3 (mkF m 16 #[.val (.int p0), .val (.int p1), .val (.long q2), .second, .unset, .unset, .unset, .unset, .unset, .unset, .unset, .unset, .unset, .unset] [(.int (2 : Int32)), (.ref ob1), (.ref ob1)])
  refine own_go (fun _ => X3.ldc2Long hx hown (mvT hZ (hw _ (List.mem_of_getElem? (i := 2) rfl))) (g := (mkF m 16 #[.val (.int p0), .val (.int p1), .val (.long q2), .second, .unset, .unset, .unset, .unset, .unset, .unset, .unset, .unset, .unset, .unset] [(.int (2 : Int32)), (.ref ob1), (.ref ob1)])) rfl (hb hby at_16) _) ?_
  show GG _ _ _ _ _ _ _ T3 (mkF m 19 #[.val (.int p0), .val (.int p1), .val (.long q2), .second, .unset, .unset, .unset, .unset, .unset, .unset, .unset, .unset, .unset, .unset] [(.long (100 : Int64)), (.int (2 : Int32)), (.ref ob1), (.ref ob1)])
  obtain ⟨T4, h4, X4, e4, W4, V4, st4⟩ := own_lastore X3 hx hZ e3 V_ob1 (by decide) (Nat.le_of_ble_eq_true rfl) (g := (mkF m 19 #[.val (.int p0), .val (.int p1), .val (.long q2), .second, .unset, .unset, .unset, .unset, .unset, .unset, .unset, .unset, .unset, .unset] [(.long (100 : Int64)), (.int (2 : Int32)), (.ref ob1), (.ref ob1)])) rfl rfl (hb hby at_19)
  have K0 := K0.wr W4 (Or.inr sz_ob1)
  have E_ob1 := E_ob1.wr W4
  have V_ob1 : Arx Z h4 ob1 .long [(.long (1 : Int64)), (.long (10 : Int64)), (.long (100 : Int64)), (.long (0 : Int64)), (.long (0 : Int64)), (.long (0 : Int64)), (.long (0 : Int64)), (.long (0 : Int64)), (.long (0 : Int64))] := V4
  have N4 := Fr.snoc X4 N3 g_ob1
  refine own_go (fun _ => st4 _) ?_
  show GG _ _ _ _ _ _ _ T4 (mkF m 20 #[.val (.int p0), .val (.int p1), .val (.long q2), .second, .unset, .unset, .unset, .unset, .unset, .unset, .unset, .unset, .unset, .unset] [(.ref ob1)])
  refine own_go (fun _ => XS.dup X4.here hx rfl (hb hby at_20) rfl rfl) ?_
  show GG _ _ _ _ _ _ _ T4 (mkF m 21 #[.val (.int p0), .val (.int p1), .val (.long q2), .second, .unset, .unset, .unset, .unset, .unset, .unset, .unset, .unset, .unset, .unset] [(.ref ob1), (.ref ob1)])
  refine own_go (fun _ => XS.iconst X4.here hx rfl (hb hby at_21)) ?_
  show GG _ _ _ _ _ _ _ T4 (mkF m 22 #[.val (.int p0), .val (.int p1), .val (.long q2), .second, .unset, .unset, .unset, .unset, .unset, .unset, .unset, .unset, .unset, .unset] [(.int (3 : Int32)), (.ref ob1), (.ref ob1)])
  refine own_go (fun _ => X4.ldc2Long hx hown (mvT hZ (hw _ (List.mem_of_getElem? (i := 3) rfl))) (g := (mkF m 22 #[.val (.int p0), .val (.int p1), .val (.long q2), .second, .unset, .unset, .unset, .unset, .unset, .unset, .unset, .unset, .unset, .unset] [(.int (3 : Int32)), (.ref ob1), (.ref ob1)])) rfl (hb hby at_22) _) ?_
  show GG _ _ _ _ _ _ _ T4 (mkF m 25 #[.val (.int p0), .val (.int p1), .val (.long q2), .second, .unset, .unset, .unset, .unset, .unset, .unset, .unset, .unset, .unset, .unset] [(.long (1000 : Int64)), (.int (3 : Int32)), (.ref ob1), (.ref ob1)])
  obtain ⟨T5, h5, X5, e5, W5, V5, st5⟩ := own_lastore X4 hx hZ e4 V_ob1 (by decide) (Nat.le_of_ble_eq_true rfl) (g := (mkF m 25 #[.val (.int p0), .val (.int p1), .val (.long q2), .second, .unset, .unset, .unset, .unset, .unset, .unset, .unset, .unset, .unset, .unset] [(.long (1000 : Int64)), (.int (3 : Int32)), (.ref ob1), (.ref ob1)])) rfl rfl (hb hby at_25)
  have K0 := K0.wr W5 (Or.inr sz_ob1)
  have E_ob1 := E_ob1.wr W5
  have V_ob1 : Arx Z h5 ob1 .long [(.long (1 : Int64)), (.long (10 : Int64)), (.long (100 : Int64)), (.long (1000 : Int64)), (.long (0 : Int64)), (.long (0 : Int64)), (.long (0 : Int64)), (.long (0 : Int64)), (.long (0 : Int64))] := V5
  have N5 := Fr.snoc X5 N4 g_ob1
  refine own_go (fun _ => st5 _) ?_
  show GG _ _ _ _ _ _ _ T5 (mkF m 26 #[.val (.int p0), .val (.int p1), .val (.long q2), .second, .unset, .unset, .unset, .unset, .unset, .unset, .unset, .unset, .unset, .unset] [(.ref ob1)])
  refine own_go (fun _ => XS.dup X5.here hx rfl (hb hby at_26) rfl rfl) ?_
  show GG _ _ _ _ _ _ _ T5 (mkF m 27 #[.val (.int p0), .val (.int p1), .val (.long q2), .second, .unset, .unset, .unset, .unset, .unset, .unset, .unset, .unset, .unset, .unset] [(.ref ob1), (.ref ob1)])
  refine own_go (fun _ => XS.iconst X5.here hx rfl (hb hby at_27)) ?_
  show GG _ _ _ _ _ _ _ T5 (mkF m 28 #[.val (.int p0), .val (.int p1), .val (.long q2), .second, .unset, .unset, .unset, .unset, .unset, .unset, .unset, .unset, .unset, .unset] [(.int (4 : Int32)), (.ref ob1), (.ref ob1)])
  refine own_go (fun _ => X5.ldc2Long hx hown (mvT hZ (hw _ (List.mem_of_getElem? (i := 4) rfl))) (g := (mkF m 28 #[.val (.int p0), .val (.int p1), .val (.long q2), .second, .unset, .unset, .unset, .unset, .unset, .unset, .unset, .unset, .unset, .unset] [(.int (4 : Int32)), (.ref ob1), (.ref ob1)])) rfl (hb hby at_28) _) ?_
  show GG _ _ _ _ _ _ _ T5 (mkF m 31 #[.val (.int p0), .val (.int p1), .val (.long q2), .second, .unset, .unset, .unset, .unset, .unset, .unset, .unset, .unset, .unset, .unset] [(.long (10000 : Int64)), (.int (4 : Int32)), (.ref ob1), (.ref ob1)])
  obtain ⟨T6, h6, X6, e6, W6, V6, st6⟩ := own_lastore X5 hx hZ e5 V_ob1 (by decide) (Nat.le_of_ble_eq_true rfl) (g := (mkF m 31 #[.val (.int p0), .val (.int p1), .val (.long q2), .second, .unset, .unset, .unset, .unset, .unset, .unset, .unset, .unset, .unset, .unset] [(.long (10000 : Int64)), (.int (4 : Int32)), (.ref ob1), (.ref ob1)])) rfl rfl (hb hby at_31)
  have K0 := K0.wr W6 (Or.inr sz_ob1)
  have E_ob1 := E_ob1.wr W6
  have V_ob1 : Arx Z h6 ob1 .long [(.long (1 : Int64)), (.long (10 : Int64)), (.long (100 : Int64)), (.long (1000 : Int64)), (.long (10000 : Int64)), (.long (0 : Int64)), (.long (0 : Int64)), (.long (0 : Int64)), (.long (0 : Int64))] := V6
  have N6 := Fr.snoc X6 N5 g_ob1
  refine own_go (fun _ => st6 _) ?_
  show GG _ _ _ _ _ _ _ T6 (mkF m 32 #[.val (.int p0), .val (.int p1), .val (.long q2), .second, .unset, .unset, .unset, .unset, .unset, .unset, .unset, .unset, .unset, .unset] [(.ref ob1)])
  refine own_go (fun _ => XS.dup X6.here hx rfl (hb hby at_32) rfl rfl) ?_
  show GG _ _ _ _ _ _ _ T6 (mkF m 33 #[.val (.int p0), .val (.int p1), .val (.long q2), .second, .unset, .unset, .unset, .unset, .unset, .unset, .unset, .unset, .unset, .unset] [(.ref ob1), (.ref ob1)])
  refine own_go (fun _ => XS.iconst X6.here hx rfl (hb hby at_33)) ?_
  show GG _ _ _ _ _ _ _ T6 (mkF m 34 #[.val (.int p0), .val (.int p1), .val (.long q2), .second, .unset, .unset, .unset, .unset, .unset, .unset, .unset, .unset, .unset, .unset] [(.int (5 : Int32)), (.ref ob1), (.ref ob1)])
  refine own_go (fun _ => X6.ldc2Long hx hown (mvT hZ (hw _ (List.mem_of_getElem? (i := 5) rfl))) (g := (mkF m 34 #[.val (.int p0), .val (.int p1), .val (.long q2), .second, .unset, .unset, .unset, .unset, .unset, .unset, .unset, .unset, .unset, .unset] [(.int (5 : Int32)), (.ref ob1), (.ref ob1)])) rfl (hb hby at_34) _) ?_
  show GG _ _ _ _ _ _ _ T6 (mkF m 37 #[.val (.int p0), .val (.int p1), .val (.long q2), .second, .unset, .unset, .unset, .unset, .unset, .unset, .unset, .unset, .unset, .unset] [(.long (100000 : Int64)), (.int (5 : Int32)), (.ref ob1), (.ref ob1)])
  obtain ⟨T7, h7, X7, e7, W7, V7, st7⟩ := own_lastore X6 hx hZ e6 V_ob1 (by decide) (Nat.le_of_ble_eq_true rfl) (g := (mkF m 37 #[.val (.int p0), .val (.int p1), .val (.long q2), .second, .unset, .unset, .unset, .unset, .unset, .unset, .unset, .unset, .unset, .unset] [(.long (100000 : Int64)), (.int (5 : Int32)), (.ref ob1), (.ref ob1)])) rfl rfl (hb hby at_37)
  have K0 := K0.wr W7 (Or.inr sz_ob1)
  have E_ob1 := E_ob1.wr W7
  have V_ob1 : Arx Z h7 ob1 .long [(.long (1 : Int64)), (.long (10 : Int64)), (.long (100 : Int64)), (.long (1000 : Int64)), (.long (10000 : Int64)), (.long (100000 : Int64)), (.long (0 : Int64)), (.long (0 : Int64)), (.long (0 : Int64))] := V7
  have N7 := Fr.snoc X7 N6 g_ob1
  refine own_go (fun _ => st7 _) ?_
  show GG _ _ _ _ _ _ _ T7 (mkF m 38 #[.val (.int p0), .val (.int p1), .val (.long q2), .second, .unset, .unset, .unset, .unset, .unset, .unset, .unset, .unset, .unset, .unset] [(.ref ob1)])
  refine own_go (fun _ => XS.dup X7.here hx rfl (hb hby at_38) rfl rfl) ?_
  show GG _ _ _ _ _ _ _ T7 (mkF m 39 #[.val (.int p0), .val (.int p1), .val (.long q2), .second, .unset, .unset, .unset, .unset, .unset, .unset, .unset, .unset, .unset, .unset] [(.ref ob1), (.ref ob1)])
  refine own_go (fun _ => XS.bipush X7.here hx rfl (hb hby at_39)) ?_
  show GG _ _ _ _ _ _ _ T7 (mkF m 41 #[.val (.int p0), .val (.int p1), .val (.long q2), .second, .unset, .unset, .unset, .unset, .unset, .unset, .unset, .unset, .unset, .unset] [(.int (6 : Int32)), (.ref ob1), (.ref ob1)])
  refine own_go (fun _ => X7.ldc2Long hx hown (mvT hZ (hw _ (List.mem_of_getElem? (i := 6) rfl))) (g := (mkF m 41 #[.val (.int p0), .val (.int p1), .val (.long q2), .second, .unset, .unset, .unset, .unset, .unset, .unset, .unset, .unset, .unset, .unset] [(.int (6 : Int32)), (.ref ob1), (.ref ob1)])) rfl (hb hby at_41) _) ?_
  show GG _ _ _ _ _ _ _ T7 (mkF m 44 #[.val (.int p0), .val (.int p1), .val (.long q2), .second, .unset, .unset, .unset, .unset, .unset, .unset, .unset, .unset, .unset, .unset] [(.long (1000000 : Int64)), (.int (6 : Int32)), (.ref ob1), (.ref ob1)])
  obtain ⟨T8, h8, X8, e8, W8, V8, st8⟩ := own_lastore X7 hx hZ e7 V_ob1 (by decide) (Nat.le_of_ble_eq_true rfl) (g := (mkF m 44 #[.val (.int p0), .val (.int p1), .val (.long q2), .second, .unset, .unset, .unset, .unset, .unset, .unset, .unset, .unset, .unset, .unset] [(.long (1000000 : Int64)), (.int (6 : Int32)), (.ref ob1), (.ref ob1)])) rfl rfl (hb hby at_44)
  have K0 := K0.wr W8 (Or.inr sz_ob1)
  have E_ob1 := E_ob1.wr W8
  have V_ob1 : Arx Z h8 ob1 .long [(.long (1 : Int64)), (.long (10 : Int64)), (.long (100 : Int64)), (.long (1000 : Int64)), (.long (10000 : Int64)), (.long (100000 : Int64)), (.long (1000000 : Int64)), (.long (0 : Int64)), (.long (0 : Int64))] := V8
  have N8 := Fr.snoc X8 N7 g_ob1
  refine own_go (fun _ => st8 _) ?_
  show GG _ _ _ _ _ _ _ T8 (mkF m 45 #[.val (.int p0), .val (.int p1), .val (.long q2), .second, .unset, .unset, .unset, .unset, .unset, .unset, .unset, .unset, .unset, .unset] [(.ref ob1)])
  refine own_go (fun _ => XS.dup X8.here hx rfl (hb hby at_45) rfl rfl) ?_
  show GG _ _ _ _ _ _ _ T8 (mkF m 46 #[.val (.int p0), .val (.int p1), .val (.long q2), .second, .unset, .unset, .unset, .unset, .unset, .unset, .unset, .unset, .unset, .unset] [(.ref ob1), (.ref ob1)])
  refine own_go (fun _ => XS.bipush X8.here hx rfl (hb hby at_46)) ?_
  show GG _ _ _ _ _ _ _ T8 (mkF m 48 #[.val (.int p0), .val (.int p1), .val (.long q2), .second, .unset, .unset, .unset, .unset, .unset, .unset, .unset, .unset, .unset, .unset] [(.int (7 : Int32)), (.ref ob1), (.ref ob1)])
  refine own_go (fun _ => X8.ldc2Long hx hown (mvT hZ (hw _ (List.mem_of_getElem? (i := 7) rfl))) (g := (mkF m 48 #[.val (.int p0), .val (.int p1), .val (.long q2), .second, .unset, .unset, .unset, .unset, .unset, .unset, .unset, .unset, .unset, .unset] [(.int (7 : Int32)), (.ref ob1), (.ref ob1)])) rfl (hb hby at_48) _) ?_
  show GG _ _ _ _ _ _ _ T8 (mkF m 51 #[.val (.int p0), .val (.int p1), .val (.long q2), .second, .unset, .unset, .unset, .unset, .unset, .unset, .unset, .unset, .unset, .unset] [(.long (10000000 : Int64)), (.int (7 : Int32)), (.ref ob1), (.ref ob1)])
  obtain ⟨T9, h9, X9, e9, W9, V9, st9⟩ := own_lastore X8 hx hZ e8 V_ob1 (by decide) (Nat.le_of_ble_eq_true rfl) (g := (mkF m 51 #[.val (.int p0), .val (.int p1), .val (.long q2), .second, .unset, .unset, .unset, .unset, .unset, .unset, .unset, .unset, .unset, .unset] [(.long (10000000 : Int64)), (.int (7 : Int32)), (.ref ob1), (.ref ob1)])) rfl rfl (hb hby at_51)
  have K0 := K0.wr W9 (Or.inr sz_ob1)
  have E_ob1 := E_ob1.wr W9
  have V_ob1 : Arx Z h9 ob1 .long [(.long (1 : Int64)), (.long (10 : Int64)), (.long (100 : Int64)), (.long (1000 : Int64)), (.long (10000 : Int64)), (.long (100000 : Int64)), (.long (1000000 : Int64)), (.long (10000000 : Int64)), (.long (0 : Int64))] := V9
  have N9 := Fr.snoc X9 N8 g_ob1
  refine own_go (fun _ => st9 _) ?_
  show GG _ _ _ _ _ _ _ T9 (mkF m 52 #[.val (.int p0), .val (.int p1), .val (.long q2), .second, .unset, .unset, .unset, .unset, .unset, .unset, .unset, .unset, .unset, .unset] [(.ref ob1)])
  refine own_go (fun _ => XS.dup X9.here hx rfl (hb hby at_52) rfl rfl) ?_
  show GG _ _ _ _ _ _ _ T9 (mkF m 53 #[.val (.int p0), .val (.int p1), .val (.long q2), .second, .unset, .unset, .unset, .unset, .unset, .unset, .unset, .unset, .unset, .unset] [(.ref ob1), (.ref ob1)])
  refine own_go (fun _ => XS.bipush X9.here hx rfl (hb hby at_53)) ?_
  show GG _ _ _ _ _ _ _ T9 (mkF m 55 #[.val (.int p0), .val (.int p1), .val (.long q2), .second, .unset, .unset, .unset, .unset, .unset, .unset, .unset, .unset, .unset, .unset] [(.int (8 : Int32)), (.ref ob1), (.ref ob1)])
  refine own_go (fun _ => X9.ldc2Long hx hown (mvT hZ (hw _ (List.mem_of_getElem? (i := 8) rfl))) (g := (mkF m 55 #[.val (.int p0), .val (.int p1), .val (.long q2), .second, .unset, .unset, .unset, .unset, .unset, .unset, .unset, .unset, .unset, .unset] [(.int (8 : Int32)), (.ref ob1), (.ref ob1)])) rfl (hb hby at_55) _) ?_
  show GG _ _ _ _ _ _ _ T9 (mkF m 58 #[.val (.int p0), .val (.int p1), .val (.long q2), .second, .unset, .unset, .unset, .unset, .unset, .unset, .unset, .unset, .unset, .unset] [(.long (100000000 : Int64)), (.int (8 : Int32)), (.ref ob1), (.ref ob1)])
  obtain ⟨T10, h10, X10, e10, W10, V10, st10⟩ := own_lastore X9 hx hZ e9 V_ob1 (by decide) (Nat.le_of_ble_eq_true rfl) (g := (mkF m 58 #[.val (.int p0), .val (.int p1), .val (.long q2), .second, .unset, .unset, .unset, .unset, .unset, .unset, .unset, .unset, .unset, .unset] [(.long (100000000 : Int64)), (.int (8 : Int32)), (.ref ob1), (.ref ob1)])) rfl rfl (hb hby at_58)
  have K0 := K0.wr W10 (Or.inr sz_ob1)
  have E_ob1 := E_ob1.wr W10
  have V_ob1 : Arx Z h10 ob1 .long [(.long (1 : Int64)), (.long (10 : Int64)), (.long (100 : Int64)), (.long (1000 : Int64)), (.long (10000 : Int64)), (.long (100000 : Int64)), (.long (1000000 : Int64)), (.long (10000000 : Int64)), (.long (100000000 : Int64))] := V10
  have N10 := Fr.snoc X10 N9 g_ob1
  refine own_go (fun _ => st10 _) ?_
  show GG _ _ _ _ _ _ _ T10 (mkF m 59 #[.val (.int p0), .val (.int p1), .val (.long q2), .second, .unset, .unset, .unset, .unset, .unset, .unset, .unset, .unset, .unset, .unset] [(.ref ob1)])
  refine own_go (fun _ => XS.astore X10.here hx rfl (hb hby at_59) rfl rfl (l' := #[.val (.int p0), .val (.int p1), .val (.long q2), .second, .val (.ref ob1), .unset, .unset, .unset, .unset, .unset, .unset, .unset, .unset, .unset]) rfl) ?_
  show GG _ _ _ _ _ _ _ T10 (mkF m 61 #[.val (.int p0), .val (.int p1), .val (.long q2), .second, .val (.ref ob1), .unset, .unset, .unset, .unset, .unset, .unset, .unset, .unset, .unset] [])
  refine own_go (fun _ => XS.iloadN X10.here hx rfl (hb hby at_61) rfl) ?_
  show GG _ _ _ _ _ _ _ T10 (mkF m 62 #[.val (.int p0), .val (.int p1), .val (.long q2), .second, .val (.ref ob1), .unset, .unset, .unset, .unset, .unset, .unset, .unset, .unset, .unset] [(.int p0)])
  refine own_go (fun _ => X10.ldcInt hx hown (mvT hZ (hw _ (List.mem_of_getElem? (i := 9) rfl))) (g := (mkF m 62 #[.val (.int p0), .val (.int p1), .val (.long q2), .second, .val (.ref ob1), .unset, .unset, .unset, .unset, .unset, .unset, .unset, .unset, .unset] [(.int p0)])) rfl (hb hby at_62) _) ?_
  show GG _ _ _ _ _ _ _ T10 (mkF m 64 #[.val (.int p0), .val (.int p1), .val (.long q2), .second, .val (.ref ob1), .unset, .unset, .unset, .unset, .unset, .unset, .unset, .unset, .unset] [(.int (2147483647 : Int32)), (.int p0)])
  refine own_go (fun _ => XS.iand X10.here hx rfl (hb hby at_64) rfl) ?_
  show GG _ _ _ _ _ _ _ T10 (mkF m 65 #[.val (.int p0), .val (.int p1), .val (.long q2), .second, .val (.ref ob1), .unset, .unset, .unset, .unset, .unset, .unset, .unset, .unset, .unset] [(.int (p0 &&& (2147483647 : Int32)))])
  have cx11 := c_mask p0 (2147483647 : Int32) 31 (by decide) (by decide)
  generalize hx11 : (p0 &&& (2147483647 : Int32)) = x11 at cx11 ⊢
  have rx11 := rng32 x11
  refine own_go (fun _ => XS.i2l X10.here hx rfl (hb hby at_65) rfl) ?_
  show GG _ _ _ _ _ _ _ T10 (mkF m 66 #[.val (.int p0), .val (.int p1), .val (.long q2), .second, .val (.ref ob1), .unset, .unset, .unset, .unset, .unset, .unset, .unset, .unset, .unset] [(.long (x11.toInt64))])
  have cx12 := c_i2l x11
  generalize hx12 : (x11.toInt64) = x12 at cx12 ⊢
  have rx12 := rng64 x12
  refine own_go (fun _ => X10.ldc2Long hx hown (mvT hZ (hw _ (List.mem_of_getElem? (i := 8) rfl))) (g := (mkF m 66 #[.val (.int p0), .val (.int p1), .val (.long q2), .second, .val (.ref ob1), .unset, .unset, .unset, .unset, .unset, .unset, .unset, .unset, .unset] [(.long x12)])) rfl (hb hby at_66) _) ?_
  show GG _ _ _ _ _ _ _ T10 (mkF m 69 #[.val (.int p0), .val (.int p1), .val (.long q2), .second, .val (.ref ob1), .unset, .unset, .unset, .unset, .unset, .unset, .unset, .unset, .unset] [(.long (100000000 : Int64)), (.long x12)])
  refine own_go (fun _ => XS.lrem X10.here hx rfl (hb hby at_69) rfl (by decide)) ?_
  show GG _ _ _ _ _ _ _ T10 (mkF m 70 #[.val (.int p0), .val (.int p1), .val (.long q2), .second, .val (.ref ob1), .unset, .unset, .unset, .unset, .unset, .unset, .unset, .unset, .unset] [(.long (x12 - (x12 / (100000000 : Int64)) * (100000000 : Int64)))])
  have cx13 := c_lrem x12 (100000000 : Int64) 100000000 (by decide)
  generalize hx13 : (x12 - (x12 / (100000000 : Int64)) * (100000000 : Int64)) = x13 at cx13 ⊢
  have rx13 := rng64 x13
  refine own_go (fun _ => XS.lstore X10.here hx rfl (hb hby at_70) rfl (l' := #[.val (.int p0), .val (.int p1), .val (.long q2), .second, .val (.ref ob1), .val (.long x13), .second, .unset, .unset, .unset, .unset, .unset, .unset, .unset]) rfl) ?_
  show GG _ _ _ _ _ _ _ T10 (mkF m 72 #[.val (.int p0), .val (.int p1), .val (.long q2), .second, .val (.ref ob1), .val (.long x13), .second, .unset, .unset, .unset, .unset, .unset, .unset, .unset] [])
  refine own_go (fun _ => XS.iloadN X10.here hx rfl (hb hby at_72) rfl) ?_
  show GG _ _ _ _ _ _ _ T10 (mkF m 73 #[.val (.int p0), .val (.int p1), .val (.long q2), .second, .val (.ref ob1), .val (.long x13), .second, .unset, .unset, .unset, .unset, .unset, .unset, .unset] [(.int p1)])
  refine own_go (fun _ => XS.bipush X10.here hx rfl (hb hby at_73)) ?_
  show GG _ _ _ _ _ _ _ T10 (mkF m 75 #[.val (.int p0), .val (.int p1), .val (.long q2), .second, .val (.ref ob1), .val (.long x13), .second, .unset, .unset, .unset, .unset, .unset, .unset, .unset] [(.int (7 : Int32)), (.int p1)])
  refine own_go (fun _ => XS.iand X10.here hx rfl (hb hby at_75) rfl) ?_
  show GG _ _ _ _ _ _ _ T10 (mkF m 76 #[.val (.int p0), .val (.int p1), .val (.long q2), .second, .val (.ref ob1), .val (.long x13), .second, .unset, .unset, .unset, .unset, .unset, .unset, .unset] [(.int (p1 &&& (7 : Int32)))])
  have cx14 := c_mask p1 (7 : Int32) 3 (by decide) (by decide)
  generalize hx14 : (p1 &&& (7 : Int32)) = x14 at cx14 ⊢
  have rx14 := rng32 x14
  refine own_go (fun _ => XS.iconst X10.here hx rfl (hb hby at_76)) ?_
  show GG _ _ _ _ _ _ _ T10 (mkF m 77 #[.val (.int p0), .val (.int p1), .val (.long q2), .second, .val (.ref ob1), .val (.long x13), .second, .unset, .unset, .unset, .unset, .unset, .unset, .unset] [(.int (1 : Int32)), (.int x14)])
  refine own_go (fun _ => XS.iadd X10.here hx rfl (hb hby at_77) rfl) ?_
  show GG _ _ _ _ _ _ _ T10 (mkF m 78 #[.val (.int p0), .val (.int p1), .val (.long q2), .second, .val (.ref ob1), .val (.long x13), .second, .unset, .unset, .unset, .unset, .unset, .unset, .unset] [(.int (x14 + (1 : Int32)))])
  have cx15 := c_iadd x14 (1 : Int32)
  simp only [show ((1 : Int32)).toInt = 1 from by decide] at cx15
  generalize hx15 : (x14 + (1 : Int32)) = x15 at cx15 ⊢
  have rx15 := rng32 x15
  refine own_go (fun _ => XS.istore X10.here hx rfl (hb hby at_78) rfl (l' := #[.val (.int p0), .val (.int p1), .val (.long q2), .second, .val (.ref ob1), .val (.long x13), .second, .val (.int x15), .unset, .unset, .unset, .unset, .unset, .unset]) rfl) ?_
  show GG _ _ _ _ _ _ _ T10 (mkF m 80 #[.val (.int p0), .val (.int p1), .val (.long q2), .second, .val (.ref ob1), .val (.long x13), .second, .val (.int x15), .unset, .unset, .unset, .unset, .unset, .unset] [])
  have hx0 : 0 ≤ x13.toInt ∧ x13.toInt < 100000000 := by omega
  have h8 : x15 = 1 ∨ x15 = 2 ∨ x15 = 3 ∨ x15 = 4 ∨ x15 = 5 ∨ x15 = 6 ∨ x15 = 7 ∨ x15 = 8 := by simp only [← Int32.toInt_inj, show (1 : Int32).toInt = 1 from by decide +kernel, show (2 : Int32).toInt = 2 from by decide +kernel, show (3 : Int32).toInt = 3 from by decide +kernel, show (4 : Int32).toInt = 4 from by decide +kernel, show (5 : Int32).toInt = 5 from by decide +kernel, show (6 : Int32).toInt = 6 from by decide +kernel, show (7 : Int32).toInt = 7 from by decide +kernel, show (8 : Int32).toInt = 8 from by decide +kernel]; omega
  refine own_go (fun _ => XS.lload X10.here hx rfl (hb hby at_80) rfl) ?_
  show GG _ _ _ _ _ _ _ T10 (mkF m 82 #[.val (.int p0), .val (.int p1), .val (.long q2), .second, .val (.ref ob1), .val (.long x13), .second, .val (.int x15), .unset, .unset, .unset, .unset, .unset, .unset] [(.long x13)])
  refine own_go (fun _ => XS.aload X10.here hx rfl (hb hby at_82) rfl rfl) ?_
  show GG _ _ _ _ _ _ _ T10 (mkF m 84 #[.val (.int p0), .val (.int p1), .val (.long q2), .second, .val (.ref ob1), .val (.long x13), .second, .val (.int x15), .unset, .unset, .unset, .unset, .unset, .unset] [(.ref ob1), (.long x13)])
  refine own_go (fun _ => XS.bipush X10.here hx rfl (hb hby at_84)) ?_
  show GG _ _ _ _ _ _ _ T10 (mkF m 86 #[.val (.int p0), .val (.int p1), .val (.long q2), .second, .val (.ref ob1), .val (.long x13), .second, .val (.int x15), .unset, .unset, .unset, .unset, .unset, .unset] [(.int (7 : Int32)), (.ref ob1), (.long x13)])
  refine own_go (fun _ => own_laload X10 hx hZ e10 V_ob1 (j := (7 : Int32)) (v := (.long (10000000 : Int64))) (by decide) rfl (g := (mkF m 86 #[.val (.int p0), .val (.int p1), .val (.long q2), .second, .val (.ref ob1), .val (.long x13), .second, .val (.int x15), .unset, .unset, .unset, .unset, .unset, .unset] [(.int (7 : Int32)), (.ref ob1), (.long x13)])) rfl rfl (hb hby at_86) _) ?_
  show GG _ _ _ _ _ _ _ T10 (mkF m 87 #[.val (.int p0), .val (.int p1), .val (.long q2), .second, .val (.ref ob1), .val (.long x13), .second, .val (.int x15), .unset, .unset, .unset, .unset, .unset, .unset] [(.long (10000000 : Int64)), (.long x13)])
  refine own_go (fun _ => XS.iconst X10.here hx rfl (hb hby at_87)) ?_
  show GG _ _ _ _ _ _ _ T10 (mkF m 88 #[.val (.int p0), .val (.int p1), .val (.long q2), .second, .val (.ref ob1), .val (.long x13), .second, .val (.int x15), .unset, .unset, .unset, .unset, .unset, .unset] [(.int (0 : Int32)), (.long (10000000 : Int64)), (.long x13)])
  refine own_callS X10 hx hZ (y := (⟨"com/example/breakwater/breakwater/model/DigitsValueOfPinLaw", "digitByte", "(JJI)J"⟩ : MethodName)) 0 hown (hw _ (List.mem_of_getElem? (i := 10) rfl)) (hw _ (List.mem_of_getElem? (i := 11) rfl)) (hw _ (List.mem_of_getElem? (i := 12) rfl)) (hw _ (List.mem_of_getElem? (i := 13) rfl)) (by decide) (argsL := [(.long x13), (.long (10000000 : Int64)), (.int (0 : Int32))]) (rest := []) (rm1 l Z a0 hw [] x13 (10000000 : Int64) (0 : Int32) h10 n0 (Nat.le_trans Z0 K0.1) (by decide +kernel)) (by decide) (by decide) (by decide) (by decide) (g := (mkF m 88 #[.val (.int p0), .val (.int p1), .val (.long q2), .second, .val (.ref ob1), .val (.long x13), .second, .val (.int x15), .unset, .unset, .unset, .unset, .unset, .unset] [(.int (0 : Int32)), (.long (10000000 : Int64)), (.long x13)])) rfl (by rw [hml]; rfl) (lenOf pd__JJI_J_376 rfl) rfl (by show 2 * 0 + _ ≤ _; exact Nat.le_of_eq rfl) (hb hby at_88) e10 ?_
  rintro v16 T16 L16 X16 ⟨rfl, N16q, hh16⟩
  have N16 := Fr.app N10 N16q
  show GG _ _ _ _ _ _ _ T16 (mkF m 91 #[.val (.int p0), .val (.int p1), .val (.long q2), .second, .val (.ref ob1), .val (.long x13), .second, .val (.int x15), .unset, .unset, .unset, .unset, .unset, .unset] [(.long (dby x13 (10000000 : Int64) (0 : Int32)))])
  refine own_go (fun _ => XS.lload X16.here hx rfl (hb hby at_91) rfl) ?_
  show GG _ _ _ _ _ _ _ T16 (mkF m 93 #[.val (.int p0), .val (.int p1), .val (.long q2), .second, .val (.ref ob1), .val (.long x13), .second, .val (.int x15), .unset, .unset, .unset, .unset, .unset, .unset] [(.long x13), (.long (dby x13 (10000000 : Int64) (0 : Int32)))])
  refine own_go (fun _ => XS.aload X16.here hx rfl (hb hby at_93) rfl rfl) ?_
  show GG _ _ _ _ _ _ _ T16 (mkF m 95 #[.val (.int p0), .val (.int p1), .val (.long q2), .second, .val (.ref ob1), .val (.long x13), .second, .val (.int x15), .unset, .unset, .unset, .unset, .unset, .unset] [(.ref ob1), (.long x13), (.long (dby x13 (10000000 : Int64) (0 : Int32)))])
  refine own_go (fun _ => XS.bipush X16.here hx rfl (hb hby at_95)) ?_
  show GG _ _ _ _ _ _ _ T16 (mkF m 97 #[.val (.int p0), .val (.int p1), .val (.long q2), .second, .val (.ref ob1), .val (.long x13), .second, .val (.int x15), .unset, .unset, .unset, .unset, .unset, .unset] [(.int (6 : Int32)), (.ref ob1), (.long x13), (.long (dby x13 (10000000 : Int64) (0 : Int32)))])
  refine own_go (fun _ => own_laload X16 hx hZ hh16 V_ob1 (j := (6 : Int32)) (v := (.long (1000000 : Int64))) (by decide) rfl (g := (mkF m 97 #[.val (.int p0), .val (.int p1), .val (.long q2), .second, .val (.ref ob1), .val (.long x13), .second, .val (.int x15), .unset, .unset, .unset, .unset, .unset, .unset] [(.int (6 : Int32)), (.ref ob1), (.long x13), (.long (dby x13 (10000000 : Int64) (0 : Int32)))])) rfl rfl (hb hby at_97) _) ?_
  show GG _ _ _ _ _ _ _ T16 (mkF m 98 #[.val (.int p0), .val (.int p1), .val (.long q2), .second, .val (.ref ob1), .val (.long x13), .second, .val (.int x15), .unset, .unset, .unset, .unset, .unset, .unset] [(.long (1000000 : Int64)), (.long x13), (.long (dby x13 (10000000 : Int64) (0 : Int32)))])
  refine own_go (fun _ => XS.iconst X16.here hx rfl (hb hby at_98)) ?_
  show GG _ _ _ _ _ _ _ T16 (mkF m 99 #[.val (.int p0), .val (.int p1), .val (.long q2), .second, .val (.ref ob1), .val (.long x13), .second, .val (.int x15), .unset, .unset, .unset, .unset, .unset, .unset] [(.int (1 : Int32)), (.long (1000000 : Int64)), (.long x13), (.long (dby x13 (10000000 : Int64) (0 : Int32)))])
  refine own_callS X16 hx hZ (y := (⟨"com/example/breakwater/breakwater/model/DigitsValueOfPinLaw", "digitByte", "(JJI)J"⟩ : MethodName)) 2 hown (hw _ (List.mem_of_getElem? (i := 10) rfl)) (hw _ (List.mem_of_getElem? (i := 11) rfl)) (hw _ (List.mem_of_getElem? (i := 12) rfl)) (hw _ (List.mem_of_getElem? (i := 13) rfl)) (by decide) (argsL := [(.long x13), (.long (1000000 : Int64)), (.int (1 : Int32))]) (rest := [(.long (dby x13 (10000000 : Int64) (0 : Int32)))]) (rm1 l Z a0 hw [] x13 (1000000 : Int64) (1 : Int32) h10 n0 (Nat.le_trans Z0 K0.1) (by decide +kernel)) (by decide) (by decide) (by decide) (by decide) (g := (mkF m 99 #[.val (.int p0), .val (.int p1), .val (.long q2), .second, .val (.ref ob1), .val (.long x13), .second, .val (.int x15), .unset, .unset, .unset, .unset, .unset, .unset] [(.int (1 : Int32)), (.long (1000000 : Int64)), (.long x13), (.long (dby x13 (10000000 : Int64) (0 : Int32)))])) rfl (by rw [hml]; rfl) (lenOf pd__JJI_J_376 rfl) rfl (by show 2 * 0 + _ ≤ _; exact Nat.le_of_eq rfl) (hb hby at_99) hh16 ?_
  rintro v17 T17 L17 X17 ⟨rfl, N17q, hh17⟩
  have N17 := Fr.app N16 N17q
  show GG _ _ _ _ _ _ _ T17 (mkF m 102 #[.val (.int p0), .val (.int p1), .val (.long q2), .second, .val (.ref ob1), .val (.long x13), .second, .val (.int x15), .unset, .unset, .unset, .unset, .unset, .unset] [(.long (dby x13 (1000000 : Int64) (1 : Int32))), (.long (dby x13 (10000000 : Int64) (0 : Int32)))])
  refine own_go (fun _ => XS.lor X17.here hx rfl (hb hby at_102) rfl) ?_
  show GG _ _ _ _ _ _ _ T17 (mkF m 103 #[.val (.int p0), .val (.int p1), .val (.long q2), .second, .val (.ref ob1), .val (.long x13), .second, .val (.int x15), .unset, .unset, .unset, .unset, .unset, .unset] [(.long ((dby x13 (10000000 : Int64) (0 : Int32)) ||| (dby x13 (1000000 : Int64) (1 : Int32))))])
  refine own_go (fun _ => XS.lload X17.here hx rfl (hb hby at_103) rfl) ?_
  show GG _ _ _ _ _ _ _ T17 (mkF m 105 #[.val (.int p0), .val (.int p1), .val (.long q2), .second, .val (.ref ob1), .val (.long x13), .second, .val (.int x15), .unset, .unset, .unset, .unset, .unset, .unset] [(.long x13), (.long ((dby x13 (10000000 : Int64) (0 : Int32)) ||| (dby x13 (1000000 : Int64) (1 : Int32))))])
  refine own_go (fun _ => XS.aload X17.here hx rfl (hb hby at_105) rfl rfl) ?_
  show GG _ _ _ _ _ _ _ T17 (mkF m 107 #[.val (.int p0), .val (.int p1), .val (.long q2), .second, .val (.ref ob1), .val (.long x13), .second, .val (.int x15), .unset, .unset, .unset, .unset, .unset, .unset] [(.ref ob1), (.long x13), (.long ((dby x13 (10000000 : Int64) (0 : Int32)) ||| (dby x13 (1000000 : Int64) (1 : Int32))))])
  refine own_go (fun _ => XS.iconst X17.here hx rfl (hb hby at_107)) ?_
  show GG _ _ _ _ _ _ _ T17 (mkF m 108 #[.val (.int p0), .val (.int p1), .val (.long q2), .second, .val (.ref ob1), .val (.long x13), .second, .val (.int x15), .unset, .unset, .unset, .unset, .unset, .unset] [(.int (5 : Int32)), (.ref ob1), (.long x13), (.long ((dby x13 (10000000 : Int64) (0 : Int32)) ||| (dby x13 (1000000 : Int64) (1 : Int32))))])
  refine own_go (fun _ => own_laload X17 hx hZ hh17 V_ob1 (j := (5 : Int32)) (v := (.long (100000 : Int64))) (by decide) rfl (g := (mkF m 108 #[.val (.int p0), .val (.int p1), .val (.long q2), .second, .val (.ref ob1), .val (.long x13), .second, .val (.int x15), .unset, .unset, .unset, .unset, .unset, .unset] [(.int (5 : Int32)), (.ref ob1), (.long x13), (.long ((dby x13 (10000000 : Int64) (0 : Int32)) ||| (dby x13 (1000000 : Int64) (1 : Int32))))])) rfl rfl (hb hby at_108) _) ?_
  show GG _ _ _ _ _ _ _ T17 (mkF m 109 #[.val (.int p0), .val (.int p1), .val (.long q2), .second, .val (.ref ob1), .val (.long x13), .second, .val (.int x15), .unset, .unset, .unset, .unset, .unset, .unset] [(.long (100000 : Int64)), (.long x13), (.long ((dby x13 (10000000 : Int64) (0 : Int32)) ||| (dby x13 (1000000 : Int64) (1 : Int32))))])
  refine own_go (fun _ => XS.iconst X17.here hx rfl (hb hby at_109)) ?_
  show GG _ _ _ _ _ _ _ T17 (mkF m 110 #[.val (.int p0), .val (.int p1), .val (.long q2), .second, .val (.ref ob1), .val (.long x13), .second, .val (.int x15), .unset, .unset, .unset, .unset, .unset, .unset] [(.int (2 : Int32)), (.long (100000 : Int64)), (.long x13), (.long ((dby x13 (10000000 : Int64) (0 : Int32)) ||| (dby x13 (1000000 : Int64) (1 : Int32))))])
  refine own_callS X17 hx hZ (y := (⟨"com/example/breakwater/breakwater/model/DigitsValueOfPinLaw", "digitByte", "(JJI)J"⟩ : MethodName)) 2 hown (hw _ (List.mem_of_getElem? (i := 10) rfl)) (hw _ (List.mem_of_getElem? (i := 11) rfl)) (hw _ (List.mem_of_getElem? (i := 12) rfl)) (hw _ (List.mem_of_getElem? (i := 13) rfl)) (by decide) (argsL := [(.long x13), (.long (100000 : Int64)), (.int (2 : Int32))]) (rest := [(.long ((dby x13 (10000000 : Int64) (0 : Int32)) ||| (dby x13 (1000000 : Int64) (1 : Int32))))]) (rm1 l Z a0 hw [] x13 (100000 : Int64) (2 : Int32) h10 n0 (Nat.le_trans Z0 K0.1) (by decide +kernel)) (by decide) (by decide) (by decide) (by decide) (g := (mkF m 110 #[.val (.int p0), .val (.int p1), .val (.long q2), .second, .val (.ref ob1), .val (.long x13), .second, .val (.int x15), .unset, .unset, .unset, .unset, .unset, .unset] [(.int (2 : Int32)), (.long (100000 : Int64)), (.long x13), (.long ((dby x13 (10000000 : Int64) (0 : Int32)) ||| (dby x13 (1000000 : Int64) (1 : Int32))))])) rfl (by rw [hml]; rfl) (lenOf pd__JJI_J_376 rfl) rfl (by show 2 * 0 + _ ≤ _; exact Nat.le_of_eq rfl) (hb hby at_110) hh17 ?_
  rintro v18 T18 L18 X18 ⟨rfl, N18q, hh18⟩
  have N18 := Fr.app N17 N18q
  show GG _ _ _ _ _ _ _ T18 (mkF m 113 #[.val (.int p0), .val (.int p1), .val (.long q2), .second, .val (.ref ob1), .val (.long x13), .second, .val (.int x15), .unset, .unset, .unset, .unset, .unset, .unset] [(.long (dby x13 (100000 : Int64) (2 : Int32))), (.long ((dby x13 (10000000 : Int64) (0 : Int32)) ||| (dby x13 (1000000 : Int64) (1 : Int32))))])
  refine own_go (fun _ => XS.lor X18.here hx rfl (hb hby at_113) rfl) ?_
  show GG _ _ _ _ _ _ _ T18 (mkF m 114 #[.val (.int p0), .val (.int p1), .val (.long q2), .second, .val (.ref ob1), .val (.long x13), .second, .val (.int x15), .unset, .unset, .unset, .unset, .unset, .unset] [(.long (((dby x13 (10000000 : Int64) (0 : Int32)) ||| (dby x13 (1000000 : Int64) (1 : Int32))) ||| (dby x13 (100000 : Int64) (2 : Int32))))])
  refine own_go (fun _ => XS.lload X18.here hx rfl (hb hby at_114) rfl) ?_
  show GG _ _ _ _ _ _ _ T18 (mkF m 116 #[.val (.int p0), .val (.int p1), .val (.long q2), .second, .val (.ref ob1), .val (.long x13), .second, .val (.int x15), .unset, .unset, .unset, .unset, .unset, .unset] [(.long x13), (.long (((dby x13 (10000000 : Int64) (0 : Int32)) ||| (dby x13 (1000000 : Int64) (1 : Int32))) ||| (dby x13 (100000 : Int64) (2 : Int32))))])
  refine own_go (fun _ => XS.aload X18.here hx rfl (hb hby at_116) rfl rfl) ?_
  show GG _ _ _ _ _ _ _ T18 (mkF m 118 #[.val (.int p0), .val (.int p1), .val (.long q2), .second, .val (.ref ob1), .val (.long x13), .second, .val (.int x15), .unset, .unset, .unset, .unset, .unset, .unset] [(.ref ob1), (.long x13), (.long (((dby x13 (10000000 : Int64) (0 : Int32)) ||| (dby x13 (1000000 : Int64) (1 : Int32))) ||| (dby x13 (100000 : Int64) (2 : Int32))))])
  refine own_go (fun _ => XS.iconst X18.here hx rfl (hb hby at_118)) ?_
  show GG _ _ _ _ _ _ _ T18 (mkF m 119 #[.val (.int p0), .val (.int p1), .val (.long q2), .second, .val (.ref ob1), .val (.long x13), .second, .val (.int x15), .unset, .unset, .unset, .unset, .unset, .unset] [(.int (4 : Int32)), (.ref ob1), (.long x13), (.long (((dby x13 (10000000 : Int64) (0 : Int32)) ||| (dby x13 (1000000 : Int64) (1 : Int32))) ||| (dby x13 (100000 : Int64) (2 : Int32))))])
  refine own_go (fun _ => own_laload X18 hx hZ hh18 V_ob1 (j := (4 : Int32)) (v := (.long (10000 : Int64))) (by decide) rfl (g := (mkF m 119 #[.val (.int p0), .val (.int p1), .val (.long q2), .second, .val (.ref ob1), .val (.long x13), .second, .val (.int x15), .unset, .unset, .unset, .unset, .unset, .unset] [(.int (4 : Int32)), (.ref ob1), (.long x13), (.long (((dby x13 (10000000 : Int64) (0 : Int32)) ||| (dby x13 (1000000 : Int64) (1 : Int32))) ||| (dby x13 (100000 : Int64) (2 : Int32))))])) rfl rfl (hb hby at_119) _) ?_
  show GG _ _ _ _ _ _ _ T18 (mkF m 120 #[.val (.int p0), .val (.int p1), .val (.long q2), .second, .val (.ref ob1), .val (.long x13), .second, .val (.int x15), .unset, .unset, .unset, .unset, .unset, .unset] [(.long (10000 : Int64)), (.long x13), (.long (((dby x13 (10000000 : Int64) (0 : Int32)) ||| (dby x13 (1000000 : Int64) (1 : Int32))) ||| (dby x13 (100000 : Int64) (2 : Int32))))])
  refine own_go (fun _ => XS.iconst X18.here hx rfl (hb hby at_120)) ?_
  show GG _ _ _ _ _ _ _ T18 (mkF m 121 #[.val (.int p0), .val (.int p1), .val (.long q2), .second, .val (.ref ob1), .val (.long x13), .second, .val (.int x15), .unset, .unset, .unset, .unset, .unset, .unset] [(.int (3 : Int32)), (.long (10000 : Int64)), (.long x13), (.long (((dby x13 (10000000 : Int64) (0 : Int32)) ||| (dby x13 (1000000 : Int64) (1 : Int32))) ||| (dby x13 (100000 : Int64) (2 : Int32))))])
  refine own_callS X18 hx hZ (y := (⟨"com/example/breakwater/breakwater/model/DigitsValueOfPinLaw", "digitByte", "(JJI)J"⟩ : MethodName)) 2 hown (hw _ (List.mem_of_getElem? (i := 10) rfl)) (hw _ (List.mem_of_getElem? (i := 11) rfl)) (hw _ (List.mem_of_getElem? (i := 12) rfl)) (hw _ (List.mem_of_getElem? (i := 13) rfl)) (by decide) (argsL := [(.long x13), (.long (10000 : Int64)), (.int (3 : Int32))]) (rest := [(.long (((dby x13 (10000000 : Int64) (0 : Int32)) ||| (dby x13 (1000000 : Int64) (1 : Int32))) ||| (dby x13 (100000 : Int64) (2 : Int32))))]) (rm1 l Z a0 hw [] x13 (10000 : Int64) (3 : Int32) h10 n0 (Nat.le_trans Z0 K0.1) (by decide +kernel)) (by decide) (by decide) (by decide) (by decide) (g := (mkF m 121 #[.val (.int p0), .val (.int p1), .val (.long q2), .second, .val (.ref ob1), .val (.long x13), .second, .val (.int x15), .unset, .unset, .unset, .unset, .unset, .unset] [(.int (3 : Int32)), (.long (10000 : Int64)), (.long x13), (.long (((dby x13 (10000000 : Int64) (0 : Int32)) ||| (dby x13 (1000000 : Int64) (1 : Int32))) ||| (dby x13 (100000 : Int64) (2 : Int32))))])) rfl (by rw [hml]; rfl) (lenOf pd__JJI_J_376 rfl) rfl (by show 2 * 0 + _ ≤ _; exact Nat.le_of_eq rfl) (hb hby at_121) hh18 ?_
  rintro v19 T19 L19 X19 ⟨rfl, N19q, hh19⟩
  have N19 := Fr.app N18 N19q
  show GG _ _ _ _ _ _ _ T19 (mkF m 124 #[.val (.int p0), .val (.int p1), .val (.long q2), .second, .val (.ref ob1), .val (.long x13), .second, .val (.int x15), .unset, .unset, .unset, .unset, .unset, .unset] [(.long (dby x13 (10000 : Int64) (3 : Int32))), (.long (((dby x13 (10000000 : Int64) (0 : Int32)) ||| (dby x13 (1000000 : Int64) (1 : Int32))) ||| (dby x13 (100000 : Int64) (2 : Int32))))])
  refine own_go (fun _ => XS.lor X19.here hx rfl (hb hby at_124) rfl) ?_
  show GG _ _ _ _ _ _ _ T19 (mkF m 125 #[.val (.int p0), .val (.int p1), .val (.long q2), .second, .val (.ref ob1), .val (.long x13), .second, .val (.int x15), .unset, .unset, .unset, .unset, .unset, .unset] [(.long ((((dby x13 (10000000 : Int64) (0 : Int32)) ||| (dby x13 (1000000 : Int64) (1 : Int32))) ||| (dby x13 (100000 : Int64) (2 : Int32))) ||| (dby x13 (10000 : Int64) (3 : Int32))))])
  refine own_go (fun _ => XS.lload X19.here hx rfl (hb hby at_125) rfl) ?_
  show GG _ _ _ _ _ _ _ T19 (mkF m 127 #[.val (.int p0), .val (.int p1), .val (.long q2), .second, .val (.ref ob1), .val (.long x13), .second, .val (.int x15), .unset, .unset, .unset, .unset, .unset, .unset] [(.long x13), (.long ((((dby x13 (10000000 : Int64) (0 : Int32)) ||| (dby x13 (1000000 : Int64) (1 : Int32))) ||| (dby x13 (100000 : Int64) (2 : Int32))) ||| (dby x13 (10000 : Int64) (3 : Int32))))])
  refine own_go (fun _ => XS.aload X19.here hx rfl (hb hby at_127) rfl rfl) ?_
  show GG _ _ _ _ _ _ _ T19 (mkF m 129 #[.val (.int p0), .val (.int p1), .val (.long q2), .second, .val (.ref ob1), .val (.long x13), .second, .val (.int x15), .unset, .unset, .unset, .unset, .unset, .unset] [(.ref ob1), (.long x13), (.long ((((dby x13 (10000000 : Int64) (0 : Int32)) ||| (dby x13 (1000000 : Int64) (1 : Int32))) ||| (dby x13 (100000 : Int64) (2 : Int32))) ||| (dby x13 (10000 : Int64) (3 : Int32))))])
  refine own_go (fun _ => XS.iconst X19.here hx rfl (hb hby at_129)) ?_
  show GG _ _ _ _ _ _ _ T19 (mkF m 130 #[.val (.int p0), .val (.int p1), .val (.long q2), .second, .val (.ref ob1), .val (.long x13), .second, .val (.int x15), .unset, .unset, .unset, .unset, .unset, .unset] [(.int (3 : Int32)), (.ref ob1), (.long x13), (.long ((((dby x13 (10000000 : Int64) (0 : Int32)) ||| (dby x13 (1000000 : Int64) (1 : Int32))) ||| (dby x13 (100000 : Int64) (2 : Int32))) ||| (dby x13 (10000 : Int64) (3 : Int32))))])
  refine own_go (fun _ => own_laload X19 hx hZ hh19 V_ob1 (j := (3 : Int32)) (v := (.long (1000 : Int64))) (by decide) rfl (g := (mkF m 130 #[.val (.int p0), .val (.int p1), .val (.long q2), .second, .val (.ref ob1), .val (.long x13), .second, .val (.int x15), .unset, .unset, .unset, .unset, .unset, .unset] [(.int (3 : Int32)), (.ref ob1), (.long x13), (.long ((((dby x13 (10000000 : Int64) (0 : Int32)) ||| (dby x13 (1000000 : Int64) (1 : Int32))) ||| (dby x13 (100000 : Int64) (2 : Int32))) ||| (dby x13 (10000 : Int64) (3 : Int32))))])) rfl rfl (hb hby at_130) _) ?_
  show GG _ _ _ _ _ _ _ T19 (mkF m 131 #[.val (.int p0), .val (.int p1), .val (.long q2), .second, .val (.ref ob1), .val (.long x13), .second, .val (.int x15), .unset, .unset, .unset, .unset, .unset, .unset] [(.long (1000 : Int64)), (.long x13), (.long ((((dby x13 (10000000 : Int64) (0 : Int32)) ||| (dby x13 (1000000 : Int64) (1 : Int32))) ||| (dby x13 (100000 : Int64) (2 : Int32))) ||| (dby x13 (10000 : Int64) (3 : Int32))))])
  refine own_go (fun _ => XS.iconst X19.here hx rfl (hb hby at_131)) ?_
  show GG _ _ _ _ _ _ _ T19 (mkF m 132 #[.val (.int p0), .val (.int p1), .val (.long q2), .second, .val (.ref ob1), .val (.long x13), .second, .val (.int x15), .unset, .unset, .unset, .unset, .unset, .unset] [(.int (4 : Int32)), (.long (1000 : Int64)), (.long x13), (.long ((((dby x13 (10000000 : Int64) (0 : Int32)) ||| (dby x13 (1000000 : Int64) (1 : Int32))) ||| (dby x13 (100000 : Int64) (2 : Int32))) ||| (dby x13 (10000 : Int64) (3 : Int32))))])
  refine own_callS X19 hx hZ (y := (⟨"com/example/breakwater/breakwater/model/DigitsValueOfPinLaw", "digitByte", "(JJI)J"⟩ : MethodName)) 2 hown (hw _ (List.mem_of_getElem? (i := 10) rfl)) (hw _ (List.mem_of_getElem? (i := 11) rfl)) (hw _ (List.mem_of_getElem? (i := 12) rfl)) (hw _ (List.mem_of_getElem? (i := 13) rfl)) (by decide) (argsL := [(.long x13), (.long (1000 : Int64)), (.int (4 : Int32))]) (rest := [(.long ((((dby x13 (10000000 : Int64) (0 : Int32)) ||| (dby x13 (1000000 : Int64) (1 : Int32))) ||| (dby x13 (100000 : Int64) (2 : Int32))) ||| (dby x13 (10000 : Int64) (3 : Int32))))]) (rm1 l Z a0 hw [] x13 (1000 : Int64) (4 : Int32) h10 n0 (Nat.le_trans Z0 K0.1) (by decide +kernel)) (by decide) (by decide) (by decide) (by decide) (g := (mkF m 132 #[.val (.int p0), .val (.int p1), .val (.long q2), .second, .val (.ref ob1), .val (.long x13), .second, .val (.int x15), .unset, .unset, .unset, .unset, .unset, .unset] [(.int (4 : Int32)), (.long (1000 : Int64)), (.long x13), (.long ((((dby x13 (10000000 : Int64) (0 : Int32)) ||| (dby x13 (1000000 : Int64) (1 : Int32))) ||| (dby x13 (100000 : Int64) (2 : Int32))) ||| (dby x13 (10000 : Int64) (3 : Int32))))])) rfl (by rw [hml]; rfl) (lenOf pd__JJI_J_376 rfl) rfl (by show 2 * 0 + _ ≤ _; exact Nat.le_of_eq rfl) (hb hby at_132) hh19 ?_
  rintro v20 T20 L20 X20 ⟨rfl, N20q, hh20⟩
  have N20 := Fr.app N19 N20q
  show GG _ _ _ _ _ _ _ T20 (mkF m 135 #[.val (.int p0), .val (.int p1), .val (.long q2), .second, .val (.ref ob1), .val (.long x13), .second, .val (.int x15), .unset, .unset, .unset, .unset, .unset, .unset] [(.long (dby x13 (1000 : Int64) (4 : Int32))), (.long ((((dby x13 (10000000 : Int64) (0 : Int32)) ||| (dby x13 (1000000 : Int64) (1 : Int32))) ||| (dby x13 (100000 : Int64) (2 : Int32))) ||| (dby x13 (10000 : Int64) (3 : Int32))))])
  refine own_go (fun _ => XS.lor X20.here hx rfl (hb hby at_135) rfl) ?_
  show GG _ _ _ _ _ _ _ T20 (mkF m 136 #[.val (.int p0), .val (.int p1), .val (.long q2), .second, .val (.ref ob1), .val (.long x13), .second, .val (.int x15), .unset, .unset, .unset, .unset, .unset, .unset] [(.long (((((dby x13 (10000000 : Int64) (0 : Int32)) ||| (dby x13 (1000000 : Int64) (1 : Int32))) ||| (dby x13 (100000 : Int64) (2 : Int32))) ||| (dby x13 (10000 : Int64) (3 : Int32))) ||| (dby x13 (1000 : Int64) (4 : Int32))))])
  refine own_go (fun _ => XS.lload X20.here hx rfl (hb hby at_136) rfl) ?_
  show GG _ _ _ _ _ _ _ T20 (mkF m 138 #[.val (.int p0), .val (.int p1), .val (.long q2), .second, .val (.ref ob1), .val (.long x13), .second, .val (.int x15), .unset, .unset, .unset, .unset, .unset, .unset] [(.long x13), (.long (((((dby x13 (10000000 : Int64) (0 : Int32)) ||| (dby x13 (1000000 : Int64) (1 : Int32))) ||| (dby x13 (100000 : Int64) (2 : Int32))) ||| (dby x13 (10000 : Int64) (3 : Int32))) ||| (dby x13 (1000 : Int64) (4 : Int32))))])
  refine own_go (fun _ => XS.aload X20.here hx rfl (hb hby at_138) rfl rfl) ?_
  show GG _ _ _ _ _ _ _ T20 (mkF m 140 #[.val (.int p0), .val (.int p1), .val (.long q2), .second, .val (.ref ob1), .val (.long x13), .second, .val (.int x15), .unset, .unset, .unset, .unset, .unset, .unset] [(.ref ob1), (.long x13), (.long (((((dby x13 (10000000 : Int64) (0 : Int32)) ||| (dby x13 (1000000 : Int64) (1 : Int32))) ||| (dby x13 (100000 : Int64) (2 : Int32))) ||| (dby x13 (10000 : Int64) (3 : Int32))) ||| (dby x13 (1000 : Int64) (4 : Int32))))])
  refine own_go (fun _ => XS.iconst X20.here hx rfl (hb hby at_140)) ?_
  show GG _ _ _ _ _ _ _ T20 (mkF m 141 #[.val (.int p0), .val (.int p1), .val (.long q2), .second, .val (.ref ob1), .val (.long x13), .second, .val (.int x15), .unset, .unset, .unset, .unset, .unset, .unset] [(.int (2 : Int32)), (.ref ob1), (.long x13), (.long (((((dby x13 (10000000 : Int64) (0 : Int32)) ||| (dby x13 (1000000 : Int64) (1 : Int32))) ||| (dby x13 (100000 : Int64) (2 : Int32))) ||| (dby x13 (10000 : Int64) (3 : Int32))) ||| (dby x13 (1000 : Int64) (4 : Int32))))])
  refine own_go (fun _ => own_laload X20 hx hZ hh20 V_ob1 (j := (2 : Int32)) (v := (.long (100 : Int64))) (by decide) rfl (g := (mkF m 141 #[.val (.int p0), .val (.int p1), .val (.long q2), .second, .val (.ref ob1), .val (.long x13), .second, .val (.int x15), .unset, .unset, .unset, .unset, .unset, .unset] [(.int (2 : Int32)), (.ref ob1), (.long x13), (.long (((((dby x13 (10000000 : Int64) (0 : Int32)) ||| (dby x13 (1000000 : Int64) (1 : Int32))) ||| (dby x13 (100000 : Int64) (2 : Int32))) ||| (dby x13 (10000 : Int64) (3 : Int32))) ||| (dby x13 (1000 : Int64) (4 : Int32))))])) rfl rfl (hb hby at_141) _) ?_
  show GG _ _ _ _ _ _ _ T20 (mkF m 142 #[.val (.int p0), .val (.int p1), .val (.long q2), .second, .val (.ref ob1), .val (.long x13), .second, .val (.int x15), .unset, .unset, .unset, .unset, .unset, .unset] [(.long (100 : Int64)), (.long x13), (.long (((((dby x13 (10000000 : Int64) (0 : Int32)) ||| (dby x13 (1000000 : Int64) (1 : Int32))) ||| (dby x13 (100000 : Int64) (2 : Int32))) ||| (dby x13 (10000 : Int64) (3 : Int32))) ||| (dby x13 (1000 : Int64) (4 : Int32))))])
  refine own_go (fun _ => XS.iconst X20.here hx rfl (hb hby at_142)) ?_
  show GG _ _ _ _ _ _ _ T20 (mkF m 143 #[.val (.int p0), .val (.int p1), .val (.long q2), .second, .val (.ref ob1), .val (.long x13), .second, .val (.int x15), .unset, .unset, .unset, .unset, .unset, .unset] [(.int (5 : Int32)), (.long (100 : Int64)), (.long x13), (.long (((((dby x13 (10000000 : Int64) (0 : Int32)) ||| (dby x13 (1000000 : Int64) (1 : Int32))) ||| (dby x13 (100000 : Int64) (2 : Int32))) ||| (dby x13 (10000 : Int64) (3 : Int32))) ||| (dby x13 (1000 : Int64) (4 : Int32))))])
  refine own_callS X20 hx hZ (y := (⟨"com/example/breakwater/breakwater/model/DigitsValueOfPinLaw", "digitByte", "(JJI)J"⟩ : MethodName)) 2 hown (hw _ (List.mem_of_getElem? (i := 10) rfl)) (hw _ (List.mem_of_getElem? (i := 11) rfl)) (hw _ (List.mem_of_getElem? (i := 12) rfl)) (hw _ (List.mem_of_getElem? (i := 13) rfl)) (by decide) (argsL := [(.long x13), (.long (100 : Int64)), (.int (5 : Int32))]) (rest := [(.long (((((dby x13 (10000000 : Int64) (0 : Int32)) ||| (dby x13 (1000000 : Int64) (1 : Int32))) ||| (dby x13 (100000 : Int64) (2 : Int32))) ||| (dby x13 (10000 : Int64) (3 : Int32))) ||| (dby x13 (1000 : Int64) (4 : Int32))))]) (rm1 l Z a0 hw [] x13 (100 : Int64) (5 : Int32) h10 n0 (Nat.le_trans Z0 K0.1) (by decide +kernel)) (by decide) (by decide) (by decide) (by decide) (g := (mkF m 143 #[.val (.int p0), .val (.int p1), .val (.long q2), .second, .val (.ref ob1), .val (.long x13), .second, .val (.int x15), .unset, .unset, .unset, .unset, .unset, .unset] [(.int (5 : Int32)), (.long (100 : Int64)), (.long x13), (.long (((((dby x13 (10000000 : Int64) (0 : Int32)) ||| (dby x13 (1000000 : Int64) (1 : Int32))) ||| (dby x13 (100000 : Int64) (2 : Int32))) ||| (dby x13 (10000 : Int64) (3 : Int32))) ||| (dby x13 (1000 : Int64) (4 : Int32))))])) rfl (by rw [hml]; rfl) (lenOf pd__JJI_J_376 rfl) rfl (by show 2 * 0 + _ ≤ _; exact Nat.le_of_eq rfl) (hb hby at_143) hh20 ?_
  rintro v21 T21 L21 X21 ⟨rfl, N21q, hh21⟩
  have N21 := Fr.app N20 N21q
  show GG _ _ _ _ _ _ _ T21 (mkF m 146 #[.val (.int p0), .val (.int p1), .val (.long q2), .second, .val (.ref ob1), .val (.long x13), .second, .val (.int x15), .unset, .unset, .unset, .unset, .unset, .unset] [(.long (dby x13 (100 : Int64) (5 : Int32))), (.long (((((dby x13 (10000000 : Int64) (0 : Int32)) ||| (dby x13 (1000000 : Int64) (1 : Int32))) ||| (dby x13 (100000 : Int64) (2 : Int32))) ||| (dby x13 (10000 : Int64) (3 : Int32))) ||| (dby x13 (1000 : Int64) (4 : Int32))))])
  refine own_go (fun _ => XS.lor X21.here hx rfl (hb hby at_146) rfl) ?_
  show GG _ _ _ _ _ _ _ T21 (mkF m 147 #[.val (.int p0), .val (.int p1), .val (.long q2), .second, .val (.ref ob1), .val (.long x13), .second, .val (.int x15), .unset, .unset, .unset, .unset, .unset, .unset] [(.long ((((((dby x13 (10000000 : Int64) (0 : Int32)) ||| (dby x13 (1000000 : Int64) (1 : Int32))) ||| (dby x13 (100000 : Int64) (2 : Int32))) ||| (dby x13 (10000 : Int64) (3 : Int32))) ||| (dby x13 (1000 : Int64) (4 : Int32))) ||| (dby x13 (100 : Int64) (5 : Int32))))])
  refine own_go (fun _ => XS.lload X21.here hx rfl (hb hby at_147) rfl) ?_
  show GG _ _ _ _ _ _ _ T21 (mkF m 149 #[.val (.int p0), .val (.int p1), .val (.long q2), .second, .val (.ref ob1), .val (.long x13), .second, .val (.int x15), .unset, .unset, .unset, .unset, .unset, .unset] [(.long x13), (.long ((((((dby x13 (10000000 : Int64) (0 : Int32)) ||| (dby x13 (1000000 : Int64) (1 : Int32))) ||| (dby x13 (100000 : Int64) (2 : Int32))) ||| (dby x13 (10000 : Int64) (3 : Int32))) ||| (dby x13 (1000 : Int64) (4 : Int32))) ||| (dby x13 (100 : Int64) (5 : Int32))))])
  refine own_go (fun _ => XS.aload X21.here hx rfl (hb hby at_149) rfl rfl) ?_
  show GG _ _ _ _ _ _ _ T21 (mkF m 151 #[.val (.int p0), .val (.int p1), .val (.long q2), .second, .val (.ref ob1), .val (.long x13), .second, .val (.int x15), .unset, .unset, .unset, .unset, .unset, .unset] [(.ref ob1), (.long x13), (.long ((((((dby x13 (10000000 : Int64) (0 : Int32)) ||| (dby x13 (1000000 : Int64) (1 : Int32))) ||| (dby x13 (100000 : Int64) (2 : Int32))) ||| (dby x13 (10000 : Int64) (3 : Int32))) ||| (dby x13 (1000 : Int64) (4 : Int32))) ||| (dby x13 (100 : Int64) (5 : Int32))))])
  refine own_go (fun _ => XS.iconst X21.here hx rfl (hb hby at_151)) ?_
  show GG _ _ _ _ _ _ _ T21 (mkF m 152 #[.val (.int p0), .val (.int p1), .val (.long q2), .second, .val (.ref ob1), .val (.long x13), .second, .val (.int x15), .unset, .unset, .unset, .unset, .unset, .unset] [(.int (1 : Int32)), (.ref ob1), (.long x13), (.long ((((((dby x13 (10000000 : Int64) (0 : Int32)) ||| (dby x13 (1000000 : Int64) (1 : Int32))) ||| (dby x13 (100000 : Int64) (2 : Int32))) ||| (dby x13 (10000 : Int64) (3 : Int32))) ||| (dby x13 (1000 : Int64) (4 : Int32))) ||| (dby x13 (100 : Int64) (5 : Int32))))])
  refine own_go (fun _ => own_laload X21 hx hZ hh21 V_ob1 (j := (1 : Int32)) (v := (.long (10 : Int64))) (by decide) rfl (g := (mkF m 152 #[.val (.int p0), .val (.int p1), .val (.long q2), .second, .val (.ref ob1), .val (.long x13), .second, .val (.int x15), .unset, .unset, .unset, .unset, .unset, .unset] [(.int (1 : Int32)), (.ref ob1), (.long x13), (.long ((((((dby x13 (10000000 : Int64) (0 : Int32)) ||| (dby x13 (1000000 : Int64) (1 : Int32))) ||| (dby x13 (100000 : Int64) (2 : Int32))) ||| (dby x13 (10000 : Int64) (3 : Int32))) ||| (dby x13 (1000 : Int64) (4 : Int32))) ||| (dby x13 (100 : Int64) (5 : Int32))))])) rfl rfl (hb hby at_152) _) ?_
  show GG _ _ _ _ _ _ _ T21 (mkF m 153 #[.val (.int p0), .val (.int p1), .val (.long q2), .second, .val (.ref ob1), .val (.long x13), .second, .val (.int x15), .unset, .unset, .unset, .unset, .unset, .unset] [(.long (10 : Int64)), (.long x13), (.long ((((((dby x13 (10000000 : Int64) (0 : Int32)) ||| (dby x13 (1000000 : Int64) (1 : Int32))) ||| (dby x13 (100000 : Int64) (2 : Int32))) ||| (dby x13 (10000 : Int64) (3 : Int32))) ||| (dby x13 (1000 : Int64) (4 : Int32))) ||| (dby x13 (100 : Int64) (5 : Int32))))])
  refine own_go (fun _ => XS.bipush X21.here hx rfl (hb hby at_153)) ?_
  show GG _ _ _ _ _ _ _ T21 (mkF m 155 #[.val (.int p0), .val (.int p1), .val (.long q2), .second, .val (.ref ob1), .val (.long x13), .second, .val (.int x15), .unset, .unset, .unset, .unset, .unset, .unset] [(.int (6 : Int32)), (.long (10 : Int64)), (.long x13), (.long ((((((dby x13 (10000000 : Int64) (0 : Int32)) ||| (dby x13 (1000000 : Int64) (1 : Int32))) ||| (dby x13 (100000 : Int64) (2 : Int32))) ||| (dby x13 (10000 : Int64) (3 : Int32))) ||| (dby x13 (1000 : Int64) (4 : Int32))) ||| (dby x13 (100 : Int64) (5 : Int32))))])
  refine own_callS X21 hx hZ (y := (⟨"com/example/breakwater/breakwater/model/DigitsValueOfPinLaw", "digitByte", "(JJI)J"⟩ : MethodName)) 2 hown (hw _ (List.mem_of_getElem? (i := 10) rfl)) (hw _ (List.mem_of_getElem? (i := 11) rfl)) (hw _ (List.mem_of_getElem? (i := 12) rfl)) (hw _ (List.mem_of_getElem? (i := 13) rfl)) (by decide) (argsL := [(.long x13), (.long (10 : Int64)), (.int (6 : Int32))]) (rest := [(.long ((((((dby x13 (10000000 : Int64) (0 : Int32)) ||| (dby x13 (1000000 : Int64) (1 : Int32))) ||| (dby x13 (100000 : Int64) (2 : Int32))) ||| (dby x13 (10000 : Int64) (3 : Int32))) ||| (dby x13 (1000 : Int64) (4 : Int32))) ||| (dby x13 (100 : Int64) (5 : Int32))))]) (rm1 l Z a0 hw [] x13 (10 : Int64) (6 : Int32) h10 n0 (Nat.le_trans Z0 K0.1) (by decide +kernel)) (by decide) (by decide) (by decide) (by decide) (g := (mkF m 155 #[.val (.int p0), .val (.int p1), .val (.long q2), .second, .val (.ref ob1), .val (.long x13), .second, .val (.int x15), .unset, .unset, .unset, .unset, .unset, .unset] [(.int (6 : Int32)), (.long (10 : Int64)), (.long x13), (.long ((((((dby x13 (10000000 : Int64) (0 : Int32)) ||| (dby x13 (1000000 : Int64) (1 : Int32))) ||| (dby x13 (100000 : Int64) (2 : Int32))) ||| (dby x13 (10000 : Int64) (3 : Int32))) ||| (dby x13 (1000 : Int64) (4 : Int32))) ||| (dby x13 (100 : Int64) (5 : Int32))))])) rfl (by rw [hml]; rfl) (lenOf pd__JJI_J_376 rfl) rfl (by show 2 * 0 + _ ≤ _; exact Nat.le_of_eq rfl) (hb hby at_155) hh21 ?_
  rintro v22 T22 L22 X22 ⟨rfl, N22q, hh22⟩
  have N22 := Fr.app N21 N22q
  show GG _ _ _ _ _ _ _ T22 (mkF m 158 #[.val (.int p0), .val (.int p1), .val (.long q2), .second, .val (.ref ob1), .val (.long x13), .second, .val (.int x15), .unset, .unset, .unset, .unset, .unset, .unset] [(.long (dby x13 (10 : Int64) (6 : Int32))), (.long ((((((dby x13 (10000000 : Int64) (0 : Int32)) ||| (dby x13 (1000000 : Int64) (1 : Int32))) ||| (dby x13 (100000 : Int64) (2 : Int32))) ||| (dby x13 (10000 : Int64) (3 : Int32))) ||| (dby x13 (1000 : Int64) (4 : Int32))) ||| (dby x13 (100 : Int64) (5 : Int32))))])
  refine own_go (fun _ => XS.lor X22.here hx rfl (hb hby at_158) rfl) ?_
  show GG _ _ _ _ _ _ _ T22 (mkF m 159 #[.val (.int p0), .val (.int p1), .val (.long q2), .second, .val (.ref ob1), .val (.long x13), .second, .val (.int x15), .unset, .unset, .unset, .unset, .unset, .unset] [(.long (((((((dby x13 (10000000 : Int64) (0 : Int32)) ||| (dby x13 (1000000 : Int64) (1 : Int32))) ||| (dby x13 (100000 : Int64) (2 : Int32))) ||| (dby x13 (10000 : Int64) (3 : Int32))) ||| (dby x13 (1000 : Int64) (4 : Int32))) ||| (dby x13 (100 : Int64) (5 : Int32))) ||| (dby x13 (10 : Int64) (6 : Int32))))])
  refine own_go (fun _ => XS.lload X22.here hx rfl (hb hby at_159) rfl) ?_
  show GG _ _ _ _ _ _ _ T22 (mkF m 161 #[.val (.int p0), .val (.int p1), .val (.long q2), .second, .val (.ref ob1), .val (.long x13), .second, .val (.int x15), .unset, .unset, .unset, .unset, .unset, .unset] [(.long x13), (.long (((((((dby x13 (10000000 : Int64) (0 : Int32)) ||| (dby x13 (1000000 : Int64) (1 : Int32))) ||| (dby x13 (100000 : Int64) (2 : Int32))) ||| (dby x13 (10000 : Int64) (3 : Int32))) ||| (dby x13 (1000 : Int64) (4 : Int32))) ||| (dby x13 (100 : Int64) (5 : Int32))) ||| (dby x13 (10 : Int64) (6 : Int32))))])
  refine own_go (fun _ => XS.aload X22.here hx rfl (hb hby at_161) rfl rfl) ?_
  show GG _ _ _ _ _ _ _ T22 (mkF m 163 #[.val (.int p0), .val (.int p1), .val (.long q2), .second, .val (.ref ob1), .val (.long x13), .second, .val (.int x15), .unset, .unset, .unset, .unset, .unset, .unset] [(.ref ob1), (.long x13), (.long (((((((dby x13 (10000000 : Int64) (0 : Int32)) ||| (dby x13 (1000000 : Int64) (1 : Int32))) ||| (dby x13 (100000 : Int64) (2 : Int32))) ||| (dby x13 (10000 : Int64) (3 : Int32))) ||| (dby x13 (1000 : Int64) (4 : Int32))) ||| (dby x13 (100 : Int64) (5 : Int32))) ||| (dby x13 (10 : Int64) (6 : Int32))))])
  refine own_go (fun _ => XS.iconst X22.here hx rfl (hb hby at_163)) ?_
  show GG _ _ _ _ _ _ _ T22 (mkF m 164 #[.val (.int p0), .val (.int p1), .val (.long q2), .second, .val (.ref ob1), .val (.long x13), .second, .val (.int x15), .unset, .unset, .unset, .unset, .unset, .unset] [(.int (0 : Int32)), (.ref ob1), (.long x13), (.long (((((((dby x13 (10000000 : Int64) (0 : Int32)) ||| (dby x13 (1000000 : Int64) (1 : Int32))) ||| (dby x13 (100000 : Int64) (2 : Int32))) ||| (dby x13 (10000 : Int64) (3 : Int32))) ||| (dby x13 (1000 : Int64) (4 : Int32))) ||| (dby x13 (100 : Int64) (5 : Int32))) ||| (dby x13 (10 : Int64) (6 : Int32))))])
  refine own_go (fun _ => own_laload X22 hx hZ hh22 V_ob1 (j := (0 : Int32)) (v := (.long (1 : Int64))) (by decide) rfl (g := (mkF m 164 #[.val (.int p0), .val (.int p1), .val (.long q2), .second, .val (.ref ob1), .val (.long x13), .second, .val (.int x15), .unset, .unset, .unset, .unset, .unset, .unset] [(.int (0 : Int32)), (.ref ob1), (.long x13), (.long (((((((dby x13 (10000000 : Int64) (0 : Int32)) ||| (dby x13 (1000000 : Int64) (1 : Int32))) ||| (dby x13 (100000 : Int64) (2 : Int32))) ||| (dby x13 (10000 : Int64) (3 : Int32))) ||| (dby x13 (1000 : Int64) (4 : Int32))) ||| (dby x13 (100 : Int64) (5 : Int32))) ||| (dby x13 (10 : Int64) (6 : Int32))))])) rfl rfl (hb hby at_164) _) ?_
  show GG _ _ _ _ _ _ _ T22 (mkF m 165 #[.val (.int p0), .val (.int p1), .val (.long q2), .second, .val (.ref ob1), .val (.long x13), .second, .val (.int x15), .unset, .unset, .unset, .unset, .unset, .unset] [(.long (1 : Int64)), (.long x13), (.long (((((((dby x13 (10000000 : Int64) (0 : Int32)) ||| (dby x13 (1000000 : Int64) (1 : Int32))) ||| (dby x13 (100000 : Int64) (2 : Int32))) ||| (dby x13 (10000 : Int64) (3 : Int32))) ||| (dby x13 (1000 : Int64) (4 : Int32))) ||| (dby x13 (100 : Int64) (5 : Int32))) ||| (dby x13 (10 : Int64) (6 : Int32))))])
  refine own_go (fun _ => XS.bipush X22.here hx rfl (hb hby at_165)) ?_
  show GG _ _ _ _ _ _ _ T22 (mkF m 167 #[.val (.int p0), .val (.int p1), .val (.long q2), .second, .val (.ref ob1), .val (.long x13), .second, .val (.int x15), .unset, .unset, .unset, .unset, .unset, .unset] [(.int (7 : Int32)), (.long (1 : Int64)), (.long x13), (.long (((((((dby x13 (10000000 : Int64) (0 : Int32)) ||| (dby x13 (1000000 : Int64) (1 : Int32))) ||| (dby x13 (100000 : Int64) (2 : Int32))) ||| (dby x13 (10000 : Int64) (3 : Int32))) ||| (dby x13 (1000 : Int64) (4 : Int32))) ||| (dby x13 (100 : Int64) (5 : Int32))) ||| (dby x13 (10 : Int64) (6 : Int32))))])
  refine own_callS X22 hx hZ (y := (⟨"com/example/breakwater/breakwater/model/DigitsValueOfPinLaw", "digitByte", "(JJI)J"⟩ : MethodName)) 2 hown (hw _ (List.mem_of_getElem? (i := 10) rfl)) (hw _ (List.mem_of_getElem? (i := 11) rfl)) (hw _ (List.mem_of_getElem? (i := 12) rfl)) (hw _ (List.mem_of_getElem? (i := 13) rfl)) (by decide) (argsL := [(.long x13), (.long (1 : Int64)), (.int (7 : Int32))]) (rest := [(.long (((((((dby x13 (10000000 : Int64) (0 : Int32)) ||| (dby x13 (1000000 : Int64) (1 : Int32))) ||| (dby x13 (100000 : Int64) (2 : Int32))) ||| (dby x13 (10000 : Int64) (3 : Int32))) ||| (dby x13 (1000 : Int64) (4 : Int32))) ||| (dby x13 (100 : Int64) (5 : Int32))) ||| (dby x13 (10 : Int64) (6 : Int32))))]) (rm1 l Z a0 hw [] x13 (1 : Int64) (7 : Int32) h10 n0 (Nat.le_trans Z0 K0.1) (by decide +kernel)) (by decide) (by decide) (by decide) (by decide) (g := (mkF m 167 #[.val (.int p0), .val (.int p1), .val (.long q2), .second, .val (.ref ob1), .val (.long x13), .second, .val (.int x15), .unset, .unset, .unset, .unset, .unset, .unset] [(.int (7 : Int32)), (.long (1 : Int64)), (.long x13), (.long (((((((dby x13 (10000000 : Int64) (0 : Int32)) ||| (dby x13 (1000000 : Int64) (1 : Int32))) ||| (dby x13 (100000 : Int64) (2 : Int32))) ||| (dby x13 (10000 : Int64) (3 : Int32))) ||| (dby x13 (1000 : Int64) (4 : Int32))) ||| (dby x13 (100 : Int64) (5 : Int32))) ||| (dby x13 (10 : Int64) (6 : Int32))))])) rfl (by rw [hml]; rfl) (lenOf pd__JJI_J_376 rfl) rfl (by show 2 * 0 + _ ≤ _; exact Nat.le_of_eq rfl) (hb hby at_167) hh22 ?_
  rintro v23 T23 L23 X23 ⟨rfl, N23q, hh23⟩
  have N23 := Fr.app N22 N23q
  show GG _ _ _ _ _ _ _ T23 (mkF m 170 #[.val (.int p0), .val (.int p1), .val (.long q2), .second, .val (.ref ob1), .val (.long x13), .second, .val (.int x15), .unset, .unset, .unset, .unset, .unset, .unset] [(.long (dby x13 (1 : Int64) (7 : Int32))), (.long (((((((dby x13 (10000000 : Int64) (0 : Int32)) ||| (dby x13 (1000000 : Int64) (1 : Int32))) ||| (dby x13 (100000 : Int64) (2 : Int32))) ||| (dby x13 (10000 : Int64) (3 : Int32))) ||| (dby x13 (1000 : Int64) (4 : Int32))) ||| (dby x13 (100 : Int64) (5 : Int32))) ||| (dby x13 (10 : Int64) (6 : Int32))))])
  refine own_go (fun _ => XS.lor X23.here hx rfl (hb hby at_170) rfl) ?_
  show GG _ _ _ _ _ _ _ T23 (mkF m 171 #[.val (.int p0), .val (.int p1), .val (.long q2), .second, .val (.ref ob1), .val (.long x13), .second, .val (.int x15), .unset, .unset, .unset, .unset, .unset, .unset] [(.long ((((((((dby x13 (10000000 : Int64) (0 : Int32)) ||| (dby x13 (1000000 : Int64) (1 : Int32))) ||| (dby x13 (100000 : Int64) (2 : Int32))) ||| (dby x13 (10000 : Int64) (3 : Int32))) ||| (dby x13 (1000 : Int64) (4 : Int32))) ||| (dby x13 (100 : Int64) (5 : Int32))) ||| (dby x13 (10 : Int64) (6 : Int32))) ||| (dby x13 (1 : Int64) (7 : Int32))))])
  refine own_go (fun _ => XS.lstore X23.here hx rfl (hb hby at_171) rfl (l' := #[.val (.int p0), .val (.int p1), .val (.long q2), .second, .val (.ref ob1), .val (.long x13), .second, .val (.int x15), .val (.long ((((((((dby x13 (10000000 : Int64) (0 : Int32)) ||| (dby x13 (1000000 : Int64) (1 : Int32))) ||| (dby x13 (100000 : Int64) (2 : Int32))) ||| (dby x13 (10000 : Int64) (3 : Int32))) ||| (dby x13 (1000 : Int64) (4 : Int32))) ||| (dby x13 (100 : Int64) (5 : Int32))) ||| (dby x13 (10 : Int64) (6 : Int32))) ||| (dby x13 (1 : Int64) (7 : Int32)))), .second, .unset, .unset, .unset, .unset]) rfl) ?_
  show GG _ _ _ _ _ _ _ T23 (mkF m 173 #[.val (.int p0), .val (.int p1), .val (.long q2), .second, .val (.ref ob1), .val (.long x13), .second, .val (.int x15), .val (.long ((((((((dby x13 (10000000 : Int64) (0 : Int32)) ||| (dby x13 (1000000 : Int64) (1 : Int32))) ||| (dby x13 (100000 : Int64) (2 : Int32))) ||| (dby x13 (10000 : Int64) (3 : Int32))) ||| (dby x13 (1000 : Int64) (4 : Int32))) ||| (dby x13 (100 : Int64) (5 : Int32))) ||| (dby x13 (10 : Int64) (6 : Int32))) ||| (dby x13 (1 : Int64) (7 : Int32)))), .second, .unset, .unset, .unset, .unset] [])
  rw [show ((((((((dby x13 (10000000 : Int64) (0 : Int32)) ||| (dby x13 (1000000 : Int64) (1 : Int32))) ||| (dby x13 (100000 : Int64) (2 : Int32))) ||| (dby x13 (10000 : Int64) (3 : Int32))) ||| (dby x13 (1000 : Int64) (4 : Int32))) ||| (dby x13 (100 : Int64) (5 : Int32))) ||| (dby x13 (10 : Int64) (6 : Int32))) ||| (dby x13 (1 : Int64) (7 : Int32))) = wrd x13 from rfl]
  rcases h8 with h8 | h8 | h8 | h8 | h8 | h8 | h8 | h8
  · skip
    subst h8
    show GG _ _ _ _ _ _ _ T23 (mkF m 173 #[.val (.int p0), .val (.int p1), .val (.long q2), .second, .val (.ref ob1), .val (.long x13), .second, .val (.int (1 : Int32)), .val (.long (wrd x13)), .second, .unset, .unset, .unset, .unset] [])
    refine own_go (fun _ => XS.iload X23.here hx rfl (hb hby at_173) rfl) ?_
    show GG _ _ _ _ _ _ _ T23 (mkF m 175 #[.val (.int p0), .val (.int p1), .val (.long q2), .second, .val (.ref ob1), .val (.long x13), .second, .val (.int (1 : Int32)), .val (.long (wrd x13)), .second, .unset, .unset, .unset, .unset] [(.int (1 : Int32))])
    refine own_go (fun _ => XS.bipush X23.here hx rfl (hb hby at_175)) ?_
    show GG _ _ _ _ _ _ _ T23 (mkF m 177 #[.val (.int p0), .val (.int p1), .val (.long q2), .second, .val (.ref ob1), .val (.long x13), .second, .val (.int (1 : Int32)), .val (.long (wrd x13)), .second, .unset, .unset, .unset, .unset] [(.int (8 : Int32)), (.int (1 : Int32))])
    have hc177 : ¬ ((1 : Int32) = (8 : Int32)) := by decide
    refine own_go (fun _ => XS.icmpYes X23.here hx rfl (pc0 := 177) (pc' := 186) rfl (hb hby at_177) rfl (feq hc177).2 (by decide) (by decide)) ?_
    show GG _ _ _ _ _ _ _ T23 (mkF m 186 #[.val (.int p0), .val (.int p1), .val (.long q2), .second, .val (.ref ob1), .val (.long x13), .second, .val (.int (1 : Int32)), .val (.long (wrd x13)), .second, .unset, .unset, .unset, .unset] [])
    refine own_go (fun _ => XS.lconst X23.here hx rfl (hb hby at_186)) ?_
    show GG _ _ _ _ _ _ _ T23 (mkF m 187 #[.val (.int p0), .val (.int p1), .val (.long q2), .second, .val (.ref ob1), .val (.long x13), .second, .val (.int (1 : Int32)), .val (.long (wrd x13)), .second, .unset, .unset, .unset, .unset] [(.long (1 : Int64))])
    refine own_go (fun _ => XS.bipush X23.here hx rfl (hb hby at_187)) ?_
    show GG _ _ _ _ _ _ _ T23 (mkF m 189 #[.val (.int p0), .val (.int p1), .val (.long q2), .second, .val (.ref ob1), .val (.long x13), .second, .val (.int (1 : Int32)), .val (.long (wrd x13)), .second, .unset, .unset, .unset, .unset] [(.int (8 : Int32)), (.long (1 : Int64))])
    refine own_go (fun _ => XS.iload X23.here hx rfl (hb hby at_189) rfl) ?_
    show GG _ _ _ _ _ _ _ T23 (mkF m 191 #[.val (.int p0), .val (.int p1), .val (.long q2), .second, .val (.ref ob1), .val (.long x13), .second, .val (.int (1 : Int32)), .val (.long (wrd x13)), .second, .unset, .unset, .unset, .unset] [(.int (1 : Int32)), (.int (8 : Int32)), (.long (1 : Int64))])
    refine own_go (fun _ => XS.imul X23.here hx rfl (hb hby at_191) rfl) ?_
    show GG _ _ _ _ _ _ _ T23 (mkF m 192 #[.val (.int p0), .val (.int p1), .val (.long q2), .second, .val (.ref ob1), .val (.long x13), .second, .val (.int (1 : Int32)), .val (.long (wrd x13)), .second, .unset, .unset, .unset, .unset] [(.int (8 : Int32)), (.long (1 : Int64))])
    refine own_go (fun _ => XS.lshl X23.here hx rfl (hb hby at_192) rfl) ?_
    show GG _ _ _ _ _ _ _ T23 (mkF m 193 #[.val (.int p0), .val (.int p1), .val (.long q2), .second, .val (.ref ob1), .val (.long x13), .second, .val (.int (1 : Int32)), .val (.long (wrd x13)), .second, .unset, .unset, .unset, .unset] [(.long ((1 : Int64) <<< ((8 : Int32) &&& 0x3f).toInt64))])
    refine own_go (fun _ => XS.lconst X23.here hx rfl (hb hby at_193)) ?_
    show GG _ _ _ _ _ _ _ T23 (mkF m 194 #[.val (.int p0), .val (.int p1), .val (.long q2), .second, .val (.ref ob1), .val (.long x13), .second, .val (.int (1 : Int32)), .val (.long (wrd x13)), .second, .unset, .unset, .unset, .unset] [(.long (1 : Int64)), (.long ((1 : Int64) <<< ((8 : Int32) &&& 0x3f).toInt64))])
    refine own_go (fun _ => XS.lsub X23.here hx rfl (hb hby at_194) rfl) ?_
    show GG _ _ _ _ _ _ _ T23 (mkF m 195 #[.val (.int p0), .val (.int p1), .val (.long q2), .second, .val (.ref ob1), .val (.long x13), .second, .val (.int (1 : Int32)), .val (.long (wrd x13)), .second, .unset, .unset, .unset, .unset] [(.long (((1 : Int64) <<< ((8 : Int32) &&& 0x3f).toInt64) - (1 : Int64)))])
    refine own_go (fun _ => XS.lstore X23.here hx rfl (hb hby at_195) rfl (l' := #[.val (.int p0), .val (.int p1), .val (.long q2), .second, .val (.ref ob1), .val (.long x13), .second, .val (.int (1 : Int32)), .val (.long (wrd x13)), .second, .val (.long (((1 : Int64) <<< ((8 : Int32) &&& 0x3f).toInt64) - (1 : Int64))), .second, .unset, .unset]) rfl) ?_
    show GG _ _ _ _ _ _ _ T23 (mkF m 197 #[.val (.int p0), .val (.int p1), .val (.long q2), .second, .val (.ref ob1), .val (.long x13), .second, .val (.int (1 : Int32)), .val (.long (wrd x13)), .second, .val (.long (((1 : Int64) <<< ((8 : Int32) &&& 0x3f).toInt64) - (1 : Int64))), .second, .unset, .unset] [])
    refine own_go (fun _ => XS.lload X23.here hx rfl (hb hby at_197) rfl) ?_
    show GG _ _ _ _ _ _ _ T23 (mkF m 199 #[.val (.int p0), .val (.int p1), .val (.long q2), .second, .val (.ref ob1), .val (.long x13), .second, .val (.int (1 : Int32)), .val (.long (wrd x13)), .second, .val (.long (((1 : Int64) <<< ((8 : Int32) &&& 0x3f).toInt64) - (1 : Int64))), .second, .unset, .unset] [(.long (wrd x13))])
    refine own_go (fun _ => XS.lload X23.here hx rfl (hb hby at_199) rfl) ?_
    show GG _ _ _ _ _ _ _ T23 (mkF m 201 #[.val (.int p0), .val (.int p1), .val (.long q2), .second, .val (.ref ob1), .val (.long x13), .second, .val (.int (1 : Int32)), .val (.long (wrd x13)), .second, .val (.long (((1 : Int64) <<< ((8 : Int32) &&& 0x3f).toInt64) - (1 : Int64))), .second, .unset, .unset] [(.long (((1 : Int64) <<< ((8 : Int32) &&& 0x3f).toInt64) - (1 : Int64))), (.long (wrd x13))])
    refine own_go (fun _ => XS.land X23.here hx rfl (hb hby at_201) rfl) ?_
    show GG _ _ _ _ _ _ _ T23 (mkF m 202 #[.val (.int p0), .val (.int p1), .val (.long q2), .second, .val (.ref ob1), .val (.long x13), .second, .val (.int (1 : Int32)), .val (.long (wrd x13)), .second, .val (.long (((1 : Int64) <<< ((8 : Int32) &&& 0x3f).toInt64) - (1 : Int64))), .second, .unset, .unset] [(.long ((wrd x13) &&& (((1 : Int64) <<< ((8 : Int32) &&& 0x3f).toInt64) - (1 : Int64))))])
    refine own_go (fun _ => XS.lloadN X23.here hx rfl (hb hby at_202) rfl) ?_
    show GG _ _ _ _ _ _ _ T23 (mkF m 203 #[.val (.int p0), .val (.int p1), .val (.long q2), .second, .val (.ref ob1), .val (.long x13), .second, .val (.int (1 : Int32)), .val (.long (wrd x13)), .second, .val (.long (((1 : Int64) <<< ((8 : Int32) &&& 0x3f).toInt64) - (1 : Int64))), .second, .unset, .unset] [(.long q2), (.long ((wrd x13) &&& (((1 : Int64) <<< ((8 : Int32) &&& 0x3f).toInt64) - (1 : Int64))))])
    refine own_go (fun _ => XS.lload X23.here hx rfl (hb hby at_203) rfl) ?_
    show GG _ _ _ _ _ _ _ T23 (mkF m 205 #[.val (.int p0), .val (.int p1), .val (.long q2), .second, .val (.ref ob1), .val (.long x13), .second, .val (.int (1 : Int32)), .val (.long (wrd x13)), .second, .val (.long (((1 : Int64) <<< ((8 : Int32) &&& 0x3f).toInt64) - (1 : Int64))), .second, .unset, .unset] [(.long (((1 : Int64) <<< ((8 : Int32) &&& 0x3f).toInt64) - (1 : Int64))), (.long q2), (.long ((wrd x13) &&& (((1 : Int64) <<< ((8 : Int32) &&& 0x3f).toInt64) - (1 : Int64))))])
    refine own_go (fun _ => X23.ldc2Long hx hown (mvT hZ (hw _ (List.mem_of_getElem? (i := 15) rfl))) (g := (mkF m 205 #[.val (.int p0), .val (.int p1), .val (.long q2), .second, .val (.ref ob1), .val (.long x13), .second, .val (.int (1 : Int32)), .val (.long (wrd x13)), .second, .val (.long (((1 : Int64) <<< ((8 : Int32) &&& 0x3f).toInt64) - (1 : Int64))), .second, .unset, .unset] [(.long (((1 : Int64) <<< ((8 : Int32) &&& 0x3f).toInt64) - (1 : Int64))), (.long q2), (.long ((wrd x13) &&& (((1 : Int64) <<< ((8 : Int32) &&& 0x3f).toInt64) - (1 : Int64))))])) rfl (hb hby at_205) _) ?_
    show GG _ _ _ _ _ _ _ T23 (mkF m 208 #[.val (.int p0), .val (.int p1), .val (.long q2), .second, .val (.ref ob1), .val (.long x13), .second, .val (.int (1 : Int32)), .val (.long (wrd x13)), .second, .val (.long (((1 : Int64) <<< ((8 : Int32) &&& 0x3f).toInt64) - (1 : Int64))), .second, .unset, .unset] [(.long (-1 : Int64)), (.long (((1 : Int64) <<< ((8 : Int32) &&& 0x3f).toInt64) - (1 : Int64))), (.long q2), (.long ((wrd x13) &&& (((1 : Int64) <<< ((8 : Int32) &&& 0x3f).toInt64) - (1 : Int64))))])
    refine own_go (fun _ => XS.lxor X23.here hx rfl (hb hby at_208) rfl) ?_
    show GG _ _ _ _ _ _ _ T23 (mkF m 209 #[.val (.int p0), .val (.int p1), .val (.long q2), .second, .val (.ref ob1), .val (.long x13), .second, .val (.int (1 : Int32)), .val (.long (wrd x13)), .second, .val (.long (((1 : Int64) <<< ((8 : Int32) &&& 0x3f).toInt64) - (1 : Int64))), .second, .unset, .unset] [(.long ((((1 : Int64) <<< ((8 : Int32) &&& 0x3f).toInt64) - (1 : Int64)) ^^^ (-1 : Int64))), (.long q2), (.long ((wrd x13) &&& (((1 : Int64) <<< ((8 : Int32) &&& 0x3f).toInt64) - (1 : Int64))))])
    refine own_go (fun _ => XS.land X23.here hx rfl (hb hby at_209) rfl) ?_
    show GG _ _ _ _ _ _ _ T23 (mkF m 210 #[.val (.int p0), .val (.int p1), .val (.long q2), .second, .val (.ref ob1), .val (.long x13), .second, .val (.int (1 : Int32)), .val (.long (wrd x13)), .second, .val (.long (((1 : Int64) <<< ((8 : Int32) &&& 0x3f).toInt64) - (1 : Int64))), .second, .unset, .unset] [(.long (q2 &&& ((((1 : Int64) <<< ((8 : Int32) &&& 0x3f).toInt64) - (1 : Int64)) ^^^ (-1 : Int64)))), (.long ((wrd x13) &&& (((1 : Int64) <<< ((8 : Int32) &&& 0x3f).toInt64) - (1 : Int64))))])
    refine own_go (fun _ => XS.lor X23.here hx rfl (hb hby at_210) rfl) ?_
    show GG _ _ _ _ _ _ _ T23 (mkF m 211 #[.val (.int p0), .val (.int p1), .val (.long q2), .second, .val (.ref ob1), .val (.long x13), .second, .val (.int (1 : Int32)), .val (.long (wrd x13)), .second, .val (.long (((1 : Int64) <<< ((8 : Int32) &&& 0x3f).toInt64) - (1 : Int64))), .second, .unset, .unset] [(.long (((wrd x13) &&& (((1 : Int64) <<< ((8 : Int32) &&& 0x3f).toInt64) - (1 : Int64))) ||| (q2 &&& ((((1 : Int64) <<< ((8 : Int32) &&& 0x3f).toInt64) - (1 : Int64)) ^^^ (-1 : Int64)))))])
    refine own_go (fun _ => XS.lstore X23.here hx rfl (hb hby at_211) rfl (l' := #[.val (.int p0), .val (.int p1), .val (.long q2), .second, .val (.ref ob1), .val (.long x13), .second, .val (.int (1 : Int32)), .val (.long (wrd x13)), .second, .val (.long (((1 : Int64) <<< ((8 : Int32) &&& 0x3f).toInt64) - (1 : Int64))), .second, .val (.long (((wrd x13) &&& (((1 : Int64) <<< ((8 : Int32) &&& 0x3f).toInt64) - (1 : Int64))) ||| (q2 &&& ((((1 : Int64) <<< ((8 : Int32) &&& 0x3f).toInt64) - (1 : Int64)) ^^^ (-1 : Int64))))), .second]) rfl) ?_
    show GG _ _ _ _ _ _ _ T23 (mkF m 213 #[.val (.int p0), .val (.int p1), .val (.long q2), .second, .val (.ref ob1), .val (.long x13), .second, .val (.int (1 : Int32)), .val (.long (wrd x13)), .second, .val (.long (((1 : Int64) <<< ((8 : Int32) &&& 0x3f).toInt64) - (1 : Int64))), .second, .val (.long (((wrd x13) &&& (((1 : Int64) <<< ((8 : Int32) &&& 0x3f).toInt64) - (1 : Int64))) ||| (q2 &&& ((((1 : Int64) <<< ((8 : Int32) &&& 0x3f).toInt64) - (1 : Int64)) ^^^ (-1 : Int64))))), .second] [])
    refine own_go (fun _ => XS.lload X23.here hx rfl (hb hby at_213) rfl) ?_
    show GG _ _ _ _ _ _ _ T23 (mkF m 215 #[.val (.int p0), .val (.int p1), .val (.long q2), .second, .val (.ref ob1), .val (.long x13), .second, .val (.int (1 : Int32)), .val (.long (wrd x13)), .second, .val (.long (((1 : Int64) <<< ((8 : Int32) &&& 0x3f).toInt64) - (1 : Int64))), .second, .val (.long (((wrd x13) &&& (((1 : Int64) <<< ((8 : Int32) &&& 0x3f).toInt64) - (1 : Int64))) ||| (q2 &&& ((((1 : Int64) <<< ((8 : Int32) &&& 0x3f).toInt64) - (1 : Int64)) ^^^ (-1 : Int64))))), .second] [(.long (((wrd x13) &&& (((1 : Int64) <<< ((8 : Int32) &&& 0x3f).toInt64) - (1 : Int64))) ||| (q2 &&& ((((1 : Int64) <<< ((8 : Int32) &&& 0x3f).toInt64) - (1 : Int64)) ^^^ (-1 : Int64)))))])
    refine own_go (fun _ => XS.iload X23.here hx rfl (hb hby at_215) rfl) ?_
    show GG _ _ _ _ _ _ _ T23 (mkF m 217 #[.val (.int p0), .val (.int p1), .val (.long q2), .second, .val (.ref ob1), .val (.long x13), .second, .val (.int (1 : Int32)), .val (.long (wrd x13)), .second, .val (.long (((1 : Int64) <<< ((8 : Int32) &&& 0x3f).toInt64) - (1 : Int64))), .second, .val (.long (((wrd x13) &&& (((1 : Int64) <<< ((8 : Int32) &&& 0x3f).toInt64) - (1 : Int64))) ||| (q2 &&& ((((1 : Int64) <<< ((8 : Int32) &&& 0x3f).toInt64) - (1 : Int64)) ^^^ (-1 : Int64))))), .second] [(.int (1 : Int32)), (.long (((wrd x13) &&& (((1 : Int64) <<< ((8 : Int32) &&& 0x3f).toInt64) - (1 : Int64))) ||| (q2 &&& ((((1 : Int64) <<< ((8 : Int32) &&& 0x3f).toInt64) - (1 : Int64)) ^^^ (-1 : Int64)))))])
    refine own_callS X23 hx hZ (y := (⟨"com/example/breakwater/breakwater/model/Digits", "valueOf", "(JI)J"⟩ : MethodName)) 0 hown (hw _ (List.mem_of_getElem? (i := 16) rfl)) (hw _ (List.mem_of_getElem? (i := 17) rfl)) (hw _ (List.mem_of_getElem? (i := 18) rfl)) (hw _ (List.mem_of_getElem? (i := 19) rfl)) (by decide) (argsL := [(.long (((wrd x13) &&& (((1 : Int64) <<< ((8 : Int32) &&& 0x3f).toInt64) - (1 : Int64))) ||| (q2 &&& ((((1 : Int64) <<< ((8 : Int32) &&& 0x3f).toInt64) - (1 : Int64)) ^^^ (-1 : Int64))))), (.int (1 : Int32))]) (rest := []) (rm2 l Z a0 hw [] (((wrd x13) &&& (((1 : Int64) <<< ((8 : Int32) &&& 0x3f).toInt64) - (1 : Int64))) ||| (q2 &&& ((((1 : Int64) <<< ((8 : Int32) &&& 0x3f).toInt64) - (1 : Int64)) ^^^ (-1 : Int64)))) (1 : Int32) h10 n0 (Nat.le_trans Z0 K0.1)) (by decide) (by decide) (by decide) (by decide) (g := (mkF m 217 #[.val (.int p0), .val (.int p1), .val (.long q2), .second, .val (.ref ob1), .val (.long x13), .second, .val (.int (1 : Int32)), .val (.long (wrd x13)), .second, .val (.long (((1 : Int64) <<< ((8 : Int32) &&& 0x3f).toInt64) - (1 : Int64))), .second, .val (.long (((wrd x13) &&& (((1 : Int64) <<< ((8 : Int32) &&& 0x3f).toInt64) - (1 : Int64))) ||| (q2 &&& ((((1 : Int64) <<< ((8 : Int32) &&& 0x3f).toInt64) - (1 : Int64)) ^^^ (-1 : Int64))))), .second] [(.int (1 : Int32)), (.long (((wrd x13) &&& (((1 : Int64) <<< ((8 : Int32) &&& 0x3f).toInt64) - (1 : Int64))) ||| (q2 &&& ((((1 : Int64) <<< ((8 : Int32) &&& 0x3f).toInt64) - (1 : Int64)) ^^^ (-1 : Int64)))))])) rfl (by rw [hml]; rfl) (lenOf pd__JI_J_302 rfl) rfl (by show 2 * 0 + _ ≤ _; exact Nat.le_of_eq rfl) (hb hby at_217) hh23 ?_
    rintro v24 T24 L24 X24 ⟨rfl, N24q, hh24⟩
    have N24 := Fr.app N23 N24q
    show GG _ _ _ _ _ _ _ T24 (mkF m 220 #[.val (.int p0), .val (.int p1), .val (.long q2), .second, .val (.ref ob1), .val (.long x13), .second, .val (.int (1 : Int32)), .val (.long (wrd x13)), .second, .val (.long (((1 : Int64) <<< ((8 : Int32) &&& 0x3f).toInt64) - (1 : Int64))), .second, .val (.long (((wrd x13) &&& (((1 : Int64) <<< ((8 : Int32) &&& 0x3f).toInt64) - (1 : Int64))) ||| (q2 &&& ((((1 : Int64) <<< ((8 : Int32) &&& 0x3f).toInt64) - (1 : Int64)) ^^^ (-1 : Int64))))), .second] [(.long (vof (((wrd x13) &&& (((1 : Int64) <<< ((8 : Int32) &&& 0x3f).toInt64) - (1 : Int64))) ||| (q2 &&& ((((1 : Int64) <<< ((8 : Int32) &&& 0x3f).toInt64) - (1 : Int64)) ^^^ (-1 : Int64)))) (1 : Int32)))])
    refine own_go (fun _ => XS.lload X24.here hx rfl (hb hby at_220) rfl) ?_
    show GG _ _ _ _ _ _ _ T24 (mkF m 222 #[.val (.int p0), .val (.int p1), .val (.long q2), .second, .val (.ref ob1), .val (.long x13), .second, .val (.int (1 : Int32)), .val (.long (wrd x13)), .second, .val (.long (((1 : Int64) <<< ((8 : Int32) &&& 0x3f).toInt64) - (1 : Int64))), .second, .val (.long (((wrd x13) &&& (((1 : Int64) <<< ((8 : Int32) &&& 0x3f).toInt64) - (1 : Int64))) ||| (q2 &&& ((((1 : Int64) <<< ((8 : Int32) &&& 0x3f).toInt64) - (1 : Int64)) ^^^ (-1 : Int64))))), .second] [(.long x13), (.long (vof (((wrd x13) &&& (((1 : Int64) <<< ((8 : Int32) &&& 0x3f).toInt64) - (1 : Int64))) ||| (q2 &&& ((((1 : Int64) <<< ((8 : Int32) &&& 0x3f).toInt64) - (1 : Int64)) ^^^ (-1 : Int64)))) (1 : Int32)))])
    refine own_go (fun _ => XS.aload X24.here hx rfl (hb hby at_222) rfl rfl) ?_
    show GG _ _ _ _ _ _ _ T24 (mkF m 224 #[.val (.int p0), .val (.int p1), .val (.long q2), .second, .val (.ref ob1), .val (.long x13), .second, .val (.int (1 : Int32)), .val (.long (wrd x13)), .second, .val (.long (((1 : Int64) <<< ((8 : Int32) &&& 0x3f).toInt64) - (1 : Int64))), .second, .val (.long (((wrd x13) &&& (((1 : Int64) <<< ((8 : Int32) &&& 0x3f).toInt64) - (1 : Int64))) ||| (q2 &&& ((((1 : Int64) <<< ((8 : Int32) &&& 0x3f).toInt64) - (1 : Int64)) ^^^ (-1 : Int64))))), .second] [(.ref ob1), (.long x13), (.long (vof (((wrd x13) &&& (((1 : Int64) <<< ((8 : Int32) &&& 0x3f).toInt64) - (1 : Int64))) ||| (q2 &&& ((((1 : Int64) <<< ((8 : Int32) &&& 0x3f).toInt64) - (1 : Int64)) ^^^ (-1 : Int64)))) (1 : Int32)))])
    refine own_go (fun _ => XS.bipush X24.here hx rfl (hb hby at_224)) ?_
    show GG _ _ _ _ _ _ _ T24 (mkF m 226 #[.val (.int p0), .val (.int p1), .val (.long q2), .second, .val (.ref ob1), .val (.long x13), .second, .val (.int (1 : Int32)), .val (.long (wrd x13)), .second, .val (.long (((1 : Int64) <<< ((8 : Int32) &&& 0x3f).toInt64) - (1 : Int64))), .second, .val (.long (((wrd x13) &&& (((1 : Int64) <<< ((8 : Int32) &&& 0x3f).toInt64) - (1 : Int64))) ||| (q2 &&& ((((1 : Int64) <<< ((8 : Int32) &&& 0x3f).toInt64) - (1 : Int64)) ^^^ (-1 : Int64))))), .second] [(.int (8 : Int32)), (.ref ob1), (.long x13), (.long (vof (((wrd x13) &&& (((1 : Int64) <<< ((8 : Int32) &&& 0x3f).toInt64) - (1 : Int64))) ||| (q2 &&& ((((1 : Int64) <<< ((8 : Int32) &&& 0x3f).toInt64) - (1 : Int64)) ^^^ (-1 : Int64)))) (1 : Int32)))])
    refine own_go (fun _ => XS.iload X24.here hx rfl (hb hby at_226) rfl) ?_
    show GG _ _ _ _ _ _ _ T24 (mkF m 228 #[.val (.int p0), .val (.int p1), .val (.long q2), .second, .val (.ref ob1), .val (.long x13), .second, .val (.int (1 : Int32)), .val (.long (wrd x13)), .second, .val (.long (((1 : Int64) <<< ((8 : Int32) &&& 0x3f).toInt64) - (1 : Int64))), .second, .val (.long (((wrd x13) &&& (((1 : Int64) <<< ((8 : Int32) &&& 0x3f).toInt64) - (1 : Int64))) ||| (q2 &&& ((((1 : Int64) <<< ((8 : Int32) &&& 0x3f).toInt64) - (1 : Int64)) ^^^ (-1 : Int64))))), .second] [(.int (1 : Int32)), (.int (8 : Int32)), (.ref ob1), (.long x13), (.long (vof (((wrd x13) &&& (((1 : Int64) <<< ((8 : Int32) &&& 0x3f).toInt64) - (1 : Int64))) ||| (q2 &&& ((((1 : Int64) <<< ((8 : Int32) &&& 0x3f).toInt64) - (1 : Int64)) ^^^ (-1 : Int64)))) (1 : Int32)))])
    refine own_go (fun _ => XS.isub X24.here hx rfl (hb hby at_228) rfl) ?_
    show GG _ _ _ _ _ _ _ T24 (mkF m 229 #[.val (.int p0), .val (.int p1), .val (.long q2), .second, .val (.ref ob1), .val (.long x13), .second, .val (.int (1 : Int32)), .val (.long (wrd x13)), .second, .val (.long (((1 : Int64) <<< ((8 : Int32) &&& 0x3f).toInt64) - (1 : Int64))), .second, .val (.long (((wrd x13) &&& (((1 : Int64) <<< ((8 : Int32) &&& 0x3f).toInt64) - (1 : Int64))) ||| (q2 &&& ((((1 : Int64) <<< ((8 : Int32) &&& 0x3f).toInt64) - (1 : Int64)) ^^^ (-1 : Int64))))), .second] [(.int (7 : Int32)), (.ref ob1), (.long x13), (.long (vof (((wrd x13) &&& (((1 : Int64) <<< ((8 : Int32) &&& 0x3f).toInt64) - (1 : Int64))) ||| (q2 &&& ((((1 : Int64) <<< ((8 : Int32) &&& 0x3f).toInt64) - (1 : Int64)) ^^^ (-1 : Int64)))) (1 : Int32)))])
    refine own_go (fun _ => own_laload X24 hx hZ hh24 V_ob1 (j := (7 : Int32)) (v := (.long (10000000 : Int64))) (by decide) rfl (g := (mkF m 229 #[.val (.int p0), .val (.int p1), .val (.long q2), .second, .val (.ref ob1), .val (.long x13), .second, .val (.int (1 : Int32)), .val (.long (wrd x13)), .second, .val (.long (((1 : Int64) <<< ((8 : Int32) &&& 0x3f).toInt64) - (1 : Int64))), .second, .val (.long (((wrd x13) &&& (((1 : Int64) <<< ((8 : Int32) &&& 0x3f).toInt64) - (1 : Int64))) ||| (q2 &&& ((((1 : Int64) <<< ((8 : Int32) &&& 0x3f).toInt64) - (1 : Int64)) ^^^ (-1 : Int64))))), .second] [(.int (7 : Int32)), (.ref ob1), (.long x13), (.long (vof (((wrd x13) &&& (((1 : Int64) <<< ((8 : Int32) &&& 0x3f).toInt64) - (1 : Int64))) ||| (q2 &&& ((((1 : Int64) <<< ((8 : Int32) &&& 0x3f).toInt64) - (1 : Int64)) ^^^ (-1 : Int64)))) (1 : Int32)))])) rfl rfl (hb hby at_229) _) ?_
    show GG _ _ _ _ _ _ _ T24 (mkF m 230 #[.val (.int p0), .val (.int p1), .val (.long q2), .second, .val (.ref ob1), .val (.long x13), .second, .val (.int (1 : Int32)), .val (.long (wrd x13)), .second, .val (.long (((1 : Int64) <<< ((8 : Int32) &&& 0x3f).toInt64) - (1 : Int64))), .second, .val (.long (((wrd x13) &&& (((1 : Int64) <<< ((8 : Int32) &&& 0x3f).toInt64) - (1 : Int64))) ||| (q2 &&& ((((1 : Int64) <<< ((8 : Int32) &&& 0x3f).toInt64) - (1 : Int64)) ^^^ (-1 : Int64))))), .second] [(.long (10000000 : Int64)), (.long x13), (.long (vof (((wrd x13) &&& (((1 : Int64) <<< ((8 : Int32) &&& 0x3f).toInt64) - (1 : Int64))) ||| (q2 &&& ((((1 : Int64) <<< ((8 : Int32) &&& 0x3f).toInt64) - (1 : Int64)) ^^^ (-1 : Int64)))) (1 : Int32)))])
    refine own_go (fun _ => XS.ldiv X24.here hx rfl (hb hby at_230) rfl (by decide)) ?_
    show GG _ _ _ _ _ _ _ T24 (mkF m 231 #[.val (.int p0), .val (.int p1), .val (.long q2), .second, .val (.ref ob1), .val (.long x13), .second, .val (.int (1 : Int32)), .val (.long (wrd x13)), .second, .val (.long (((1 : Int64) <<< ((8 : Int32) &&& 0x3f).toInt64) - (1 : Int64))), .second, .val (.long (((wrd x13) &&& (((1 : Int64) <<< ((8 : Int32) &&& 0x3f).toInt64) - (1 : Int64))) ||| (q2 &&& ((((1 : Int64) <<< ((8 : Int32) &&& 0x3f).toInt64) - (1 : Int64)) ^^^ (-1 : Int64))))), .second] [(.long (x13 / (10000000 : Int64))), (.long (vof (((wrd x13) &&& (((1 : Int64) <<< ((8 : Int32) &&& 0x3f).toInt64) - (1 : Int64))) ||| (q2 &&& ((((1 : Int64) <<< ((8 : Int32) &&& 0x3f).toInt64) - (1 : Int64)) ^^^ (-1 : Int64)))) (1 : Int32)))])
    refine own_go (fun _ => XS.lcmp X24.here hx rfl (hb hby at_231) rfl) ?_
    show GG _ _ _ _ _ _ _ T24 (mkF m 232 #[.val (.int p0), .val (.int p1), .val (.long q2), .second, .val (.ref ob1), .val (.long x13), .second, .val (.int (1 : Int32)), .val (.long (wrd x13)), .second, .val (.long (((1 : Int64) <<< ((8 : Int32) &&& 0x3f).toInt64) - (1 : Int64))), .second, .val (.long (((wrd x13) &&& (((1 : Int64) <<< ((8 : Int32) &&& 0x3f).toInt64) - (1 : Int64))) ||| (q2 &&& ((((1 : Int64) <<< ((8 : Int32) &&& 0x3f).toInt64) - (1 : Int64)) ^^^ (-1 : Int64))))), .second] [(.int (lcmpW (vof (((wrd x13) &&& (((1 : Int64) <<< ((8 : Int32) &&& 0x3f).toInt64) - (1 : Int64))) ||| (q2 &&& ((((1 : Int64) <<< ((8 : Int32) &&& 0x3f).toInt64) - (1 : Int64)) ^^^ (-1 : Int64)))) (1 : Int32)) (x13 / (10000000 : Int64))))])
    have hc232 : (vof (((wrd x13) &&& (((1 : Int64) <<< ((8 : Int32) &&& 0x3f).toInt64) - (1 : Int64))) ||| (q2 &&& ((((1 : Int64) <<< ((8 : Int32) &&& 0x3f).toInt64) - (1 : Int64)) ^^^ (-1 : Int64)))) (1 : Int32)) = (x13 / (10000000 : Int64)) := own_fin1 x13 _ hx0.1 hx0.2
    refine own_go (fun _ => XS.ifNo X24.here hx rfl (hb hby at_232) rfl ((if0 _ _).trans (teq ((lw_eq _ _).mpr hc232)).2)) ?_
    show GG _ _ _ _ _ _ _ T24 (mkF m 235 #[.val (.int p0), .val (.int p1), .val (.long q2), .second, .val (.ref ob1), .val (.long x13), .second, .val (.int (1 : Int32)), .val (.long (wrd x13)), .second, .val (.long (((1 : Int64) <<< ((8 : Int32) &&& 0x3f).toInt64) - (1 : Int64))), .second, .val (.long (((wrd x13) &&& (((1 : Int64) <<< ((8 : Int32) &&& 0x3f).toInt64) - (1 : Int64))) ||| (q2 &&& ((((1 : Int64) <<< ((8 : Int32) &&& 0x3f).toInt64) - (1 : Int64)) ^^^ (-1 : Int64))))), .second] [])
    refine own_go (fun _ => XS.iconst X24.here hx rfl (hb hby at_235)) ?_
    show GG _ _ _ _ _ _ _ T24 (mkF m 236 #[.val (.int p0), .val (.int p1), .val (.long q2), .second, .val (.ref ob1), .val (.long x13), .second, .val (.int (1 : Int32)), .val (.long (wrd x13)), .second, .val (.long (((1 : Int64) <<< ((8 : Int32) &&& 0x3f).toInt64) - (1 : Int64))), .second, .val (.long (((wrd x13) &&& (((1 : Int64) <<< ((8 : Int32) &&& 0x3f).toInt64) - (1 : Int64))) ||| (q2 &&& ((((1 : Int64) <<< ((8 : Int32) &&& 0x3f).toInt64) - (1 : Int64)) ^^^ (-1 : Int64))))), .second] [(.int (1 : Int32))])
    refine own_go (fun _ => XS.goto X24.here hx rfl (pc0 := 236) (pc' := 240) rfl (hb hby at_236) (by decide) (by decide)) ?_
    show GG _ _ _ _ _ _ _ T24 (mkF m 240 #[.val (.int p0), .val (.int p1), .val (.long q2), .second, .val (.ref ob1), .val (.long x13), .second, .val (.int (1 : Int32)), .val (.long (wrd x13)), .second, .val (.long (((1 : Int64) <<< ((8 : Int32) &&& 0x3f).toInt64) - (1 : Int64))), .second, .val (.long (((wrd x13) &&& (((1 : Int64) <<< ((8 : Int32) &&& 0x3f).toInt64) - (1 : Int64))) ||| (q2 &&& ((((1 : Int64) <<< ((8 : Int32) &&& 0x3f).toInt64) - (1 : Int64)) ^^^ (-1 : Int64))))), .second] [(.int (1 : Int32))])
    refine own_ret X24 hx hlk (t := .boolean) (w := (.int (1 : Int32))) Bd.returns rfl (Or.inl ⟨rfl, by simp, _, rfl⟩) (hb hby at_240) (by decide) (by decide) ?_
    show Q0 Z p0 p1 q2 h0 n0 (some (.int (1 : Int32))) T24.heap _
    rw [hh24]
    exact ⟨rfl, N24⟩
  · skip
    subst h8
    show GG _ _ _ _ _ _ _ T23 (mkF m 173 #[.val (.int p0), .val (.int p1), .val (.long q2), .second, .val (.ref ob1), .val (.long x13), .second, .val (.int (2 : Int32)), .val (.long (wrd x13)), .second, .unset, .unset, .unset, .unset] [])
    refine own_go (fun _ => XS.iload X23.here hx rfl (hb hby at_173) rfl) ?_
    show GG _ _ _ _ _ _ _ T23 (mkF m 175 #[.val (.int p0), .val (.int p1), .val (.long q2), .second, .val (.ref ob1), .val (.long x13), .second, .val (.int (2 : Int32)), .val (.long (wrd x13)), .second, .unset, .unset, .unset, .unset] [(.int (2 : Int32))])
    refine own_go (fun _ => XS.bipush X23.here hx rfl (hb hby at_175)) ?_
    show GG _ _ _ _ _ _ _ T23 (mkF m 177 #[.val (.int p0), .val (.int p1), .val (.long q2), .second, .val (.ref ob1), .val (.long x13), .second, .val (.int (2 : Int32)), .val (.long (wrd x13)), .second, .unset, .unset, .unset, .unset] [(.int (8 : Int32)), (.int (2 : Int32))])
    have hc177 : ¬ ((2 : Int32) = (8 : Int32)) := by decide
    refine own_go (fun _ => XS.icmpYes X23.here hx rfl (pc0 := 177) (pc' := 186) rfl (hb hby at_177) rfl (feq hc177).2 (by decide) (by decide)) ?_
    show GG _ _ _ _ _ _ _ T23 (mkF m 186 #[.val (.int p0), .val (.int p1), .val (.long q2), .second, .val (.ref ob1), .val (.long x13), .second, .val (.int (2 : Int32)), .val (.long (wrd x13)), .second, .unset, .unset, .unset, .unset] [])
    refine own_go (fun _ => XS.lconst X23.here hx rfl (hb hby at_186)) ?_
    show GG _ _ _ _ _ _ _ T23 (mkF m 187 #[.val (.int p0), .val (.int p1), .val (.long q2), .second, .val (.ref ob1), .val (.long x13), .second, .val (.int (2 : Int32)), .val (.long (wrd x13)), .second, .unset, .unset, .unset, .unset] [(.long (1 : Int64))])
    refine own_go (fun _ => XS.bipush X23.here hx rfl (hb hby at_187)) ?_
    show GG _ _ _ _ _ _ _ T23 (mkF m 189 #[.val (.int p0), .val (.int p1), .val (.long q2), .second, .val (.ref ob1), .val (.long x13), .second, .val (.int (2 : Int32)), .val (.long (wrd x13)), .second, .unset, .unset, .unset, .unset] [(.int (8 : Int32)), (.long (1 : Int64))])
    refine own_go (fun _ => XS.iload X23.here hx rfl (hb hby at_189) rfl) ?_
    show GG _ _ _ _ _ _ _ T23 (mkF m 191 #[.val (.int p0), .val (.int p1), .val (.long q2), .second, .val (.ref ob1), .val (.long x13), .second, .val (.int (2 : Int32)), .val (.long (wrd x13)), .second, .unset, .unset, .unset, .unset] [(.int (2 : Int32)), (.int (8 : Int32)), (.long (1 : Int64))])
    refine own_go (fun _ => XS.imul X23.here hx rfl (hb hby at_191) rfl) ?_
    show GG _ _ _ _ _ _ _ T23 (mkF m 192 #[.val (.int p0), .val (.int p1), .val (.long q2), .second, .val (.ref ob1), .val (.long x13), .second, .val (.int (2 : Int32)), .val (.long (wrd x13)), .second, .unset, .unset, .unset, .unset] [(.int (16 : Int32)), (.long (1 : Int64))])
    refine own_go (fun _ => XS.lshl X23.here hx rfl (hb hby at_192) rfl) ?_
    show GG _ _ _ _ _ _ _ T23 (mkF m 193 #[.val (.int p0), .val (.int p1), .val (.long q2), .second, .val (.ref ob1), .val (.long x13), .second, .val (.int (2 : Int32)), .val (.long (wrd x13)), .second, .unset, .unset, .unset, .unset] [(.long ((1 : Int64) <<< ((16 : Int32) &&& 0x3f).toInt64))])
    refine own_go (fun _ => XS.lconst X23.here hx rfl (hb hby at_193)) ?_
    show GG _ _ _ _ _ _ _ T23 (mkF m 194 #[.val (.int p0), .val (.int p1), .val (.long q2), .second, .val (.ref ob1), .val (.long x13), .second, .val (.int (2 : Int32)), .val (.long (wrd x13)), .second, .unset, .unset, .unset, .unset] [(.long (1 : Int64)), (.long ((1 : Int64) <<< ((16 : Int32) &&& 0x3f).toInt64))])
    refine own_go (fun _ => XS.lsub X23.here hx rfl (hb hby at_194) rfl) ?_
    show GG _ _ _ _ _ _ _ T23 (mkF m 195 #[.val (.int p0), .val (.int p1), .val (.long q2), .second, .val (.ref ob1), .val (.long x13), .second, .val (.int (2 : Int32)), .val (.long (wrd x13)), .second, .unset, .unset, .unset, .unset] [(.long (((1 : Int64) <<< ((16 : Int32) &&& 0x3f).toInt64) - (1 : Int64)))])
    refine own_go (fun _ => XS.lstore X23.here hx rfl (hb hby at_195) rfl (l' := #[.val (.int p0), .val (.int p1), .val (.long q2), .second, .val (.ref ob1), .val (.long x13), .second, .val (.int (2 : Int32)), .val (.long (wrd x13)), .second, .val (.long (((1 : Int64) <<< ((16 : Int32) &&& 0x3f).toInt64) - (1 : Int64))), .second, .unset, .unset]) rfl) ?_
    show GG _ _ _ _ _ _ _ T23 (mkF m 197 #[.val (.int p0), .val (.int p1), .val (.long q2), .second, .val (.ref ob1), .val (.long x13), .second, .val (.int (2 : Int32)), .val (.long (wrd x13)), .second, .val (.long (((1 : Int64) <<< ((16 : Int32) &&& 0x3f).toInt64) - (1 : Int64))), .second, .unset, .unset] [])
    refine own_go (fun _ => XS.lload X23.here hx rfl (hb hby at_197) rfl) ?_
    show GG _ _ _ _ _ _ _ T23 (mkF m 199 #[.val (.int p0), .val (.int p1), .val (.long q2), .second, .val (.ref ob1), .val (.long x13), .second, .val (.int (2 : Int32)), .val (.long (wrd x13)), .second, .val (.long (((1 : Int64) <<< ((16 : Int32) &&& 0x3f).toInt64) - (1 : Int64))), .second, .unset, .unset] [(.long (wrd x13))])
    refine own_go (fun _ => XS.lload X23.here hx rfl (hb hby at_199) rfl) ?_
    show GG _ _ _ _ _ _ _ T23 (mkF m 201 #[.val (.int p0), .val (.int p1), .val (.long q2), .second, .val (.ref ob1), .val (.long x13), .second, .val (.int (2 : Int32)), .val (.long (wrd x13)), .second, .val (.long (((1 : Int64) <<< ((16 : Int32) &&& 0x3f).toInt64) - (1 : Int64))), .second, .unset, .unset] [(.long (((1 : Int64) <<< ((16 : Int32) &&& 0x3f).toInt64) - (1 : Int64))), (.long (wrd x13))])
    refine own_go (fun _ => XS.land X23.here hx rfl (hb hby at_201) rfl) ?_
    show GG _ _ _ _ _ _ _ T23 (mkF m 202 #[.val (.int p0), .val (.int p1), .val (.long q2), .second, .val (.ref ob1), .val (.long x13), .second, .val (.int (2 : Int32)), .val (.long (wrd x13)), .second, .val (.long (((1 : Int64) <<< ((16 : Int32) &&& 0x3f).toInt64) - (1 : Int64))), .second, .unset, .unset] [(.long ((wrd x13) &&& (((1 : Int64) <<< ((16 : Int32) &&& 0x3f).toInt64) - (1 : Int64))))])
    refine own_go (fun _ => XS.lloadN X23.here hx rfl (hb hby at_202) rfl) ?_
    show GG _ _ _ _ _ _ _ T23 (mkF m 203 #[.val (.int p0), .val (.int p1), .val (.long q2), .second, .val (.ref ob1), .val (.long x13), .second, .val (.int (2 : Int32)), .val (.long (wrd x13)), .second, .val (.long (((1 : Int64) <<< ((16 : Int32) &&& 0x3f).toInt64) - (1 : Int64))), .second, .unset, .unset] [(.long q2), (.long ((wrd x13) &&& (((1 : Int64) <<< ((16 : Int32) &&& 0x3f).toInt64) - (1 : Int64))))])
    refine own_go (fun _ => XS.lload X23.here hx rfl (hb hby at_203) rfl) ?_
    show GG _ _ _ _ _ _ _ T23 (mkF m 205 #[.val (.int p0), .val (.int p1), .val (.long q2), .second, .val (.ref ob1), .val (.long x13), .second, .val (.int (2 : Int32)), .val (.long (wrd x13)), .second, .val (.long (((1 : Int64) <<< ((16 : Int32) &&& 0x3f).toInt64) - (1 : Int64))), .second, .unset, .unset] [(.long (((1 : Int64) <<< ((16 : Int32) &&& 0x3f).toInt64) - (1 : Int64))), (.long q2), (.long ((wrd x13) &&& (((1 : Int64) <<< ((16 : Int32) &&& 0x3f).toInt64) - (1 : Int64))))])
    refine own_go (fun _ => X23.ldc2Long hx hown (mvT hZ (hw _ (List.mem_of_getElem? (i := 15) rfl))) (g := (mkF m 205 #[.val (.int p0), .val (.int p1), .val (.long q2), .second, .val (.ref ob1), .val (.long x13), .second, .val (.int (2 : Int32)), .val (.long (wrd x13)), .second, .val (.long (((1 : Int64) <<< ((16 : Int32) &&& 0x3f).toInt64) - (1 : Int64))), .second, .unset, .unset] [(.long (((1 : Int64) <<< ((16 : Int32) &&& 0x3f).toInt64) - (1 : Int64))), (.long q2), (.long ((wrd x13) &&& (((1 : Int64) <<< ((16 : Int32) &&& 0x3f).toInt64) - (1 : Int64))))])) rfl (hb hby at_205) _) ?_
    show GG _ _ _ _ _ _ _ T23 (mkF m 208 #[.val (.int p0), .val (.int p1), .val (.long q2), .second, .val (.ref ob1), .val (.long x13), .second, .val (.int (2 : Int32)), .val (.long (wrd x13)), .second, .val (.long (((1 : Int64) <<< ((16 : Int32) &&& 0x3f).toInt64) - (1 : Int64))), .second, .unset, .unset] [(.long (-1 : Int64)), (.long (((1 : Int64) <<< ((16 : Int32) &&& 0x3f).toInt64) - (1 : Int64))), (.long q2), (.long ((wrd x13) &&& (((1 : Int64) <<< ((16 : Int32) &&& 0x3f).toInt64) - (1 : Int64))))])
    refine own_go (fun _ => XS.lxor X23.here hx rfl (hb hby at_208) rfl) ?_
    show GG _ _ _ _ _ _ _ T23 (mkF m 209 #[.val (.int p0), .val (.int p1), .val (.long q2), .second, .val (.ref ob1), .val (.long x13), .second, .val (.int (2 : Int32)), .val (.long (wrd x13)), .second, .val (.long (((1 : Int64) <<< ((16 : Int32) &&& 0x3f).toInt64) - (1 : Int64))), .second, .unset, .unset] [(.long ((((1 : Int64) <<< ((16 : Int32) &&& 0x3f).toInt64) - (1 : Int64)) ^^^ (-1 : Int64))), (.long q2), (.long ((wrd x13) &&& (((1 : Int64) <<< ((16 : Int32) &&& 0x3f).toInt64) - (1 : Int64))))])
    refine own_go (fun _ => XS.land X23.here hx rfl (hb hby at_209) rfl) ?_
    show GG _ _ _ _ _ _ _ T23 (mkF m 210 #[.val (.int p0), .val (.int p1), .val (.long q2), .second, .val (.ref ob1), .val (.long x13), .second, .val (.int (2 : Int32)), .val (.long (wrd x13)), .second, .val (.long (((1 : Int64) <<< ((16 : Int32) &&& 0x3f).toInt64) - (1 : Int64))), .second, .unset, .unset] [(.long (q2 &&& ((((1 : Int64) <<< ((16 : Int32) &&& 0x3f).toInt64) - (1 : Int64)) ^^^ (-1 : Int64)))), (.long ((wrd x13) &&& (((1 : Int64) <<< ((16 : Int32) &&& 0x3f).toInt64) - (1 : Int64))))])
    refine own_go (fun _ => XS.lor X23.here hx rfl (hb hby at_210) rfl) ?_
    show GG _ _ _ _ _ _ _ T23 (mkF m 211 #[.val (.int p0), .val (.int p1), .val (.long q2), .second, .val (.ref ob1), .val (.long x13), .second, .val (.int (2 : Int32)), .val (.long (wrd x13)), .second, .val (.long (((1 : Int64) <<< ((16 : Int32) &&& 0x3f).toInt64) - (1 : Int64))), .second, .unset, .unset] [(.long (((wrd x13) &&& (((1 : Int64) <<< ((16 : Int32) &&& 0x3f).toInt64) - (1 : Int64))) ||| (q2 &&& ((((1 : Int64) <<< ((16 : Int32) &&& 0x3f).toInt64) - (1 : Int64)) ^^^ (-1 : Int64)))))])
    refine own_go (fun _ => XS.lstore X23.here hx rfl (hb hby at_211) rfl (l' := #[.val (.int p0), .val (.int p1), .val (.long q2), .second, .val (.ref ob1), .val (.long x13), .second, .val (.int (2 : Int32)), .val (.long (wrd x13)), .second, .val (.long (((1 : Int64) <<< ((16 : Int32) &&& 0x3f).toInt64) - (1 : Int64))), .second, .val (.long (((wrd x13) &&& (((1 : Int64) <<< ((16 : Int32) &&& 0x3f).toInt64) - (1 : Int64))) ||| (q2 &&& ((((1 : Int64) <<< ((16 : Int32) &&& 0x3f).toInt64) - (1 : Int64)) ^^^ (-1 : Int64))))), .second]) rfl) ?_
    show GG _ _ _ _ _ _ _ T23 (mkF m 213 #[.val (.int p0), .val (.int p1), .val (.long q2), .second, .val (.ref ob1), .val (.long x13), .second, .val (.int (2 : Int32)), .val (.long (wrd x13)), .second, .val (.long (((1 : Int64) <<< ((16 : Int32) &&& 0x3f).toInt64) - (1 : Int64))), .second, .val (.long (((wrd x13) &&& (((1 : Int64) <<< ((16 : Int32) &&& 0x3f).toInt64) - (1 : Int64))) ||| (q2 &&& ((((1 : Int64) <<< ((16 : Int32) &&& 0x3f).toInt64) - (1 : Int64)) ^^^ (-1 : Int64))))), .second] [])
    refine own_go (fun _ => XS.lload X23.here hx rfl (hb hby at_213) rfl) ?_
    show GG _ _ _ _ _ _ _ T23 (mkF m 215 #[.val (.int p0), .val (.int p1), .val (.long q2), .second, .val (.ref ob1), .val (.long x13), .second, .val (.int (2 : Int32)), .val (.long (wrd x13)), .second, .val (.long (((1 : Int64) <<< ((16 : Int32) &&& 0x3f).toInt64) - (1 : Int64))), .second, .val (.long (((wrd x13) &&& (((1 : Int64) <<< ((16 : Int32) &&& 0x3f).toInt64) - (1 : Int64))) ||| (q2 &&& ((((1 : Int64) <<< ((16 : Int32) &&& 0x3f).toInt64) - (1 : Int64)) ^^^ (-1 : Int64))))), .second] [(.long (((wrd x13) &&& (((1 : Int64) <<< ((16 : Int32) &&& 0x3f).toInt64) - (1 : Int64))) ||| (q2 &&& ((((1 : Int64) <<< ((16 : Int32) &&& 0x3f).toInt64) - (1 : Int64)) ^^^ (-1 : Int64)))))])
    refine own_go (fun _ => XS.iload X23.here hx rfl (hb hby at_215) rfl) ?_
    show GG _ _ _ _ _ _ _ T23 (mkF m 217 #[.val (.int p0), .val (.int p1), .val (.long q2), .second, .val (.ref ob1), .val (.long x13), .second, .val (.int (2 : Int32)), .val (.long (wrd x13)), .second, .val (.long (((1 : Int64) <<< ((16 : Int32) &&& 0x3f).toInt64) - (1 : Int64))), .second, .val (.long (((wrd x13) &&& (((1 : Int64) <<< ((16 : Int32) &&& 0x3f).toInt64) - (1 : Int64))) ||| (q2 &&& ((((1 : Int64) <<< ((16 : Int32) &&& 0x3f).toInt64) - (1 : Int64)) ^^^ (-1 : Int64))))), .second] [(.int (2 : Int32)), (.long (((wrd x13) &&& (((1 : Int64) <<< ((16 : Int32) &&& 0x3f).toInt64) - (1 : Int64))) ||| (q2 &&& ((((1 : Int64) <<< ((16 : Int32) &&& 0x3f).toInt64) - (1 : Int64)) ^^^ (-1 : Int64)))))])
    refine own_callS X23 hx hZ (y := (⟨"com/example/breakwater/breakwater/model/Digits", "valueOf", "(JI)J"⟩ : MethodName)) 0 hown (hw _ (List.mem_of_getElem? (i := 16) rfl)) (hw _ (List.mem_of_getElem? (i := 17) rfl)) (hw _ (List.mem_of_getElem? (i := 18) rfl)) (hw _ (List.mem_of_getElem? (i := 19) rfl)) (by decide) (argsL := [(.long (((wrd x13) &&& (((1 : Int64) <<< ((16 : Int32) &&& 0x3f).toInt64) - (1 : Int64))) ||| (q2 &&& ((((1 : Int64) <<< ((16 : Int32) &&& 0x3f).toInt64) - (1 : Int64)) ^^^ (-1 : Int64))))), (.int (2 : Int32))]) (rest := []) (rm2 l Z a0 hw [] (((wrd x13) &&& (((1 : Int64) <<< ((16 : Int32) &&& 0x3f).toInt64) - (1 : Int64))) ||| (q2 &&& ((((1 : Int64) <<< ((16 : Int32) &&& 0x3f).toInt64) - (1 : Int64)) ^^^ (-1 : Int64)))) (2 : Int32) h10 n0 (Nat.le_trans Z0 K0.1)) (by decide) (by decide) (by decide) (by decide) (g := (mkF m 217 #[.val (.int p0), .val (.int p1), .val (.long q2), .second, .val (.ref ob1), .val (.long x13), .second, .val (.int (2 : Int32)), .val (.long (wrd x13)), .second, .val (.long (((1 : Int64) <<< ((16 : Int32) &&& 0x3f).toInt64) - (1 : Int64))), .second, .val (.long (((wrd x13) &&& (((1 : Int64) <<< ((16 : Int32) &&& 0x3f).toInt64) - (1 : Int64))) ||| (q2 &&& ((((1 : Int64) <<< ((16 : Int32) &&& 0x3f).toInt64) - (1 : Int64)) ^^^ (-1 : Int64))))), .second] [(.int (2 : Int32)), (.long (((wrd x13) &&& (((1 : Int64) <<< ((16 : Int32) &&& 0x3f).toInt64) - (1 : Int64))) ||| (q2 &&& ((((1 : Int64) <<< ((16 : Int32) &&& 0x3f).toInt64) - (1 : Int64)) ^^^ (-1 : Int64)))))])) rfl (by rw [hml]; rfl) (lenOf pd__JI_J_302 rfl) rfl (by show 2 * 0 + _ ≤ _; exact Nat.le_of_eq rfl) (hb hby at_217) hh23 ?_
    rintro v25 T25 L25 X25 ⟨rfl, N25q, hh25⟩
    have N25 := Fr.app N23 N25q
    show GG _ _ _ _ _ _ _ T25 (mkF m 220 #[.val (.int p0), .val (.int p1), .val (.long q2), .second, .val (.ref ob1), .val (.long x13), .second, .val (.int (2 : Int32)), .val (.long (wrd x13)), .second, .val (.long (((1 : Int64) <<< ((16 : Int32) &&& 0x3f).toInt64) - (1 : Int64))), .second, .val (.long (((wrd x13) &&& (((1 : Int64) <<< ((16 : Int32) &&& 0x3f).toInt64) - (1 : Int64))) ||| (q2 &&& ((((1 : Int64) <<< ((16 : Int32) &&& 0x3f).toInt64) - (1 : Int64)) ^^^ (-1 : Int64))))), .second] [(.long (vof (((wrd x13) &&& (((1 : Int64) <<< ((16 : Int32) &&& 0x3f).toInt64) - (1 : Int64))) ||| (q2 &&& ((((1 : Int64) <<< ((16 : Int32) &&& 0x3f).toInt64) - (1 : Int64)) ^^^ (-1 : Int64)))) (2 : Int32)))])
    refine own_go (fun _ => XS.lload X25.here hx rfl (hb hby at_220) rfl) ?_
    show GG _ _ _ _ _ _ _ T25 (mkF m 222 #[.val (.int p0), .val (.int p1), .val (.long q2), .second, .val (.ref ob1), .val (.long x13), .second, .val (.int (2 : Int32)), .val (.long (wrd x13)), .second, .val (.long (((1 : Int64) <<< ((16 : Int32) &&& 0x3f).toInt64) - (1 : Int64))), .second, .val (.long (((wrd x13) &&& (((1 : Int64) <<< ((16 : Int32) &&& 0x3f).toInt64) - (1 : Int64))) ||| (q2 &&& ((((1 : Int64) <<< ((16 : Int32) &&& 0x3f).toInt64) - (1 : Int64)) ^^^ (-1 : Int64))))), .second] [(.long x13), (.long (vof (((wrd x13) &&& (((1 : Int64) <<< ((16 : Int32) &&& 0x3f).toInt64) - (1 : Int64))) ||| (q2 &&& ((((1 : Int64) <<< ((16 : Int32) &&& 0x3f).toInt64) - (1 : Int64)) ^^^ (-1 : Int64)))) (2 : Int32)))])
    refine own_go (fun _ => XS.aload X25.here hx rfl (hb hby at_222) rfl rfl) ?_
    show GG _ _ _ _ _ _ _ T25 (mkF m 224 #[.val (.int p0), .val (.int p1), .val (.long q2), .second, .val (.ref ob1), .val (.long x13), .second, .val (.int (2 : Int32)), .val (.long (wrd x13)), .second, .val (.long (((1 : Int64) <<< ((16 : Int32) &&& 0x3f).toInt64) - (1 : Int64))), .second, .val (.long (((wrd x13) &&& (((1 : Int64) <<< ((16 : Int32) &&& 0x3f).toInt64) - (1 : Int64))) ||| (q2 &&& ((((1 : Int64) <<< ((16 : Int32) &&& 0x3f).toInt64) - (1 : Int64)) ^^^ (-1 : Int64))))), .second] [(.ref ob1), (.long x13), (.long (vof (((wrd x13) &&& (((1 : Int64) <<< ((16 : Int32) &&& 0x3f).toInt64) - (1 : Int64))) ||| (q2 &&& ((((1 : Int64) <<< ((16 : Int32) &&& 0x3f).toInt64) - (1 : Int64)) ^^^ (-1 : Int64)))) (2 : Int32)))])
    refine own_go (fun _ => XS.bipush X25.here hx rfl (hb hby at_224)) ?_
    show GG _ _ _ _ _ _ _ T25 (mkF m 226 #[.val (.int p0), .val (.int p1), .val (.long q2), .second, .val (.ref ob1), .val (.long x13), .second, .val (.int (2 : Int32)), .val (.long (wrd x13)), .second, .val (.long (((1 : Int64) <<< ((16 : Int32) &&& 0x3f).toInt64) - (1 : Int64))), .second, .val (.long (((wrd x13) &&& (((1 : Int64) <<< ((16 : Int32) &&& 0x3f).toInt64) - (1 : Int64))) ||| (q2 &&& ((((1 : Int64) <<< ((16 : Int32) &&& 0x3f).toInt64) - (1 : Int64)) ^^^ (-1 : Int64))))), .second] [(.int (8 : Int32)), (.ref ob1), (.long x13), (.long (vof (((wrd x13) &&& (((1 : Int64) <<< ((16 : Int32) &&& 0x3f).toInt64) - (1 : Int64))) ||| (q2 &&& ((((1 : Int64) <<< ((16 : Int32) &&& 0x3f).toInt64) - (1 : Int64)) ^^^ (-1 : Int64)))) (2 : Int32)))])
    refine own_go (fun _ => XS.iload X25.here hx rfl (hb hby at_226) rfl) ?_
    show GG _ _ _ _ _ _ _ T25 (mkF m 228 #[.val (.int p0), .val (.int p1), .val (.long q2), .second, .val (.ref ob1), .val (.long x13), .second, .val (.int (2 : Int32)), .val (.long (wrd x13)), .second, .val (.long (((1 : Int64) <<< ((16 : Int32) &&& 0x3f).toInt64) - (1 : Int64))), .second, .val (.long (((wrd x13) &&& (((1 : Int64) <<< ((16 : Int32) &&& 0x3f).toInt64) - (1 : Int64))) ||| (q2 &&& ((((1 : Int64) <<< ((16 : Int32) &&& 0x3f).toInt64) - (1 : Int64)) ^^^ (-1 : Int64))))), .second] [(.int (2 : Int32)), (.int (8 : Int32)), (.ref ob1), (.long x13), (.long (vof (((wrd x13) &&& (((1 : Int64) <<< ((16 : Int32) &&& 0x3f).toInt64) - (1 : Int64))) ||| (q2 &&& ((((1 : Int64) <<< ((16 : Int32) &&& 0x3f).toInt64) - (1 : Int64)) ^^^ (-1 : Int64)))) (2 : Int32)))])
    refine own_go (fun _ => XS.isub X25.here hx rfl (hb hby at_228) rfl) ?_
    show GG _ _ _ _ _ _ _ T25 (mkF m 229 #[.val (.int p0), .val (.int p1), .val (.long q2), .second, .val (.ref ob1), .val (.long x13), .second, .val (.int (2 : Int32)), .val (.long (wrd x13)), .second, .val (.long (((1 : Int64) <<< ((16 : Int32) &&& 0x3f).toInt64) - (1 : Int64))), .second, .val (.long (((wrd x13) &&& (((1 : Int64) <<< ((16 : Int32) &&& 0x3f).toInt64) - (1 : Int64))) ||| (q2 &&& ((((1 : Int64) <<< ((16 : Int32) &&& 0x3f).toInt64) - (1 : Int64)) ^^^ (-1 : Int64))))), .second] [(.int (6 : Int32)), (.ref ob1), (.long x13), (.long (vof (((wrd x13) &&& (((1 : Int64) <<< ((16 : Int32) &&& 0x3f).toInt64) - (1 : Int64))) ||| (q2 &&& ((((1 : Int64) <<< ((16 : Int32) &&& 0x3f).toInt64) - (1 : Int64)) ^^^ (-1 : Int64)))) (2 : Int32)))])
    refine own_go (fun _ => own_laload X25 hx hZ hh25 V_ob1 (j := (6 : Int32)) (v := (.long (1000000 : Int64))) (by decide) rfl (g := (mkF m 229 #[.val (.int p0), .val (.int p1), .val (.long q2), .second, .val (.ref ob1), .val (.long x13), .second, .val (.int (2 : Int32)), .val (.long (wrd x13)), .second, .val (.long (((1 : Int64) <<< ((16 : Int32) &&& 0x3f).toInt64) - (1 : Int64))), .second, .val (.long (((wrd x13) &&& (((1 : Int64) <<< ((16 : Int32) &&& 0x3f).toInt64) - (1 : Int64))) ||| (q2 &&& ((((1 : Int64) <<< ((16 : Int32) &&& 0x3f).toInt64) - (1 : Int64)) ^^^ (-1 : Int64))))), .second] [(.int (6 : Int32)), (.ref ob1), (.long x13), (.long (vof (((wrd x13) &&& (((1 : Int64) <<< ((16 : Int32) &&& 0x3f).toInt64) - (1 : Int64))) ||| (q2 &&& ((((1 : Int64) <<< ((16 : Int32) &&& 0x3f).toInt64) - (1 : Int64)) ^^^ (-1 : Int64)))) (2 : Int32)))])) rfl rfl (hb hby at_229) _) ?_
    show GG _ _ _ _ _ _ _ T25 (mkF m 230 #[.val (.int p0), .val (.int p1), .val (.long q2), .second, .val (.ref ob1), .val (.long x13), .second, .val (.int (2 : Int32)), .val (.long (wrd x13)), .second, .val (.long (((1 : Int64) <<< ((16 : Int32) &&& 0x3f).toInt64) - (1 : Int64))), .second, .val (.long (((wrd x13) &&& (((1 : Int64) <<< ((16 : Int32) &&& 0x3f).toInt64) - (1 : Int64))) ||| (q2 &&& ((((1 : Int64) <<< ((16 : Int32) &&& 0x3f).toInt64) - (1 : Int64)) ^^^ (-1 : Int64))))), .second] [(.long (1000000 : Int64)), (.long x13), (.long (vof (((wrd x13) &&& (((1 : Int64) <<< ((16 : Int32) &&& 0x3f).toInt64) - (1 : Int64))) ||| (q2 &&& ((((1 : Int64) <<< ((16 : Int32) &&& 0x3f).toInt64) - (1 : Int64)) ^^^ (-1 : Int64)))) (2 : Int32)))])
    refine own_go (fun _ => XS.ldiv X25.here hx rfl (hb hby at_230) rfl (by decide)) ?_
    show GG _ _ _ _ _ _ _ T25 (mkF m 231 #[.val (.int p0), .val (.int p1), .val (.long q2), .second, .val (.ref ob1), .val (.long x13), .second, .val (.int (2 : Int32)), .val (.long (wrd x13)), .second, .val (.long (((1 : Int64) <<< ((16 : Int32) &&& 0x3f).toInt64) - (1 : Int64))), .second, .val (.long (((wrd x13) &&& (((1 : Int64) <<< ((16 : Int32) &&& 0x3f).toInt64) - (1 : Int64))) ||| (q2 &&& ((((1 : Int64) <<< ((16 : Int32) &&& 0x3f).toInt64) - (1 : Int64)) ^^^ (-1 : Int64))))), .second] [(.long (x13 / (1000000 : Int64))), (.long (vof (((wrd x13) &&& (((1 : Int64) <<< ((16 : Int32) &&& 0x3f).toInt64) - (1 : Int64))) ||| (q2 &&& ((((1 : Int64) <<< ((16 : Int32) &&& 0x3f).toInt64) - (1 : Int64)) ^^^ (-1 : Int64)))) (2 : Int32)))])
    refine own_go (fun _ => XS.lcmp X25.here hx rfl (hb hby at_231) rfl) ?_
    show GG _ _ _ _ _ _ _ T25 (mkF m 232 #[.val (.int p0), .val (.int p1), .val (.long q2), .second, .val (.ref ob1), .val (.long x13), .second, .val (.int (2 : Int32)), .val (.long (wrd x13)), .second, .val (.long (((1 : Int64) <<< ((16 : Int32) &&& 0x3f).toInt64) - (1 : Int64))), .second, .val (.long (((wrd x13) &&& (((1 : Int64) <<< ((16 : Int32) &&& 0x3f).toInt64) - (1 : Int64))) ||| (q2 &&& ((((1 : Int64) <<< ((16 : Int32) &&& 0x3f).toInt64) - (1 : Int64)) ^^^ (-1 : Int64))))), .second] [(.int (lcmpW (vof (((wrd x13) &&& (((1 : Int64) <<< ((16 : Int32) &&& 0x3f).toInt64) - (1 : Int64))) ||| (q2 &&& ((((1 : Int64) <<< ((16 : Int32) &&& 0x3f).toInt64) - (1 : Int64)) ^^^ (-1 : Int64)))) (2 : Int32)) (x13 / (1000000 : Int64))))])
    have hc232 : (vof (((wrd x13) &&& (((1 : Int64) <<< ((16 : Int32) &&& 0x3f).toInt64) - (1 : Int64))) ||| (q2 &&& ((((1 : Int64) <<< ((16 : Int32) &&& 0x3f).toInt64) - (1 : Int64)) ^^^ (-1 : Int64)))) (2 : Int32)) = (x13 / (1000000 : Int64)) := own_fin2 x13 _ hx0.1 hx0.2
    refine own_go (fun _ => XS.ifNo X25.here hx rfl (hb hby at_232) rfl ((if0 _ _).trans (teq ((lw_eq _ _).mpr hc232)).2)) ?_
    show GG _ _ _ _ _ _ _ T25 (mkF m 235 #[.val (.int p0), .val (.int p1), .val (.long q2), .second, .val (.ref ob1), .val (.long x13), .second, .val (.int (2 : Int32)), .val (.long (wrd x13)), .second, .val (.long (((1 : Int64) <<< ((16 : Int32) &&& 0x3f).toInt64) - (1 : Int64))), .second, .val (.long (((wrd x13) &&& (((1 : Int64) <<< ((16 : Int32) &&& 0x3f).toInt64) - (1 : Int64))) ||| (q2 &&& ((((1 : Int64) <<< ((16 : Int32) &&& 0x3f).toInt64) - (1 : Int64)) ^^^ (-1 : Int64))))), .second] [])
    refine own_go (fun _ => XS.iconst X25.here hx rfl (hb hby at_235)) ?_
    show GG _ _ _ _ _ _ _ T25 (mkF m 236 #[.val (.int p0), .val (.int p1), .val (.long q2), .second, .val (.ref ob1), .val (.long x13), .second, .val (.int (2 : Int32)), .val (.long (wrd x13)), .second, .val (.long (((1 : Int64) <<< ((16 : Int32) &&& 0x3f).toInt64) - (1 : Int64))), .second, .val (.long (((wrd x13) &&& (((1 : Int64) <<< ((16 : Int32) &&& 0x3f).toInt64) - (1 : Int64))) ||| (q2 &&& ((((1 : Int64) <<< ((16 : Int32) &&& 0x3f).toInt64) - (1 : Int64)) ^^^ (-1 : Int64))))), .second] [(.int (1 : Int32))])
    refine own_go (fun _ => XS.goto X25.here hx rfl (pc0 := 236) (pc' := 240) rfl (hb hby at_236) (by decide) (by decide)) ?_
    show GG _ _ _ _ _ _ _ T25 (mkF m 240 #[.val (.int p0), .val (.int p1), .val (.long q2), .second, .val (.ref ob1), .val (.long x13), .second, .val (.int (2 : Int32)), .val (.long (wrd x13)), .second, .val (.long (((1 : Int64) <<< ((16 : Int32) &&& 0x3f).toInt64) - (1 : Int64))), .second, .val (.long (((wrd x13) &&& (((1 : Int64) <<< ((16 : Int32) &&& 0x3f).toInt64) - (1 : Int64))) ||| (q2 &&& ((((1 : Int64) <<< ((16 : Int32) &&& 0x3f).toInt64) - (1 : Int64)) ^^^ (-1 : Int64))))), .second] [(.int (1 : Int32))])
    refine own_ret X25 hx hlk (t := .boolean) (w := (.int (1 : Int32))) Bd.returns rfl (Or.inl ⟨rfl, by simp, _, rfl⟩) (hb hby at_240) (by decide) (by decide) ?_
    show Q0 Z p0 p1 q2 h0 n0 (some (.int (1 : Int32))) T25.heap _
    rw [hh25]
    exact ⟨rfl, N25⟩
  · skip
    subst h8
    show GG _ _ _ _ _ _ _ T23 (mkF m 173 #[.val (.int p0), .val (.int p1), .val (.long q2), .second, .val (.ref ob1), .val (.long x13), .second, .val (.int (3 : Int32)), .val (.long (wrd x13)), .second, .unset, .unset, .unset, .unset] [])
    refine own_go (fun _ => XS.iload X23.here hx rfl (hb hby at_173) rfl) ?_
    show GG _ _ _ _ _ _ _ T23 (mkF m 175 #[.val (.int p0), .val (.int p1), .val (.long q2), .second, .val (.ref ob1), .val (.long x13), .second, .val (.int (3 : Int32)), .val (.long (wrd x13)), .second, .unset, .unset, .unset, .unset] [(.int (3 : Int32))])
    refine own_go (fun _ => XS.bipush X23.here hx rfl (hb hby at_175)) ?_
    show GG _ _ _ _ _ _ _ T23 (mkF m 177 #[.val (.int p0), .val (.int p1), .val (.long q2), .second, .val (.ref ob1), .val (.long x13), .second, .val (.int (3 : Int32)), .val (.long (wrd x13)), .second, .unset, .unset, .unset, .unset] [(.int (8 : Int32)), (.int (3 : Int32))])
    have hc177 : ¬ ((3 : Int32) = (8 : Int32)) := by decide
    refine own_go (fun _ => XS.icmpYes X23.here hx rfl (pc0 := 177) (pc' := 186) rfl (hb hby at_177) rfl (feq hc177).2 (by decide) (by decide)) ?_
    show GG _ _ _ _ _ _ _ T23 (mkF m 186 #[.val (.int p0), .val (.int p1), .val (.long q2), .second, .val (.ref ob1), .val (.long x13), .second, .val (.int (3 : Int32)), .val (.long (wrd x13)), .second, .unset, .unset, .unset, .unset] [])
    refine own_go (fun _ => XS.lconst X23.here hx rfl (hb hby at_186)) ?_
    show GG _ _ _ _ _ _ _ T23 (mkF m 187 #[.val (.int p0), .val (.int p1), .val (.long q2), .second, .val (.ref ob1), .val (.long x13), .second, .val (.int (3 : Int32)), .val (.long (wrd x13)), .second, .unset, .unset, .unset, .unset] [(.long (1 : Int64))])
    refine own_go (fun _ => XS.bipush X23.here hx rfl (hb hby at_187)) ?_
    show GG _ _ _ _ _ _ _ T23 (mkF m 189 #[.val (.int p0), .val (.int p1), .val (.long q2), .second, .val (.ref ob1), .val (.long x13), .second, .val (.int (3 : Int32)), .val (.long (wrd x13)), .second, .unset, .unset, .unset, .unset] [(.int (8 : Int32)), (.long (1 : Int64))])
    refine own_go (fun _ => XS.iload X23.here hx rfl (hb hby at_189) rfl) ?_
    show GG _ _ _ _ _ _ _ T23 (mkF m 191 #[.val (.int p0), .val (.int p1), .val (.long q2), .second, .val (.ref ob1), .val (.long x13), .second, .val (.int (3 : Int32)), .val (.long (wrd x13)), .second, .unset, .unset, .unset, .unset] [(.int (3 : Int32)), (.int (8 : Int32)), (.long (1 : Int64))])
    refine own_go (fun _ => XS.imul X23.here hx rfl (hb hby at_191) rfl) ?_
    show GG _ _ _ _ _ _ _ T23 (mkF m 192 #[.val (.int p0), .val (.int p1), .val (.long q2), .second, .val (.ref ob1), .val (.long x13), .second, .val (.int (3 : Int32)), .val (.long (wrd x13)), .second, .unset, .unset, .unset, .unset] [(.int (24 : Int32)), (.long (1 : Int64))])
    refine own_go (fun _ => XS.lshl X23.here hx rfl (hb hby at_192) rfl) ?_
    show GG _ _ _ _ _ _ _ T23 (mkF m 193 #[.val (.int p0), .val (.int p1), .val (.long q2), .second, .val (.ref ob1), .val (.long x13), .second, .val (.int (3 : Int32)), .val (.long (wrd x13)), .second, .unset, .unset, .unset, .unset] [(.long ((1 : Int64) <<< ((24 : Int32) &&& 0x3f).toInt64))])
    refine own_go (fun _ => XS.lconst X23.here hx rfl (hb hby at_193)) ?_
    show GG _ _ _ _ _ _ _ T23 (mkF m 194 #[.val (.int p0), .val (.int p1), .val (.long q2), .second, .val (.ref ob1), .val (.long x13), .second, .val (.int (3 : Int32)), .val (.long (wrd x13)), .second, .unset, .unset, .unset, .unset] [(.long (1 : Int64)), (.long ((1 : Int64) <<< ((24 : Int32) &&& 0x3f).toInt64))])
    refine own_go (fun _ => XS.lsub X23.here hx rfl (hb hby at_194) rfl) ?_
    show GG _ _ _ _ _ _ _ T23 (mkF m 195 #[.val (.int p0), .val (.int p1), .val (.long q2), .second, .val (.ref ob1), .val (.long x13), .second, .val (.int (3 : Int32)), .val (.long (wrd x13)), .second, .unset, .unset, .unset, .unset] [(.long (((1 : Int64) <<< ((24 : Int32) &&& 0x3f).toInt64) - (1 : Int64)))])
    refine own_go (fun _ => XS.lstore X23.here hx rfl (hb hby at_195) rfl (l' := #[.val (.int p0), .val (.int p1), .val (.long q2), .second, .val (.ref ob1), .val (.long x13), .second, .val (.int (3 : Int32)), .val (.long (wrd x13)), .second, .val (.long (((1 : Int64) <<< ((24 : Int32) &&& 0x3f).toInt64) - (1 : Int64))), .second, .unset, .unset]) rfl) ?_
    show GG _ _ _ _ _ _ _ T23 (mkF m 197 #[.val (.int p0), .val (.int p1), .val (.long q2), .second, .val (.ref ob1), .val (.long x13), .second, .val (.int (3 : Int32)), .val (.long (wrd x13)), .second, .val (.long (((1 : Int64) <<< ((24 : Int32) &&& 0x3f).toInt64) - (1 : Int64))), .second, .unset, .unset] [])
    refine own_go (fun _ => XS.lload X23.here hx rfl (hb hby at_197) rfl) ?_
    show GG _ _ _ _ _ _ _ T23 (mkF m 199 #[.val (.int p0), .val (.int p1), .val (.long q2), .second, .val (.ref ob1), .val (.long x13), .second, .val (.int (3 : Int32)), .val (.long (wrd x13)), .second, .val (.long (((1 : Int64) <<< ((24 : Int32) &&& 0x3f).toInt64) - (1 : Int64))), .second, .unset, .unset] [(.long (wrd x13))])
    refine own_go (fun _ => XS.lload X23.here hx rfl (hb hby at_199) rfl) ?_
    show GG _ _ _ _ _ _ _ T23 (mkF m 201 #[.val (.int p0), .val (.int p1), .val (.long q2), .second, .val (.ref ob1), .val (.long x13), .second, .val (.int (3 : Int32)), .val (.long (wrd x13)), .second, .val (.long (((1 : Int64) <<< ((24 : Int32) &&& 0x3f).toInt64) - (1 : Int64))), .second, .unset, .unset] [(.long (((1 : Int64) <<< ((24 : Int32) &&& 0x3f).toInt64) - (1 : Int64))), (.long (wrd x13))])
    refine own_go (fun _ => XS.land X23.here hx rfl (hb hby at_201) rfl) ?_
    show GG _ _ _ _ _ _ _ T23 (mkF m 202 #[.val (.int p0), .val (.int p1), .val (.long q2), .second, .val (.ref ob1), .val (.long x13), .second, .val (.int (3 : Int32)), .val (.long (wrd x13)), .second, .val (.long (((1 : Int64) <<< ((24 : Int32) &&& 0x3f).toInt64) - (1 : Int64))), .second, .unset, .unset] [(.long ((wrd x13) &&& (((1 : Int64) <<< ((24 : Int32) &&& 0x3f).toInt64) - (1 : Int64))))])
    refine own_go (fun _ => XS.lloadN X23.here hx rfl (hb hby at_202) rfl) ?_
    show GG _ _ _ _ _ _ _ T23 (mkF m 203 #[.val (.int p0), .val (.int p1), .val (.long q2), .second, .val (.ref ob1), .val (.long x13), .second, .val (.int (3 : Int32)), .val (.long (wrd x13)), .second, .val (.long (((1 : Int64) <<< ((24 : Int32) &&& 0x3f).toInt64) - (1 : Int64))), .second, .unset, .unset] [(.long q2), (.long ((wrd x13) &&& (((1 : Int64) <<< ((24 : Int32) &&& 0x3f).toInt64) - (1 : Int64))))])
    refine own_go (fun _ => XS.lload X23.here hx rfl (hb hby at_203) rfl) ?_
    show GG _ _ _ _ _ _ _ T23 (mkF m 205 #[.val (.int p0), .val (.int p1), .val (.long q2), .second, .val (.ref ob1), .val (.long x13), .second, .val (.int (3 : Int32)), .val (.long (wrd x13)), .second, .val (.long (((1 : Int64) <<< ((24 : Int32) &&& 0x3f).toInt64) - (1 : Int64))), .second, .unset, .unset] [(.long (((1 : Int64) <<< ((24 : Int32) &&& 0x3f).toInt64) - (1 : Int64))), (.long q2), (.long ((wrd x13) &&& (((1 : Int64) <<< ((24 : Int32) &&& 0x3f).toInt64) - (1 : Int64))))])
    refine own_go (fun _ => X23.ldc2Long hx hown (mvT hZ (hw _ (List.mem_of_getElem? (i := 15) rfl))) (g := (mkF m 205 #[.val (.int p0), .val (.int p1), .val (.long q2), .second, .val (.ref ob1), .val (.long x13), .second, .val (.int (3 : Int32)), .val (.long (wrd x13)), .second, .val (.long (((1 : Int64) <<< ((24 : Int32) &&& 0x3f).toInt64) - (1 : Int64))), .second, .unset, .unset] [(.long (((1 : Int64) <<< ((24 : Int32) &&& 0x3f).toInt64) - (1 : Int64))), (.long q2), (.long ((wrd x13) &&& (((1 : Int64) <<< ((24 : Int32) &&& 0x3f).toInt64) - (1 : Int64))))])) rfl (hb hby at_205) _) ?_
    show GG _ _ _ _ _ _ _ T23 (mkF m 208 #[.val (.int p0), .val (.int p1), .val (.long q2), .second, .val (.ref ob1), .val (.long x13), .second, .val (.int (3 : Int32)), .val (.long (wrd x13)), .second, .val (.long (((1 : Int64) <<< ((24 : Int32) &&& 0x3f).toInt64) - (1 : Int64))), .second, .unset, .unset] [(.long (-1 : Int64)), (.long (((1 : Int64) <<< ((24 : Int32) &&& 0x3f).toInt64) - (1 : Int64))), (.long q2), (.long ((wrd x13) &&& (((1 : Int64) <<< ((24 : Int32) &&& 0x3f).toInt64) - (1 : Int64))))])
    refine own_go (fun _ => XS.lxor X23.here hx rfl (hb hby at_208) rfl) ?_
    show GG _ _ _ _ _ _ _ T23 (mkF m 209 #[.val (.int p0), .val (.int p1), .val (.long q2), .second, .val (.ref ob1), .val (.long x13), .second, .val (.int (3 : Int32)), .val (.long (wrd x13)), .second, .val (.long (((1 : Int64) <<< ((24 : Int32) &&& 0x3f).toInt64) - (1 : Int64))), .second, .unset, .unset] [(.long ((((1 : Int64) <<< ((24 : Int32) &&& 0x3f).toInt64) - (1 : Int64)) ^^^ (-1 : Int64))), (.long q2), (.long ((wrd x13) &&& (((1 : Int64) <<< ((24 : Int32) &&& 0x3f).toInt64) - (1 : Int64))))])
    refine own_go (fun _ => XS.land X23.here hx rfl (hb hby at_209) rfl) ?_
    show GG _ _ _ _ _ _ _ T23 (mkF m 210 #[.val (.int p0), .val (.int p1), .val (.long q2), .second, .val (.ref ob1), .val (.long x13), .second, .val (.int (3 : Int32)), .val (.long (wrd x13)), .second, .val (.long (((1 : Int64) <<< ((24 : Int32) &&& 0x3f).toInt64) - (1 : Int64))), .second, .unset, .unset] [(.long (q2 &&& ((((1 : Int64) <<< ((24 : Int32) &&& 0x3f).toInt64) - (1 : Int64)) ^^^ (-1 : Int64)))), (.long ((wrd x13) &&& (((1 : Int64) <<< ((24 : Int32) &&& 0x3f).toInt64) - (1 : Int64))))])
    refine own_go (fun _ => XS.lor X23.here hx rfl (hb hby at_210) rfl) ?_
    show GG _ _ _ _ _ _ _ T23 (mkF m 211 #[.val (.int p0), .val (.int p1), .val (.long q2), .second, .val (.ref ob1), .val (.long x13), .second, .val (.int (3 : Int32)), .val (.long (wrd x13)), .second, .val (.long (((1 : Int64) <<< ((24 : Int32) &&& 0x3f).toInt64) - (1 : Int64))), .second, .unset, .unset] [(.long (((wrd x13) &&& (((1 : Int64) <<< ((24 : Int32) &&& 0x3f).toInt64) - (1 : Int64))) ||| (q2 &&& ((((1 : Int64) <<< ((24 : Int32) &&& 0x3f).toInt64) - (1 : Int64)) ^^^ (-1 : Int64)))))])
    refine own_go (fun _ => XS.lstore X23.here hx rfl (hb hby at_211) rfl (l' := #[.val (.int p0), .val (.int p1), .val (.long q2), .second, .val (.ref ob1), .val (.long x13), .second, .val (.int (3 : Int32)), .val (.long (wrd x13)), .second, .val (.long (((1 : Int64) <<< ((24 : Int32) &&& 0x3f).toInt64) - (1 : Int64))), .second, .val (.long (((wrd x13) &&& (((1 : Int64) <<< ((24 : Int32) &&& 0x3f).toInt64) - (1 : Int64))) ||| (q2 &&& ((((1 : Int64) <<< ((24 : Int32) &&& 0x3f).toInt64) - (1 : Int64)) ^^^ (-1 : Int64))))), .second]) rfl) ?_
    show GG _ _ _ _ _ _ _ T23 (mkF m 213 #[.val (.int p0), .val (.int p1), .val (.long q2), .second, .val (.ref ob1), .val (.long x13), .second, .val (.int (3 : Int32)), .val (.long (wrd x13)), .second, .val (.long (((1 : Int64) <<< ((24 : Int32) &&& 0x3f).toInt64) - (1 : Int64))), .second, .val (.long (((wrd x13) &&& (((1 : Int64) <<< ((24 : Int32) &&& 0x3f).toInt64) - (1 : Int64))) ||| (q2 &&& ((((1 : Int64) <<< ((24 : Int32) &&& 0x3f).toInt64) - (1 : Int64)) ^^^ (-1 : Int64))))), .second] [])
    refine own_go (fun _ => XS.lload X23.here hx rfl (hb hby at_213) rfl) ?_
    show GG _ _ _ _ _ _ _ T23 (mkF m 215 #[.val (.int p0), .val (.int p1), .val (.long q2), .second, .val (.ref ob1), .val (.long x13), .second, .val (.int (3 : Int32)), .val (.long (wrd x13)), .second, .val (.long (((1 : Int64) <<< ((24 : Int32) &&& 0x3f).toInt64) - (1 : Int64))), .second, .val (.long (((wrd x13) &&& (((1 : Int64) <<< ((24 : Int32) &&& 0x3f).toInt64) - (1 : Int64))) ||| (q2 &&& ((((1 : Int64) <<< ((24 : Int32) &&& 0x3f).toInt64) - (1 : Int64)) ^^^ (-1 : Int64))))), .second] [(.long (((wrd x13) &&& (((1 : Int64) <<< ((24 : Int32) &&& 0x3f).toInt64) - (1 : Int64))) ||| (q2 &&& ((((1 : Int64) <<< ((24 : Int32) &&& 0x3f).toInt64) - (1 : Int64)) ^^^ (-1 : Int64)))))])
    refine own_go (fun _ => XS.iload X23.here hx rfl (hb hby at_215) rfl) ?_
    show GG _ _ _ _ _ _ _ T23 (mkF m 217 #[.val (.int p0), .val (.int p1), .val (.long q2), .second, .val (.ref ob1), .val (.long x13), .second, .val (.int (3 : Int32)), .val (.long (wrd x13)), .second, .val (.long (((1 : Int64) <<< ((24 : Int32) &&& 0x3f).toInt64) - (1 : Int64))), .second, .val (.long (((wrd x13) &&& (((1 : Int64) <<< ((24 : Int32) &&& 0x3f).toInt64) - (1 : Int64))) ||| (q2 &&& ((((1 : Int64) <<< ((24 : Int32) &&& 0x3f).toInt64) - (1 : Int64)) ^^^ (-1 : Int64))))), .second] [(.int (3 : Int32)), (.long (((wrd x13) &&& (((1 : Int64) <<< ((24 : Int32) &&& 0x3f).toInt64) - (1 : Int64))) ||| (q2 &&& ((((1 : Int64) <<< ((24 : Int32) &&& 0x3f).toInt64) - (1 : Int64)) ^^^ (-1 : Int64)))))])
    refine own_callS X23 hx hZ (y := (⟨"com/example/breakwater/breakwater/model/Digits", "valueOf", "(JI)J"⟩ : MethodName)) 0 hown (hw _ (List.mem_of_getElem? (i := 16) rfl)) (hw _ (List.mem_of_getElem? (i := 17) rfl)) (hw _ (List.mem_of_getElem? (i := 18) rfl)) (hw _ (List.mem_of_getElem? (i := 19) rfl)) (by decide) (argsL := [(.long (((wrd x13) &&& (((1 : Int64) <<< ((24 : Int32) &&& 0x3f).toInt64) - (1 : Int64))) ||| (q2 &&& ((((1 : Int64) <<< ((24 : Int32) &&& 0x3f).toInt64) - (1 : Int64)) ^^^ (-1 : Int64))))), (.int (3 : Int32))]) (rest := []) (rm2 l Z a0 hw [] (((wrd x13) &&& (((1 : Int64) <<< ((24 : Int32) &&& 0x3f).toInt64) - (1 : Int64))) ||| (q2 &&& ((((1 : Int64) <<< ((24 : Int32) &&& 0x3f).toInt64) - (1 : Int64)) ^^^ (-1 : Int64)))) (3 : Int32) h10 n0 (Nat.le_trans Z0 K0.1)) (by decide) (by decide) (by decide) (by decide) (g := (mkF m 217 #[.val (.int p0), .val (.int p1), .val (.long q2), .second, .val (.ref ob1), .val (.long x13), .second, .val (.int (3 : Int32)), .val (.long (wrd x13)), .second, .val (.long (((1 : Int64) <<< ((24 : Int32) &&& 0x3f).toInt64) - (1 : Int64))), .second, .val (.long (((wrd x13) &&& (((1 : Int64) <<< ((24 : Int32) &&& 0x3f).toInt64) - (1 : Int64))) ||| (q2 &&& ((((1 : Int64) <<< ((24 : Int32) &&& 0x3f).toInt64) - (1 : Int64)) ^^^ (-1 : Int64))))), .second] [(.int (3 : Int32)), (.long (((wrd x13) &&& (((1 : Int64) <<< ((24 : Int32) &&& 0x3f).toInt64) - (1 : Int64))) ||| (q2 &&& ((((1 : Int64) <<< ((24 : Int32) &&& 0x3f).toInt64) - (1 : Int64)) ^^^ (-1 : Int64)))))])) rfl (by rw [hml]; rfl) (lenOf pd__JI_J_302 rfl) rfl (by show 2 * 0 + _ ≤ _; exact Nat.le_of_eq rfl) (hb hby at_217) hh23 ?_
    rintro v26 T26 L26 X26 ⟨rfl, N26q, hh26⟩
    have N26 := Fr.app N23 N26q
    show GG _ _ _ _ _ _ _ T26 (mkF m 220 #[.val (.int p0), .val (.int p1), .val (.long q2), .second, .val (.ref ob1), .val (.long x13), .second, .val (.int (3 : Int32)), .val (.long (wrd x13)), .second, .val (.long (((1 : Int64) <<< ((24 : Int32) &&& 0x3f).toInt64) - (1 : Int64))), .second, .val (.long (((wrd x13) &&& (((1 : Int64) <<< ((24 : Int32) &&& 0x3f).toInt64) - (1 : Int64))) ||| (q2 &&& ((((1 : Int64) <<< ((24 : Int32) &&& 0x3f).toInt64) - (1 : Int64)) ^^^ (-1 : Int64))))), .second] [(.long (vof (((wrd x13) &&& (((1 : Int64) <<< ((24 : Int32) &&& 0x3f).toInt64) - (1 : Int64))) ||| (q2 &&& ((((1 : Int64) <<< ((24 : Int32) &&& 0x3f).toInt64) - (1 : Int64)) ^^^ (-1 : Int64)))) (3 : Int32)))])
    refine own_go (fun _ => XS.lload X26.here hx rfl (hb hby at_220) rfl) ?_
    show GG _ _ _ _ _ _ _ T26 (mkF m 222 #[.val (.int p0), .val (.int p1), .val (.long q2), .second, .val (.ref ob1), .val (.long x13), .second, .val (.int (3 : Int32)), .val (.long (wrd x13)), .second, .val (.long (((1 : Int64) <<< ((24 : Int32) &&& 0x3f).toInt64) - (1 : Int64))), .second, .val (.long (((wrd x13) &&& (((1 : Int64) <<< ((24 : Int32) &&& 0x3f).toInt64) - (1 : Int64))) ||| (q2 &&& ((((1 : Int64) <<< ((24 : Int32) &&& 0x3f).toInt64) - (1 : Int64)) ^^^ (-1 : Int64))))), .second] [(.long x13), (.long (vof (((wrd x13) &&& (((1 : Int64) <<< ((24 : Int32) &&& 0x3f).toInt64) - (1 : Int64))) ||| (q2 &&& ((((1 : Int64) <<< ((24 : Int32) &&& 0x3f).toInt64) - (1 : Int64)) ^^^ (-1 : Int64)))) (3 : Int32)))])
    refine own_go (fun _ => XS.aload X26.here hx rfl (hb hby at_222) rfl rfl) ?_
    show GG _ _ _ _ _ _ _ T26 (mkF m 224 #[.val (.int p0), .val (.int p1), .val (.long q2), .second, .val (.ref ob1), .val (.long x13), .second, .val (.int (3 : Int32)), .val (.long (wrd x13)), .second, .val (.long (((1 : Int64) <<< ((24 : Int32) &&& 0x3f).toInt64) - (1 : Int64))), .second, .val (.long (((wrd x13) &&& (((1 : Int64) <<< ((24 : Int32) &&& 0x3f).toInt64) - (1 : Int64))) ||| (q2 &&& ((((1 : Int64) <<< ((24 : Int32) &&& 0x3f).toInt64) - (1 : Int64)) ^^^ (-1 : Int64))))), .second] [(.ref ob1), (.long x13), (.long (vof (((wrd x13) &&& (((1 : Int64) <<< ((24 : Int32) &&& 0x3f).toInt64) - (1 : Int64))) ||| (q2 &&& ((((1 : Int64) <<< ((24 : Int32) &&& 0x3f).toInt64) - (1 : Int64)) ^^^ (-1 : Int64)))) (3 : Int32)))])
    refine own_go (fun _ => XS.bipush X26.here hx rfl (hb hby at_224)) ?_
    show GG _ _ _ _ _ _ _ T26 (mkF m 226 #[.val (.int p0), .val (.int p1), .val (.long q2), .second, .val (.ref ob1), .val (.long x13), .second, .val (.int (3 : Int32)), .val (.long (wrd x13)), .second, .val (.long (((1 : Int64) <<< ((24 : Int32) &&& 0x3f).toInt64) - (1 : Int64))), .second, .val (.long (((wrd x13) &&& (((1 : Int64) <<< ((24 : Int32) &&& 0x3f).toInt64) - (1 : Int64))) ||| (q2 &&& ((((1 : Int64) <<< ((24 : Int32) &&& 0x3f).toInt64) - (1 : Int64)) ^^^ (-1 : Int64))))), .second] [(.int (8 : Int32)), (.ref ob1), (.long x13), (.long (vof (((wrd x13) &&& (((1 : Int64) <<< ((24 : Int32) &&& 0x3f).toInt64) - (1 : Int64))) ||| (q2 &&& ((((1 : Int64) <<< ((24 : Int32) &&& 0x3f).toInt64) - (1 : Int64)) ^^^ (-1 : Int64)))) (3 : Int32)))])
    refine own_go (fun _ => XS.iload X26.here hx rfl (hb hby at_226) rfl) ?_
    show GG _ _ _ _ _ _ _ T26 (mkF m 228 #[.val (.int p0), .val (.int p1), .val (.long q2), .second, .val (.ref ob1), .val (.long x13), .second, .val (.int (3 : Int32)), .val (.long (wrd x13)), .second, .val (.long (((1 : Int64) <<< ((24 : Int32) &&& 0x3f).toInt64) - (1 : Int64))), .second, .val (.long (((wrd x13) &&& (((1 : Int64) <<< ((24 : Int32) &&& 0x3f).toInt64) - (1 : Int64))) ||| (q2 &&& ((((1 : Int64) <<< ((24 : Int32) &&& 0x3f).toInt64) - (1 : Int64)) ^^^ (-1 : Int64))))), .second] [(.int (3 : Int32)), (.int (8 : Int32)), (.ref ob1), (.long x13), (.long (vof (((wrd x13) &&& (((1 : Int64) <<< ((24 : Int32) &&& 0x3f).toInt64) - (1 : Int64))) ||| (q2 &&& ((((1 : Int64) <<< ((24 : Int32) &&& 0x3f).toInt64) - (1 : Int64)) ^^^ (-1 : Int64)))) (3 : Int32)))])
    refine own_go (fun _ => XS.isub X26.here hx rfl (hb hby at_228) rfl) ?_
    show GG _ _ _ _ _ _ _ T26 (mkF m 229 #[.val (.int p0), .val (.int p1), .val (.long q2), .second, .val (.ref ob1), .val (.long x13), .second, .val (.int (3 : Int32)), .val (.long (wrd x13)), .second, .val (.long (((1 : Int64) <<< ((24 : Int32) &&& 0x3f).toInt64) - (1 : Int64))), .second, .val (.long (((wrd x13) &&& (((1 : Int64) <<< ((24 : Int32) &&& 0x3f).toInt64) - (1 : Int64))) ||| (q2 &&& ((((1 : Int64) <<< ((24 : Int32) &&& 0x3f).toInt64) - (1 : Int64)) ^^^ (-1 : Int64))))), .second] [(.int (5 : Int32)), (.ref ob1), (.long x13), (.long (vof (((wrd x13) &&& (((1 : Int64) <<< ((24 : Int32) &&& 0x3f).toInt64) - (1 : Int64))) ||| (q2 &&& ((((1 : Int64) <<< ((24 : Int32) &&& 0x3f).toInt64) - (1 : Int64)) ^^^ (-1 : Int64)))) (3 : Int32)))])
    refine own_go (fun _ => own_laload X26 hx hZ hh26 V_ob1 (j := (5 : Int32)) (v := (.long (100000 : Int64))) (by decide) rfl (g := (mkF m 229 #[.val (.int p0), .val (.int p1), .val (.long q2), .second, .val (.ref ob1), .val (.long x13), .second, .val (.int (3 : Int32)), .val (.long (wrd x13)), .second, .val (.long (((1 : Int64) <<< ((24 : Int32) &&& 0x3f).toInt64) - (1 : Int64))), .second, .val (.long (((wrd x13) &&& (((1 : Int64) <<< ((24 : Int32) &&& 0x3f).toInt64) - (1 : Int64))) ||| (q2 &&& ((((1 : Int64) <<< ((24 : Int32) &&& 0x3f).toInt64) - (1 : Int64)) ^^^ (-1 : Int64))))), .second] [(.int (5 : Int32)), (.ref ob1), (.long x13), (.long (vof (((wrd x13) &&& (((1 : Int64) <<< ((24 : Int32) &&& 0x3f).toInt64) - (1 : Int64))) ||| (q2 &&& ((((1 : Int64) <<< ((24 : Int32) &&& 0x3f).toInt64) - (1 : Int64)) ^^^ (-1 : Int64)))) (3 : Int32)))])) rfl rfl (hb hby at_229) _) ?_
    show GG _ _ _ _ _ _ _ T26 (mkF m 230 #[.val (.int p0), .val (.int p1), .val (.long q2), .second, .val (.ref ob1), .val (.long x13), .second, .val (.int (3 : Int32)), .val (.long (wrd x13)), .second, .val (.long (((1 : Int64) <<< ((24 : Int32) &&& 0x3f).toInt64) - (1 : Int64))), .second, .val (.long (((wrd x13) &&& (((1 : Int64) <<< ((24 : Int32) &&& 0x3f).toInt64) - (1 : Int64))) ||| (q2 &&& ((((1 : Int64) <<< ((24 : Int32) &&& 0x3f).toInt64) - (1 : Int64)) ^^^ (-1 : Int64))))), .second] [(.long (100000 : Int64)), (.long x13), (.long (vof (((wrd x13) &&& (((1 : Int64) <<< ((24 : Int32) &&& 0x3f).toInt64) - (1 : Int64))) ||| (q2 &&& ((((1 : Int64) <<< ((24 : Int32) &&& 0x3f).toInt64) - (1 : Int64)) ^^^ (-1 : Int64)))) (3 : Int32)))])
    refine own_go (fun _ => XS.ldiv X26.here hx rfl (hb hby at_230) rfl (by decide)) ?_
    show GG _ _ _ _ _ _ _ T26 (mkF m 231 #[.val (.int p0), .val (.int p1), .val (.long q2), .second, .val (.ref ob1), .val (.long x13), .second, .val (.int (3 : Int32)), .val (.long (wrd x13)), .second, .val (.long (((1 : Int64) <<< ((24 : Int32) &&& 0x3f).toInt64) - (1 : Int64))), .second, .val (.long (((wrd x13) &&& (((1 : Int64) <<< ((24 : Int32) &&& 0x3f).toInt64) - (1 : Int64))) ||| (q2 &&& ((((1 : Int64) <<< ((24 : Int32) &&& 0x3f).toInt64) - (1 : Int64)) ^^^ (-1 : Int64))))), .second] [(.long (x13 / (100000 : Int64))), (.long (vof (((wrd x13) &&& (((1 : Int64) <<< ((24 : Int32) &&& 0x3f).toInt64) - (1 : Int64))) ||| (q2 &&& ((((1 : Int64) <<< ((24 : Int32) &&& 0x3f).toInt64) - (1 : Int64)) ^^^ (-1 : Int64)))) (3 : Int32)))])
    refine own_go (fun _ => XS.lcmp X26.here hx rfl (hb hby at_231) rfl) ?_
    show GG _ _ _ _ _ _ _ T26 (mkF m 232 #[.val (.int p0), .val (.int p1), .val (.long q2), .second, .val (.ref ob1), .val (.long x13), .second, .val (.int (3 : Int32)), .val (.long (wrd x13)), .second, .val (.long (((1 : Int64) <<< ((24 : Int32) &&& 0x3f).toInt64) - (1 : Int64))), .second, .val (.long (((wrd x13) &&& (((1 : Int64) <<< ((24 : Int32) &&& 0x3f).toInt64) - (1 : Int64))) ||| (q2 &&& ((((1 : Int64) <<< ((24 : Int32) &&& 0x3f).toInt64) - (1 : Int64)) ^^^ (-1 : Int64))))), .second] [(.int (lcmpW (vof (((wrd x13) &&& (((1 : Int64) <<< ((24 : Int32) &&& 0x3f).toInt64) - (1 : Int64))) ||| (q2 &&& ((((1 : Int64) <<< ((24 : Int32) &&& 0x3f).toInt64) - (1 : Int64)) ^^^ (-1 : Int64)))) (3 : Int32)) (x13 / (100000 : Int64))))])
    have hc232 : (vof (((wrd x13) &&& (((1 : Int64) <<< ((24 : Int32) &&& 0x3f).toInt64) - (1 : Int64))) ||| (q2 &&& ((((1 : Int64) <<< ((24 : Int32) &&& 0x3f).toInt64) - (1 : Int64)) ^^^ (-1 : Int64)))) (3 : Int32)) = (x13 / (100000 : Int64)) := own_fin3 x13 _ hx0.1 hx0.2
    refine own_go (fun _ => XS.ifNo X26.here hx rfl (hb hby at_232) rfl ((if0 _ _).trans (teq ((lw_eq _ _).mpr hc232)).2)) ?_
    show GG _ _ _ _ _ _ _ T26 (mkF m 235 #[.val (.int p0), .val (.int p1), .val (.long q2), .second, .val (.ref ob1), .val (.long x13), .second, .val (.int (3 : Int32)), .val (.long (wrd x13)), .second, .val (.long (((1 : Int64) <<< ((24 : Int32) &&& 0x3f).toInt64) - (1 : Int64))), .second, .val (.long (((wrd x13) &&& (((1 : Int64) <<< ((24 : Int32) &&& 0x3f).toInt64) - (1 : Int64))) ||| (q2 &&& ((((1 : Int64) <<< ((24 : Int32) &&& 0x3f).toInt64) - (1 : Int64)) ^^^ (-1 : Int64))))), .second] [])
    refine own_go (fun _ => XS.iconst X26.here hx rfl (hb hby at_235)) ?_
    show GG _ _ _ _ _ _ _ T26 (mkF m 236 #[.val (.int p0), .val (.int p1), .val (.long q2), .second, .val (.ref ob1), .val (.long x13), .second, .val (.int (3 : Int32)), .val (.long (wrd x13)), .second, .val (.long (((1 : Int64) <<< ((24 : Int32) &&& 0x3f).toInt64) - (1 : Int64))), .second, .val (.long (((wrd x13) &&& (((1 : Int64) <<< ((24 : Int32) &&& 0x3f).toInt64) - (1 : Int64))) ||| (q2 &&& ((((1 : Int64) <<< ((24 : Int32) &&& 0x3f).toInt64) - (1 : Int64)) ^^^ (-1 : Int64))))), .second] [(.int (1 : Int32))])
    refine own_go (fun _ => XS.goto X26.here hx rfl (pc0 := 236) (pc' := 240) rfl (hb hby at_236) (by decide) (by decide)) ?_
    show GG _ _ _ _ _ _ _ T26 (mkF m 240 #[.val (.int p0), .val (.int p1), .val (.long q2), .second, .val (.ref ob1), .val (.long x13), .second, .val (.int (3 : Int32)), .val (.long (wrd x13)), .second, .val (.long (((1 : Int64) <<< ((24 : Int32) &&& 0x3f).toInt64) - (1 : Int64))), .second, .val (.long (((wrd x13) &&& (((1 : Int64) <<< ((24 : Int32) &&& 0x3f).toInt64) - (1 : Int64))) ||| (q2 &&& ((((1 : Int64) <<< ((24 : Int32) &&& 0x3f).toInt64) - (1 : Int64)) ^^^ (-1 : Int64))))), .second] [(.int (1 : Int32))])
    refine own_ret X26 hx hlk (t := .boolean) (w := (.int (1 : Int32))) Bd.returns rfl (Or.inl ⟨rfl, by simp, _, rfl⟩) (hb hby at_240) (by decide) (by decide) ?_
    show Q0 Z p0 p1 q2 h0 n0 (some (.int (1 : Int32))) T26.heap _
    rw [hh26]
    exact ⟨rfl, N26⟩
  · skip
    subst h8
    show GG _ _ _ _ _ _ _ T23 (mkF m 173 #[.val (.int p0), .val (.int p1), .val (.long q2), .second, .val (.ref ob1), .val (.long x13), .second, .val (.int (4 : Int32)), .val (.long (wrd x13)), .second, .unset, .unset, .unset, .unset] [])
    refine own_go (fun _ => XS.iload X23.here hx rfl (hb hby at_173) rfl) ?_
    show GG _ _ _ _ _ _ _ T23 (mkF m 175 #[.val (.int p0), .val (.int p1), .val (.long q2), .second, .val (.ref ob1), .val (.long x13), .second, .val (.int (4 : Int32)), .val (.long (wrd x13)), .second, .unset, .unset, .unset, .unset] [(.int (4 : Int32))])
    refine own_go (fun _ => XS.bipush X23.here hx rfl (hb hby at_175)) ?_
    show GG _ _ _ _ _ _ _ T23 (mkF m 177 #[.val (.int p0), .val (.int p1), .val (.long q2), .second, .val (.ref ob1), .val (.long x13), .second, .val (.int (4 : Int32)), .val (.long (wrd x13)), .second, .unset, .unset, .unset, .unset] [(.int (8 : Int32)), (.int (4 : Int32))])
    have hc177 : ¬ ((4 : Int32) = (8 : Int32)) := by decide
    refine own_go (fun _ => XS.icmpYes X23.here hx rfl (pc0 := 177) (pc' := 186) rfl (hb hby at_177) rfl (feq hc177).2 (by decide) (by decide)) ?_
    show GG _ _ _ _ _ _ _ T23 (mkF m 186 #[.val (.int p0), .val (.int p1), .val (.long q2), .second, .val (.ref ob1), .val (.long x13), .second, .val (.int (4 : Int32)), .val (.long (wrd x13)), .second, .unset, .unset, .unset, .unset] [])
    refine own_go (fun _ => XS.lconst X23.here hx rfl (hb hby at_186)) ?_
    show GG _ _ _ _ _ _ _ T23 (mkF m 187 #[.val (.int p0), .val (.int p1), .val (.long q2), .second, .val (.ref ob1), .val (.long x13), .second, .val (.int (4 : Int32)), .val (.long (wrd x13)), .second, .unset, .unset, .unset, .unset] [(.long (1 : Int64))])
    refine own_go (fun _ => XS.bipush X23.here hx rfl (hb hby at_187)) ?_
    show GG _ _ _ _ _ _ _ T23 (mkF m 189 #[.val (.int p0), .val (.int p1), .val (.long q2), .second, .val (.ref ob1), .val (.long x13), .second, .val (.int (4 : Int32)), .val (.long (wrd x13)), .second, .unset, .unset, .unset, .unset] [(.int (8 : Int32)), (.long (1 : Int64))])
    refine own_go (fun _ => XS.iload X23.here hx rfl (hb hby at_189) rfl) ?_
    show GG _ _ _ _ _ _ _ T23 (mkF m 191 #[.val (.int p0), .val (.int p1), .val (.long q2), .second, .val (.ref ob1), .val (.long x13), .second, .val (.int (4 : Int32)), .val (.long (wrd x13)), .second, .unset, .unset, .unset, .unset] [(.int (4 : Int32)), (.int (8 : Int32)), (.long (1 : Int64))])
    refine own_go (fun _ => XS.imul X23.here hx rfl (hb hby at_191) rfl) ?_
    show GG _ _ _ _ _ _ _ T23 (mkF m 192 #[.val (.int p0), .val (.int p1), .val (.long q2), .second, .val (.ref ob1), .val (.long x13), .second, .val (.int (4 : Int32)), .val (.long (wrd x13)), .second, .unset, .unset, .unset, .unset] [(.int (32 : Int32)), (.long (1 : Int64))])
    refine own_go (fun _ => XS.lshl X23.here hx rfl (hb hby at_192) rfl) ?_
    show GG _ _ _ _ _ _ _ T23 (mkF m 193 #[.val (.int p0), .val (.int p1), .val (.long q2), .second, .val (.ref ob1), .val (.long x13), .second, .val (.int (4 : Int32)), .val (.long (wrd x13)), .second, .unset, .unset, .unset, .unset] [(.long ((1 : Int64) <<< ((32 : Int32) &&& 0x3f).toInt64))])
    refine own_go (fun _ => XS.lconst X23.here hx rfl (hb hby at_193)) ?_
    show GG _ _ _ _ _ _ _ T23 (mkF m 194 #[.val (.int p0), .val (.int p1), .val (.long q2), .second, .val (.ref ob1), .val (.long x13), .second, .val (.int (4 : Int32)), .val (.long (wrd x13)), .second, .unset, .unset, .unset, .unset] [(.long (1 : Int64)), (.long ((1 : Int64) <<< ((32 : Int32) &&& 0x3f).toInt64))])
    refine own_go (fun _ => XS.lsub X23.here hx rfl (hb hby at_194) rfl) ?_
    show GG _ _ _ _ _ _ _ T23 (mkF m 195 #[.val (.int p0), .val (.int p1), .val (.long q2), .second, .val (.ref ob1), .val (.long x13), .second, .val (.int (4 : Int32)), .val (.long (wrd x13)), .second, .unset, .unset, .unset, .unset] [(.long (((1 : Int64) <<< ((32 : Int32) &&& 0x3f).toInt64) - (1 : Int64)))])
    refine own_go (fun _ => XS.lstore X23.here hx rfl (hb hby at_195) rfl (l' := #[.val (.int p0), .val (.int p1), .val (.long q2), .second, .val (.ref ob1), .val (.long x13), .second, .val (.int (4 : Int32)), .val (.long (wrd x13)), .second, .val (.long (((1 : Int64) <<< ((32 : Int32) &&& 0x3f).toInt64) - (1 : Int64))), .second, .unset, .unset]) rfl) ?_
    show GG _ _ _ _ _ _ _ T23 (mkF m 197 #[.val (.int p0), .val (.int p1), .val (.long q2), .second, .val (.ref ob1), .val (.long x13), .second, .val (.int (4 : Int32)), .val (.long (wrd x13)), .second, .val (.long (((1 : Int64) <<< ((32 : Int32) &&& 0x3f).toInt64) - (1 : Int64))), .second, .unset, .unset] [])
    refine own_go (fun _ => XS.lload X23.here hx rfl (hb hby at_197) rfl) ?_
    show GG _ _ _ _ _ _ _ T23 (mkF m 199 #[.val (.int p0), .val (.int p1), .val (.long q2), .second, .val (.ref ob1), .val (.long x13), .second, .val (.int (4 : Int32)), .val (.long (wrd x13)), .second, .val (.long (((1 : Int64) <<< ((32 : Int32) &&& 0x3f).toInt64) - (1 : Int64))), .second, .unset, .unset] [(.long (wrd x13))])
    refine own_go (fun _ => XS.lload X23.here hx rfl (hb hby at_199) rfl) ?_
    show GG _ _ _ _ _ _ _ T23 (mkF m 201 #[.val (.int p0), .val (.int p1), .val (.long q2), .second, .val (.ref ob1), .val (.long x13), .second, .val (.int (4 : Int32)), .val (.long (wrd x13)), .second, .val (.long (((1 : Int64) <<< ((32 : Int32) &&& 0x3f).toInt64) - (1 : Int64))), .second, .unset, .unset] [(.long (((1 : Int64) <<< ((32 : Int32) &&& 0x3f).toInt64) - (1 : Int64))), (.long (wrd x13))])
    refine own_go (fun _ => XS.land X23.here hx rfl (hb hby at_201) rfl) ?_
    show GG _ _ _ _ _ _ _ T23 (mkF m 202 #[.val (.int p0), .val (.int p1), .val (.long q2), .second, .val (.ref ob1), .val (.long x13), .second, .val (.int (4 : Int32)), .val (.long (wrd x13)), .second, .val (.long (((1 : Int64) <<< ((32 : Int32) &&& 0x3f).toInt64) - (1 : Int64))), .second, .unset, .unset] [(.long ((wrd x13) &&& (((1 : Int64) <<< ((32 : Int32) &&& 0x3f).toInt64) - (1 : Int64))))])
    refine own_go (fun _ => XS.lloadN X23.here hx rfl (hb hby at_202) rfl) ?_
    show GG _ _ _ _ _ _ _ T23 (mkF m 203 #[.val (.int p0), .val (.int p1), .val (.long q2), .second, .val (.ref ob1), .val (.long x13), .second, .val (.int (4 : Int32)), .val (.long (wrd x13)), .second, .val (.long (((1 : Int64) <<< ((32 : Int32) &&& 0x3f).toInt64) - (1 : Int64))), .second, .unset, .unset] [(.long q2), (.long ((wrd x13) &&& (((1 : Int64) <<< ((32 : Int32) &&& 0x3f).toInt64) - (1 : Int64))))])
    refine own_go (fun _ => XS.lload X23.here hx rfl (hb hby at_203) rfl) ?_
    show GG _ _ _ _ _ _ _ T23 (mkF m 205 #[.val (.int p0), .val (.int p1), .val (.long q2), .second, .val (.ref ob1), .val (.long x13), .second, .val (.int (4 : Int32)), .val (.long (wrd x13)), .second, .val (.long (((1 : Int64) <<< ((32 : Int32) &&& 0x3f).toInt64) - (1 : Int64))), .second, .unset, .unset] [(.long (((1 : Int64) <<< ((32 : Int32) &&& 0x3f).toInt64) - (1 : Int64))), (.long q2), (.long ((wrd x13) &&& (((1 : Int64) <<< ((32 : Int32) &&& 0x3f).toInt64) - (1 : Int64))))])
    refine own_go (fun _ => X23.ldc2Long hx hown (mvT hZ (hw _ (List.mem_of_getElem? (i := 15) rfl))) (g := (mkF m 205 #[.val (.int p0), .val (.int p1), .val (.long q2), .second, .val (.ref ob1), .val (.long x13), .second, .val (.int (4 : Int32)), .val (.long (wrd x13)), .second, .val (.long (((1 : Int64) <<< ((32 : Int32) &&& 0x3f).toInt64) - (1 : Int64))), .second, .unset, .unset] [(.long (((1 : Int64) <<< ((32 : Int32) &&& 0x3f).toInt64) - (1 : Int64))), (.long q2), (.long ((wrd x13) &&& (((1 : Int64) <<< ((32 : Int32) &&& 0x3f).toInt64) - (1 : Int64))))])) rfl (hb hby at_205) _) ?_
    show GG _ _ _ _ _ _ _ T23 (mkF m 208 #[.val (.int p0), .val (.int p1), .val (.long q2), .second, .val (.ref ob1), .val (.long x13), .second, .val (.int (4 : Int32)), .val (.long (wrd x13)), .second, .val (.long (((1 : Int64) <<< ((32 : Int32) &&& 0x3f).toInt64) - (1 : Int64))), .second, .unset, .unset] [(.long (-1 : Int64)), (.long (((1 : Int64) <<< ((32 : Int32) &&& 0x3f).toInt64) - (1 : Int64))), (.long q2), (.long ((wrd x13) &&& (((1 : Int64) <<< ((32 : Int32) &&& 0x3f).toInt64) - (1 : Int64))))])
    refine own_go (fun _ => XS.lxor X23.here hx rfl (hb hby at_208) rfl) ?_
    show GG _ _ _ _ _ _ _ T23 (mkF m 209 #[.val (.int p0), .val (.int p1), .val (.long q2), .second, .val (.ref ob1), .val (.long x13), .second, .val (.int (4 : Int32)), .val (.long (wrd x13)), .second, .val (.long (((1 : Int64) <<< ((32 : Int32) &&& 0x3f).toInt64) - (1 : Int64))), .second, .unset, .unset] [(.long ((((1 : Int64) <<< ((32 : Int32) &&& 0x3f).toInt64) - (1 : Int64)) ^^^ (-1 : Int64))), (.long q2), (.long ((wrd x13) &&& (((1 : Int64) <<< ((32 : Int32) &&& 0x3f).toInt64) - (1 : Int64))))])
    refine own_go (fun _ => XS.land X23.here hx rfl (hb hby at_209) rfl) ?_
    show GG _ _ _ _ _ _ _ T23 (mkF m 210 #[.val (.int p0), .val (.int p1), .val (.long q2), .second, .val (.ref ob1), .val (.long x13), .second, .val (.int (4 : Int32)), .val (.long (wrd x13)), .second, .val (.long (((1 : Int64) <<< ((32 : Int32) &&& 0x3f).toInt64) - (1 : Int64))), .second, .unset, .unset] [(.long (q2 &&& ((((1 : Int64) <<< ((32 : Int32) &&& 0x3f).toInt64) - (1 : Int64)) ^^^ (-1 : Int64)))), (.long ((wrd x13) &&& (((1 : Int64) <<< ((32 : Int32) &&& 0x3f).toInt64) - (1 : Int64))))])
    refine own_go (fun _ => XS.lor X23.here hx rfl (hb hby at_210) rfl) ?_
    show GG _ _ _ _ _ _ _ T23 (mkF m 211 #[.val (.int p0), .val (.int p1), .val (.long q2), .second, .val (.ref ob1), .val (.long x13), .second, .val (.int (4 : Int32)), .val (.long (wrd x13)), .second, .val (.long (((1 : Int64) <<< ((32 : Int32) &&& 0x3f).toInt64) - (1 : Int64))), .second, .unset, .unset] [(.long (((wrd x13) &&& (((1 : Int64) <<< ((32 : Int32) &&& 0x3f).toInt64) - (1 : Int64))) ||| (q2 &&& ((((1 : Int64) <<< ((32 : Int32) &&& 0x3f).toInt64) - (1 : Int64)) ^^^ (-1 : Int64)))))])
    refine own_go (fun _ => XS.lstore X23.here hx rfl (hb hby at_211) rfl (l' := #[.val (.int p0), .val (.int p1), .val (.long q2), .second, .val (.ref ob1), .val (.long x13), .second, .val (.int (4 : Int32)), .val (.long (wrd x13)), .second, .val (.long (((1 : Int64) <<< ((32 : Int32) &&& 0x3f).toInt64) - (1 : Int64))), .second, .val (.long (((wrd x13) &&& (((1 : Int64) <<< ((32 : Int32) &&& 0x3f).toInt64) - (1 : Int64))) ||| (q2 &&& ((((1 : Int64) <<< ((32 : Int32) &&& 0x3f).toInt64) - (1 : Int64)) ^^^ (-1 : Int64))))), .second]) rfl) ?_
    show GG _ _ _ _ _ _ _ T23 (mkF m 213 #[.val (.int p0), .val (.int p1), .val (.long q2), .second, .val (.ref ob1), .val (.long x13), .second, .val (.int (4 : Int32)), .val (.long (wrd x13)), .second, .val (.long (((1 : Int64) <<< ((32 : Int32) &&& 0x3f).toInt64) - (1 : Int64))), .second, .val (.long (((wrd x13) &&& (((1 : Int64) <<< ((32 : Int32) &&& 0x3f).toInt64) - (1 : Int64))) ||| (q2 &&& ((((1 : Int64) <<< ((32 : Int32) &&& 0x3f).toInt64) - (1 : Int64)) ^^^ (-1 : Int64))))), .second] [])
    refine own_go (fun _ => XS.lload X23.here hx rfl (hb hby at_213) rfl) ?_
    show GG _ _ _ _ _ _ _ T23 (mkF m 215 #[.val (.int p0), .val (.int p1), .val (.long q2), .second, .val (.ref ob1), .val (.long x13), .second, .val (.int (4 : Int32)), .val (.long (wrd x13)), .second, .val (.long (((1 : Int64) <<< ((32 : Int32) &&& 0x3f).toInt64) - (1 : Int64))), .second, .val (.long (((wrd x13) &&& (((1 : Int64) <<< ((32 : Int32) &&& 0x3f).toInt64) - (1 : Int64))) ||| (q2 &&& ((((1 : Int64) <<< ((32 : Int32) &&& 0x3f).toInt64) - (1 : Int64)) ^^^ (-1 : Int64))))), .second] [(.long (((wrd x13) &&& (((1 : Int64) <<< ((32 : Int32) &&& 0x3f).toInt64) - (1 : Int64))) ||| (q2 &&& ((((1 : Int64) <<< ((32 : Int32) &&& 0x3f).toInt64) - (1 : Int64)) ^^^ (-1 : Int64)))))])
    refine own_go (fun _ => XS.iload X23.here hx rfl (hb hby at_215) rfl) ?_
    show GG _ _ _ _ _ _ _ T23 (mkF m 217 #[.val (.int p0), .val (.int p1), .val (.long q2), .second, .val (.ref ob1), .val (.long x13), .second, .val (.int (4 : Int32)), .val (.long (wrd x13)), .second, .val (.long (((1 : Int64) <<< ((32 : Int32) &&& 0x3f).toInt64) - (1 : Int64))), .second, .val (.long (((wrd x13) &&& (((1 : Int64) <<< ((32 : Int32) &&& 0x3f).toInt64) - (1 : Int64))) ||| (q2 &&& ((((1 : Int64) <<< ((32 : Int32) &&& 0x3f).toInt64) - (1 : Int64)) ^^^ (-1 : Int64))))), .second] [(.int (4 : Int32)), (.long (((wrd x13) &&& (((1 : Int64) <<< ((32 : Int32) &&& 0x3f).toInt64) - (1 : Int64))) ||| (q2 &&& ((((1 : Int64) <<< ((32 : Int32) &&& 0x3f).toInt64) - (1 : Int64)) ^^^ (-1 : Int64)))))])
    refine own_callS X23 hx hZ (y := (⟨"com/example/breakwater/breakwater/model/Digits", "valueOf", "(JI)J"⟩ : MethodName)) 0 hown (hw _ (List.mem_of_getElem? (i := 16) rfl)) (hw _ (List.mem_of_getElem? (i := 17) rfl)) (hw _ (List.mem_of_getElem? (i := 18) rfl)) (hw _ (List.mem_of_getElem? (i := 19) rfl)) (by decide) (argsL := [(.long (((wrd x13) &&& (((1 : Int64) <<< ((32 : Int32) &&& 0x3f).toInt64) - (1 : Int64))) ||| (q2 &&& ((((1 : Int64) <<< ((32 : Int32) &&& 0x3f).toInt64) - (1 : Int64)) ^^^ (-1 : Int64))))), (.int (4 : Int32))]) (rest := []) (rm2 l Z a0 hw [] (((wrd x13) &&& (((1 : Int64) <<< ((32 : Int32) &&& 0x3f).toInt64) - (1 : Int64))) ||| (q2 &&& ((((1 : Int64) <<< ((32 : Int32) &&& 0x3f).toInt64) - (1 : Int64)) ^^^ (-1 : Int64)))) (4 : Int32) h10 n0 (Nat.le_trans Z0 K0.1)) (by decide) (by decide) (by decide) (by decide) (g := (mkF m 217 #[.val (.int p0), .val (.int p1), .val (.long q2), .second, .val (.ref ob1), .val (.long x13), .second, .val (.int (4 : Int32)), .val (.long (wrd x13)), .second, .val (.long (((1 : Int64) <<< ((32 : Int32) &&& 0x3f).toInt64) - (1 : Int64))), .second, .val (.long (((wrd x13) &&& (((1 : Int64) <<< ((32 : Int32) &&& 0x3f).toInt64) - (1 : Int64))) ||| (q2 &&& ((((1 : Int64) <<< ((32 : Int32) &&& 0x3f).toInt64) - (1 : Int64)) ^^^ (-1 : Int64))))), .second] [(.int (4 : Int32)), (.long (((wrd x13) &&& (((1 : Int64) <<< ((32 : Int32) &&& 0x3f).toInt64) - (1 : Int64))) ||| (q2 &&& ((((1 : Int64) <<< ((32 : Int32) &&& 0x3f).toInt64) - (1 : Int64)) ^^^ (-1 : Int64)))))])) rfl (by rw [hml]; rfl) (lenOf pd__JI_J_302 rfl) rfl (by show 2 * 0 + _ ≤ _; exact Nat.le_of_eq rfl) (hb hby at_217) hh23 ?_
    rintro v27 T27 L27 X27 ⟨rfl, N27q, hh27⟩
    have N27 := Fr.app N23 N27q
    show GG _ _ _ _ _ _ _ T27 (mkF m 220 #[.val (.int p0), .val (.int p1), .val (.long q2), .second, .val (.ref ob1), .val (.long x13), .second, .val (.int (4 : Int32)), .val (.long (wrd x13)), .second, .val (.long (((1 : Int64) <<< ((32 : Int32) &&& 0x3f).toInt64) - (1 : Int64))), .second, .val (.long (((wrd x13) &&& (((1 : Int64) <<< ((32 : Int32) &&& 0x3f).toInt64) - (1 : Int64))) ||| (q2 &&& ((((1 : Int64) <<< ((32 : Int32) &&& 0x3f).toInt64) - (1 : Int64)) ^^^ (-1 : Int64))))), .second] [(.long (vof (((wrd x13) &&& (((1 : Int64) <<< ((32 : Int32) &&& 0x3f).toInt64) - (1 : Int64))) ||| (q2 &&& ((((1 : Int64) <<< ((32 : Int32) &&& 0x3f).toInt64) - (1 : Int64)) ^^^ (-1 : Int64)))) (4 : Int32)))])
    refine own_go (fun _ => XS.lload X27.here hx rfl (hb hby at_220) rfl) ?_
    show GG _ _ _ _ _ _ _ T27 (mkF m 222 #[.val (.int p0), .val (.int p1), .val (.long q2), .second, .val (.ref ob1), .val (.long x13), .second, .val (.int (4 : Int32)), .val (.long (wrd x13)), .second, .val (.long (((1 : Int64) <<< ((32 : Int32) &&& 0x3f).toInt64) - (1 : Int64))), .second, .val (.long (((wrd x13) &&& (((1 : Int64) <<< ((32 : Int32) &&& 0x3f).toInt64) - (1 : Int64))) ||| (q2 &&& ((((1 : Int64) <<< ((32 : Int32) &&& 0x3f).toInt64) - (1 : Int64)) ^^^ (-1 : Int64))))), .second] [(.long x13), (.long (vof (((wrd x13) &&& (((1 : Int64) <<< ((32 : Int32) &&& 0x3f).toInt64) - (1 : Int64))) ||| (q2 &&& ((((1 : Int64) <<< ((32 : Int32) &&& 0x3f).toInt64) - (1 : Int64)) ^^^ (-1 : Int64)))) (4 : Int32)))])
    refine own_go (fun _ => XS.aload X27.here hx rfl (hb hby at_222) rfl rfl) ?_
    show GG _ _ _ _ _ _ _ T27 (mkF m 224 #[.val (.int p0), .val (.int p1), .val (.long q2), .second, .val (.ref ob1), .val (.long x13), .second, .val (.int (4 : Int32)), .val (.long (wrd x13)), .second, .val (.long (((1 : Int64) <<< ((32 : Int32) &&& 0x3f).toInt64) - (1 : Int64))), .second, .val (.long (((wrd x13) &&& (((1 : Int64) <<< ((32 : Int32) &&& 0x3f).toInt64) - (1 : Int64))) ||| (q2 &&& ((((1 : Int64) <<< ((32 : Int32) &&& 0x3f).toInt64) - (1 : Int64)) ^^^ (-1 : Int64))))), .second] [(.ref ob1), (.long x13), (.long (vof (((wrd x13) &&& (((1 : Int64) <<< ((32 : Int32) &&& 0x3f).toInt64) - (1 : Int64))) ||| (q2 &&& ((((1 : Int64) <<< ((32 : Int32) &&& 0x3f).toInt64) - (1 : Int64)) ^^^ (-1 : Int64)))) (4 : Int32)))])
    refine own_go (fun _ => XS.bipush X27.here hx rfl (hb hby at_224)) ?_
    show GG _ _ _ _ _ _ _ T27 (mkF m 226 #[.val (.int p0), .val (.int p1), .val (.long q2), .second, .val (.ref ob1), .val (.long x13), .second, .val (.int (4 : Int32)), .val (.long (wrd x13)), .second, .val (.long (((1 : Int64) <<< ((32 : Int32) &&& 0x3f).toInt64) - (1 : Int64))), .second, .val (.long (((wrd x13) &&& (((1 : Int64) <<< ((32 : Int32) &&& 0x3f).toInt64) - (1 : Int64))) ||| (q2 &&& ((((1 : Int64) <<< ((32 : Int32) &&& 0x3f).toInt64) - (1 : Int64)) ^^^ (-1 : Int64))))), .second] [(.int (8 : Int32)), (.ref ob1), (.long x13), (.long (vof (((wrd x13) &&& (((1 : Int64) <<< ((32 : Int32) &&& 0x3f).toInt64) - (1 : Int64))) ||| (q2 &&& ((((1 : Int64) <<< ((32 : Int32) &&& 0x3f).toInt64) - (1 : Int64)) ^^^ (-1 : Int64)))) (4 : Int32)))])
    refine own_go (fun _ => XS.iload X27.here hx rfl (hb hby at_226) rfl) ?_
    show GG _ _ _ _ _ _ _ T27 (mkF m 228 #[.val (.int p0), .val (.int p1), .val (.long q2), .second, .val (.ref ob1), .val (.long x13), .second, .val (.int (4 : Int32)), .val (.long (wrd x13)), .second, .val (.long (((1 : Int64) <<< ((32 : Int32) &&& 0x3f).toInt64) - (1 : Int64))), .second, .val (.long (((wrd x13) &&& (((1 : Int64) <<< ((32 : Int32) &&& 0x3f).toInt64) - (1 : Int64))) ||| (q2 &&& ((((1 : Int64) <<< ((32 : Int32) &&& 0x3f).toInt64) - (1 : Int64)) ^^^ (-1 : Int64))))), .second] [(.int (4 : Int32)), (.int (8 : Int32)), (.ref ob1), (.long x13), (.long (vof (((wrd x13) &&& (((1 : Int64) <<< ((32 : Int32) &&& 0x3f).toInt64) - (1 : Int64))) ||| (q2 &&& ((((1 : Int64) <<< ((32 : Int32) &&& 0x3f).toInt64) - (1 : Int64)) ^^^ (-1 : Int64)))) (4 : Int32)))])
    refine own_go (fun _ => XS.isub X27.here hx rfl (hb hby at_228) rfl) ?_
    show GG _ _ _ _ _ _ _ T27 (mkF m 229 #[.val (.int p0), .val (.int p1), .val (.long q2), .second, .val (.ref ob1), .val (.long x13), .second, .val (.int (4 : Int32)), .val (.long (wrd x13)), .second, .val (.long (((1 : Int64) <<< ((32 : Int32) &&& 0x3f).toInt64) - (1 : Int64))), .second, .val (.long (((wrd x13) &&& (((1 : Int64) <<< ((32 : Int32) &&& 0x3f).toInt64) - (1 : Int64))) ||| (q2 &&& ((((1 : Int64) <<< ((32 : Int32) &&& 0x3f).toInt64) - (1 : Int64)) ^^^ (-1 : Int64))))), .second] [(.int (4 : Int32)), (.ref ob1), (.long x13), (.long (vof (((wrd x13) &&& (((1 : Int64) <<< ((32 : Int32) &&& 0x3f).toInt64) - (1 : Int64))) ||| (q2 &&& ((((1 : Int64) <<< ((32 : Int32) &&& 0x3f).toInt64) - (1 : Int64)) ^^^ (-1 : Int64)))) (4 : Int32)))])
    refine own_go (fun _ => own_laload X27 hx hZ hh27 V_ob1 (j := (4 : Int32)) (v := (.long (10000 : Int64))) (by decide) rfl (g := (mkF m 229 #[.val (.int p0), .val (.int p1), .val (.long q2), .second, .val (.ref ob1), .val (.long x13), .second, .val (.int (4 : Int32)), .val (.long (wrd x13)), .second, .val (.long (((1 : Int64) <<< ((32 : Int32) &&& 0x3f).toInt64) - (1 : Int64))), .second, .val (.long (((wrd x13) &&& (((1 : Int64) <<< ((32 : Int32) &&& 0x3f).toInt64) - (1 : Int64))) ||| (q2 &&& ((((1 : Int64) <<< ((32 : Int32) &&& 0x3f).toInt64) - (1 : Int64)) ^^^ (-1 : Int64))))), .second] [(.int (4 : Int32)), (.ref ob1), (.long x13), (.long (vof (((wrd x13) &&& (((1 : Int64) <<< ((32 : Int32) &&& 0x3f).toInt64) - (1 : Int64))) ||| (q2 &&& ((((1 : Int64) <<< ((32 : Int32) &&& 0x3f).toInt64) - (1 : Int64)) ^^^ (-1 : Int64)))) (4 : Int32)))])) rfl rfl (hb hby at_229) _) ?_
    show GG _ _ _ _ _ _ _ T27 (mkF m 230 #[.val (.int p0), .val (.int p1), .val (.long q2), .second, .val (.ref ob1), .val (.long x13), .second, .val (.int (4 : Int32)), .val (.long (wrd x13)), .second, .val (.long (((1 : Int64) <<< ((32 : Int32) &&& 0x3f).toInt64) - (1 : Int64))), .second, .val (.long (((wrd x13) &&& (((1 : Int64) <<< ((32 : Int32) &&& 0x3f).toInt64) - (1 : Int64))) ||| (q2 &&& ((((1 : Int64) <<< ((32 : Int32) &&& 0x3f).toInt64) - (1 : Int64)) ^^^ (-1 : Int64))))), .second] [(.long (10000 : Int64)), (.long x13), (.long (vof (((wrd x13) &&& (((1 : Int64) <<< ((32 : Int32) &&& 0x3f).toInt64) - (1 : Int64))) ||| (q2 &&& ((((1 : Int64) <<< ((32 : Int32) &&& 0x3f).toInt64) - (1 : Int64)) ^^^ (-1 : Int64)))) (4 : Int32)))])
    refine own_go (fun _ => XS.ldiv X27.here hx rfl (hb hby at_230) rfl (by decide)) ?_
    show GG _ _ _ _ _ _ _ T27 (mkF m 231 #[.val (.int p0), .val (.int p1), .val (.long q2), .second, .val (.ref ob1), .val (.long x13), .second, .val (.int (4 : Int32)), .val (.long (wrd x13)), .second, .val (.long (((1 : Int64) <<< ((32 : Int32) &&& 0x3f).toInt64) - (1 : Int64))), .second, .val (.long (((wrd x13) &&& (((1 : Int64) <<< ((32 : Int32) &&& 0x3f).toInt64) - (1 : Int64))) ||| (q2 &&& ((((1 : Int64) <<< ((32 : Int32) &&& 0x3f).toInt64) - (1 : Int64)) ^^^ (-1 : Int64))))), .second] [(.long (x13 / (10000 : Int64))), (.long (vof (((wrd x13) &&& (((1 : Int64) <<< ((32 : Int32) &&& 0x3f).toInt64) - (1 : Int64))) ||| (q2 &&& ((((1 : Int64) <<< ((32 : Int32) &&& 0x3f).toInt64) - (1 : Int64)) ^^^ (-1 : Int64)))) (4 : Int32)))])
    refine own_go (fun _ => XS.lcmp X27.here hx rfl (hb hby at_231) rfl) ?_
    show GG _ _ _ _ _ _ _ T27 (mkF m 232 #[.val (.int p0), .val (.int p1), .val (.long q2), .second, .val (.ref ob1), .val (.long x13), .second, .val (.int (4 : Int32)), .val (.long (wrd x13)), .second, .val (.long (((1 : Int64) <<< ((32 : Int32) &&& 0x3f).toInt64) - (1 : Int64))), .second, .val (.long (((wrd x13) &&& (((1 : Int64) <<< ((32 : Int32) &&& 0x3f).toInt64) - (1 : Int64))) ||| (q2 &&& ((((1 : Int64) <<< ((32 : Int32) &&& 0x3f).toInt64) - (1 : Int64)) ^^^ (-1 : Int64))))), .second] [(.int (lcmpW (vof (((wrd x13) &&& (((1 : Int64) <<< ((32 : Int32) &&& 0x3f).toInt64) - (1 : Int64))) ||| (q2 &&& ((((1 : Int64) <<< ((32 : Int32) &&& 0x3f).toInt64) - (1 : Int64)) ^^^ (-1 : Int64)))) (4 : Int32)) (x13 / (10000 : Int64))))])
    have hc232 : (vof (((wrd x13) &&& (((1 : Int64) <<< ((32 : Int32) &&& 0x3f).toInt64) - (1 : Int64))) ||| (q2 &&& ((((1 : Int64) <<< ((32 : Int32) &&& 0x3f).toInt64) - (1 : Int64)) ^^^ (-1 : Int64)))) (4 : Int32)) = (x13 / (10000 : Int64)) := own_fin4 x13 _ hx0.1 hx0.2
    refine own_go (fun _ => XS.ifNo X27.here hx rfl (hb hby at_232) rfl ((if0 _ _).trans (teq ((lw_eq _ _).mpr hc232)).2)) ?_
    show GG _ _ _ _ _ _ _ T27 (mkF m 235 #[.val (.int p0), .val (.int p1), .val (.long q2), .second, .val (.ref ob1), .val (.long x13), .second, .val (.int (4 : Int32)), .val (.long (wrd x13)), .second, .val (.long (((1 : Int64) <<< ((32 : Int32) &&& 0x3f).toInt64) - (1 : Int64))), .second, .val (.long (((wrd x13) &&& (((1 : Int64) <<< ((32 : Int32) &&& 0x3f).toInt64) - (1 : Int64))) ||| (q2 &&& ((((1 : Int64) <<< ((32 : Int32) &&& 0x3f).toInt64) - (1 : Int64)) ^^^ (-1 : Int64))))), .second] [])
    refine own_go (fun _ => XS.iconst X27.here hx rfl (hb hby at_235)) ?_
    show GG _ _ _ _ _ _ _ T27 (mkF m 236 #[.val (.int p0), .val (.int p1), .val (.long q2), .second, .val (.ref ob1), .val (.long x13), .second, .val (.int (4 : Int32)), .val (.long (wrd x13)), .second, .val (.long (((1 : Int64) <<< ((32 : Int32) &&& 0x3f).toInt64) - (1 : Int64))), .second, .val (.long (((wrd x13) &&& (((1 : Int64) <<< ((32 : Int32) &&& 0x3f).toInt64) - (1 : Int64))) ||| (q2 &&& ((((1 : Int64) <<< ((32 : Int32) &&& 0x3f).toInt64) - (1 : Int64)) ^^^ (-1 : Int64))))), .second] [(.int (1 : Int32))])
    refine own_go (fun _ => XS.goto X27.here hx rfl (pc0 := 236) (pc' := 240) rfl (hb hby at_236) (by decide) (by decide)) ?_
    show GG _ _ _ _ _ _ _ T27 (mkF m 240 #[.val (.int p0), .val (.int p1), .val (.long q2), .second, .val (.ref ob1), .val (.long x13), .second, .val (.int (4 : Int32)), .val (.long (wrd x13)), .second, .val (.long (((1 : Int64) <<< ((32 : Int32) &&& 0x3f).toInt64) - (1 : Int64))), .second, .val (.long (((wrd x13) &&& (((1 : Int64) <<< ((32 : Int32) &&& 0x3f).toInt64) - (1 : Int64))) ||| (q2 &&& ((((1 : Int64) <<< ((32 : Int32) &&& 0x3f).toInt64) - (1 : Int64)) ^^^ (-1 : Int64))))), .second] [(.int (1 : Int32))])
    refine own_ret X27 hx hlk (t := .boolean) (w := (.int (1 : Int32))) Bd.returns rfl (Or.inl ⟨rfl, by simp, _, rfl⟩) (hb hby at_240) (by decide) (by decide) ?_
    show Q0 Z p0 p1 q2 h0 n0 (some (.int (1 : Int32))) T27.heap _
    rw [hh27]
    exact ⟨rfl, N27⟩
  · skip
    subst h8
    show GG _ _ _ _ _ _ _ T23 (mkF m 173 #[.val (.int p0), .val (.int p1), .val (.long q2), .second, .val (.ref ob1), .val (.long x13), .second, .val (.int (5 : Int32)), .val (.long (wrd x13)), .second, .unset, .unset, .unset, .unset] [])
    refine own_go (fun _ => XS.iload X23.here hx rfl (hb hby at_173) rfl) ?_
    show GG _ _ _ _ _ _ _ T23 (mkF m 175 #[.val (.int p0), .val (.int p1), .val (.long q2), .second, .val (.ref ob1), .val (.long x13), .second, .val (.int (5 : Int32)), .val (.long (wrd x13)), .second, .unset, .unset, .unset, .unset] [(.int (5 : Int32))])
    refine own_go (fun _ => XS.bipush X23.here hx rfl (hb hby at_175)) ?_
    show GG _ _ _ _ _ _ _ T23 (mkF m 177 #[.val (.int p0), .val (.int p1), .val (.long q2), .second, .val (.ref ob1), .val (.long x13), .second, .val (.int (5 : Int32)), .val (.long (wrd x13)), .second, .unset, .unset, .unset, .unset] [(.int (8 : Int32)), (.int (5 : Int32))])
    have hc177 : ¬ ((5 : Int32) = (8 : Int32)) := by decide
    refine own_go (fun _ => XS.icmpYes X23.here hx rfl (pc0 := 177) (pc' := 186) rfl (hb hby at_177) rfl (feq hc177).2 (by decide) (by decide)) ?_
    show GG _ _ _ _ _ _ _ T23 (mkF m 186 #[.val (.int p0), .val (.int p1), .val (.long q2), .second, .val (.ref ob1), .val (.long x13), .second, .val (.int (5 : Int32)), .val (.long (wrd x13)), .second, .unset, .unset, .unset, .unset] [])
    refine own_go (fun _ => XS.lconst X23.here hx rfl (hb hby at_186)) ?_
    show GG _ _ _ _ _ _ _ T23 (mkF m 187 #[.val (.int p0), .val (.int p1), .val (.long q2), .second, .val (.ref ob1), .val (.long x13), .second, .val (.int (5 : Int32)), .val (.long (wrd x13)), .second, .unset, .unset, .unset, .unset] [(.long (1 : Int64))])
    refine own_go (fun _ => XS.bipush X23.here hx rfl (hb hby at_187)) ?_
    show GG _ _ _ _ _ _ _ T23 (mkF m 189 #[.val (.int p0), .val (.int p1), .val (.long q2), .second, .val (.ref ob1), .val (.long x13), .second, .val (.int (5 : Int32)), .val (.long (wrd x13)), .second, .unset, .unset, .unset, .unset] [(.int (8 : Int32)), (.long (1 : Int64))])
    refine own_go (fun _ => XS.iload X23.here hx rfl (hb hby at_189) rfl) ?_
    show GG _ _ _ _ _ _ _ T23 (mkF m 191 #[.val (.int p0), .val (.int p1), .val (.long q2), .second, .val (.ref ob1), .val (.long x13), .second, .val (.int (5 : Int32)), .val (.long (wrd x13)), .second, .unset, .unset, .unset, .unset] [(.int (5 : Int32)), (.int (8 : Int32)), (.long (1 : Int64))])
    refine own_go (fun _ => XS.imul X23.here hx rfl (hb hby at_191) rfl) ?_
    show GG _ _ _ _ _ _ _ T23 (mkF m 192 #[.val (.int p0), .val (.int p1), .val (.long q2), .second, .val (.ref ob1), .val (.long x13), .second, .val (.int (5 : Int32)), .val (.long (wrd x13)), .second, .unset, .unset, .unset, .unset] [(.int (40 : Int32)), (.long (1 : Int64))])
    refine own_go (fun _ => XS.lshl X23.here hx rfl (hb hby at_192) rfl) ?_
    show GG _ _ _ _ _ _ _ T23 (mkF m 193 #[.val (.int p0), .val (.int p1), .val (.long q2), .second, .val (.ref ob1), .val (.long x13), .second, .val (.int (5 : Int32)), .val (.long (wrd x13)), .second, .unset, .unset, .unset, .unset] [(.long ((1 : Int64) <<< ((40 : Int32) &&& 0x3f).toInt64))])
    refine own_go (fun _ => XS.lconst X23.here hx rfl (hb hby at_193)) ?_
    show GG _ _ _ _ _ _ _ T23 (mkF m 194 #[.val (.int p0), .val (.int p1), .val (.long q2), .second, .val (.ref ob1), .val (.long x13), .second, .val (.int (5 : Int32)), .val (.long (wrd x13)), .second, .unset, .unset, .unset, .unset] [(.long (1 : Int64)), (.long ((1 : Int64) <<< ((40 : Int32) &&& 0x3f).toInt64))])
    refine own_go (fun _ => XS.lsub X23.here hx rfl (hb hby at_194) rfl) ?_
    show GG _ _ _ _ _ _ _ T23 (mkF m 195 #[.val (.int p0), .val (.int p1), .val (.long q2), .second, .val (.ref ob1), .val (.long x13), .second, .val (.int (5 : Int32)), .val (.long (wrd x13)), .second, .unset, .unset, .unset, .unset] [(.long (((1 : Int64) <<< ((40 : Int32) &&& 0x3f).toInt64) - (1 : Int64)))])
    refine own_go (fun _ => XS.lstore X23.here hx rfl (hb hby at_195) rfl (l' := #[.val (.int p0), .val (.int p1), .val (.long q2), .second, .val (.ref ob1), .val (.long x13), .second, .val (.int (5 : Int32)), .val (.long (wrd x13)), .second, .val (.long (((1 : Int64) <<< ((40 : Int32) &&& 0x3f).toInt64) - (1 : Int64))), .second, .unset, .unset]) rfl) ?_
    show GG _ _ _ _ _ _ _ T23 (mkF m 197 #[.val (.int p0), .val (.int p1), .val (.long q2), .second, .val (.ref ob1), .val (.long x13), .second, .val (.int (5 : Int32)), .val (.long (wrd x13)), .second, .val (.long (((1 : Int64) <<< ((40 : Int32) &&& 0x3f).toInt64) - (1 : Int64))), .second, .unset, .unset] [])
    refine own_go (fun _ => XS.lload X23.here hx rfl (hb hby at_197) rfl) ?_
    show GG _ _ _ _ _ _ _ T23 (mkF m 199 #[.val (.int p0), .val (.int p1), .val (.long q2), .second, .val (.ref ob1), .val (.long x13), .second, .val (.int (5 : Int32)), .val (.long (wrd x13)), .second, .val (.long (((1 : Int64) <<< ((40 : Int32) &&& 0x3f).toInt64) - (1 : Int64))), .second, .unset, .unset] [(.long (wrd x13))])
    refine own_go (fun _ => XS.lload X23.here hx rfl (hb hby at_199) rfl) ?_
    show GG _ _ _ _ _ _ _ T23 (mkF m 201 #[.val (.int p0), .val (.int p1), .val (.long q2), .second, .val (.ref ob1), .val (.long x13), .second, .val (.int (5 : Int32)), .val (.long (wrd x13)), .second, .val (.long (((1 : Int64) <<< ((40 : Int32) &&& 0x3f).toInt64) - (1 : Int64))), .second, .unset, .unset] [(.long (((1 : Int64) <<< ((40 : Int32) &&& 0x3f).toInt64) - (1 : Int64))), (.long (wrd x13))])
    refine own_go (fun _ => XS.land X23.here hx rfl (hb hby at_201) rfl) ?_
    show GG _ _ _ _ _ _ _ T23 (mkF m 202 #[.val (.int p0), .val (.int p1), .val (.long q2), .second, .val (.ref ob1), .val (.long x13), .second, .val (.int (5 : Int32)), .val (.long (wrd x13)), .second, .val (.long (((1 : Int64) <<< ((40 : Int32) &&& 0x3f).toInt64) - (1 : Int64))), .second, .unset, .unset] [(.long ((wrd x13) &&& (((1 : Int64) <<< ((40 : Int32) &&& 0x3f).toInt64) - (1 : Int64))))])
    refine own_go (fun _ => XS.lloadN X23.here hx rfl (hb hby at_202) rfl) ?_
    show GG _ _ _ _ _ _ _ T23 (mkF m 203 #[.val (.int p0), .val (.int p1), .val (.long q2), .second, .val (.ref ob1), .val (.long x13), .second, .val (.int (5 : Int32)), .val (.long (wrd x13)), .second, .val (.long (((1 : Int64) <<< ((40 : Int32) &&& 0x3f).toInt64) - (1 : Int64))), .second, .unset, .unset] [(.long q2), (.long ((wrd x13) &&& (((1 : Int64) <<< ((40 : Int32) &&& 0x3f).toInt64) - (1 : Int64))))])
    refine own_go (fun _ => XS.lload X23.here hx rfl (hb hby at_203) rfl) ?_
    show GG _ _ _ _ _ _ _ T23 (mkF m 205 #[.val (.int p0), .val (.int p1), .val (.long q2), .second, .val (.ref ob1), .val (.long x13), .second, .val (.int (5 : Int32)), .val (.long (wrd x13)), .second, .val (.long (((1 : Int64) <<< ((40 : Int32) &&& 0x3f).toInt64) - (1 : Int64))), .second, .unset, .unset] [(.long (((1 : Int64) <<< ((40 : Int32) &&& 0x3f).toInt64) - (1 : Int64))), (.long q2), (.long ((wrd x13) &&& (((1 : Int64) <<< ((40 : Int32) &&& 0x3f).toInt64) - (1 : Int64))))])
    refine own_go (fun _ => X23.ldc2Long hx hown (mvT hZ (hw _ (List.mem_of_getElem? (i := 15) rfl))) (g := (mkF m 205 #[.val (.int p0), .val (.int p1), .val (.long q2), .second, .val (.ref ob1), .val (.long x13), .second, .val (.int (5 : Int32)), .val (.long (wrd x13)), .second, .val (.long (((1 : Int64) <<< ((40 : Int32) &&& 0x3f).toInt64) - (1 : Int64))), .second, .unset, .unset] [(.long (((1 : Int64) <<< ((40 : Int32) &&& 0x3f).toInt64) - (1 : Int64))), (.long q2), (.long ((wrd x13) &&& (((1 : Int64) <<< ((40 : Int32) &&& 0x3f).toInt64) - (1 : Int64))))])) rfl (hb hby at_205) _) ?_
    show GG _ _ _ _ _ _ _ T23 (mkF m 208 #[.val (.int p0), .val (.int p1), .val (.long q2), .second, .val (.ref ob1), .val (.long x13), .second, .val (.int (5 : Int32)), .val (.long (wrd x13)), .second, .val (.long (((1 : Int64) <<< ((40 : Int32) &&& 0x3f).toInt64) - (1 : Int64))), .second, .unset, .unset] [(.long (-1 : Int64)), (.long (((1 : Int64) <<< ((40 : Int32) &&& 0x3f).toInt64) - (1 : Int64))), (.long q2), (.long ((wrd x13) &&& (((1 : Int64) <<< ((40 : Int32) &&& 0x3f).toInt64) - (1 : Int64))))])
    refine own_go (fun _ => XS.lxor X23.here hx rfl (hb hby at_208) rfl) ?_
    show GG _ _ _ _ _ _ _ T23 (mkF m 209 #[.val (.int p0), .val (.int p1), .val (.long q2), .second, .val (.ref ob1), .val (.long x13), .second, .val (.int (5 : Int32)), .val (.long (wrd x13)), .second, .val (.long (((1 : Int64) <<< ((40 : Int32) &&& 0x3f).toInt64) - (1 : Int64))), .second, .unset, .unset] [(.long ((((1 : Int64) <<< ((40 : Int32) &&& 0x3f).toInt64) - (1 : Int64)) ^^^ (-1 : Int64))), (.long q2), (.long ((wrd x13) &&& (((1 : Int64) <<< ((40 : Int32) &&& 0x3f).toInt64) - (1 : Int64))))])
    refine own_go (fun _ => XS.land X23.here hx rfl (hb hby at_209) rfl) ?_
    show GG _ _ _ _ _ _ _ T23 (mkF m 210 #[.val (.int p0), .val (.int p1), .val (.long q2), .second, .val (.ref ob1), .val (.long x13), .second, .val (.int (5 : Int32)), .val (.long (wrd x13)), .second, .val (.long (((1 : Int64) <<< ((40 : Int32) &&& 0x3f).toInt64) - (1 : Int64))), .second, .unset, .unset] [(.long (q2 &&& ((((1 : Int64) <<< ((40 : Int32) &&& 0x3f).toInt64) - (1 : Int64)) ^^^ (-1 : Int64)))), (.long ((wrd x13) &&& (((1 : Int64) <<< ((40 : Int32) &&& 0x3f).toInt64) - (1 : Int64))))])
    refine own_go (fun _ => XS.lor X23.here hx rfl (hb hby at_210) rfl) ?_
    show GG _ _ _ _ _ _ _ T23 (mkF m 211 #[.val (.int p0), .val (.int p1), .val (.long q2), .second, .val (.ref ob1), .val (.long x13), .second, .val (.int (5 : Int32)), .val (.long (wrd x13)), .second, .val (.long (((1 : Int64) <<< ((40 : Int32) &&& 0x3f).toInt64) - (1 : Int64))), .second, .unset, .unset] [(.long (((wrd x13) &&& (((1 : Int64) <<< ((40 : Int32) &&& 0x3f).toInt64) - (1 : Int64))) ||| (q2 &&& ((((1 : Int64) <<< ((40 : Int32) &&& 0x3f).toInt64) - (1 : Int64)) ^^^ (-1 : Int64)))))])
    refine own_go (fun _ => XS.lstore X23.here hx rfl (hb hby at_211) rfl (l' := #[.val (.int p0), .val (.int p1), .val (.long q2), .second, .val (.ref ob1), .val (.long x13), .second, .val (.int (5 : Int32)), .val (.long (wrd x13)), .second, .val (.long (((1 : Int64) <<< ((40 : Int32) &&& 0x3f).toInt64) - (1 : Int64))), .second, .val (.long (((wrd x13) &&& (((1 : Int64) <<< ((40 : Int32) &&& 0x3f).toInt64) - (1 : Int64))) ||| (q2 &&& ((((1 : Int64) <<< ((40 : Int32) &&& 0x3f).toInt64) - (1 : Int64)) ^^^ (-1 : Int64))))), .second]) rfl) ?_
    show GG _ _ _ _ _ _ _ T23 (mkF m 213 #[.val (.int p0), .val (.int p1), .val (.long q2), .second, .val (.ref ob1), .val (.long x13), .second, .val (.int (5 : Int32)), .val (.long (wrd x13)), .second, .val (.long (((1 : Int64) <<< ((40 : Int32) &&& 0x3f).toInt64) - (1 : Int64))), .second, .val (.long (((wrd x13) &&& (((1 : Int64) <<< ((40 : Int32) &&& 0x3f).toInt64) - (1 : Int64))) ||| (q2 &&& ((((1 : Int64) <<< ((40 : Int32) &&& 0x3f).toInt64) - (1 : Int64)) ^^^ (-1 : Int64))))), .second] [])
    refine own_go (fun _ => XS.lload X23.here hx rfl (hb hby at_213) rfl) ?_
    show GG _ _ _ _ _ _ _ T23 (mkF m 215 #[.val (.int p0), .val (.int p1), .val (.long q2), .second, .val (.ref ob1), .val (.long x13), .second, .val (.int (5 : Int32)), .val (.long (wrd x13)), .second, .val (.long (((1 : Int64) <<< ((40 : Int32) &&& 0x3f).toInt64) - (1 : Int64))), .second, .val (.long (((wrd x13) &&& (((1 : Int64) <<< ((40 : Int32) &&& 0x3f).toInt64) - (1 : Int64))) ||| (q2 &&& ((((1 : Int64) <<< ((40 : Int32) &&& 0x3f).toInt64) - (1 : Int64)) ^^^ (-1 : Int64))))), .second] [(.long (((wrd x13) &&& (((1 : Int64) <<< ((40 : Int32) &&& 0x3f).toInt64) - (1 : Int64))) ||| (q2 &&& ((((1 : Int64) <<< ((40 : Int32) &&& 0x3f).toInt64) - (1 : Int64)) ^^^ (-1 : Int64)))))])
    refine own_go (fun _ => XS.iload X23.here hx rfl (hb hby at_215) rfl) ?_
    show GG _ _ _ _ _ _ _ T23 (mkF m 217 #[.val (.int p0), .val (.int p1), .val (.long q2), .second, .val (.ref ob1), .val (.long x13), .second, .val (.int (5 : Int32)), .val (.long (wrd x13)), .second, .val (.long (((1 : Int64) <<< ((40 : Int32) &&& 0x3f).toInt64) - (1 : Int64))), .second, .val (.long (((wrd x13) &&& (((1 : Int64) <<< ((40 : Int32) &&& 0x3f).toInt64) - (1 : Int64))) ||| (q2 &&& ((((1 : Int64) <<< ((40 : Int32) &&& 0x3f).toInt64) - (1 : Int64)) ^^^ (-1 : Int64))))), .second] [(.int (5 : Int32)), (.long (((wrd x13) &&& (((1 : Int64) <<< ((40 : Int32) &&& 0x3f).toInt64) - (1 : Int64))) ||| (q2 &&& ((((1 : Int64) <<< ((40 : Int32) &&& 0x3f).toInt64) - (1 : Int64)) ^^^ (-1 : Int64)))))])
    refine own_callS X23 hx hZ (y := (⟨"com/example/breakwater/breakwater/model/Digits", "valueOf", "(JI)J"⟩ : MethodName)) 0 hown (hw _ (List.mem_of_getElem? (i := 16) rfl)) (hw _ (List.mem_of_getElem? (i := 17) rfl)) (hw _ (List.mem_of_getElem? (i := 18) rfl)) (hw _ (List.mem_of_getElem? (i := 19) rfl)) (by decide) (argsL := [(.long (((wrd x13) &&& (((1 : Int64) <<< ((40 : Int32) &&& 0x3f).toInt64) - (1 : Int64))) ||| (q2 &&& ((((1 : Int64) <<< ((40 : Int32) &&& 0x3f).toInt64) - (1 : Int64)) ^^^ (-1 : Int64))))), (.int (5 : Int32))]) (rest := []) (rm2 l Z a0 hw [] (((wrd x13) &&& (((1 : Int64) <<< ((40 : Int32) &&& 0x3f).toInt64) - (1 : Int64))) ||| (q2 &&& ((((1 : Int64) <<< ((40 : Int32) &&& 0x3f).toInt64) - (1 : Int64)) ^^^ (-1 : Int64)))) (5 : Int32) h10 n0 (Nat.le_trans Z0 K0.1)) (by decide) (by decide) (by decide) (by decide) (g := (mkF m 217 #[.val (.int p0), .val (.int p1), .val (.long q2), .second, .val (.ref ob1), .val (.long x13), .second, .val (.int (5 : Int32)), .val (.long (wrd x13)), .second, .val (.long (((1 : Int64) <<< ((40 : Int32) &&& 0x3f).toInt64) - (1 : Int64))), .second, .val (.long (((wrd x13) &&& (((1 : Int64) <<< ((40 : Int32) &&& 0x3f).toInt64) - (1 : Int64))) ||| (q2 &&& ((((1 : Int64) <<< ((40 : Int32) &&& 0x3f).toInt64) - (1 : Int64)) ^^^ (-1 : Int64))))), .second] [(.int (5 : Int32)), (.long (((wrd x13) &&& (((1 : Int64) <<< ((40 : Int32) &&& 0x3f).toInt64) - (1 : Int64))) ||| (q2 &&& ((((1 : Int64) <<< ((40 : Int32) &&& 0x3f).toInt64) - (1 : Int64)) ^^^ (-1 : Int64)))))])) rfl (by rw [hml]; rfl) (lenOf pd__JI_J_302 rfl) rfl (by show 2 * 0 + _ ≤ _; exact Nat.le_of_eq rfl) (hb hby at_217) hh23 ?_
    rintro v28 T28 L28 X28 ⟨rfl, N28q, hh28⟩
    have N28 := Fr.app N23 N28q
    show GG _ _ _ _ _ _ _ T28 (mkF m 220 #[.val (.int p0), .val (.int p1), .val (.long q2), .second, .val (.ref ob1), .val (.long x13), .second, .val (.int (5 : Int32)), .val (.long (wrd x13)), .second, .val (.long (((1 : Int64) <<< ((40 : Int32) &&& 0x3f).toInt64) - (1 : Int64))), .second, .val (.long (((wrd x13) &&& (((1 : Int64) <<< ((40 : Int32) &&& 0x3f).toInt64) - (1 : Int64))) ||| (q2 &&& ((((1 : Int64) <<< ((40 : Int32) &&& 0x3f).toInt64) - (1 : Int64)) ^^^ (-1 : Int64))))), .second] [(.long (vof (((wrd x13) &&& (((1 : Int64) <<< ((40 : Int32) &&& 0x3f).toInt64) - (1 : Int64))) ||| (q2 &&& ((((1 : Int64) <<< ((40 : Int32) &&& 0x3f).toInt64) - (1 : Int64)) ^^^ (-1 : Int64)))) (5 : Int32)))])
    refine own_go (fun _ => XS.lload X28.here hx rfl (hb hby at_220) rfl) ?_
    show GG _ _ _ _ _ _ _ T28 (mkF m 222 #[.val (.int p0), .val (.int p1), .val (.long q2), .second, .val (.ref ob1), .val (.long x13), .second, .val (.int (5 : Int32)), .val (.long (wrd x13)), .second, .val (.long (((1 : Int64) <<< ((40 : Int32) &&& 0x3f).toInt64) - (1 : Int64))), .second, .val (.long (((wrd x13) &&& (((1 : Int64) <<< ((40 : Int32) &&& 0x3f).toInt64) - (1 : Int64))) ||| (q2 &&& ((((1 : Int64) <<< ((40 : Int32) &&& 0x3f).toInt64) - (1 : Int64)) ^^^ (-1 : Int64))))), .second] [(.long x13), (.long (vof (((wrd x13) &&& (((1 : Int64) <<< ((40 : Int32) &&& 0x3f).toInt64) - (1 : Int64))) ||| (q2 &&& ((((1 : Int64) <<< ((40 : Int32) &&& 0x3f).toInt64) - (1 : Int64)) ^^^ (-1 : Int64)))) (5 : Int32)))])
    refine own_go (fun _ => XS.aload X28.here hx rfl (hb hby at_222) rfl rfl) ?_
    show GG _ _ _ _ _ _ _ T28 (mkF m 224 #[.val (.int p0), .val (.int p1), .val (.long q2), .second, .val (.ref ob1), .val (.long x13), .second, .val (.int (5 : Int32)), .val (.long (wrd x13)), .second, .val (.long (((1 : Int64) <<< ((40 : Int32) &&& 0x3f).toInt64) - (1 : Int64))), .second, .val (.long (((wrd x13) &&& (((1 : Int64) <<< ((40 : Int32) &&& 0x3f).toInt64) - (1 : Int64))) ||| (q2 &&& ((((1 : Int64) <<< ((40 : Int32) &&& 0x3f).toInt64) - (1 : Int64)) ^^^ (-1 : Int64))))), .second] [(.ref ob1), (.long x13), (.long (vof (((wrd x13) &&& (((1 : Int64) <<< ((40 : Int32) &&& 0x3f).toInt64) - (1 : Int64))) ||| (q2 &&& ((((1 : Int64) <<< ((40 : Int32) &&& 0x3f).toInt64) - (1 : Int64)) ^^^ (-1 : Int64)))) (5 : Int32)))])
    refine own_go (fun _ => XS.bipush X28.here hx rfl (hb hby at_224)) ?_
    show GG _ _ _ _ _ _ _ T28 (mkF m 226 #[.val (.int p0), .val (.int p1), .val (.long q2), .second, .val (.ref ob1), .val (.long x13), .second, .val (.int (5 : Int32)), .val (.long (wrd x13)), .second, .val (.long (((1 : Int64) <<< ((40 : Int32) &&& 0x3f).toInt64) - (1 : Int64))), .second, .val (.long (((wrd x13) &&& (((1 : Int64) <<< ((40 : Int32) &&& 0x3f).toInt64) - (1 : Int64))) ||| (q2 &&& ((((1 : Int64) <<< ((40 : Int32) &&& 0x3f).toInt64) - (1 : Int64)) ^^^ (-1 : Int64))))), .second] [(.int (8 : Int32)), (.ref ob1), (.long x13), (.long (vof (((wrd x13) &&& (((1 : Int64) <<< ((40 : Int32) &&& 0x3f).toInt64) - (1 : Int64))) ||| (q2 &&& ((((1 : Int64) <<< ((40 : Int32) &&& 0x3f).toInt64) - (1 : Int64)) ^^^ (-1 : Int64)))) (5 : Int32)))])
    refine own_go (fun _ => XS.iload X28.here hx rfl (hb hby at_226) rfl) ?_
    show GG _ _ _ _ _ _ _ T28 (mkF m 228 #[.val (.int p0), .val (.int p1), .val (.long q2), .second, .val (.ref ob1), .val (.long x13), .second, .val (.int (5 : Int32)), .val (.long (wrd x13)), .second, .val (.long (((1 : Int64) <<< ((40 : Int32) &&& 0x3f).toInt64) - (1 : Int64))), .second, .val (.long (((wrd x13) &&& (((1 : Int64) <<< ((40 : Int32) &&& 0x3f).toInt64) - (1 : Int64))) ||| (q2 &&& ((((1 : Int64) <<< ((40 : Int32) &&& 0x3f).toInt64) - (1 : Int64)) ^^^ (-1 : Int64))))), .second] [(.int (5 : Int32)), (.int (8 : Int32)), (.ref ob1), (.long x13), (.long (vof (((wrd x13) &&& (((1 : Int64) <<< ((40 : Int32) &&& 0x3f).toInt64) - (1 : Int64))) ||| (q2 &&& ((((1 : Int64) <<< ((40 : Int32) &&& 0x3f).toInt64) - (1 : Int64)) ^^^ (-1 : Int64)))) (5 : Int32)))])
    refine own_go (fun _ => XS.isub X28.here hx rfl (hb hby at_228) rfl) ?_
    show GG _ _ _ _ _ _ _ T28 (mkF m 229 #[.val (.int p0), .val (.int p1), .val (.long q2), .second, .val (.ref ob1), .val (.long x13), .second, .val (.int (5 : Int32)), .val (.long (wrd x13)), .second, .val (.long (((1 : Int64) <<< ((40 : Int32) &&& 0x3f).toInt64) - (1 : Int64))), .second, .val (.long (((wrd x13) &&& (((1 : Int64) <<< ((40 : Int32) &&& 0x3f).toInt64) - (1 : Int64))) ||| (q2 &&& ((((1 : Int64) <<< ((40 : Int32) &&& 0x3f).toInt64) - (1 : Int64)) ^^^ (-1 : Int64))))), .second] [(.int (3 : Int32)), (.ref ob1), (.long x13), (.long (vof (((wrd x13) &&& (((1 : Int64) <<< ((40 : Int32) &&& 0x3f).toInt64) - (1 : Int64))) ||| (q2 &&& ((((1 : Int64) <<< ((40 : Int32) &&& 0x3f).toInt64) - (1 : Int64)) ^^^ (-1 : Int64)))) (5 : Int32)))])
    refine own_go (fun _ => own_laload X28 hx hZ hh28 V_ob1 (j := (3 : Int32)) (v := (.long (1000 : Int64))) (by decide) rfl (g := (mkF m 229 #[.val (.int p0), .val (.int p1), .val (.long q2), .second, .val (.ref ob1), .val (.long x13), .second, .val (.int (5 : Int32)), .val (.long (wrd x13)), .second, .val (.long (((1 : Int64) <<< ((40 : Int32) &&& 0x3f).toInt64) - (1 : Int64))), .second, .val (.long (((wrd x13) &&& (((1 : Int64) <<< ((40 : Int32) &&& 0x3f).toInt64) - (1 : Int64))) ||| (q2 &&& ((((1 : Int64) <<< ((40 : Int32) &&& 0x3f).toInt64) - (1 : Int64)) ^^^ (-1 : Int64))))), .second] [(.int (3 : Int32)), (.ref ob1), (.long x13), (.long (vof (((wrd x13) &&& (((1 : Int64) <<< ((40 : Int32) &&& 0x3f).toInt64) - (1 : Int64))) ||| (q2 &&& ((((1 : Int64) <<< ((40 : Int32) &&& 0x3f).toInt64) - (1 : Int64)) ^^^ (-1 : Int64)))) (5 : Int32)))])) rfl rfl (hb hby at_229) _) ?_
    show GG _ _ _ _ _ _ _ T28 (mkF m 230 #[.val (.int p0), .val (.int p1), .val (.long q2), .second, .val (.ref ob1), .val (.long x13), .second, .val (.int (5 : Int32)), .val (.long (wrd x13)), .second, .val (.long (((1 : Int64) <<< ((40 : Int32) &&& 0x3f).toInt64) - (1 : Int64))), .second, .val (.long (((wrd x13) &&& (((1 : Int64) <<< ((40 : Int32) &&& 0x3f).toInt64) - (1 : Int64))) ||| (q2 &&& ((((1 : Int64) <<< ((40 : Int32) &&& 0x3f).toInt64) - (1 : Int64)) ^^^ (-1 : Int64))))), .second] [(.long (1000 : Int64)), (.long x13), (.long (vof (((wrd x13) &&& (((1 : Int64) <<< ((40 : Int32) &&& 0x3f).toInt64) - (1 : Int64))) ||| (q2 &&& ((((1 : Int64) <<< ((40 : Int32) &&& 0x3f).toInt64) - (1 : Int64)) ^^^ (-1 : Int64)))) (5 : Int32)))])
    refine own_go (fun _ => XS.ldiv X28.here hx rfl (hb hby at_230) rfl (by decide)) ?_
    show GG _ _ _ _ _ _ _ T28 (mkF m 231 #[.val (.int p0), .val (.int p1), .val (.long q2), .second, .val (.ref ob1), .val (.long x13), .second, .val (.int (5 : Int32)), .val (.long (wrd x13)), .second, .val (.long (((1 : Int64) <<< ((40 : Int32) &&& 0x3f).toInt64) - (1 : Int64))), .second, .val (.long (((wrd x13) &&& (((1 : Int64) <<< ((40 : Int32) &&& 0x3f).toInt64) - (1 : Int64))) ||| (q2 &&& ((((1 : Int64) <<< ((40 : Int32) &&& 0x3f).toInt64) - (1 : Int64)) ^^^ (-1 : Int64))))), .second] [(.long (x13 / (1000 : Int64))), (.long (vof (((wrd x13) &&& (((1 : Int64) <<< ((40 : Int32) &&& 0x3f).toInt64) - (1 : Int64))) ||| (q2 &&& ((((1 : Int64) <<< ((40 : Int32) &&& 0x3f).toInt64) - (1 : Int64)) ^^^ (-1 : Int64)))) (5 : Int32)))])
    refine own_go (fun _ => XS.lcmp X28.here hx rfl (hb hby at_231) rfl) ?_
    show GG _ _ _ _ _ _ _ T28 (mkF m 232 #[.val (.int p0), .val (.int p1), .val (.long q2), .second, .val (.ref ob1), .val (.long x13), .second, .val (.int (5 : Int32)), .val (.long (wrd x13)), .second, .val (.long (((1 : Int64) <<< ((40 : Int32) &&& 0x3f).toInt64) - (1 : Int64))), .second, .val (.long (((wrd x13) &&& (((1 : Int64) <<< ((40 : Int32) &&& 0x3f).toInt64) - (1 : Int64))) ||| (q2 &&& ((((1 : Int64) <<< ((40 : Int32) &&& 0x3f).toInt64) - (1 : Int64)) ^^^ (-1 : Int64))))), .second] [(.int (lcmpW (vof (((wrd x13) &&& (((1 : Int64) <<< ((40 : Int32) &&& 0x3f).toInt64) - (1 : Int64))) ||| (q2 &&& ((((1 : Int64) <<< ((40 : Int32) &&& 0x3f).toInt64) - (1 : Int64)) ^^^ (-1 : Int64)))) (5 : Int32)) (x13 / (1000 : Int64))))])
    have hc232 : (vof (((wrd x13) &&& (((1 : Int64) <<< ((40 : Int32) &&& 0x3f).toInt64) - (1 : Int64))) ||| (q2 &&& ((((1 : Int64) <<< ((40 : Int32) &&& 0x3f).toInt64) - (1 : Int64)) ^^^ (-1 : Int64)))) (5 : Int32)) = (x13 / (1000 : Int64)) := own_fin5 x13 _ hx0.1 hx0.2
    refine own_go (fun _ => XS.ifNo X28.here hx rfl (hb hby at_232) rfl ((if0 _ _).trans (teq ((lw_eq _ _).mpr hc232)).2)) ?_
    show GG _ _ _ _ _ _ _ T28 (mkF m 235 #[.val (.int p0), .val (.int p1), .val (.long q2), .second, .val (.ref ob1), .val (.long x13), .second, .val (.int (5 : Int32)), .val (.long (wrd x13)), .second, .val (.long (((1 : Int64) <<< ((40 : Int32) &&& 0x3f).toInt64) - (1 : Int64))), .second, .val (.long (((wrd x13) &&& (((1 : Int64) <<< ((40 : Int32) &&& 0x3f).toInt64) - (1 : Int64))) ||| (q2 &&& ((((1 : Int64) <<< ((40 : Int32) &&& 0x3f).toInt64) - (1 : Int64)) ^^^ (-1 : Int64))))), .second] [])
    refine own_go (fun _ => XS.iconst X28.here hx rfl (hb hby at_235)) ?_
    show GG _ _ _ _ _ _ _ T28 (mkF m 236 #[.val (.int p0), .val (.int p1), .val (.long q2), .second, .val (.ref ob1), .val (.long x13), .second, .val (.int (5 : Int32)), .val (.long (wrd x13)), .second, .val (.long (((1 : Int64) <<< ((40 : Int32) &&& 0x3f).toInt64) - (1 : Int64))), .second, .val (.long (((wrd x13) &&& (((1 : Int64) <<< ((40 : Int32) &&& 0x3f).toInt64) - (1 : Int64))) ||| (q2 &&& ((((1 : Int64) <<< ((40 : Int32) &&& 0x3f).toInt64) - (1 : Int64)) ^^^ (-1 : Int64))))), .second] [(.int (1 : Int32))])
    refine own_go (fun _ => XS.goto X28.here hx rfl (pc0 := 236) (pc' := 240) rfl (hb hby at_236) (by decide) (by decide)) ?_
    show GG _ _ _ _ _ _ _ T28 (mkF m 240 #[.val (.int p0), .val (.int p1), .val (.long q2), .second, .val (.ref ob1), .val (.long x13), .second, .val (.int (5 : Int32)), .val (.long (wrd x13)), .second, .val (.long (((1 : Int64) <<< ((40 : Int32) &&& 0x3f).toInt64) - (1 : Int64))), .second, .val (.long (((wrd x13) &&& (((1 : Int64) <<< ((40 : Int32) &&& 0x3f).toInt64) - (1 : Int64))) ||| (q2 &&& ((((1 : Int64) <<< ((40 : Int32) &&& 0x3f).toInt64) - (1 : Int64)) ^^^ (-1 : Int64))))), .second] [(.int (1 : Int32))])
    refine own_ret X28 hx hlk (t := .boolean) (w := (.int (1 : Int32))) Bd.returns rfl (Or.inl ⟨rfl, by simp, _, rfl⟩) (hb hby at_240) (by decide) (by decide) ?_
    show Q0 Z p0 p1 q2 h0 n0 (some (.int (1 : Int32))) T28.heap _
    rw [hh28]
    exact ⟨rfl, N28⟩
  · skip
    subst h8
    show GG _ _ _ _ _ _ _ T23 (mkF m 173 #[.val (.int p0), .val (.int p1), .val (.long q2), .second, .val (.ref ob1), .val (.long x13), .second, .val (.int (6 : Int32)), .val (.long (wrd x13)), .second, .unset, .unset, .unset, .unset] [])
    refine own_go (fun _ => XS.iload X23.here hx rfl (hb hby at_173) rfl) ?_
    show GG _ _ _ _ _ _ _ T23 (mkF m 175 #[.val (.int p0), .val (.int p1), .val (.long q2), .second, .val (.ref ob1), .val (.long x13), .second, .val (.int (6 : Int32)), .val (.long (wrd x13)), .second, .unset, .unset, .unset, .unset] [(.int (6 : Int32))])
    refine own_go (fun _ => XS.bipush X23.here hx rfl (hb hby at_175)) ?_
    show GG _ _ _ _ _ _ _ T23 (mkF m 177 #[.val (.int p0), .val (.int p1), .val (.long q2), .second, .val (.ref ob1), .val (.long x13), .second, .val (.int (6 : Int32)), .val (.long (wrd x13)), .second, .unset, .unset, .unset, .unset] [(.int (8 : Int32)), (.int (6 : Int32))])
    have hc177 : ¬ ((6 : Int32) = (8 : Int32)) := by decide
    refine own_go (fun _ => XS.icmpYes X23.here hx rfl (pc0 := 177) (pc' := 186) rfl (hb hby at_177) rfl (feq hc177).2 (by decide) (by decide)) ?_
    show GG _ _ _ _ _ _ _ T23 (mkF m 186 #[.val (.int p0), .val (.int p1), .val (.long q2), .second, .val (.ref ob1), .val (.long x13), .second, .val (.int (6 : Int32)), .val (.long (wrd x13)), .second, .unset, .unset, .unset, .unset] [])
    refine own_go (fun _ => XS.lconst X23.here hx rfl (hb hby at_186)) ?_
    show GG _ _ _ _ _ _ _ T23 (mkF m 187 #[.val (.int p0), .val (.int p1), .val (.long q2), .second, .val (.ref ob1), .val (.long x13), .second, .val (.int (6 : Int32)), .val (.long (wrd x13)), .second, .unset, .unset, .unset, .unset] [(.long (1 : Int64))])
    refine own_go (fun _ => XS.bipush X23.here hx rfl (hb hby at_187)) ?_
    show GG _ _ _ _ _ _ _ T23 (mkF m 189 #[.val (.int p0), .val (.int p1), .val (.long q2), .second, .val (.ref ob1), .val (.long x13), .second, .val (.int (6 : Int32)), .val (.long (wrd x13)), .second, .unset, .unset, .unset, .unset] [(.int (8 : Int32)), (.long (1 : Int64))])
    refine own_go (fun _ => XS.iload X23.here hx rfl (hb hby at_189) rfl) ?_
    show GG _ _ _ _ _ _ _ T23 (mkF m 191 #[.val (.int p0), .val (.int p1), .val (.long q2), .second, .val (.ref ob1), .val (.long x13), .second, .val (.int (6 : Int32)), .val (.long (wrd x13)), .second, .unset, .unset, .unset, .unset] [(.int (6 : Int32)), (.int (8 : Int32)), (.long (1 : Int64))])
    refine own_go (fun _ => XS.imul X23.here hx rfl (hb hby at_191) rfl) ?_
    show GG _ _ _ _ _ _ _ T23 (mkF m 192 #[.val (.int p0), .val (.int p1), .val (.long q2), .second, .val (.ref ob1), .val (.long x13), .second, .val (.int (6 : Int32)), .val (.long (wrd x13)), .second, .unset, .unset, .unset, .unset] [(.int (48 : Int32)), (.long (1 : Int64))])
    refine own_go (fun _ => XS.lshl X23.here hx rfl (hb hby at_192) rfl) ?_
    show GG _ _ _ _ _ _ _ T23 (mkF m 193 #[.val (.int p0), .val (.int p1), .val (.long q2), .second, .val (.ref ob1), .val (.long x13), .second, .val (.int (6 : Int32)), .val (.long (wrd x13)), .second, .unset, .unset, .unset, .unset] [(.long ((1 : Int64) <<< ((48 : Int32) &&& 0x3f).toInt64))])
    refine own_go (fun _ => XS.lconst X23.here hx rfl (hb hby at_193)) ?_
    show GG _ _ _ _ _ _ _ T23 (mkF m 194 #[.val (.int p0), .val (.int p1), .val (.long q2), .second, .val (.ref ob1), .val (.long x13), .second, .val (.int (6 : Int32)), .val (.long (wrd x13)), .second, .unset, .unset, .unset, .unset] [(.long (1 : Int64)), (.long ((1 : Int64) <<< ((48 : Int32) &&& 0x3f).toInt64))])
    refine own_go (fun _ => XS.lsub X23.here hx rfl (hb hby at_194) rfl) ?_
    show GG _ _ _ _ _ _ _ T23 (mkF m 195 #[.val (.int p0), .val (.int p1), .val (.long q2), .second, .val (.ref ob1), .val (.long x13), .second, .val (.int (6 : Int32)), .val (.long (wrd x13)), .second, .unset, .unset, .unset, .unset] [(.long (((1 : Int64) <<< ((48 : Int32) &&& 0x3f).toInt64) - (1 : Int64)))])
    refine own_go (fun _ => XS.lstore X23.here hx rfl (hb hby at_195) rfl (l' := #[.val (.int p0), .val (.int p1), .val (.long q2), .second, .val (.ref ob1), .val (.long x13), .second, .val (.int (6 : Int32)), .val (.long (wrd x13)), .second, .val (.long (((1 : Int64) <<< ((48 : Int32) &&& 0x3f).toInt64) - (1 : Int64))), .second, .unset, .unset]) rfl) ?_
    show GG _ _ _ _ _ _ _ T23 (mkF m 197 #[.val (.int p0), .val (.int p1), .val (.long q2), .second, .val (.ref ob1), .val (.long x13), .second, .val (.int (6 : Int32)), .val (.long (wrd x13)), .second, .val (.long (((1 : Int64) <<< ((48 : Int32) &&& 0x3f).toInt64) - (1 : Int64))), .second, .unset, .unset] [])
    refine own_go (fun _ => XS.lload X23.here hx rfl (hb hby at_197) rfl) ?_
    show GG _ _ _ _ _ _ _ T23 (mkF m 199 #[.val (.int p0), .val (.int p1), .val (.long q2), .second, .val (.ref ob1), .val (.long x13), .second, .val (.int (6 : Int32)), .val (.long (wrd x13)), .second, .val (.long (((1 : Int64) <<< ((48 : Int32) &&& 0x3f).toInt64) - (1 : Int64))), .second, .unset, .unset] [(.long (wrd x13))])
    refine own_go (fun _ => XS.lload X23.here hx rfl (hb hby at_199) rfl) ?_
    show GG _ _ _ _ _ _ _ T23 (mkF m 201 #[.val (.int p0), .val (.int p1), .val (.long q2), .second, .val (.ref ob1), .val (.long x13), .second, .val (.int (6 : Int32)), .val (.long (wrd x13)), .second, .val (.long (((1 : Int64) <<< ((48 : Int32) &&& 0x3f).toInt64) - (1 : Int64))), .second, .unset, .unset] [(.long (((1 : Int64) <<< ((48 : Int32) &&& 0x3f).toInt64) - (1 : Int64))), (.long (wrd x13))])
    refine own_go (fun _ => XS.land X23.here hx rfl (hb hby at_201) rfl) ?_
    show GG _ _ _ _ _ _ _ T23 (mkF m 202 #[.val (.int p0), .val (.int p1), .val (.long q2), .second, .val (.ref ob1), .val (.long x13), .second, .val (.int (6 : Int32)), .val (.long (wrd x13)), .second, .val (.long (((1 : Int64) <<< ((48 : Int32) &&& 0x3f).toInt64) - (1 : Int64))), .second, .unset, .unset] [(.long ((wrd x13) &&& (((1 : Int64) <<< ((48 : Int32) &&& 0x3f).toInt64) - (1 : Int64))))])
    refine own_go (fun _ => XS.lloadN X23.here hx rfl (hb hby at_202) rfl) ?_
    show GG _ _ _ _ _ _ _ T23 (mkF m 203 #[.val (.int p0), .val (.int p1), .val (.long q2), .second, .val (.ref ob1), .val (.long x13), .second, .val (.int (6 : Int32)), .val (.long (wrd x13)), .second, .val (.long (((1 : Int64) <<< ((48 : Int32) &&& 0x3f).toInt64) - (1 : Int64))), .second, .unset, .unset] [(.long q2), (.long ((wrd x13) &&& (((1 : Int64) <<< ((48 : Int32) &&& 0x3f).toInt64) - (1 : Int64))))])
    refine own_go (fun _ => XS.lload X23.here hx rfl (hb hby at_203) rfl) ?_
    show GG _ _ _ _ _ _ _ T23 (mkF m 205 #[.val (.int p0), .val (.int p1), .val (.long q2), .second, .val (.ref ob1), .val (.long x13), .second, .val (.int (6 : Int32)), .val (.long (wrd x13)), .second, .val (.long (((1 : Int64) <<< ((48 : Int32) &&& 0x3f).toInt64) - (1 : Int64))), .second, .unset, .unset] [(.long (((1 : Int64) <<< ((48 : Int32) &&& 0x3f).toInt64) - (1 : Int64))), (.long q2), (.long ((wrd x13) &&& (((1 : Int64) <<< ((48 : Int32) &&& 0x3f).toInt64) - (1 : Int64))))])
    refine own_go (fun _ => X23.ldc2Long hx hown (mvT hZ (hw _ (List.mem_of_getElem? (i := 15) rfl))) (g := (mkF m 205 #[.val (.int p0), .val (.int p1), .val (.long q2), .second, .val (.ref ob1), .val (.long x13), .second, .val (.int (6 : Int32)), .val (.long (wrd x13)), .second, .val (.long (((1 : Int64) <<< ((48 : Int32) &&& 0x3f).toInt64) - (1 : Int64))), .second, .unset, .unset] [(.long (((1 : Int64) <<< ((48 : Int32) &&& 0x3f).toInt64) - (1 : Int64))), (.long q2), (.long ((wrd x13) &&& (((1 : Int64) <<< ((48 : Int32) &&& 0x3f).toInt64) - (1 : Int64))))])) rfl (hb hby at_205) _) ?_
    show GG _ _ _ _ _ _ _ T23 (mkF m 208 #[.val (.int p0), .val (.int p1), .val (.long q2), .second, .val (.ref ob1), .val (.long x13), .second, .val (.int (6 : Int32)), .val (.long (wrd x13)), .second, .val (.long (((1 : Int64) <<< ((48 : Int32) &&& 0x3f).toInt64) - (1 : Int64))), .second, .unset, .unset] [(.long (-1 : Int64)), (.long (((1 : Int64) <<< ((48 : Int32) &&& 0x3f).toInt64) - (1 : Int64))), (.long q2), (.long ((wrd x13) &&& (((1 : Int64) <<< ((48 : Int32) &&& 0x3f).toInt64) - (1 : Int64))))])
    refine own_go (fun _ => XS.lxor X23.here hx rfl (hb hby at_208) rfl) ?_
    show GG _ _ _ _ _ _ _ T23 (mkF m 209 #[.val (.int p0), .val (.int p1), .val (.long q2), .second, .val (.ref ob1), .val (.long x13), .second, .val (.int (6 : Int32)), .val (.long (wrd x13)), .second, .val (.long (((1 : Int64) <<< ((48 : Int32) &&& 0x3f).toInt64) - (1 : Int64))), .second, .unset, .unset] [(.long ((((1 : Int64) <<< ((48 : Int32) &&& 0x3f).toInt64) - (1 : Int64)) ^^^ (-1 : Int64))), (.long q2), (.long ((wrd x13) &&& (((1 : Int64) <<< ((48 : Int32) &&& 0x3f).toInt64) - (1 : Int64))))])
    refine own_go (fun _ => XS.land X23.here hx rfl (hb hby at_209) rfl) ?_
    show GG _ _ _ _ _ _ _ T23 (mkF m 210 #[.val (.int p0), .val (.int p1), .val (.long q2), .second, .val (.ref ob1), .val (.long x13), .second, .val (.int (6 : Int32)), .val (.long (wrd x13)), .second, .val (.long (((1 : Int64) <<< ((48 : Int32) &&& 0x3f).toInt64) - (1 : Int64))), .second, .unset, .unset] [(.long (q2 &&& ((((1 : Int64) <<< ((48 : Int32) &&& 0x3f).toInt64) - (1 : Int64)) ^^^ (-1 : Int64)))), (.long ((wrd x13) &&& (((1 : Int64) <<< ((48 : Int32) &&& 0x3f).toInt64) - (1 : Int64))))])
    refine own_go (fun _ => XS.lor X23.here hx rfl (hb hby at_210) rfl) ?_
    show GG _ _ _ _ _ _ _ T23 (mkF m 211 #[.val (.int p0), .val (.int p1), .val (.long q2), .second, .val (.ref ob1), .val (.long x13), .second, .val (.int (6 : Int32)), .val (.long (wrd x13)), .second, .val (.long (((1 : Int64) <<< ((48 : Int32) &&& 0x3f).toInt64) - (1 : Int64))), .second, .unset, .unset] [(.long (((wrd x13) &&& (((1 : Int64) <<< ((48 : Int32) &&& 0x3f).toInt64) - (1 : Int64))) ||| (q2 &&& ((((1 : Int64) <<< ((48 : Int32) &&& 0x3f).toInt64) - (1 : Int64)) ^^^ (-1 : Int64)))))])
    refine own_go (fun _ => XS.lstore X23.here hx rfl (hb hby at_211) rfl (l' := #[.val (.int p0), .val (.int p1), .val (.long q2), .second, .val (.ref ob1), .val (.long x13), .second, .val (.int (6 : Int32)), .val (.long (wrd x13)), .second, .val (.long (((1 : Int64) <<< ((48 : Int32) &&& 0x3f).toInt64) - (1 : Int64))), .second, .val (.long (((wrd x13) &&& (((1 : Int64) <<< ((48 : Int32) &&& 0x3f).toInt64) - (1 : Int64))) ||| (q2 &&& ((((1 : Int64) <<< ((48 : Int32) &&& 0x3f).toInt64) - (1 : Int64)) ^^^ (-1 : Int64))))), .second]) rfl) ?_
    show GG _ _ _ _ _ _ _ T23 (mkF m 213 #[.val (.int p0), .val (.int p1), .val (.long q2), .second, .val (.ref ob1), .val (.long x13), .second, .val (.int (6 : Int32)), .val (.long (wrd x13)), .second, .val (.long (((1 : Int64) <<< ((48 : Int32) &&& 0x3f).toInt64) - (1 : Int64))), .second, .val (.long (((wrd x13) &&& (((1 : Int64) <<< ((48 : Int32) &&& 0x3f).toInt64) - (1 : Int64))) ||| (q2 &&& ((((1 : Int64) <<< ((48 : Int32) &&& 0x3f).toInt64) - (1 : Int64)) ^^^ (-1 : Int64))))), .second] [])
    refine own_go (fun _ => XS.lload X23.here hx rfl (hb hby at_213) rfl) ?_
    show GG _ _ _ _ _ _ _ T23 (mkF m 215 #[.val (.int p0), .val (.int p1), .val (.long q2), .second, .val (.ref ob1), .val (.long x13), .second, .val (.int (6 : Int32)), .val (.long (wrd x13)), .second, .val (.long (((1 : Int64) <<< ((48 : Int32) &&& 0x3f).toInt64) - (1 : Int64))), .second, .val (.long (((wrd x13) &&& (((1 : Int64) <<< ((48 : Int32) &&& 0x3f).toInt64) - (1 : Int64))) ||| (q2 &&& ((((1 : Int64) <<< ((48 : Int32) &&& 0x3f).toInt64) - (1 : Int64)) ^^^ (-1 : Int64))))), .second] [(.long (((wrd x13) &&& (((1 : Int64) <<< ((48 : Int32) &&& 0x3f).toInt64) - (1 : Int64))) ||| (q2 &&& ((((1 : Int64) <<< ((48 : Int32) &&& 0x3f).toInt64) - (1 : Int64)) ^^^ (-1 : Int64)))))])
    refine own_go (fun _ => XS.iload X23.here hx rfl (hb hby at_215) rfl) ?_
    show GG _ _ _ _ _ _ _ T23 (mkF m 217 #[.val (.int p0), .val (.int p1), .val (.long q2), .second, .val (.ref ob1), .val (.long x13), .second, .val (.int (6 : Int32)), .val (.long (wrd x13)), .second, .val (.long (((1 : Int64) <<< ((48 : Int32) &&& 0x3f).toInt64) - (1 : Int64))), .second, .val (.long (((wrd x13) &&& (((1 : Int64) <<< ((48 : Int32) &&& 0x3f).toInt64) - (1 : Int64))) ||| (q2 &&& ((((1 : Int64) <<< ((48 : Int32) &&& 0x3f).toInt64) - (1 : Int64)) ^^^ (-1 : Int64))))), .second] [(.int (6 : Int32)), (.long (((wrd x13) &&& (((1 : Int64) <<< ((48 : Int32) &&& 0x3f).toInt64) - (1 : Int64))) ||| (q2 &&& ((((1 : Int64) <<< ((48 : Int32) &&& 0x3f).toInt64) - (1 : Int64)) ^^^ (-1 : Int64)))))])
    refine own_callS X23 hx hZ (y := (⟨"com/example/breakwater/breakwater/model/Digits", "valueOf", "(JI)J"⟩ : MethodName)) 0 hown (hw _ (List.mem_of_getElem? (i := 16) rfl)) (hw _ (List.mem_of_getElem? (i := 17) rfl)) (hw _ (List.mem_of_getElem? (i := 18) rfl)) (hw _ (List.mem_of_getElem? (i := 19) rfl)) (by decide) (argsL := [(.long (((wrd x13) &&& (((1 : Int64) <<< ((48 : Int32) &&& 0x3f).toInt64) - (1 : Int64))) ||| (q2 &&& ((((1 : Int64) <<< ((48 : Int32) &&& 0x3f).toInt64) - (1 : Int64)) ^^^ (-1 : Int64))))), (.int (6 : Int32))]) (rest := []) (rm2 l Z a0 hw [] (((wrd x13) &&& (((1 : Int64) <<< ((48 : Int32) &&& 0x3f).toInt64) - (1 : Int64))) ||| (q2 &&& ((((1 : Int64) <<< ((48 : Int32) &&& 0x3f).toInt64) - (1 : Int64)) ^^^ (-1 : Int64)))) (6 : Int32) h10 n0 (Nat.le_trans Z0 K0.1)) (by decide) (by decide) (by decide) (by decide) (g := (mkF m 217 #[.val (.int p0), .val (.int p1), .val (.long q2), .second, .val (.ref ob1), .val (.long x13), .second, .val (.int (6 : Int32)), .val (.long (wrd x13)), .second, .val (.long (((1 : Int64) <<< ((48 : Int32) &&& 0x3f).toInt64) - (1 : Int64))), .second, .val (.long (((wrd x13) &&& (((1 : Int64) <<< ((48 : Int32) &&& 0x3f).toInt64) - (1 : Int64))) ||| (q2 &&& ((((1 : Int64) <<< ((48 : Int32) &&& 0x3f).toInt64) - (1 : Int64)) ^^^ (-1 : Int64))))), .second] [(.int (6 : Int32)), (.long (((wrd x13) &&& (((1 : Int64) <<< ((48 : Int32) &&& 0x3f).toInt64) - (1 : Int64))) ||| (q2 &&& ((((1 : Int64) <<< ((48 : Int32) &&& 0x3f).toInt64) - (1 : Int64)) ^^^ (-1 : Int64)))))])) rfl (by rw [hml]; rfl) (lenOf pd__JI_J_302 rfl) rfl (by show 2 * 0 + _ ≤ _; exact Nat.le_of_eq rfl) (hb hby at_217) hh23 ?_
    rintro v29 T29 L29 X29 ⟨rfl, N29q, hh29⟩
    have N29 := Fr.app N23 N29q
    show GG _ _ _ _ _ _ _ T29 (mkF m 220 #[.val (.int p0), .val (.int p1), .val (.long q2), .second, .val (.ref ob1), .val (.long x13), .second, .val (.int (6 : Int32)), .val (.long (wrd x13)), .second, .val (.long (((1 : Int64) <<< ((48 : Int32) &&& 0x3f).toInt64) - (1 : Int64))), .second, .val (.long (((wrd x13) &&& (((1 : Int64) <<< ((48 : Int32) &&& 0x3f).toInt64) - (1 : Int64))) ||| (q2 &&& ((((1 : Int64) <<< ((48 : Int32) &&& 0x3f).toInt64) - (1 : Int64)) ^^^ (-1 : Int64))))), .second] [(.long (vof (((wrd x13) &&& (((1 : Int64) <<< ((48 : Int32) &&& 0x3f).toInt64) - (1 : Int64))) ||| (q2 &&& ((((1 : Int64) <<< ((48 : Int32) &&& 0x3f).toInt64) - (1 : Int64)) ^^^ (-1 : Int64)))) (6 : Int32)))])
    refine own_go (fun _ => XS.lload X29.here hx rfl (hb hby at_220) rfl) ?_
    show GG _ _ _ _ _ _ _ T29 (mkF m 222 #[.val (.int p0), .val (.int p1), .val (.long q2), .second, .val (.ref ob1), .val (.long x13), .second, .val (.int (6 : Int32)), .val (.long (wrd x13)), .second, .val (.long (((1 : Int64) <<< ((48 : Int32) &&& 0x3f).toInt64) - (1 : Int64))), .second, .val (.long (((wrd x13) &&& (((1 : Int64) <<< ((48 : Int32) &&& 0x3f).toInt64) - (1 : Int64))) ||| (q2 &&& ((((1 : Int64) <<< ((48 : Int32) &&& 0x3f).toInt64) - (1 : Int64)) ^^^ (-1 : Int64))))), .second] [(.long x13), (.long (vof (((wrd x13) &&& (((1 : Int64) <<< ((48 : Int32) &&& 0x3f).toInt64) - (1 : Int64))) ||| (q2 &&& ((((1 : Int64) <<< ((48 : Int32) &&& 0x3f).toInt64) - (1 : Int64)) ^^^ (-1 : Int64)))) (6 : Int32)))])
    refine own_go (fun _ => XS.aload X29.here hx rfl (hb hby at_222) rfl rfl) ?_
    show GG _ _ _ _ _ _ _ T29 (mkF m 224 #[.val (.int p0), .val (.int p1), .val (.long q2), .second, .val (.ref ob1), .val (.long x13), .second, .val (.int (6 : Int32)), .val (.long (wrd x13)), .second, .val (.long (((1 : Int64) <<< ((48 : Int32) &&& 0x3f).toInt64) - (1 : Int64))), .second, .val (.long (((wrd x13) &&& (((1 : Int64) <<< ((48 : Int32) &&& 0x3f).toInt64) - (1 : Int64))) ||| (q2 &&& ((((1 : Int64) <<< ((48 : Int32) &&& 0x3f).toInt64) - (1 : Int64)) ^^^ (-1 : Int64))))), .second] [(.ref ob1), (.long x13), (.long (vof (((wrd x13) &&& (((1 : Int64) <<< ((48 : Int32) &&& 0x3f).toInt64) - (1 : Int64))) ||| (q2 &&& ((((1 : Int64) <<< ((48 : Int32) &&& 0x3f).toInt64) - (1 : Int64)) ^^^ (-1 : Int64)))) (6 : Int32)))])
    refine own_go (fun _ => XS.bipush X29.here hx rfl (hb hby at_224)) ?_
    show GG _ _ _ _ _ _ _ T29 (mkF m 226 #[.val (.int p0), .val (.int p1), .val (.long q2), .second, .val (.ref ob1), .val (.long x13), .second, .val (.int (6 : Int32)), .val (.long (wrd x13)), .second, .val (.long (((1 : Int64) <<< ((48 : Int32) &&& 0x3f).toInt64) - (1 : Int64))), .second, .val (.long (((wrd x13) &&& (((1 : Int64) <<< ((48 : Int32) &&& 0x3f).toInt64) - (1 : Int64))) ||| (q2 &&& ((((1 : Int64) <<< ((48 : Int32) &&& 0x3f).toInt64) - (1 : Int64)) ^^^ (-1 : Int64))))), .second] [(.int (8 : Int32)), (.ref ob1), (.long x13), (.long (vof (((wrd x13) &&& (((1 : Int64) <<< ((48 : Int32) &&& 0x3f).toInt64) - (1 : Int64))) ||| (q2 &&& ((((1 : Int64) <<< ((48 : Int32) &&& 0x3f).toInt64) - (1 : Int64)) ^^^ (-1 : Int64)))) (6 : Int32)))])
    refine own_go (fun _ => XS.iload X29.here hx rfl (hb hby at_226) rfl) ?_
    show GG _ _ _ _ _ _ _ T29 (mkF m 228 #[.val (.int p0), .val (.int p1), .val (.long q2), .second, .val (.ref ob1), .val (.long x13), .second, .val (.int (6 : Int32)), .val (.long (wrd x13)), .second, .val (.long (((1 : Int64) <<< ((48 : Int32) &&& 0x3f).toInt64) - (1 : Int64))), .second, .val (.long (((wrd x13) &&& (((1 : Int64) <<< ((48 : Int32) &&& 0x3f).toInt64) - (1 : Int64))) ||| (q2 &&& ((((1 : Int64) <<< ((48 : Int32) &&& 0x3f).toInt64) - (1 : Int64)) ^^^ (-1 : Int64))))), .second] [(.int (6 : Int32)), (.int (8 : Int32)), (.ref ob1), (.long x13), (.long (vof (((wrd x13) &&& (((1 : Int64) <<< ((48 : Int32) &&& 0x3f).toInt64) - (1 : Int64))) ||| (q2 &&& ((((1 : Int64) <<< ((48 : Int32) &&& 0x3f).toInt64) - (1 : Int64)) ^^^ (-1 : Int64)))) (6 : Int32)))])
    refine own_go (fun _ => XS.isub X29.here hx rfl (hb hby at_228) rfl) ?_
    show GG _ _ _ _ _ _ _ T29 (mkF m 229 #[.val (.int p0), .val (.int p1), .val (.long q2), .second, .val (.ref ob1), .val (.long x13), .second, .val (.int (6 : Int32)), .val (.long (wrd x13)), .second, .val (.long (((1 : Int64) <<< ((48 : Int32) &&& 0x3f).toInt64) - (1 : Int64))), .second, .val (.long (((wrd x13) &&& (((1 : Int64) <<< ((48 : Int32) &&& 0x3f).toInt64) - (1 : Int64))) ||| (q2 &&& ((((1 : Int64) <<< ((48 : Int32) &&& 0x3f).toInt64) - (1 : Int64)) ^^^ (-1 : Int64))))), .second] [(.int (2 : Int32)), (.ref ob1), (.long x13), (.long (vof (((wrd x13) &&& (((1 : Int64) <<< ((48 : Int32) &&& 0x3f).toInt64) - (1 : Int64))) ||| (q2 &&& ((((1 : Int64) <<< ((48 : Int32) &&& 0x3f).toInt64) - (1 : Int64)) ^^^ (-1 : Int64)))) (6 : Int32)))])
    refine own_go (fun _ => own_laload X29 hx hZ hh29 V_ob1 (j := (2 : Int32)) (v := (.long (100 : Int64))) (by decide) rfl (g := (mkF m 229 #[.val (.int p0), .val (.int p1), .val (.long q2), .second, .val (.ref ob1), .val (.long x13), .second, .val (.int (6 : Int32)), .val (.long (wrd x13)), .second, .val (.long (((1 : Int64) <<< ((48 : Int32) &&& 0x3f).toInt64) - (1 : Int64))), .second, .val (.long (((wrd x13) &&& (((1 : Int64) <<< ((48 : Int32) &&& 0x3f).toInt64) - (1 : Int64))) ||| (q2 &&& ((((1 : Int64) <<< ((48 : Int32) &&& 0x3f).toInt64) - (1 : Int64)) ^^^ (-1 : Int64))))), .second] [(.int (2 : Int32)), (.ref ob1), (.long x13), (.long (vof (((wrd x13) &&& (((1 : Int64) <<< ((48 : Int32) &&& 0x3f).toInt64) - (1 : Int64))) ||| (q2 &&& ((((1 : Int64) <<< ((48 : Int32) &&& 0x3f).toInt64) - (1 : Int64)) ^^^ (-1 : Int64)))) (6 : Int32)))])) rfl rfl (hb hby at_229) _) ?_
    show GG _ _ _ _ _ _ _ T29 (mkF m 230 #[.val (.int p0), .val (.int p1), .val (.long q2), .second, .val (.ref ob1), .val (.long x13), .second, .val (.int (6 : Int32)), .val (.long (wrd x13)), .second, .val (.long (((1 : Int64) <<< ((48 : Int32) &&& 0x3f).toInt64) - (1 : Int64))), .second, .val (.long (((wrd x13) &&& (((1 : Int64) <<< ((48 : Int32) &&& 0x3f).toInt64) - (1 : Int64))) ||| (q2 &&& ((((1 : Int64) <<< ((48 : Int32) &&& 0x3f).toInt64) - (1 : Int64)) ^^^ (-1 : Int64))))), .second] [(.long (100 : Int64)), (.long x13), (.long (vof (((wrd x13) &&& (((1 : Int64) <<< ((48 : Int32) &&& 0x3f).toInt64) - (1 : Int64))) ||| (q2 &&& ((((1 : Int64) <<< ((48 : Int32) &&& 0x3f).toInt64) - (1 : Int64)) ^^^ (-1 : Int64)))) (6 : Int32)))])
    refine own_go (fun _ => XS.ldiv X29.here hx rfl (hb hby at_230) rfl (by decide)) ?_
    show GG _ _ _ _ _ _ _ T29 (mkF m 231 #[.val (.int p0), .val (.int p1), .val (.long q2), .second, .val (.ref ob1), .val (.long x13), .second, .val (.int (6 : Int32)), .val (.long (wrd x13)), .second, .val (.long (((1 : Int64) <<< ((48 : Int32) &&& 0x3f).toInt64) - (1 : Int64))), .second, .val (.long (((wrd x13) &&& (((1 : Int64) <<< ((48 : Int32) &&& 0x3f).toInt64) - (1 : Int64))) ||| (q2 &&& ((((1 : Int64) <<< ((48 : Int32) &&& 0x3f).toInt64) - (1 : Int64)) ^^^ (-1 : Int64))))), .second] [(.long (x13 / (100 : Int64))), (.long (vof (((wrd x13) &&& (((1 : Int64) <<< ((48 : Int32) &&& 0x3f).toInt64) - (1 : Int64))) ||| (q2 &&& ((((1 : Int64) <<< ((48 : Int32) &&& 0x3f).toInt64) - (1 : Int64)) ^^^ (-1 : Int64)))) (6 : Int32)))])
    refine own_go (fun _ => XS.lcmp X29.here hx rfl (hb hby at_231) rfl) ?_
    show GG _ _ _ _ _ _ _ T29 (mkF m 232 #[.val (.int p0), .val (.int p1), .val (.long q2), .second, .val (.ref ob1), .val (.long x13), .second, .val (.int (6 : Int32)), .val (.long (wrd x13)), .second, .val (.long (((1 : Int64) <<< ((48 : Int32) &&& 0x3f).toInt64) - (1 : Int64))), .second, .val (.long (((wrd x13) &&& (((1 : Int64) <<< ((48 : Int32) &&& 0x3f).toInt64) - (1 : Int64))) ||| (q2 &&& ((((1 : Int64) <<< ((48 : Int32) &&& 0x3f).toInt64) - (1 : Int64)) ^^^ (-1 : Int64))))), .second] [(.int (lcmpW (vof (((wrd x13) &&& (((1 : Int64) <<< ((48 : Int32) &&& 0x3f).toInt64) - (1 : Int64))) ||| (q2 &&& ((((1 : Int64) <<< ((48 : Int32) &&& 0x3f).toInt64) - (1 : Int64)) ^^^ (-1 : Int64)))) (6 : Int32)) (x13 / (100 : Int64))))])
    have hc232 : (vof (((wrd x13) &&& (((1 : Int64) <<< ((48 : Int32) &&& 0x3f).toInt64) - (1 : Int64))) ||| (q2 &&& ((((1 : Int64) <<< ((48 : Int32) &&& 0x3f).toInt64) - (1 : Int64)) ^^^ (-1 : Int64)))) (6 : Int32)) = (x13 / (100 : Int64)) := own_fin6 x13 _ hx0.1 hx0.2
    refine own_go (fun _ => XS.ifNo X29.here hx rfl (hb hby at_232) rfl ((if0 _ _).trans (teq ((lw_eq _ _).mpr hc232)).2)) ?_
    show GG _ _ _ _ _ _ _ T29 (mkF m 235 #[.val (.int p0), .val (.int p1), .val (.long q2), .second, .val (.ref ob1), .val (.long x13), .second, .val (.int (6 : Int32)), .val (.long (wrd x13)), .second, .val (.long (((1 : Int64) <<< ((48 : Int32) &&& 0x3f).toInt64) - (1 : Int64))), .second, .val (.long (((wrd x13) &&& (((1 : Int64) <<< ((48 : Int32) &&& 0x3f).toInt64) - (1 : Int64))) ||| (q2 &&& ((((1 : Int64) <<< ((48 : Int32) &&& 0x3f).toInt64) - (1 : Int64)) ^^^ (-1 : Int64))))), .second] [])
    refine own_go (fun _ => XS.iconst X29.here hx rfl (hb hby at_235)) ?_
    show GG _ _ _ _ _ _ _ T29 (mkF m 236 #[.val (.int p0), .val (.int p1), .val (.long q2), .second, .val (.ref ob1), .val (.long x13), .second, .val (.int (6 : Int32)), .val (.long (wrd x13)), .second, .val (.long (((1 : Int64) <<< ((48 : Int32) &&& 0x3f).toInt64) - (1 : Int64))), .second, .val (.long (((wrd x13) &&& (((1 : Int64) <<< ((48 : Int32) &&& 0x3f).toInt64) - (1 : Int64))) ||| (q2 &&& ((((1 : Int64) <<< ((48 : Int32) &&& 0x3f).toInt64) - (1 : Int64)) ^^^ (-1 : Int64))))), .second] [(.int (1 : Int32))])
    refine own_go (fun _ => XS.goto X29.here hx rfl (pc0 := 236) (pc' := 240) rfl (hb hby at_236) (by decide) (by decide)) ?_
    show GG _ _ _ _ _ _ _ T29 (mkF m 240 #[.val (.int p0), .val (.int p1), .val (.long q2), .second, .val (.ref ob1), .val (.long x13), .second, .val (.int (6 : Int32)), .val (.long (wrd x13)), .second, .val (.long (((1 : Int64) <<< ((48 : Int32) &&& 0x3f).toInt64) - (1 : Int64))), .second, .val (.long (((wrd x13) &&& (((1 : Int64) <<< ((48 : Int32) &&& 0x3f).toInt64) - (1 : Int64))) ||| (q2 &&& ((((1 : Int64) <<< ((48 : Int32) &&& 0x3f).toInt64) - (1 : Int64)) ^^^ (-1 : Int64))))), .second] [(.int (1 : Int32))])
    refine own_ret X29 hx hlk (t := .boolean) (w := (.int (1 : Int32))) Bd.returns rfl (Or.inl ⟨rfl, by simp, _, rfl⟩) (hb hby at_240) (by decide) (by decide) ?_
    show Q0 Z p0 p1 q2 h0 n0 (some (.int (1 : Int32))) T29.heap _
    rw [hh29]
    exact ⟨rfl, N29⟩
  · skip
    subst h8
    show GG _ _ _ _ _ _ _ T23 (mkF m 173 #[.val (.int p0), .val (.int p1), .val (.long q2), .second, .val (.ref ob1), .val (.long x13), .second, .val (.int (7 : Int32)), .val (.long (wrd x13)), .second, .unset, .unset, .unset, .unset] [])
    refine own_go (fun _ => XS.iload X23.here hx rfl (hb hby at_173) rfl) ?_
    show GG _ _ _ _ _ _ _ T23 (mkF m 175 #[.val (.int p0), .val (.int p1), .val (.long q2), .second, .val (.ref ob1), .val (.long x13), .second, .val (.int (7 : Int32)), .val (.long (wrd x13)), .second, .unset, .unset, .unset, .unset] [(.int (7 : Int32))])
    refine own_go (fun _ => XS.bipush X23.here hx rfl (hb hby at_175)) ?_
    show GG _ _ _ _ _ _ _ T23 (mkF m 177 #[.val (.int p0), .val (.int p1), .val (.long q2), .second, .val (.ref ob1), .val (.long x13), .second, .val (.int (7 : Int32)), .val (.long (wrd x13)), .second, .unset, .unset, .unset, .unset] [(.int (8 : Int32)), (.int (7 : Int32))])
    have hc177 : ¬ ((7 : Int32) = (8 : Int32)) := by decide
    refine own_go (fun _ => XS.icmpYes X23.here hx rfl (pc0 := 177) (pc' := 186) rfl (hb hby at_177) rfl (feq hc177).2 (by decide) (by decide)) ?_
    show GG _ _ _ _ _ _ _ T23 (mkF m 186 #[.val (.int p0), .val (.int p1), .val (.long q2), .second, .val (.ref ob1), .val (.long x13), .second, .val (.int (7 : Int32)), .val (.long (wrd x13)), .second, .unset, .unset, .unset, .unset] [])
    refine own_go (fun _ => XS.lconst X23.here hx rfl (hb hby at_186)) ?_
    show GG _ _ _ _ _ _ _ T23 (mkF m 187 #[.val (.int p0), .val (.int p1), .val (.long q2), .second, .val (.ref ob1), .val (.long x13), .second, .val (.int (7 : Int32)), .val (.long (wrd x13)), .second, .unset, .unset, .unset, .unset] [(.long (1 : Int64))])
    refine own_go (fun _ => XS.bipush X23.here hx rfl (hb hby at_187)) ?_
    show GG _ _ _ _ _ _ _ T23 (mkF m 189 #[.val (.int p0), .val (.int p1), .val (.long q2), .second, .val (.ref ob1), .val (.long x13), .second, .val (.int (7 : Int32)), .val (.long (wrd x13)), .second, .unset, .unset, .unset, .unset] [(.int (8 : Int32)), (.long (1 : Int64))])
    refine own_go (fun _ => XS.iload X23.here hx rfl (hb hby at_189) rfl) ?_
    show GG _ _ _ _ _ _ _ T23 (mkF m 191 #[.val (.int p0), .val (.int p1), .val (.long q2), .second, .val (.ref ob1), .val (.long x13), .second, .val (.int (7 : Int32)), .val (.long (wrd x13)), .second, .unset, .unset, .unset, .unset] [(.int (7 : Int32)), (.int (8 : Int32)), (.long (1 : Int64))])
    refine own_go (fun _ => XS.imul X23.here hx rfl (hb hby at_191) rfl) ?_
    show GG _ _ _ _ _ _ _ T23 (mkF m 192 #[.val (.int p0), .val (.int p1), .val (.long q2), .second, .val (.ref ob1), .val (.long x13), .second, .val (.int (7 : Int32)), .val (.long (wrd x13)), .second, .unset, .unset, .unset, .unset] [(.int (56 : Int32)), (.long (1 : Int64))])
    refine own_go (fun _ => XS.lshl X23.here hx rfl (hb hby at_192) rfl) ?_
    show GG _ _ _ _ _ _ _ T23 (mkF m 193 #[.val (.int p0), .val (.int p1), .val (.long q2), .second, .val (.ref ob1), .val (.long x13), .second, .val (.int (7 : Int32)), .val (.long (wrd x13)), .second, .unset, .unset, .unset, .unset] [(.long ((1 : Int64) <<< ((56 : Int32) &&& 0x3f).toInt64))])
    refine own_go (fun _ => XS.lconst X23.here hx rfl (hb hby at_193)) ?_
    show GG _ _ _ _ _ _ _ T23 (mkF m 194 #[.val (.int p0), .val (.int p1), .val (.long q2), .second, .val (.ref ob1), .val (.long x13), .second, .val (.int (7 : Int32)), .val (.long (wrd x13)), .second, .unset, .unset, .unset, .unset] [(.long (1 : Int64)), (.long ((1 : Int64) <<< ((56 : Int32) &&& 0x3f).toInt64))])
    refine own_go (fun _ => XS.lsub X23.here hx rfl (hb hby at_194) rfl) ?_
    show GG _ _ _ _ _ _ _ T23 (mkF m 195 #[.val (.int p0), .val (.int p1), .val (.long q2), .second, .val (.ref ob1), .val (.long x13), .second, .val (.int (7 : Int32)), .val (.long (wrd x13)), .second, .unset, .unset, .unset, .unset] [(.long (((1 : Int64) <<< ((56 : Int32) &&& 0x3f).toInt64) - (1 : Int64)))])
    refine own_go (fun _ => XS.lstore X23.here hx rfl (hb hby at_195) rfl (l' := #[.val (.int p0), .val (.int p1), .val (.long q2), .second, .val (.ref ob1), .val (.long x13), .second, .val (.int (7 : Int32)), .val (.long (wrd x13)), .second, .val (.long (((1 : Int64) <<< ((56 : Int32) &&& 0x3f).toInt64) - (1 : Int64))), .second, .unset, .unset]) rfl) ?_
    show GG _ _ _ _ _ _ _ T23 (mkF m 197 #[.val (.int p0), .val (.int p1), .val (.long q2), .second, .val (.ref ob1), .val (.long x13), .second, .val (.int (7 : Int32)), .val (.long (wrd x13)), .second, .val (.long (((1 : Int64) <<< ((56 : Int32) &&& 0x3f).toInt64) - (1 : Int64))), .second, .unset, .unset] [])
    refine own_go (fun _ => XS.lload X23.here hx rfl (hb hby at_197) rfl) ?_
    show GG _ _ _ _ _ _ _ T23 (mkF m 199 #[.val (.int p0), .val (.int p1), .val (.long q2), .second, .val (.ref ob1), .val (.long x13), .second, .val (.int (7 : Int32)), .val (.long (wrd x13)), .second, .val (.long (((1 : Int64) <<< ((56 : Int32) &&& 0x3f).toInt64) - (1 : Int64))), .second, .unset, .unset] [(.long (wrd x13))])
    refine own_go (fun _ => XS.lload X23.here hx rfl (hb hby at_199) rfl) ?_
    show GG _ _ _ _ _ _ _ T23 (mkF m 201 #[.val (.int p0), .val (.int p1), .val (.long q2), .second, .val (.ref ob1), .val (.long x13), .second, .val (.int (7 : Int32)), .val (.long (wrd x13)), .second, .val (.long (((1 : Int64) <<< ((56 : Int32) &&& 0x3f).toInt64) - (1 : Int64))), .second, .unset, .unset] [(.long (((1 : Int64) <<< ((56 : Int32) &&& 0x3f).toInt64) - (1 : Int64))), (.long (wrd x13))])
    refine own_go (fun _ => XS.land X23.here hx rfl (hb hby at_201) rfl) ?_
    show GG _ _ _ _ _ _ _ T23 (mkF m 202 #[.val (.int p0), .val (.int p1), .val (.long q2), .second, .val (.ref ob1), .val (.long x13), .second, .val (.int (7 : Int32)), .val (.long (wrd x13)), .second, .val (.long (((1 : Int64) <<< ((56 : Int32) &&& 0x3f).toInt64) - (1 : Int64))), .second, .unset, .unset] [(.long ((wrd x13) &&& (((1 : Int64) <<< ((56 : Int32) &&& 0x3f).toInt64) - (1 : Int64))))])
    refine own_go (fun _ => XS.lloadN X23.here hx rfl (hb hby at_202) rfl) ?_
    show GG _ _ _ _ _ _ _ T23 (mkF m 203 #[.val (.int p0), .val (.int p1), .val (.long q2), .second, .val (.ref ob1), .val (.long x13), .second, .val (.int (7 : Int32)), .val (.long (wrd x13)), .second, .val (.long (((1 : Int64) <<< ((56 : Int32) &&& 0x3f).toInt64) - (1 : Int64))), .second, .unset, .unset] [(.long q2), (.long ((wrd x13) &&& (((1 : Int64) <<< ((56 : Int32) &&& 0x3f).toInt64) - (1 : Int64))))])
    refine own_go (fun _ => XS.lload X23.here hx rfl (hb hby at_203) rfl) ?_
    show GG _ _ _ _ _ _ _ T23 (mkF m 205 #[.val (.int p0), .val (.int p1), .val (.long q2), .second, .val (.ref ob1), .val (.long x13), .second, .val (.int (7 : Int32)), .val (.long (wrd x13)), .second, .val (.long (((1 : Int64) <<< ((56 : Int32) &&& 0x3f).toInt64) - (1 : Int64))), .second, .unset, .unset] [(.long (((1 : Int64) <<< ((56 : Int32) &&& 0x3f).toInt64) - (1 : Int64))), (.long q2), (.long ((wrd x13) &&& (((1 : Int64) <<< ((56 : Int32) &&& 0x3f).toInt64) - (1 : Int64))))])
    refine own_go (fun _ => X23.ldc2Long hx hown (mvT hZ (hw _ (List.mem_of_getElem? (i := 15) rfl))) (g := (mkF m 205 #[.val (.int p0), .val (.int p1), .val (.long q2), .second, .val (.ref ob1), .val (.long x13), .second, .val (.int (7 : Int32)), .val (.long (wrd x13)), .second, .val (.long (((1 : Int64) <<< ((56 : Int32) &&& 0x3f).toInt64) - (1 : Int64))), .second, .unset, .unset] [(.long (((1 : Int64) <<< ((56 : Int32) &&& 0x3f).toInt64) - (1 : Int64))), (.long q2), (.long ((wrd x13) &&& (((1 : Int64) <<< ((56 : Int32) &&& 0x3f).toInt64) - (1 : Int64))))])) rfl (hb hby at_205) _) ?_
    show GG _ _ _ _ _ _ _ T23 (mkF m 208 #[.val (.int p0), .val (.int p1), .val (.long q2), .second, .val (.ref ob1), .val (.long x13), .second, .val (.int (7 : Int32)), .val (.long (wrd x13)), .second, .val (.long (((1 : Int64) <<< ((56 : Int32) &&& 0x3f).toInt64) - (1 : Int64))), .second, .unset, .unset] [(.long (-1 : Int64)), (.long (((1 : Int64) <<< ((56 : Int32) &&& 0x3f).toInt64) - (1 : Int64))), (.long q2), (.long ((wrd x13) &&& (((1 : Int64) <<< ((56 : Int32) &&& 0x3f).toInt64) - (1 : Int64))))])
    refine own_go (fun _ => XS.lxor X23.here hx rfl (hb hby at_208) rfl) ?_
    show GG _ _ _ _ _ _ _ T23 (mkF m 209 #[.val (.int p0), .val (.int p1), .val (.long q2), .second, .val (.ref ob1), .val (.long x13), .second, .val (.int (7 : Int32)), .val (.long (wrd x13)), .second, .val (.long (((1 : Int64) <<< ((56 : Int32) &&& 0x3f).toInt64) - (1 : Int64))), .second, .unset, .unset] [(.long ((((1 : Int64) <<< ((56 : Int32) &&& 0x3f).toInt64) - (1 : Int64)) ^^^ (-1 : Int64))), (.long q2), (.long ((wrd x13) &&& (((1 : Int64) <<< ((56 : Int32) &&& 0x3f).toInt64) - (1 : Int64))))])
    refine own_go (fun _ => XS.land X23.here hx rfl (hb hby at_209) rfl) ?_
    show GG _ _ _ _ _ _ _ T23 (mkF m 210 #[.val (.int p0), .val (.int p1), .val (.long q2), .second, .val (.ref ob1), .val (.long x13), .second, .val (.int (7 : Int32)), .val (.long (wrd x13)), .second, .val (.long (((1 : Int64) <<< ((56 : Int32) &&& 0x3f).toInt64) - (1 : Int64))), .second, .unset, .unset] [(.long (q2 &&& ((((1 : Int64) <<< ((56 : Int32) &&& 0x3f).toInt64) - (1 : Int64)) ^^^ (-1 : Int64)))), (.long ((wrd x13) &&& (((1 : Int64) <<< ((56 : Int32) &&& 0x3f).toInt64) - (1 : Int64))))])
    refine own_go (fun _ => XS.lor X23.here hx rfl (hb hby at_210) rfl) ?_
    show GG _ _ _ _ _ _ _ T23 (mkF m 211 #[.val (.int p0), .val (.int p1), .val (.long q2), .second, .val (.ref ob1), .val (.long x13), .second, .val (.int (7 : Int32)), .val (.long (wrd x13)), .second, .val (.long (((1 : Int64) <<< ((56 : Int32) &&& 0x3f).toInt64) - (1 : Int64))), .second, .unset, .unset] [(.long (((wrd x13) &&& (((1 : Int64) <<< ((56 : Int32) &&& 0x3f).toInt64) - (1 : Int64))) ||| (q2 &&& ((((1 : Int64) <<< ((56 : Int32) &&& 0x3f).toInt64) - (1 : Int64)) ^^^ (-1 : Int64)))))])
    refine own_go (fun _ => XS.lstore X23.here hx rfl (hb hby at_211) rfl (l' := #[.val (.int p0), .val (.int p1), .val (.long q2), .second, .val (.ref ob1), .val (.long x13), .second, .val (.int (7 : Int32)), .val (.long (wrd x13)), .second, .val (.long (((1 : Int64) <<< ((56 : Int32) &&& 0x3f).toInt64) - (1 : Int64))), .second, .val (.long (((wrd x13) &&& (((1 : Int64) <<< ((56 : Int32) &&& 0x3f).toInt64) - (1 : Int64))) ||| (q2 &&& ((((1 : Int64) <<< ((56 : Int32) &&& 0x3f).toInt64) - (1 : Int64)) ^^^ (-1 : Int64))))), .second]) rfl) ?_
    show GG _ _ _ _ _ _ _ T23 (mkF m 213 #[.val (.int p0), .val (.int p1), .val (.long q2), .second, .val (.ref ob1), .val (.long x13), .second, .val (.int (7 : Int32)), .val (.long (wrd x13)), .second, .val (.long (((1 : Int64) <<< ((56 : Int32) &&& 0x3f).toInt64) - (1 : Int64))), .second, .val (.long (((wrd x13) &&& (((1 : Int64) <<< ((56 : Int32) &&& 0x3f).toInt64) - (1 : Int64))) ||| (q2 &&& ((((1 : Int64) <<< ((56 : Int32) &&& 0x3f).toInt64) - (1 : Int64)) ^^^ (-1 : Int64))))), .second] [])
    refine own_go (fun _ => XS.lload X23.here hx rfl (hb hby at_213) rfl) ?_
    show GG _ _ _ _ _ _ _ T23 (mkF m 215 #[.val (.int p0), .val (.int p1), .val (.long q2), .second, .val (.ref ob1), .val (.long x13), .second, .val (.int (7 : Int32)), .val (.long (wrd x13)), .second, .val (.long (((1 : Int64) <<< ((56 : Int32) &&& 0x3f).toInt64) - (1 : Int64))), .second, .val (.long (((wrd x13) &&& (((1 : Int64) <<< ((56 : Int32) &&& 0x3f).toInt64) - (1 : Int64))) ||| (q2 &&& ((((1 : Int64) <<< ((56 : Int32) &&& 0x3f).toInt64) - (1 : Int64)) ^^^ (-1 : Int64))))), .second] [(.long (((wrd x13) &&& (((1 : Int64) <<< ((56 : Int32) &&& 0x3f).toInt64) - (1 : Int64))) ||| (q2 &&& ((((1 : Int64) <<< ((56 : Int32) &&& 0x3f).toInt64) - (1 : Int64)) ^^^ (-1 : Int64)))))])
    refine own_go (fun _ => XS.iload X23.here hx rfl (hb hby at_215) rfl) ?_
    show GG _ _ _ _ _ _ _ T23 (mkF m 217 #[.val (.int p0), .val (.int p1), .val (.long q2), .second, .val (.ref ob1), .val (.long x13), .second, .val (.int (7 : Int32)), .val (.long (wrd x13)), .second, .val (.long (((1 : Int64) <<< ((56 : Int32) &&& 0x3f).toInt64) - (1 : Int64))), .second, .val (.long (((wrd x13) &&& (((1 : Int64) <<< ((56 : Int32) &&& 0x3f).toInt64) - (1 : Int64))) ||| (q2 &&& ((((1 : Int64) <<< ((56 : Int32) &&& 0x3f).toInt64) - (1 : Int64)) ^^^ (-1 : Int64))))), .second] [(.int (7 : Int32)), (.long (((wrd x13) &&& (((1 : Int64) <<< ((56 : Int32) &&& 0x3f).toInt64) - (1 : Int64))) ||| (q2 &&& ((((1 : Int64) <<< ((56 : Int32) &&& 0x3f).toInt64) - (1 : Int64)) ^^^ (-1 : Int64)))))])
    refine own_callS X23 hx hZ (y := (⟨"com/example/breakwater/breakwater/model/Digits", "valueOf", "(JI)J"⟩ : MethodName)) 0 hown (hw _ (List.mem_of_getElem? (i := 16) rfl)) (hw _ (List.mem_of_getElem? (i := 17) rfl)) (hw _ (List.mem_of_getElem? (i := 18) rfl)) (hw _ (List.mem_of_getElem? (i := 19) rfl)) (by decide) (argsL := [(.long (((wrd x13) &&& (((1 : Int64) <<< ((56 : Int32) &&& 0x3f).toInt64) - (1 : Int64))) ||| (q2 &&& ((((1 : Int64) <<< ((56 : Int32) &&& 0x3f).toInt64) - (1 : Int64)) ^^^ (-1 : Int64))))), (.int (7 : Int32))]) (rest := []) (rm2 l Z a0 hw [] (((wrd x13) &&& (((1 : Int64) <<< ((56 : Int32) &&& 0x3f).toInt64) - (1 : Int64))) ||| (q2 &&& ((((1 : Int64) <<< ((56 : Int32) &&& 0x3f).toInt64) - (1 : Int64)) ^^^ (-1 : Int64)))) (7 : Int32) h10 n0 (Nat.le_trans Z0 K0.1)) (by decide) (by decide) (by decide) (by decide) (g := (mkF m 217 #[.val (.int p0), .val (.int p1), .val (.long q2), .second, .val (.ref ob1), .val (.long x13), .second, .val (.int (7 : Int32)), .val (.long (wrd x13)), .second, .val (.long (((1 : Int64) <<< ((56 : Int32) &&& 0x3f).toInt64) - (1 : Int64))), .second, .val (.long (((wrd x13) &&& (((1 : Int64) <<< ((56 : Int32) &&& 0x3f).toInt64) - (1 : Int64))) ||| (q2 &&& ((((1 : Int64) <<< ((56 : Int32) &&& 0x3f).toInt64) - (1 : Int64)) ^^^ (-1 : Int64))))), .second] [(.int (7 : Int32)), (.long (((wrd x13) &&& (((1 : Int64) <<< ((56 : Int32) &&& 0x3f).toInt64) - (1 : Int64))) ||| (q2 &&& ((((1 : Int64) <<< ((56 : Int32) &&& 0x3f).toInt64) - (1 : Int64)) ^^^ (-1 : Int64)))))])) rfl (by rw [hml]; rfl) (lenOf pd__JI_J_302 rfl) rfl (by show 2 * 0 + _ ≤ _; exact Nat.le_of_eq rfl) (hb hby at_217) hh23 ?_
    rintro v30 T30 L30 X30 ⟨rfl, N30q, hh30⟩
    have N30 := Fr.app N23 N30q
    show GG _ _ _ _ _ _ _ T30 (mkF m 220 #[.val (.int p0), .val (.int p1), .val (.long q2), .second, .val (.ref ob1), .val (.long x13), .second, .val (.int (7 : Int32)), .val (.long (wrd x13)), .second, .val (.long (((1 : Int64) <<< ((56 : Int32) &&& 0x3f).toInt64) - (1 : Int64))), .second, .val (.long (((wrd x13) &&& (((1 : Int64) <<< ((56 : Int32) &&& 0x3f).toInt64) - (1 : Int64))) ||| (q2 &&& ((((1 : Int64) <<< ((56 : Int32) &&& 0x3f).toInt64) - (1 : Int64)) ^^^ (-1 : Int64))))), .second] [(.long (vof (((wrd x13) &&& (((1 : Int64) <<< ((56 : Int32) &&& 0x3f).toInt64) - (1 : Int64))) ||| (q2 &&& ((((1 : Int64) <<< ((56 : Int32) &&& 0x3f).toInt64) - (1 : Int64)) ^^^ (-1 : Int64)))) (7 : Int32)))])
    refine own_go (fun _ => XS.lload X30.here hx rfl (hb hby at_220) rfl) ?_
    show GG _ _ _ _ _ _ _ T30 (mkF m 222 #[.val (.int p0), .val (.int p1), .val (.long q2), .second, .val (.ref ob1), .val (.long x13), .second, .val (.int (7 : Int32)), .val (.long (wrd x13)), .second, .val (.long (((1 : Int64) <<< ((56 : Int32) &&& 0x3f).toInt64) - (1 : Int64))), .second, .val (.long (((wrd x13) &&& (((1 : Int64) <<< ((56 : Int32) &&& 0x3f).toInt64) - (1 : Int64))) ||| (q2 &&& ((((1 : Int64) <<< ((56 : Int32) &&& 0x3f).toInt64) - (1 : Int64)) ^^^ (-1 : Int64))))), .second] [(.long x13), (.long (vof (((wrd x13) &&& (((1 : Int64) <<< ((56 : Int32) &&& 0x3f).toInt64) - (1 : Int64))) ||| (q2 &&& ((((1 : Int64) <<< ((56 : Int32) &&& 0x3f).toInt64) - (1 : Int64)) ^^^ (-1 : Int64)))) (7 : Int32)))])
    refine own_go (fun _ => XS.aload X30.here hx rfl (hb hby at_222) rfl rfl) ?_
    show GG _ _ _ _ _ _ _ T30 (mkF m 224 #[.val (.int p0), .val (.int p1), .val (.long q2), .second, .val (.ref ob1), .val (.long x13), .second, .val (.int (7 : Int32)), .val (.long (wrd x13)), .second, .val (.long (((1 : Int64) <<< ((56 : Int32) &&& 0x3f).toInt64) - (1 : Int64))), .second, .val (.long (((wrd x13) &&& (((1 : Int64) <<< ((56 : Int32) &&& 0x3f).toInt64) - (1 : Int64))) ||| (q2 &&& ((((1 : Int64) <<< ((56 : Int32) &&& 0x3f).toInt64) - (1 : Int64)) ^^^ (-1 : Int64))))), .second] [(.ref ob1), (.long x13), (.long (vof (((wrd x13) &&& (((1 : Int64) <<< ((56 : Int32) &&& 0x3f).toInt64) - (1 : Int64))) ||| (q2 &&& ((((1 : Int64) <<< ((56 : Int32) &&& 0x3f).toInt64) - (1 : Int64)) ^^^ (-1 : Int64)))) (7 : Int32)))])
    refine own_go (fun _ => XS.bipush X30.here hx rfl (hb hby at_224)) ?_
    show GG _ _ _ _ _ _ _ T30 (mkF m 226 #[.val (.int p0), .val (.int p1), .val (.long q2), .second, .val (.ref ob1), .val (.long x13), .second, .val (.int (7 : Int32)), .val (.long (wrd x13)), .second, .val (.long (((1 : Int64) <<< ((56 : Int32) &&& 0x3f).toInt64) - (1 : Int64))), .second, .val (.long (((wrd x13) &&& (((1 : Int64) <<< ((56 : Int32) &&& 0x3f).toInt64) - (1 : Int64))) ||| (q2 &&& ((((1 : Int64) <<< ((56 : Int32) &&& 0x3f).toInt64) - (1 : Int64)) ^^^ (-1 : Int64))))), .second] [(.int (8 : Int32)), (.ref ob1), (.long x13), (.long (vof (((wrd x13) &&& (((1 : Int64) <<< ((56 : Int32) &&& 0x3f).toInt64) - (1 : Int64))) ||| (q2 &&& ((((1 : Int64) <<< ((56 : Int32) &&& 0x3f).toInt64) - (1 : Int64)) ^^^ (-1 : Int64)))) (7 : Int32)))])
    refine own_go (fun _ => XS.iload X30.here hx rfl (hb hby at_226) rfl) ?_
    show GG _ _ _ _ _ _ _ T30 (mkF m 228 #[.val (.int p0), .val (.int p1), .val (.long q2), .second, .val (.ref ob1), .val (.long x13), .second, .val (.int (7 : Int32)), .val (.long (wrd x13)), .second, .val (.long (((1 : Int64) <<< ((56 : Int32) &&& 0x3f).toInt64) - (1 : Int64))), .second, .val (.long (((wrd x13) &&& (((1 : Int64) <<< ((56 : Int32) &&& 0x3f).toInt64) - (1 : Int64))) ||| (q2 &&& ((((1 : Int64) <<< ((56 : Int32) &&& 0x3f).toInt64) - (1 : Int64)) ^^^ (-1 : Int64))))), .second] [(.int (7 : Int32)), (.int (8 : Int32)), (.ref ob1), (.long x13), (.long (vof (((wrd x13) &&& (((1 : Int64) <<< ((56 : Int32) &&& 0x3f).toInt64) - (1 : Int64))) ||| (q2 &&& ((((1 : Int64) <<< ((56 : Int32) &&& 0x3f).toInt64) - (1 : Int64)) ^^^ (-1 : Int64)))) (7 : Int32)))])
    refine own_go (fun _ => XS.isub X30.here hx rfl (hb hby at_228) rfl) ?_
    show GG _ _ _ _ _ _ _ T30 (mkF m 229 #[.val (.int p0), .val (.int p1), .val (.long q2), .second, .val (.ref ob1), .val (.long x13), .second, .val (.int (7 : Int32)), .val (.long (wrd x13)), .second, .val (.long (((1 : Int64) <<< ((56 : Int32) &&& 0x3f).toInt64) - (1 : Int64))), .second, .val (.long (((wrd x13) &&& (((1 : Int64) <<< ((56 : Int32) &&& 0x3f).toInt64) - (1 : Int64))) ||| (q2 &&& ((((1 : Int64) <<< ((56 : Int32) &&& 0x3f).toInt64) - (1 : Int64)) ^^^ (-1 : Int64))))), .second] [(.int (1 : Int32)), (.ref ob1), (.long x13), (.long (vof (((wrd x13) &&& (((1 : Int64) <<< ((56 : Int32) &&& 0x3f).toInt64) - (1 : Int64))) ||| (q2 &&& ((((1 : Int64) <<< ((56 : Int32) &&& 0x3f).toInt64) - (1 : Int64)) ^^^ (-1 : Int64)))) (7 : Int32)))])
    refine own_go (fun _ => own_laload X30 hx hZ hh30 V_ob1 (j := (1 : Int32)) (v := (.long (10 : Int64))) (by decide) rfl (g := (mkF m 229 #[.val (.int p0), .val (.int p1), .val (.long q2), .second, .val (.ref ob1), .val (.long x13), .second, .val (.int (7 : Int32)), .val (.long (wrd x13)), .second, .val (.long (((1 : Int64) <<< ((56 : Int32) &&& 0x3f).toInt64) - (1 : Int64))), .second, .val (.long (((wrd x13) &&& (((1 : Int64) <<< ((56 : Int32) &&& 0x3f).toInt64) - (1 : Int64))) ||| (q2 &&& ((((1 : Int64) <<< ((56 : Int32) &&& 0x3f).toInt64) - (1 : Int64)) ^^^ (-1 : Int64))))), .second] [(.int (1 : Int32)), (.ref ob1), (.long x13), (.long (vof (((wrd x13) &&& (((1 : Int64) <<< ((56 : Int32) &&& 0x3f).toInt64) - (1 : Int64))) ||| (q2 &&& ((((1 : Int64) <<< ((56 : Int32) &&& 0x3f).toInt64) - (1 : Int64)) ^^^ (-1 : Int64)))) (7 : Int32)))])) rfl rfl (hb hby at_229) _) ?_
    show GG _ _ _ _ _ _ _ T30 (mkF m 230 #[.val (.int p0), .val (.int p1), .val (.long q2), .second, .val (.ref ob1), .val (.long x13), .second, .val (.int (7 : Int32)), .val (.long (wrd x13)), .second, .val (.long (((1 : Int64) <<< ((56 : Int32) &&& 0x3f).toInt64) - (1 : Int64))), .second, .val (.long (((wrd x13) &&& (((1 : Int64) <<< ((56 : Int32) &&& 0x3f).toInt64) - (1 : Int64))) ||| (q2 &&& ((((1 : Int64) <<< ((56 : Int32) &&& 0x3f).toInt64) - (1 : Int64)) ^^^ (-1 : Int64))))), .second] [(.long (10 : Int64)), (.long x13), (.long (vof (((wrd x13) &&& (((1 : Int64) <<< ((56 : Int32) &&& 0x3f).toInt64) - (1 : Int64))) ||| (q2 &&& ((((1 : Int64) <<< ((56 : Int32) &&& 0x3f).toInt64) - (1 : Int64)) ^^^ (-1 : Int64)))) (7 : Int32)))])
    refine own_go (fun _ => XS.ldiv X30.here hx rfl (hb hby at_230) rfl (by decide)) ?_
    show GG _ _ _ _ _ _ _ T30 (mkF m 231 #[.val (.int p0), .val (.int p1), .val (.long q2), .second, .val (.ref ob1), .val (.long x13), .second, .val (.int (7 : Int32)), .val (.long (wrd x13)), .second, .val (.long (((1 : Int64) <<< ((56 : Int32) &&& 0x3f).toInt64) - (1 : Int64))), .second, .val (.long (((wrd x13) &&& (((1 : Int64) <<< ((56 : Int32) &&& 0x3f).toInt64) - (1 : Int64))) ||| (q2 &&& ((((1 : Int64) <<< ((56 : Int32) &&& 0x3f).toInt64) - (1 : Int64)) ^^^ (-1 : Int64))))), .second] [(.long (x13 / (10 : Int64))), (.long (vof (((wrd x13) &&& (((1 : Int64) <<< ((56 : Int32) &&& 0x3f).toInt64) - (1 : Int64))) ||| (q2 &&& ((((1 : Int64) <<< ((56 : Int32) &&& 0x3f).toInt64) - (1 : Int64)) ^^^ (-1 : Int64)))) (7 : Int32)))])
    refine own_go (fun _ => XS.lcmp X30.here hx rfl (hb hby at_231) rfl) ?_
    show GG _ _ _ _ _ _ _ T30 (mkF m 232 #[.val (.int p0), .val (.int p1), .val (.long q2), .second, .val (.ref ob1), .val (.long x13), .second, .val (.int (7 : Int32)), .val (.long (wrd x13)), .second, .val (.long (((1 : Int64) <<< ((56 : Int32) &&& 0x3f).toInt64) - (1 : Int64))), .second, .val (.long (((wrd x13) &&& (((1 : Int64) <<< ((56 : Int32) &&& 0x3f).toInt64) - (1 : Int64))) ||| (q2 &&& ((((1 : Int64) <<< ((56 : Int32) &&& 0x3f).toInt64) - (1 : Int64)) ^^^ (-1 : Int64))))), .second] [(.int (lcmpW (vof (((wrd x13) &&& (((1 : Int64) <<< ((56 : Int32) &&& 0x3f).toInt64) - (1 : Int64))) ||| (q2 &&& ((((1 : Int64) <<< ((56 : Int32) &&& 0x3f).toInt64) - (1 : Int64)) ^^^ (-1 : Int64)))) (7 : Int32)) (x13 / (10 : Int64))))])
    have hc232 : (vof (((wrd x13) &&& (((1 : Int64) <<< ((56 : Int32) &&& 0x3f).toInt64) - (1 : Int64))) ||| (q2 &&& ((((1 : Int64) <<< ((56 : Int32) &&& 0x3f).toInt64) - (1 : Int64)) ^^^ (-1 : Int64)))) (7 : Int32)) = (x13 / (10 : Int64)) := own_fin7 x13 _ hx0.1 hx0.2
    refine own_go (fun _ => XS.ifNo X30.here hx rfl (hb hby at_232) rfl ((if0 _ _).trans (teq ((lw_eq _ _).mpr hc232)).2)) ?_
    show GG _ _ _ _ _ _ _ T30 (mkF m 235 #[.val (.int p0), .val (.int p1), .val (.long q2), .second, .val (.ref ob1), .val (.long x13), .second, .val (.int (7 : Int32)), .val (.long (wrd x13)), .second, .val (.long (((1 : Int64) <<< ((56 : Int32) &&& 0x3f).toInt64) - (1 : Int64))), .second, .val (.long (((wrd x13) &&& (((1 : Int64) <<< ((56 : Int32) &&& 0x3f).toInt64) - (1 : Int64))) ||| (q2 &&& ((((1 : Int64) <<< ((56 : Int32) &&& 0x3f).toInt64) - (1 : Int64)) ^^^ (-1 : Int64))))), .second] [])
    refine own_go (fun _ => XS.iconst X30.here hx rfl (hb hby at_235)) ?_
    show GG _ _ _ _ _ _ _ T30 (mkF m 236 #[.val (.int p0), .val (.int p1), .val (.long q2), .second, .val (.ref ob1), .val (.long x13), .second, .val (.int (7 : Int32)), .val (.long (wrd x13)), .second, .val (.long (((1 : Int64) <<< ((56 : Int32) &&& 0x3f).toInt64) - (1 : Int64))), .second, .val (.long (((wrd x13) &&& (((1 : Int64) <<< ((56 : Int32) &&& 0x3f).toInt64) - (1 : Int64))) ||| (q2 &&& ((((1 : Int64) <<< ((56 : Int32) &&& 0x3f).toInt64) - (1 : Int64)) ^^^ (-1 : Int64))))), .second] [(.int (1 : Int32))])
    refine own_go (fun _ => XS.goto X30.here hx rfl (pc0 := 236) (pc' := 240) rfl (hb hby at_236) (by decide) (by decide)) ?_
    show GG _ _ _ _ _ _ _ T30 (mkF m 240 #[.val (.int p0), .val (.int p1), .val (.long q2), .second, .val (.ref ob1), .val (.long x13), .second, .val (.int (7 : Int32)), .val (.long (wrd x13)), .second, .val (.long (((1 : Int64) <<< ((56 : Int32) &&& 0x3f).toInt64) - (1 : Int64))), .second, .val (.long (((wrd x13) &&& (((1 : Int64) <<< ((56 : Int32) &&& 0x3f).toInt64) - (1 : Int64))) ||| (q2 &&& ((((1 : Int64) <<< ((56 : Int32) &&& 0x3f).toInt64) - (1 : Int64)) ^^^ (-1 : Int64))))), .second] [(.int (1 : Int32))])
    refine own_ret X30 hx hlk (t := .boolean) (w := (.int (1 : Int32))) Bd.returns rfl (Or.inl ⟨rfl, by simp, _, rfl⟩) (hb hby at_240) (by decide) (by decide) ?_
    show Q0 Z p0 p1 q2 h0 n0 (some (.int (1 : Int32))) T30.heap _
    rw [hh30]
    exact ⟨rfl, N30⟩
  · skip
    subst h8
    show GG _ _ _ _ _ _ _ T23 (mkF m 173 #[.val (.int p0), .val (.int p1), .val (.long q2), .second, .val (.ref ob1), .val (.long x13), .second, .val (.int (8 : Int32)), .val (.long (wrd x13)), .second, .unset, .unset, .unset, .unset] [])
    refine own_go (fun _ => XS.iload X23.here hx rfl (hb hby at_173) rfl) ?_
    show GG _ _ _ _ _ _ _ T23 (mkF m 175 #[.val (.int p0), .val (.int p1), .val (.long q2), .second, .val (.ref ob1), .val (.long x13), .second, .val (.int (8 : Int32)), .val (.long (wrd x13)), .second, .unset, .unset, .unset, .unset] [(.int (8 : Int32))])
    refine own_go (fun _ => XS.bipush X23.here hx rfl (hb hby at_175)) ?_
    show GG _ _ _ _ _ _ _ T23 (mkF m 177 #[.val (.int p0), .val (.int p1), .val (.long q2), .second, .val (.ref ob1), .val (.long x13), .second, .val (.int (8 : Int32)), .val (.long (wrd x13)), .second, .unset, .unset, .unset, .unset] [(.int (8 : Int32)), (.int (8 : Int32))])
    have hc177 : (8 : Int32) = (8 : Int32) := by decide
    refine own_go (fun _ => XS.icmpNo X23.here hx rfl (hb hby at_177) rfl (teq hc177).2) ?_
    show GG _ _ _ _ _ _ _ T23 (mkF m 180 #[.val (.int p0), .val (.int p1), .val (.long q2), .second, .val (.ref ob1), .val (.long x13), .second, .val (.int (8 : Int32)), .val (.long (wrd x13)), .second, .unset, .unset, .unset, .unset] [])
    refine own_go (fun _ => X23.ldc2Long hx hown (mvT hZ (hw _ (List.mem_of_getElem? (i := 15) rfl))) (g := (mkF m 180 #[.val (.int p0), .val (.int p1), .val (.long q2), .second, .val (.ref ob1), .val (.long x13), .second, .val (.int (8 : Int32)), .val (.long (wrd x13)), .second, .unset, .unset, .unset, .unset] [])) rfl (hb hby at_180) _) ?_
    show GG _ _ _ _ _ _ _ T23 (mkF m 183 #[.val (.int p0), .val (.int p1), .val (.long q2), .second, .val (.ref ob1), .val (.long x13), .second, .val (.int (8 : Int32)), .val (.long (wrd x13)), .second, .unset, .unset, .unset, .unset] [(.long (-1 : Int64))])
    refine own_go (fun _ => XS.goto X23.here hx rfl (pc0 := 183) (pc' := 195) rfl (hb hby at_183) (by decide) (by decide)) ?_
    show GG _ _ _ _ _ _ _ T23 (mkF m 195 #[.val (.int p0), .val (.int p1), .val (.long q2), .second, .val (.ref ob1), .val (.long x13), .second, .val (.int (8 : Int32)), .val (.long (wrd x13)), .second, .unset, .unset, .unset, .unset] [(.long (-1 : Int64))])
    refine own_go (fun _ => XS.lstore X23.here hx rfl (hb hby at_195) rfl (l' := #[.val (.int p0), .val (.int p1), .val (.long q2), .second, .val (.ref ob1), .val (.long x13), .second, .val (.int (8 : Int32)), .val (.long (wrd x13)), .second, .val (.long (-1 : Int64)), .second, .unset, .unset]) rfl) ?_
    show GG _ _ _ _ _ _ _ T23 (mkF m 197 #[.val (.int p0), .val (.int p1), .val (.long q2), .second, .val (.ref ob1), .val (.long x13), .second, .val (.int (8 : Int32)), .val (.long (wrd x13)), .second, .val (.long (-1 : Int64)), .second, .unset, .unset] [])
    refine own_go (fun _ => XS.lload X23.here hx rfl (hb hby at_197) rfl) ?_
    show GG _ _ _ _ _ _ _ T23 (mkF m 199 #[.val (.int p0), .val (.int p1), .val (.long q2), .second, .val (.ref ob1), .val (.long x13), .second, .val (.int (8 : Int32)), .val (.long (wrd x13)), .second, .val (.long (-1 : Int64)), .second, .unset, .unset] [(.long (wrd x13))])
    refine own_go (fun _ => XS.lload X23.here hx rfl (hb hby at_199) rfl) ?_
    show GG _ _ _ _ _ _ _ T23 (mkF m 201 #[.val (.int p0), .val (.int p1), .val (.long q2), .second, .val (.ref ob1), .val (.long x13), .second, .val (.int (8 : Int32)), .val (.long (wrd x13)), .second, .val (.long (-1 : Int64)), .second, .unset, .unset] [(.long (-1 : Int64)), (.long (wrd x13))])
    refine own_go (fun _ => XS.land X23.here hx rfl (hb hby at_201) rfl) ?_
    show GG _ _ _ _ _ _ _ T23 (mkF m 202 #[.val (.int p0), .val (.int p1), .val (.long q2), .second, .val (.ref ob1), .val (.long x13), .second, .val (.int (8 : Int32)), .val (.long (wrd x13)), .second, .val (.long (-1 : Int64)), .second, .unset, .unset] [(.long ((wrd x13) &&& (-1 : Int64)))])
    refine own_go (fun _ => XS.lloadN X23.here hx rfl (hb hby at_202) rfl) ?_
    show GG _ _ _ _ _ _ _ T23 (mkF m 203 #[.val (.int p0), .val (.int p1), .val (.long q2), .second, .val (.ref ob1), .val (.long x13), .second, .val (.int (8 : Int32)), .val (.long (wrd x13)), .second, .val (.long (-1 : Int64)), .second, .unset, .unset] [(.long q2), (.long ((wrd x13) &&& (-1 : Int64)))])
    refine own_go (fun _ => XS.lload X23.here hx rfl (hb hby at_203) rfl) ?_
    show GG _ _ _ _ _ _ _ T23 (mkF m 205 #[.val (.int p0), .val (.int p1), .val (.long q2), .second, .val (.ref ob1), .val (.long x13), .second, .val (.int (8 : Int32)), .val (.long (wrd x13)), .second, .val (.long (-1 : Int64)), .second, .unset, .unset] [(.long (-1 : Int64)), (.long q2), (.long ((wrd x13) &&& (-1 : Int64)))])
    refine own_go (fun _ => X23.ldc2Long hx hown (mvT hZ (hw _ (List.mem_of_getElem? (i := 15) rfl))) (g := (mkF m 205 #[.val (.int p0), .val (.int p1), .val (.long q2), .second, .val (.ref ob1), .val (.long x13), .second, .val (.int (8 : Int32)), .val (.long (wrd x13)), .second, .val (.long (-1 : Int64)), .second, .unset, .unset] [(.long (-1 : Int64)), (.long q2), (.long ((wrd x13) &&& (-1 : Int64)))])) rfl (hb hby at_205) _) ?_
    show GG _ _ _ _ _ _ _ T23 (mkF m 208 #[.val (.int p0), .val (.int p1), .val (.long q2), .second, .val (.ref ob1), .val (.long x13), .second, .val (.int (8 : Int32)), .val (.long (wrd x13)), .second, .val (.long (-1 : Int64)), .second, .unset, .unset] [(.long (-1 : Int64)), (.long (-1 : Int64)), (.long q2), (.long ((wrd x13) &&& (-1 : Int64)))])
    refine own_go (fun _ => XS.lxor X23.here hx rfl (hb hby at_208) rfl) ?_
    show GG _ _ _ _ _ _ _ T23 (mkF m 209 #[.val (.int p0), .val (.int p1), .val (.long q2), .second, .val (.ref ob1), .val (.long x13), .second, .val (.int (8 : Int32)), .val (.long (wrd x13)), .second, .val (.long (-1 : Int64)), .second, .unset, .unset] [(.long (0 : Int64)), (.long q2), (.long ((wrd x13) &&& (-1 : Int64)))])
    refine own_go (fun _ => XS.land X23.here hx rfl (hb hby at_209) rfl) ?_
    show GG _ _ _ _ _ _ _ T23 (mkF m 210 #[.val (.int p0), .val (.int p1), .val (.long q2), .second, .val (.ref ob1), .val (.long x13), .second, .val (.int (8 : Int32)), .val (.long (wrd x13)), .second, .val (.long (-1 : Int64)), .second, .unset, .unset] [(.long (q2 &&& (0 : Int64))), (.long ((wrd x13) &&& (-1 : Int64)))])
    refine own_go (fun _ => XS.lor X23.here hx rfl (hb hby at_210) rfl) ?_
    show GG _ _ _ _ _ _ _ T23 (mkF m 211 #[.val (.int p0), .val (.int p1), .val (.long q2), .second, .val (.ref ob1), .val (.long x13), .second, .val (.int (8 : Int32)), .val (.long (wrd x13)), .second, .val (.long (-1 : Int64)), .second, .unset, .unset] [(.long (((wrd x13) &&& (-1 : Int64)) ||| (q2 &&& (0 : Int64))))])
    refine own_go (fun _ => XS.lstore X23.here hx rfl (hb hby at_211) rfl (l' := #[.val (.int p0), .val (.int p1), .val (.long q2), .second, .val (.ref ob1), .val (.long x13), .second, .val (.int (8 : Int32)), .val (.long (wrd x13)), .second, .val (.long (-1 : Int64)), .second, .val (.long (((wrd x13) &&& (-1 : Int64)) ||| (q2 &&& (0 : Int64)))), .second]) rfl) ?_
    show GG _ _ _ _ _ _ _ T23 (mkF m 213 #[.val (.int p0), .val (.int p1), .val (.long q2), .second, .val (.ref ob1), .val (.long x13), .second, .val (.int (8 : Int32)), .val (.long (wrd x13)), .second, .val (.long (-1 : Int64)), .second, .val (.long (((wrd x13) &&& (-1 : Int64)) ||| (q2 &&& (0 : Int64)))), .second] [])
    refine own_go (fun _ => XS.lload X23.here hx rfl (hb hby at_213) rfl) ?_
    show GG _ _ _ _ _ _ _ T23 (mkF m 215 #[.val (.int p0), .val (.int p1), .val (.long q2), .second, .val (.ref ob1), .val (.long x13), .second, .val (.int (8 : Int32)), .val (.long (wrd x13)), .second, .val (.long (-1 : Int64)), .second, .val (.long (((wrd x13) &&& (-1 : Int64)) ||| (q2 &&& (0 : Int64)))), .second] [(.long (((wrd x13) &&& (-1 : Int64)) ||| (q2 &&& (0 : Int64))))])
    refine own_go (fun _ => XS.iload X23.here hx rfl (hb hby at_215) rfl) ?_
    show GG _ _ _ _ _ _ _ T23 (mkF m 217 #[.val (.int p0), .val (.int p1), .val (.long q2), .second, .val (.ref ob1), .val (.long x13), .second, .val (.int (8 : Int32)), .val (.long (wrd x13)), .second, .val (.long (-1 : Int64)), .second, .val (.long (((wrd x13) &&& (-1 : Int64)) ||| (q2 &&& (0 : Int64)))), .second] [(.int (8 : Int32)), (.long (((wrd x13) &&& (-1 : Int64)) ||| (q2 &&& (0 : Int64))))])
    refine own_callS X23 hx hZ (y := (⟨"com/example/breakwater/breakwater/model/Digits", "valueOf", "(JI)J"⟩ : MethodName)) 0 hown (hw _ (List.mem_of_getElem? (i := 16) rfl)) (hw _ (List.mem_of_getElem? (i := 17) rfl)) (hw _ (List.mem_of_getElem? (i := 18) rfl)) (hw _ (List.mem_of_getElem? (i := 19) rfl)) (by decide) (argsL := [(.long (((wrd x13) &&& (-1 : Int64)) ||| (q2 &&& (0 : Int64)))), (.int (8 : Int32))]) (rest := []) (rm2 l Z a0 hw [] (((wrd x13) &&& (-1 : Int64)) ||| (q2 &&& (0 : Int64))) (8 : Int32) h10 n0 (Nat.le_trans Z0 K0.1)) (by decide) (by decide) (by decide) (by decide) (g := (mkF m 217 #[.val (.int p0), .val (.int p1), .val (.long q2), .second, .val (.ref ob1), .val (.long x13), .second, .val (.int (8 : Int32)), .val (.long (wrd x13)), .second, .val (.long (-1 : Int64)), .second, .val (.long (((wrd x13) &&& (-1 : Int64)) ||| (q2 &&& (0 : Int64)))), .second] [(.int (8 : Int32)), (.long (((wrd x13) &&& (-1 : Int64)) ||| (q2 &&& (0 : Int64))))])) rfl (by rw [hml]; rfl) (lenOf pd__JI_J_302 rfl) rfl (by show 2 * 0 + _ ≤ _; exact Nat.le_of_eq rfl) (hb hby at_217) hh23 ?_
    rintro v31 T31 L31 X31 ⟨rfl, N31q, hh31⟩
    have N31 := Fr.app N23 N31q
    show GG _ _ _ _ _ _ _ T31 (mkF m 220 #[.val (.int p0), .val (.int p1), .val (.long q2), .second, .val (.ref ob1), .val (.long x13), .second, .val (.int (8 : Int32)), .val (.long (wrd x13)), .second, .val (.long (-1 : Int64)), .second, .val (.long (((wrd x13) &&& (-1 : Int64)) ||| (q2 &&& (0 : Int64)))), .second] [(.long (vof (((wrd x13) &&& (-1 : Int64)) ||| (q2 &&& (0 : Int64))) (8 : Int32)))])
    refine own_go (fun _ => XS.lload X31.here hx rfl (hb hby at_220) rfl) ?_
    show GG _ _ _ _ _ _ _ T31 (mkF m 222 #[.val (.int p0), .val (.int p1), .val (.long q2), .second, .val (.ref ob1), .val (.long x13), .second, .val (.int (8 : Int32)), .val (.long (wrd x13)), .second, .val (.long (-1 : Int64)), .second, .val (.long (((wrd x13) &&& (-1 : Int64)) ||| (q2 &&& (0 : Int64)))), .second] [(.long x13), (.long (vof (((wrd x13) &&& (-1 : Int64)) ||| (q2 &&& (0 : Int64))) (8 : Int32)))])
    refine own_go (fun _ => XS.aload X31.here hx rfl (hb hby at_222) rfl rfl) ?_
    show GG _ _ _ _ _ _ _ T31 (mkF m 224 #[.val (.int p0), .val (.int p1), .val (.long q2), .second, .val (.ref ob1), .val (.long x13), .second, .val (.int (8 : Int32)), .val (.long (wrd x13)), .second, .val (.long (-1 : Int64)), .second, .val (.long (((wrd x13) &&& (-1 : Int64)) ||| (q2 &&& (0 : Int64)))), .second] [(.ref ob1), (.long x13), (.long (vof (((wrd x13) &&& (-1 : Int64)) ||| (q2 &&& (0 : Int64))) (8 : Int32)))])
    refine own_go (fun _ => XS.bipush X31.here hx rfl (hb hby at_224)) ?_
    show GG _ _ _ _ _ _ _ T31 (mkF m 226 #[.val (.int p0), .val (.int p1), .val (.long q2), .second, .val (.ref ob1), .val (.long x13), .second, .val (.int (8 : Int32)), .val (.long (wrd x13)), .second, .val (.long (-1 : Int64)), .second, .val (.long (((wrd x13) &&& (-1 : Int64)) ||| (q2 &&& (0 : Int64)))), .second] [(.int (8 : Int32)), (.ref ob1), (.long x13), (.long (vof (((wrd x13) &&& (-1 : Int64)) ||| (q2 &&& (0 : Int64))) (8 : Int32)))])
    refine own_go (fun _ => XS.iload X31.here hx rfl (hb hby at_226) rfl) ?_
    show GG _ _ _ _ _ _ _ T31 (mkF m 228 #[.val (.int p0), .val (.int p1), .val (.long q2), .second, .val (.ref ob1), .val (.long x13), .second, .val (.int (8 : Int32)), .val (.long (wrd x13)), .second, .val (.long (-1 : Int64)), .second, .val (.long (((wrd x13) &&& (-1 : Int64)) ||| (q2 &&& (0 : Int64)))), .second] [(.int (8 : Int32)), (.int (8 : Int32)), (.ref ob1), (.long x13), (.long (vof (((wrd x13) &&& (-1 : Int64)) ||| (q2 &&& (0 : Int64))) (8 : Int32)))])
    refine own_go (fun _ => XS.isub X31.here hx rfl (hb hby at_228) rfl) ?_
    show GG _ _ _ _ _ _ _ T31 (mkF m 229 #[.val (.int p0), .val (.int p1), .val (.long q2), .second, .val (.ref ob1), .val (.long x13), .second, .val (.int (8 : Int32)), .val (.long (wrd x13)), .second, .val (.long (-1 : Int64)), .second, .val (.long (((wrd x13) &&& (-1 : Int64)) ||| (q2 &&& (0 : Int64)))), .second] [(.int (0 : Int32)), (.ref ob1), (.long x13), (.long (vof (((wrd x13) &&& (-1 : Int64)) ||| (q2 &&& (0 : Int64))) (8 : Int32)))])
    refine own_go (fun _ => own_laload X31 hx hZ hh31 V_ob1 (j := (0 : Int32)) (v := (.long (1 : Int64))) (by decide) rfl (g := (mkF m 229 #[.val (.int p0), .val (.int p1), .val (.long q2), .second, .val (.ref ob1), .val (.long x13), .second, .val (.int (8 : Int32)), .val (.long (wrd x13)), .second, .val (.long (-1 : Int64)), .second, .val (.long (((wrd x13) &&& (-1 : Int64)) ||| (q2 &&& (0 : Int64)))), .second] [(.int (0 : Int32)), (.ref ob1), (.long x13), (.long (vof (((wrd x13) &&& (-1 : Int64)) ||| (q2 &&& (0 : Int64))) (8 : Int32)))])) rfl rfl (hb hby at_229) _) ?_
    show GG _ _ _ _ _ _ _ T31 (mkF m 230 #[.val (.int p0), .val (.int p1), .val (.long q2), .second, .val (.ref ob1), .val (.long x13), .second, .val (.int (8 : Int32)), .val (.long (wrd x13)), .second, .val (.long (-1 : Int64)), .second, .val (.long (((wrd x13) &&& (-1 : Int64)) ||| (q2 &&& (0 : Int64)))), .second] [(.long (1 : Int64)), (.long x13), (.long (vof (((wrd x13) &&& (-1 : Int64)) ||| (q2 &&& (0 : Int64))) (8 : Int32)))])
    refine own_go (fun _ => XS.ldiv X31.here hx rfl (hb hby at_230) rfl (by decide)) ?_
    show GG _ _ _ _ _ _ _ T31 (mkF m 231 #[.val (.int p0), .val (.int p1), .val (.long q2), .second, .val (.ref ob1), .val (.long x13), .second, .val (.int (8 : Int32)), .val (.long (wrd x13)), .second, .val (.long (-1 : Int64)), .second, .val (.long (((wrd x13) &&& (-1 : Int64)) ||| (q2 &&& (0 : Int64)))), .second] [(.long (x13 / (1 : Int64))), (.long (vof (((wrd x13) &&& (-1 : Int64)) ||| (q2 &&& (0 : Int64))) (8 : Int32)))])
    refine own_go (fun _ => XS.lcmp X31.here hx rfl (hb hby at_231) rfl) ?_
    show GG _ _ _ _ _ _ _ T31 (mkF m 232 #[.val (.int p0), .val (.int p1), .val (.long q2), .second, .val (.ref ob1), .val (.long x13), .second, .val (.int (8 : Int32)), .val (.long (wrd x13)), .second, .val (.long (-1 : Int64)), .second, .val (.long (((wrd x13) &&& (-1 : Int64)) ||| (q2 &&& (0 : Int64)))), .second] [(.int (lcmpW (vof (((wrd x13) &&& (-1 : Int64)) ||| (q2 &&& (0 : Int64))) (8 : Int32)) (x13 / (1 : Int64))))])
    have hc232 : (vof (((wrd x13) &&& (-1 : Int64)) ||| (q2 &&& (0 : Int64))) (8 : Int32)) = (x13 / (1 : Int64)) := own_fin8 x13 _ hx0.1 hx0.2
    refine own_go (fun _ => XS.ifNo X31.here hx rfl (hb hby at_232) rfl ((if0 _ _).trans (teq ((lw_eq _ _).mpr hc232)).2)) ?_
    show GG _ _ _ _ _ _ _ T31 (mkF m 235 #[.val (.int p0), .val (.int p1), .val (.long q2), .second, .val (.ref ob1), .val (.long x13), .second, .val (.int (8 : Int32)), .val (.long (wrd x13)), .second, .val (.long (-1 : Int64)), .second, .val (.long (((wrd x13) &&& (-1 : Int64)) ||| (q2 &&& (0 : Int64)))), .second] [])
    refine own_go (fun _ => XS.iconst X31.here hx rfl (hb hby at_235)) ?_
    show GG _ _ _ _ _ _ _ T31 (mkF m 236 #[.val (.int p0), .val (.int p1), .val (.long q2), .second, .val (.ref ob1), .val (.long x13), .second, .val (.int (8 : Int32)), .val (.long (wrd x13)), .second, .val (.long (-1 : Int64)), .second, .val (.long (((wrd x13) &&& (-1 : Int64)) ||| (q2 &&& (0 : Int64)))), .second] [(.int (1 : Int32))])
    refine own_go (fun _ => XS.goto X31.here hx rfl (pc0 := 236) (pc' := 240) rfl (hb hby at_236) (by decide) (by decide)) ?_
    show GG _ _ _ _ _ _ _ T31 (mkF m 240 #[.val (.int p0), .val (.int p1), .val (.long q2), .second, .val (.ref ob1), .val (.long x13), .second, .val (.int (8 : Int32)), .val (.long (wrd x13)), .second, .val (.long (-1 : Int64)), .second, .val (.long (((wrd x13) &&& (-1 : Int64)) ||| (q2 &&& (0 : Int64)))), .second] [(.int (1 : Int32))])
    refine own_ret X31 hx hlk (t := .boolean) (w := (.int (1 : Int32))) Bd.returns rfl (Or.inl ⟨rfl, by simp, _, rfl⟩) (hb hby at_240) (by decide) (by decide) ?_
    show Q0 Z p0 p1 q2 h0 n0 (some (.int (1 : Int32))) T31.heap _
    rw [hh31]
    exact ⟨rfl, N31⟩
set_option maxRecDepth 65536 in
set_option maxHeartbeats 40000000 in
theorem comes_1 {Post : Tables → Env → Array Value → State → Outcome → State → Prop} (hpost : ∀ tb e args s v u, (limb_1_1.after args s (.returned v) u = true ∧ limb_1_2.after args s (.returned v) u = true ∧ True) → FrameEnd s (.returned v) u (Jvm.fieldLocs frame_1_writes args s ++ Jvm.arrayLocs frame_1_arrays args s ++ Jvm.staticLocs frame_1_statics s) 16 128 → Post tb e args s (.returned v) u) :
    ArmFor flags0 classFile x code maxLocals ret World_1 tables_1 room_1 Calls_1 rest_1 Pre_1 Post := by
  intro l hfl _ _ p e ha hc hk s m args below hf hA hF happ hP
  obtain ⟨hcalls, hrest, hpre⟩ := hP
  obtain ⟨-, -, -, hnamed, -, -, -, hat⟩ := (Spec.applies_iff hf).mp happ
  obtain ⟨hg, hn⟩ := and_e (Cond.before_iff.mp (show (Jvm.Cond.and given_1 narrow_1).before args s = true from hpre))
  obtain ⟨g1, g2⟩ := and_e hg
  obtain ⟨g3, g4⟩ := and_e g2
  obtain ⟨g5, g6⟩ := and_e g4
  obtain ⟨w0, w1, w2, rfl⟩ : ∃ w0 w1 w2 : Value, args = #[w0, w1, w2] := by
    have hs : args.size = 3 := by simpa [Cond.value, given_1] using g1
    obtain ⟨L⟩ := args
    match L, hs with
    | [w0, w1, w2], _ => exact ⟨w0, w1, w2, rfl⟩
  have hw := fun d (hd : d ∈ tables_1) => atoms_spec (ws := Jvm.Cond.code x code maxLocals ret :: tables_1) hat d (List.mem_cons_of_mem _ hd)
  have hfit : Fit s := fun {y c} hc i hi => by
    obtain ⟨ha, rfl⟩ := Array.getElem?_eq_some_iff.mp hc
    have q := List.all_eq_true.mp ((Array.all_eq_true_iff_forall_mem.mp hF) _ (Array.getElem_mem ha)) i (List.mem_range.mpr hi)
    simpa [Array.getElem?_eq_getElem hi] using q
  obtain ⟨i0, ei0⟩ := is_v g3
  obtain rfl : w0 = (.int i0) := Option.some.inj ei0
  obtain ⟨i1, ei1⟩ := is_v g5
  obtain rfl : w1 = (.int i1) := Option.some.inj ei1
  obtain ⟨i2, ei2⟩ := isL_v g6
  obtain rfl : w2 = (.long i2) := Option.some.inj ei2
  obtain ⟨n, o, h1, h2, h3, _, L, rfl, ⟨rfl, N⟩, hq⟩ := rm0 l s _ hw tables_1 i0 i1 i2 s.heap s.heap.size (Nat.le_refl _)  p e ha hc hk s m _ below hf ((Spec.applies_iff_loose hf).mp happ).1 ⟨rfl, State.Warmed39.refl s, rfl⟩ trivial
  refine ⟨n, _, h1, h2, h3, hpost _ _ _ _ _ _ ⟨Cond.after_iff.mpr rfl, Cond.after_iff.mpr (eq_i res_at (Term.int_eval (1)) rfl), trivial⟩ ⟨hq.1, hq.2.1, (hq.2.2.sift fun y hy => Or.inr (N y hy)).mono (by decide) (by decide)⟩⟩
theorem main_1_1 : Claimed_1_1 := comes_1 fun _ _ _ _ _ _ h hF => ⟨h.1, hF⟩
theorem main_1_2 : Claimed_1_2 := comes_1 fun _ _ _ _ _ _ h hF => ⟨h.2.1, hF⟩
end Jvm.Pilot.@@N@@
namespace Jvm.Pilot.@@N@@
open Jvm Jvm.ClassFile Sem Op Lib Jvm.Free Jvm.Stand Jvm.Pilot.@@N@@.Jvm.D
/-! MADE BY PROGRAM (witnessworld.py) out of the Statement's table words and the real class files: 11 classes; the members and pool entries that the words name. The judged class is class 1, her method 2. -/
namespace start1
open Jvm.ClassFile
def u (s : String) : CpInfo := .utf8 (stringToUtf16 s)
/-- a pool by its gaps: so many unusable entries, then the entry; so many at the end -/
def gap : Nat → List CpInfo → List CpInfo
  | 0, r => r
  | n + 1, r => .unusable :: gap n r
def poolList (es : List (Nat × CpInfo)) (last : Nat) : List CpInfo := es.foldr (fun e r => gap e.1 (e.2 :: r)) (gap last [])
def pool (es : List (Nat × CpInfo)) (last : Nat) : Array CpInfo := ⟨poolList es last⟩
def fileOf (pool : Array CpInfo) (this : Nat) (attrs : Array Attribute := #[]) (ms : Array MethodInfo := #[]) (fl : Nat := 33) (sup : Nat := 0) (ifs : Array Nat := #[]) (fds : Array FieldInfo := #[]) : ClassFile where
  minorVersion := 0
  majorVersion := 65
  constantPool := pool
  accessFlags := fl
  thisClass := this
  superClass := sup
  interfaces := ifs
  fields := fds
  methods := ms
  attributes := attrs
def plain (name : String) (sup : Option ClassId) : Class where
  name := name
  kind := .ordinary
  loader := none
  accessFlags := 33
  super := sup
  interfaces := #[]
  cf := none
  fields := #[]
  methods := #[]
  instanceTypes := #[]
  staticTypes := #[]
  resolved := #[]
  callSites := []
  init := .initialized
  statics := none
  mirror := none

def pool0 : Array CpInfo := pool [(5, u "<init>"), (0, u "()V"), (1, .class_ 10), (1, u "java/lang/Object")] 113

def k0m0 : Method := { name := "<init>", desc := "()V", sig := { parameters := [], returnType := none }, accessFlags := 1, code := none }
/-- java/lang/Object -/
def k0 : Class := { plain "java/lang/Object" none with
  accessFlags := 33
  interfaces := #[]
  cf := some (fileOf pool0 8 #[] #[{ accessFlags := 1, nameIndex := 5, descriptorIndex := 6, attributes := #[] }] 33 0 #[] #[])
  fields := #[]
  methods := #[k0m0]
  instanceTypes := #[]
  staticTypes := #[]
  resolved := Array.replicate 124 none
  statics := none }

def pool1 : Array CpInfo := pool [(2, .class_ 4), (1, u "java/lang/Object"), (0, u "<init>"), (0, u "()V"), (0, .long 10), (1, .long 48), (1, .long 100), (1, .long 1000), (1, .long 10000), (1, .long 100000), (1, .long 1000000), (1, .long 10000000), (1, .long 100000000), (1, .integer 2147483647), (0, .methodref 27 28), (0, .class_ 29), (0, .nameAndType 30 31), (0, u "com/example/breakwater/breakwater/model/DigitsValueOfPinLaw"), (0, u "digitByte"), (0, u "(JJI)J"), (0, .long 18446744073709551615), (1, .methodref 35 36), (0, .class_ 37), (0, .nameAndType 38 39), (0, u "com/example/breakwater/breakwater/model/Digits"), (0, u "valueOf"), (0, u "(JI)J"), (2, u "law"), (0, u "(IIJ)Z")] 5

def k1m0 : Method := { name := "<init>", desc := "()V", sig := { parameters := [], returnType := none }, accessFlags := 2, code := none }
def k1c1 : Code := { maxStack := 4, maxLocals := 7, code := method_2_code, exceptionTable := #[], attributes := #[] }
def k1m1 : Method := { name := "digitByte", desc := "(JJI)J", sig := { parameters := [.long, .long, .int], returnType := some .long }, accessFlags := 10, code := some k1c1 }
def k1c2 : Code := { maxStack := 8, maxLocals := 14, code := code, exceptionTable := #[], attributes := #[] }
def k1m2 : Method := { name := "law", desc := "(IIJ)Z", sig := { parameters := [.int, .int, .long], returnType := some .boolean }, accessFlags := 9, code := some k1c2 }
/-- com/example/breakwater/breakwater/model/DigitsValueOfPinLaw -/
def k1 : Class := { plain "com/example/breakwater/breakwater/model/DigitsValueOfPinLaw" (some 0) with
  accessFlags := 49
  interfaces := #[]
  cf := some (fileOf pool1 27 #[] #[{ accessFlags := 2, nameIndex := 5, descriptorIndex := 6, attributes := #[] }, { accessFlags := 10, nameIndex := 30, descriptorIndex := 31, attributes := #[] }, { accessFlags := 9, nameIndex := 42, descriptorIndex := 43, attributes := #[] }] 49 2 #[] #[])
  fields := #[]
  methods := #[k1m0, k1m1, k1m2]
  instanceTypes := #[]
  staticTypes := #[]
  resolved := Array.replicate 49 none
  statics := none }

def pool2 : Array CpInfo := pool [(2, .class_ 4), (1, u "java/lang/Object"), (0, u "<init>"), (0, u "()V"), (10, .class_ 19), (1, u "com/example/breakwater/breakwater/model/Digits"), (13, u "POWERS_OF_TEN"), (0, u "[J"), (0, .long 100), (3, u "SECOND_OF_PAIR"), (0, u "[C"), (2, u "FIRST_OF_PAIR"), (0, .long 10), (3, .long 3472328296227680304), (17, .long 71777214294589695), (1, .long 281470681808895), (1, .long 10000), (1, .long 4294967295), (9, u "LONGEST"), (0, u "I"), (2, u "ZEROS"), (0, u "J"), (0, u "LOW_SEVEN_BITS"), (0, u "PAST_NINE"), (7, u "valueOf"), (0, u "(JI)J")] 20

def k2m0 : Method := { name := "<init>", desc := "()V", sig := { parameters := [], returnType := none }, accessFlags := 2, code := none }
def k2c1 : Code := { maxStack := 5, maxLocals := 5, code := prog_68_method_6_code, exceptionTable := #[], attributes := #[] }
def k2m1 : Method := { name := "valueOf", desc := "(JI)J", sig := { parameters := [.long, .int], returnType := some .long }, accessFlags := 9, code := some k2c1 }
/-- com/example/breakwater/breakwater/model/Digits -/
def k2 : Class := { plain "com/example/breakwater/breakwater/model/Digits" (some 0) with
  accessFlags := 49
  interfaces := #[]
  cf := some (fileOf pool2 17 #[] #[{ accessFlags := 2, nameIndex := 5, descriptorIndex := 6, attributes := #[] }, { accessFlags := 9, nameIndex := 97, descriptorIndex := 98, attributes := #[] }] 49 2 #[] #[{ accessFlags := 25, nameIndex := 82, descriptorIndex := 83, attributes := #[] }, { accessFlags := 26, nameIndex := 33, descriptorIndex := 34, attributes := #[] }, { accessFlags := 26, nameIndex := 43, descriptorIndex := 40, attributes := #[] }, { accessFlags := 26, nameIndex := 39, descriptorIndex := 40, attributes := #[] }, { accessFlags := 26, nameIndex := 86, descriptorIndex := 87, attributes := #[] }, { accessFlags := 26, nameIndex := 88, descriptorIndex := 87, attributes := #[] }, { accessFlags := 26, nameIndex := 89, descriptorIndex := 87, attributes := #[] }])
  fields := #[{ name := "LONGEST", type := .int, accessFlags := 25, slot := 0, constantValue := 0 }, { name := "POWERS_OF_TEN", type := (.array .long), accessFlags := 26, slot := 1, constantValue := 0 }, { name := "FIRST_OF_PAIR", type := (.array .char), accessFlags := 26, slot := 2, constantValue := 0 }, { name := "SECOND_OF_PAIR", type := (.array .char), accessFlags := 26, slot := 3, constantValue := 0 }, { name := "ZEROS", type := .long, accessFlags := 26, slot := 4, constantValue := 0 }, { name := "LOW_SEVEN_BITS", type := .long, accessFlags := 26, slot := 5, constantValue := 0 }, { name := "PAST_NINE", type := .long, accessFlags := 26, slot := 6, constantValue := 0 }]
  methods := #[k2m0, k2m1]
  instanceTypes := #[]
  staticTypes := #[.int, (.array .long), (.array .char), (.array .char), .long, .long, .long]
  resolved := Array.replicate 119 none
  statics := none }

def pool3 : Array CpInfo := pool [(1, u "java/lang/Cloneable"), (0, .class_ 1), (0, u "java/lang/Object"), (0, .class_ 3)] 3

/-- java/lang/Cloneable -/
def k3 : Class := { plain "java/lang/Cloneable" (some 0) with
  accessFlags := 1537
  interfaces := #[]
  cf := some (fileOf pool3 2 #[] #[] 1537 4 #[] #[])
  fields := #[]
  methods := #[]
  instanceTypes := #[]
  staticTypes := #[]
  resolved := Array.replicate 8 none
  statics := none }

def pool4 : Array CpInfo := pool [(1, u "java/io/Serializable"), (0, .class_ 1), (0, u "java/lang/Object"), (0, .class_ 3)] 3

/-- java/io/Serializable -/
def k4 : Class := { plain "java/io/Serializable" (some 0) with
  accessFlags := 1537
  interfaces := #[]
  cf := some (fileOf pool4 2 #[] #[] 1537 4 #[] #[])
  fields := #[]
  methods := #[]
  instanceTypes := #[]
  staticTypes := #[]
  resolved := Array.replicate 8 none
  statics := none }

/-- the primitive byte -/
def k5 : Class := { plain "byte" none with kind := .primitive 'B', accessFlags := 0x411 }
/-- [B -/
def k6 : Class := { plain "[B" (some 0) with kind := .array 5 .byte, interfaces := #[3, 4], accessFlags := 1041 }

/-- the primitive int -/
def k7 : Class := { plain "int" none with kind := .primitive 'I', accessFlags := 0x411 }
/-- [I -/
def k8 : Class := { plain "[I" (some 0) with kind := .array 7 .int, interfaces := #[3, 4], accessFlags := 1041 }

/-- the primitive long -/
def k9 : Class := { plain "long" none with kind := .primitive 'J', accessFlags := 0x411 }
/-- [J -/
def k10 : Class := { plain "[J" (some 0) with kind := .array 9 .long, interfaces := #[3, 4], accessFlags := 1041 }

def heap : Heap := #[]
def classes : Array Class := #[k0, k1, k2, k3, k4, k5, k6, k7, k8, k9, k10]
def interned : List (Array UInt16 × Addr) := []
def slotsUsed : Nat := 0
def theMethod : MethodId := ⟨1, 2⟩
def args0 : Array Value := #[.int 12345678, .int 3, .long 77]
def aboutOver (below : List Frame) : State where
  vm := { classes := classes, interned := interned.toArray }
  heap := heap
  slotsUsed := slotsUsed
  threads := #[{ frames := .invoking theMethod args0 :: below }]
def below0 : List Frame := [.native { method := ⟨0, 0⟩, args := #[] }]
def about1 : State := aboutOver below0
def p0 : Program := .bare "" "" ""
def e0 : Env := launch0.env 0 0 0
theorem w_frames : about1.frames = Frame.invoking theMethod args0 :: below0 := rfl
set_option maxRecDepth 65536 in
theorem w_args : argsFit about1.vm theMethod args0 = true := by decide +kernel
set_option maxRecDepth 65536 in
theorem w_heap : heapFits about1 = true := by decide +kernel
set_option maxRecDepth 65536 in
theorem w_runnable : about1.curStatus? = some .runnable := by decide +kernel
set_option maxRecDepth 65536 in
theorem w_alone : about1.alone = true := by decide +kernel
set_option maxRecDepth 65536 in
theorem w_named : about1.methodNamed? x = some theMethod := by decide +kernel
set_option maxRecDepth 65536 in
theorem w_hears : about1.hears theMethod below0 = true := by decide +kernel
set_option maxRecDepth 65536 in
theorem w_ripe : about1.ripe theMethod args0 below0 = true := by decide +kernel
theorem w_running : about1.status = .running := rfl
set_option maxRecDepth 65536 in
theorem w_room : about1.hasRoom e0.platform room_1 = true :=
  launch0.hasRoom_least _ room_1 (by decide +kernel) (by decide +kernel) (by decide +kernel) (by decide +kernel) (by decide +kernel) (by decide +kernel)
theorem allAtoms_all (ts : List Jvm.Cond) (a : Array Jvm.Value) (st : Jvm.State) : (allAtoms ts).before a st = ts.all (fun c => c.before a st) := by
  induction ts with
  | nil => rfl
  | cons c t ih =>
    show (Jvm.Cond.and c (allAtoms t)).before a st = _
    rw [Jvm.Cond.before_and, ih, List.all_cons]
def words1 : List Jvm.Cond := Jvm.Cond.code x code maxLocals ret :: tables_1
/-- a 'code' word, met by the world's own term for the bytes: nothing is compared byte by byte -/
theorem code_word {y : MethodName} {bytes : ByteArray} {mx : Nat} {rt : Option FieldType} {a : Array Value} {s : State} {m : MethodId} {meth : Method} {c : Code} (h1 : s.methodNamed? y = some m) (h2 : s.vm.method? m = some meth) (h3 : meth.code = some c) (h4 : c.code = bytes)
    (h5 : (c.maxLocals == mx && c.exceptionTable.isEmpty && decide (c.maxStack ≤ mostOperands) && decide (meth.sig.returnType = rt) && !meth.locks && decide (parseMethodDescriptor y.desc = some meth.sig)) = true) : (Jvm.Cond.code y bytes mx rt).before a s = true := by
  simp only [Bool.and_eq_true, beq_iff_eq, Bool.not_eq_true', decide_eq_true_eq] at h5
  obtain ⟨⟨⟨⟨⟨g1, g2⟩, g3⟩, g4⟩, g5⟩, g6⟩ := h5
  simp [Cond.before, Cond.holds, Cond.value, h1, h2, h3, h4, g1, g2, g3, g4, g5, g6]
def isCode : Jvm.Cond → Bool
  | .code _ _ _ _ => true
  | _ => false
theorem all_split {L : List Jvm.Cond} {P : Jvm.Cond → Bool} (h1 : L.all (fun c => isCode c || P c) = true) (h2 : ∀ c ∈ L.filter isCode, P c = true) : L.all P = true := by
  refine List.all_eq_true.mpr fun c hc => ?_
  have h := List.all_eq_true.mp h1 c hc
  rcases Bool.eq_false_or_eq_true (isCode c) with hi | hi
  · exact h2 c (List.mem_filter.mpr ⟨hc, hi⟩)
  · simpa [hi] using h
set_option maxRecDepth 65536 in
theorem w_c0 : (Jvm.Cond.code x code maxLocals ret).before args0 about1 = true := code_word (m := ⟨1, 2⟩) (meth := k1m2) (c := k1c2) (by decide +kernel) rfl rfl rfl (by decide +kernel)
set_option maxRecDepth 65536 in
theorem w_c1 : (Jvm.Cond.code ({ cls := "com/example/breakwater/breakwater/model/DigitsValueOfPinLaw", name := "digitByte", desc := "(JJI)J" } : Jvm.MethodName) method_2_code (7 : Nat) (Option.some Jvm.ClassFile.FieldType.long)).before args0 about1 = true := code_word (m := ⟨1, 1⟩) (meth := k1m1) (c := k1c1) (by decide +kernel) rfl rfl rfl (by decide +kernel)
set_option maxRecDepth 65536 in
theorem w_c2 : (Jvm.Cond.code ({ cls := "com/example/breakwater/breakwater/model/Digits", name := "valueOf", desc := "(JI)J" } : Jvm.MethodName) prog_68_method_6_code (5 : Nat) (Option.some Jvm.ClassFile.FieldType.long)).before args0 about1 = true := code_word (m := ⟨2, 1⟩) (meth := k2m1) (c := k2c1) (by decide +kernel) rfl rfl rfl (by decide +kernel)
def codes1 : List Jvm.Cond := [Jvm.Cond.code x code maxLocals ret, Jvm.Cond.code ({ cls := "com/example/breakwater/breakwater/model/DigitsValueOfPinLaw", name := "digitByte", desc := "(JJI)J" } : Jvm.MethodName) method_2_code (7 : Nat) (Option.some Jvm.ClassFile.FieldType.long), Jvm.Cond.code ({ cls := "com/example/breakwater/breakwater/model/Digits", name := "valueOf", desc := "(JI)J" } : Jvm.MethodName) prog_68_method_6_code (5 : Nat) (Option.some Jvm.ClassFile.FieldType.long)]
set_option maxRecDepth 65536 in
theorem codes_eq : words1.filter isCode = codes1 := rfl
theorem w_codes : ∀ c ∈ words1.filter isCode, c.before args0 about1 = true := by
  rw [codes_eq]
  intro c hc
  simp only [codes1, List.mem_cons, List.not_mem_nil, or_false] at hc
  rcases hc with rfl | rfl | rfl
  · exact w_c0
  · exact w_c1
  · exact w_c2
set_option maxRecDepth 65536 in
theorem w_t1 : (words1.take 24).all (fun c => isCode c || c.before args0 about1) = true := by decide +kernel
set_option maxRecDepth 65536 in
theorem w_t2 : (words1.drop 24).all (fun c => isCode c || c.before args0 about1) = true := by decide +kernel
theorem w_tables : (allAtoms (Jvm.Cond.code x code maxLocals ret :: tables_1)).before args0 about1 = true := by
  rw [allAtoms_all]
  show words1.all (fun c => c.before args0 about1) = true
  refine all_split ?_ w_codes
  rw [← List.take_append_drop 24 words1, List.all_append, w_t1, w_t2]
  rfl
set_option maxRecDepth 65536 in
theorem w_case : (Jvm.Cond.and given_1 narrow_1).before args0 about1 = true := by decide +kernel
theorem w_applies : (headSpec (Jvm.Cond.code x code maxLocals ret :: tables_1) room_1).applies x e0.platform about1 = true :=
  (Spec.applies_iff w_frames).mpr ⟨w_running, w_runnable, w_alone, w_named, w_hears, w_ripe, w_room, w_tables⟩
theorem atStart : AtStart classFile x code maxLocals ret World_1 tables_1 room_1 Calls_1 rest_1 Pre_1 launch0 p0 e0 about1 theMethod args0 below0 :=
  ⟨lists_1, trivial, launch0.admits_env _ _ _, launch0.least_env, fairChoices_fair.cas, fairChoices_fair.clock, w_frames, w_args, w_heap, w_applies, trivial, trivial, w_case⟩
end start1
theorem witness_1 : WitnessClaimed_1 := ⟨start1.p0, start1.e0, start1.about1, start1.theMethod, start1.args0, start1.below0, start1.atStart⟩
end Jvm.Pilot.@@N@@
