import JvmDerived
import JvmDerived.Pilot.@@N@@Statement
import JvmDerived.Pilot.@@N@@Code
set_option linter.unusedVariables false
set_option linter.unusedSimpArgs false
namespace Jvm.Pilot.@@N@@
open Jvm Jvm.ClassFile Sem Op Lib Jvm.Free Jvm.Stand Jvm.LawKit Jvm.RoadKit Bundle Jvm.Pilot.@@N@@.Jvm.D
section Own
variable {p : Program} {l : Launch} {e : Env} {R : Room} {s : State} {m : MethodId} {args : Array Value} {below : List Frame} {meth : Method} {c : Code} {T : State} {locs : List Loc} {cells slots : Nat} {Z : State} {a0 : Array Value} {h h' : Heap} {rc rs : Nat} {Q Qc : Option Value → Heap → List Loc → Prop}
/-- from here the run comes to its end, and leaves what Q says -/
def GG (p : Program) (e : Env) (below : List Frame) (s : State) (rc rs : Nat) (Q : Option Value → Heap → List Loc → Prop) (T : State) (g : JFrame) : Prop :=
  ∃ s₂ o, Steps p.tables e below (T.setTop g) s₂ ∧ s₂.status = .running ∧ Ended s₂ below o ∧ ∃ v L, o = .returned v ∧ Q v s₂.heap L ∧ FrameEnd s o s₂ L rc rs
theorem own_go {T' : State} {g g' : JFrame} (st : ∀ t, Steps p.tables e below (T'.setTop g') t → Steps p.tables e below (T.setTop g) t) (k : GG p e below s rc rs Q T' g') : GG p e below s rc rs Q T g := by
  obtain ⟨s₂, o, h1, h2⟩ := k
  exact ⟨s₂, o, st _ h1, h2⟩
theorem own_in {g g' : JFrame} (q : g = g') (k : GG p e below s rc rs Q T g') : GG p e below s rc rs Q T g := q ▸ k
theorem own_if {g1 g2 : JFrame} {P : Prop} [Decidable P] (k1 : P → GG p e below s rc rs Q T g1) (k2 : ¬ P → GG p e below s rc rs Q T g2) : GG p e below s rc rs Q T (if P then g1 else g2) := by
  by_cases q : P
  · rw [if_pos q]; exact k1 q
  · rw [if_neg q]; exact k2 q
theorem own_join {g g' : JFrame} (k1 : GG p e below s rc rs Q T g' → GG p e below s rc rs Q T g) (k2 : GG p e below s rc rs Q T g') : GG p e below s rc rs Q T g := k1 k2
abbrev own_CT (l : Launch) (Z : State) (y : MethodName) (bytes : ByteArray) (maxL : Nat) (ret : Option FieldType) (ws : List Jvm.Cond) (rm : Room) (as : Array Value) (h : Heap) (Qc : Option Value → Heap → List Loc → Prop) : Prop :=
  MetFree l y (head1 (Jvm.Cond.code y bytes maxL ret :: ws) rm) (fun a U => a = as ∧ Z.Warmed39 U.vm ∧ U.heap = h) (fun _ _ _ _ _ => True) (fun _ U o U' => ∃ v L, o = .returned v ∧ Qc v U'.heap L ∧ FrameEnd U o U' L rm.cells rm.slots)
theorem own_callS (X : Stand p l e R s m args below meth c T locs cells slots) (hx : p.tables.exec = Jvm.exec) (hZ : Z.Warmed39 s.vm) {own : String} {index : Nat} {y : MethodName} {bytes : ByteArray} {maxL : Nat} {ret : Option FieldType} {rm : Room} (W : Nat)
    (hown : s.vm.findClass own = some m.cls) (w1 : (Jvm.Cond.methodLink own index y).before a0 Z = true) (w2 : (Jvm.Cond.static y).before a0 Z = true) (w3 : (Jvm.Cond.initialized y.cls).before a0 Z = true) (w4 : (Jvm.Cond.code y bytes maxL ret).before a0 Z = true)
    (hy : y.cls ≠ "java/lang/invoke/MethodHandle" ∧ y.cls ≠ "java/lang/invoke/VarHandle") {argsL rest : List Value} (hM : own_CT l Z y bytes maxL ret [] rm argsL.toArray h Qc)
    (hf : rm.frames + 1 ≤ R.frames) (hl : W + (maxL + 11) + rm.locals ≤ R.locals) (hc : cells + rm.cells ≤ R.cells) (hs : slots + rm.slots ≤ R.slots)
    {g : JFrame} (hg : g.method = m) (hsize : g.locals.size = c.maxLocals) (hlen : ∀ sig, parseMethodDescriptor y.desc = some sig → argsL.length = sig.parameters.length) (hstack : g.stack = argsL.reverse ++ rest) (hW : 2 * g.monitorRoom + (rest.map fun v => v.category).sum ≤ W)
    (hdg : decode c.code g.pc = .ok (.invokestatic index, 3)) (eT : T.heap = h)
    (k : ∀ (v : Option Value) (T' : State) (L : List Loc), Stand p l e R s m args below meth c T' (locs ++ L) (cells + rm.cells) (slots + rm.slots) → Qc v T'.heap L → GG p e below s rc rs Q T' { g with pc := g.pc + 3, stack := v.toList ++ rest }) : GG p e below s rc rs Q T g := by
  obtain ⟨v, vm₁, ⟨T', L', k', n'⟩, -, X', ⟨L, hQ, q1, q2, q3⟩, st⟩ := Jvm.LawKit.callS X hx hown (mvT hZ w1) (mvT hZ w2) (mvT hZ w3) (mvT hZ w4) hy (backOf (W := W) hM hZ w4 w3 hf hl) hg hsize hlen hstack hW hdg (fun _ _ => ⟨rfl, eT, hc, hs⟩)
  dsimp only [Pt.U, Pt.locs, Pt.cells, Pt.slots] at X' q1 q2 q3 st hQ
  subst q1 q2 q3
  exact own_go st (k v T' L X' hQ)
theorem own_callI (X : Stand p l e R s m args below meth c T locs cells slots) (hx : p.tables.exec = Jvm.exec) (hZ : Z.Warmed39 s.vm) {own : String} {index : Nat} {y : MethodName} {bytes : ByteArray} {maxL : Nat} {rm : Room} (W : Nat) (hy1 : y.name = "<init>")
    (hown : s.vm.findClass own = some m.cls) (w1 : (Jvm.Cond.methodLink own index y).before a0 Z = true) (w2 : (Jvm.Cond.instanceMethod y).before a0 Z = true) (w3 : (Jvm.Cond.initialized y.cls).before a0 Z = true) (w4 : (Jvm.Cond.code y bytes maxL none).before a0 Z = true)
    (hy : y.cls ≠ "java/lang/invoke/MethodHandle" ∧ y.cls ≠ "java/lang/invoke/VarHandle") {a : Addr} {argsL rest : List Value} (hM : own_CT l Z y bytes maxL none [] rm (.ref a :: argsL).toArray h Qc)
    (hf : rm.frames + 1 ≤ R.frames) (hl : W + (maxL + 11) + rm.locals ≤ R.locals) (hc : cells + rm.cells ≤ R.cells) (hs : slots + rm.slots ≤ R.slots)
    {g : JFrame} (hg : g.method = m) (hsize : g.locals.size = c.maxLocals) (hlen : ∀ sig, parseMethodDescriptor y.desc = some sig → argsL.length = sig.parameters.length) (hstack : g.stack = argsL.reverse ++ .ref a :: rest) (hW : 2 * g.monitorRoom + (rest.map fun v => v.category).sum ≤ W)
    (hdg : decode c.code g.pc = .ok (.invokespecial index, 3)) (eT : T.heap = h)
    (k : ∀ (v : Option Value) (T' : State) (L : List Loc), Stand p l e R s m args below meth c T' (locs ++ L) (cells + rm.cells) (slots + rm.slots) → Qc v T'.heap L → GG p e below s rc rs Q T' { g with pc := g.pc + 3, stack := v.toList ++ rest }) : GG p e below s rc rs Q T g := by
  obtain ⟨v, vm₁, ⟨T', L', k', n'⟩, -, X', ⟨L, hQ, q1, q2, q3⟩, st⟩ := X.specialBack hx hy1 hown (mvT hZ w1) (mvT hZ w2) (mvT hZ w4) hy (backOf (W := W) hM hZ w4 w3 hf hl) hg hsize (Steps.refl _) hlen hstack hW hdg (fun _ _ => ⟨rfl, eT, hc, hs⟩)
  dsimp only [Pt.U, Pt.locs, Pt.cells, Pt.slots] at X' q1 q2 q3 st hQ
  subst q1 q2 q3
  exact own_go (fun _ => st.trans) (k v T' L X' hQ)
theorem own_callV (X : Stand p l e R s m args below meth c T locs cells slots) (hx : p.tables.exec = Jvm.exec) (hZ : Z.Warmed39 s.vm) {own C : String} {index : Nat} {y z : MethodName} {bytes : ByteArray} {maxL : Nat} {ret : Option FieldType} {rm : Room} (W : Nat)
    (hown : s.vm.findClass own = some m.cls) (w1 : (Jvm.Cond.methodLink own index y).before a0 Z = true) (w2 : (Jvm.Cond.declares y).before a0 Z = true) (hnf : NotFace s y) (w5 : (Jvm.Cond.selects C y z).before a0 Z = true) (w6 : (Jvm.Cond.instanceMethod z).before a0 Z = true) (w3 : (Jvm.Cond.initialized z.cls).before a0 Z = true) (w4 : (Jvm.Cond.code z bytes maxL ret).before a0 Z = true)
    (hy : y.cls ≠ "java/lang/invoke/MethodHandle" ∧ y.cls ≠ "java/lang/invoke/VarHandle") {a : Addr} {argsL rest : List Value} (hM : own_CT l Z z bytes maxL ret [] rm (.ref a :: argsL).toArray h Qc)
    (hf : rm.frames + 1 ≤ R.frames) (hl : W + (maxL + 11) + rm.locals ≤ R.locals) (hc : cells + rm.cells ≤ R.cells) (hs : slots + rm.slots ≤ R.slots) (E : Exa Z h a C)
    {g : JFrame} (hg : g.method = m) (hsize : g.locals.size = c.maxLocals) (hlen : ∀ sig, parseMethodDescriptor y.desc = some sig → argsL.length = sig.parameters.length) (hstack : g.stack = argsL.reverse ++ .ref a :: rest) (hW : 2 * g.monitorRoom + (rest.map fun v => v.category).sum ≤ W)
    (hdg : decode c.code g.pc = .ok (.invokevirtual index, 3)) (eT : T.heap = h)
    (k : ∀ (v : Option Value) (T' : State) (L : List Loc), Stand p l e R s m args below meth c T' (locs ++ L) (cells + rm.cells) (slots + rm.slots) → Qc v T'.heap L → GG p e below s rc rs Q T' { g with pc := g.pc + 3, stack := v.toList ++ rest }) : GG p e below s rc rs Q T g := by
  obtain ⟨cq, kq, qa, qb, qc⟩ := isOf hZ eT E
  obtain ⟨v, vm₁, ⟨T', L', k', n'⟩, -, X', ⟨L, hQ, q1, q2, q3⟩, st⟩ := X.virtualBack hx hown (mvT hZ w1) (mvT hZ w2) hnf (mvT hZ w5) (mvT hZ w6) hy (backOf (W := W) hM hZ w4 w3 hf hl) qa qc hg hsize (Steps.refl _) hlen hstack hW hdg (fun _ _ => ⟨rfl, eT, hc, hs⟩)
  dsimp only [Pt.U, Pt.locs, Pt.cells, Pt.slots] at X' q1 q2 q3 st hQ
  subst q1 q2 q3
  exact own_go (fun _ => st.trans) (k v T' L X' hQ)
theorem own_callP (X : Stand p l e R s m args below meth c T locs cells slots) (hx : p.tables.exec = Jvm.exec) (hZ : Z.Warmed39 s.vm) {own C : String} {index : Nat} {y : MethodName} {bytes : ByteArray} {maxL : Nat} {ret : Option FieldType} {rm : Room} (W : Nat)
    (hown : s.vm.findClass own = some m.cls) (w1 : (Jvm.Cond.methodLink own index y).before a0 Z = true) (w2 : (Jvm.Cond.instanceMethod y).before a0 Z = true) {kk : Nat} (w5 : (Jvm.Cond.instantiable y.cls kk).before a0 Z = true) (w6 : (Jvm.Cond.privateMethod y).before a0 Z = true) (w3 : (Jvm.Cond.initialized y.cls).before a0 Z = true) (w4 : (Jvm.Cond.code y bytes maxL ret).before a0 Z = true)
    (hy : y.cls ≠ "java/lang/invoke/MethodHandle" ∧ y.cls ≠ "java/lang/invoke/VarHandle") {a : Addr} {argsL rest : List Value} (hM : own_CT l Z y bytes maxL ret [] rm (.ref a :: argsL).toArray h Qc)
    (hf : rm.frames + 1 ≤ R.frames) (hl : W + (maxL + 11) + rm.locals ≤ R.locals) (hc : cells + rm.cells ≤ R.cells) (hs : slots + rm.slots ≤ R.slots) (E : Exa Z h a C)
    {g : JFrame} (hg : g.method = m) (hsize : g.locals.size = c.maxLocals) (hlen : ∀ sig, parseMethodDescriptor y.desc = some sig → argsL.length = sig.parameters.length) (hstack : g.stack = argsL.reverse ++ .ref a :: rest) (hW : 2 * g.monitorRoom + (rest.map fun v => v.category).sum ≤ W)
    (hdg : decode c.code g.pc = .ok (.invokevirtual index, 3)) (eT : T.heap = h)
    (k : ∀ (v : Option Value) (T' : State) (L : List Loc), Stand p l e R s m args below meth c T' (locs ++ L) (cells + rm.cells) (slots + rm.slots) → Qc v T'.heap L → GG p e below s rc rs Q T' { g with pc := g.pc + 3, stack := v.toList ++ rest }) : GG p e below s rc rs Q T g := by
  obtain ⟨cq, q, q'⟩ := E.cell
  have hpr : s.PrivateAt y := Cond.privateMethod_at (mvP hZ w6 (args := #[]))
  obtain ⟨c1, k1, i1, i2, -, i4, -⟩ := Cond.instantiable_spec (show (Jvm.Cond.instantiable y.cls kk).before args s = true from mv hZ w5)
  have hsel : (Jvm.Cond.selects y.cls y y).before args s = true := selects_self_of_private i1 i2 (Bool.or_eq_false_iff.mp i4).1 hpr (mvT hZ w2) hy
  obtain ⟨v, vm₁, ⟨T', L', k', n'⟩, -, X', ⟨L, hQ, q1, q2, q3⟩, st⟩ := X.privateBack hx hown (mvT hZ w1) (mvT hZ w2) hsel hpr (mvT hZ w4) hy (backOf (W := W) hM hZ w4 w3 hf hl) hg hsize (Steps.refl _) (by rw [eT]; exact q) q' hlen hstack hW hdg (fun _ _ => ⟨rfl, eT, hc, hs⟩)
  dsimp only [Pt.U, Pt.locs, Pt.cells, Pt.slots] at X' q1 q2 q3 st hQ
  subst q1 q2 q3
  exact own_go (fun _ => st.trans) (k v T' L X' hQ)
theorem own_ret (X : Stand p l e R s m args below meth c T locs cells slots) (hx : p.tables.exec = Jvm.exec) (hlk : meth.locks = false) {t : FieldType} {w : Value} {i : Instr} {pc : Nat} {Ls : Array Slot} {rest : List Value} (hret : meth.sig.returnType = some t) (hn : narrow t w = w)
    (hi : (i = .ireturn ∧ (t = .int ∨ t = .boolean ∨ t = .byte ∨ t = .char ∨ t = .short) ∧ ∃ z, w = .int z) ∨ (i = .lreturn ∧ t = .long ∧ ∃ z, w = .long z) ∨ (i = .dreturn ∧ t = .double ∧ ∃ z, w = .double z) ∨ (i = .freturn ∧ t = .float ∧ ∃ z, w = .float z) ∨ (i = .areturn ∧ t.isReference = true ∧ w.isRef = true))
    (hd : decode c.code pc = .ok (i, 1)) (hc : cells ≤ rc) (hs : slots ≤ rs) (hQ : Q (some w) T.heap locs) : GG p e below s rc rs Q T (mkF m pc Ls (w :: rest)) := by
  obtain ⟨fs, hr, hrun, hended, hW, hsame⟩ := X.leave (v := some w) (fun h => by rw [hret] at h; cases h) hlk
  exact ⟨_, _, retOut X hx hret hn hi hd hr, hrun, hended, _, _, rfl, hQ, ⟨_, rfl⟩, hW, hsame.mono hc hs⟩
theorem own_retV (X : Stand p l e R s m args below meth c T locs cells slots) (hx : p.tables.exec = Jvm.exec) (hlk : meth.locks = false) {pc : Nat} {Ls : Array Slot} (hret : meth.sig.returnType = none)
    (hd : decode c.code pc = .ok (.return_, 1)) (hc : cells ≤ rc) (hs : slots ≤ rs) (hQ : Q none T.heap locs) : GG p e below s rc rs Q T (mkF m pc Ls []) := by
  obtain ⟨fs, hr, hrun, hended, hW, hsame⟩ := X.leave (v := none) (fun _ => rfl) hlk
  exact ⟨_, _, X.returnOut hx hret hd hr, hrun, hended, _, _, rfl, hQ, ⟨_, rfl⟩, hW, hsame.mono hc hs⟩
theorem own_nZ {P : Prop} [Decidable P] : narrow .boolean (.int (if P then 1 else 0)) = .int (if P then 1 else 0) := by split <;> rfl
/-- an array of values, all of them named -/
def Arx (Z : State) (h : Heap) (a : Addr) (ty : FieldType) (vs : List Value) : Prop := vs.length < 2 ^ 31 ∧ ∃ k dv, Arv Z h a k ty (Int32.ofNat vs.length) vs dv
variable {a b : Addr} {ty : FieldType} {vs : List Value}
theorem own_ofNat {n : Nat} (q : n < 2 ^ 31) : (Int32.ofNat n).toInt = n := Int32.toInt_ofNat_of_lt q
theorem own_clamp {n : Nat} (q : n < 2 ^ 31) : (Int32.ofNat n).toNatClampNeg = n := by simp only [Int32.toNatClampNeg, own_ofNat q]; rfl
theorem Arx.lt (V : Arx Z h a ty vs) : a < h.size := by obtain ⟨_, k, dv, V⟩ := V; exact V.lt
theorem Arx.ext (V : Arx Z h a ty vs) (E : Ext h h') : Arx Z h' a ty vs := by obtain ⟨q, k, dv, V⟩ := V; exact ⟨q, k, dv, V.ext E⟩
theorem Arx.other {sl : Nat} {v : Value} (V : Arx Z h b ty vs) (W : Wr h h' a sl v) (n : b ≠ a) : Arx Z h' b ty vs := by obtain ⟨q, k, dv, V⟩ := V; exact ⟨q, k, dv, V.other W n⟩
theorem Arx.keep {ws : List Addr} (V : Arx Z h a ty vs) (K : Keep h h' ws) (n : a ∉ ws) : Arx Z h' a ty vs := by obtain ⟨q, k, dv, V⟩ := V; exact ⟨q, k, dv, V.keep K n⟩
theorem Arx.open {j : Int32} {v : Value} (V : Arx Z h a ty vs) (h0 : ¬ j < 0) (hv : vs[j.toNatClampNeg]? = some v) : ∃ cl, Arr Z h a cl ty ∧ ¬ (j < 0 ∨ cl.slots.size ≤ j.toNatClampNeg) ∧ cl.slots[j.toNatClampNeg]? = some v := by
  obtain ⟨q, k, dv, cl, A, -, S, -, H, -⟩ := V
  rw [own_clamp q] at S
  have hl := (List.getElem?_eq_some_iff.mp hv).1
  have e := H j.toNatClampNeg (by rw [S]; exact hl)
  rw [List.getD_eq_getElem?_getD, hv] at e
  exact ⟨cl, A, fun q' => q'.elim h0 (by rw [S]; exact Nat.not_le.mpr hl), e⟩
theorem own_len (X : Stand p l e R s m args below meth c T locs cells slots) (hx : p.tables.exec = Jvm.exec) (hZ : Z.Warmed39 s.vm) (eT : T.heap = h) (V : Arx Z h a ty vs) {g : JFrame} (hg : g.method = m) {rest : List Value} (hs : g.stack = .ref a :: rest) (hd : decode c.code g.pc = .ok (.arraylength, 1)) :
    ∀ t, Steps p.tables e below (T.setTop { g with pc := g.pc + 1, stack := .int (Int32.ofNat vs.length) :: rest }) t → Steps p.tables e below (T.setTop g) t := fun t k => by
  obtain ⟨q, k', dv, cl, A, -, S, N, -⟩ := V
  refine X.arraylength hx (by rw [eT]; exact A.1) (State.isArrayOf_alike hZ.alike A.2.1) hg hs hd _ ?_
  rw [len_of S N]; exact k
theorem own_iaload (X : Stand p l e R s m args below meth c T locs cells slots) (hx : p.tables.exec = Jvm.exec) (hZ : Z.Warmed39 s.vm) (eT : T.heap = h) (V : Arx Z h a .int vs) {j : Int32} {v : Value} (h0 : ¬ j < 0) (hv : vs[j.toNatClampNeg]? = some v) {g : JFrame} (hg : g.method = m) {rest : List Value} (hs : g.stack = .int j :: .ref a :: rest) (hd : decode c.code g.pc = .ok (.iaload, 1)) :
    ∀ t, Steps p.tables e below (T.setTop { g with pc := g.pc + 1, stack := v :: rest }) t → Steps p.tables e below (T.setTop g) t := fun t k => by
  obtain ⟨cl, A, h1, h2⟩ := V.open h0 hv
  exact X.iaload hx (by rw [eT]; exact A.1) (State.isArrayOf_alike hZ.alike A.2.1) A.2.2 h1 h2 hg hs hd _ k
theorem own_laload (X : Stand p l e R s m args below meth c T locs cells slots) (hx : p.tables.exec = Jvm.exec) (hZ : Z.Warmed39 s.vm) (eT : T.heap = h) (V : Arx Z h a .long vs) {j : Int32} {v : Value} (h0 : ¬ j < 0) (hv : vs[j.toNatClampNeg]? = some v) {g : JFrame} (hg : g.method = m) {rest : List Value} (hs : g.stack = .int j :: .ref a :: rest) (hd : decode c.code g.pc = .ok (.laload, 1)) :
    ∀ t, Steps p.tables e below (T.setTop { g with pc := g.pc + 1, stack := v :: rest }) t → Steps p.tables e below (T.setTop g) t := fun t k => by
  obtain ⟨cl, A, h1, h2⟩ := V.open h0 hv
  exact X.laload hx (by rw [eT]; exact A.1) (State.isArrayOf_alike hZ.alike A.2.1) A.2.2 h1 h2 hg hs hd _ k
theorem own_caload (X : Stand p l e R s m args below meth c T locs cells slots) (hx : p.tables.exec = Jvm.exec) (hZ : Z.Warmed39 s.vm) (eT : T.heap = h) (V : Arx Z h a .char vs) {j : Int32} {v : Value} (h0 : ¬ j < 0) (hv : vs[j.toNatClampNeg]? = some v) {g : JFrame} (hg : g.method = m) {rest : List Value} (hs : g.stack = .int j :: .ref a :: rest) (hd : decode c.code g.pc = .ok (.caload, 1)) :
    ∀ t, Steps p.tables e below (T.setTop { g with pc := g.pc + 1, stack := v :: rest }) t → Steps p.tables e below (T.setTop g) t := fun t k => by
  obtain ⟨cl, A, h1, h2⟩ := V.open h0 hv
  exact X.caload hx (by rw [eT]; exact A.1) (State.isArrayOf_alike hZ.alike A.2.1) A.2.2 h1 h2 hg hs hd _ k
theorem own_baload (X : Stand p l e R s m args below meth c T locs cells slots) (hx : p.tables.exec = Jvm.exec) (hZ : Z.Warmed39 s.vm) (eT : T.heap = h) (V : Arx Z h a .byte vs) {j : Int32} {v : Value} (h0 : ¬ j < 0) (hv : vs[j.toNatClampNeg]? = some v) {g : JFrame} (hg : g.method = m) {rest : List Value} (hs : g.stack = .int j :: .ref a :: rest) (hd : decode c.code g.pc = .ok (.baload, 1)) :
    ∀ t, Steps p.tables e below (T.setTop { g with pc := g.pc + 1, stack := v :: rest }) t → Steps p.tables e below (T.setTop g) t := fun t k => by
  obtain ⟨cl, A, h1, h2⟩ := V.open h0 hv
  exact X.baloadBytes hx (by rw [eT]; exact A.1) (State.isArrayOf_alike hZ.alike A.2.1) A.2.2 h1 h2 hg hs hd _ k
theorem own_aaload (X : Stand p l e R s m args below meth c T locs cells slots) (hx : p.tables.exec = Jvm.exec) (hZ : Z.Warmed39 s.vm) (eT : T.heap = h) (V : Arx Z h a ty vs) (ht : ty.isReference = true) {j : Int32} {v : Value} (h0 : ¬ j < 0) (hv : vs[j.toNatClampNeg]? = some v) {g : JFrame} (hg : g.method = m) {rest : List Value} (hs : g.stack = .int j :: .ref a :: rest) (hd : decode c.code g.pc = .ok (.aaload, 1)) :
    ∀ t, Steps p.tables e below (T.setTop { g with pc := g.pc + 1, stack := v :: rest }) t → Steps p.tables e below (T.setTop g) t := fun t k => by
  obtain ⟨cl, A, h1, h2⟩ := V.open h0 hv
  exact X.aaload hx (by rw [eT]; exact A.1) (State.isArrayOf_alike hZ.alike A.2.1) ht A.2.2 h1 h2 hg hs hd _ k
theorem Arx.put {j : Int32} {v : Value} (V : Arx Z h a ty vs) (h0 : ¬ j < 0) (hj : j.toNatClampNeg < vs.length) (hv : fits ty v = true) : ∃ cl, Arr Z h a cl ty ∧ ¬ (j < 0 ∨ cl.slots.size ≤ j.toNatClampNeg) ∧ ∀ {h' : Heap}, Wr h h' a j.toNatClampNeg v → Arx Z h' a ty (vs.set j.toNatClampNeg v) := by
  obtain ⟨q, k, dv, cl, A, q1, S, N, H, G⟩ := V
  refine ⟨cl, A, fun q' => q'.elim h0 ?_, fun W => ⟨by rw [List.length_set]; exact q, k, dv, ?_⟩⟩
  · rw [S, own_clamp q]; exact Nat.not_le.mpr hj
  · rw [List.length_set]; exact Arv.set A q1 S N H G hv W _ rfl hj
theorem own_iastore (X : Stand p l e R s m args below meth c T locs cells slots) (hx : p.tables.exec = Jvm.exec) (hZ : Z.Warmed39 s.vm) (eT : T.heap = h) (V : Arx Z h a .int vs) {j x : Int32} (h0 : ¬ j < 0) (hj : j.toNatClampNeg < vs.length) {g : JFrame} (hg : g.method = m) {rest : List Value} (hs : g.stack = .int x :: .int j :: .ref a :: rest) (hd : decode c.code g.pc = .ok (.iastore, 1)) :
    ∃ T' h', Stand p l e R s m args below meth c T' (locs ++ [⟨a, j.toNatClampNeg⟩]) cells slots ∧ T'.heap = h' ∧ Wr h h' a j.toNatClampNeg (.int x) ∧ Arx Z h' a .int (vs.set j.toNatClampNeg (.int x)) ∧ ∀ t, Steps p.tables e below (T'.setTop { g with pc := g.pc + 1, stack := rest }) t → Steps p.tables e below (T.setTop g) t := by
  obtain ⟨cl, A, h1, h2⟩ := V.put (v := .int x) h0 hj rfl
  obtain ⟨T', h', X', e', W, st⟩ := stI X hx hZ eT A h1 hg hs hd
  exact ⟨T', h', X', e', W, h2 W, st⟩
theorem own_lastore (X : Stand p l e R s m args below meth c T locs cells slots) (hx : p.tables.exec = Jvm.exec) (hZ : Z.Warmed39 s.vm) (eT : T.heap = h) (V : Arx Z h a .long vs) {j : Int32} {x : Int64} (h0 : ¬ j < 0) (hj : j.toNatClampNeg < vs.length) {g : JFrame} (hg : g.method = m) {rest : List Value} (hs : g.stack = .long x :: .int j :: .ref a :: rest) (hd : decode c.code g.pc = .ok (.lastore, 1)) :
    ∃ T' h', Stand p l e R s m args below meth c T' (locs ++ [⟨a, j.toNatClampNeg⟩]) cells slots ∧ T'.heap = h' ∧ Wr h h' a j.toNatClampNeg (.long x) ∧ Arx Z h' a .long (vs.set j.toNatClampNeg (.long x)) ∧ ∀ t, Steps p.tables e below (T'.setTop { g with pc := g.pc + 1, stack := rest }) t → Steps p.tables e below (T.setTop g) t := by
  obtain ⟨cl, A, h1, h2⟩ := V.put (v := .long x) h0 hj rfl
  obtain ⟨T', h', X', e', W, st⟩ := stJ X hx hZ eT A h1 hg hs hd
  exact ⟨T', h', X', e', W, h2 W, st⟩
theorem own_castore (X : Stand p l e R s m args below meth c T locs cells slots) (hx : p.tables.exec = Jvm.exec) (hZ : Z.Warmed39 s.vm) (eT : T.heap = h) (V : Arx Z h a .char vs) {j x : Int32} (h0 : ¬ j < 0) (hj : j.toNatClampNeg < vs.length) {g : JFrame} (hg : g.method = m) {rest : List Value} (hs : g.stack = .int x :: .int j :: .ref a :: rest) (hd : decode c.code g.pc = .ok (.castore, 1)) :
    ∃ T' h', Stand p l e R s m args below meth c T' (locs ++ [⟨a, j.toNatClampNeg⟩]) cells slots ∧ T'.heap = h' ∧ Wr h h' a j.toNatClampNeg (.int (nar .char x)) ∧ Arx Z h' a .char (vs.set j.toNatClampNeg (.int (nar .char x))) ∧ ∀ t, Steps p.tables e below (T'.setTop { g with pc := g.pc + 1, stack := rest }) t → Steps p.tables e below (T.setTop g) t := by
  obtain ⟨cl, A, h1, h2⟩ := V.put (v := .int (nar .char x)) h0 hj (fits_nar_char _)
  obtain ⟨T', h', X', e', W, st⟩ := stC X hx hZ eT A h1 hg hs hd
  exact ⟨T', h', X', e', W, h2 W, st⟩
theorem own_bastore (X : Stand p l e R s m args below meth c T locs cells slots) (hx : p.tables.exec = Jvm.exec) (hZ : Z.Warmed39 s.vm) (eT : T.heap = h) (V : Arx Z h a .byte vs) {j x : Int32} (h0 : ¬ j < 0) (hj : j.toNatClampNeg < vs.length) {g : JFrame} (hg : g.method = m) {rest : List Value} (hs : g.stack = .int x :: .int j :: .ref a :: rest) (hd : decode c.code g.pc = .ok (.bastore, 1)) :
    ∃ T' h', Stand p l e R s m args below meth c T' (locs ++ [⟨a, j.toNatClampNeg⟩]) cells slots ∧ T'.heap = h' ∧ Wr h h' a j.toNatClampNeg (.int (nar .byte x)) ∧ Arx Z h' a .byte (vs.set j.toNatClampNeg (.int (nar .byte x))) ∧ ∀ t, Steps p.tables e below (T'.setTop { g with pc := g.pc + 1, stack := rest }) t → Steps p.tables e below (T.setTop g) t := by
  obtain ⟨cl, A, h1, h2⟩ := V.put (v := .int (nar .byte x)) h0 hj (fits_nar_byte _)
  obtain ⟨T', h', X', e', W, st⟩ := stB X hx hZ eT A h1 hg hs hd
  exact ⟨T', h', X', e', W, h2 W, st⟩
theorem own_newarr (X : Stand p l e R s m args below meth c T locs cells slots) (hx : p.tables.exec = Jvm.exec) (hZ : Z.Warmed39 s.vm) {aty : ArrayType} (w : (Jvm.Cond.arrayClass (newarray.typeOf aty)).before a0 Z = true) (eT : T.heap = h) {g : JFrame} (hg : g.method = m) (hd : decode c.code g.pc = .ok (.newarray aty, 2)) {n : Int32} {rest : List Value} (hs : g.stack = .int n :: rest)
    (hn : ¬ n < 0) {cap : Nat} (hcap : n.toNatClampNeg ≤ cap) (hb : cap * 8 ≤ 536870912) (hc : cells + 1 ≤ R.cells) (hl : slots + cap ≤ R.slots) {ad : String} (had : "[" ++ (newarray.typeOf aty).toString = ad) :
    ∃ T' h' a, a = h.size ∧ Stand p l e R s m args below meth c T' locs (cells + 1) (slots + cap) ∧ T'.heap = h' ∧ Ext h h' ∧ Arx Z h' a (newarray.typeOf aty) (List.replicate n.toNatClampNeg (defaultValue (newarray.typeOf aty))) ∧ Exa Z h' a ad ∧
      ∀ t, Steps p.tables e below (T'.setTop { g with pc := g.pc + 2, stack := .ref a :: rest }) t → Steps p.tables e below (T.setTop g) t := by
  obtain ⟨T', h', cA, X', e', E, A, Ex, st⟩ := newPE X hx hZ w eT hg hd hs hn hcap hb hc hl had
  have b := back32 hn
  refine ⟨T', h', _, rfl, X', e', E, ⟨by rw [List.length_replicate]; exact b.2, cA, defaultValue (newarray.typeOf aty), ?_⟩, Ex, st⟩
  rw [List.length_replicate, show Int32.ofNat n.toNatClampNeg = n from b.1]
  exact (Arv.new A hn).pad (pad_rep [] _ _)
theorem own_clone (X : Stand p l e R s m args below meth c T locs cells slots) (hx : p.tables.exec = Jvm.exec) (hZ : Z.Warmed39 s.vm) {own ad : String} {index : Nat} (hown : s.vm.findClass own = some m.cls)
    (w1 : (Jvm.Cond.methodLink own index ⟨ad, "clone", "()Ljava/lang/Object;"⟩).before a0 Z = true) (w2 : (Jvm.Cond.sameMethod ad "java/lang/Object" "clone" "()Ljava/lang/Object;").before a0 Z = true) (w3 : (Jvm.Cond.native ⟨"java/lang/Object", "clone", "()Ljava/lang/Object;"⟩).before a0 Z = true)
    (w4 : (Jvm.Cond.instanceMethod ⟨"java/lang/Object", "clone", "()Ljava/lang/Object;"⟩).before a0 Z = true) (w5 : (Jvm.Cond.selects ad ⟨ad, "clone", "()Ljava/lang/Object;"⟩ ⟨"java/lang/Object", "clone", "()Ljava/lang/Object;"⟩).before a0 Z = true) (w6 : (Jvm.Cond.castable ad "java/lang/Cloneable").before a0 Z = true)
    (eT : T.heap = h) (V : Arx Z h a ty vs) (E : Exa Z h a ad) {g : JFrame} (hg : g.method = m) (hsize : g.locals.size = c.maxLocals) {rest : List Value} (hst : g.stack = .ref a :: rest) (hd : decode c.code g.pc = .ok (.invokevirtual index, 3))
    (hf : 1 ≤ R.frames) {W cap : Nat} (hW : 2 * g.monitorRoom + (rest.map fun v => v.category).sum ≤ W) (hl : W + 14 ≤ R.locals) (hcap : vs.length ≤ cap) (hc : cells + 1 ≤ R.cells) (hsl : slots + cap ≤ R.slots) :
    ∃ T' h' b, b = h.size ∧ Stand p l e R s m args below meth c T' locs (cells + 1) (slots + cap) ∧ T'.heap = h' ∧ Ext h h' ∧ Arx Z h' b ty vs ∧ Exa Z h' b ad ∧
      ∀ t, Steps p.tables e below (T'.setTop { g with pc := g.pc + 3, stack := .ref b :: rest }) t → Steps p.tables e below (T.setTop g) t := by
  obtain ⟨q, k, dv, V⟩ := V
  obtain ⟨T', h', X', e', ex, V', E', st⟩ := cloneH X hx hZ hown w1 w2 w3 w4 w5 w6 eT V.arh E hg hsize hst hd hf hW hl (by rw [own_clamp q]; exact hcap) hc hsl
  exact ⟨T', h', _, rfl, X', e', ex, ⟨q, k, dv, V'⟩, E', st⟩
end Own
theorem own_nat {i : Int32} {n : Nat} (h : i.toInt = n) : i.toNatClampNeg = n := by simp only [Int32.toNatClampNeg, h]; rfl
theorem own_nn {i : Int32} (h : 0 ≤ i.toInt) : ¬ i < 0 := fun q => absurd (Int32.lt_iff_toInt_lt.mp q) (by show ¬ i.toInt < 0; omega)
theorem own_nb {x : Int32} (h : -128 ≤ x.toInt ∧ x.toInt < 128) : nar .byte x = x := by
  have q := c_i2b x
  rw [← Int32.toInt_inj]
  show x.toInt8.toInt32.toInt = x.toInt
  omega
theorem own_nc {x : Int32} (h : 0 ≤ x.toInt ∧ x.toInt < 256) : nar .char x = x := by
  have q := c_i2c x
  rw [← Int32.toInt_inj]
  show x.toUInt32.toUInt16.toUInt32.toInt32.toInt = x.toInt
  omega
theorem own_nch {x : Int32} (h : 0 ≤ x.toInt ∧ x.toInt < 256) : narrow .char (.int x) = .int x := by
  show Value.int (nar .char x) = _
  rw [own_nc h]
def By (y : Int32) : Prop := 0 ≤ y.toInt ∧ y.toInt < 128
theorem own_four {y0 y1 y2 y3 : Int32} (h0 : By y0) (h1 : By y1) (h2 : By y2) (h3 : By y3) (k : Nat) (hk : k < 4) : ∃ y : Int32, ([.int y0, .int y1, .int y2, .int y3] : List Value)[k]? = some (.int y) ∧ By y := by
  match k, hk with
  | 0, _ => exact ⟨y0, rfl, h0⟩
  | 1, _ => exact ⟨y1, rfl, h1⟩
  | 2, _ => exact ⟨y2, rfl, h2⟩
  | 3, _ => exact ⟨y3, rfl, h3⟩
theorem d5_0 : decode jdk_52_method_21_code 0 = .ok (.iconst 0, 1) := by decide +kernel
theorem d5_1 : decode jdk_52_method_21_code 1 = .ok (.istore 5, 2) := by decide +kernel
theorem d5_3 : decode jdk_52_method_21_code 3 = .ok (.iload 5, 2) := by decide +kernel
theorem d5_5 : decode jdk_52_method_21_code 5 = .ok (.iload 4, 2) := by decide +kernel
theorem d5_7 : decode jdk_52_method_21_code 7 = .ok (.if_icmp .ge 37, 3) := by decide +kernel
theorem d5_10 : decode jdk_52_method_21_code 10 = .ok (.aload_n 0, 1) := by decide +kernel
theorem d5_11 : decode jdk_52_method_21_code 11 = .ok (.iload_n 1, 1) := by decide +kernel
theorem d5_12 : decode jdk_52_method_21_code 12 = .ok (.caload, 1) := by decide +kernel
theorem d5_13 : decode jdk_52_method_21_code 13 = .ok (.istore 6, 2) := by decide +kernel
theorem d5_15 : decode jdk_52_method_21_code 15 = .ok (.iload 6, 2) := by decide +kernel
theorem d5_17 : decode jdk_52_method_21_code 17 = .ok (.sipush 255, 3) := by decide +kernel
theorem d5_20 : decode jdk_52_method_21_code 20 = .ok (.if_icmp .le 6, 3) := by decide +kernel
theorem d5_26 : decode jdk_52_method_21_code 26 = .ok (.aload_n 2, 1) := by decide +kernel
theorem d5_27 : decode jdk_52_method_21_code 27 = .ok (.iload_n 3, 1) := by decide +kernel
theorem d5_28 : decode jdk_52_method_21_code 28 = .ok (.iload 6, 2) := by decide +kernel
theorem d5_30 : decode jdk_52_method_21_code 30 = .ok (.i2b, 1) := by decide +kernel
theorem d5_31 : decode jdk_52_method_21_code 31 = .ok (.bastore, 1) := by decide +kernel
theorem d5_32 : decode jdk_52_method_21_code 32 = .ok (.iinc 1 1, 3) := by decide +kernel
theorem d5_35 : decode jdk_52_method_21_code 35 = .ok (.iinc 3 1, 3) := by decide +kernel
theorem d5_38 : decode jdk_52_method_21_code 38 = .ok (.iinc 5 1, 3) := by decide +kernel
theorem d5_41 : decode jdk_52_method_21_code 41 = .ok (.goto (-38), 3) := by decide +kernel
theorem d5_44 : decode jdk_52_method_21_code 44 = .ok (.iload 4, 2) := by decide +kernel
theorem d5_46 : decode jdk_52_method_21_code 46 = .ok (.ireturn, 1) := by decide +kernel
theorem pn_java_lang_StringUTF16 : plainName "java/lang/StringUTF16" = true := by first | (simp [plainName, overriddenIn]; done) | decide +kernel
theorem ef_5 (m : MethodId) (x0 : Addr) (x1 : Int32) (x2 : Addr) (x3 : Int32) (x4 : Int32) : entryFrame m #[(.ref x0), (.int x1), (.ref x2), (.int x3), (.int x4)] 7 = mkF m 0 #[.val (.ref x0), .val (.int x1), .val (.ref x2), .val (.int x3), .val (.int x4), .unset, .unset] [] := by first | (simp [entryFrame, mkF, argsToLocals, Value.category]; done) | rfl
def Q5 (Z : State) (a1 : Addr) (a2 : Addr) (c1 c2 c3 : Int32) (h0 : Heap) (n0 : Nat) (v : Option Value) (h : Heap) (L : List Loc) : Prop := v = some (.int 3) ∧ Fr n0 L ∧ Keep h0 h [a2] ∧ ∃ z1 z2 z3 : Int32, Arx Z h a2 .byte [(.int z1), (.int z2), (.int z3)]
set_option maxRecDepth 65536 in
set_option maxHeartbeats 40000000 in
theorem rm5 (l : Launch) (Z : State) (a0 : Array Value) (hw : ∀ d ∈ tables_1, d.before a0 Z = true) (ws : List Jvm.Cond) (a1 : Addr) (a2 : Addr) (c1 c2 c3 : Int32) (h0 : Heap) (n0 : Nat) (Z0 : n0 ≤ h0.size) (hbn : (0 ≤ c1.toInt ∧ c1.toInt < 256) ∧ (0 ≤ c2.toInt ∧ c2.toInt < 256) ∧ (0 ≤ c3.toInt ∧ c3.toInt < 256)) (V_1 : Arx Z h0 a1 .char [(.int c1), (.int c2), (.int c3)]) (V_2 : Arx Z h0 a2 .byte [(.int (0 : Int32)), (.int (0 : Int32)), (.int (0 : Int32))]) (ne12 : a1 ≠ a2) (g_2 : n0 ≤ a2) :
    own_CT l Z (⟨"java/lang/StringUTF16", "compress", "([CI[BII)I"⟩ : MethodName) jdk_52_method_21_code 7 (some .int) ws ({ frames := 0, cells := 0, slots := 0, locals := 0 } : Room) #[(.ref a1), (.int (0 : Int32)), (.ref a2), (.int (0 : Int32)), (.int (3 : Int32))] h0 (Q5 Z a1 a2 c1 c2 c3 h0 n0) := by
  refine MetFree.of_bodySF (plainFor_of_name pn_java_lang_StringUTF16) hisR ?_
  intro p e s m args below meth c s₁ Bd hml0 hP hK
  obtain ⟨rfl, hZ, hh⟩ := hP
  have hx := Bd.exec
  have hby := Bd.bytes
  have hml : c.maxLocals = 7 := hml0
  have hown : s.vm.findClass "java/lang/StringUTF16" = some m.cls := findClass_of_methodNamed Bd.named
  have hnm := (name_of_methodNamed Bd.named Bd.method).1
  have hlk : meth.locks = false := BodyLoose.notSynchronized Bd
  have X0 : Stand p l e ({ frames := 0, cells := 0, slots := 0, locals := 0 } : Room) s m #[(.ref a1), (.int (0 : Int32)), (.ref a2), (.int (0 : Int32)), (.int (3 : Int32))] below meth c s₁ [] 0 0 := Stand.of_body Bd
  have e0 : s₁.heap = h0 := by rw [← hh, Bd.state]; rfl
  have N0 := Fr.nil n0
  show GG p e below s ({ frames := 0, cells := 0, slots := 0, locals := 0 } : Room).cells ({ frames := 0, cells := 0, slots := 0, locals := 0 } : Room).slots (Q5 Z a1 a2 c1 c2 c3 h0 n0) s₁ (entryFrame m #[(.ref a1), (.int (0 : Int32)), (.ref a2), (.int (0 : Int32)), (.int (3 : Int32))] 7)
  refine own_in (ef_5 m a1 (0 : Int32) a2 (0 : Int32) (3 : Int32)) ?_
  have K0 := Keep.refl h0 [a2]
  show GG _ _ _ _ _ _ _ s₁ (mkF m 0 #[.val (.ref a1), .val (.int (0 : Int32)), .val (.ref a2), .val (.int (0 : Int32)), .val (.int (3 : Int32)), .unset, .unset] [])
  refine own_go (fun _ => XS.iconst X0.here hx rfl (hb hby d5_0)) ?_
  show GG _ _ _ _ _ _ _ s₁ (mkF m 1 #[.val (.ref a1), .val (.int (0 : Int32)), .val (.ref a2), .val (.int (0 : Int32)), .val (.int (3 : Int32)), .unset, .unset] [(.int (0 : Int32))])
  refine own_go (fun _ => XS.istore X0.here hx rfl (hb hby d5_1) rfl (l' := #[.val (.ref a1), .val (.int (0 : Int32)), .val (.ref a2), .val (.int (0 : Int32)), .val (.int (3 : Int32)), .val (.int (0 : Int32)), .unset]) rfl) ?_
  show GG _ _ _ _ _ _ _ s₁ (mkF m 3 #[.val (.ref a1), .val (.int (0 : Int32)), .val (.ref a2), .val (.int (0 : Int32)), .val (.int (3 : Int32)), .val (.int (0 : Int32)), .unset] [])
  refine own_go (fun _ => XS.iload X0.here hx rfl (hb hby d5_3) rfl) ?_
  show GG _ _ _ _ _ _ _ s₁ (mkF m 5 #[.val (.ref a1), .val (.int (0 : Int32)), .val (.ref a2), .val (.int (0 : Int32)), .val (.int (3 : Int32)), .val (.int (0 : Int32)), .unset] [(.int (0 : Int32))])
  refine own_go (fun _ => XS.iload X0.here hx rfl (hb hby d5_5) rfl) ?_
  show GG _ _ _ _ _ _ _ s₁ (mkF m 7 #[.val (.ref a1), .val (.int (0 : Int32)), .val (.ref a2), .val (.int (0 : Int32)), .val (.int (3 : Int32)), .val (.int (0 : Int32)), .unset] [(.int (3 : Int32)), (.int (0 : Int32))])
  have hc7 : (0 : Int32) < (3 : Int32) := by decide
  refine own_go (fun _ => XS.icmpNo X0.here hx rfl (hb hby d5_7) rfl (tlt hc7).2.1) ?_
  show GG _ _ _ _ _ _ _ s₁ (mkF m 10 #[.val (.ref a1), .val (.int (0 : Int32)), .val (.ref a2), .val (.int (0 : Int32)), .val (.int (3 : Int32)), .val (.int (0 : Int32)), .unset] [])
  refine own_go (fun _ => XS.aloadN X0.here hx rfl (hb hby d5_10) rfl rfl) ?_
  show GG _ _ _ _ _ _ _ s₁ (mkF m 11 #[.val (.ref a1), .val (.int (0 : Int32)), .val (.ref a2), .val (.int (0 : Int32)), .val (.int (3 : Int32)), .val (.int (0 : Int32)), .unset] [(.ref a1)])
  refine own_go (fun _ => XS.iloadN X0.here hx rfl (hb hby d5_11) rfl) ?_
  show GG _ _ _ _ _ _ _ s₁ (mkF m 12 #[.val (.ref a1), .val (.int (0 : Int32)), .val (.ref a2), .val (.int (0 : Int32)), .val (.int (3 : Int32)), .val (.int (0 : Int32)), .unset] [(.int (0 : Int32)), (.ref a1)])
  refine own_go (fun _ => own_caload X0 hx hZ e0 V_1 (j := (0 : Int32)) (v := (.int c1)) (by decide) rfl (g := (mkF m 12 #[.val (.ref a1), .val (.int (0 : Int32)), .val (.ref a2), .val (.int (0 : Int32)), .val (.int (3 : Int32)), .val (.int (0 : Int32)), .unset] [(.int (0 : Int32)), (.ref a1)])) rfl rfl (hb hby d5_12) _) ?_
  show GG _ _ _ _ _ _ _ s₁ (mkF m 13 #[.val (.ref a1), .val (.int (0 : Int32)), .val (.ref a2), .val (.int (0 : Int32)), .val (.int (3 : Int32)), .val (.int (0 : Int32)), .unset] [(.int c1)])
  refine own_go (fun _ => XS.istore X0.here hx rfl (hb hby d5_13) rfl (l' := #[.val (.ref a1), .val (.int (0 : Int32)), .val (.ref a2), .val (.int (0 : Int32)), .val (.int (3 : Int32)), .val (.int (0 : Int32)), .val (.int c1)]) rfl) ?_
  show GG _ _ _ _ _ _ _ s₁ (mkF m 15 #[.val (.ref a1), .val (.int (0 : Int32)), .val (.ref a2), .val (.int (0 : Int32)), .val (.int (3 : Int32)), .val (.int (0 : Int32)), .val (.int c1)] [])
  refine own_go (fun _ => XS.iload X0.here hx rfl (hb hby d5_15) rfl) ?_
  show GG _ _ _ _ _ _ _ s₁ (mkF m 17 #[.val (.ref a1), .val (.int (0 : Int32)), .val (.ref a2), .val (.int (0 : Int32)), .val (.int (3 : Int32)), .val (.int (0 : Int32)), .val (.int c1)] [(.int c1)])
  refine own_go (fun _ => XS.sipush X0.here hx rfl (hb hby d5_17)) ?_
  show GG _ _ _ _ _ _ _ s₁ (mkF m 20 #[.val (.ref a1), .val (.int (0 : Int32)), .val (.ref a2), .val (.int (0 : Int32)), .val (.int (3 : Int32)), .val (.int (0 : Int32)), .val (.int c1)] [(.int (255 : Int32)), (.int c1)])
  have hc20 : ¬ ((255 : Int32) < c1) := (fun q => absurd (Int32.lt_iff_toInt_lt.mp q) ((by show ¬ (255 < c1.toInt); omega : ¬ (255 < c1.toInt))))
  refine own_go (fun _ => XS.icmpYes X0.here hx rfl (pc0 := 20) (pc' := 26) rfl (hb hby d5_20) rfl (flt hc20).2.2.2 (by decide) (by decide)) ?_
  show GG _ _ _ _ _ _ _ s₁ (mkF m 26 #[.val (.ref a1), .val (.int (0 : Int32)), .val (.ref a2), .val (.int (0 : Int32)), .val (.int (3 : Int32)), .val (.int (0 : Int32)), .val (.int c1)] [])
  refine own_go (fun _ => XS.aloadN X0.here hx rfl (hb hby d5_26) rfl rfl) ?_
  show GG _ _ _ _ _ _ _ s₁ (mkF m 27 #[.val (.ref a1), .val (.int (0 : Int32)), .val (.ref a2), .val (.int (0 : Int32)), .val (.int (3 : Int32)), .val (.int (0 : Int32)), .val (.int c1)] [(.ref a2)])
  refine own_go (fun _ => XS.iloadN X0.here hx rfl (hb hby d5_27) rfl) ?_
  show GG _ _ _ _ _ _ _ s₁ (mkF m 28 #[.val (.ref a1), .val (.int (0 : Int32)), .val (.ref a2), .val (.int (0 : Int32)), .val (.int (3 : Int32)), .val (.int (0 : Int32)), .val (.int c1)] [(.int (0 : Int32)), (.ref a2)])
  refine own_go (fun _ => XS.iload X0.here hx rfl (hb hby d5_28) rfl) ?_
  show GG _ _ _ _ _ _ _ s₁ (mkF m 30 #[.val (.ref a1), .val (.int (0 : Int32)), .val (.ref a2), .val (.int (0 : Int32)), .val (.int (3 : Int32)), .val (.int (0 : Int32)), .val (.int c1)] [(.int c1), (.int (0 : Int32)), (.ref a2)])
  refine own_go (fun _ => XS.i2b X0.here hx rfl (hb hby d5_30) rfl) ?_
  show GG _ _ _ _ _ _ _ s₁ (mkF m 31 #[.val (.ref a1), .val (.int (0 : Int32)), .val (.ref a2), .val (.int (0 : Int32)), .val (.int (3 : Int32)), .val (.int (0 : Int32)), .val (.int c1)] [(.int (c1.toInt8.toInt32)), (.int (0 : Int32)), (.ref a2)])
  obtain ⟨T1, h1, X1, e1, W1, V1, st1⟩ := own_bastore X0 hx hZ e0 V_2 (by decide) (Nat.le_of_ble_eq_true rfl) (g := (mkF m 31 #[.val (.ref a1), .val (.int (0 : Int32)), .val (.ref a2), .val (.int (0 : Int32)), .val (.int (3 : Int32)), .val (.int (0 : Int32)), .val (.int c1)] [(.int (c1.toInt8.toInt32)), (.int (0 : Int32)), (.ref a2)])) rfl rfl (hb hby d5_31)
  have V_1 := V_1.other W1 ne12
  have K0 := K0.wr W1 (Or.inl (List.mem_of_getElem? (i := 0) rfl))
  have V_2 : Arx Z h1 a2 .byte [(.int (nar .byte (c1.toInt8.toInt32))), (.int (0 : Int32)), (.int (0 : Int32))] := V1
  have N1 := Fr.snoc X1 N0 g_2
  refine own_go (fun _ => st1 _) ?_
  show GG _ _ _ _ _ _ _ T1 (mkF m 32 #[.val (.ref a1), .val (.int (0 : Int32)), .val (.ref a2), .val (.int (0 : Int32)), .val (.int (3 : Int32)), .val (.int (0 : Int32)), .val (.int c1)] [])
  refine own_go (fun _ => XS.iinc X1.here hx rfl (hb hby d5_32) rfl (l' := #[.val (.ref a1), .val (.int (1 : Int32)), .val (.ref a2), .val (.int (0 : Int32)), .val (.int (3 : Int32)), .val (.int (0 : Int32)), .val (.int c1)]) rfl) ?_
  show GG _ _ _ _ _ _ _ T1 (mkF m 35 #[.val (.ref a1), .val (.int (1 : Int32)), .val (.ref a2), .val (.int (0 : Int32)), .val (.int (3 : Int32)), .val (.int (0 : Int32)), .val (.int c1)] [])
  refine own_go (fun _ => XS.iinc X1.here hx rfl (hb hby d5_35) rfl (l' := #[.val (.ref a1), .val (.int (1 : Int32)), .val (.ref a2), .val (.int (1 : Int32)), .val (.int (3 : Int32)), .val (.int (0 : Int32)), .val (.int c1)]) rfl) ?_
  show GG _ _ _ _ _ _ _ T1 (mkF m 38 #[.val (.ref a1), .val (.int (1 : Int32)), .val (.ref a2), .val (.int (1 : Int32)), .val (.int (3 : Int32)), .val (.int (0 : Int32)), .val (.int c1)] [])
  refine own_go (fun _ => XS.iinc X1.here hx rfl (hb hby d5_38) rfl (l' := #[.val (.ref a1), .val (.int (1 : Int32)), .val (.ref a2), .val (.int (1 : Int32)), .val (.int (3 : Int32)), .val (.int (1 : Int32)), .val (.int c1)]) rfl) ?_
  show GG _ _ _ _ _ _ _ T1 (mkF m 41 #[.val (.ref a1), .val (.int (1 : Int32)), .val (.ref a2), .val (.int (1 : Int32)), .val (.int (3 : Int32)), .val (.int (1 : Int32)), .val (.int c1)] [])
  refine own_go (fun _ => XS.goto X1.here hx rfl (pc0 := 41) (pc' := 3) rfl (hb hby d5_41) (by decide) (by decide)) ?_
  show GG _ _ _ _ _ _ _ T1 (mkF m 3 #[.val (.ref a1), .val (.int (1 : Int32)), .val (.ref a2), .val (.int (1 : Int32)), .val (.int (3 : Int32)), .val (.int (1 : Int32)), .val (.int c1)] [])
  refine own_go (fun _ => XS.iload X1.here hx rfl (hb hby d5_3) rfl) ?_
  show GG _ _ _ _ _ _ _ T1 (mkF m 5 #[.val (.ref a1), .val (.int (1 : Int32)), .val (.ref a2), .val (.int (1 : Int32)), .val (.int (3 : Int32)), .val (.int (1 : Int32)), .val (.int c1)] [(.int (1 : Int32))])
  refine own_go (fun _ => XS.iload X1.here hx rfl (hb hby d5_5) rfl) ?_
  show GG _ _ _ _ _ _ _ T1 (mkF m 7 #[.val (.ref a1), .val (.int (1 : Int32)), .val (.ref a2), .val (.int (1 : Int32)), .val (.int (3 : Int32)), .val (.int (1 : Int32)), .val (.int c1)] [(.int (3 : Int32)), (.int (1 : Int32))])
  have hc7 : (1 : Int32) < (3 : Int32) := by decide
  refine own_go (fun _ => XS.icmpNo X1.here hx rfl (hb hby d5_7) rfl (tlt hc7).2.1) ?_
  show GG _ _ _ _ _ _ _ T1 (mkF m 10 #[.val (.ref a1), .val (.int (1 : Int32)), .val (.ref a2), .val (.int (1 : Int32)), .val (.int (3 : Int32)), .val (.int (1 : Int32)), .val (.int c1)] [])
  refine own_go (fun _ => XS.aloadN X1.here hx rfl (hb hby d5_10) rfl rfl) ?_
  show GG _ _ _ _ _ _ _ T1 (mkF m 11 #[.val (.ref a1), .val (.int (1 : Int32)), .val (.ref a2), .val (.int (1 : Int32)), .val (.int (3 : Int32)), .val (.int (1 : Int32)), .val (.int c1)] [(.ref a1)])
  refine own_go (fun _ => XS.iloadN X1.here hx rfl (hb hby d5_11) rfl) ?_
  show GG _ _ _ _ _ _ _ T1 (mkF m 12 #[.val (.ref a1), .val (.int (1 : Int32)), .val (.ref a2), .val (.int (1 : Int32)), .val (.int (3 : Int32)), .val (.int (1 : Int32)), .val (.int c1)] [(.int (1 : Int32)), (.ref a1)])
  refine own_go (fun _ => own_caload X1 hx hZ e1 V_1 (j := (1 : Int32)) (v := (.int c2)) (by decide) rfl (g := (mkF m 12 #[.val (.ref a1), .val (.int (1 : Int32)), .val (.ref a2), .val (.int (1 : Int32)), .val (.int (3 : Int32)), .val (.int (1 : Int32)), .val (.int c1)] [(.int (1 : Int32)), (.ref a1)])) rfl rfl (hb hby d5_12) _) ?_
  show GG _ _ _ _ _ _ _ T1 (mkF m 13 #[.val (.ref a1), .val (.int (1 : Int32)), .val (.ref a2), .val (.int (1 : Int32)), .val (.int (3 : Int32)), .val (.int (1 : Int32)), .val (.int c1)] [(.int c2)])
  refine own_go (fun _ => XS.istore X1.here hx rfl (hb hby d5_13) rfl (l' := #[.val (.ref a1), .val (.int (1 : Int32)), .val (.ref a2), .val (.int (1 : Int32)), .val (.int (3 : Int32)), .val (.int (1 : Int32)), .val (.int c2)]) rfl) ?_
  show GG _ _ _ _ _ _ _ T1 (mkF m 15 #[.val (.ref a1), .val (.int (1 : Int32)), .val (.ref a2), .val (.int (1 : Int32)), .val (.int (3 : Int32)), .val (.int (1 : Int32)), .val (.int c2)] [])
  refine own_go (fun _ => XS.iload X1.here hx rfl (hb hby d5_15) rfl) ?_
  show GG _ _ _ _ _ _ _ T1 (mkF m 17 #[.val (.ref a1), .val (.int (1 : Int32)), .val (.ref a2), .val (.int (1 : Int32)), .val (.int (3 : Int32)), .val (.int (1 : Int32)), .val (.int c2)] [(.int c2)])
  refine own_go (fun _ => XS.sipush X1.here hx rfl (hb hby d5_17)) ?_
  show GG _ _ _ _ _ _ _ T1 (mkF m 20 #[.val (.ref a1), .val (.int (1 : Int32)), .val (.ref a2), .val (.int (1 : Int32)), .val (.int (3 : Int32)), .val (.int (1 : Int32)), .val (.int c2)] [(.int (255 : Int32)), (.int c2)])
  have hc20 : ¬ ((255 : Int32) < c2) := (fun q => absurd (Int32.lt_iff_toInt_lt.mp q) ((by show ¬ (255 < c2.toInt); omega : ¬ (255 < c2.toInt))))
  refine own_go (fun _ => XS.icmpYes X1.here hx rfl (pc0 := 20) (pc' := 26) rfl (hb hby d5_20) rfl (flt hc20).2.2.2 (by decide) (by decide)) ?_
  show GG _ _ _ _ _ _ _ T1 (mkF m 26 #[.val (.ref a1), .val (.int (1 : Int32)), .val (.ref a2), .val (.int (1 : Int32)), .val (.int (3 : Int32)), .val (.int (1 : Int32)), .val (.int c2)] [])
  refine own_go (fun _ => XS.aloadN X1.here hx rfl (hb hby d5_26) rfl rfl) ?_
  show GG _ _ _ _ _ _ _ T1 (mkF m 27 #[.val (.ref a1), .val (.int (1 : Int32)), .val (.ref a2), .val (.int (1 : Int32)), .val (.int (3 : Int32)), .val (.int (1 : Int32)), .val (.int c2)] [(.ref a2)])
  refine own_go (fun _ => XS.iloadN X1.here hx rfl (hb hby d5_27) rfl) ?_
  show GG _ _ _ _ _ _ _ T1 (mkF m 28 #[.val (.ref a1), .val (.int (1 : Int32)), .val (.ref a2), .val (.int (1 : Int32)), .val (.int (3 : Int32)), .val (.int (1 : Int32)), .val (.int c2)] [(.int (1 : Int32)), (.ref a2)])
  refine own_go (fun _ => XS.iload X1.here hx rfl (hb hby d5_28) rfl) ?_
  show GG _ _ _ _ _ _ _ T1 (mkF m 30 #[.val (.ref a1), .val (.int (1 : Int32)), .val (.ref a2), .val (.int (1 : Int32)), .val (.int (3 : Int32)), .val (.int (1 : Int32)), .val (.int c2)] [(.int c2), (.int (1 : Int32)), (.ref a2)])
  refine own_go (fun _ => XS.i2b X1.here hx rfl (hb hby d5_30) rfl) ?_
  show GG _ _ _ _ _ _ _ T1 (mkF m 31 #[.val (.ref a1), .val (.int (1 : Int32)), .val (.ref a2), .val (.int (1 : Int32)), .val (.int (3 : Int32)), .val (.int (1 : Int32)), .val (.int c2)] [(.int (c2.toInt8.toInt32)), (.int (1 : Int32)), (.ref a2)])
  obtain ⟨T2, h2, X2, e2, W2, V2, st2⟩ := own_bastore X1 hx hZ e1 V_2 (by decide) (Nat.le_of_ble_eq_true rfl) (g := (mkF m 31 #[.val (.ref a1), .val (.int (1 : Int32)), .val (.ref a2), .val (.int (1 : Int32)), .val (.int (3 : Int32)), .val (.int (1 : Int32)), .val (.int c2)] [(.int (c2.toInt8.toInt32)), (.int (1 : Int32)), (.ref a2)])) rfl rfl (hb hby d5_31)
  have V_1 := V_1.other W2 ne12
  have K0 := K0.wr W2 (Or.inl (List.mem_of_getElem? (i := 0) rfl))
  have V_2 : Arx Z h2 a2 .byte [(.int (nar .byte (c1.toInt8.toInt32))), (.int (nar .byte (c2.toInt8.toInt32))), (.int (0 : Int32))] := V2
  have N2 := Fr.snoc X2 N1 g_2
  refine own_go (fun _ => st2 _) ?_
  show GG _ _ _ _ _ _ _ T2 (mkF m 32 #[.val (.ref a1), .val (.int (1 : Int32)), .val (.ref a2), .val (.int (1 : Int32)), .val (.int (3 : Int32)), .val (.int (1 : Int32)), .val (.int c2)] [])
  refine own_go (fun _ => XS.iinc X2.here hx rfl (hb hby d5_32) rfl (l' := #[.val (.ref a1), .val (.int (2 : Int32)), .val (.ref a2), .val (.int (1 : Int32)), .val (.int (3 : Int32)), .val (.int (1 : Int32)), .val (.int c2)]) rfl) ?_
  show GG _ _ _ _ _ _ _ T2 (mkF m 35 #[.val (.ref a1), .val (.int (2 : Int32)), .val (.ref a2), .val (.int (1 : Int32)), .val (.int (3 : Int32)), .val (.int (1 : Int32)), .val (.int c2)] [])
  refine own_go (fun _ => XS.iinc X2.here hx rfl (hb hby d5_35) rfl (l' := #[.val (.ref a1), .val (.int (2 : Int32)), .val (.ref a2), .val (.int (2 : Int32)), .val (.int (3 : Int32)), .val (.int (1 : Int32)), .val (.int c2)]) rfl) ?_
  show GG _ _ _ _ _ _ _ T2 (mkF m 38 #[.val (.ref a1), .val (.int (2 : Int32)), .val (.ref a2), .val (.int (2 : Int32)), .val (.int (3 : Int32)), .val (.int (1 : Int32)), .val (.int c2)] [])
  refine own_go (fun _ => XS.iinc X2.here hx rfl (hb hby d5_38) rfl (l' := #[.val (.ref a1), .val (.int (2 : Int32)), .val (.ref a2), .val (.int (2 : Int32)), .val (.int (3 : Int32)), .val (.int (2 : Int32)), .val (.int c2)]) rfl) ?_
  show GG _ _ _ _ _ _ _ T2 (mkF m 41 #[.val (.ref a1), .val (.int (2 : Int32)), .val (.ref a2), .val (.int (2 : Int32)), .val (.int (3 : Int32)), .val (.int (2 : Int32)), .val (.int c2)] [])
  refine own_go (fun _ => XS.goto X2.here hx rfl (pc0 := 41) (pc' := 3) rfl (hb hby d5_41) (by decide) (by decide)) ?_
  show GG _ _ _ _ _ _ _ T2 (mkF m 3 #[.val (.ref a1), .val (.int (2 : Int32)), .val (.ref a2), .val (.int (2 : Int32)), .val (.int (3 : Int32)), .val (.int (2 : Int32)), .val (.int c2)] [])
  refine own_go (fun _ => XS.iload X2.here hx rfl (hb hby d5_3) rfl) ?_
  show GG _ _ _ _ _ _ _ T2 (mkF m 5 #[.val (.ref a1), .val (.int (2 : Int32)), .val (.ref a2), .val (.int (2 : Int32)), .val (.int (3 : Int32)), .val (.int (2 : Int32)), .val (.int c2)] [(.int (2 : Int32))])
  refine own_go (fun _ => XS.iload X2.here hx rfl (hb hby d5_5) rfl) ?_
  show GG _ _ _ _ _ _ _ T2 (mkF m 7 #[.val (.ref a1), .val (.int (2 : Int32)), .val (.ref a2), .val (.int (2 : Int32)), .val (.int (3 : Int32)), .val (.int (2 : Int32)), .val (.int c2)] [(.int (3 : Int32)), (.int (2 : Int32))])
  have hc7 : (2 : Int32) < (3 : Int32) := by decide
  refine own_go (fun _ => XS.icmpNo X2.here hx rfl (hb hby d5_7) rfl (tlt hc7).2.1) ?_
  show GG _ _ _ _ _ _ _ T2 (mkF m 10 #[.val (.ref a1), .val (.int (2 : Int32)), .val (.ref a2), .val (.int (2 : Int32)), .val (.int (3 : Int32)), .val (.int (2 : Int32)), .val (.int c2)] [])
  refine own_go (fun _ => XS.aloadN X2.here hx rfl (hb hby d5_10) rfl rfl) ?_
  show GG _ _ _ _ _ _ _ T2 (mkF m 11 #[.val (.ref a1), .val (.int (2 : Int32)), .val (.ref a2), .val (.int (2 : Int32)), .val (.int (3 : Int32)), .val (.int (2 : Int32)), .val (.int c2)] [(.ref a1)])
  refine own_go (fun _ => XS.iloadN X2.here hx rfl (hb hby d5_11) rfl) ?_
  show GG _ _ _ _ _ _ _ T2 (mkF m 12 #[.val (.ref a1), .val (.int (2 : Int32)), .val (.ref a2), .val (.int (2 : Int32)), .val (.int (3 : Int32)), .val (.int (2 : Int32)), .val (.int c2)] [(.int (2 : Int32)), (.ref a1)])
  refine own_go (fun _ => own_caload X2 hx hZ e2 V_1 (j := (2 : Int32)) (v := (.int c3)) (by decide) rfl (g := (mkF m 12 #[.val (.ref a1), .val (.int (2 : Int32)), .val (.ref a2), .val (.int (2 : Int32)), .val (.int (3 : Int32)), .val (.int (2 : Int32)), .val (.int c2)] [(.int (2 : Int32)), (.ref a1)])) rfl rfl (hb hby d5_12) _) ?_
  show GG _ _ _ _ _ _ _ T2 (mkF m 13 #[.val (.ref a1), .val (.int (2 : Int32)), .val (.ref a2), .val (.int (2 : Int32)), .val (.int (3 : Int32)), .val (.int (2 : Int32)), .val (.int c2)] [(.int c3)])
  refine own_go (fun _ => XS.istore X2.here hx rfl (hb hby d5_13) rfl (l' := #[.val (.ref a1), .val (.int (2 : Int32)), .val (.ref a2), .val (.int (2 : Int32)), .val (.int (3 : Int32)), .val (.int (2 : Int32)), .val (.int c3)]) rfl) ?_
  show GG _ _ _ _ _ _ _ T2 (mkF m 15 #[.val (.ref a1), .val (.int (2 : Int32)), .val (.ref a2), .val (.int (2 : Int32)), .val (.int (3 : Int32)), .val (.int (2 : Int32)), .val (.int c3)] [])
  refine own_go (fun _ => XS.iload X2.here hx rfl (hb hby d5_15) rfl) ?_
  show GG _ _ _ _ _ _ _ T2 (mkF m 17 #[.val (.ref a1), .val (.int (2 : Int32)), .val (.ref a2), .val (.int (2 : Int32)), .val (.int (3 : Int32)), .val (.int (2 : Int32)), .val (.int c3)] [(.int c3)])
  refine own_go (fun _ => XS.sipush X2.here hx rfl (hb hby d5_17)) ?_
  show GG _ _ _ _ _ _ _ T2 (mkF m 20 #[.val (.ref a1), .val (.int (2 : Int32)), .val (.ref a2), .val (.int (2 : Int32)), .val (.int (3 : Int32)), .val (.int (2 : Int32)), .val (.int c3)] [(.int (255 : Int32)), (.int c3)])
  have hc20 : ¬ ((255 : Int32) < c3) := (fun q => absurd (Int32.lt_iff_toInt_lt.mp q) ((by show ¬ (255 < c3.toInt); omega : ¬ (255 < c3.toInt))))
  refine own_go (fun _ => XS.icmpYes X2.here hx rfl (pc0 := 20) (pc' := 26) rfl (hb hby d5_20) rfl (flt hc20).2.2.2 (by decide) (by decide)) ?_
  show GG _ _ _ _ _ _ _ T2 (mkF m 26 #[.val (.ref a1), .val (.int (2 : Int32)), .val (.ref a2), .val (.int (2 : Int32)), .val (.int (3 : Int32)), .val (.int (2 : Int32)), .val (.int c3)] [])
  refine own_go (fun _ => XS.aloadN X2.here hx rfl (hb hby d5_26) rfl rfl) ?_
  show GG _ _ _ _ _ _ _ T2 (mkF m 27 #[.val (.ref a1), .val (.int (2 : Int32)), .val (.ref a2), .val (.int (2 : Int32)), .val (.int (3 : Int32)), .val (.int (2 : Int32)), .val (.int c3)] [(.ref a2)])
  refine own_go (fun _ => XS.iloadN X2.here hx rfl (hb hby d5_27) rfl) ?_
  show GG _ _ _ _ _ _ _ T2 (mkF m 28 #[.val (.ref a1), .val (.int (2 : Int32)), .val (.ref a2), .val (.int (2 : Int32)), .val (.int (3 : Int32)), .val (.int (2 : Int32)), .val (.int c3)] [(.int (2 : Int32)), (.ref a2)])
  refine own_go (fun _ => XS.iload X2.here hx rfl (hb hby d5_28) rfl) ?_
  show GG _ _ _ _ _ _ _ T2 (mkF m 30 #[.val (.ref a1), .val (.int (2 : Int32)), .val (.ref a2), .val (.int (2 : Int32)), .val (.int (3 : Int32)), .val (.int (2 : Int32)), .val (.int c3)] [(.int c3), (.int (2 : Int32)), (.ref a2)])
  refine own_go (fun _ => XS.i2b X2.here hx rfl (hb hby d5_30) rfl) ?_
  show GG _ _ _ _ _ _ _ T2 (mkF m 31 #[.val (.ref a1), .val (.int (2 : Int32)), .val (.ref a2), .val (.int (2 : Int32)), .val (.int (3 : Int32)), .val (.int (2 : Int32)), .val (.int c3)] [(.int (c3.toInt8.toInt32)), (.int (2 : Int32)), (.ref a2)])
  obtain ⟨T3, h3, X3, e3, W3, V3, st3⟩ := own_bastore X2 hx hZ e2 V_2 (by decide) (Nat.le_of_ble_eq_true rfl) (g := (mkF m 31 #[.val (.ref a1), .val (.int (2 : Int32)), .val (.ref a2), .val (.int (2 : Int32)), .val (.int (3 : Int32)), .val (.int (2 : Int32)), .val (.int c3)] [(.int (c3.toInt8.toInt32)), (.int (2 : Int32)), (.ref a2)])) rfl rfl (hb hby d5_31)
  have V_1 := V_1.other W3 ne12
  have K0 := K0.wr W3 (Or.inl (List.mem_of_getElem? (i := 0) rfl))
  have V_2 : Arx Z h3 a2 .byte [(.int (nar .byte (c1.toInt8.toInt32))), (.int (nar .byte (c2.toInt8.toInt32))), (.int (nar .byte (c3.toInt8.toInt32)))] := V3
  have N3 := Fr.snoc X3 N2 g_2
  refine own_go (fun _ => st3 _) ?_
  show GG _ _ _ _ _ _ _ T3 (mkF m 32 #[.val (.ref a1), .val (.int (2 : Int32)), .val (.ref a2), .val (.int (2 : Int32)), .val (.int (3 : Int32)), .val (.int (2 : Int32)), .val (.int c3)] [])
  refine own_go (fun _ => XS.iinc X3.here hx rfl (hb hby d5_32) rfl (l' := #[.val (.ref a1), .val (.int (3 : Int32)), .val (.ref a2), .val (.int (2 : Int32)), .val (.int (3 : Int32)), .val (.int (2 : Int32)), .val (.int c3)]) rfl) ?_
  show GG _ _ _ _ _ _ _ T3 (mkF m 35 #[.val (.ref a1), .val (.int (3 : Int32)), .val (.ref a2), .val (.int (2 : Int32)), .val (.int (3 : Int32)), .val (.int (2 : Int32)), .val (.int c3)] [])
  refine own_go (fun _ => XS.iinc X3.here hx rfl (hb hby d5_35) rfl (l' := #[.val (.ref a1), .val (.int (3 : Int32)), .val (.ref a2), .val (.int (3 : Int32)), .val (.int (3 : Int32)), .val (.int (2 : Int32)), .val (.int c3)]) rfl) ?_
  show GG _ _ _ _ _ _ _ T3 (mkF m 38 #[.val (.ref a1), .val (.int (3 : Int32)), .val (.ref a2), .val (.int (3 : Int32)), .val (.int (3 : Int32)), .val (.int (2 : Int32)), .val (.int c3)] [])
  refine own_go (fun _ => XS.iinc X3.here hx rfl (hb hby d5_38) rfl (l' := #[.val (.ref a1), .val (.int (3 : Int32)), .val (.ref a2), .val (.int (3 : Int32)), .val (.int (3 : Int32)), .val (.int (3 : Int32)), .val (.int c3)]) rfl) ?_
  show GG _ _ _ _ _ _ _ T3 (mkF m 41 #[.val (.ref a1), .val (.int (3 : Int32)), .val (.ref a2), .val (.int (3 : Int32)), .val (.int (3 : Int32)), .val (.int (3 : Int32)), .val (.int c3)] [])
  refine own_go (fun _ => XS.goto X3.here hx rfl (pc0 := 41) (pc' := 3) rfl (hb hby d5_41) (by decide) (by decide)) ?_
  show GG _ _ _ _ _ _ _ T3 (mkF m 3 #[.val (.ref a1), .val (.int (3 : Int32)), .val (.ref a2), .val (.int (3 : Int32)), .val (.int (3 : Int32)), .val (.int (3 : Int32)), .val (.int c3)] [])
  refine own_go (fun _ => XS.iload X3.here hx rfl (hb hby d5_3) rfl) ?_
  show GG _ _ _ _ _ _ _ T3 (mkF m 5 #[.val (.ref a1), .val (.int (3 : Int32)), .val (.ref a2), .val (.int (3 : Int32)), .val (.int (3 : Int32)), .val (.int (3 : Int32)), .val (.int c3)] [(.int (3 : Int32))])
  refine own_go (fun _ => XS.iload X3.here hx rfl (hb hby d5_5) rfl) ?_
  show GG _ _ _ _ _ _ _ T3 (mkF m 7 #[.val (.ref a1), .val (.int (3 : Int32)), .val (.ref a2), .val (.int (3 : Int32)), .val (.int (3 : Int32)), .val (.int (3 : Int32)), .val (.int c3)] [(.int (3 : Int32)), (.int (3 : Int32))])
  have hc7 : ¬ ((3 : Int32) < (3 : Int32)) := by decide
  refine own_go (fun _ => XS.icmpYes X3.here hx rfl (pc0 := 7) (pc' := 44) rfl (hb hby d5_7) rfl (flt hc7).2.1 (by decide) (by decide)) ?_
  show GG _ _ _ _ _ _ _ T3 (mkF m 44 #[.val (.ref a1), .val (.int (3 : Int32)), .val (.ref a2), .val (.int (3 : Int32)), .val (.int (3 : Int32)), .val (.int (3 : Int32)), .val (.int c3)] [])
  refine own_go (fun _ => XS.iload X3.here hx rfl (hb hby d5_44) rfl) ?_
  show GG _ _ _ _ _ _ _ T3 (mkF m 46 #[.val (.ref a1), .val (.int (3 : Int32)), .val (.ref a2), .val (.int (3 : Int32)), .val (.int (3 : Int32)), .val (.int (3 : Int32)), .val (.int c3)] [(.int (3 : Int32))])
  refine own_ret X3 hx hlk (t := .int) (w := (.int (3 : Int32))) Bd.returns rfl (Or.inl ⟨rfl, by simp, _, rfl⟩) (hb hby d5_46) (by decide) (by decide) ?_
  show Q5 Z a1 a2 c1 c2 c3 h0 n0 (some (.int (3 : Int32))) T3.heap _
  rw [e3]
  exact ⟨rfl, N3, K0, _, _, _, V_2⟩
theorem pd___CI_BII_I_688 : parseMethodDescriptor "([CI[BII)I" = some ⟨[(.array .char), .int, (.array .byte), .int, .int], some .int⟩ := by decide +kernel
theorem d4_0 : decode jdk_52_method_16_code 0 = .ok (.iload_n 2, 1) := by decide +kernel
theorem d4_1 : decode jdk_52_method_16_code 1 = .ok (.newarray .byte, 2) := by decide +kernel
theorem d4_3 : decode jdk_52_method_16_code 3 = .ok (.astore_n 3, 1) := by decide +kernel
theorem d4_4 : decode jdk_52_method_16_code 4 = .ok (.aload_n 0, 1) := by decide +kernel
theorem d4_5 : decode jdk_52_method_16_code 5 = .ok (.iload_n 1, 1) := by decide +kernel
theorem d4_6 : decode jdk_52_method_16_code 6 = .ok (.aload_n 3, 1) := by decide +kernel
theorem d4_7 : decode jdk_52_method_16_code 7 = .ok (.iconst 0, 1) := by decide +kernel
theorem d4_8 : decode jdk_52_method_16_code 8 = .ok (.iload_n 2, 1) := by decide +kernel
theorem d4_9 : decode jdk_52_method_16_code 9 = .ok (.invokestatic 115, 3) := by decide +kernel
theorem d4_12 : decode jdk_52_method_16_code 12 = .ok (.istore 4, 2) := by decide +kernel
theorem d4_14 : decode jdk_52_method_16_code 14 = .ok (.iload 4, 2) := by decide +kernel
theorem d4_16 : decode jdk_52_method_16_code 16 = .ok (.iload_n 2, 1) := by decide +kernel
theorem d4_17 : decode jdk_52_method_16_code 17 = .ok (.if_icmp .eq 40, 3) := by decide +kernel
theorem d4_57 : decode jdk_52_method_16_code 57 = .ok (.aload_n 3, 1) := by decide +kernel
theorem d4_58 : decode jdk_52_method_16_code 58 = .ok (.areturn, 1) := by decide +kernel
theorem ef_4 (m : MethodId) (x0 : Addr) (x1 : Int32) (x2 : Int32) : entryFrame m #[(.ref x0), (.int x1), (.int x2)] 6 = mkF m 0 #[.val (.ref x0), .val (.int x1), .val (.int x2), .unset, .unset, .unset] [] := by first | (simp [entryFrame, mkF, argsToLocals, Value.category]; done) | rfl
def Q4 (Z : State) (a1 : Addr) (c1 c2 c3 : Int32) (h0 : Heap) (n0 : Nat) (v : Option Value) (h : Heap) (L : List Loc) : Prop := ∃ b, v = some (.ref b) ∧ Fr n0 L ∧ h0.size ≤ b ∧ Keep h0 h [] ∧ ∃ z1 z2 z3 : Int32, Arx Z h b .byte [(.int z1), (.int z2), (.int z3)]
set_option maxRecDepth 65536 in
set_option maxHeartbeats 40000000 in
theorem rm4 (l : Launch) (Z : State) (a0 : Array Value) (hw : ∀ d ∈ tables_1, d.before a0 Z = true) (ws : List Jvm.Cond) (a1 : Addr) (c1 c2 c3 : Int32) (h0 : Heap) (n0 : Nat) (Z0 : n0 ≤ h0.size) (hbn : (0 ≤ c1.toInt ∧ c1.toInt < 256) ∧ (0 ≤ c2.toInt ∧ c2.toInt < 256) ∧ (0 ≤ c3.toInt ∧ c3.toInt < 256)) (V_1 : Arx Z h0 a1 .char [(.int c1), (.int c2), (.int c3)]) :
    own_CT l Z (⟨"java/lang/StringUTF16", "compress", "([CII)[B"⟩ : MethodName) jdk_52_method_16_code 6 (some (.array .byte)) ws ({ frames := 1, cells := 1, slots := 3, locals := 18 } : Room) #[(.ref a1), (.int (0 : Int32)), (.int (3 : Int32))] h0 (Q4 Z a1 c1 c2 c3 h0 n0) := by
  refine MetFree.of_bodySF (plainFor_of_name pn_java_lang_StringUTF16) hisR ?_
  intro p e s m args below meth c s₁ Bd hml0 hP hK
  obtain ⟨rfl, hZ, hh⟩ := hP
  have hx := Bd.exec
  have hby := Bd.bytes
  have hml : c.maxLocals = 6 := hml0
  have hown : s.vm.findClass "java/lang/StringUTF16" = some m.cls := findClass_of_methodNamed Bd.named
  have hnm := (name_of_methodNamed Bd.named Bd.method).1
  have hlk : meth.locks = false := BodyLoose.notSynchronized Bd
  have X0 : Stand p l e ({ frames := 1, cells := 1, slots := 3, locals := 18 } : Room) s m #[(.ref a1), (.int (0 : Int32)), (.int (3 : Int32))] below meth c s₁ [] 0 0 := Stand.of_body Bd
  have e0 : s₁.heap = h0 := by rw [← hh, Bd.state]; rfl
  have N0 := Fr.nil n0
  show GG p e below s ({ frames := 1, cells := 1, slots := 3, locals := 18 } : Room).cells ({ frames := 1, cells := 1, slots := 3, locals := 18 } : Room).slots (Q4 Z a1 c1 c2 c3 h0 n0) s₁ (entryFrame m #[(.ref a1), (.int (0 : Int32)), (.int (3 : Int32))] 6)
  refine own_in (ef_4 m a1 (0 : Int32) (3 : Int32)) ?_
  have K0 := Keep.refl h0 []
  show GG _ _ _ _ _ _ _ s₁ (mkF m 0 #[.val (.ref a1), .val (.int (0 : Int32)), .val (.int (3 : Int32)), .unset, .unset, .unset] [])
  refine own_go (fun _ => XS.iloadN X0.here hx rfl (hb hby d4_0) rfl) ?_
  show GG _ _ _ _ _ _ _ s₁ (mkF m 1 #[.val (.ref a1), .val (.int (0 : Int32)), .val (.int (3 : Int32)), .unset, .unset, .unset] [(.int (3 : Int32))])
  obtain ⟨T1, h1, ob1, g1, X1, e1, E1, V_ob1, E_ob1, st1⟩ := own_newarr X0 hx hZ (hw _ (List.mem_of_getElem? (i := 0) rfl)) e0 (g := (mkF m 1 #[.val (.ref a1), .val (.int (0 : Int32)), .val (.int (3 : Int32)), .unset, .unset, .unset] [(.int (3 : Int32))])) rfl (hb hby d4_1) rfl (by decide) (cap := 3) (by decide) (by decide) (by decide) (by decide) (ad := "[B") (by decide)
  have ne_a1_ob1 : a1 ≠ ob1 := Nat.ne_of_lt (Nat.lt_of_lt_of_le V_1.lt (Nat.le_of_eq g1.symm))
  have sz_ob1 : h0.size ≤ ob1 := Nat.le_trans K0.1 (Nat.le_of_eq g1.symm)
  have g_ob1 : n0 ≤ ob1 := Nat.le_trans Z0 sz_ob1
  have V_1 := V_1.ext E1
  have K0 := K0.ext E1
  have V_ob1 : Arx Z h1 ob1 .byte [(.int (0 : Int32)), (.int (0 : Int32)), (.int (0 : Int32))] := V_ob1
  refine own_go (fun _ => st1 _) ?_
  show GG _ _ _ _ _ _ _ T1 (mkF m 3 #[.val (.ref a1), .val (.int (0 : Int32)), .val (.int (3 : Int32)), .unset, .unset, .unset] [(.ref ob1)])
  refine own_go (fun _ => XS.astoreN X1.here hx rfl (hb hby d4_3) rfl rfl (l' := #[.val (.ref a1), .val (.int (0 : Int32)), .val (.int (3 : Int32)), .val (.ref ob1), .unset, .unset]) rfl) ?_
  show GG _ _ _ _ _ _ _ T1 (mkF m 4 #[.val (.ref a1), .val (.int (0 : Int32)), .val (.int (3 : Int32)), .val (.ref ob1), .unset, .unset] [])
  refine own_go (fun _ => XS.aloadN X1.here hx rfl (hb hby d4_4) rfl rfl) ?_
  show GG _ _ _ _ _ _ _ T1 (mkF m 5 #[.val (.ref a1), .val (.int (0 : Int32)), .val (.int (3 : Int32)), .val (.ref ob1), .unset, .unset] [(.ref a1)])
  refine own_go (fun _ => XS.iloadN X1.here hx rfl (hb hby d4_5) rfl) ?_
  show GG _ _ _ _ _ _ _ T1 (mkF m 6 #[.val (.ref a1), .val (.int (0 : Int32)), .val (.int (3 : Int32)), .val (.ref ob1), .unset, .unset] [(.int (0 : Int32)), (.ref a1)])
  refine own_go (fun _ => XS.aloadN X1.here hx rfl (hb hby d4_6) rfl rfl) ?_
  show GG _ _ _ _ _ _ _ T1 (mkF m 7 #[.val (.ref a1), .val (.int (0 : Int32)), .val (.int (3 : Int32)), .val (.ref ob1), .unset, .unset] [(.ref ob1), (.int (0 : Int32)), (.ref a1)])
  refine own_go (fun _ => XS.iconst X1.here hx rfl (hb hby d4_7)) ?_
  show GG _ _ _ _ _ _ _ T1 (mkF m 8 #[.val (.ref a1), .val (.int (0 : Int32)), .val (.int (3 : Int32)), .val (.ref ob1), .unset, .unset] [(.int (0 : Int32)), (.ref ob1), (.int (0 : Int32)), (.ref a1)])
  refine own_go (fun _ => XS.iloadN X1.here hx rfl (hb hby d4_8) rfl) ?_
  show GG _ _ _ _ _ _ _ T1 (mkF m 9 #[.val (.ref a1), .val (.int (0 : Int32)), .val (.int (3 : Int32)), .val (.ref ob1), .unset, .unset] [(.int (3 : Int32)), (.int (0 : Int32)), (.ref ob1), (.int (0 : Int32)), (.ref a1)])
  refine own_callS X1 hx hZ (y := (⟨"java/lang/StringUTF16", "compress", "([CI[BII)I"⟩ : MethodName)) 0 hown (hw _ (List.mem_of_getElem? (i := 20) rfl)) (hw _ (List.mem_of_getElem? (i := 21) rfl)) (hw _ (List.mem_of_getElem? (i := 18) rfl)) (hw _ (List.mem_of_getElem? (i := 22) rfl)) (by decide) (argsL := [(.ref a1), (.int (0 : Int32)), (.ref ob1), (.int (0 : Int32)), (.int (3 : Int32))]) (rest := []) (rm5 l Z a0 hw [] a1 ob1 c1 c2 c3 h1 n0 (Nat.le_trans Z0 K0.1) hbn V_1 V_ob1 ne_a1_ob1 g_ob1) (by decide) (by decide) (by decide) (by decide) (g := (mkF m 9 #[.val (.ref a1), .val (.int (0 : Int32)), .val (.int (3 : Int32)), .val (.ref ob1), .unset, .unset] [(.int (3 : Int32)), (.int (0 : Int32)), (.ref ob1), (.int (0 : Int32)), (.ref a1)])) rfl (by rw [hml]; rfl) (lenOf pd___CI_BII_I_688 rfl) rfl (by show 2 * 0 + _ ≤ _; exact Nat.le_of_eq rfl) (hb hby d4_9) e1 ?_
  rintro v2 T2 L2 X2 ⟨rfl, N2q, Kq2, zq2_1, zq2_2, zq2_3, Vq2⟩
  have N2 := Fr.app N0 N2q
  have V_1 := V_1.keep Kq2 (ninS ne_a1_ob1 nin0)
  have K0 := K0.trans Kq2 (allS (Or.inr sz_ob1) all0)
  have E_ob1 := E_ob1.keep Kq2
  show GG _ _ _ _ _ _ _ T2 (mkF m 12 #[.val (.ref a1), .val (.int (0 : Int32)), .val (.int (3 : Int32)), .val (.ref ob1), .unset, .unset] [(.int (3 : Int32))])
  refine own_go (fun _ => XS.istore X2.here hx rfl (hb hby d4_12) rfl (l' := #[.val (.ref a1), .val (.int (0 : Int32)), .val (.int (3 : Int32)), .val (.ref ob1), .val (.int (3 : Int32)), .unset]) rfl) ?_
  show GG _ _ _ _ _ _ _ T2 (mkF m 14 #[.val (.ref a1), .val (.int (0 : Int32)), .val (.int (3 : Int32)), .val (.ref ob1), .val (.int (3 : Int32)), .unset] [])
  refine own_go (fun _ => XS.iload X2.here hx rfl (hb hby d4_14) rfl) ?_
  show GG _ _ _ _ _ _ _ T2 (mkF m 16 #[.val (.ref a1), .val (.int (0 : Int32)), .val (.int (3 : Int32)), .val (.ref ob1), .val (.int (3 : Int32)), .unset] [(.int (3 : Int32))])
  refine own_go (fun _ => XS.iloadN X2.here hx rfl (hb hby d4_16) rfl) ?_
  show GG _ _ _ _ _ _ _ T2 (mkF m 17 #[.val (.ref a1), .val (.int (0 : Int32)), .val (.int (3 : Int32)), .val (.ref ob1), .val (.int (3 : Int32)), .unset] [(.int (3 : Int32)), (.int (3 : Int32))])
  have hc17 : (3 : Int32) = (3 : Int32) := by decide
  refine own_go (fun _ => XS.icmpYes X2.here hx rfl (pc0 := 17) (pc' := 57) rfl (hb hby d4_17) rfl (teq hc17).1 (by decide) (by decide)) ?_
  show GG _ _ _ _ _ _ _ T2 (mkF m 57 #[.val (.ref a1), .val (.int (0 : Int32)), .val (.int (3 : Int32)), .val (.ref ob1), .val (.int (3 : Int32)), .unset] [])
  refine own_go (fun _ => XS.aloadN X2.here hx rfl (hb hby d4_57) rfl rfl) ?_
  show GG _ _ _ _ _ _ _ T2 (mkF m 58 #[.val (.ref a1), .val (.int (0 : Int32)), .val (.int (3 : Int32)), .val (.ref ob1), .val (.int (3 : Int32)), .unset] [(.ref ob1)])
  refine own_ret X2 hx hlk (t := (.array .byte)) (w := (.ref ob1)) Bd.returns rfl (Or.inr (Or.inr (Or.inr (Or.inr ⟨rfl, rfl, rfl⟩)))) (hb hby d4_58) (by decide) (by decide) ?_
  show Q4 Z a1 c1 c2 c3 h0 n0 (some (.ref ob1)) T2.heap _
  exact ⟨_, rfl, N2, sz_ob1, K0, _, _, _, Vq2⟩
theorem d6_0 : decode jdk_52_method_15_code 0 = .ok (.iload_n 1, 1) := by decide +kernel
theorem d6_1 : decode jdk_52_method_15_code 1 = .ok (.aload_n 0, 1) := by decide +kernel
theorem d6_2 : decode jdk_52_method_15_code 2 = .ok (.arraylength, 1) := by decide +kernel
theorem d6_3 : decode jdk_52_method_15_code 3 = .ok (.isub, 1) := by decide +kernel
theorem d6_4 : decode jdk_52_method_15_code 4 = .ok (.bipush 31, 2) := by decide +kernel
theorem d6_6 : decode jdk_52_method_15_code 6 = .ok (.iushr, 1) := by decide +kernel
theorem d6_7 : decode jdk_52_method_15_code 7 = .ok (.i2b, 1) := by decide +kernel
theorem d6_8 : decode jdk_52_method_15_code 8 = .ok (.ireturn, 1) := by decide +kernel
theorem ef_6 (m : MethodId) (x0 : Addr) (x1 : Int32) : entryFrame m #[(.ref x0), (.int x1)] 2 = mkF m 0 #[.val (.ref x0), .val (.int x1)] [] := by first | (simp [entryFrame, mkF, argsToLocals, Value.category]; done) | rfl
def Q6 (Z : State) (a1 : Addr) (z1 z2 z3 : Int32) (h0 : Heap) (n0 : Nat) (v : Option Value) (h : Heap) (L : List Loc) : Prop := v = some (.int 0) ∧ Fr n0 L ∧ h = h0
set_option maxRecDepth 65536 in
set_option maxHeartbeats 40000000 in
theorem rm6 (l : Launch) (Z : State) (a0 : Array Value) (hw : ∀ d ∈ tables_1, d.before a0 Z = true) (ws : List Jvm.Cond) (a1 : Addr) (z1 z2 z3 : Int32) (h0 : Heap) (n0 : Nat) (Z0 : n0 ≤ h0.size) (V_1 : Arx Z h0 a1 .byte [(.int z1), (.int z2), (.int z3)]) :
    own_CT l Z (⟨"java/lang/StringUTF16", "coderFromArrayLen", "([BI)B"⟩ : MethodName) jdk_52_method_15_code 2 (some .byte) ws ({ frames := 0, cells := 0, slots := 0, locals := 0 } : Room) #[(.ref a1), (.int (3 : Int32))] h0 (Q6 Z a1 z1 z2 z3 h0 n0) := by
  refine MetFree.of_bodySF (plainFor_of_name pn_java_lang_StringUTF16) hisR ?_
  intro p e s m args below meth c s₁ Bd hml0 hP hK
  obtain ⟨rfl, hZ, hh⟩ := hP
  have hx := Bd.exec
  have hby := Bd.bytes
  have hml : c.maxLocals = 2 := hml0
  have hown : s.vm.findClass "java/lang/StringUTF16" = some m.cls := findClass_of_methodNamed Bd.named
  have hnm := (name_of_methodNamed Bd.named Bd.method).1
  have hlk : meth.locks = false := BodyLoose.notSynchronized Bd
  have X0 : Stand p l e ({ frames := 0, cells := 0, slots := 0, locals := 0 } : Room) s m #[(.ref a1), (.int (3 : Int32))] below meth c s₁ [] 0 0 := Stand.of_body Bd
  have e0 : s₁.heap = h0 := by rw [← hh, Bd.state]; rfl
  have N0 := Fr.nil n0
  show GG p e below s ({ frames := 0, cells := 0, slots := 0, locals := 0 } : Room).cells ({ frames := 0, cells := 0, slots := 0, locals := 0 } : Room).slots (Q6 Z a1 z1 z2 z3 h0 n0) s₁ (entryFrame m #[(.ref a1), (.int (3 : Int32))] 2)
  refine own_in (ef_6 m a1 (3 : Int32)) ?_
  show GG _ _ _ _ _ _ _ s₁ (mkF m 0 #[.val (.ref a1), .val (.int (3 : Int32))] [])
  refine own_go (fun _ => XS.iloadN X0.here hx rfl (hb hby d6_0) rfl) ?_
  show GG _ _ _ _ _ _ _ s₁ (mkF m 1 #[.val (.ref a1), .val (.int (3 : Int32))] [(.int (3 : Int32))])
  refine own_go (fun _ => XS.aloadN X0.here hx rfl (hb hby d6_1) rfl rfl) ?_
  show GG _ _ _ _ _ _ _ s₁ (mkF m 2 #[.val (.ref a1), .val (.int (3 : Int32))] [(.ref a1), (.int (3 : Int32))])
  refine own_go (fun _ => own_len X0 hx hZ e0 V_1 (g := (mkF m 2 #[.val (.ref a1), .val (.int (3 : Int32))] [(.ref a1), (.int (3 : Int32))])) rfl rfl (hb hby d6_2) _) ?_
  show GG _ _ _ _ _ _ _ s₁ (mkF m 3 #[.val (.ref a1), .val (.int (3 : Int32))] [(.int (3 : Int32)), (.int (3 : Int32))])
  refine own_go (fun _ => XS.isub X0.here hx rfl (hb hby d6_3) rfl) ?_
  show GG _ _ _ _ _ _ _ s₁ (mkF m 4 #[.val (.ref a1), .val (.int (3 : Int32))] [(.int (0 : Int32))])
  refine own_go (fun _ => XS.bipush X0.here hx rfl (hb hby d6_4)) ?_
  show GG _ _ _ _ _ _ _ s₁ (mkF m 6 #[.val (.ref a1), .val (.int (3 : Int32))] [(.int (31 : Int32)), (.int (0 : Int32))])
  refine own_go (fun _ => XS.iushr X0.here hx rfl (hb hby d6_6) rfl) ?_
  show GG _ _ _ _ _ _ _ s₁ (mkF m 7 #[.val (.ref a1), .val (.int (3 : Int32))] [(.int (0 : Int32))])
  refine own_go (fun _ => XS.i2b X0.here hx rfl (hb hby d6_7) rfl) ?_
  show GG _ _ _ _ _ _ _ s₁ (mkF m 8 #[.val (.ref a1), .val (.int (3 : Int32))] [(.int (0 : Int32))])
  refine own_ret X0 hx hlk (t := .byte) (w := (.int (0 : Int32))) Bd.returns rfl (Or.inl ⟨rfl, by simp, _, rfl⟩) (hb hby d6_8) (by decide) (by decide) ?_
  show Q6 Z a1 z1 z2 z3 h0 n0 (some (.int (0 : Int32))) s₁.heap _
  rw [e0]
  exact ⟨rfl, N0, rfl⟩
theorem pd___CII__B_542 : parseMethodDescriptor "([CII)[B" = some ⟨[(.array .char), .int, .int], some (.array .byte)⟩ := by decide +kernel
theorem pd___BI_B_377 : parseMethodDescriptor "([BI)B" = some ⟨[(.array .byte), .int], some .byte⟩ := by decide +kernel
theorem d2_0 : decode jdk_42_method_149_code 0 = .ok (.aload_n 0, 1) := by decide +kernel
theorem d2_1 : decode jdk_42_method_149_code 1 = .ok (.invokespecial 1, 3) := by decide +kernel
theorem d2_4 : decode jdk_42_method_149_code 4 = .ok (.iload_n 3, 1) := by decide +kernel
theorem d2_5 : decode jdk_42_method_149_code 5 = .ok (.ifCond .ne 22, 3) := by decide +kernel
theorem d2_27 : decode jdk_42_method_149_code 27 = .ok (.getstatic 38, 3) := by decide +kernel
theorem d2_30 : decode jdk_42_method_149_code 30 = .ok (.ifCond .eq 28, 3) := by decide +kernel
theorem d2_33 : decode jdk_42_method_149_code 33 = .ok (.aload_n 1, 1) := by decide +kernel
theorem d2_34 : decode jdk_42_method_149_code 34 = .ok (.iload_n 2, 1) := by decide +kernel
theorem d2_35 : decode jdk_42_method_149_code 35 = .ok (.iload_n 3, 1) := by decide +kernel
theorem d2_36 : decode jdk_42_method_149_code 36 = .ok (.invokestatic 177, 3) := by decide +kernel
theorem d2_39 : decode jdk_42_method_149_code 39 = .ok (.astore 5, 2) := by decide +kernel
theorem d2_41 : decode jdk_42_method_149_code 41 = .ok (.aload_n 0, 1) := by decide +kernel
theorem d2_42 : decode jdk_42_method_149_code 42 = .ok (.aload 5, 2) := by decide +kernel
theorem d2_44 : decode jdk_42_method_149_code 44 = .ok (.iload_n 3, 1) := by decide +kernel
theorem d2_45 : decode jdk_42_method_149_code 45 = .ok (.invokestatic 47, 3) := by decide +kernel
theorem d2_48 : decode jdk_42_method_149_code 48 = .ok (.putfield 15, 3) := by decide +kernel
theorem d2_51 : decode jdk_42_method_149_code 51 = .ok (.aload_n 0, 1) := by decide +kernel
theorem d2_52 : decode jdk_42_method_149_code 52 = .ok (.aload 5, 2) := by decide +kernel
theorem d2_54 : decode jdk_42_method_149_code 54 = .ok (.putfield 9, 3) := by decide +kernel
theorem d2_57 : decode jdk_42_method_149_code 57 = .ok (.return_, 1) := by decide +kernel
theorem pn_java_lang_String : plainName "java/lang/String" = true := by first | (simp [plainName, overriddenIn]; done) | decide +kernel
theorem ef_2 (m : MethodId) (x0 : Addr) (x1 : Addr) (x2 : Int32) (x3 : Int32) : entryFrame m #[(.ref x0), (.ref x1), (.int x2), (.int x3), .null] 6 = mkF m 0 #[.val (.ref x0), .val (.ref x1), .val (.int x2), .val (.int x3), .val .null, .unset] [] := by first | (simp [entryFrame, mkF, argsToLocals, Value.category]; done) | rfl
def Q2 (Z : State) (a1 : Addr) (a2 : Addr) (zc c1 c2 c3 : Int32) (h0 : Heap) (n0 : Nat) (v : Option Value) (h : Heap) (L : List Loc) : Prop := v = none ∧ Fr n0 L ∧ Keep h0 h [a1] ∧ Exa Z h a1 "java/lang/String" ∧ ∃ (b : Addr) (z1 z2 z3 : Int32), Fld Z h a1 "java/lang/String" "value" "[B" (.ref b) ∧ Fld Z h a1 "java/lang/String" "coder" "B" (.int 0) ∧ Arx Z h b .byte [(.int z1), (.int z2), (.int z3)]
set_option maxRecDepth 65536 in
set_option maxHeartbeats 40000000 in
theorem rm2 (l : Launch) (Z : State) (a0 : Array Value) (hw : ∀ d ∈ tables_1, d.before a0 Z = true) (ws : List Jvm.Cond) (a1 : Addr) (a2 : Addr) (zc c1 c2 c3 : Int32) (h0 : Heap) (n0 : Nat) (Z0 : n0 ≤ h0.size) (O0 : Old Z n0 h0) (S_c : Sta Z Z.heap "java/lang/String" "COMPACT_STRINGS" "Z" (.int zc)) (hz : zc ≠ 0) (hbn : (0 ≤ c1.toInt ∧ c1.toInt < 256) ∧ (0 ≤ c2.toInt ∧ c2.toInt < 256) ∧ (0 ≤ c3.toInt ∧ c3.toInt < 256)) (V_2 : Arx Z h0 a2 .char [(.int c1), (.int c2), (.int c3)]) (E_1 : Exa Z h0 a1 "java/lang/String") (F_v : Fld Z h0 a1 "java/lang/String" "value" "[B" .null) (F_c : Fld Z h0 a1 "java/lang/String" "coder" "B" (.int (0 : Int32))) (g_1 : n0 ≤ a1) (ne12 : a1 ≠ a2) :
    own_CT l Z (⟨"java/lang/String", "<init>", "([CIILjava/lang/Void;)V"⟩ : MethodName) jdk_42_method_149_code 6 none ws ({ frames := 2, cells := 1, slots := 3, locals := 35 } : Room) #[(.ref a1), (.ref a2), (.int (0 : Int32)), (.int (3 : Int32)), .null] h0 (Q2 Z a1 a2 zc c1 c2 c3 h0 n0) := by
  refine MetFree.of_bodySF (plainFor_of_name pn_java_lang_String) hisR ?_
  intro p e s m args below meth c s₁ Bd hml0 hP hK
  obtain ⟨rfl, hZ, hh⟩ := hP
  have hx := Bd.exec
  have hby := Bd.bytes
  have hml : c.maxLocals = 6 := hml0
  have hown : s.vm.findClass "java/lang/String" = some m.cls := findClass_of_methodNamed Bd.named
  have hnm := (name_of_methodNamed Bd.named Bd.method).1
  have hlk : meth.locks = false := BodyLoose.notSynchronized Bd
  have X0 : Stand p l e ({ frames := 2, cells := 1, slots := 3, locals := 35 } : Room) s m #[(.ref a1), (.ref a2), (.int (0 : Int32)), (.int (3 : Int32)), .null] below meth c s₁ [] 0 0 := Stand.of_body Bd
  have e0 : s₁.heap = h0 := by rw [← hh, Bd.state]; rfl
  have N0 := Fr.nil n0
  show GG p e below s ({ frames := 2, cells := 1, slots := 3, locals := 35 } : Room).cells ({ frames := 2, cells := 1, slots := 3, locals := 35 } : Room).slots (Q2 Z a1 a2 zc c1 c2 c3 h0 n0) s₁ (entryFrame m #[(.ref a1), (.ref a2), (.int (0 : Int32)), (.int (3 : Int32)), .null] 6)
  refine own_in (ef_2 m a1 a2 (0 : Int32) (3 : Int32)) ?_
  have K0 := Keep.refl h0 [a1]
  show GG _ _ _ _ _ _ _ s₁ (mkF m 0 #[.val (.ref a1), .val (.ref a2), .val (.int (0 : Int32)), .val (.int (3 : Int32)), .val .null, .unset] [])
  refine own_go (fun _ => XS.aloadN X0.here hx rfl (hb hby d2_0) rfl rfl) ?_
  show GG _ _ _ _ _ _ _ s₁ (mkF m 1 #[.val (.ref a1), .val (.ref a2), .val (.int (0 : Int32)), .val (.int (3 : Int32)), .val .null, .unset] [(.ref a1)])
  obtain ⟨T1, X1, e1, st1⟩ := initO X0 hx hZ hown (hw _ (List.mem_of_getElem? (i := 12) rfl)) (hw _ (List.mem_of_getElem? (i := 13) rfl)) (hw _ (List.mem_of_getElem? (i := 14) rfl)) e0 (g := (mkF m 1 #[.val (.ref a1), .val (.ref a2), .val (.int (0 : Int32)), .val (.int (3 : Int32)), .val .null, .unset] [(.ref a1)])) rfl (by rw [hml]; rfl) rfl (hb hby d2_1) (by decide) (W := 0) (by show 2 * 0 + _ ≤ _; exact Nat.le_of_eq rfl) (by decide)
  refine own_go (fun _ => st1 _) ?_
  show GG _ _ _ _ _ _ _ T1 (mkF m 4 #[.val (.ref a1), .val (.ref a2), .val (.int (0 : Int32)), .val (.int (3 : Int32)), .val .null, .unset] [])
  refine own_go (fun _ => XS.iloadN X1.here hx rfl (hb hby d2_4) rfl) ?_
  show GG _ _ _ _ _ _ _ T1 (mkF m 5 #[.val (.ref a1), .val (.ref a2), .val (.int (0 : Int32)), .val (.int (3 : Int32)), .val .null, .unset] [(.int (3 : Int32))])
  have hc5 : ¬ ((3 : Int32) = (0 : Int32)) := by decide
  refine own_go (fun _ => XS.ifYes X1.here hx rfl (pc0 := 5) (pc' := 27) rfl (hb hby d2_5) rfl ((if0 _ _).trans (feq hc5).2) (by decide) (by decide)) ?_
  show GG _ _ _ _ _ _ _ T1 (mkF m 27 #[.val (.ref a1), .val (.ref a2), .val (.int (0 : Int32)), .val (.int (3 : Int32)), .val .null, .unset] [])
  have S_c' := S_c.ext O0.2
  obtain ⟨T2, X2, e2, st2⟩ := getS2 X1 hx hZ hown (host := "") (Or.inl (hw _ (List.mem_of_getElem? (i := 15) rfl))) Via.refl e1 S_c' (g := (mkF m 27 #[.val (.ref a1), .val (.ref a2), .val (.int (0 : Int32)), .val (.int (3 : Int32)), .val .null, .unset] [])) rfl (hb hby d2_27)
  refine own_go (fun _ => st2 _) ?_
  show GG _ _ _ _ _ _ _ T2 (mkF m 30 #[.val (.ref a1), .val (.ref a2), .val (.int (0 : Int32)), .val (.int (3 : Int32)), .val .null, .unset] [(.int zc)])
  have hc30 : ¬ (zc = (0 : Int32)) := hz
  refine own_go (fun _ => XS.ifNo X2.here hx rfl (hb hby d2_30) rfl ((if0 _ _).trans (feq hc30).1)) ?_
  show GG _ _ _ _ _ _ _ T2 (mkF m 33 #[.val (.ref a1), .val (.ref a2), .val (.int (0 : Int32)), .val (.int (3 : Int32)), .val .null, .unset] [])
  refine own_go (fun _ => XS.aloadN X2.here hx rfl (hb hby d2_33) rfl rfl) ?_
  show GG _ _ _ _ _ _ _ T2 (mkF m 34 #[.val (.ref a1), .val (.ref a2), .val (.int (0 : Int32)), .val (.int (3 : Int32)), .val .null, .unset] [(.ref a2)])
  refine own_go (fun _ => XS.iloadN X2.here hx rfl (hb hby d2_34) rfl) ?_
  show GG _ _ _ _ _ _ _ T2 (mkF m 35 #[.val (.ref a1), .val (.ref a2), .val (.int (0 : Int32)), .val (.int (3 : Int32)), .val .null, .unset] [(.int (0 : Int32)), (.ref a2)])
  refine own_go (fun _ => XS.iloadN X2.here hx rfl (hb hby d2_35) rfl) ?_
  show GG _ _ _ _ _ _ _ T2 (mkF m 36 #[.val (.ref a1), .val (.ref a2), .val (.int (0 : Int32)), .val (.int (3 : Int32)), .val .null, .unset] [(.int (3 : Int32)), (.int (0 : Int32)), (.ref a2)])
  have lt4 := V_2.lt
  have lt5 := E_1.lt
  refine own_callS X2 hx hZ (y := (⟨"java/lang/StringUTF16", "compress", "([CII)[B"⟩ : MethodName)) 0 hown (hw _ (List.mem_of_getElem? (i := 16) rfl)) (hw _ (List.mem_of_getElem? (i := 17) rfl)) (hw _ (List.mem_of_getElem? (i := 18) rfl)) (hw _ (List.mem_of_getElem? (i := 19) rfl)) (by decide) (argsL := [(.ref a2), (.int (0 : Int32)), (.int (3 : Int32))]) (rest := []) (rm4 l Z a0 hw [] a2 c1 c2 c3 h0 n0 Z0 hbn V_2) (by decide) (by decide) (by decide) (by decide) (g := (mkF m 36 #[.val (.ref a1), .val (.ref a2), .val (.int (0 : Int32)), .val (.int (3 : Int32)), .val .null, .unset] [(.int (3 : Int32)), (.int (0 : Int32)), (.ref a2)])) rfl (by rw [hml]; rfl) (lenOf pd___CII__B_542 rfl) rfl (by show 2 * 0 + _ ≤ _; exact Nat.le_of_eq rfl) (hb hby d2_36) e2 ?_
  rintro v3 T3 L3 X3 ⟨bq3, rfl, N3q, gq3, Kq3, zq3_1, zq3_2, zq3_3, Vq3⟩
  have N3 := Fr.app N0 N3q
  have V_2 := V_2.keep Kq3 nin0
  have E_1 := E_1.keep Kq3
  have F_v := F_v.keep Kq3 nin0
  have F_c := F_c.keep Kq3 nin0
  have K0 := K0.trans Kq3 all0
  have O0 := O0.keep Kq3 all0
  have ne_a2_bq3 : a2 ≠ bq3 := Nat.ne_of_lt (Nat.lt_of_lt_of_le lt4 gq3)
  have ne_a1_bq3 : a1 ≠ bq3 := Nat.ne_of_lt (Nat.lt_of_lt_of_le lt5 gq3)
  show GG _ _ _ _ _ _ _ T3 (mkF m 39 #[.val (.ref a1), .val (.ref a2), .val (.int (0 : Int32)), .val (.int (3 : Int32)), .val .null, .unset] [(.ref bq3)])
  refine own_go (fun _ => XS.astore X3.here hx rfl (hb hby d2_39) rfl rfl (l' := #[.val (.ref a1), .val (.ref a2), .val (.int (0 : Int32)), .val (.int (3 : Int32)), .val .null, .val (.ref bq3)]) rfl) ?_
  show GG _ _ _ _ _ _ _ T3 (mkF m 41 #[.val (.ref a1), .val (.ref a2), .val (.int (0 : Int32)), .val (.int (3 : Int32)), .val .null, .val (.ref bq3)] [])
  refine own_go (fun _ => XS.aloadN X3.here hx rfl (hb hby d2_41) rfl rfl) ?_
  show GG _ _ _ _ _ _ _ T3 (mkF m 42 #[.val (.ref a1), .val (.ref a2), .val (.int (0 : Int32)), .val (.int (3 : Int32)), .val .null, .val (.ref bq3)] [(.ref a1)])
  refine own_go (fun _ => XS.aload X3.here hx rfl (hb hby d2_42) rfl rfl) ?_
  show GG _ _ _ _ _ _ _ T3 (mkF m 44 #[.val (.ref a1), .val (.ref a2), .val (.int (0 : Int32)), .val (.int (3 : Int32)), .val .null, .val (.ref bq3)] [(.ref bq3), (.ref a1)])
  refine own_go (fun _ => XS.iloadN X3.here hx rfl (hb hby d2_44) rfl) ?_
  show GG _ _ _ _ _ _ _ T3 (mkF m 45 #[.val (.ref a1), .val (.ref a2), .val (.int (0 : Int32)), .val (.int (3 : Int32)), .val .null, .val (.ref bq3)] [(.int (3 : Int32)), (.ref bq3), (.ref a1)])
  refine own_callS X3 hx hZ (y := (⟨"java/lang/StringUTF16", "coderFromArrayLen", "([BI)B"⟩ : MethodName)) 1 hown (hw _ (List.mem_of_getElem? (i := 23) rfl)) (hw _ (List.mem_of_getElem? (i := 24) rfl)) (hw _ (List.mem_of_getElem? (i := 18) rfl)) (hw _ (List.mem_of_getElem? (i := 25) rfl)) (by decide) (argsL := [(.ref bq3), (.int (3 : Int32))]) (rest := [(.ref a1)]) (rm6 l Z a0 hw [] bq3 _ _ _ T3.heap n0 (Nat.le_trans Z0 K0.1) Vq3) (by decide) (by decide) (by decide) (by decide) (g := (mkF m 45 #[.val (.ref a1), .val (.ref a2), .val (.int (0 : Int32)), .val (.int (3 : Int32)), .val .null, .val (.ref bq3)] [(.int (3 : Int32)), (.ref bq3), (.ref a1)])) rfl (by rw [hml]; rfl) (lenOf pd___BI_B_377 rfl) rfl (by show 2 * 0 + _ ≤ _; exact Nat.le_of_eq rfl) (hb hby d2_45) rfl ?_
  rintro v6 T6 L6 X6 ⟨rfl, N6q, hh6⟩
  have N6 := Fr.app N3 N6q
  show GG _ _ _ _ _ _ _ T6 (mkF m 48 #[.val (.ref a1), .val (.ref a2), .val (.int (0 : Int32)), .val (.int (3 : Int32)), .val .null, .val (.ref bq3)] [(.int (0 : Int32)), (.ref a1)])
  obtain ⟨T7, h7, X7, e7, W7, st7⟩ := putF X6 hx hZ hown (host := "") (Or.inl (hw _ (List.mem_of_getElem? (i := 26) rfl))) Via.refl hh6 F_c E_1 (Or.inr ⟨(hw _ (List.mem_of_getElem? (i := 27) rfl)), rfl, hnm⟩) (hw _ (List.mem_of_getElem? (i := 3) rfl)) (ty := .byte) (by decide) rfl rfl (g := (mkF m 48 #[.val (.ref a1), .val (.ref a2), .val (.int (0 : Int32)), .val (.int (3 : Int32)), .val .null, .val (.ref bq3)] [(.int (0 : Int32)), (.ref a1)])) rfl rfl (hb hby d2_48)
  have V_2 := V_2.other W7 (Ne.symm ne12)
  have E_1 := E_1.wr W7
  have F_v := F_v.other W7 (Or.inr (slot_ne (Or.inr (hw _ (List.mem_of_getElem? (i := 29) rfl))) (Or.inr (hw _ (List.mem_of_getElem? (i := 27) rfl))) (by decide) (t := (.array .byte)) (t' := .byte) (by decide) (by decide)))
  have K0 := K0.wr W7 (Or.inl (List.mem_of_getElem? (i := 0) rfl))
  have O0 := O0.wr W7 g_1
  have Vq3 := Vq3.other W7 (Ne.symm ne_a1_bq3)
  have F_c := F_c.same W7
  have N7 := Fr.snoc X7 N6 g_1
  refine own_go (fun _ => st7 _) ?_
  show GG _ _ _ _ _ _ _ T7 (mkF m 51 #[.val (.ref a1), .val (.ref a2), .val (.int (0 : Int32)), .val (.int (3 : Int32)), .val .null, .val (.ref bq3)] [])
  refine own_go (fun _ => XS.aloadN X7.here hx rfl (hb hby d2_51) rfl rfl) ?_
  show GG _ _ _ _ _ _ _ T7 (mkF m 52 #[.val (.ref a1), .val (.ref a2), .val (.int (0 : Int32)), .val (.int (3 : Int32)), .val .null, .val (.ref bq3)] [(.ref a1)])
  refine own_go (fun _ => XS.aload X7.here hx rfl (hb hby d2_52) rfl rfl) ?_
  show GG _ _ _ _ _ _ _ T7 (mkF m 54 #[.val (.ref a1), .val (.ref a2), .val (.int (0 : Int32)), .val (.int (3 : Int32)), .val .null, .val (.ref bq3)] [(.ref bq3), (.ref a1)])
  obtain ⟨T8, h8, X8, e8, W8, st8⟩ := putF X7 hx hZ hown (host := "") (Or.inl (hw _ (List.mem_of_getElem? (i := 28) rfl))) Via.refl e7 F_v E_1 (Or.inr ⟨(hw _ (List.mem_of_getElem? (i := 29) rfl)), rfl, hnm⟩) (hw _ (List.mem_of_getElem? (i := 3) rfl)) (ty := (.array .byte)) (by decide) rfl rfl (g := (mkF m 54 #[.val (.ref a1), .val (.ref a2), .val (.int (0 : Int32)), .val (.int (3 : Int32)), .val .null, .val (.ref bq3)] [(.ref bq3), (.ref a1)])) rfl rfl (hb hby d2_54)
  have V_2 := V_2.other W8 (Ne.symm ne12)
  have E_1 := E_1.wr W8
  have F_c := F_c.other W8 (Or.inr (slot_ne (Or.inr (hw _ (List.mem_of_getElem? (i := 27) rfl))) (Or.inr (hw _ (List.mem_of_getElem? (i := 29) rfl))) (by decide) (t := .byte) (t' := (.array .byte)) (by decide) (by decide)))
  have K0 := K0.wr W8 (Or.inl (List.mem_of_getElem? (i := 0) rfl))
  have O0 := O0.wr W8 g_1
  have Vq3 := Vq3.other W8 (Ne.symm ne_a1_bq3)
  have F_v := F_v.same W8
  have N8 := Fr.snoc X8 N7 g_1
  refine own_go (fun _ => st8 _) ?_
  show GG _ _ _ _ _ _ _ T8 (mkF m 57 #[.val (.ref a1), .val (.ref a2), .val (.int (0 : Int32)), .val (.int (3 : Int32)), .val .null, .val (.ref bq3)] [])
  refine own_retV X8 hx hlk Bd.returns (hb hby d2_57) (by decide) (by decide) ?_
  show Q2 Z a1 a2 zc c1 c2 c3 h0 n0 (none) T8.heap _
  rw [e8]
  exact ⟨rfl, N8, K0, E_1, _, _, _, _, F_v, F_c, Vq3⟩
theorem pd___CIILjava_lang_Void__V_941 : parseMethodDescriptor "([CIILjava/lang/Void;)V" = some ⟨[(.array .char), .int, .int, (.object "java/lang/Void")], none⟩ := by decide +kernel
theorem d1_0 : decode jdk_42_method_3_code 0 = .ok (.aload_n 0, 1) := by decide +kernel
theorem d1_1 : decode jdk_42_method_3_code 1 = .ok (.aload_n 1, 1) := by decide +kernel
theorem d1_2 : decode jdk_42_method_3_code 2 = .ok (.iconst 0, 1) := by decide +kernel
theorem d1_3 : decode jdk_42_method_3_code 3 = .ok (.aload_n 1, 1) := by decide +kernel
theorem d1_4 : decode jdk_42_method_3_code 4 = .ok (.arraylength, 1) := by decide +kernel
theorem d1_5 : decode jdk_42_method_3_code 5 = .ok (.aconst_null, 1) := by decide +kernel
theorem d1_6 : decode jdk_42_method_3_code 6 = .ok (.invokespecial 27, 3) := by decide +kernel
theorem d1_9 : decode jdk_42_method_3_code 9 = .ok (.return_, 1) := by decide +kernel
theorem ef_1 (m : MethodId) (x0 : Addr) (x1 : Addr) : entryFrame m #[(.ref x0), (.ref x1)] 2 = mkF m 0 #[.val (.ref x0), .val (.ref x1)] [] := by first | (simp [entryFrame, mkF, argsToLocals, Value.category]; done) | rfl
def Q1 (Z : State) (a1 : Addr) (a2 : Addr) (zc c1 c2 c3 : Int32) (h0 : Heap) (n0 : Nat) (v : Option Value) (h : Heap) (L : List Loc) : Prop := v = none ∧ Fr n0 L ∧ Keep h0 h [a1] ∧ Exa Z h a1 "java/lang/String" ∧ ∃ (b : Addr) (z1 z2 z3 : Int32), Fld Z h a1 "java/lang/String" "value" "[B" (.ref b) ∧ Fld Z h a1 "java/lang/String" "coder" "B" (.int 0) ∧ Arx Z h b .byte [(.int z1), (.int z2), (.int z3)]
set_option maxRecDepth 65536 in
set_option maxHeartbeats 40000000 in
theorem rm1 (l : Launch) (Z : State) (a0 : Array Value) (hw : ∀ d ∈ tables_1, d.before a0 Z = true) (ws : List Jvm.Cond) (a1 : Addr) (a2 : Addr) (zc c1 c2 c3 : Int32) (h0 : Heap) (n0 : Nat) (Z0 : n0 ≤ h0.size) (O0 : Old Z n0 h0) (S_c : Sta Z Z.heap "java/lang/String" "COMPACT_STRINGS" "Z" (.int zc)) (hz : zc ≠ 0) (hbn : (0 ≤ c1.toInt ∧ c1.toInt < 256) ∧ (0 ≤ c2.toInt ∧ c2.toInt < 256) ∧ (0 ≤ c3.toInt ∧ c3.toInt < 256)) (V_2 : Arx Z h0 a2 .char [(.int c1), (.int c2), (.int c3)]) (E_1 : Exa Z h0 a1 "java/lang/String") (F_v : Fld Z h0 a1 "java/lang/String" "value" "[B" .null) (F_c : Fld Z h0 a1 "java/lang/String" "coder" "B" (.int (0 : Int32))) (g_1 : n0 ≤ a1) (ne12 : a1 ≠ a2) :
    own_CT l Z (⟨"java/lang/String", "<init>", "([C)V"⟩ : MethodName) jdk_42_method_3_code 2 none ws ({ frames := 3, cells := 1, slots := 3, locals := 52 } : Room) #[(.ref a1), (.ref a2)] h0 (Q1 Z a1 a2 zc c1 c2 c3 h0 n0) := by
  refine MetFree.of_bodySF (plainFor_of_name pn_java_lang_String) hisR ?_
  intro p e s m args below meth c s₁ Bd hml0 hP hK
  obtain ⟨rfl, hZ, hh⟩ := hP
  have hx := Bd.exec
  have hby := Bd.bytes
  have hml : c.maxLocals = 2 := hml0
  have hown : s.vm.findClass "java/lang/String" = some m.cls := findClass_of_methodNamed Bd.named
  have hnm := (name_of_methodNamed Bd.named Bd.method).1
  have hlk : meth.locks = false := BodyLoose.notSynchronized Bd
  have X0 : Stand p l e ({ frames := 3, cells := 1, slots := 3, locals := 52 } : Room) s m #[(.ref a1), (.ref a2)] below meth c s₁ [] 0 0 := Stand.of_body Bd
  have e0 : s₁.heap = h0 := by rw [← hh, Bd.state]; rfl
  have N0 := Fr.nil n0
  show GG p e below s ({ frames := 3, cells := 1, slots := 3, locals := 52 } : Room).cells ({ frames := 3, cells := 1, slots := 3, locals := 52 } : Room).slots (Q1 Z a1 a2 zc c1 c2 c3 h0 n0) s₁ (entryFrame m #[(.ref a1), (.ref a2)] 2)
  refine own_in (ef_1 m a1 a2) ?_
  have K0 := Keep.refl h0 [a1]
  show GG _ _ _ _ _ _ _ s₁ (mkF m 0 #[.val (.ref a1), .val (.ref a2)] [])
  refine own_go (fun _ => XS.aloadN X0.here hx rfl (hb hby d1_0) rfl rfl) ?_
  show GG _ _ _ _ _ _ _ s₁ (mkF m 1 #[.val (.ref a1), .val (.ref a2)] [(.ref a1)])
  refine own_go (fun _ => XS.aloadN X0.here hx rfl (hb hby d1_1) rfl rfl) ?_
  show GG _ _ _ _ _ _ _ s₁ (mkF m 2 #[.val (.ref a1), .val (.ref a2)] [(.ref a2), (.ref a1)])
  refine own_go (fun _ => XS.iconst X0.here hx rfl (hb hby d1_2)) ?_
  show GG _ _ _ _ _ _ _ s₁ (mkF m 3 #[.val (.ref a1), .val (.ref a2)] [(.int (0 : Int32)), (.ref a2), (.ref a1)])
  refine own_go (fun _ => XS.aloadN X0.here hx rfl (hb hby d1_3) rfl rfl) ?_
  show GG _ _ _ _ _ _ _ s₁ (mkF m 4 #[.val (.ref a1), .val (.ref a2)] [(.ref a2), (.int (0 : Int32)), (.ref a2), (.ref a1)])
  refine own_go (fun _ => own_len X0 hx hZ e0 V_2 (g := (mkF m 4 #[.val (.ref a1), .val (.ref a2)] [(.ref a2), (.int (0 : Int32)), (.ref a2), (.ref a1)])) rfl rfl (hb hby d1_4) _) ?_
  show GG _ _ _ _ _ _ _ s₁ (mkF m 5 #[.val (.ref a1), .val (.ref a2)] [(.int (3 : Int32)), (.int (0 : Int32)), (.ref a2), (.ref a1)])
  refine own_go (fun _ => XS.aconstNull X0.here hx rfl (hb hby d1_5)) ?_
  show GG _ _ _ _ _ _ _ s₁ (mkF m 6 #[.val (.ref a1), .val (.ref a2)] [.null, (.int (3 : Int32)), (.int (0 : Int32)), (.ref a2), (.ref a1)])
  refine own_callI X0 hx hZ (y := (⟨"java/lang/String", "<init>", "([CIILjava/lang/Void;)V"⟩ : MethodName)) 0 rfl hown (hw _ (List.mem_of_getElem? (i := 8) rfl)) (hw _ (List.mem_of_getElem? (i := 9) rfl)) (hw _ (List.mem_of_getElem? (i := 4) rfl)) (hw _ (List.mem_of_getElem? (i := 11) rfl)) (by decide) (a := a1) (argsL := [(.ref a2), (.int (0 : Int32)), (.int (3 : Int32)), .null]) (rest := []) (rm2 l Z a0 hw [] a1 a2 zc c1 c2 c3 h0 n0 Z0 O0 S_c hz hbn V_2 E_1 F_v F_c g_1 ne12) (by decide) (by decide) (by decide) (by decide) (g := (mkF m 6 #[.val (.ref a1), .val (.ref a2)] [.null, (.int (3 : Int32)), (.int (0 : Int32)), (.ref a2), (.ref a1)])) rfl (by rw [hml]; rfl) (lenOf pd___CIILjava_lang_Void__V_941 rfl) rfl (by show 2 * 0 + _ ≤ _; exact Nat.le_of_eq rfl) (hb hby d1_6) e0 ?_
  rintro v1 T1 L1 X1 ⟨rfl, N1q, Kq1, Eq1, bq1, zq1_1, zq1_2, zq1_3, Fvq1, Fcq1, Vq1⟩
  have N1 := Fr.app N0 N1q
  have V_2 := V_2.keep Kq1 (ninS (Ne.symm ne12) nin0)
  have K0 := K0.trans Kq1 (allS (Or.inl (List.mem_of_getElem? (i := 0) rfl)) all0)
  have O0 := O0.keep Kq1 (allS g_1 all0)
  show GG _ _ _ _ _ _ _ T1 (mkF m 9 #[.val (.ref a1), .val (.ref a2)] [])
  refine own_retV X1 hx hlk Bd.returns (hb hby d1_9) (by decide) (by decide) ?_
  show Q1 Z a1 a2 zc c1 c2 c3 h0 n0 (none) T1.heap _
  exact ⟨rfl, N1, K0, Eq1, _, _, _, _, Fvq1, Fcq1, Vq1⟩
theorem d10_0 : decode jdk_42_method_152_code 0 = .ok (.getstatic 38, 3) := by decide +kernel
theorem d10_3 : decode jdk_42_method_152_code 3 = .ok (.ifCond .eq 10, 3) := by decide +kernel
theorem d10_6 : decode jdk_42_method_152_code 6 = .ok (.aload_n 0, 1) := by decide +kernel
theorem d10_7 : decode jdk_42_method_152_code 7 = .ok (.getfield 15, 3) := by decide +kernel
theorem d10_10 : decode jdk_42_method_152_code 10 = .ok (.goto 4, 3) := by decide +kernel
theorem d10_14 : decode jdk_42_method_152_code 14 = .ok (.ireturn, 1) := by decide +kernel
theorem ef_10 (m : MethodId) (x0 : Addr) : entryFrame m #[(.ref x0)] 1 = mkF m 0 #[.val (.ref x0)] [] := by first | (simp [entryFrame, mkF, argsToLocals, Value.category]; done) | rfl
def Q10 (Z : State) (a1 : Addr) (zc : Int32) (h0 : Heap) (n0 : Nat) (v : Option Value) (h : Heap) (L : List Loc) : Prop := v = some (.int 0) ∧ Fr n0 L ∧ h = h0
set_option maxRecDepth 65536 in
set_option maxHeartbeats 40000000 in
theorem rm10 (l : Launch) (Z : State) (a0 : Array Value) (hw : ∀ d ∈ tables_1, d.before a0 Z = true) (ws : List Jvm.Cond) (a1 : Addr) (zc : Int32) (h0 : Heap) (n0 : Nat) (Z0 : n0 ≤ h0.size) (S_c : Sta Z h0 "java/lang/String" "COMPACT_STRINGS" "Z" (.int zc)) (hz : zc ≠ 0) (F_c : Fld Z h0 a1 "java/lang/String" "coder" "B" (.int (0 : Int32))) :
    own_CT l Z (⟨"java/lang/String", "coder", "()B"⟩ : MethodName) jdk_42_method_152_code 1 (some .byte) ws ({ frames := 0, cells := 0, slots := 0, locals := 0 } : Room) #[(.ref a1)] h0 (Q10 Z a1 zc h0 n0) := by
  refine MetFree.of_bodySF (plainFor_of_name pn_java_lang_String) hisR ?_
  intro p e s m args below meth c s₁ Bd hml0 hP hK
  obtain ⟨rfl, hZ, hh⟩ := hP
  have hx := Bd.exec
  have hby := Bd.bytes
  have hml : c.maxLocals = 1 := hml0
  have hown : s.vm.findClass "java/lang/String" = some m.cls := findClass_of_methodNamed Bd.named
  have hnm := (name_of_methodNamed Bd.named Bd.method).1
  have hlk : meth.locks = false := BodyLoose.notSynchronized Bd
  have X0 : Stand p l e ({ frames := 0, cells := 0, slots := 0, locals := 0 } : Room) s m #[(.ref a1)] below meth c s₁ [] 0 0 := Stand.of_body Bd
  have e0 : s₁.heap = h0 := by rw [← hh, Bd.state]; rfl
  have N0 := Fr.nil n0
  show GG p e below s ({ frames := 0, cells := 0, slots := 0, locals := 0 } : Room).cells ({ frames := 0, cells := 0, slots := 0, locals := 0 } : Room).slots (Q10 Z a1 zc h0 n0) s₁ (entryFrame m #[(.ref a1)] 1)
  refine own_in (ef_10 m a1) ?_
  show GG _ _ _ _ _ _ _ s₁ (mkF m 0 #[.val (.ref a1)] [])
  obtain ⟨T1, X1, e1, st1⟩ := getS2 X0 hx hZ hown (host := "") (Or.inl (hw _ (List.mem_of_getElem? (i := 15) rfl))) Via.refl e0 S_c (g := (mkF m 0 #[.val (.ref a1)] [])) rfl (hb hby d10_0)
  refine own_go (fun _ => st1 _) ?_
  show GG _ _ _ _ _ _ _ T1 (mkF m 3 #[.val (.ref a1)] [(.int zc)])
  have hc3 : ¬ (zc = (0 : Int32)) := hz
  refine own_go (fun _ => XS.ifNo X1.here hx rfl (hb hby d10_3) rfl ((if0 _ _).trans (feq hc3).1)) ?_
  show GG _ _ _ _ _ _ _ T1 (mkF m 6 #[.val (.ref a1)] [])
  refine own_go (fun _ => XS.aloadN X1.here hx rfl (hb hby d10_6) rfl rfl) ?_
  show GG _ _ _ _ _ _ _ T1 (mkF m 7 #[.val (.ref a1)] [(.ref a1)])
  obtain ⟨T2, X2, e2, st2⟩ := getF X1 hx hZ hown (host := "") (Or.inl (hw _ (List.mem_of_getElem? (i := 26) rfl))) Via.refl e1 F_c (g := (mkF m 7 #[.val (.ref a1)] [(.ref a1)])) rfl rfl (hb hby d10_7)
  refine own_go (fun _ => st2 _) ?_
  show GG _ _ _ _ _ _ _ T2 (mkF m 10 #[.val (.ref a1)] [(.int (0 : Int32))])
  refine own_go (fun _ => XS.goto X2.here hx rfl (pc0 := 10) (pc' := 14) rfl (hb hby d10_10) (by decide) (by decide)) ?_
  show GG _ _ _ _ _ _ _ T2 (mkF m 14 #[.val (.ref a1)] [(.int (0 : Int32))])
  refine own_ret X2 hx hlk (t := .byte) (w := (.int (0 : Int32))) Bd.returns rfl (Or.inl ⟨rfl, by simp, _, rfl⟩) (hb hby d10_14) (by decide) (by decide) ?_
  show Q10 Z a1 zc h0 n0 (some (.int (0 : Int32))) T2.heap _
  rw [e2]
  exact ⟨rfl, N0, rfl⟩
theorem pd___B_147 : parseMethodDescriptor "()B" = some ⟨[], some .byte⟩ := by decide +kernel
theorem d9_0 : decode jdk_42_method_54_code 0 = .ok (.aload_n 0, 1) := by decide +kernel
theorem d9_1 : decode jdk_42_method_54_code 1 = .ok (.getfield 9, 3) := by decide +kernel
theorem d9_4 : decode jdk_42_method_54_code 4 = .ok (.arraylength, 1) := by decide +kernel
theorem d9_5 : decode jdk_42_method_54_code 5 = .ok (.aload_n 0, 1) := by decide +kernel
theorem d9_6 : decode jdk_42_method_54_code 6 = .ok (.invokevirtual 335, 3) := by decide +kernel
theorem d9_9 : decode jdk_42_method_54_code 9 = .ok (.ishr, 1) := by decide +kernel
theorem d9_10 : decode jdk_42_method_54_code 10 = .ok (.ireturn, 1) := by decide +kernel
theorem ef_9 (m : MethodId) (x0 : Addr) : entryFrame m #[(.ref x0)] 1 = mkF m 0 #[.val (.ref x0)] [] := by first | (simp [entryFrame, mkF, argsToLocals, Value.category]; done) | rfl
def Q9 (Z : State) (a1 : Addr) (b1 : Addr) (zc z1 z2 z3 : Int32) (h0 : Heap) (n0 : Nat) (v : Option Value) (h : Heap) (L : List Loc) : Prop := v = some (.int 3) ∧ Fr n0 L ∧ h = h0
set_option maxRecDepth 65536 in
set_option maxHeartbeats 40000000 in
theorem rm9 (l : Launch) (Z : State) (a0 : Array Value) (hw : ∀ d ∈ tables_1, d.before a0 Z = true) (ws : List Jvm.Cond) (a1 : Addr) (b1 : Addr) (zc z1 z2 z3 : Int32) (h0 : Heap) (n0 : Nat) (Z0 : n0 ≤ h0.size) (S_c : Sta Z h0 "java/lang/String" "COMPACT_STRINGS" "Z" (.int zc)) (hz : zc ≠ 0) (E_1 : Exa Z h0 a1 "java/lang/String") (F_c : Fld Z h0 a1 "java/lang/String" "coder" "B" (.int (0 : Int32))) (F_v : Fld Z h0 a1 "java/lang/String" "value" "[B" (.ref b1)) (V_1 : Arx Z h0 b1 .byte [(.int z1), (.int z2), (.int z3)]) :
    own_CT l Z (⟨"java/lang/String", "length", "()I"⟩ : MethodName) jdk_42_method_54_code 1 (some .int) ws ({ frames := 1, cells := 0, slots := 0, locals := 13 } : Room) #[(.ref a1)] h0 (Q9 Z a1 b1 zc z1 z2 z3 h0 n0) := by
  refine MetFree.of_bodySF (plainFor_of_name pn_java_lang_String) hisR ?_
  intro p e s m args below meth c s₁ Bd hml0 hP hK
  obtain ⟨rfl, hZ, hh⟩ := hP
  have hx := Bd.exec
  have hby := Bd.bytes
  have hml : c.maxLocals = 1 := hml0
  have hown : s.vm.findClass "java/lang/String" = some m.cls := findClass_of_methodNamed Bd.named
  have hnm := (name_of_methodNamed Bd.named Bd.method).1
  have hlk : meth.locks = false := BodyLoose.notSynchronized Bd
  have X0 : Stand p l e ({ frames := 1, cells := 0, slots := 0, locals := 13 } : Room) s m #[(.ref a1)] below meth c s₁ [] 0 0 := Stand.of_body Bd
  have e0 : s₁.heap = h0 := by rw [← hh, Bd.state]; rfl
  have N0 := Fr.nil n0
  show GG p e below s ({ frames := 1, cells := 0, slots := 0, locals := 13 } : Room).cells ({ frames := 1, cells := 0, slots := 0, locals := 13 } : Room).slots (Q9 Z a1 b1 zc z1 z2 z3 h0 n0) s₁ (entryFrame m #[(.ref a1)] 1)
  refine own_in (ef_9 m a1) ?_
  show GG _ _ _ _ _ _ _ s₁ (mkF m 0 #[.val (.ref a1)] [])
  refine own_go (fun _ => XS.aloadN X0.here hx rfl (hb hby d9_0) rfl rfl) ?_
  show GG _ _ _ _ _ _ _ s₁ (mkF m 1 #[.val (.ref a1)] [(.ref a1)])
  obtain ⟨T1, X1, e1, st1⟩ := getF X0 hx hZ hown (host := "") (Or.inl (hw _ (List.mem_of_getElem? (i := 28) rfl))) Via.refl e0 F_v (g := (mkF m 1 #[.val (.ref a1)] [(.ref a1)])) rfl rfl (hb hby d9_1)
  refine own_go (fun _ => st1 _) ?_
  show GG _ _ _ _ _ _ _ T1 (mkF m 4 #[.val (.ref a1)] [(.ref b1)])
  refine own_go (fun _ => own_len X1 hx hZ e1 V_1 (g := (mkF m 4 #[.val (.ref a1)] [(.ref b1)])) rfl rfl (hb hby d9_4) _) ?_
  show GG _ _ _ _ _ _ _ T1 (mkF m 5 #[.val (.ref a1)] [(.int (3 : Int32))])
  refine own_go (fun _ => XS.aloadN X1.here hx rfl (hb hby d9_5) rfl rfl) ?_
  show GG _ _ _ _ _ _ _ T1 (mkF m 6 #[.val (.ref a1)] [(.ref a1), (.int (3 : Int32))])
  refine own_callV X1 hx hZ (y := (⟨"java/lang/String", "coder", "()B"⟩ : MethodName)) (z := (⟨"java/lang/String", "coder", "()B"⟩ : MethodName)) 1 hown (hw _ (List.mem_of_getElem? (i := 54) rfl)) (hw _ (List.mem_of_getElem? (i := 55) rfl)) (notFace_of_selects (args := #[]) (mvT hZ (hw _ (List.mem_of_getElem? (i := 57) rfl)))) (hw _ (List.mem_of_getElem? (i := 57) rfl)) (hw _ (List.mem_of_getElem? (i := 56) rfl)) (hw _ (List.mem_of_getElem? (i := 4) rfl)) (hw _ (List.mem_of_getElem? (i := 58) rfl)) (by decide) (a := a1) (argsL := []) (rest := [(.int (3 : Int32))]) (rm10 l Z a0 hw [] a1 zc h0 n0 Z0 S_c hz F_c) (by decide) (by decide) (by decide) (by decide) E_1 (g := (mkF m 6 #[.val (.ref a1)] [(.ref a1), (.int (3 : Int32))])) rfl (by rw [hml]; rfl) (lenOf pd___B_147 rfl) rfl (by show 2 * 0 + _ ≤ _; exact Nat.le_of_eq rfl) (hb hby d9_6) e1 ?_
  rintro v2 T2 L2 X2 ⟨rfl, N2q, hh2⟩
  have N2 := Fr.app N0 N2q
  show GG _ _ _ _ _ _ _ T2 (mkF m 9 #[.val (.ref a1)] [(.int (0 : Int32)), (.int (3 : Int32))])
  refine own_go (fun _ => XS.ishr X2.here hx rfl (hb hby d9_9) rfl) ?_
  show GG _ _ _ _ _ _ _ T2 (mkF m 10 #[.val (.ref a1)] [(.int (3 : Int32))])
  refine own_ret X2 hx hlk (t := .int) (w := (.int (3 : Int32))) Bd.returns rfl (Or.inl ⟨rfl, by simp, _, rfl⟩) (hb hby d9_10) (by decide) (by decide) ?_
  show Q9 Z a1 b1 zc z1 z2 z3 h0 n0 (some (.int (3 : Int32))) T2.heap _
  rw [hh2]
  exact ⟨rfl, N2, rfl⟩
theorem d7_0 : decode prog_44_method_1_code 0 = .ok (.aload_n 0, 1) := by decide +kernel
theorem d7_1 : decode prog_44_method_1_code 1 = .ok (.invokespecial 1, 3) := by decide +kernel
theorem d7_4 : decode prog_44_method_1_code 4 = .ok (.return_, 1) := by decide +kernel
theorem pn_com_example_breakwater_breakwater_io_LineText : plainName "com/example/breakwater/breakwater/io/LineText" = true := by first | (simp [plainName, overriddenIn]; done) | decide +kernel
theorem ef_7 (m : MethodId) (x0 : Addr) : entryFrame m #[(.ref x0)] 1 = mkF m 0 #[.val (.ref x0)] [] := by first | (simp [entryFrame, mkF, argsToLocals, Value.category]; done) | rfl
def Q7 (Z : State) (a1 : Addr) (h0 : Heap) (n0 : Nat) (v : Option Value) (h : Heap) (L : List Loc) : Prop := v = none ∧ Fr n0 L ∧ h = h0
set_option maxRecDepth 65536 in
set_option maxHeartbeats 40000000 in
theorem rm7 (l : Launch) (Z : State) (a0 : Array Value) (hw : ∀ d ∈ tables_1, d.before a0 Z = true) (ws : List Jvm.Cond) (a1 : Addr) (h0 : Heap) (n0 : Nat) (Z0 : n0 ≤ h0.size)  :
    own_CT l Z (⟨"com/example/breakwater/breakwater/io/LineText", "<init>", "()V"⟩ : MethodName) prog_44_method_1_code 1 none ws ({ frames := 1, cells := 0, slots := 0, locals := 12 } : Room) #[(.ref a1)] h0 (Q7 Z a1 h0 n0) := by
  refine MetFree.of_bodySF (plainFor_of_name pn_com_example_breakwater_breakwater_io_LineText) hisR ?_
  intro p e s m args below meth c s₁ Bd hml0 hP hK
  obtain ⟨rfl, hZ, hh⟩ := hP
  have hx := Bd.exec
  have hby := Bd.bytes
  have hml : c.maxLocals = 1 := hml0
  have hown : s.vm.findClass "com/example/breakwater/breakwater/io/LineText" = some m.cls := findClass_of_methodNamed Bd.named
  have hnm := (name_of_methodNamed Bd.named Bd.method).1
  have hlk : meth.locks = false := BodyLoose.notSynchronized Bd
  have X0 : Stand p l e ({ frames := 1, cells := 0, slots := 0, locals := 12 } : Room) s m #[(.ref a1)] below meth c s₁ [] 0 0 := Stand.of_body Bd
  have e0 : s₁.heap = h0 := by rw [← hh, Bd.state]; rfl
  have N0 := Fr.nil n0
  show GG p e below s ({ frames := 1, cells := 0, slots := 0, locals := 12 } : Room).cells ({ frames := 1, cells := 0, slots := 0, locals := 12 } : Room).slots (Q7 Z a1 h0 n0) s₁ (entryFrame m #[(.ref a1)] 1)
  refine own_in (ef_7 m a1) ?_
  show GG _ _ _ _ _ _ _ s₁ (mkF m 0 #[.val (.ref a1)] [])
  refine own_go (fun _ => XS.aloadN X0.here hx rfl (hb hby d7_0) rfl rfl) ?_
  show GG _ _ _ _ _ _ _ s₁ (mkF m 1 #[.val (.ref a1)] [(.ref a1)])
  obtain ⟨T1, X1, e1, st1⟩ := initO X0 hx hZ hown (hw _ (List.mem_of_getElem? (i := 37) rfl)) (hw _ (List.mem_of_getElem? (i := 13) rfl)) (hw _ (List.mem_of_getElem? (i := 14) rfl)) e0 (g := (mkF m 1 #[.val (.ref a1)] [(.ref a1)])) rfl (by rw [hml]; rfl) rfl (hb hby d7_1) (by decide) (W := 0) (by show 2 * 0 + _ ≤ _; exact Nat.le_of_eq rfl) (by decide)
  refine own_go (fun _ => st1 _) ?_
  show GG _ _ _ _ _ _ _ T1 (mkF m 4 #[.val (.ref a1)] [])
  refine own_retV X1 hx hlk Bd.returns (hb hby d7_4) (by decide) (by decide) ?_
  show Q7 Z a1 h0 n0 (none) T1.heap _
  rw [e1]
  exact ⟨rfl, N0, rfl⟩
theorem pd___I_154 : parseMethodDescriptor "()I" = some ⟨[], some .int⟩ := by decide +kernel
theorem d8_0 : decode prog_44_method_3_code 0 = .ok (.aload_n 0, 1) := by decide +kernel
theorem d8_1 : decode prog_44_method_3_code 1 = .ok (.aconst_null, 1) := by decide +kernel
theorem d8_2 : decode prog_44_method_3_code 2 = .ok (.putfield 7, 3) := by decide +kernel
theorem d8_5 : decode prog_44_method_3_code 5 = .ok (.aload_n 0, 1) := by decide +kernel
theorem d8_6 : decode prog_44_method_3_code 6 = .ok (.aload_n 1, 1) := by decide +kernel
theorem d8_7 : decode prog_44_method_3_code 7 = .ok (.putfield 13, 3) := by decide +kernel
theorem d8_10 : decode prog_44_method_3_code 10 = .ok (.aload_n 0, 1) := by decide +kernel
theorem d8_11 : decode prog_44_method_3_code 11 = .ok (.iconst 0, 1) := by decide +kernel
theorem d8_12 : decode prog_44_method_3_code 12 = .ok (.putfield 17, 3) := by decide +kernel
theorem d8_15 : decode prog_44_method_3_code 15 = .ok (.aload_n 0, 1) := by decide +kernel
theorem d8_16 : decode prog_44_method_3_code 16 = .ok (.aload_n 1, 1) := by decide +kernel
theorem d8_17 : decode prog_44_method_3_code 17 = .ok (.invokevirtual 24, 3) := by decide +kernel
theorem d8_20 : decode prog_44_method_3_code 20 = .ok (.putfield 21, 3) := by decide +kernel
theorem d8_23 : decode prog_44_method_3_code 23 = .ok (.return_, 1) := by decide +kernel
theorem ef_8 (m : MethodId) (x0 : Addr) (x1 : Addr) : entryFrame m #[(.ref x0), (.ref x1)] 2 = mkF m 0 #[.val (.ref x0), .val (.ref x1)] [] := by first | (simp [entryFrame, mkF, argsToLocals, Value.category]; done) | rfl
def Q8 (Z : State) (a1 : Addr) (a2 : Addr) (b1 : Addr) (zc z1 z2 z3 : Int32) (h0 : Heap) (n0 : Nat) (v : Option Value) (h : Heap) (L : List Loc) : Prop := v = none ∧ Fr n0 L ∧ Keep h0 h [a1] ∧ Exa Z h a1 "com/example/breakwater/breakwater/io/LineText" ∧ Fld Z h a1 "com/example/breakwater/breakwater/io/LineText" "ascii" "[B" .null ∧ Fld Z h a1 "com/example/breakwater/breakwater/io/LineText" "decoded" "Ljava/lang/String;" (.ref a2) ∧ Fld Z h a1 "com/example/breakwater/breakwater/io/LineText" "from" "I" (.int 0) ∧ Fld Z h a1 "com/example/breakwater/breakwater/io/LineText" "to" "I" (.int 3)
set_option maxRecDepth 65536 in
set_option maxHeartbeats 40000000 in
theorem rm8 (l : Launch) (Z : State) (a0 : Array Value) (hw : ∀ d ∈ tables_1, d.before a0 Z = true) (ws : List Jvm.Cond) (a1 : Addr) (a2 : Addr) (b1 : Addr) (zc z1 z2 z3 : Int32) (h0 : Heap) (n0 : Nat) (Z0 : n0 ≤ h0.size) (O0 : Old Z n0 h0) (S_c : Sta Z Z.heap "java/lang/String" "COMPACT_STRINGS" "Z" (.int zc)) (hz : zc ≠ 0) (E_2 : Exa Z h0 a2 "java/lang/String") (F_c : Fld Z h0 a2 "java/lang/String" "coder" "B" (.int (0 : Int32))) (F_v : Fld Z h0 a2 "java/lang/String" "value" "[B" (.ref b1)) (V_1 : Arx Z h0 b1 .byte [(.int z1), (.int z2), (.int z3)]) (ne12 : a1 ≠ a2) (ne1b : a1 ≠ b1) (E_1 : Exa Z h0 a1 "com/example/breakwater/breakwater/io/LineText") (g_1 : n0 ≤ a1) (F_ascii : Fld Z h0 a1 "com/example/breakwater/breakwater/io/LineText" "ascii" "[B" .null) (F_decoded : Fld Z h0 a1 "com/example/breakwater/breakwater/io/LineText" "decoded" "Ljava/lang/String;" .null) (F_from : Fld Z h0 a1 "com/example/breakwater/breakwater/io/LineText" "from" "I" (.int (0 : Int32))) (F_to : Fld Z h0 a1 "com/example/breakwater/breakwater/io/LineText" "to" "I" (.int (0 : Int32))) :
    own_CT l Z (⟨"com/example/breakwater/breakwater/io/LineText", "set", "(Ljava/lang/String;)V"⟩ : MethodName) prog_44_method_3_code 2 none ws ({ frames := 2, cells := 0, slots := 0, locals := 26 } : Room) #[(.ref a1), (.ref a2)] h0 (Q8 Z a1 a2 b1 zc z1 z2 z3 h0 n0) := by
  refine MetFree.of_bodySF (plainFor_of_name pn_com_example_breakwater_breakwater_io_LineText) hisR ?_
  intro p e s m args below meth c s₁ Bd hml0 hP hK
  obtain ⟨rfl, hZ, hh⟩ := hP
  have hx := Bd.exec
  have hby := Bd.bytes
  have hml : c.maxLocals = 2 := hml0
  have hown : s.vm.findClass "com/example/breakwater/breakwater/io/LineText" = some m.cls := findClass_of_methodNamed Bd.named
  have hnm := (name_of_methodNamed Bd.named Bd.method).1
  have hlk : meth.locks = false := BodyLoose.notSynchronized Bd
  have X0 : Stand p l e ({ frames := 2, cells := 0, slots := 0, locals := 26 } : Room) s m #[(.ref a1), (.ref a2)] below meth c s₁ [] 0 0 := Stand.of_body Bd
  have e0 : s₁.heap = h0 := by rw [← hh, Bd.state]; rfl
  have N0 := Fr.nil n0
  show GG p e below s ({ frames := 2, cells := 0, slots := 0, locals := 26 } : Room).cells ({ frames := 2, cells := 0, slots := 0, locals := 26 } : Room).slots (Q8 Z a1 a2 b1 zc z1 z2 z3 h0 n0) s₁ (entryFrame m #[(.ref a1), (.ref a2)] 2)
  refine own_in (ef_8 m a1 a2) ?_
  have K0 := Keep.refl h0 [a1]
  show GG _ _ _ _ _ _ _ s₁ (mkF m 0 #[.val (.ref a1), .val (.ref a2)] [])
  refine own_go (fun _ => XS.aloadN X0.here hx rfl (hb hby d8_0) rfl rfl) ?_
  show GG _ _ _ _ _ _ _ s₁ (mkF m 1 #[.val (.ref a1), .val (.ref a2)] [(.ref a1)])
  refine own_go (fun _ => XS.aconstNull X0.here hx rfl (hb hby d8_1)) ?_
  show GG _ _ _ _ _ _ _ s₁ (mkF m 2 #[.val (.ref a1), .val (.ref a2)] [.null, (.ref a1)])
  obtain ⟨T1, h1, X1, e1, W1, st1⟩ := putF X0 hx hZ hown (host := "") (Or.inl (hw _ (List.mem_of_getElem? (i := 43) rfl))) Via.refl e0 F_ascii E_1 (Or.inl (hw _ (List.mem_of_getElem? (i := 44) rfl))) (hw _ (List.mem_of_getElem? (i := 32) rfl)) (ty := (.array .byte)) (by decide) rfl rfl (g := (mkF m 2 #[.val (.ref a1), .val (.ref a2)] [.null, (.ref a1)])) rfl rfl (hb hby d8_2)
  have E_1 := E_1.wr W1
  have F_decoded := F_decoded.other W1 (Or.inr (slot_ne (Or.inl (hw _ (List.mem_of_getElem? (i := 46) rfl))) (Or.inl (hw _ (List.mem_of_getElem? (i := 44) rfl))) (by decide) (t := (.object "java/lang/String")) (t' := (.array .byte)) (by decide) (by decide)))
  have F_from := F_from.other W1 (Or.inr (slot_ne (Or.inl (hw _ (List.mem_of_getElem? (i := 48) rfl))) (Or.inl (hw _ (List.mem_of_getElem? (i := 44) rfl))) (by decide) (t := .int) (t' := (.array .byte)) (by decide) (by decide)))
  have F_to := F_to.other W1 (Or.inr (slot_ne (Or.inl (hw _ (List.mem_of_getElem? (i := 60) rfl))) (Or.inl (hw _ (List.mem_of_getElem? (i := 44) rfl))) (by decide) (t := .int) (t' := (.array .byte)) (by decide) (by decide)))
  have K0 := K0.wr W1 (Or.inl (List.mem_of_getElem? (i := 0) rfl))
  have E_2 := E_2.wr W1
  have F_c := F_c.other W1 (Or.inl (Ne.symm ne12))
  have F_v := F_v.other W1 (Or.inl (Ne.symm ne12))
  have V_1 := V_1.other W1 (Ne.symm ne1b)
  have O0 := O0.wr W1 g_1
  have F_ascii := F_ascii.same W1
  have N1 := Fr.snoc X1 N0 g_1
  refine own_go (fun _ => st1 _) ?_
  show GG _ _ _ _ _ _ _ T1 (mkF m 5 #[.val (.ref a1), .val (.ref a2)] [])
  refine own_go (fun _ => XS.aloadN X1.here hx rfl (hb hby d8_5) rfl rfl) ?_
  show GG _ _ _ _ _ _ _ T1 (mkF m 6 #[.val (.ref a1), .val (.ref a2)] [(.ref a1)])
  refine own_go (fun _ => XS.aloadN X1.here hx rfl (hb hby d8_6) rfl rfl) ?_
  show GG _ _ _ _ _ _ _ T1 (mkF m 7 #[.val (.ref a1), .val (.ref a2)] [(.ref a2), (.ref a1)])
  obtain ⟨T2, h2, X2, e2, W2, st2⟩ := putF X1 hx hZ hown (host := "") (Or.inl (hw _ (List.mem_of_getElem? (i := 45) rfl))) Via.refl e1 F_decoded E_1 (Or.inl (hw _ (List.mem_of_getElem? (i := 46) rfl))) (hw _ (List.mem_of_getElem? (i := 32) rfl)) (ty := (.object "java/lang/String")) (by decide) rfl rfl (g := (mkF m 7 #[.val (.ref a1), .val (.ref a2)] [(.ref a2), (.ref a1)])) rfl rfl (hb hby d8_7)
  have E_1 := E_1.wr W2
  have F_ascii := F_ascii.other W2 (Or.inr (slot_ne (Or.inl (hw _ (List.mem_of_getElem? (i := 44) rfl))) (Or.inl (hw _ (List.mem_of_getElem? (i := 46) rfl))) (by decide) (t := (.array .byte)) (t' := (.object "java/lang/String")) (by decide) (by decide)))
  have F_from := F_from.other W2 (Or.inr (slot_ne (Or.inl (hw _ (List.mem_of_getElem? (i := 48) rfl))) (Or.inl (hw _ (List.mem_of_getElem? (i := 46) rfl))) (by decide) (t := .int) (t' := (.object "java/lang/String")) (by decide) (by decide)))
  have F_to := F_to.other W2 (Or.inr (slot_ne (Or.inl (hw _ (List.mem_of_getElem? (i := 60) rfl))) (Or.inl (hw _ (List.mem_of_getElem? (i := 46) rfl))) (by decide) (t := .int) (t' := (.object "java/lang/String")) (by decide) (by decide)))
  have K0 := K0.wr W2 (Or.inl (List.mem_of_getElem? (i := 0) rfl))
  have E_2 := E_2.wr W2
  have F_c := F_c.other W2 (Or.inl (Ne.symm ne12))
  have F_v := F_v.other W2 (Or.inl (Ne.symm ne12))
  have V_1 := V_1.other W2 (Ne.symm ne1b)
  have O0 := O0.wr W2 g_1
  have F_decoded := F_decoded.same W2
  have N2 := Fr.snoc X2 N1 g_1
  refine own_go (fun _ => st2 _) ?_
  show GG _ _ _ _ _ _ _ T2 (mkF m 10 #[.val (.ref a1), .val (.ref a2)] [])
  refine own_go (fun _ => XS.aloadN X2.here hx rfl (hb hby d8_10) rfl rfl) ?_
  show GG _ _ _ _ _ _ _ T2 (mkF m 11 #[.val (.ref a1), .val (.ref a2)] [(.ref a1)])
  refine own_go (fun _ => XS.iconst X2.here hx rfl (hb hby d8_11)) ?_
  show GG _ _ _ _ _ _ _ T2 (mkF m 12 #[.val (.ref a1), .val (.ref a2)] [(.int (0 : Int32)), (.ref a1)])
  obtain ⟨T3, h3, X3, e3, W3, st3⟩ := putF X2 hx hZ hown (host := "") (Or.inl (hw _ (List.mem_of_getElem? (i := 47) rfl))) Via.refl e2 F_from E_1 (Or.inl (hw _ (List.mem_of_getElem? (i := 48) rfl))) (hw _ (List.mem_of_getElem? (i := 32) rfl)) (ty := .int) (by decide) rfl rfl (g := (mkF m 12 #[.val (.ref a1), .val (.ref a2)] [(.int (0 : Int32)), (.ref a1)])) rfl rfl (hb hby d8_12)
  have E_1 := E_1.wr W3
  have F_ascii := F_ascii.other W3 (Or.inr (slot_ne (Or.inl (hw _ (List.mem_of_getElem? (i := 44) rfl))) (Or.inl (hw _ (List.mem_of_getElem? (i := 48) rfl))) (by decide) (t := (.array .byte)) (t' := .int) (by decide) (by decide)))
  have F_decoded := F_decoded.other W3 (Or.inr (slot_ne (Or.inl (hw _ (List.mem_of_getElem? (i := 46) rfl))) (Or.inl (hw _ (List.mem_of_getElem? (i := 48) rfl))) (by decide) (t := (.object "java/lang/String")) (t' := .int) (by decide) (by decide)))
  have F_to := F_to.other W3 (Or.inr (slot_ne (Or.inl (hw _ (List.mem_of_getElem? (i := 60) rfl))) (Or.inl (hw _ (List.mem_of_getElem? (i := 48) rfl))) (by decide) (t := .int) (t' := .int) (by decide) (by decide)))
  have K0 := K0.wr W3 (Or.inl (List.mem_of_getElem? (i := 0) rfl))
  have E_2 := E_2.wr W3
  have F_c := F_c.other W3 (Or.inl (Ne.symm ne12))
  have F_v := F_v.other W3 (Or.inl (Ne.symm ne12))
  have V_1 := V_1.other W3 (Ne.symm ne1b)
  have O0 := O0.wr W3 g_1
  have F_from := F_from.same W3
  have N3 := Fr.snoc X3 N2 g_1
  refine own_go (fun _ => st3 _) ?_
  show GG _ _ _ _ _ _ _ T3 (mkF m 15 #[.val (.ref a1), .val (.ref a2)] [])
  refine own_go (fun _ => XS.aloadN X3.here hx rfl (hb hby d8_15) rfl rfl) ?_
  show GG _ _ _ _ _ _ _ T3 (mkF m 16 #[.val (.ref a1), .val (.ref a2)] [(.ref a1)])
  refine own_go (fun _ => XS.aloadN X3.here hx rfl (hb hby d8_16) rfl rfl) ?_
  show GG _ _ _ _ _ _ _ T3 (mkF m 17 #[.val (.ref a1), .val (.ref a2)] [(.ref a2), (.ref a1)])
  refine own_callV X3 hx hZ (y := (⟨"java/lang/String", "length", "()I"⟩ : MethodName)) (z := (⟨"java/lang/String", "length", "()I"⟩ : MethodName)) 1 hown (hw _ (List.mem_of_getElem? (i := 49) rfl)) (hw _ (List.mem_of_getElem? (i := 50) rfl)) (notFace_of_selects (args := #[]) (mvT hZ (hw _ (List.mem_of_getElem? (i := 52) rfl)))) (hw _ (List.mem_of_getElem? (i := 52) rfl)) (hw _ (List.mem_of_getElem? (i := 51) rfl)) (hw _ (List.mem_of_getElem? (i := 4) rfl)) (hw _ (List.mem_of_getElem? (i := 53) rfl)) (by decide) (a := a2) (argsL := []) (rest := [(.ref a1)]) (rm9 l Z a0 hw [] a2 b1 zc _ _ _ h3 n0 (Nat.le_trans Z0 K0.1) (S_c.ext O0.2) hz E_2 F_c F_v V_1) (by decide) (by decide) (by decide) (by decide) E_2 (g := (mkF m 17 #[.val (.ref a1), .val (.ref a2)] [(.ref a2), (.ref a1)])) rfl (by rw [hml]; rfl) (lenOf pd___I_154 rfl) rfl (by show 2 * 0 + _ ≤ _; exact Nat.le_of_eq rfl) (hb hby d8_17) e3 ?_
  rintro v4 T4 L4 X4 ⟨rfl, N4q, hh4⟩
  have N4 := Fr.app N3 N4q
  show GG _ _ _ _ _ _ _ T4 (mkF m 20 #[.val (.ref a1), .val (.ref a2)] [(.int (3 : Int32)), (.ref a1)])
  obtain ⟨T5, h5, X5, e5, W5, st5⟩ := putF X4 hx hZ hown (host := "") (Or.inl (hw _ (List.mem_of_getElem? (i := 59) rfl))) Via.refl hh4 F_to E_1 (Or.inl (hw _ (List.mem_of_getElem? (i := 60) rfl))) (hw _ (List.mem_of_getElem? (i := 32) rfl)) (ty := .int) (by decide) rfl rfl (g := (mkF m 20 #[.val (.ref a1), .val (.ref a2)] [(.int (3 : Int32)), (.ref a1)])) rfl rfl (hb hby d8_20)
  have E_1 := E_1.wr W5
  have F_ascii := F_ascii.other W5 (Or.inr (slot_ne (Or.inl (hw _ (List.mem_of_getElem? (i := 44) rfl))) (Or.inl (hw _ (List.mem_of_getElem? (i := 60) rfl))) (by decide) (t := (.array .byte)) (t' := .int) (by decide) (by decide)))
  have F_decoded := F_decoded.other W5 (Or.inr (slot_ne (Or.inl (hw _ (List.mem_of_getElem? (i := 46) rfl))) (Or.inl (hw _ (List.mem_of_getElem? (i := 60) rfl))) (by decide) (t := (.object "java/lang/String")) (t' := .int) (by decide) (by decide)))
  have F_from := F_from.other W5 (Or.inr (slot_ne (Or.inl (hw _ (List.mem_of_getElem? (i := 48) rfl))) (Or.inl (hw _ (List.mem_of_getElem? (i := 60) rfl))) (by decide) (t := .int) (t' := .int) (by decide) (by decide)))
  have K0 := K0.wr W5 (Or.inl (List.mem_of_getElem? (i := 0) rfl))
  have E_2 := E_2.wr W5
  have F_c := F_c.other W5 (Or.inl (Ne.symm ne12))
  have F_v := F_v.other W5 (Or.inl (Ne.symm ne12))
  have V_1 := V_1.other W5 (Ne.symm ne1b)
  have O0 := O0.wr W5 g_1
  have F_to := F_to.same W5
  have N5 := Fr.snoc X5 N4 g_1
  refine own_go (fun _ => st5 _) ?_
  show GG _ _ _ _ _ _ _ T5 (mkF m 23 #[.val (.ref a1), .val (.ref a2)] [])
  refine own_retV X5 hx hlk Bd.returns (hb hby d8_23) (by decide) (by decide) ?_
  show Q8 Z a1 a2 b1 zc z1 z2 z3 h0 n0 (none) T5.heap _
  rw [e5]
  exact ⟨rfl, N5, K0, E_1, F_ascii, F_decoded, F_from, F_to⟩
theorem d11_0 : decode prog_44_method_2_code 0 = .ok (.aload_n 0, 1) := by decide +kernel
theorem d11_1 : decode prog_44_method_2_code 1 = .ok (.getfield 7, 3) := by decide +kernel
theorem d11_4 : decode prog_44_method_2_code 4 = .ok (.aload_n 1, 1) := by decide +kernel
theorem d11_5 : decode prog_44_method_2_code 5 = .ok (.if_acmp .eq 8, 3) := by decide +kernel
theorem d11_8 : decode prog_44_method_2_code 8 = .ok (.aload_n 0, 1) := by decide +kernel
theorem d11_9 : decode prog_44_method_2_code 9 = .ok (.aload_n 1, 1) := by decide +kernel
theorem d11_10 : decode prog_44_method_2_code 10 = .ok (.putfield 7, 3) := by decide +kernel
theorem d11_13 : decode prog_44_method_2_code 13 = .ok (.aload_n 0, 1) := by decide +kernel
theorem d11_14 : decode prog_44_method_2_code 14 = .ok (.getfield 13, 3) := by decide +kernel
theorem d11_17 : decode prog_44_method_2_code 17 = .ok (.ifnull 8, 3) := by decide +kernel
theorem d11_25 : decode prog_44_method_2_code 25 = .ok (.aload_n 0, 1) := by decide +kernel
theorem d11_26 : decode prog_44_method_2_code 26 = .ok (.iload_n 2, 1) := by decide +kernel
theorem d11_27 : decode prog_44_method_2_code 27 = .ok (.putfield 17, 3) := by decide +kernel
theorem d11_30 : decode prog_44_method_2_code 30 = .ok (.aload_n 0, 1) := by decide +kernel
theorem d11_31 : decode prog_44_method_2_code 31 = .ok (.iload_n 3, 1) := by decide +kernel
theorem d11_32 : decode prog_44_method_2_code 32 = .ok (.putfield 21, 3) := by decide +kernel
theorem d11_35 : decode prog_44_method_2_code 35 = .ok (.return_, 1) := by decide +kernel
theorem ef_11 (m : MethodId) (x0 : Addr) (x1 : Addr) (x2 : Int32) (x3 : Int32) : entryFrame m #[(.ref x0), (.ref x1), (.int x2), (.int x3)] 4 = mkF m 0 #[.val (.ref x0), .val (.ref x1), .val (.int x2), .val (.int x3)] [] := by first | (simp [entryFrame, mkF, argsToLocals, Value.category]; done) | rfl
def Q11_n (Z : State) (a1 : Addr) (a2 : Addr) (p3 : Int32) (p4 : Int32) (o1 o2 : Int32) (h0 : Heap) (n0 : Nat) (v : Option Value) (h : Heap) (L : List Loc) : Prop := v = none ∧ Fr n0 L ∧ Keep h0 h [a1] ∧ Exa Z h a1 "com/example/breakwater/breakwater/io/LineText" ∧ Fld Z h a1 "com/example/breakwater/breakwater/io/LineText" "ascii" "[B" (.ref a2) ∧ Fld Z h a1 "com/example/breakwater/breakwater/io/LineText" "decoded" "Ljava/lang/String;" .null ∧ Fld Z h a1 "com/example/breakwater/breakwater/io/LineText" "from" "I" (.int p3) ∧ Fld Z h a1 "com/example/breakwater/breakwater/io/LineText" "to" "I" (.int p4)
set_option maxRecDepth 65536 in
set_option maxHeartbeats 40000000 in
theorem rm11_n (l : Launch) (Z : State) (a0 : Array Value) (hw : ∀ d ∈ tables_1, d.before a0 Z = true) (ws : List Jvm.Cond) (a1 : Addr) (a2 : Addr) (p3 : Int32) (p4 : Int32) (o1 o2 : Int32) (h0 : Heap) (n0 : Nat) (Z0 : n0 ≤ h0.size) (E_1 : Exa Z h0 a1 "com/example/breakwater/breakwater/io/LineText") (g_1 : n0 ≤ a1) (F_ascii : Fld Z h0 a1 "com/example/breakwater/breakwater/io/LineText" "ascii" "[B" .null) (F_decoded : Fld Z h0 a1 "com/example/breakwater/breakwater/io/LineText" "decoded" "Ljava/lang/String;" .null) (F_from : Fld Z h0 a1 "com/example/breakwater/breakwater/io/LineText" "from" "I" (.int o1)) (F_to : Fld Z h0 a1 "com/example/breakwater/breakwater/io/LineText" "to" "I" (.int o2)) :
    own_CT l Z (⟨"com/example/breakwater/breakwater/io/LineText", "set", "([BII)V"⟩ : MethodName) prog_44_method_2_code 4 none ws ({ frames := 0, cells := 0, slots := 0, locals := 0 } : Room) #[(.ref a1), (.ref a2), (.int p3), (.int p4)] h0 (Q11_n Z a1 a2 p3 p4 o1 o2 h0 n0) := by
  refine MetFree.of_bodySF (plainFor_of_name pn_com_example_breakwater_breakwater_io_LineText) hisR ?_
  intro p e s m args below meth c s₁ Bd hml0 hP hK
  obtain ⟨rfl, hZ, hh⟩ := hP
  have hx := Bd.exec
  have hby := Bd.bytes
  have hml : c.maxLocals = 4 := hml0
  have hown : s.vm.findClass "com/example/breakwater/breakwater/io/LineText" = some m.cls := findClass_of_methodNamed Bd.named
  have hnm := (name_of_methodNamed Bd.named Bd.method).1
  have hlk : meth.locks = false := BodyLoose.notSynchronized Bd
  have X0 : Stand p l e ({ frames := 0, cells := 0, slots := 0, locals := 0 } : Room) s m #[(.ref a1), (.ref a2), (.int p3), (.int p4)] below meth c s₁ [] 0 0 := Stand.of_body Bd
  have e0 : s₁.heap = h0 := by rw [← hh, Bd.state]; rfl
  have N0 := Fr.nil n0
  show GG p e below s ({ frames := 0, cells := 0, slots := 0, locals := 0 } : Room).cells ({ frames := 0, cells := 0, slots := 0, locals := 0 } : Room).slots (Q11_n Z a1 a2 p3 p4 o1 o2 h0 n0) s₁ (entryFrame m #[(.ref a1), (.ref a2), (.int p3), (.int p4)] 4)
  refine own_in (ef_11 m a1 a2 p3 p4) ?_
  have K0 := Keep.refl h0 [a1]
  show GG _ _ _ _ _ _ _ s₁ (mkF m 0 #[.val (.ref a1), .val (.ref a2), .val (.int p3), .val (.int p4)] [])
  refine own_go (fun _ => XS.aloadN X0.here hx rfl (hb hby d11_0) rfl rfl) ?_
  show GG _ _ _ _ _ _ _ s₁ (mkF m 1 #[.val (.ref a1), .val (.ref a2), .val (.int p3), .val (.int p4)] [(.ref a1)])
  obtain ⟨T1, X1, e1, st1⟩ := getF X0 hx hZ hown (host := "") (Or.inl (hw _ (List.mem_of_getElem? (i := 43) rfl))) Via.refl e0 F_ascii (g := (mkF m 1 #[.val (.ref a1), .val (.ref a2), .val (.int p3), .val (.int p4)] [(.ref a1)])) rfl rfl (hb hby d11_1)
  refine own_go (fun _ => st1 _) ?_
  show GG _ _ _ _ _ _ _ T1 (mkF m 4 #[.val (.ref a1), .val (.ref a2), .val (.int p3), .val (.int p4)] [.null])
  refine own_go (fun _ => XS.aloadN X1.here hx rfl (hb hby d11_4) rfl rfl) ?_
  show GG _ _ _ _ _ _ _ T1 (mkF m 5 #[.val (.ref a1), .val (.ref a2), .val (.int p3), .val (.int p4)] [(.ref a2), .null])
  refine own_go (fun _ => Jvm.RoadKit.acmp (g := (mkF m 5 #[.val (.ref a1), .val (.ref a2), .val (.int p3), .val (.int p4)] [(.ref a2), .null])) X1 hx rfl rfl rfl (pc0 := 5) (pc' := 8) (same := false) rfl (hb hby d11_5) rfl (decide_eq_false nofun) (by decide) (by decide)) ?_
  show GG _ _ _ _ _ _ _ T1 (mkF m 8 #[.val (.ref a1), .val (.ref a2), .val (.int p3), .val (.int p4)] [])
  refine own_go (fun _ => XS.aloadN X1.here hx rfl (hb hby d11_8) rfl rfl) ?_
  show GG _ _ _ _ _ _ _ T1 (mkF m 9 #[.val (.ref a1), .val (.ref a2), .val (.int p3), .val (.int p4)] [(.ref a1)])
  refine own_go (fun _ => XS.aloadN X1.here hx rfl (hb hby d11_9) rfl rfl) ?_
  show GG _ _ _ _ _ _ _ T1 (mkF m 10 #[.val (.ref a1), .val (.ref a2), .val (.int p3), .val (.int p4)] [(.ref a2), (.ref a1)])
  obtain ⟨T2, h2, X2, e2, W2, st2⟩ := putF X1 hx hZ hown (host := "") (Or.inl (hw _ (List.mem_of_getElem? (i := 43) rfl))) Via.refl e1 F_ascii E_1 (Or.inl (hw _ (List.mem_of_getElem? (i := 44) rfl))) (hw _ (List.mem_of_getElem? (i := 32) rfl)) (ty := (.array .byte)) (by decide) rfl rfl (g := (mkF m 10 #[.val (.ref a1), .val (.ref a2), .val (.int p3), .val (.int p4)] [(.ref a2), (.ref a1)])) rfl rfl (hb hby d11_10)
  have E_1 := E_1.wr W2
  have F_decoded := F_decoded.other W2 (Or.inr (slot_ne (Or.inl (hw _ (List.mem_of_getElem? (i := 46) rfl))) (Or.inl (hw _ (List.mem_of_getElem? (i := 44) rfl))) (by decide) (t := (.object "java/lang/String")) (t' := (.array .byte)) (by decide) (by decide)))
  have F_from := F_from.other W2 (Or.inr (slot_ne (Or.inl (hw _ (List.mem_of_getElem? (i := 48) rfl))) (Or.inl (hw _ (List.mem_of_getElem? (i := 44) rfl))) (by decide) (t := .int) (t' := (.array .byte)) (by decide) (by decide)))
  have F_to := F_to.other W2 (Or.inr (slot_ne (Or.inl (hw _ (List.mem_of_getElem? (i := 60) rfl))) (Or.inl (hw _ (List.mem_of_getElem? (i := 44) rfl))) (by decide) (t := .int) (t' := (.array .byte)) (by decide) (by decide)))
  have K0 := K0.wr W2 (Or.inl (List.mem_of_getElem? (i := 0) rfl))
  have F_ascii := F_ascii.same W2
  have N2 := Fr.snoc X2 N0 g_1
  refine own_go (fun _ => st2 _) ?_
  show GG _ _ _ _ _ _ _ T2 (mkF m 13 #[.val (.ref a1), .val (.ref a2), .val (.int p3), .val (.int p4)] [])
  refine own_go (fun _ => XS.aloadN X2.here hx rfl (hb hby d11_13) rfl rfl) ?_
  show GG _ _ _ _ _ _ _ T2 (mkF m 14 #[.val (.ref a1), .val (.ref a2), .val (.int p3), .val (.int p4)] [(.ref a1)])
  obtain ⟨T3, X3, e3, st3⟩ := getF X2 hx hZ hown (host := "") (Or.inl (hw _ (List.mem_of_getElem? (i := 45) rfl))) Via.refl e2 F_decoded (g := (mkF m 14 #[.val (.ref a1), .val (.ref a2), .val (.int p3), .val (.int p4)] [(.ref a1)])) rfl rfl (hb hby d11_14)
  refine own_go (fun _ => st3 _) ?_
  show GG _ _ _ _ _ _ _ T3 (mkF m 17 #[.val (.ref a1), .val (.ref a2), .val (.int p3), .val (.int p4)] [.null])
  refine own_go (fun _ => XS.ifnullYes X3.here hx rfl (pc0 := 17) (pc' := 25) rfl (hb hby d11_17) rfl (by decide) (by decide)) ?_
  show GG _ _ _ _ _ _ _ T3 (mkF m 25 #[.val (.ref a1), .val (.ref a2), .val (.int p3), .val (.int p4)] [])
  refine own_go (fun _ => XS.aloadN X3.here hx rfl (hb hby d11_25) rfl rfl) ?_
  show GG _ _ _ _ _ _ _ T3 (mkF m 26 #[.val (.ref a1), .val (.ref a2), .val (.int p3), .val (.int p4)] [(.ref a1)])
  refine own_go (fun _ => XS.iloadN X3.here hx rfl (hb hby d11_26) rfl) ?_
  show GG _ _ _ _ _ _ _ T3 (mkF m 27 #[.val (.ref a1), .val (.ref a2), .val (.int p3), .val (.int p4)] [(.int p3), (.ref a1)])
  obtain ⟨T4, h4, X4, e4, W4, st4⟩ := putF X3 hx hZ hown (host := "") (Or.inl (hw _ (List.mem_of_getElem? (i := 47) rfl))) Via.refl e3 F_from E_1 (Or.inl (hw _ (List.mem_of_getElem? (i := 48) rfl))) (hw _ (List.mem_of_getElem? (i := 32) rfl)) (ty := .int) (by decide) rfl rfl (g := (mkF m 27 #[.val (.ref a1), .val (.ref a2), .val (.int p3), .val (.int p4)] [(.int p3), (.ref a1)])) rfl rfl (hb hby d11_27)
  have E_1 := E_1.wr W4
  have F_ascii := F_ascii.other W4 (Or.inr (slot_ne (Or.inl (hw _ (List.mem_of_getElem? (i := 44) rfl))) (Or.inl (hw _ (List.mem_of_getElem? (i := 48) rfl))) (by decide) (t := (.array .byte)) (t' := .int) (by decide) (by decide)))
  have F_decoded := F_decoded.other W4 (Or.inr (slot_ne (Or.inl (hw _ (List.mem_of_getElem? (i := 46) rfl))) (Or.inl (hw _ (List.mem_of_getElem? (i := 48) rfl))) (by decide) (t := (.object "java/lang/String")) (t' := .int) (by decide) (by decide)))
  have F_to := F_to.other W4 (Or.inr (slot_ne (Or.inl (hw _ (List.mem_of_getElem? (i := 60) rfl))) (Or.inl (hw _ (List.mem_of_getElem? (i := 48) rfl))) (by decide) (t := .int) (t' := .int) (by decide) (by decide)))
  have K0 := K0.wr W4 (Or.inl (List.mem_of_getElem? (i := 0) rfl))
  have F_from := F_from.same W4
  have N4 := Fr.snoc X4 N2 g_1
  refine own_go (fun _ => st4 _) ?_
  show GG _ _ _ _ _ _ _ T4 (mkF m 30 #[.val (.ref a1), .val (.ref a2), .val (.int p3), .val (.int p4)] [])
  refine own_go (fun _ => XS.aloadN X4.here hx rfl (hb hby d11_30) rfl rfl) ?_
  show GG _ _ _ _ _ _ _ T4 (mkF m 31 #[.val (.ref a1), .val (.ref a2), .val (.int p3), .val (.int p4)] [(.ref a1)])
  refine own_go (fun _ => XS.iloadN X4.here hx rfl (hb hby d11_31) rfl) ?_
  show GG _ _ _ _ _ _ _ T4 (mkF m 32 #[.val (.ref a1), .val (.ref a2), .val (.int p3), .val (.int p4)] [(.int p4), (.ref a1)])
  obtain ⟨T5, h5, X5, e5, W5, st5⟩ := putF X4 hx hZ hown (host := "") (Or.inl (hw _ (List.mem_of_getElem? (i := 59) rfl))) Via.refl e4 F_to E_1 (Or.inl (hw _ (List.mem_of_getElem? (i := 60) rfl))) (hw _ (List.mem_of_getElem? (i := 32) rfl)) (ty := .int) (by decide) rfl rfl (g := (mkF m 32 #[.val (.ref a1), .val (.ref a2), .val (.int p3), .val (.int p4)] [(.int p4), (.ref a1)])) rfl rfl (hb hby d11_32)
  have E_1 := E_1.wr W5
  have F_ascii := F_ascii.other W5 (Or.inr (slot_ne (Or.inl (hw _ (List.mem_of_getElem? (i := 44) rfl))) (Or.inl (hw _ (List.mem_of_getElem? (i := 60) rfl))) (by decide) (t := (.array .byte)) (t' := .int) (by decide) (by decide)))
  have F_decoded := F_decoded.other W5 (Or.inr (slot_ne (Or.inl (hw _ (List.mem_of_getElem? (i := 46) rfl))) (Or.inl (hw _ (List.mem_of_getElem? (i := 60) rfl))) (by decide) (t := (.object "java/lang/String")) (t' := .int) (by decide) (by decide)))
  have F_from := F_from.other W5 (Or.inr (slot_ne (Or.inl (hw _ (List.mem_of_getElem? (i := 48) rfl))) (Or.inl (hw _ (List.mem_of_getElem? (i := 60) rfl))) (by decide) (t := .int) (t' := .int) (by decide) (by decide)))
  have K0 := K0.wr W5 (Or.inl (List.mem_of_getElem? (i := 0) rfl))
  have F_to := F_to.same W5
  have N5 := Fr.snoc X5 N4 g_1
  refine own_go (fun _ => st5 _) ?_
  show GG _ _ _ _ _ _ _ T5 (mkF m 35 #[.val (.ref a1), .val (.ref a2), .val (.int p3), .val (.int p4)] [])
  refine own_retV X5 hx hlk Bd.returns (hb hby d11_35) (by decide) (by decide) ?_
  show Q11_n Z a1 a2 p3 p4 o1 o2 h0 n0 (none) T5.heap _
  rw [e5]
  exact ⟨rfl, N5, K0, E_1, F_ascii, F_decoded, F_from, F_to⟩
theorem d11_20 : decode prog_44_method_2_code 20 = .ok (.aload_n 0, 1) := by decide +kernel
theorem d11_21 : decode prog_44_method_2_code 21 = .ok (.aconst_null, 1) := by decide +kernel
theorem d11_22 : decode prog_44_method_2_code 22 = .ok (.putfield 13, 3) := by decide +kernel
def Q11_s (Z : State) (a1 : Addr) (a2 : Addr) (p3 : Int32) (p4 : Int32) (b2 : Addr) (o1 o2 : Int32) (h0 : Heap) (n0 : Nat) (v : Option Value) (h : Heap) (L : List Loc) : Prop := v = none ∧ Fr n0 L ∧ Keep h0 h [a1] ∧ Exa Z h a1 "com/example/breakwater/breakwater/io/LineText" ∧ Fld Z h a1 "com/example/breakwater/breakwater/io/LineText" "ascii" "[B" (.ref a2) ∧ Fld Z h a1 "com/example/breakwater/breakwater/io/LineText" "decoded" "Ljava/lang/String;" .null ∧ Fld Z h a1 "com/example/breakwater/breakwater/io/LineText" "from" "I" (.int p3) ∧ Fld Z h a1 "com/example/breakwater/breakwater/io/LineText" "to" "I" (.int p4)
set_option maxRecDepth 65536 in
set_option maxHeartbeats 40000000 in
theorem rm11_s (l : Launch) (Z : State) (a0 : Array Value) (hw : ∀ d ∈ tables_1, d.before a0 Z = true) (ws : List Jvm.Cond) (a1 : Addr) (a2 : Addr) (p3 : Int32) (p4 : Int32) (b2 : Addr) (o1 o2 : Int32) (h0 : Heap) (n0 : Nat) (Z0 : n0 ≤ h0.size) (E_1 : Exa Z h0 a1 "com/example/breakwater/breakwater/io/LineText") (g_1 : n0 ≤ a1) (F_ascii : Fld Z h0 a1 "com/example/breakwater/breakwater/io/LineText" "ascii" "[B" .null) (F_decoded : Fld Z h0 a1 "com/example/breakwater/breakwater/io/LineText" "decoded" "Ljava/lang/String;" (.ref b2)) (F_from : Fld Z h0 a1 "com/example/breakwater/breakwater/io/LineText" "from" "I" (.int o1)) (F_to : Fld Z h0 a1 "com/example/breakwater/breakwater/io/LineText" "to" "I" (.int o2)) :
    own_CT l Z (⟨"com/example/breakwater/breakwater/io/LineText", "set", "([BII)V"⟩ : MethodName) prog_44_method_2_code 4 none ws ({ frames := 0, cells := 0, slots := 0, locals := 0 } : Room) #[(.ref a1), (.ref a2), (.int p3), (.int p4)] h0 (Q11_s Z a1 a2 p3 p4 b2 o1 o2 h0 n0) := by
  refine MetFree.of_bodySF (plainFor_of_name pn_com_example_breakwater_breakwater_io_LineText) hisR ?_
  intro p e s m args below meth c s₁ Bd hml0 hP hK
  obtain ⟨rfl, hZ, hh⟩ := hP
  have hx := Bd.exec
  have hby := Bd.bytes
  have hml : c.maxLocals = 4 := hml0
  have hown : s.vm.findClass "com/example/breakwater/breakwater/io/LineText" = some m.cls := findClass_of_methodNamed Bd.named
  have hnm := (name_of_methodNamed Bd.named Bd.method).1
  have hlk : meth.locks = false := BodyLoose.notSynchronized Bd
  have X0 : Stand p l e ({ frames := 0, cells := 0, slots := 0, locals := 0 } : Room) s m #[(.ref a1), (.ref a2), (.int p3), (.int p4)] below meth c s₁ [] 0 0 := Stand.of_body Bd
  have e0 : s₁.heap = h0 := by rw [← hh, Bd.state]; rfl
  have N0 := Fr.nil n0
  show GG p e below s ({ frames := 0, cells := 0, slots := 0, locals := 0 } : Room).cells ({ frames := 0, cells := 0, slots := 0, locals := 0 } : Room).slots (Q11_s Z a1 a2 p3 p4 b2 o1 o2 h0 n0) s₁ (entryFrame m #[(.ref a1), (.ref a2), (.int p3), (.int p4)] 4)
  refine own_in (ef_11 m a1 a2 p3 p4) ?_
  have K0 := Keep.refl h0 [a1]
  show GG _ _ _ _ _ _ _ s₁ (mkF m 0 #[.val (.ref a1), .val (.ref a2), .val (.int p3), .val (.int p4)] [])
  refine own_go (fun _ => XS.aloadN X0.here hx rfl (hb hby d11_0) rfl rfl) ?_
  show GG _ _ _ _ _ _ _ s₁ (mkF m 1 #[.val (.ref a1), .val (.ref a2), .val (.int p3), .val (.int p4)] [(.ref a1)])
  obtain ⟨T1, X1, e1, st1⟩ := getF X0 hx hZ hown (host := "") (Or.inl (hw _ (List.mem_of_getElem? (i := 43) rfl))) Via.refl e0 F_ascii (g := (mkF m 1 #[.val (.ref a1), .val (.ref a2), .val (.int p3), .val (.int p4)] [(.ref a1)])) rfl rfl (hb hby d11_1)
  refine own_go (fun _ => st1 _) ?_
  show GG _ _ _ _ _ _ _ T1 (mkF m 4 #[.val (.ref a1), .val (.ref a2), .val (.int p3), .val (.int p4)] [.null])
  refine own_go (fun _ => XS.aloadN X1.here hx rfl (hb hby d11_4) rfl rfl) ?_
  show GG _ _ _ _ _ _ _ T1 (mkF m 5 #[.val (.ref a1), .val (.ref a2), .val (.int p3), .val (.int p4)] [(.ref a2), .null])
  refine own_go (fun _ => Jvm.RoadKit.acmp (g := (mkF m 5 #[.val (.ref a1), .val (.ref a2), .val (.int p3), .val (.int p4)] [(.ref a2), .null])) X1 hx rfl rfl rfl (pc0 := 5) (pc' := 8) (same := false) rfl (hb hby d11_5) rfl (decide_eq_false nofun) (by decide) (by decide)) ?_
  show GG _ _ _ _ _ _ _ T1 (mkF m 8 #[.val (.ref a1), .val (.ref a2), .val (.int p3), .val (.int p4)] [])
  refine own_go (fun _ => XS.aloadN X1.here hx rfl (hb hby d11_8) rfl rfl) ?_
  show GG _ _ _ _ _ _ _ T1 (mkF m 9 #[.val (.ref a1), .val (.ref a2), .val (.int p3), .val (.int p4)] [(.ref a1)])
  refine own_go (fun _ => XS.aloadN X1.here hx rfl (hb hby d11_9) rfl rfl) ?_
  show GG _ _ _ _ _ _ _ T1 (mkF m 10 #[.val (.ref a1), .val (.ref a2), .val (.int p3), .val (.int p4)] [(.ref a2), (.ref a1)])
  obtain ⟨T2, h2, X2, e2, W2, st2⟩ := putF X1 hx hZ hown (host := "") (Or.inl (hw _ (List.mem_of_getElem? (i := 43) rfl))) Via.refl e1 F_ascii E_1 (Or.inl (hw _ (List.mem_of_getElem? (i := 44) rfl))) (hw _ (List.mem_of_getElem? (i := 32) rfl)) (ty := (.array .byte)) (by decide) rfl rfl (g := (mkF m 10 #[.val (.ref a1), .val (.ref a2), .val (.int p3), .val (.int p4)] [(.ref a2), (.ref a1)])) rfl rfl (hb hby d11_10)
  have E_1 := E_1.wr W2
  have F_decoded := F_decoded.other W2 (Or.inr (slot_ne (Or.inl (hw _ (List.mem_of_getElem? (i := 46) rfl))) (Or.inl (hw _ (List.mem_of_getElem? (i := 44) rfl))) (by decide) (t := (.object "java/lang/String")) (t' := (.array .byte)) (by decide) (by decide)))
  have F_from := F_from.other W2 (Or.inr (slot_ne (Or.inl (hw _ (List.mem_of_getElem? (i := 48) rfl))) (Or.inl (hw _ (List.mem_of_getElem? (i := 44) rfl))) (by decide) (t := .int) (t' := (.array .byte)) (by decide) (by decide)))
  have F_to := F_to.other W2 (Or.inr (slot_ne (Or.inl (hw _ (List.mem_of_getElem? (i := 60) rfl))) (Or.inl (hw _ (List.mem_of_getElem? (i := 44) rfl))) (by decide) (t := .int) (t' := (.array .byte)) (by decide) (by decide)))
  have K0 := K0.wr W2 (Or.inl (List.mem_of_getElem? (i := 0) rfl))
  have F_ascii := F_ascii.same W2
  have N2 := Fr.snoc X2 N0 g_1
  refine own_go (fun _ => st2 _) ?_
  show GG _ _ _ _ _ _ _ T2 (mkF m 13 #[.val (.ref a1), .val (.ref a2), .val (.int p3), .val (.int p4)] [])
  refine own_go (fun _ => XS.aloadN X2.here hx rfl (hb hby d11_13) rfl rfl) ?_
  show GG _ _ _ _ _ _ _ T2 (mkF m 14 #[.val (.ref a1), .val (.ref a2), .val (.int p3), .val (.int p4)] [(.ref a1)])
  obtain ⟨T3, X3, e3, st3⟩ := getF X2 hx hZ hown (host := "") (Or.inl (hw _ (List.mem_of_getElem? (i := 45) rfl))) Via.refl e2 F_decoded (g := (mkF m 14 #[.val (.ref a1), .val (.ref a2), .val (.int p3), .val (.int p4)] [(.ref a1)])) rfl rfl (hb hby d11_14)
  refine own_go (fun _ => st3 _) ?_
  show GG _ _ _ _ _ _ _ T3 (mkF m 17 #[.val (.ref a1), .val (.ref a2), .val (.int p3), .val (.int p4)] [(.ref b2)])
  refine own_go (fun _ => XS.ifnullNo X3.here hx rfl (hb hby d11_17) rfl) ?_
  show GG _ _ _ _ _ _ _ T3 (mkF m 20 #[.val (.ref a1), .val (.ref a2), .val (.int p3), .val (.int p4)] [])
  refine own_go (fun _ => XS.aloadN X3.here hx rfl (hb hby d11_20) rfl rfl) ?_
  show GG _ _ _ _ _ _ _ T3 (mkF m 21 #[.val (.ref a1), .val (.ref a2), .val (.int p3), .val (.int p4)] [(.ref a1)])
  refine own_go (fun _ => XS.aconstNull X3.here hx rfl (hb hby d11_21)) ?_
  show GG _ _ _ _ _ _ _ T3 (mkF m 22 #[.val (.ref a1), .val (.ref a2), .val (.int p3), .val (.int p4)] [.null, (.ref a1)])
  obtain ⟨T4, h4, X4, e4, W4, st4⟩ := putF X3 hx hZ hown (host := "") (Or.inl (hw _ (List.mem_of_getElem? (i := 45) rfl))) Via.refl e3 F_decoded E_1 (Or.inl (hw _ (List.mem_of_getElem? (i := 46) rfl))) (hw _ (List.mem_of_getElem? (i := 32) rfl)) (ty := (.object "java/lang/String")) (by decide) rfl rfl (g := (mkF m 22 #[.val (.ref a1), .val (.ref a2), .val (.int p3), .val (.int p4)] [.null, (.ref a1)])) rfl rfl (hb hby d11_22)
  have E_1 := E_1.wr W4
  have F_ascii := F_ascii.other W4 (Or.inr (slot_ne (Or.inl (hw _ (List.mem_of_getElem? (i := 44) rfl))) (Or.inl (hw _ (List.mem_of_getElem? (i := 46) rfl))) (by decide) (t := (.array .byte)) (t' := (.object "java/lang/String")) (by decide) (by decide)))
  have F_from := F_from.other W4 (Or.inr (slot_ne (Or.inl (hw _ (List.mem_of_getElem? (i := 48) rfl))) (Or.inl (hw _ (List.mem_of_getElem? (i := 46) rfl))) (by decide) (t := .int) (t' := (.object "java/lang/String")) (by decide) (by decide)))
  have F_to := F_to.other W4 (Or.inr (slot_ne (Or.inl (hw _ (List.mem_of_getElem? (i := 60) rfl))) (Or.inl (hw _ (List.mem_of_getElem? (i := 46) rfl))) (by decide) (t := .int) (t' := (.object "java/lang/String")) (by decide) (by decide)))
  have K0 := K0.wr W4 (Or.inl (List.mem_of_getElem? (i := 0) rfl))
  have F_decoded := F_decoded.same W4
  have N4 := Fr.snoc X4 N2 g_1
  refine own_go (fun _ => st4 _) ?_
  show GG _ _ _ _ _ _ _ T4 (mkF m 25 #[.val (.ref a1), .val (.ref a2), .val (.int p3), .val (.int p4)] [])
  refine own_go (fun _ => XS.aloadN X4.here hx rfl (hb hby d11_25) rfl rfl) ?_
  show GG _ _ _ _ _ _ _ T4 (mkF m 26 #[.val (.ref a1), .val (.ref a2), .val (.int p3), .val (.int p4)] [(.ref a1)])
  refine own_go (fun _ => XS.iloadN X4.here hx rfl (hb hby d11_26) rfl) ?_
  show GG _ _ _ _ _ _ _ T4 (mkF m 27 #[.val (.ref a1), .val (.ref a2), .val (.int p3), .val (.int p4)] [(.int p3), (.ref a1)])
  obtain ⟨T5, h5, X5, e5, W5, st5⟩ := putF X4 hx hZ hown (host := "") (Or.inl (hw _ (List.mem_of_getElem? (i := 47) rfl))) Via.refl e4 F_from E_1 (Or.inl (hw _ (List.mem_of_getElem? (i := 48) rfl))) (hw _ (List.mem_of_getElem? (i := 32) rfl)) (ty := .int) (by decide) rfl rfl (g := (mkF m 27 #[.val (.ref a1), .val (.ref a2), .val (.int p3), .val (.int p4)] [(.int p3), (.ref a1)])) rfl rfl (hb hby d11_27)
  have E_1 := E_1.wr W5
  have F_ascii := F_ascii.other W5 (Or.inr (slot_ne (Or.inl (hw _ (List.mem_of_getElem? (i := 44) rfl))) (Or.inl (hw _ (List.mem_of_getElem? (i := 48) rfl))) (by decide) (t := (.array .byte)) (t' := .int) (by decide) (by decide)))
  have F_decoded := F_decoded.other W5 (Or.inr (slot_ne (Or.inl (hw _ (List.mem_of_getElem? (i := 46) rfl))) (Or.inl (hw _ (List.mem_of_getElem? (i := 48) rfl))) (by decide) (t := (.object "java/lang/String")) (t' := .int) (by decide) (by decide)))
  have F_to := F_to.other W5 (Or.inr (slot_ne (Or.inl (hw _ (List.mem_of_getElem? (i := 60) rfl))) (Or.inl (hw _ (List.mem_of_getElem? (i := 48) rfl))) (by decide) (t := .int) (t' := .int) (by decide) (by decide)))
  have K0 := K0.wr W5 (Or.inl (List.mem_of_getElem? (i := 0) rfl))
  have F_from := F_from.same W5
  have N5 := Fr.snoc X5 N4 g_1
  refine own_go (fun _ => st5 _) ?_
  show GG _ _ _ _ _ _ _ T5 (mkF m 30 #[.val (.ref a1), .val (.ref a2), .val (.int p3), .val (.int p4)] [])
  refine own_go (fun _ => XS.aloadN X5.here hx rfl (hb hby d11_30) rfl rfl) ?_
  show GG _ _ _ _ _ _ _ T5 (mkF m 31 #[.val (.ref a1), .val (.ref a2), .val (.int p3), .val (.int p4)] [(.ref a1)])
  refine own_go (fun _ => XS.iloadN X5.here hx rfl (hb hby d11_31) rfl) ?_
  show GG _ _ _ _ _ _ _ T5 (mkF m 32 #[.val (.ref a1), .val (.ref a2), .val (.int p3), .val (.int p4)] [(.int p4), (.ref a1)])
  obtain ⟨T6, h6, X6, e6, W6, st6⟩ := putF X5 hx hZ hown (host := "") (Or.inl (hw _ (List.mem_of_getElem? (i := 59) rfl))) Via.refl e5 F_to E_1 (Or.inl (hw _ (List.mem_of_getElem? (i := 60) rfl))) (hw _ (List.mem_of_getElem? (i := 32) rfl)) (ty := .int) (by decide) rfl rfl (g := (mkF m 32 #[.val (.ref a1), .val (.ref a2), .val (.int p3), .val (.int p4)] [(.int p4), (.ref a1)])) rfl rfl (hb hby d11_32)
  have E_1 := E_1.wr W6
  have F_ascii := F_ascii.other W6 (Or.inr (slot_ne (Or.inl (hw _ (List.mem_of_getElem? (i := 44) rfl))) (Or.inl (hw _ (List.mem_of_getElem? (i := 60) rfl))) (by decide) (t := (.array .byte)) (t' := .int) (by decide) (by decide)))
  have F_decoded := F_decoded.other W6 (Or.inr (slot_ne (Or.inl (hw _ (List.mem_of_getElem? (i := 46) rfl))) (Or.inl (hw _ (List.mem_of_getElem? (i := 60) rfl))) (by decide) (t := (.object "java/lang/String")) (t' := .int) (by decide) (by decide)))
  have F_from := F_from.other W6 (Or.inr (slot_ne (Or.inl (hw _ (List.mem_of_getElem? (i := 48) rfl))) (Or.inl (hw _ (List.mem_of_getElem? (i := 60) rfl))) (by decide) (t := .int) (t' := .int) (by decide) (by decide)))
  have K0 := K0.wr W6 (Or.inl (List.mem_of_getElem? (i := 0) rfl))
  have F_to := F_to.same W6
  have N6 := Fr.snoc X6 N5 g_1
  refine own_go (fun _ => st6 _) ?_
  show GG _ _ _ _ _ _ _ T6 (mkF m 35 #[.val (.ref a1), .val (.ref a2), .val (.int p3), .val (.int p4)] [])
  refine own_retV X6 hx hlk Bd.returns (hb hby d11_35) (by decide) (by decide) ?_
  show Q11_s Z a1 a2 p3 p4 b2 o1 o2 h0 n0 (none) T6.heap _
  rw [e6]
  exact ⟨rfl, N6, K0, E_1, F_ascii, F_decoded, F_from, F_to⟩
def Q11_e (Z : State) (a1 : Addr) (a2 : Addr) (p3 : Int32) (p4 : Int32) (o1 o2 : Int32) (h0 : Heap) (n0 : Nat) (v : Option Value) (h : Heap) (L : List Loc) : Prop := v = none ∧ Fr n0 L ∧ Keep h0 h [a1] ∧ Exa Z h a1 "com/example/breakwater/breakwater/io/LineText" ∧ Fld Z h a1 "com/example/breakwater/breakwater/io/LineText" "ascii" "[B" (.ref a2) ∧ Fld Z h a1 "com/example/breakwater/breakwater/io/LineText" "decoded" "Ljava/lang/String;" .null ∧ Fld Z h a1 "com/example/breakwater/breakwater/io/LineText" "from" "I" (.int p3) ∧ Fld Z h a1 "com/example/breakwater/breakwater/io/LineText" "to" "I" (.int p4)
set_option maxRecDepth 65536 in
set_option maxHeartbeats 40000000 in
theorem rm11_e (l : Launch) (Z : State) (a0 : Array Value) (hw : ∀ d ∈ tables_1, d.before a0 Z = true) (ws : List Jvm.Cond) (a1 : Addr) (a2 : Addr) (p3 : Int32) (p4 : Int32) (o1 o2 : Int32) (h0 : Heap) (n0 : Nat) (Z0 : n0 ≤ h0.size) (E_1 : Exa Z h0 a1 "com/example/breakwater/breakwater/io/LineText") (g_1 : n0 ≤ a1) (F_ascii : Fld Z h0 a1 "com/example/breakwater/breakwater/io/LineText" "ascii" "[B" (.ref a2)) (F_decoded : Fld Z h0 a1 "com/example/breakwater/breakwater/io/LineText" "decoded" "Ljava/lang/String;" .null) (F_from : Fld Z h0 a1 "com/example/breakwater/breakwater/io/LineText" "from" "I" (.int o1)) (F_to : Fld Z h0 a1 "com/example/breakwater/breakwater/io/LineText" "to" "I" (.int o2)) :
    own_CT l Z (⟨"com/example/breakwater/breakwater/io/LineText", "set", "([BII)V"⟩ : MethodName) prog_44_method_2_code 4 none ws ({ frames := 0, cells := 0, slots := 0, locals := 0 } : Room) #[(.ref a1), (.ref a2), (.int p3), (.int p4)] h0 (Q11_e Z a1 a2 p3 p4 o1 o2 h0 n0) := by
  refine MetFree.of_bodySF (plainFor_of_name pn_com_example_breakwater_breakwater_io_LineText) hisR ?_
  intro p e s m args below meth c s₁ Bd hml0 hP hK
  obtain ⟨rfl, hZ, hh⟩ := hP
  have hx := Bd.exec
  have hby := Bd.bytes
  have hml : c.maxLocals = 4 := hml0
  have hown : s.vm.findClass "com/example/breakwater/breakwater/io/LineText" = some m.cls := findClass_of_methodNamed Bd.named
  have hnm := (name_of_methodNamed Bd.named Bd.method).1
  have hlk : meth.locks = false := BodyLoose.notSynchronized Bd
  have X0 : Stand p l e ({ frames := 0, cells := 0, slots := 0, locals := 0 } : Room) s m #[(.ref a1), (.ref a2), (.int p3), (.int p4)] below meth c s₁ [] 0 0 := Stand.of_body Bd
  have e0 : s₁.heap = h0 := by rw [← hh, Bd.state]; rfl
  have N0 := Fr.nil n0
  show GG p e below s ({ frames := 0, cells := 0, slots := 0, locals := 0 } : Room).cells ({ frames := 0, cells := 0, slots := 0, locals := 0 } : Room).slots (Q11_e Z a1 a2 p3 p4 o1 o2 h0 n0) s₁ (entryFrame m #[(.ref a1), (.ref a2), (.int p3), (.int p4)] 4)
  refine own_in (ef_11 m a1 a2 p3 p4) ?_
  have K0 := Keep.refl h0 [a1]
  show GG _ _ _ _ _ _ _ s₁ (mkF m 0 #[.val (.ref a1), .val (.ref a2), .val (.int p3), .val (.int p4)] [])
  refine own_go (fun _ => XS.aloadN X0.here hx rfl (hb hby d11_0) rfl rfl) ?_
  show GG _ _ _ _ _ _ _ s₁ (mkF m 1 #[.val (.ref a1), .val (.ref a2), .val (.int p3), .val (.int p4)] [(.ref a1)])
  obtain ⟨T1, X1, e1, st1⟩ := getF X0 hx hZ hown (host := "") (Or.inl (hw _ (List.mem_of_getElem? (i := 43) rfl))) Via.refl e0 F_ascii (g := (mkF m 1 #[.val (.ref a1), .val (.ref a2), .val (.int p3), .val (.int p4)] [(.ref a1)])) rfl rfl (hb hby d11_1)
  refine own_go (fun _ => st1 _) ?_
  show GG _ _ _ _ _ _ _ T1 (mkF m 4 #[.val (.ref a1), .val (.ref a2), .val (.int p3), .val (.int p4)] [(.ref a2)])
  refine own_go (fun _ => XS.aloadN X1.here hx rfl (hb hby d11_4) rfl rfl) ?_
  show GG _ _ _ _ _ _ _ T1 (mkF m 5 #[.val (.ref a1), .val (.ref a2), .val (.int p3), .val (.int p4)] [(.ref a2), (.ref a2)])
  refine own_go (fun _ => Jvm.RoadKit.acmp (g := (mkF m 5 #[.val (.ref a1), .val (.ref a2), .val (.int p3), .val (.int p4)] [(.ref a2), (.ref a2)])) X1 hx rfl rfl rfl (pc0 := 5) (pc' := 13) (same := true) rfl (hb hby d11_5) rfl (decide_eq_true rfl) (by decide) (by decide)) ?_
  show GG _ _ _ _ _ _ _ T1 (mkF m 13 #[.val (.ref a1), .val (.ref a2), .val (.int p3), .val (.int p4)] [])
  refine own_go (fun _ => XS.aloadN X1.here hx rfl (hb hby d11_13) rfl rfl) ?_
  show GG _ _ _ _ _ _ _ T1 (mkF m 14 #[.val (.ref a1), .val (.ref a2), .val (.int p3), .val (.int p4)] [(.ref a1)])
  obtain ⟨T2, X2, e2, st2⟩ := getF X1 hx hZ hown (host := "") (Or.inl (hw _ (List.mem_of_getElem? (i := 45) rfl))) Via.refl e1 F_decoded (g := (mkF m 14 #[.val (.ref a1), .val (.ref a2), .val (.int p3), .val (.int p4)] [(.ref a1)])) rfl rfl (hb hby d11_14)
  refine own_go (fun _ => st2 _) ?_
  show GG _ _ _ _ _ _ _ T2 (mkF m 17 #[.val (.ref a1), .val (.ref a2), .val (.int p3), .val (.int p4)] [.null])
  refine own_go (fun _ => XS.ifnullYes X2.here hx rfl (pc0 := 17) (pc' := 25) rfl (hb hby d11_17) rfl (by decide) (by decide)) ?_
  show GG _ _ _ _ _ _ _ T2 (mkF m 25 #[.val (.ref a1), .val (.ref a2), .val (.int p3), .val (.int p4)] [])
  refine own_go (fun _ => XS.aloadN X2.here hx rfl (hb hby d11_25) rfl rfl) ?_
  show GG _ _ _ _ _ _ _ T2 (mkF m 26 #[.val (.ref a1), .val (.ref a2), .val (.int p3), .val (.int p4)] [(.ref a1)])
  refine own_go (fun _ => XS.iloadN X2.here hx rfl (hb hby d11_26) rfl) ?_
  show GG _ _ _ _ _ _ _ T2 (mkF m 27 #[.val (.ref a1), .val (.ref a2), .val (.int p3), .val (.int p4)] [(.int p3), (.ref a1)])
  obtain ⟨T3, h3, X3, e3, W3, st3⟩ := putF X2 hx hZ hown (host := "") (Or.inl (hw _ (List.mem_of_getElem? (i := 47) rfl))) Via.refl e2 F_from E_1 (Or.inl (hw _ (List.mem_of_getElem? (i := 48) rfl))) (hw _ (List.mem_of_getElem? (i := 32) rfl)) (ty := .int) (by decide) rfl rfl (g := (mkF m 27 #[.val (.ref a1), .val (.ref a2), .val (.int p3), .val (.int p4)] [(.int p3), (.ref a1)])) rfl rfl (hb hby d11_27)
  have E_1 := E_1.wr W3
  have F_ascii := F_ascii.other W3 (Or.inr (slot_ne (Or.inl (hw _ (List.mem_of_getElem? (i := 44) rfl))) (Or.inl (hw _ (List.mem_of_getElem? (i := 48) rfl))) (by decide) (t := (.array .byte)) (t' := .int) (by decide) (by decide)))
  have F_decoded := F_decoded.other W3 (Or.inr (slot_ne (Or.inl (hw _ (List.mem_of_getElem? (i := 46) rfl))) (Or.inl (hw _ (List.mem_of_getElem? (i := 48) rfl))) (by decide) (t := (.object "java/lang/String")) (t' := .int) (by decide) (by decide)))
  have F_to := F_to.other W3 (Or.inr (slot_ne (Or.inl (hw _ (List.mem_of_getElem? (i := 60) rfl))) (Or.inl (hw _ (List.mem_of_getElem? (i := 48) rfl))) (by decide) (t := .int) (t' := .int) (by decide) (by decide)))
  have K0 := K0.wr W3 (Or.inl (List.mem_of_getElem? (i := 0) rfl))
  have F_from := F_from.same W3
  have N3 := Fr.snoc X3 N0 g_1
  refine own_go (fun _ => st3 _) ?_
  show GG _ _ _ _ _ _ _ T3 (mkF m 30 #[.val (.ref a1), .val (.ref a2), .val (.int p3), .val (.int p4)] [])
  refine own_go (fun _ => XS.aloadN X3.here hx rfl (hb hby d11_30) rfl rfl) ?_
  show GG _ _ _ _ _ _ _ T3 (mkF m 31 #[.val (.ref a1), .val (.ref a2), .val (.int p3), .val (.int p4)] [(.ref a1)])
  refine own_go (fun _ => XS.iloadN X3.here hx rfl (hb hby d11_31) rfl) ?_
  show GG _ _ _ _ _ _ _ T3 (mkF m 32 #[.val (.ref a1), .val (.ref a2), .val (.int p3), .val (.int p4)] [(.int p4), (.ref a1)])
  obtain ⟨T4, h4, X4, e4, W4, st4⟩ := putF X3 hx hZ hown (host := "") (Or.inl (hw _ (List.mem_of_getElem? (i := 59) rfl))) Via.refl e3 F_to E_1 (Or.inl (hw _ (List.mem_of_getElem? (i := 60) rfl))) (hw _ (List.mem_of_getElem? (i := 32) rfl)) (ty := .int) (by decide) rfl rfl (g := (mkF m 32 #[.val (.ref a1), .val (.ref a2), .val (.int p3), .val (.int p4)] [(.int p4), (.ref a1)])) rfl rfl (hb hby d11_32)
  have E_1 := E_1.wr W4
  have F_ascii := F_ascii.other W4 (Or.inr (slot_ne (Or.inl (hw _ (List.mem_of_getElem? (i := 44) rfl))) (Or.inl (hw _ (List.mem_of_getElem? (i := 60) rfl))) (by decide) (t := (.array .byte)) (t' := .int) (by decide) (by decide)))
  have F_decoded := F_decoded.other W4 (Or.inr (slot_ne (Or.inl (hw _ (List.mem_of_getElem? (i := 46) rfl))) (Or.inl (hw _ (List.mem_of_getElem? (i := 60) rfl))) (by decide) (t := (.object "java/lang/String")) (t' := .int) (by decide) (by decide)))
  have F_from := F_from.other W4 (Or.inr (slot_ne (Or.inl (hw _ (List.mem_of_getElem? (i := 48) rfl))) (Or.inl (hw _ (List.mem_of_getElem? (i := 60) rfl))) (by decide) (t := .int) (t' := .int) (by decide) (by decide)))
  have K0 := K0.wr W4 (Or.inl (List.mem_of_getElem? (i := 0) rfl))
  have F_to := F_to.same W4
  have N4 := Fr.snoc X4 N3 g_1
  refine own_go (fun _ => st4 _) ?_
  show GG _ _ _ _ _ _ _ T4 (mkF m 35 #[.val (.ref a1), .val (.ref a2), .val (.int p3), .val (.int p4)] [])
  refine own_retV X4 hx hlk Bd.returns (hb hby d11_35) (by decide) (by decide) ?_
  show Q11_e Z a1 a2 p3 p4 o1 o2 h0 n0 (none) T4.heap _
  rw [e4]
  exact ⟨rfl, N4, K0, E_1, F_ascii, F_decoded, F_from, F_to⟩
def Q11_d (Z : State) (a1 : Addr) (a2 : Addr) (p3 : Int32) (p4 : Int32) (b2 : Addr) (o1 o2 : Int32) (h0 : Heap) (n0 : Nat) (v : Option Value) (h : Heap) (L : List Loc) : Prop := v = none ∧ Fr n0 L ∧ Keep h0 h [a1] ∧ Exa Z h a1 "com/example/breakwater/breakwater/io/LineText" ∧ Fld Z h a1 "com/example/breakwater/breakwater/io/LineText" "ascii" "[B" (.ref a2) ∧ Fld Z h a1 "com/example/breakwater/breakwater/io/LineText" "decoded" "Ljava/lang/String;" .null ∧ Fld Z h a1 "com/example/breakwater/breakwater/io/LineText" "from" "I" (.int p3) ∧ Fld Z h a1 "com/example/breakwater/breakwater/io/LineText" "to" "I" (.int p4)
set_option maxRecDepth 65536 in
set_option maxHeartbeats 40000000 in
theorem rm11_d (l : Launch) (Z : State) (a0 : Array Value) (hw : ∀ d ∈ tables_1, d.before a0 Z = true) (ws : List Jvm.Cond) (a1 : Addr) (a2 : Addr) (p3 : Int32) (p4 : Int32) (b2 : Addr) (o1 o2 : Int32) (h0 : Heap) (n0 : Nat) (Z0 : n0 ≤ h0.size) (ned : b2 ≠ a2) (E_1 : Exa Z h0 a1 "com/example/breakwater/breakwater/io/LineText") (g_1 : n0 ≤ a1) (F_ascii : Fld Z h0 a1 "com/example/breakwater/breakwater/io/LineText" "ascii" "[B" (.ref b2)) (F_decoded : Fld Z h0 a1 "com/example/breakwater/breakwater/io/LineText" "decoded" "Ljava/lang/String;" .null) (F_from : Fld Z h0 a1 "com/example/breakwater/breakwater/io/LineText" "from" "I" (.int o1)) (F_to : Fld Z h0 a1 "com/example/breakwater/breakwater/io/LineText" "to" "I" (.int o2)) :
    own_CT l Z (⟨"com/example/breakwater/breakwater/io/LineText", "set", "([BII)V"⟩ : MethodName) prog_44_method_2_code 4 none ws ({ frames := 0, cells := 0, slots := 0, locals := 0 } : Room) #[(.ref a1), (.ref a2), (.int p3), (.int p4)] h0 (Q11_d Z a1 a2 p3 p4 b2 o1 o2 h0 n0) := by
  refine MetFree.of_bodySF (plainFor_of_name pn_com_example_breakwater_breakwater_io_LineText) hisR ?_
  intro p e s m args below meth c s₁ Bd hml0 hP hK
  obtain ⟨rfl, hZ, hh⟩ := hP
  have hx := Bd.exec
  have hby := Bd.bytes
  have hml : c.maxLocals = 4 := hml0
  have hown : s.vm.findClass "com/example/breakwater/breakwater/io/LineText" = some m.cls := findClass_of_methodNamed Bd.named
  have hnm := (name_of_methodNamed Bd.named Bd.method).1
  have hlk : meth.locks = false := BodyLoose.notSynchronized Bd
  have X0 : Stand p l e ({ frames := 0, cells := 0, slots := 0, locals := 0 } : Room) s m #[(.ref a1), (.ref a2), (.int p3), (.int p4)] below meth c s₁ [] 0 0 := Stand.of_body Bd
  have e0 : s₁.heap = h0 := by rw [← hh, Bd.state]; rfl
  have N0 := Fr.nil n0
  show GG p e below s ({ frames := 0, cells := 0, slots := 0, locals := 0 } : Room).cells ({ frames := 0, cells := 0, slots := 0, locals := 0 } : Room).slots (Q11_d Z a1 a2 p3 p4 b2 o1 o2 h0 n0) s₁ (entryFrame m #[(.ref a1), (.ref a2), (.int p3), (.int p4)] 4)
  refine own_in (ef_11 m a1 a2 p3 p4) ?_
  have K0 := Keep.refl h0 [a1]
  show GG _ _ _ _ _ _ _ s₁ (mkF m 0 #[.val (.ref a1), .val (.ref a2), .val (.int p3), .val (.int p4)] [])
  refine own_go (fun _ => XS.aloadN X0.here hx rfl (hb hby d11_0) rfl rfl) ?_
  show GG _ _ _ _ _ _ _ s₁ (mkF m 1 #[.val (.ref a1), .val (.ref a2), .val (.int p3), .val (.int p4)] [(.ref a1)])
  obtain ⟨T1, X1, e1, st1⟩ := getF X0 hx hZ hown (host := "") (Or.inl (hw _ (List.mem_of_getElem? (i := 43) rfl))) Via.refl e0 F_ascii (g := (mkF m 1 #[.val (.ref a1), .val (.ref a2), .val (.int p3), .val (.int p4)] [(.ref a1)])) rfl rfl (hb hby d11_1)
  refine own_go (fun _ => st1 _) ?_
  show GG _ _ _ _ _ _ _ T1 (mkF m 4 #[.val (.ref a1), .val (.ref a2), .val (.int p3), .val (.int p4)] [(.ref b2)])
  refine own_go (fun _ => XS.aloadN X1.here hx rfl (hb hby d11_4) rfl rfl) ?_
  show GG _ _ _ _ _ _ _ T1 (mkF m 5 #[.val (.ref a1), .val (.ref a2), .val (.int p3), .val (.int p4)] [(.ref a2), (.ref b2)])
  have hc5 : ¬ (b2 = a2) := ned
  refine own_go (fun _ => Jvm.RoadKit.acmp (g := (mkF m 5 #[.val (.ref a1), .val (.ref a2), .val (.int p3), .val (.int p4)] [(.ref a2), (.ref b2)])) X1 hx rfl rfl rfl (pc0 := 5) (pc' := 8) (same := false) rfl (hb hby d11_5) rfl (decide_eq_false fun q => hc5 (Value.ref.inj q)) (by decide) (by decide)) ?_
  show GG _ _ _ _ _ _ _ T1 (mkF m 8 #[.val (.ref a1), .val (.ref a2), .val (.int p3), .val (.int p4)] [])
  refine own_go (fun _ => XS.aloadN X1.here hx rfl (hb hby d11_8) rfl rfl) ?_
  show GG _ _ _ _ _ _ _ T1 (mkF m 9 #[.val (.ref a1), .val (.ref a2), .val (.int p3), .val (.int p4)] [(.ref a1)])
  refine own_go (fun _ => XS.aloadN X1.here hx rfl (hb hby d11_9) rfl rfl) ?_
  show GG _ _ _ _ _ _ _ T1 (mkF m 10 #[.val (.ref a1), .val (.ref a2), .val (.int p3), .val (.int p4)] [(.ref a2), (.ref a1)])
  obtain ⟨T2, h2, X2, e2, W2, st2⟩ := putF X1 hx hZ hown (host := "") (Or.inl (hw _ (List.mem_of_getElem? (i := 43) rfl))) Via.refl e1 F_ascii E_1 (Or.inl (hw _ (List.mem_of_getElem? (i := 44) rfl))) (hw _ (List.mem_of_getElem? (i := 32) rfl)) (ty := (.array .byte)) (by decide) rfl rfl (g := (mkF m 10 #[.val (.ref a1), .val (.ref a2), .val (.int p3), .val (.int p4)] [(.ref a2), (.ref a1)])) rfl rfl (hb hby d11_10)
  have E_1 := E_1.wr W2
  have F_decoded := F_decoded.other W2 (Or.inr (slot_ne (Or.inl (hw _ (List.mem_of_getElem? (i := 46) rfl))) (Or.inl (hw _ (List.mem_of_getElem? (i := 44) rfl))) (by decide) (t := (.object "java/lang/String")) (t' := (.array .byte)) (by decide) (by decide)))
  have F_from := F_from.other W2 (Or.inr (slot_ne (Or.inl (hw _ (List.mem_of_getElem? (i := 48) rfl))) (Or.inl (hw _ (List.mem_of_getElem? (i := 44) rfl))) (by decide) (t := .int) (t' := (.array .byte)) (by decide) (by decide)))
  have F_to := F_to.other W2 (Or.inr (slot_ne (Or.inl (hw _ (List.mem_of_getElem? (i := 60) rfl))) (Or.inl (hw _ (List.mem_of_getElem? (i := 44) rfl))) (by decide) (t := .int) (t' := (.array .byte)) (by decide) (by decide)))
  have K0 := K0.wr W2 (Or.inl (List.mem_of_getElem? (i := 0) rfl))
  have F_ascii := F_ascii.same W2
  have N2 := Fr.snoc X2 N0 g_1
  refine own_go (fun _ => st2 _) ?_
  show GG _ _ _ _ _ _ _ T2 (mkF m 13 #[.val (.ref a1), .val (.ref a2), .val (.int p3), .val (.int p4)] [])
  refine own_go (fun _ => XS.aloadN X2.here hx rfl (hb hby d11_13) rfl rfl) ?_
  show GG _ _ _ _ _ _ _ T2 (mkF m 14 #[.val (.ref a1), .val (.ref a2), .val (.int p3), .val (.int p4)] [(.ref a1)])
  obtain ⟨T3, X3, e3, st3⟩ := getF X2 hx hZ hown (host := "") (Or.inl (hw _ (List.mem_of_getElem? (i := 45) rfl))) Via.refl e2 F_decoded (g := (mkF m 14 #[.val (.ref a1), .val (.ref a2), .val (.int p3), .val (.int p4)] [(.ref a1)])) rfl rfl (hb hby d11_14)
  refine own_go (fun _ => st3 _) ?_
  show GG _ _ _ _ _ _ _ T3 (mkF m 17 #[.val (.ref a1), .val (.ref a2), .val (.int p3), .val (.int p4)] [.null])
  refine own_go (fun _ => XS.ifnullYes X3.here hx rfl (pc0 := 17) (pc' := 25) rfl (hb hby d11_17) rfl (by decide) (by decide)) ?_
  show GG _ _ _ _ _ _ _ T3 (mkF m 25 #[.val (.ref a1), .val (.ref a2), .val (.int p3), .val (.int p4)] [])
  refine own_go (fun _ => XS.aloadN X3.here hx rfl (hb hby d11_25) rfl rfl) ?_
  show GG _ _ _ _ _ _ _ T3 (mkF m 26 #[.val (.ref a1), .val (.ref a2), .val (.int p3), .val (.int p4)] [(.ref a1)])
  refine own_go (fun _ => XS.iloadN X3.here hx rfl (hb hby d11_26) rfl) ?_
  show GG _ _ _ _ _ _ _ T3 (mkF m 27 #[.val (.ref a1), .val (.ref a2), .val (.int p3), .val (.int p4)] [(.int p3), (.ref a1)])
  obtain ⟨T4, h4, X4, e4, W4, st4⟩ := putF X3 hx hZ hown (host := "") (Or.inl (hw _ (List.mem_of_getElem? (i := 47) rfl))) Via.refl e3 F_from E_1 (Or.inl (hw _ (List.mem_of_getElem? (i := 48) rfl))) (hw _ (List.mem_of_getElem? (i := 32) rfl)) (ty := .int) (by decide) rfl rfl (g := (mkF m 27 #[.val (.ref a1), .val (.ref a2), .val (.int p3), .val (.int p4)] [(.int p3), (.ref a1)])) rfl rfl (hb hby d11_27)
  have E_1 := E_1.wr W4
  have F_ascii := F_ascii.other W4 (Or.inr (slot_ne (Or.inl (hw _ (List.mem_of_getElem? (i := 44) rfl))) (Or.inl (hw _ (List.mem_of_getElem? (i := 48) rfl))) (by decide) (t := (.array .byte)) (t' := .int) (by decide) (by decide)))
  have F_decoded := F_decoded.other W4 (Or.inr (slot_ne (Or.inl (hw _ (List.mem_of_getElem? (i := 46) rfl))) (Or.inl (hw _ (List.mem_of_getElem? (i := 48) rfl))) (by decide) (t := (.object "java/lang/String")) (t' := .int) (by decide) (by decide)))
  have F_to := F_to.other W4 (Or.inr (slot_ne (Or.inl (hw _ (List.mem_of_getElem? (i := 60) rfl))) (Or.inl (hw _ (List.mem_of_getElem? (i := 48) rfl))) (by decide) (t := .int) (t' := .int) (by decide) (by decide)))
  have K0 := K0.wr W4 (Or.inl (List.mem_of_getElem? (i := 0) rfl))
  have F_from := F_from.same W4
  have N4 := Fr.snoc X4 N2 g_1
  refine own_go (fun _ => st4 _) ?_
  show GG _ _ _ _ _ _ _ T4 (mkF m 30 #[.val (.ref a1), .val (.ref a2), .val (.int p3), .val (.int p4)] [])
  refine own_go (fun _ => XS.aloadN X4.here hx rfl (hb hby d11_30) rfl rfl) ?_
  show GG _ _ _ _ _ _ _ T4 (mkF m 31 #[.val (.ref a1), .val (.ref a2), .val (.int p3), .val (.int p4)] [(.ref a1)])
  refine own_go (fun _ => XS.iloadN X4.here hx rfl (hb hby d11_31) rfl) ?_
  show GG _ _ _ _ _ _ _ T4 (mkF m 32 #[.val (.ref a1), .val (.ref a2), .val (.int p3), .val (.int p4)] [(.int p4), (.ref a1)])
  obtain ⟨T5, h5, X5, e5, W5, st5⟩ := putF X4 hx hZ hown (host := "") (Or.inl (hw _ (List.mem_of_getElem? (i := 59) rfl))) Via.refl e4 F_to E_1 (Or.inl (hw _ (List.mem_of_getElem? (i := 60) rfl))) (hw _ (List.mem_of_getElem? (i := 32) rfl)) (ty := .int) (by decide) rfl rfl (g := (mkF m 32 #[.val (.ref a1), .val (.ref a2), .val (.int p3), .val (.int p4)] [(.int p4), (.ref a1)])) rfl rfl (hb hby d11_32)
  have E_1 := E_1.wr W5
  have F_ascii := F_ascii.other W5 (Or.inr (slot_ne (Or.inl (hw _ (List.mem_of_getElem? (i := 44) rfl))) (Or.inl (hw _ (List.mem_of_getElem? (i := 60) rfl))) (by decide) (t := (.array .byte)) (t' := .int) (by decide) (by decide)))
  have F_decoded := F_decoded.other W5 (Or.inr (slot_ne (Or.inl (hw _ (List.mem_of_getElem? (i := 46) rfl))) (Or.inl (hw _ (List.mem_of_getElem? (i := 60) rfl))) (by decide) (t := (.object "java/lang/String")) (t' := .int) (by decide) (by decide)))
  have F_from := F_from.other W5 (Or.inr (slot_ne (Or.inl (hw _ (List.mem_of_getElem? (i := 48) rfl))) (Or.inl (hw _ (List.mem_of_getElem? (i := 60) rfl))) (by decide) (t := .int) (t' := .int) (by decide) (by decide)))
  have K0 := K0.wr W5 (Or.inl (List.mem_of_getElem? (i := 0) rfl))
  have F_to := F_to.same W5
  have N5 := Fr.snoc X5 N4 g_1
  refine own_go (fun _ => st5 _) ?_
  show GG _ _ _ _ _ _ _ T5 (mkF m 35 #[.val (.ref a1), .val (.ref a2), .val (.int p3), .val (.int p4)] [])
  refine own_retV X5 hx hlk Bd.returns (hb hby d11_35) (by decide) (by decide) ?_
  show Q11_d Z a1 a2 p3 p4 b2 o1 o2 h0 n0 (none) T5.heap _
  rw [e5]
  exact ⟨rfl, N5, K0, E_1, F_ascii, F_decoded, F_from, F_to⟩
theorem d12_0 : decode prog_44_method_4_code 0 = .ok (.aload_n 0, 1) := by decide +kernel
theorem d12_1 : decode prog_44_method_4_code 1 = .ok (.getfield 21, 3) := by decide +kernel
theorem d12_4 : decode prog_44_method_4_code 4 = .ok (.aload_n 0, 1) := by decide +kernel
theorem d12_5 : decode prog_44_method_4_code 5 = .ok (.getfield 17, 3) := by decide +kernel
theorem d12_8 : decode prog_44_method_4_code 8 = .ok (.isub, 1) := by decide +kernel
theorem d12_9 : decode prog_44_method_4_code 9 = .ok (.ireturn, 1) := by decide +kernel
theorem ef_12 (m : MethodId) (x0 : Addr) : entryFrame m #[(.ref x0)] 1 = mkF m 0 #[.val (.ref x0)] [] := by first | (simp [entryFrame, mkF, argsToLocals, Value.category]; done) | rfl
def Q12 (Z : State) (a1 : Addr) (o1 o2 : Int32) (h0 : Heap) (n0 : Nat) (v : Option Value) (h : Heap) (L : List Loc) : Prop := v = some (.int (o2 - o1)) ∧ Fr n0 L ∧ h = h0
set_option maxRecDepth 65536 in
set_option maxHeartbeats 40000000 in
theorem rm12 (l : Launch) (Z : State) (a0 : Array Value) (hw : ∀ d ∈ tables_1, d.before a0 Z = true) (ws : List Jvm.Cond) (a1 : Addr) (o1 o2 : Int32) (h0 : Heap) (n0 : Nat) (Z0 : n0 ≤ h0.size) (F_from : Fld Z h0 a1 "com/example/breakwater/breakwater/io/LineText" "from" "I" (.int o1)) (F_to : Fld Z h0 a1 "com/example/breakwater/breakwater/io/LineText" "to" "I" (.int o2)) :
    own_CT l Z (⟨"com/example/breakwater/breakwater/io/LineText", "length", "()I"⟩ : MethodName) prog_44_method_4_code 1 (some .int) ws ({ frames := 0, cells := 0, slots := 0, locals := 0 } : Room) #[(.ref a1)] h0 (Q12 Z a1 o1 o2 h0 n0) := by
  refine MetFree.of_bodySF (plainFor_of_name pn_com_example_breakwater_breakwater_io_LineText) hisR ?_
  intro p e s m args below meth c s₁ Bd hml0 hP hK
  obtain ⟨rfl, hZ, hh⟩ := hP
  have hx := Bd.exec
  have hby := Bd.bytes
  have hml : c.maxLocals = 1 := hml0
  have hown : s.vm.findClass "com/example/breakwater/breakwater/io/LineText" = some m.cls := findClass_of_methodNamed Bd.named
  have hnm := (name_of_methodNamed Bd.named Bd.method).1
  have hlk : meth.locks = false := BodyLoose.notSynchronized Bd
  have X0 : Stand p l e ({ frames := 0, cells := 0, slots := 0, locals := 0 } : Room) s m #[(.ref a1)] below meth c s₁ [] 0 0 := Stand.of_body Bd
  have e0 : s₁.heap = h0 := by rw [← hh, Bd.state]; rfl
  have N0 := Fr.nil n0
  show GG p e below s ({ frames := 0, cells := 0, slots := 0, locals := 0 } : Room).cells ({ frames := 0, cells := 0, slots := 0, locals := 0 } : Room).slots (Q12 Z a1 o1 o2 h0 n0) s₁ (entryFrame m #[(.ref a1)] 1)
  refine own_in (ef_12 m a1) ?_
  show GG _ _ _ _ _ _ _ s₁ (mkF m 0 #[.val (.ref a1)] [])
  refine own_go (fun _ => XS.aloadN X0.here hx rfl (hb hby d12_0) rfl rfl) ?_
  show GG _ _ _ _ _ _ _ s₁ (mkF m 1 #[.val (.ref a1)] [(.ref a1)])
  obtain ⟨T1, X1, e1, st1⟩ := getF X0 hx hZ hown (host := "") (Or.inl (hw _ (List.mem_of_getElem? (i := 59) rfl))) Via.refl e0 F_to (g := (mkF m 1 #[.val (.ref a1)] [(.ref a1)])) rfl rfl (hb hby d12_1)
  refine own_go (fun _ => st1 _) ?_
  show GG _ _ _ _ _ _ _ T1 (mkF m 4 #[.val (.ref a1)] [(.int o2)])
  refine own_go (fun _ => XS.aloadN X1.here hx rfl (hb hby d12_4) rfl rfl) ?_
  show GG _ _ _ _ _ _ _ T1 (mkF m 5 #[.val (.ref a1)] [(.ref a1), (.int o2)])
  obtain ⟨T2, X2, e2, st2⟩ := getF X1 hx hZ hown (host := "") (Or.inl (hw _ (List.mem_of_getElem? (i := 47) rfl))) Via.refl e1 F_from (g := (mkF m 5 #[.val (.ref a1)] [(.ref a1), (.int o2)])) rfl rfl (hb hby d12_5)
  refine own_go (fun _ => st2 _) ?_
  show GG _ _ _ _ _ _ _ T2 (mkF m 8 #[.val (.ref a1)] [(.int o1), (.int o2)])
  refine own_go (fun _ => XS.isub X2.here hx rfl (hb hby d12_8) rfl) ?_
  show GG _ _ _ _ _ _ _ T2 (mkF m 9 #[.val (.ref a1)] [(.int (o2 - o1))])
  refine own_ret X2 hx hlk (t := .int) (w := (.int (o2 - o1))) Bd.returns rfl (Or.inl ⟨rfl, by simp, _, rfl⟩) (hb hby d12_9) (by decide) (by decide) ?_
  show Q12 Z a1 o1 o2 h0 n0 (some (.int (o2 - o1))) T2.heap _
  rw [e2]
  exact ⟨rfl, N0, rfl⟩
theorem d16_0 : decode jdk_41_method_11_code 0 = .ok (.iload_n 0, 1) := by decide +kernel
theorem d16_1 : decode jdk_41_method_11_code 1 = .ok (.ifCond .lt 8, 3) := by decide +kernel
theorem d16_4 : decode jdk_41_method_11_code 4 = .ok (.iload_n 0, 1) := by decide +kernel
theorem d16_5 : decode jdk_41_method_11_code 5 = .ok (.iload_n 1, 1) := by decide +kernel
theorem d16_6 : decode jdk_41_method_11_code 6 = .ok (.if_icmp .lt 10, 3) := by decide +kernel
theorem d16_16 : decode jdk_41_method_11_code 16 = .ok (.iload_n 0, 1) := by decide +kernel
theorem d16_17 : decode jdk_41_method_11_code 17 = .ok (.ireturn, 1) := by decide +kernel
theorem pn_jdk_internal_util_Preconditions : plainName "jdk/internal/util/Preconditions" = true := by first | (simp [plainName, overriddenIn]; done) | decide +kernel
theorem ef_16 (m : MethodId) (x0 : Int32) (x1 : Int32) : entryFrame m #[(.int x0), (.int x1), .null] 3 = mkF m 0 #[.val (.int x0), .val (.int x1), .val .null] [] := by first | (simp [entryFrame, mkF, argsToLocals, Value.category]; done) | rfl
def Q16 (Z : State) (p1 : Int32) (p2 : Int32) (h0 : Heap) (n0 : Nat) (v : Option Value) (h : Heap) (L : List Loc) : Prop := v = some (.int p1) ∧ Fr n0 L ∧ h = h0
set_option maxRecDepth 65536 in
set_option maxHeartbeats 40000000 in
theorem rm16 (l : Launch) (Z : State) (a0 : Array Value) (hw : ∀ d ∈ tables_1, d.before a0 Z = true) (ws : List Jvm.Cond) (p1 : Int32) (p2 : Int32) (h0 : Heap) (n0 : Nat) (Z0 : n0 ≤ h0.size) (hi : 0 ≤ p1.toInt ∧ p1.toInt < p2.toInt) :
    own_CT l Z (⟨"jdk/internal/util/Preconditions", "checkIndex", "(IILjava/util/function/BiFunction;)I"⟩ : MethodName) jdk_41_method_11_code 3 (some .int) ws ({ frames := 0, cells := 0, slots := 0, locals := 0 } : Room) #[(.int p1), (.int p2), .null] h0 (Q16 Z p1 p2 h0 n0) := by
  refine MetFree.of_bodySF (plainFor_of_name pn_jdk_internal_util_Preconditions) hisR ?_
  intro p e s m args below meth c s₁ Bd hml0 hP hK
  obtain ⟨rfl, hZ, hh⟩ := hP
  have hx := Bd.exec
  have hby := Bd.bytes
  have hml : c.maxLocals = 3 := hml0
  have hown : s.vm.findClass "jdk/internal/util/Preconditions" = some m.cls := findClass_of_methodNamed Bd.named
  have hnm := (name_of_methodNamed Bd.named Bd.method).1
  have hlk : meth.locks = false := BodyLoose.notSynchronized Bd
  have X0 : Stand p l e ({ frames := 0, cells := 0, slots := 0, locals := 0 } : Room) s m #[(.int p1), (.int p2), .null] below meth c s₁ [] 0 0 := Stand.of_body Bd
  have e0 : s₁.heap = h0 := by rw [← hh, Bd.state]; rfl
  have N0 := Fr.nil n0
  show GG p e below s ({ frames := 0, cells := 0, slots := 0, locals := 0 } : Room).cells ({ frames := 0, cells := 0, slots := 0, locals := 0 } : Room).slots (Q16 Z p1 p2 h0 n0) s₁ (entryFrame m #[(.int p1), (.int p2), .null] 3)
  refine own_in (ef_16 m p1 p2) ?_
  show GG _ _ _ _ _ _ _ s₁ (mkF m 0 #[.val (.int p1), .val (.int p2), .val .null] [])
  refine own_go (fun _ => XS.iloadN X0.here hx rfl (hb hby d16_0) rfl) ?_
  show GG _ _ _ _ _ _ _ s₁ (mkF m 1 #[.val (.int p1), .val (.int p2), .val .null] [(.int p1)])
  have hc1 : ¬ (p1 < (0 : Int32)) := (fun q => absurd (Int32.lt_iff_toInt_lt.mp q) ((by show ¬ (p1.toInt < 0); omega : ¬ (p1.toInt < 0))))
  refine own_go (fun _ => XS.ifNo X0.here hx rfl (hb hby d16_1) rfl ((if0 _ _).trans (flt hc1).1)) ?_
  show GG _ _ _ _ _ _ _ s₁ (mkF m 4 #[.val (.int p1), .val (.int p2), .val .null] [])
  refine own_go (fun _ => XS.iloadN X0.here hx rfl (hb hby d16_4) rfl) ?_
  show GG _ _ _ _ _ _ _ s₁ (mkF m 5 #[.val (.int p1), .val (.int p2), .val .null] [(.int p1)])
  refine own_go (fun _ => XS.iloadN X0.here hx rfl (hb hby d16_5) rfl) ?_
  show GG _ _ _ _ _ _ _ s₁ (mkF m 6 #[.val (.int p1), .val (.int p2), .val .null] [(.int p2), (.int p1)])
  have hc6 : p1 < p2 := (Int32.lt_iff_toInt_lt.mpr ((by show (p1.toInt < p2.toInt); omega : (p1.toInt < p2.toInt))))
  refine own_go (fun _ => XS.icmpYes X0.here hx rfl (pc0 := 6) (pc' := 16) rfl (hb hby d16_6) rfl (tlt hc6).1 (by decide) (by decide)) ?_
  show GG _ _ _ _ _ _ _ s₁ (mkF m 16 #[.val (.int p1), .val (.int p2), .val .null] [])
  refine own_go (fun _ => XS.iloadN X0.here hx rfl (hb hby d16_16) rfl) ?_
  show GG _ _ _ _ _ _ _ s₁ (mkF m 17 #[.val (.int p1), .val (.int p2), .val .null] [(.int p1)])
  refine own_ret X0 hx hlk (t := .int) (w := (.int p1)) Bd.returns rfl (Or.inl ⟨rfl, by simp, _, rfl⟩) (hb hby d16_17) (by decide) (by decide) ?_
  show Q16 Z p1 p2 h0 n0 (some (.int p1)) s₁.heap _
  rw [e0]
  exact ⟨rfl, N0, rfl⟩
theorem pd__IILjava_util_function_BiFunction__I_328 : parseMethodDescriptor "(IILjava/util/function/BiFunction;)I" = some ⟨[.int, .int, (.object "java/util/function/BiFunction")], some .int⟩ := by decide +kernel
theorem d15_0 : decode jdk_31_method_17_code 0 = .ok (.iload_n 0, 1) := by decide +kernel
theorem d15_1 : decode jdk_31_method_17_code 1 = .ok (.iload_n 1, 1) := by decide +kernel
theorem d15_2 : decode jdk_31_method_17_code 2 = .ok (.aconst_null, 1) := by decide +kernel
theorem d15_3 : decode jdk_31_method_17_code 3 = .ok (.invokestatic 105, 3) := by decide +kernel
theorem d15_6 : decode jdk_31_method_17_code 6 = .ok (.ireturn, 1) := by decide +kernel
theorem pn_java_util_Objects : plainName "java/util/Objects" = true := by first | (simp [plainName, overriddenIn]; done) | decide +kernel
theorem ef_15 (m : MethodId) (x0 : Int32) (x1 : Int32) : entryFrame m #[(.int x0), (.int x1)] 2 = mkF m 0 #[.val (.int x0), .val (.int x1)] [] := by first | (simp [entryFrame, mkF, argsToLocals, Value.category]; done) | rfl
def Q15 (Z : State) (p1 : Int32) (p2 : Int32) (h0 : Heap) (n0 : Nat) (v : Option Value) (h : Heap) (L : List Loc) : Prop := v = some (.int p1) ∧ Fr n0 L ∧ h = h0
set_option maxRecDepth 65536 in
set_option maxHeartbeats 40000000 in
theorem rm15 (l : Launch) (Z : State) (a0 : Array Value) (hw : ∀ d ∈ tables_1, d.before a0 Z = true) (ws : List Jvm.Cond) (p1 : Int32) (p2 : Int32) (h0 : Heap) (n0 : Nat) (Z0 : n0 ≤ h0.size) (hi : 0 ≤ p1.toInt ∧ p1.toInt < p2.toInt) :
    own_CT l Z (⟨"java/util/Objects", "checkIndex", "(II)I"⟩ : MethodName) jdk_31_method_17_code 2 (some .int) ws ({ frames := 1, cells := 0, slots := 0, locals := 14 } : Room) #[(.int p1), (.int p2)] h0 (Q15 Z p1 p2 h0 n0) := by
  refine MetFree.of_bodySF (plainFor_of_name pn_java_util_Objects) hisR ?_
  intro p e s m args below meth c s₁ Bd hml0 hP hK
  obtain ⟨rfl, hZ, hh⟩ := hP
  have hx := Bd.exec
  have hby := Bd.bytes
  have hml : c.maxLocals = 2 := hml0
  have hown : s.vm.findClass "java/util/Objects" = some m.cls := findClass_of_methodNamed Bd.named
  have hnm := (name_of_methodNamed Bd.named Bd.method).1
  have hlk : meth.locks = false := BodyLoose.notSynchronized Bd
  have X0 : Stand p l e ({ frames := 1, cells := 0, slots := 0, locals := 14 } : Room) s m #[(.int p1), (.int p2)] below meth c s₁ [] 0 0 := Stand.of_body Bd
  have e0 : s₁.heap = h0 := by rw [← hh, Bd.state]; rfl
  have N0 := Fr.nil n0
  show GG p e below s ({ frames := 1, cells := 0, slots := 0, locals := 14 } : Room).cells ({ frames := 1, cells := 0, slots := 0, locals := 14 } : Room).slots (Q15 Z p1 p2 h0 n0) s₁ (entryFrame m #[(.int p1), (.int p2)] 2)
  refine own_in (ef_15 m p1 p2) ?_
  show GG _ _ _ _ _ _ _ s₁ (mkF m 0 #[.val (.int p1), .val (.int p2)] [])
  refine own_go (fun _ => XS.iloadN X0.here hx rfl (hb hby d15_0) rfl) ?_
  show GG _ _ _ _ _ _ _ s₁ (mkF m 1 #[.val (.int p1), .val (.int p2)] [(.int p1)])
  refine own_go (fun _ => XS.iloadN X0.here hx rfl (hb hby d15_1) rfl) ?_
  show GG _ _ _ _ _ _ _ s₁ (mkF m 2 #[.val (.int p1), .val (.int p2)] [(.int p2), (.int p1)])
  refine own_go (fun _ => XS.aconstNull X0.here hx rfl (hb hby d15_2)) ?_
  show GG _ _ _ _ _ _ _ s₁ (mkF m 3 #[.val (.int p1), .val (.int p2)] [.null, (.int p2), (.int p1)])
  refine own_callS X0 hx hZ (y := (⟨"jdk/internal/util/Preconditions", "checkIndex", "(IILjava/util/function/BiFunction;)I"⟩ : MethodName)) 0 hown (hw _ (List.mem_of_getElem? (i := 84) rfl)) (hw _ (List.mem_of_getElem? (i := 85) rfl)) (hw _ (List.mem_of_getElem? (i := 86) rfl)) (hw _ (List.mem_of_getElem? (i := 87) rfl)) (by decide) (argsL := [(.int p1), (.int p2), .null]) (rest := []) (rm16 l Z a0 hw [] p1 p2 h0 n0 Z0 hi) (by decide) (by decide) (by decide) (by decide) (g := (mkF m 3 #[.val (.int p1), .val (.int p2)] [.null, (.int p2), (.int p1)])) rfl (by rw [hml]; rfl) (lenOf pd__IILjava_util_function_BiFunction__I_328 rfl) rfl (by show 2 * 0 + _ ≤ _; exact Nat.le_of_eq rfl) (hb hby d15_3) e0 ?_
  rintro v1 T1 L1 X1 ⟨rfl, N1q, hh1⟩
  have N1 := Fr.app N0 N1q
  show GG _ _ _ _ _ _ _ T1 (mkF m 6 #[.val (.int p1), .val (.int p2)] [(.int p1)])
  refine own_ret X1 hx hlk (t := .int) (w := (.int p1)) Bd.returns rfl (Or.inl ⟨rfl, by simp, _, rfl⟩) (hb hby d15_6) (by decide) (by decide) ?_
  show Q15 Z p1 p2 h0 n0 (some (.int p1)) T1.heap _
  rw [hh1]
  exact ⟨rfl, N1, rfl⟩
theorem d17_0 : decode prog_44_method_7_code 0 = .ok (.aload_n 0, 1) := by decide +kernel
theorem d17_1 : decode prog_44_method_7_code 1 = .ok (.getfield 7, 3) := by decide +kernel
theorem d17_4 : decode prog_44_method_7_code 4 = .ok (.ifnull 13, 3) := by decide +kernel
theorem d17_7 : decode prog_44_method_7_code 7 = .ok (.aload_n 0, 1) := by decide +kernel
theorem d17_8 : decode prog_44_method_7_code 8 = .ok (.getfield 7, 3) := by decide +kernel
theorem d17_11 : decode prog_44_method_7_code 11 = .ok (.iload_n 1, 1) := by decide +kernel
theorem d17_12 : decode prog_44_method_7_code 12 = .ok (.baload, 1) := by decide +kernel
theorem d17_13 : decode prog_44_method_7_code 13 = .ok (.i2c, 1) := by decide +kernel
theorem d17_14 : decode prog_44_method_7_code 14 = .ok (.goto 11, 3) := by decide +kernel
theorem d17_25 : decode prog_44_method_7_code 25 = .ok (.ireturn, 1) := by decide +kernel
theorem ef_17 (m : MethodId) (x0 : Addr) (x1 : Int32) : entryFrame m #[(.ref x0), (.int x1)] 2 = mkF m 0 #[.val (.ref x0), .val (.int x1)] [] := by first | (simp [entryFrame, mkF, argsToLocals, Value.category]; done) | rfl
def Q17 (Z : State) (a1 : Addr) (p2 : Int32) (b1 : Addr) (kN : Nat) (y y0 y1 y2 y3 : Int32) (h0 : Heap) (n0 : Nat) (v : Option Value) (h : Heap) (L : List Loc) : Prop := v = some (.int y) ∧ Fr n0 L ∧ h = h0
set_option maxRecDepth 65536 in
set_option maxHeartbeats 40000000 in
theorem rm17 (l : Launch) (Z : State) (a0 : Array Value) (hw : ∀ d ∈ tables_1, d.before a0 Z = true) (ws : List Jvm.Cond) (a1 : Addr) (p2 : Int32) (b1 : Addr) (kN : Nat) (y y0 y1 y2 y3 : Int32) (h0 : Heap) (n0 : Nat) (Z0 : n0 ≤ h0.size) (F_ascii : Fld Z h0 a1 "com/example/breakwater/breakwater/io/LineText" "ascii" "[B" (.ref b1)) (V_1 : Arx Z h0 b1 .byte [(.int y0), (.int y1), (.int y2), (.int y3)]) (hk : p2.toInt = kN) (hv : ([(.int y0), (.int y1), (.int y2), (.int y3)] : List Value)[kN]? = some (.int y)) (hy : By y) :
    own_CT l Z (⟨"com/example/breakwater/breakwater/io/LineText", "held", "(I)C"⟩ : MethodName) prog_44_method_7_code 2 (some .char) ws ({ frames := 0, cells := 0, slots := 0, locals := 0 } : Room) #[(.ref a1), (.int p2)] h0 (Q17 Z a1 p2 b1 kN y y0 y1 y2 y3 h0 n0) := by
  refine MetFree.of_bodySF (plainFor_of_name pn_com_example_breakwater_breakwater_io_LineText) hisR ?_
  intro p e s m args below meth c s₁ Bd hml0 hP hK
  obtain ⟨rfl, hZ, hh⟩ := hP
  have hx := Bd.exec
  have hby := Bd.bytes
  have hml : c.maxLocals = 2 := hml0
  have hown : s.vm.findClass "com/example/breakwater/breakwater/io/LineText" = some m.cls := findClass_of_methodNamed Bd.named
  have hnm := (name_of_methodNamed Bd.named Bd.method).1
  have hlk : meth.locks = false := BodyLoose.notSynchronized Bd
  have X0 : Stand p l e ({ frames := 0, cells := 0, slots := 0, locals := 0 } : Room) s m #[(.ref a1), (.int p2)] below meth c s₁ [] 0 0 := Stand.of_body Bd
  have e0 : s₁.heap = h0 := by rw [← hh, Bd.state]; rfl
  have N0 := Fr.nil n0
  show GG p e below s ({ frames := 0, cells := 0, slots := 0, locals := 0 } : Room).cells ({ frames := 0, cells := 0, slots := 0, locals := 0 } : Room).slots (Q17 Z a1 p2 b1 kN y y0 y1 y2 y3 h0 n0) s₁ (entryFrame m #[(.ref a1), (.int p2)] 2)
  refine own_in (ef_17 m a1 p2) ?_
  show GG _ _ _ _ _ _ _ s₁ (mkF m 0 #[.val (.ref a1), .val (.int p2)] [])
  refine own_go (fun _ => XS.aloadN X0.here hx rfl (hb hby d17_0) rfl rfl) ?_
  show GG _ _ _ _ _ _ _ s₁ (mkF m 1 #[.val (.ref a1), .val (.int p2)] [(.ref a1)])
  obtain ⟨T1, X1, e1, st1⟩ := getF X0 hx hZ hown (host := "") (Or.inl (hw _ (List.mem_of_getElem? (i := 43) rfl))) Via.refl e0 F_ascii (g := (mkF m 1 #[.val (.ref a1), .val (.int p2)] [(.ref a1)])) rfl rfl (hb hby d17_1)
  refine own_go (fun _ => st1 _) ?_
  show GG _ _ _ _ _ _ _ T1 (mkF m 4 #[.val (.ref a1), .val (.int p2)] [(.ref b1)])
  refine own_go (fun _ => XS.ifnullNo X1.here hx rfl (hb hby d17_4) rfl) ?_
  show GG _ _ _ _ _ _ _ T1 (mkF m 7 #[.val (.ref a1), .val (.int p2)] [])
  refine own_go (fun _ => XS.aloadN X1.here hx rfl (hb hby d17_7) rfl rfl) ?_
  show GG _ _ _ _ _ _ _ T1 (mkF m 8 #[.val (.ref a1), .val (.int p2)] [(.ref a1)])
  obtain ⟨T2, X2, e2, st2⟩ := getF X1 hx hZ hown (host := "") (Or.inl (hw _ (List.mem_of_getElem? (i := 43) rfl))) Via.refl e1 F_ascii (g := (mkF m 8 #[.val (.ref a1), .val (.int p2)] [(.ref a1)])) rfl rfl (hb hby d17_8)
  refine own_go (fun _ => st2 _) ?_
  show GG _ _ _ _ _ _ _ T2 (mkF m 11 #[.val (.ref a1), .val (.int p2)] [(.ref b1)])
  refine own_go (fun _ => XS.iloadN X2.here hx rfl (hb hby d17_11) rfl) ?_
  show GG _ _ _ _ _ _ _ T2 (mkF m 12 #[.val (.ref a1), .val (.int p2)] [(.int p2), (.ref b1)])
  refine own_go (fun _ => own_baload X2 hx hZ e2 V_1 (j := p2) (v := (.int y)) (own_nn (by omega)) (by rw [own_nat hk]; exact hv) (g := (mkF m 12 #[.val (.ref a1), .val (.int p2)] [(.int p2), (.ref b1)])) rfl rfl (hb hby d17_12) _) ?_
  show GG _ _ _ _ _ _ _ T2 (mkF m 13 #[.val (.ref a1), .val (.int p2)] [(.int y)])
  refine own_go (fun _ => XS.i2c X2.here hx rfl (hb hby d17_13) rfl) ?_
  show GG _ _ _ _ _ _ _ T2 (mkF m 14 #[.val (.ref a1), .val (.int p2)] [(.int (y.toUInt32.toUInt16.toUInt32.toInt32))])
  have hyc : nar .char y = y := own_nc ⟨hy.1, by have := hy.2; omega⟩
  rw [show (y.toUInt32.toUInt16.toUInt32.toInt32) = y from hyc]
  show GG _ _ _ _ _ _ _ T2 (mkF m 14 #[.val (.ref a1), .val (.int p2)] [(.int y)])
  refine own_go (fun _ => XS.goto X2.here hx rfl (pc0 := 14) (pc' := 25) rfl (hb hby d17_14) (by decide) (by decide)) ?_
  show GG _ _ _ _ _ _ _ T2 (mkF m 25 #[.val (.ref a1), .val (.int p2)] [(.int y)])
  refine own_ret X2 hx hlk (t := .char) (w := (.int y)) Bd.returns (own_nch ⟨hy.1, by have := hy.2; omega⟩) (Or.inl ⟨rfl, by simp, _, rfl⟩) (hb hby d17_25) (by decide) (by decide) ?_
  show Q17 Z a1 p2 b1 kN y y0 y1 y2 y3 h0 n0 (some (.int y)) T2.heap _
  rw [e2]
  exact ⟨rfl, N0, rfl⟩
theorem pd__II_I_300 : parseMethodDescriptor "(II)I" = some ⟨[.int, .int], some .int⟩ := by decide +kernel
theorem pd__I_C_221 : parseMethodDescriptor "(I)C" = some ⟨[.int], some .char⟩ := by decide +kernel
theorem d14_0 : decode prog_44_method_5_code 0 = .ok (.iload_n 1, 1) := by decide +kernel
theorem d14_1 : decode prog_44_method_5_code 1 = .ok (.aload_n 0, 1) := by decide +kernel
theorem d14_2 : decode prog_44_method_5_code 2 = .ok (.getfield 21, 3) := by decide +kernel
theorem d14_5 : decode prog_44_method_5_code 5 = .ok (.aload_n 0, 1) := by decide +kernel
theorem d14_6 : decode prog_44_method_5_code 6 = .ok (.getfield 17, 3) := by decide +kernel
theorem d14_9 : decode prog_44_method_5_code 9 = .ok (.isub, 1) := by decide +kernel
theorem d14_10 : decode prog_44_method_5_code 10 = .ok (.invokestatic 30, 3) := by decide +kernel
theorem d14_13 : decode prog_44_method_5_code 13 = .ok (.pop, 1) := by decide +kernel
theorem d14_14 : decode prog_44_method_5_code 14 = .ok (.aload_n 0, 1) := by decide +kernel
theorem d14_15 : decode prog_44_method_5_code 15 = .ok (.aload_n 0, 1) := by decide +kernel
theorem d14_16 : decode prog_44_method_5_code 16 = .ok (.getfield 17, 3) := by decide +kernel
theorem d14_19 : decode prog_44_method_5_code 19 = .ok (.iload_n 1, 1) := by decide +kernel
theorem d14_20 : decode prog_44_method_5_code 20 = .ok (.iadd, 1) := by decide +kernel
theorem d14_21 : decode prog_44_method_5_code 21 = .ok (.invokevirtual 36, 3) := by decide +kernel
theorem d14_24 : decode prog_44_method_5_code 24 = .ok (.ireturn, 1) := by decide +kernel
theorem ef_14 (m : MethodId) (x0 : Addr) (x1 : Int32) : entryFrame m #[(.ref x0), (.int x1)] 2 = mkF m 0 #[.val (.ref x0), .val (.int x1)] [] := by first | (simp [entryFrame, mkF, argsToLocals, Value.category]; done) | rfl
def Q14 (Z : State) (a1 : Addr) (p2 : Int32) (b1 : Addr) (kN : Nat) (o1 o2 y y0 y1 y2 y3 : Int32) (h0 : Heap) (n0 : Nat) (v : Option Value) (h : Heap) (L : List Loc) : Prop := v = some (.int y) ∧ Fr n0 L ∧ h = h0
set_option maxRecDepth 65536 in
set_option maxHeartbeats 40000000 in
theorem rm14 (l : Launch) (Z : State) (a0 : Array Value) (hw : ∀ d ∈ tables_1, d.before a0 Z = true) (ws : List Jvm.Cond) (a1 : Addr) (p2 : Int32) (b1 : Addr) (kN : Nat) (o1 o2 y y0 y1 y2 y3 : Int32) (h0 : Heap) (n0 : Nat) (Z0 : n0 ≤ h0.size) (E_1 : Exa Z h0 a1 "com/example/breakwater/breakwater/io/LineText") (F_ascii : Fld Z h0 a1 "com/example/breakwater/breakwater/io/LineText" "ascii" "[B" (.ref b1)) (F_from : Fld Z h0 a1 "com/example/breakwater/breakwater/io/LineText" "from" "I" (.int o1)) (F_to : Fld Z h0 a1 "com/example/breakwater/breakwater/io/LineText" "to" "I" (.int o2)) (V_1 : Arx Z h0 b1 .byte [(.int y0), (.int y1), (.int y2), (.int y3)]) (hk : o1.toInt + p2.toInt = kN) (ho : 0 ≤ o1.toInt ∧ 0 ≤ p2.toInt ∧ p2.toInt < o2.toInt - o1.toInt ∧ o2.toInt ≤ 4) (hv : ([(.int y0), (.int y1), (.int y2), (.int y3)] : List Value)[kN]? = some (.int y)) (hy : By y) :
    own_CT l Z (⟨"com/example/breakwater/breakwater/io/LineText", "charAt", "(I)C"⟩ : MethodName) prog_44_method_5_code 2 (some .char) ws ({ frames := 2, cells := 0, slots := 0, locals := 27 } : Room) #[(.ref a1), (.int p2)] h0 (Q14 Z a1 p2 b1 kN o1 o2 y y0 y1 y2 y3 h0 n0) := by
  refine MetFree.of_bodySF (plainFor_of_name pn_com_example_breakwater_breakwater_io_LineText) hisR ?_
  intro p e s m args below meth c s₁ Bd hml0 hP hK
  obtain ⟨rfl, hZ, hh⟩ := hP
  have hx := Bd.exec
  have hby := Bd.bytes
  have hml : c.maxLocals = 2 := hml0
  have hown : s.vm.findClass "com/example/breakwater/breakwater/io/LineText" = some m.cls := findClass_of_methodNamed Bd.named
  have hnm := (name_of_methodNamed Bd.named Bd.method).1
  have hlk : meth.locks = false := BodyLoose.notSynchronized Bd
  have X0 : Stand p l e ({ frames := 2, cells := 0, slots := 0, locals := 27 } : Room) s m #[(.ref a1), (.int p2)] below meth c s₁ [] 0 0 := Stand.of_body Bd
  have e0 : s₁.heap = h0 := by rw [← hh, Bd.state]; rfl
  have N0 := Fr.nil n0
  show GG p e below s ({ frames := 2, cells := 0, slots := 0, locals := 27 } : Room).cells ({ frames := 2, cells := 0, slots := 0, locals := 27 } : Room).slots (Q14 Z a1 p2 b1 kN o1 o2 y y0 y1 y2 y3 h0 n0) s₁ (entryFrame m #[(.ref a1), (.int p2)] 2)
  refine own_in (ef_14 m a1 p2) ?_
  show GG _ _ _ _ _ _ _ s₁ (mkF m 0 #[.val (.ref a1), .val (.int p2)] [])
  refine own_go (fun _ => XS.iloadN X0.here hx rfl (hb hby d14_0) rfl) ?_
  show GG _ _ _ _ _ _ _ s₁ (mkF m 1 #[.val (.ref a1), .val (.int p2)] [(.int p2)])
  refine own_go (fun _ => XS.aloadN X0.here hx rfl (hb hby d14_1) rfl rfl) ?_
  show GG _ _ _ _ _ _ _ s₁ (mkF m 2 #[.val (.ref a1), .val (.int p2)] [(.ref a1), (.int p2)])
  obtain ⟨T1, X1, e1, st1⟩ := getF X0 hx hZ hown (host := "") (Or.inl (hw _ (List.mem_of_getElem? (i := 59) rfl))) Via.refl e0 F_to (g := (mkF m 2 #[.val (.ref a1), .val (.int p2)] [(.ref a1), (.int p2)])) rfl rfl (hb hby d14_2)
  refine own_go (fun _ => st1 _) ?_
  show GG _ _ _ _ _ _ _ T1 (mkF m 5 #[.val (.ref a1), .val (.int p2)] [(.int o2), (.int p2)])
  refine own_go (fun _ => XS.aloadN X1.here hx rfl (hb hby d14_5) rfl rfl) ?_
  show GG _ _ _ _ _ _ _ T1 (mkF m 6 #[.val (.ref a1), .val (.int p2)] [(.ref a1), (.int o2), (.int p2)])
  obtain ⟨T2, X2, e2, st2⟩ := getF X1 hx hZ hown (host := "") (Or.inl (hw _ (List.mem_of_getElem? (i := 47) rfl))) Via.refl e1 F_from (g := (mkF m 6 #[.val (.ref a1), .val (.int p2)] [(.ref a1), (.int o2), (.int p2)])) rfl rfl (hb hby d14_6)
  refine own_go (fun _ => st2 _) ?_
  show GG _ _ _ _ _ _ _ T2 (mkF m 9 #[.val (.ref a1), .val (.int p2)] [(.int o1), (.int o2), (.int p2)])
  refine own_go (fun _ => XS.isub X2.here hx rfl (hb hby d14_9) rfl) ?_
  show GG _ _ _ _ _ _ _ T2 (mkF m 10 #[.val (.ref a1), .val (.int p2)] [(.int (o2 - o1)), (.int p2)])
  have cx3 := c_isub o2 o1
  generalize hx3 : (o2 - o1) = x3 at cx3 ⊢
  have rx3 := rng32 x3
  have dx3 : x3.toInt = o2.toInt - o1.toInt := by omega
  clear cx3
  refine own_callS X2 hx hZ (y := (⟨"java/util/Objects", "checkIndex", "(II)I"⟩ : MethodName)) 0 hown (hw _ (List.mem_of_getElem? (i := 80) rfl)) (hw _ (List.mem_of_getElem? (i := 81) rfl)) (hw _ (List.mem_of_getElem? (i := 82) rfl)) (hw _ (List.mem_of_getElem? (i := 83) rfl)) (by decide) (argsL := [(.int p2), (.int x3)]) (rest := []) (rm15 l Z a0 hw [] p2 x3 h0 n0 Z0 ⟨by omega, by omega⟩) (by decide) (by decide) (by decide) (by decide) (g := (mkF m 10 #[.val (.ref a1), .val (.int p2)] [(.int x3), (.int p2)])) rfl (by rw [hml]; rfl) (lenOf pd__II_I_300 rfl) rfl (by show 2 * 0 + _ ≤ _; exact Nat.le_of_eq rfl) (hb hby d14_10) e2 ?_
  rintro v4 T4 L4 X4 ⟨rfl, N4q, hh4⟩
  have N4 := Fr.app N0 N4q
  show GG _ _ _ _ _ _ _ T4 (mkF m 13 #[.val (.ref a1), .val (.int p2)] [(.int p2)])
  refine own_go (fun _ => XS.pop X4.here hx rfl (hb hby d14_13) rfl rfl) ?_
  show GG _ _ _ _ _ _ _ T4 (mkF m 14 #[.val (.ref a1), .val (.int p2)] [])
  refine own_go (fun _ => XS.aloadN X4.here hx rfl (hb hby d14_14) rfl rfl) ?_
  show GG _ _ _ _ _ _ _ T4 (mkF m 15 #[.val (.ref a1), .val (.int p2)] [(.ref a1)])
  refine own_go (fun _ => XS.aloadN X4.here hx rfl (hb hby d14_15) rfl rfl) ?_
  show GG _ _ _ _ _ _ _ T4 (mkF m 16 #[.val (.ref a1), .val (.int p2)] [(.ref a1), (.ref a1)])
  obtain ⟨T5, X5, e5, st5⟩ := getF X4 hx hZ hown (host := "") (Or.inl (hw _ (List.mem_of_getElem? (i := 47) rfl))) Via.refl hh4 F_from (g := (mkF m 16 #[.val (.ref a1), .val (.int p2)] [(.ref a1), (.ref a1)])) rfl rfl (hb hby d14_16)
  refine own_go (fun _ => st5 _) ?_
  show GG _ _ _ _ _ _ _ T5 (mkF m 19 #[.val (.ref a1), .val (.int p2)] [(.int o1), (.ref a1)])
  refine own_go (fun _ => XS.iloadN X5.here hx rfl (hb hby d14_19) rfl) ?_
  show GG _ _ _ _ _ _ _ T5 (mkF m 20 #[.val (.ref a1), .val (.int p2)] [(.int p2), (.int o1), (.ref a1)])
  refine own_go (fun _ => XS.iadd X5.here hx rfl (hb hby d14_20) rfl) ?_
  show GG _ _ _ _ _ _ _ T5 (mkF m 21 #[.val (.ref a1), .val (.int p2)] [(.int (o1 + p2)), (.ref a1)])
  have cx6 := c_iadd o1 p2
  generalize hx6 : (o1 + p2) = x6 at cx6 ⊢
  have rx6 := rng32 x6
  have dx6 : x6.toInt = o1.toInt + p2.toInt := by omega
  clear cx6
  refine own_callP X5 hx hZ (y := (⟨"com/example/breakwater/breakwater/io/LineText", "held", "(I)C"⟩ : MethodName)) 0 hown (hw _ (List.mem_of_getElem? (i := 88) rfl)) (hw _ (List.mem_of_getElem? (i := 89) rfl)) (hw _ (List.mem_of_getElem? (i := 32) rfl)) (hw _ (List.mem_of_getElem? (i := 90) rfl)) (hw _ (List.mem_of_getElem? (i := 33) rfl)) (hw _ (List.mem_of_getElem? (i := 91) rfl)) (by decide) (a := a1) (argsL := [(.int x6)]) (rest := []) (rm17 l Z a0 hw [] a1 x6 b1 kN y y0 y1 y2 y3 h0 n0 Z0 F_ascii V_1 (by omega) hv hy) (by decide) (by decide) (by decide) (by decide) E_1 (g := (mkF m 21 #[.val (.ref a1), .val (.int p2)] [(.int x6), (.ref a1)])) rfl (by rw [hml]; rfl) (lenOf pd__I_C_221 rfl) rfl (by show 2 * 0 + _ ≤ _; exact Nat.le_of_eq rfl) (hb hby d14_21) e5 ?_
  rintro v7 T7 L7 X7 ⟨rfl, N7q, hh7⟩
  have N7 := Fr.app N4 N7q
  show GG _ _ _ _ _ _ _ T7 (mkF m 24 #[.val (.ref a1), .val (.int p2)] [(.int y)])
  refine own_ret X7 hx hlk (t := .char) (w := (.int y)) Bd.returns (own_nch ⟨hy.1, by have := hy.2; omega⟩) (Or.inl ⟨rfl, by simp, _, rfl⟩) (hb hby d14_24) (by decide) (by decide) ?_
  show Q14 Z a1 p2 b1 kN o1 o2 y y0 y1 y2 y3 h0 n0 (some (.int y)) T7.heap _
  rw [hh7]
  exact ⟨rfl, N7, rfl⟩
theorem d13_0 : decode method_2_code 0 = .ok (.iload 4, 2) := by decide +kernel
theorem d13_2 : decode method_2_code 2 = .ok (.iload_n 3, 1) := by decide +kernel
theorem d13_3 : decode method_2_code 3 = .ok (.if_icmp .lt 5, 3) := by decide +kernel
theorem d13_6 : decode method_2_code 6 = .ok (.iconst 1, 1) := by decide +kernel
theorem d13_7 : decode method_2_code 7 = .ok (.ireturn, 1) := by decide +kernel
theorem d13_8 : decode method_2_code 8 = .ok (.aload_n 0, 1) := by decide +kernel
theorem d13_9 : decode method_2_code 9 = .ok (.iload 4, 2) := by decide +kernel
theorem d13_11 : decode method_2_code 11 = .ok (.invokevirtual 7, 3) := by decide +kernel
theorem d13_14 : decode method_2_code 14 = .ok (.aload_n 1, 1) := by decide +kernel
theorem d13_15 : decode method_2_code 15 = .ok (.iload_n 2, 1) := by decide +kernel
theorem d13_16 : decode method_2_code 16 = .ok (.iload 4, 2) := by decide +kernel
theorem d13_18 : decode method_2_code 18 = .ok (.iadd, 1) := by decide +kernel
theorem d13_19 : decode method_2_code 19 = .ok (.baload, 1) := by decide +kernel
theorem d13_20 : decode method_2_code 20 = .ok (.i2c, 1) := by decide +kernel
theorem d13_21 : decode method_2_code 21 = .ok (.if_icmp .ne 7, 3) := by decide +kernel
theorem d13_24 : decode method_2_code 24 = .ok (.iconst 1, 1) := by decide +kernel
theorem d13_25 : decode method_2_code 25 = .ok (.goto 4, 3) := by decide +kernel
theorem d13_29 : decode method_2_code 29 = .ok (.ireturn, 1) := by decide +kernel
theorem pn_com_example_breakwater_breakwater_io_LineTextSetPinLaw : plainName "com/example/breakwater/breakwater/io/LineTextSetPinLaw" = true := by first | (simp [plainName, overriddenIn]; done) | decide +kernel
theorem ef_13 (m : MethodId) (x0 : Addr) (x1 : Addr) (x2 : Int32) (x3 : Int32) (x4 : Int32) : entryFrame m #[(.ref x0), (.ref x1), (.int x2), (.int x3), (.int x4)] 5 = mkF m 0 #[.val (.ref x0), .val (.ref x1), .val (.int x2), .val (.int x3), .val (.int x4)] [] := by first | (simp [entryFrame, mkF, argsToLocals, Value.category]; done) | rfl
def Q13 (Z : State) (a1 : Addr) (a2 : Addr) (o1 : Int32) (p3 : Int32) (p4 : Int32) (o2 y0 y1 y2 y3 : Int32) (h0 : Heap) (n0 : Nat) (v : Option Value) (h : Heap) (L : List Loc) : Prop := v = some (.int 1) ∧ Fr n0 L ∧ h = h0
set_option maxRecDepth 65536 in
set_option maxHeartbeats 40000000 in
theorem rm13 (l : Launch) (Z : State) (a0 : Array Value) (hw : ∀ d ∈ tables_1, d.before a0 Z = true) (ws : List Jvm.Cond) (a1 : Addr) (a2 : Addr) (o1 : Int32) (p3 : Int32) (p4 : Int32) (o2 y0 y1 y2 y3 : Int32) (h0 : Heap) (n0 : Nat) (Z0 : n0 ≤ h0.size) (E_1 : Exa Z h0 a1 "com/example/breakwater/breakwater/io/LineText") (F_ascii : Fld Z h0 a1 "com/example/breakwater/breakwater/io/LineText" "ascii" "[B" (.ref a2)) (F_from : Fld Z h0 a1 "com/example/breakwater/breakwater/io/LineText" "from" "I" (.int o1)) (F_to : Fld Z h0 a1 "com/example/breakwater/breakwater/io/LineText" "to" "I" (.int o2)) (V_1 : Arx Z h0 a2 .byte [(.int y0), (.int y1), (.int y2), (.int y3)]) (ho : 0 ≤ o1.toInt ∧ 0 ≤ p4.toInt ∧ p3.toInt = o2.toInt - o1.toInt ∧ o2.toInt ≤ 4) (hy0 : By y0) (hy1 : By y1) (hy2 : By y2) (hy3 : By y3) :
    own_CT l Z (⟨"com/example/breakwater/breakwater/io/LineTextSetPinLaw", "at", "(Lcom/example/breakwater/breakwater/io/LineText;[BIII)Z"⟩ : MethodName) method_2_code 5 (some .boolean) ws ({ frames := 3, cells := 0, slots := 0, locals := 40 } : Room) #[(.ref a1), (.ref a2), (.int o1), (.int p3), (.int p4)] h0 (Q13 Z a1 a2 o1 p3 p4 o2 y0 y1 y2 y3 h0 n0) := by
  refine MetFree.of_bodySF (plainFor_of_name pn_com_example_breakwater_breakwater_io_LineTextSetPinLaw) hisR ?_
  intro p e s m args below meth c s₁ Bd hml0 hP hK
  obtain ⟨rfl, hZ, hh⟩ := hP
  have hx := Bd.exec
  have hby := Bd.bytes
  have hml : c.maxLocals = 5 := hml0
  have hown : s.vm.findClass "com/example/breakwater/breakwater/io/LineTextSetPinLaw" = some m.cls := findClass_of_methodNamed Bd.named
  have hnm := (name_of_methodNamed Bd.named Bd.method).1
  have hlk : meth.locks = false := BodyLoose.notSynchronized Bd
  have X0 : Stand p l e ({ frames := 3, cells := 0, slots := 0, locals := 40 } : Room) s m #[(.ref a1), (.ref a2), (.int o1), (.int p3), (.int p4)] below meth c s₁ [] 0 0 := Stand.of_body Bd
  have e0 : s₁.heap = h0 := by rw [← hh, Bd.state]; rfl
  have N0 := Fr.nil n0
  show GG p e below s ({ frames := 3, cells := 0, slots := 0, locals := 40 } : Room).cells ({ frames := 3, cells := 0, slots := 0, locals := 40 } : Room).slots (Q13 Z a1 a2 o1 p3 p4 o2 y0 y1 y2 y3 h0 n0) s₁ (entryFrame m #[(.ref a1), (.ref a2), (.int o1), (.int p3), (.int p4)] 5)
  refine own_in (ef_13 m a1 a2 o1 p3 p4) ?_
  show GG _ _ _ _ _ _ _ s₁ (mkF m 0 #[.val (.ref a1), .val (.ref a2), .val (.int o1), .val (.int p3), .val (.int p4)] [])
  refine own_go (fun _ => XS.iload X0.here hx rfl (hb hby d13_0) rfl) ?_
  show GG _ _ _ _ _ _ _ s₁ (mkF m 2 #[.val (.ref a1), .val (.ref a2), .val (.int o1), .val (.int p3), .val (.int p4)] [(.int p4)])
  refine own_go (fun _ => XS.iloadN X0.here hx rfl (hb hby d13_2) rfl) ?_
  show GG _ _ _ _ _ _ _ s₁ (mkF m 3 #[.val (.ref a1), .val (.ref a2), .val (.int o1), .val (.int p3), .val (.int p4)] [(.int p3), (.int p4)])
  by_cases hc3 : p4 < p3
  · skip
    have ihc3 : (p4.toInt < p3.toInt) := Int32.lt_iff_toInt_lt.mp hc3
    refine own_go (fun _ => XS.icmpYes X0.here hx rfl (pc0 := 3) (pc' := 8) rfl (hb hby d13_3) rfl (tlt hc3).1 (by decide) (by decide)) ?_
    show GG _ _ _ _ _ _ _ s₁ (mkF m 8 #[.val (.ref a1), .val (.ref a2), .val (.int o1), .val (.int p3), .val (.int p4)] [])
    obtain ⟨kN, hk⟩ : ∃ z : Nat, o1.toInt + p4.toInt = z := ⟨(o1.toInt + p4.toInt).toNat, by omega⟩
    obtain ⟨y, hv, hy⟩ := own_four hy0 hy1 hy2 hy3 kN (by omega)
    refine own_go (fun _ => XS.aloadN X0.here hx rfl (hb hby d13_8) rfl rfl) ?_
    show GG _ _ _ _ _ _ _ s₁ (mkF m 9 #[.val (.ref a1), .val (.ref a2), .val (.int o1), .val (.int p3), .val (.int p4)] [(.ref a1)])
    refine own_go (fun _ => XS.iload X0.here hx rfl (hb hby d13_9) rfl) ?_
    show GG _ _ _ _ _ _ _ s₁ (mkF m 11 #[.val (.ref a1), .val (.ref a2), .val (.int o1), .val (.int p3), .val (.int p4)] [(.int p4), (.ref a1)])
    refine own_callV X0 hx hZ (y := (⟨"com/example/breakwater/breakwater/io/LineText", "charAt", "(I)C"⟩ : MethodName)) (z := (⟨"com/example/breakwater/breakwater/io/LineText", "charAt", "(I)C"⟩ : MethodName)) 0 hown (hw _ (List.mem_of_getElem? (i := 75) rfl)) (hw _ (List.mem_of_getElem? (i := 76) rfl)) (notFace_of_selects (args := #[]) (mvT hZ (hw _ (List.mem_of_getElem? (i := 78) rfl)))) (hw _ (List.mem_of_getElem? (i := 78) rfl)) (hw _ (List.mem_of_getElem? (i := 77) rfl)) (hw _ (List.mem_of_getElem? (i := 33) rfl)) (hw _ (List.mem_of_getElem? (i := 79) rfl)) (by decide) (a := a1) (argsL := [(.int p4)]) (rest := []) (rm14 l Z a0 hw [] a1 p4 a2 kN o1 o2 y y0 y1 y2 y3 h0 n0 Z0 E_1 F_ascii F_from F_to V_1 (by omega) (by omega) hv hy) (by decide) (by decide) (by decide) (by decide) E_1 (g := (mkF m 11 #[.val (.ref a1), .val (.ref a2), .val (.int o1), .val (.int p3), .val (.int p4)] [(.int p4), (.ref a1)])) rfl (by rw [hml]; rfl) (lenOf pd__I_C_221 rfl) rfl (by show 2 * 0 + _ ≤ _; exact Nat.le_of_eq rfl) (hb hby d13_11) e0 ?_
    rintro v1 T1 L1 X1 ⟨rfl, N1q, hh1⟩
    have N1 := Fr.app N0 N1q
    show GG _ _ _ _ _ _ _ T1 (mkF m 14 #[.val (.ref a1), .val (.ref a2), .val (.int o1), .val (.int p3), .val (.int p4)] [(.int y)])
    refine own_go (fun _ => XS.aloadN X1.here hx rfl (hb hby d13_14) rfl rfl) ?_
    show GG _ _ _ _ _ _ _ T1 (mkF m 15 #[.val (.ref a1), .val (.ref a2), .val (.int o1), .val (.int p3), .val (.int p4)] [(.ref a2), (.int y)])
    refine own_go (fun _ => XS.iloadN X1.here hx rfl (hb hby d13_15) rfl) ?_
    show GG _ _ _ _ _ _ _ T1 (mkF m 16 #[.val (.ref a1), .val (.ref a2), .val (.int o1), .val (.int p3), .val (.int p4)] [(.int o1), (.ref a2), (.int y)])
    refine own_go (fun _ => XS.iload X1.here hx rfl (hb hby d13_16) rfl) ?_
    show GG _ _ _ _ _ _ _ T1 (mkF m 18 #[.val (.ref a1), .val (.ref a2), .val (.int o1), .val (.int p3), .val (.int p4)] [(.int p4), (.int o1), (.ref a2), (.int y)])
    refine own_go (fun _ => XS.iadd X1.here hx rfl (hb hby d13_18) rfl) ?_
    show GG _ _ _ _ _ _ _ T1 (mkF m 19 #[.val (.ref a1), .val (.ref a2), .val (.int o1), .val (.int p3), .val (.int p4)] [(.int (o1 + p4)), (.ref a2), (.int y)])
    have cx2 := c_iadd o1 p4
    generalize hx2 : (o1 + p4) = x2 at cx2 ⊢
    have rx2 := rng32 x2
    have dx2 : x2.toInt = o1.toInt + p4.toInt := by omega
    clear cx2
    refine own_go (fun _ => own_baload X1 hx hZ hh1 V_1 (j := x2) (v := (.int y)) (own_nn (by omega)) (by rw [own_nat (n := kN) (by omega)]; exact hv) (g := (mkF m 19 #[.val (.ref a1), .val (.ref a2), .val (.int o1), .val (.int p3), .val (.int p4)] [(.int x2), (.ref a2), (.int y)])) rfl rfl (hb hby d13_19) _) ?_
    show GG _ _ _ _ _ _ _ T1 (mkF m 20 #[.val (.ref a1), .val (.ref a2), .val (.int o1), .val (.int p3), .val (.int p4)] [(.int y), (.int y)])
    have hyb : 0 ≤ y.toInt ∧ y.toInt < 128 := hy
    refine own_go (fun _ => XS.i2c X1.here hx rfl (hb hby d13_20) rfl) ?_
    show GG _ _ _ _ _ _ _ T1 (mkF m 21 #[.val (.ref a1), .val (.ref a2), .val (.int o1), .val (.int p3), .val (.int p4)] [(.int (y.toUInt32.toUInt16.toUInt32.toInt32)), (.int y)])
    have cx3 := c_i2c y
    generalize hx3 : (y.toUInt32.toUInt16.toUInt32.toInt32) = x3 at cx3 ⊢
    have rx3 := rng32 x3
    have dx3 : x3.toInt = y.toInt := by omega
    clear cx3
    have hc21 : y = x3 := (Int32.toInt_inj.mp ((by show (y.toInt = x3.toInt); omega : (y.toInt = x3.toInt))))
    refine own_go (fun _ => XS.icmpNo X1.here hx rfl (hb hby d13_21) rfl (teq hc21).2) ?_
    show GG _ _ _ _ _ _ _ T1 (mkF m 24 #[.val (.ref a1), .val (.ref a2), .val (.int o1), .val (.int p3), .val (.int p4)] [])
    refine own_go (fun _ => XS.iconst X1.here hx rfl (hb hby d13_24)) ?_
    show GG _ _ _ _ _ _ _ T1 (mkF m 25 #[.val (.ref a1), .val (.ref a2), .val (.int o1), .val (.int p3), .val (.int p4)] [(.int (1 : Int32))])
    refine own_go (fun _ => XS.goto X1.here hx rfl (pc0 := 25) (pc' := 29) rfl (hb hby d13_25) (by decide) (by decide)) ?_
    show GG _ _ _ _ _ _ _ T1 (mkF m 29 #[.val (.ref a1), .val (.ref a2), .val (.int o1), .val (.int p3), .val (.int p4)] [(.int (1 : Int32))])
    refine own_ret X1 hx hlk (t := .boolean) (w := (.int (1 : Int32))) Bd.returns rfl (Or.inl ⟨rfl, by simp, _, rfl⟩) (hb hby d13_29) (by decide) (by decide) ?_
    show Q13 Z a1 a2 o1 p3 p4 o2 y0 y1 y2 y3 h0 n0 (some (.int (1 : Int32))) T1.heap _
    rw [hh1]
    exact ⟨rfl, N1, rfl⟩
  · skip
    have ihc3 : ¬ (p4.toInt < p3.toInt) := fun q => hc3 (Int32.lt_iff_toInt_lt.mpr q)
    refine own_go (fun _ => XS.icmpNo X0.here hx rfl (hb hby d13_3) rfl (flt hc3).1) ?_
    show GG _ _ _ _ _ _ _ s₁ (mkF m 6 #[.val (.ref a1), .val (.ref a2), .val (.int o1), .val (.int p3), .val (.int p4)] [])
    refine own_go (fun _ => XS.iconst X0.here hx rfl (hb hby d13_6)) ?_
    show GG _ _ _ _ _ _ _ s₁ (mkF m 7 #[.val (.ref a1), .val (.ref a2), .val (.int o1), .val (.int p3), .val (.int p4)] [(.int (1 : Int32))])
    refine own_ret X0 hx hlk (t := .boolean) (w := (.int (1 : Int32))) Bd.returns rfl (Or.inl ⟨rfl, by simp, _, rfl⟩) (hb hby d13_7) (by decide) (by decide) ?_
    show Q13 Z a1 a2 o1 p3 p4 o2 y0 y1 y2 y3 h0 n0 (some (.int (1 : Int32))) s₁.heap _
    rw [e0]
    exact ⟨rfl, N0, rfl⟩
theorem pd___C_V_325 : parseMethodDescriptor "([C)V" = some ⟨[(.array .char)], none⟩ := by decide +kernel
theorem pd___V_167 : parseMethodDescriptor "()V" = some ⟨[], none⟩ := by decide +kernel
theorem pd__Ljava_lang_String__V_866 : parseMethodDescriptor "(Ljava/lang/String;)V" = some ⟨[(.object "java/lang/String")], none⟩ := by decide +kernel
theorem pd___BII_V_470 : parseMethodDescriptor "([BII)V" = some ⟨[(.array .byte), .int, .int], none⟩ := by decide +kernel
theorem pd__Lcom_example_breakwater_breakwater_io_L_156 : parseMethodDescriptor "(Lcom/example/breakwater/breakwater/io/LineText;[BIII)Z" = some ⟨[(.object "com/example/breakwater/breakwater/io/LineText"), (.array .byte), .int, .int, .int], some .boolean⟩ := by decide +kernel
theorem ef_0 (m : MethodId) (x0 : Int32) (x1 : Int32) (x2 : Int32) (x3 : Int32) (x4 : Int32) : entryFrame m #[(.int x0), (.int x1), (.int x2), (.int x3), (.int x4)] maxLocals = mkF m 0 #[.val (.int x0), .val (.int x1), .val (.int x2), .val (.int x3), .val (.int x4), .unset, .unset, .unset, .unset, .unset, .unset, .unset, .unset, .unset] [] := by first | (simp [entryFrame, mkF, argsToLocals, Value.category, maxLocals]; done) | rfl
def Q0 (Z : State) (p0 : Int32) (p1 : Int32) (p2 : Int32) (p3 : Int32) (p4 : Int32) (zc : Int32) (h0 : Heap) (n0 : Nat) (v : Option Value) (h : Heap) (L : List Loc) : Prop := v = some (.int 1) ∧ Fr n0 L
set_option maxRecDepth 65536 in
set_option maxHeartbeats 40000000 in
theorem rm0 (l : Launch) (Z : State) (a0 : Array Value) (hw : ∀ d ∈ tables_1, d.before a0 Z = true) (ws : List Jvm.Cond) (p0 : Int32) (p1 : Int32) (p2 : Int32) (p3 : Int32) (p4 : Int32) (zc : Int32) (h0 : Heap) (n0 : Nat) (Z0 : n0 ≤ h0.size) (O0 : Old Z n0 h0) (S_c : Sta Z Z.heap "java/lang/String" "COMPACT_STRINGS" "Z" (.int zc)) (hz : zc ≠ 0) :
    own_CT l Z x code maxLocals ret ws room_1 #[(.int p0), (.int p1), (.int p2), (.int p3), (.int p4)] h0 (Q0 Z p0 p1 p2 p3 p4 zc h0 n0) := by
  refine MetFree.of_bodySF (plainFor_of_name pn_com_example_breakwater_breakwater_io_LineTextSetPinLaw) hisR ?_
  intro p e s m args below meth c s₁ Bd hml0 hP hK
  obtain ⟨rfl, hZ, hh⟩ := hP
  have hx := Bd.exec
  have hby := Bd.bytes
  have hml : c.maxLocals = 14 := hml0
  have hown : s.vm.findClass "com/example/breakwater/breakwater/io/LineTextSetPinLaw" = some m.cls := findClass_of_methodNamed Bd.named
  have hnm := (name_of_methodNamed Bd.named Bd.method).1
  have hlk : meth.locks = false := BodyLoose.notSynchronized Bd
  have X0 : Stand p l e room_1 s m #[(.int p0), (.int p1), (.int p2), (.int p3), (.int p4)] below meth c s₁ [] 0 0 := Stand.of_body Bd
  have e0 : s₁.heap = h0 := by rw [← hh, Bd.state]; rfl
  have N0 := Fr.nil n0
  show GG p e below s room_1.cells room_1.slots (Q0 Z p0 p1 p2 p3 p4 zc h0 n0) s₁ (entryFrame m #[(.int p0), (.int p1), (.int p2), (.int p3), (.int p4)] maxLocals)
  refine own_in (ef_0 m p0 p1 p2 p3 p4) ?_
  have K0 := Keep.refl h0 []
  show GG _ _ _ _ _ _ _ s₁ (mkF m 0 #[.val (.int p0), .val (.int p1), .val (.int p2), .val (.int p3), .val (.int p4), .unset, .unset, .unset, .unset, .unset, .unset, .unset, .unset, .unset] [])
  refine own_go (fun _ => XS.iconst X0.here hx rfl (hb hby at_0)) ?_
  show GG _ _ _ _ _ _ _ s₁ (mkF m 1 #[.val (.int p0), .val (.int p1), .val (.int p2), .val (.int p3), .val (.int p4), .unset, .unset, .unset, .unset, .unset, .unset, .unset, .unset, .unset] [(.int (4 : Int32))])
  obtain ⟨T1, h1, ob1, g1, X1, e1, E1, V_ob1, E_ob1, st1⟩ := own_newarr X0 hx hZ (hw _ (List.mem_of_getElem? (i := 0) rfl)) e0 (g := (mkF m 1 #[.val (.int p0), .val (.int p1), .val (.int p2), .val (.int p3), .val (.int p4), .unset, .unset, .unset, .unset, .unset, .unset, .unset, .unset, .unset] [(.int (4 : Int32))])) rfl (hb hby at_1) rfl (by decide) (cap := 4) (by decide) (by decide) (by decide) (by decide) (ad := "[B") (by decide)
  have sz_ob1 : h0.size ≤ ob1 := Nat.le_trans K0.1 (Nat.le_of_eq g1.symm)
  have g_ob1 : n0 ≤ ob1 := Nat.le_trans Z0 sz_ob1
  have K0 := K0.ext E1
  have O0 := O0.ext E1
  have V_ob1 : Arx Z h1 ob1 .byte [(.int (0 : Int32)), (.int (0 : Int32)), (.int (0 : Int32)), (.int (0 : Int32))] := V_ob1
  refine own_go (fun _ => st1 _) ?_
  show GG _ _ _ _ _ _ _ T1 (mkF m 3 #[.val (.int p0), .val (.int p1), .val (.int p2), .val (.int p3), .val (.int p4), .unset, .unset, .unset, .unset, .unset, .unset, .unset, .unset, .unset] [(.ref ob1)])
  refine own_go (fun _ => XS.astore X1.here hx rfl (hb hby at_3) rfl rfl (l' := #[.val (.int p0), .val (.int p1), .val (.int p2), .val (.int p3), .val (.int p4), .val (.ref ob1), .unset, .unset, .unset, .unset, .unset, .unset, .unset, .unset]) rfl) ?_
  show GG _ _ _ _ _ _ _ T1 (mkF m 5 #[.val (.int p0), .val (.int p1), .val (.int p2), .val (.int p3), .val (.int p4), .val (.ref ob1), .unset, .unset, .unset, .unset, .unset, .unset, .unset, .unset] [])
  refine own_go (fun _ => XS.aload X1.here hx rfl (hb hby at_5) rfl rfl) ?_
  show GG _ _ _ _ _ _ _ T1 (mkF m 7 #[.val (.int p0), .val (.int p1), .val (.int p2), .val (.int p3), .val (.int p4), .val (.ref ob1), .unset, .unset, .unset, .unset, .unset, .unset, .unset, .unset] [(.ref ob1)])
  refine own_go (fun _ => XS.iconst X1.here hx rfl (hb hby at_7)) ?_
  show GG _ _ _ _ _ _ _ T1 (mkF m 8 #[.val (.int p0), .val (.int p1), .val (.int p2), .val (.int p3), .val (.int p4), .val (.ref ob1), .unset, .unset, .unset, .unset, .unset, .unset, .unset, .unset] [(.int (0 : Int32)), (.ref ob1)])
  refine own_go (fun _ => XS.iloadN X1.here hx rfl (hb hby at_8) rfl) ?_
  show GG _ _ _ _ _ _ _ T1 (mkF m 9 #[.val (.int p0), .val (.int p1), .val (.int p2), .val (.int p3), .val (.int p4), .val (.ref ob1), .unset, .unset, .unset, .unset, .unset, .unset, .unset, .unset] [(.int p0), (.int (0 : Int32)), (.ref ob1)])
  refine own_go (fun _ => XS.bipush X1.here hx rfl (hb hby at_9)) ?_
  show GG _ _ _ _ _ _ _ T1 (mkF m 11 #[.val (.int p0), .val (.int p1), .val (.int p2), .val (.int p3), .val (.int p4), .val (.ref ob1), .unset, .unset, .unset, .unset, .unset, .unset, .unset, .unset] [(.int (127 : Int32)), (.int p0), (.int (0 : Int32)), (.ref ob1)])
  refine own_go (fun _ => XS.iand X1.here hx rfl (hb hby at_11) rfl) ?_
  show GG _ _ _ _ _ _ _ T1 (mkF m 12 #[.val (.int p0), .val (.int p1), .val (.int p2), .val (.int p3), .val (.int p4), .val (.ref ob1), .unset, .unset, .unset, .unset, .unset, .unset, .unset, .unset] [(.int (p0 &&& (127 : Int32))), (.int (0 : Int32)), (.ref ob1)])
  have cx2 := c_mask p0 (127 : Int32) 7 (by decide) (by decide)
  generalize hx2 : (p0 &&& (127 : Int32)) = x2 at cx2 ⊢
  have rx2 := rng32 x2
  refine own_go (fun _ => XS.i2b X1.here hx rfl (hb hby at_12) rfl) ?_
  show GG _ _ _ _ _ _ _ T1 (mkF m 13 #[.val (.int p0), .val (.int p1), .val (.int p2), .val (.int p3), .val (.int p4), .val (.ref ob1), .unset, .unset, .unset, .unset, .unset, .unset, .unset, .unset] [(.int (x2.toInt8.toInt32)), (.int (0 : Int32)), (.ref ob1)])
  have cx3 := c_i2b x2
  generalize hx3 : (x2.toInt8.toInt32) = x3 at cx3 ⊢
  have rx3 := rng32 x3
  obtain ⟨T4, h4, X4, e4, W4, V4, st4⟩ := own_bastore X1 hx hZ e1 V_ob1 (by decide) (Nat.le_of_ble_eq_true rfl) (g := (mkF m 13 #[.val (.int p0), .val (.int p1), .val (.int p2), .val (.int p3), .val (.int p4), .val (.ref ob1), .unset, .unset, .unset, .unset, .unset, .unset, .unset, .unset] [(.int x3), (.int (0 : Int32)), (.ref ob1)])) rfl rfl (hb hby at_13)
  have K0 := K0.wr W4 (Or.inr sz_ob1)
  have O0 := O0.wr W4 g_ob1
  have E_ob1 := E_ob1.wr W4
  have V_ob1 : Arx Z h4 ob1 .byte [(.int (nar .byte x3)), (.int (0 : Int32)), (.int (0 : Int32)), (.int (0 : Int32))] := V4
  have N4 := Fr.snoc X4 N0 g_ob1
  refine own_go (fun _ => st4 _) ?_
  show GG _ _ _ _ _ _ _ T4 (mkF m 14 #[.val (.int p0), .val (.int p1), .val (.int p2), .val (.int p3), .val (.int p4), .val (.ref ob1), .unset, .unset, .unset, .unset, .unset, .unset, .unset, .unset] [])
  refine own_go (fun _ => XS.aload X4.here hx rfl (hb hby at_14) rfl rfl) ?_
  show GG _ _ _ _ _ _ _ T4 (mkF m 16 #[.val (.int p0), .val (.int p1), .val (.int p2), .val (.int p3), .val (.int p4), .val (.ref ob1), .unset, .unset, .unset, .unset, .unset, .unset, .unset, .unset] [(.ref ob1)])
  refine own_go (fun _ => XS.iconst X4.here hx rfl (hb hby at_16)) ?_
  show GG _ _ _ _ _ _ _ T4 (mkF m 17 #[.val (.int p0), .val (.int p1), .val (.int p2), .val (.int p3), .val (.int p4), .val (.ref ob1), .unset, .unset, .unset, .unset, .unset, .unset, .unset, .unset] [(.int (1 : Int32)), (.ref ob1)])
  refine own_go (fun _ => XS.iloadN X4.here hx rfl (hb hby at_17) rfl) ?_
  show GG _ _ _ _ _ _ _ T4 (mkF m 18 #[.val (.int p0), .val (.int p1), .val (.int p2), .val (.int p3), .val (.int p4), .val (.ref ob1), .unset, .unset, .unset, .unset, .unset, .unset, .unset, .unset] [(.int p0), (.int (1 : Int32)), (.ref ob1)])
  refine own_go (fun _ => XS.bipush X4.here hx rfl (hb hby at_18)) ?_
  show GG _ _ _ _ _ _ _ T4 (mkF m 20 #[.val (.int p0), .val (.int p1), .val (.int p2), .val (.int p3), .val (.int p4), .val (.ref ob1), .unset, .unset, .unset, .unset, .unset, .unset, .unset, .unset] [(.int (8 : Int32)), (.int p0), (.int (1 : Int32)), (.ref ob1)])
  refine own_go (fun _ => XS.iushr X4.here hx rfl (hb hby at_20) rfl) ?_
  show GG _ _ _ _ _ _ _ T4 (mkF m 21 #[.val (.int p0), .val (.int p1), .val (.int p2), .val (.int p3), .val (.int p4), .val (.ref ob1), .unset, .unset, .unset, .unset, .unset, .unset, .unset, .unset] [(.int ((p0.toUInt32 >>> ((8 : Int32) &&& 31).toUInt32).toInt32)), (.int (1 : Int32)), (.ref ob1)])
  have cx5 := c_iushr p0 (8 : Int32) 8 (by decide) (by decide)
  generalize hx5 : ((p0.toUInt32 >>> ((8 : Int32) &&& 31).toUInt32).toInt32) = x5 at cx5 ⊢
  have rx5 := rng32 x5
  refine own_go (fun _ => XS.bipush X4.here hx rfl (hb hby at_21)) ?_
  show GG _ _ _ _ _ _ _ T4 (mkF m 23 #[.val (.int p0), .val (.int p1), .val (.int p2), .val (.int p3), .val (.int p4), .val (.ref ob1), .unset, .unset, .unset, .unset, .unset, .unset, .unset, .unset] [(.int (127 : Int32)), (.int x5), (.int (1 : Int32)), (.ref ob1)])
  refine own_go (fun _ => XS.iand X4.here hx rfl (hb hby at_23) rfl) ?_
  show GG _ _ _ _ _ _ _ T4 (mkF m 24 #[.val (.int p0), .val (.int p1), .val (.int p2), .val (.int p3), .val (.int p4), .val (.ref ob1), .unset, .unset, .unset, .unset, .unset, .unset, .unset, .unset] [(.int (x5 &&& (127 : Int32))), (.int (1 : Int32)), (.ref ob1)])
  have cx6 := c_mask x5 (127 : Int32) 7 (by decide) (by decide)
  generalize hx6 : (x5 &&& (127 : Int32)) = x6 at cx6 ⊢
  have rx6 := rng32 x6
  refine own_go (fun _ => XS.i2b X4.here hx rfl (hb hby at_24) rfl) ?_
  show GG _ _ _ _ _ _ _ T4 (mkF m 25 #[.val (.int p0), .val (.int p1), .val (.int p2), .val (.int p3), .val (.int p4), .val (.ref ob1), .unset, .unset, .unset, .unset, .unset, .unset, .unset, .unset] [(.int (x6.toInt8.toInt32)), (.int (1 : Int32)), (.ref ob1)])
  have cx7 := c_i2b x6
  generalize hx7 : (x6.toInt8.toInt32) = x7 at cx7 ⊢
  have rx7 := rng32 x7
  obtain ⟨T8, h8, X8, e8, W8, V8, st8⟩ := own_bastore X4 hx hZ e4 V_ob1 (by decide) (Nat.le_of_ble_eq_true rfl) (g := (mkF m 25 #[.val (.int p0), .val (.int p1), .val (.int p2), .val (.int p3), .val (.int p4), .val (.ref ob1), .unset, .unset, .unset, .unset, .unset, .unset, .unset, .unset] [(.int x7), (.int (1 : Int32)), (.ref ob1)])) rfl rfl (hb hby at_25)
  have K0 := K0.wr W8 (Or.inr sz_ob1)
  have O0 := O0.wr W8 g_ob1
  have E_ob1 := E_ob1.wr W8
  have V_ob1 : Arx Z h8 ob1 .byte [(.int (nar .byte x3)), (.int (nar .byte x7)), (.int (0 : Int32)), (.int (0 : Int32))] := V8
  have N8 := Fr.snoc X8 N4 g_ob1
  refine own_go (fun _ => st8 _) ?_
  show GG _ _ _ _ _ _ _ T8 (mkF m 26 #[.val (.int p0), .val (.int p1), .val (.int p2), .val (.int p3), .val (.int p4), .val (.ref ob1), .unset, .unset, .unset, .unset, .unset, .unset, .unset, .unset] [])
  refine own_go (fun _ => XS.aload X8.here hx rfl (hb hby at_26) rfl rfl) ?_
  show GG _ _ _ _ _ _ _ T8 (mkF m 28 #[.val (.int p0), .val (.int p1), .val (.int p2), .val (.int p3), .val (.int p4), .val (.ref ob1), .unset, .unset, .unset, .unset, .unset, .unset, .unset, .unset] [(.ref ob1)])
  refine own_go (fun _ => XS.iconst X8.here hx rfl (hb hby at_28)) ?_
  show GG _ _ _ _ _ _ _ T8 (mkF m 29 #[.val (.int p0), .val (.int p1), .val (.int p2), .val (.int p3), .val (.int p4), .val (.ref ob1), .unset, .unset, .unset, .unset, .unset, .unset, .unset, .unset] [(.int (2 : Int32)), (.ref ob1)])
  refine own_go (fun _ => XS.iloadN X8.here hx rfl (hb hby at_29) rfl) ?_
  show GG _ _ _ _ _ _ _ T8 (mkF m 30 #[.val (.int p0), .val (.int p1), .val (.int p2), .val (.int p3), .val (.int p4), .val (.ref ob1), .unset, .unset, .unset, .unset, .unset, .unset, .unset, .unset] [(.int p0), (.int (2 : Int32)), (.ref ob1)])
  refine own_go (fun _ => XS.bipush X8.here hx rfl (hb hby at_30)) ?_
  show GG _ _ _ _ _ _ _ T8 (mkF m 32 #[.val (.int p0), .val (.int p1), .val (.int p2), .val (.int p3), .val (.int p4), .val (.ref ob1), .unset, .unset, .unset, .unset, .unset, .unset, .unset, .unset] [(.int (16 : Int32)), (.int p0), (.int (2 : Int32)), (.ref ob1)])
  refine own_go (fun _ => XS.iushr X8.here hx rfl (hb hby at_32) rfl) ?_
  show GG _ _ _ _ _ _ _ T8 (mkF m 33 #[.val (.int p0), .val (.int p1), .val (.int p2), .val (.int p3), .val (.int p4), .val (.ref ob1), .unset, .unset, .unset, .unset, .unset, .unset, .unset, .unset] [(.int ((p0.toUInt32 >>> ((16 : Int32) &&& 31).toUInt32).toInt32)), (.int (2 : Int32)), (.ref ob1)])
  have cx9 := c_iushr p0 (16 : Int32) 16 (by decide) (by decide)
  generalize hx9 : ((p0.toUInt32 >>> ((16 : Int32) &&& 31).toUInt32).toInt32) = x9 at cx9 ⊢
  have rx9 := rng32 x9
  refine own_go (fun _ => XS.bipush X8.here hx rfl (hb hby at_33)) ?_
  show GG _ _ _ _ _ _ _ T8 (mkF m 35 #[.val (.int p0), .val (.int p1), .val (.int p2), .val (.int p3), .val (.int p4), .val (.ref ob1), .unset, .unset, .unset, .unset, .unset, .unset, .unset, .unset] [(.int (127 : Int32)), (.int x9), (.int (2 : Int32)), (.ref ob1)])
  refine own_go (fun _ => XS.iand X8.here hx rfl (hb hby at_35) rfl) ?_
  show GG _ _ _ _ _ _ _ T8 (mkF m 36 #[.val (.int p0), .val (.int p1), .val (.int p2), .val (.int p3), .val (.int p4), .val (.ref ob1), .unset, .unset, .unset, .unset, .unset, .unset, .unset, .unset] [(.int (x9 &&& (127 : Int32))), (.int (2 : Int32)), (.ref ob1)])
  have cx10 := c_mask x9 (127 : Int32) 7 (by decide) (by decide)
  generalize hx10 : (x9 &&& (127 : Int32)) = x10 at cx10 ⊢
  have rx10 := rng32 x10
  refine own_go (fun _ => XS.i2b X8.here hx rfl (hb hby at_36) rfl) ?_
  show GG _ _ _ _ _ _ _ T8 (mkF m 37 #[.val (.int p0), .val (.int p1), .val (.int p2), .val (.int p3), .val (.int p4), .val (.ref ob1), .unset, .unset, .unset, .unset, .unset, .unset, .unset, .unset] [(.int (x10.toInt8.toInt32)), (.int (2 : Int32)), (.ref ob1)])
  have cx11 := c_i2b x10
  generalize hx11 : (x10.toInt8.toInt32) = x11 at cx11 ⊢
  have rx11 := rng32 x11
  obtain ⟨T12, h12, X12, e12, W12, V12, st12⟩ := own_bastore X8 hx hZ e8 V_ob1 (by decide) (Nat.le_of_ble_eq_true rfl) (g := (mkF m 37 #[.val (.int p0), .val (.int p1), .val (.int p2), .val (.int p3), .val (.int p4), .val (.ref ob1), .unset, .unset, .unset, .unset, .unset, .unset, .unset, .unset] [(.int x11), (.int (2 : Int32)), (.ref ob1)])) rfl rfl (hb hby at_37)
  have K0 := K0.wr W12 (Or.inr sz_ob1)
  have O0 := O0.wr W12 g_ob1
  have E_ob1 := E_ob1.wr W12
  have V_ob1 : Arx Z h12 ob1 .byte [(.int (nar .byte x3)), (.int (nar .byte x7)), (.int (nar .byte x11)), (.int (0 : Int32))] := V12
  have N12 := Fr.snoc X12 N8 g_ob1
  refine own_go (fun _ => st12 _) ?_
  show GG _ _ _ _ _ _ _ T12 (mkF m 38 #[.val (.int p0), .val (.int p1), .val (.int p2), .val (.int p3), .val (.int p4), .val (.ref ob1), .unset, .unset, .unset, .unset, .unset, .unset, .unset, .unset] [])
  refine own_go (fun _ => XS.aload X12.here hx rfl (hb hby at_38) rfl rfl) ?_
  show GG _ _ _ _ _ _ _ T12 (mkF m 40 #[.val (.int p0), .val (.int p1), .val (.int p2), .val (.int p3), .val (.int p4), .val (.ref ob1), .unset, .unset, .unset, .unset, .unset, .unset, .unset, .unset] [(.ref ob1)])
  refine own_go (fun _ => XS.iconst X12.here hx rfl (hb hby at_40)) ?_
  show GG _ _ _ _ _ _ _ T12 (mkF m 41 #[.val (.int p0), .val (.int p1), .val (.int p2), .val (.int p3), .val (.int p4), .val (.ref ob1), .unset, .unset, .unset, .unset, .unset, .unset, .unset, .unset] [(.int (3 : Int32)), (.ref ob1)])
  refine own_go (fun _ => XS.iloadN X12.here hx rfl (hb hby at_41) rfl) ?_
  show GG _ _ _ _ _ _ _ T12 (mkF m 42 #[.val (.int p0), .val (.int p1), .val (.int p2), .val (.int p3), .val (.int p4), .val (.ref ob1), .unset, .unset, .unset, .unset, .unset, .unset, .unset, .unset] [(.int p0), (.int (3 : Int32)), (.ref ob1)])
  refine own_go (fun _ => XS.bipush X12.here hx rfl (hb hby at_42)) ?_
  show GG _ _ _ _ _ _ _ T12 (mkF m 44 #[.val (.int p0), .val (.int p1), .val (.int p2), .val (.int p3), .val (.int p4), .val (.ref ob1), .unset, .unset, .unset, .unset, .unset, .unset, .unset, .unset] [(.int (24 : Int32)), (.int p0), (.int (3 : Int32)), (.ref ob1)])
  refine own_go (fun _ => XS.iushr X12.here hx rfl (hb hby at_44) rfl) ?_
  show GG _ _ _ _ _ _ _ T12 (mkF m 45 #[.val (.int p0), .val (.int p1), .val (.int p2), .val (.int p3), .val (.int p4), .val (.ref ob1), .unset, .unset, .unset, .unset, .unset, .unset, .unset, .unset] [(.int ((p0.toUInt32 >>> ((24 : Int32) &&& 31).toUInt32).toInt32)), (.int (3 : Int32)), (.ref ob1)])
  have cx13 := c_iushr p0 (24 : Int32) 24 (by decide) (by decide)
  generalize hx13 : ((p0.toUInt32 >>> ((24 : Int32) &&& 31).toUInt32).toInt32) = x13 at cx13 ⊢
  have rx13 := rng32 x13
  refine own_go (fun _ => XS.bipush X12.here hx rfl (hb hby at_45)) ?_
  show GG _ _ _ _ _ _ _ T12 (mkF m 47 #[.val (.int p0), .val (.int p1), .val (.int p2), .val (.int p3), .val (.int p4), .val (.ref ob1), .unset, .unset, .unset, .unset, .unset, .unset, .unset, .unset] [(.int (127 : Int32)), (.int x13), (.int (3 : Int32)), (.ref ob1)])
  refine own_go (fun _ => XS.iand X12.here hx rfl (hb hby at_47) rfl) ?_
  show GG _ _ _ _ _ _ _ T12 (mkF m 48 #[.val (.int p0), .val (.int p1), .val (.int p2), .val (.int p3), .val (.int p4), .val (.ref ob1), .unset, .unset, .unset, .unset, .unset, .unset, .unset, .unset] [(.int (x13 &&& (127 : Int32))), (.int (3 : Int32)), (.ref ob1)])
  have cx14 := c_mask x13 (127 : Int32) 7 (by decide) (by decide)
  generalize hx14 : (x13 &&& (127 : Int32)) = x14 at cx14 ⊢
  have rx14 := rng32 x14
  refine own_go (fun _ => XS.i2b X12.here hx rfl (hb hby at_48) rfl) ?_
  show GG _ _ _ _ _ _ _ T12 (mkF m 49 #[.val (.int p0), .val (.int p1), .val (.int p2), .val (.int p3), .val (.int p4), .val (.ref ob1), .unset, .unset, .unset, .unset, .unset, .unset, .unset, .unset] [(.int (x14.toInt8.toInt32)), (.int (3 : Int32)), (.ref ob1)])
  have cx15 := c_i2b x14
  generalize hx15 : (x14.toInt8.toInt32) = x15 at cx15 ⊢
  have rx15 := rng32 x15
  obtain ⟨T16, h16, X16, e16, W16, V16, st16⟩ := own_bastore X12 hx hZ e12 V_ob1 (by decide) (Nat.le_of_ble_eq_true rfl) (g := (mkF m 49 #[.val (.int p0), .val (.int p1), .val (.int p2), .val (.int p3), .val (.int p4), .val (.ref ob1), .unset, .unset, .unset, .unset, .unset, .unset, .unset, .unset] [(.int x15), (.int (3 : Int32)), (.ref ob1)])) rfl rfl (hb hby at_49)
  have K0 := K0.wr W16 (Or.inr sz_ob1)
  have O0 := O0.wr W16 g_ob1
  have E_ob1 := E_ob1.wr W16
  have V_ob1 : Arx Z h16 ob1 .byte [(.int (nar .byte x3)), (.int (nar .byte x7)), (.int (nar .byte x11)), (.int (nar .byte x15))] := V16
  have N16 := Fr.snoc X16 N12 g_ob1
  refine own_go (fun _ => st16 _) ?_
  show GG _ _ _ _ _ _ _ T16 (mkF m 50 #[.val (.int p0), .val (.int p1), .val (.int p2), .val (.int p3), .val (.int p4), .val (.ref ob1), .unset, .unset, .unset, .unset, .unset, .unset, .unset, .unset] [])
  have hy0 : By x3 := ⟨by omega, by omega⟩
  have hy1 : By x7 := ⟨by omega, by omega⟩
  have hy2 : By x11 := ⟨by omega, by omega⟩
  have hy3 : By x15 := ⟨by omega, by omega⟩
  have V_ob1 : Arx Z h16 ob1 .byte [(.int x3), (.int x7), (.int x11), (.int x15)] := by rw [own_nb ⟨by omega, by omega⟩, own_nb ⟨by omega, by omega⟩, own_nb ⟨by omega, by omega⟩, own_nb ⟨by omega, by omega⟩] at V_ob1; exact V_ob1
  clear rx2 cx2 rx3 cx3 rx5 cx5 rx6 cx6 rx7 cx7 rx9 cx9 rx10 cx10 rx11 cx11 rx13 cx13 rx14 cx14 rx15 cx15
  refine own_go (fun _ => XS.iconst X16.here hx rfl (hb hby at_50)) ?_
  show GG _ _ _ _ _ _ _ T16 (mkF m 51 #[.val (.int p0), .val (.int p1), .val (.int p2), .val (.int p3), .val (.int p4), .val (.ref ob1), .unset, .unset, .unset, .unset, .unset, .unset, .unset, .unset] [(.int (4 : Int32))])
  obtain ⟨T17, h17, ob17, g17, X17, e17, E17, V_ob17, E_ob17, st17⟩ := own_newarr X16 hx hZ (hw _ (List.mem_of_getElem? (i := 0) rfl)) e16 (g := (mkF m 51 #[.val (.int p0), .val (.int p1), .val (.int p2), .val (.int p3), .val (.int p4), .val (.ref ob1), .unset, .unset, .unset, .unset, .unset, .unset, .unset, .unset] [(.int (4 : Int32))])) rfl (hb hby at_51) rfl (by decide) (cap := 4) (by decide) (by decide) (by decide) (by decide) (ad := "[B") (by decide)
  have ne_ob1_ob17 : ob1 ≠ ob17 := Nat.ne_of_lt (Nat.lt_of_lt_of_le V_ob1.lt (Nat.le_of_eq g17.symm))
  have sz_ob17 : h0.size ≤ ob17 := Nat.le_trans K0.1 (Nat.le_of_eq g17.symm)
  have g_ob17 : n0 ≤ ob17 := Nat.le_trans Z0 sz_ob17
  have K0 := K0.ext E17
  have O0 := O0.ext E17
  have V_ob1 := V_ob1.ext E17
  have E_ob1 := E_ob1.ext E17
  have V_ob17 : Arx Z h17 ob17 .byte [(.int (0 : Int32)), (.int (0 : Int32)), (.int (0 : Int32)), (.int (0 : Int32))] := V_ob17
  refine own_go (fun _ => st17 _) ?_
  show GG _ _ _ _ _ _ _ T17 (mkF m 53 #[.val (.int p0), .val (.int p1), .val (.int p2), .val (.int p3), .val (.int p4), .val (.ref ob1), .unset, .unset, .unset, .unset, .unset, .unset, .unset, .unset] [(.ref ob17)])
  refine own_go (fun _ => XS.astore X17.here hx rfl (hb hby at_53) rfl rfl (l' := #[.val (.int p0), .val (.int p1), .val (.int p2), .val (.int p3), .val (.int p4), .val (.ref ob1), .val (.ref ob17), .unset, .unset, .unset, .unset, .unset, .unset, .unset]) rfl) ?_
  show GG _ _ _ _ _ _ _ T17 (mkF m 55 #[.val (.int p0), .val (.int p1), .val (.int p2), .val (.int p3), .val (.int p4), .val (.ref ob1), .val (.ref ob17), .unset, .unset, .unset, .unset, .unset, .unset, .unset] [])
  refine own_go (fun _ => XS.aload X17.here hx rfl (hb hby at_55) rfl rfl) ?_
  show GG _ _ _ _ _ _ _ T17 (mkF m 57 #[.val (.int p0), .val (.int p1), .val (.int p2), .val (.int p3), .val (.int p4), .val (.ref ob1), .val (.ref ob17), .unset, .unset, .unset, .unset, .unset, .unset, .unset] [(.ref ob17)])
  refine own_go (fun _ => XS.iconst X17.here hx rfl (hb hby at_57)) ?_
  show GG _ _ _ _ _ _ _ T17 (mkF m 58 #[.val (.int p0), .val (.int p1), .val (.int p2), .val (.int p3), .val (.int p4), .val (.ref ob1), .val (.ref ob17), .unset, .unset, .unset, .unset, .unset, .unset, .unset] [(.int (0 : Int32)), (.ref ob17)])
  refine own_go (fun _ => XS.iload X17.here hx rfl (hb hby at_58) rfl) ?_
  show GG _ _ _ _ _ _ _ T17 (mkF m 60 #[.val (.int p0), .val (.int p1), .val (.int p2), .val (.int p3), .val (.int p4), .val (.ref ob1), .val (.ref ob17), .unset, .unset, .unset, .unset, .unset, .unset, .unset] [(.int p4), (.int (0 : Int32)), (.ref ob17)])
  refine own_go (fun _ => XS.bipush X17.here hx rfl (hb hby at_60)) ?_
  show GG _ _ _ _ _ _ _ T17 (mkF m 62 #[.val (.int p0), .val (.int p1), .val (.int p2), .val (.int p3), .val (.int p4), .val (.ref ob1), .val (.ref ob17), .unset, .unset, .unset, .unset, .unset, .unset, .unset] [(.int (127 : Int32)), (.int p4), (.int (0 : Int32)), (.ref ob17)])
  refine own_go (fun _ => XS.iand X17.here hx rfl (hb hby at_62) rfl) ?_
  show GG _ _ _ _ _ _ _ T17 (mkF m 63 #[.val (.int p0), .val (.int p1), .val (.int p2), .val (.int p3), .val (.int p4), .val (.ref ob1), .val (.ref ob17), .unset, .unset, .unset, .unset, .unset, .unset, .unset] [(.int (p4 &&& (127 : Int32))), (.int (0 : Int32)), (.ref ob17)])
  have cx18 := c_mask p4 (127 : Int32) 7 (by decide) (by decide)
  generalize hx18 : (p4 &&& (127 : Int32)) = x18 at cx18 ⊢
  have rx18 := rng32 x18
  refine own_go (fun _ => XS.i2b X17.here hx rfl (hb hby at_63) rfl) ?_
  show GG _ _ _ _ _ _ _ T17 (mkF m 64 #[.val (.int p0), .val (.int p1), .val (.int p2), .val (.int p3), .val (.int p4), .val (.ref ob1), .val (.ref ob17), .unset, .unset, .unset, .unset, .unset, .unset, .unset] [(.int (x18.toInt8.toInt32)), (.int (0 : Int32)), (.ref ob17)])
  have cx19 := c_i2b x18
  generalize hx19 : (x18.toInt8.toInt32) = x19 at cx19 ⊢
  have rx19 := rng32 x19
  obtain ⟨T20, h20, X20, e20, W20, V20, st20⟩ := own_bastore X17 hx hZ e17 V_ob17 (by decide) (Nat.le_of_ble_eq_true rfl) (g := (mkF m 64 #[.val (.int p0), .val (.int p1), .val (.int p2), .val (.int p3), .val (.int p4), .val (.ref ob1), .val (.ref ob17), .unset, .unset, .unset, .unset, .unset, .unset, .unset] [(.int x19), (.int (0 : Int32)), (.ref ob17)])) rfl rfl (hb hby at_64)
  have K0 := K0.wr W20 (Or.inr sz_ob17)
  have O0 := O0.wr W20 g_ob17
  have V_ob1 := V_ob1.other W20 ne_ob1_ob17
  have E_ob1 := E_ob1.wr W20
  have E_ob17 := E_ob17.wr W20
  have V_ob17 : Arx Z h20 ob17 .byte [(.int (nar .byte x19)), (.int (0 : Int32)), (.int (0 : Int32)), (.int (0 : Int32))] := V20
  have N20 := Fr.snoc X20 N16 g_ob17
  refine own_go (fun _ => st20 _) ?_
  show GG _ _ _ _ _ _ _ T20 (mkF m 65 #[.val (.int p0), .val (.int p1), .val (.int p2), .val (.int p3), .val (.int p4), .val (.ref ob1), .val (.ref ob17), .unset, .unset, .unset, .unset, .unset, .unset, .unset] [])
  refine own_go (fun _ => XS.aload X20.here hx rfl (hb hby at_65) rfl rfl) ?_
  show GG _ _ _ _ _ _ _ T20 (mkF m 67 #[.val (.int p0), .val (.int p1), .val (.int p2), .val (.int p3), .val (.int p4), .val (.ref ob1), .val (.ref ob17), .unset, .unset, .unset, .unset, .unset, .unset, .unset] [(.ref ob17)])
  refine own_go (fun _ => XS.iconst X20.here hx rfl (hb hby at_67)) ?_
  show GG _ _ _ _ _ _ _ T20 (mkF m 68 #[.val (.int p0), .val (.int p1), .val (.int p2), .val (.int p3), .val (.int p4), .val (.ref ob1), .val (.ref ob17), .unset, .unset, .unset, .unset, .unset, .unset, .unset] [(.int (1 : Int32)), (.ref ob17)])
  refine own_go (fun _ => XS.iload X20.here hx rfl (hb hby at_68) rfl) ?_
  show GG _ _ _ _ _ _ _ T20 (mkF m 70 #[.val (.int p0), .val (.int p1), .val (.int p2), .val (.int p3), .val (.int p4), .val (.ref ob1), .val (.ref ob17), .unset, .unset, .unset, .unset, .unset, .unset, .unset] [(.int p4), (.int (1 : Int32)), (.ref ob17)])
  refine own_go (fun _ => XS.bipush X20.here hx rfl (hb hby at_70)) ?_
  show GG _ _ _ _ _ _ _ T20 (mkF m 72 #[.val (.int p0), .val (.int p1), .val (.int p2), .val (.int p3), .val (.int p4), .val (.ref ob1), .val (.ref ob17), .unset, .unset, .unset, .unset, .unset, .unset, .unset] [(.int (8 : Int32)), (.int p4), (.int (1 : Int32)), (.ref ob17)])
  refine own_go (fun _ => XS.iushr X20.here hx rfl (hb hby at_72) rfl) ?_
  show GG _ _ _ _ _ _ _ T20 (mkF m 73 #[.val (.int p0), .val (.int p1), .val (.int p2), .val (.int p3), .val (.int p4), .val (.ref ob1), .val (.ref ob17), .unset, .unset, .unset, .unset, .unset, .unset, .unset] [(.int ((p4.toUInt32 >>> ((8 : Int32) &&& 31).toUInt32).toInt32)), (.int (1 : Int32)), (.ref ob17)])
  have cx21 := c_iushr p4 (8 : Int32) 8 (by decide) (by decide)
  generalize hx21 : ((p4.toUInt32 >>> ((8 : Int32) &&& 31).toUInt32).toInt32) = x21 at cx21 ⊢
  have rx21 := rng32 x21
  refine own_go (fun _ => XS.bipush X20.here hx rfl (hb hby at_73)) ?_
  show GG _ _ _ _ _ _ _ T20 (mkF m 75 #[.val (.int p0), .val (.int p1), .val (.int p2), .val (.int p3), .val (.int p4), .val (.ref ob1), .val (.ref ob17), .unset, .unset, .unset, .unset, .unset, .unset, .unset] [(.int (127 : Int32)), (.int x21), (.int (1 : Int32)), (.ref ob17)])
  refine own_go (fun _ => XS.iand X20.here hx rfl (hb hby at_75) rfl) ?_
  show GG _ _ _ _ _ _ _ T20 (mkF m 76 #[.val (.int p0), .val (.int p1), .val (.int p2), .val (.int p3), .val (.int p4), .val (.ref ob1), .val (.ref ob17), .unset, .unset, .unset, .unset, .unset, .unset, .unset] [(.int (x21 &&& (127 : Int32))), (.int (1 : Int32)), (.ref ob17)])
  have cx22 := c_mask x21 (127 : Int32) 7 (by decide) (by decide)
  generalize hx22 : (x21 &&& (127 : Int32)) = x22 at cx22 ⊢
  have rx22 := rng32 x22
  refine own_go (fun _ => XS.i2b X20.here hx rfl (hb hby at_76) rfl) ?_
  show GG _ _ _ _ _ _ _ T20 (mkF m 77 #[.val (.int p0), .val (.int p1), .val (.int p2), .val (.int p3), .val (.int p4), .val (.ref ob1), .val (.ref ob17), .unset, .unset, .unset, .unset, .unset, .unset, .unset] [(.int (x22.toInt8.toInt32)), (.int (1 : Int32)), (.ref ob17)])
  have cx23 := c_i2b x22
  generalize hx23 : (x22.toInt8.toInt32) = x23 at cx23 ⊢
  have rx23 := rng32 x23
  obtain ⟨T24, h24, X24, e24, W24, V24, st24⟩ := own_bastore X20 hx hZ e20 V_ob17 (by decide) (Nat.le_of_ble_eq_true rfl) (g := (mkF m 77 #[.val (.int p0), .val (.int p1), .val (.int p2), .val (.int p3), .val (.int p4), .val (.ref ob1), .val (.ref ob17), .unset, .unset, .unset, .unset, .unset, .unset, .unset] [(.int x23), (.int (1 : Int32)), (.ref ob17)])) rfl rfl (hb hby at_77)
  have K0 := K0.wr W24 (Or.inr sz_ob17)
  have O0 := O0.wr W24 g_ob17
  have V_ob1 := V_ob1.other W24 ne_ob1_ob17
  have E_ob1 := E_ob1.wr W24
  have E_ob17 := E_ob17.wr W24
  have V_ob17 : Arx Z h24 ob17 .byte [(.int (nar .byte x19)), (.int (nar .byte x23)), (.int (0 : Int32)), (.int (0 : Int32))] := V24
  have N24 := Fr.snoc X24 N20 g_ob17
  refine own_go (fun _ => st24 _) ?_
  show GG _ _ _ _ _ _ _ T24 (mkF m 78 #[.val (.int p0), .val (.int p1), .val (.int p2), .val (.int p3), .val (.int p4), .val (.ref ob1), .val (.ref ob17), .unset, .unset, .unset, .unset, .unset, .unset, .unset] [])
  refine own_go (fun _ => XS.aload X24.here hx rfl (hb hby at_78) rfl rfl) ?_
  show GG _ _ _ _ _ _ _ T24 (mkF m 80 #[.val (.int p0), .val (.int p1), .val (.int p2), .val (.int p3), .val (.int p4), .val (.ref ob1), .val (.ref ob17), .unset, .unset, .unset, .unset, .unset, .unset, .unset] [(.ref ob17)])
  refine own_go (fun _ => XS.iconst X24.here hx rfl (hb hby at_80)) ?_
  show GG _ _ _ _ _ _ _ T24 (mkF m 81 #[.val (.int p0), .val (.int p1), .val (.int p2), .val (.int p3), .val (.int p4), .val (.ref ob1), .val (.ref ob17), .unset, .unset, .unset, .unset, .unset, .unset, .unset] [(.int (2 : Int32)), (.ref ob17)])
  refine own_go (fun _ => XS.iload X24.here hx rfl (hb hby at_81) rfl) ?_
  show GG _ _ _ _ _ _ _ T24 (mkF m 83 #[.val (.int p0), .val (.int p1), .val (.int p2), .val (.int p3), .val (.int p4), .val (.ref ob1), .val (.ref ob17), .unset, .unset, .unset, .unset, .unset, .unset, .unset] [(.int p4), (.int (2 : Int32)), (.ref ob17)])
  refine own_go (fun _ => XS.bipush X24.here hx rfl (hb hby at_83)) ?_
  show GG _ _ _ _ _ _ _ T24 (mkF m 85 #[.val (.int p0), .val (.int p1), .val (.int p2), .val (.int p3), .val (.int p4), .val (.ref ob1), .val (.ref ob17), .unset, .unset, .unset, .unset, .unset, .unset, .unset] [(.int (16 : Int32)), (.int p4), (.int (2 : Int32)), (.ref ob17)])
  refine own_go (fun _ => XS.iushr X24.here hx rfl (hb hby at_85) rfl) ?_
  show GG _ _ _ _ _ _ _ T24 (mkF m 86 #[.val (.int p0), .val (.int p1), .val (.int p2), .val (.int p3), .val (.int p4), .val (.ref ob1), .val (.ref ob17), .unset, .unset, .unset, .unset, .unset, .unset, .unset] [(.int ((p4.toUInt32 >>> ((16 : Int32) &&& 31).toUInt32).toInt32)), (.int (2 : Int32)), (.ref ob17)])
  have cx25 := c_iushr p4 (16 : Int32) 16 (by decide) (by decide)
  generalize hx25 : ((p4.toUInt32 >>> ((16 : Int32) &&& 31).toUInt32).toInt32) = x25 at cx25 ⊢
  have rx25 := rng32 x25
  refine own_go (fun _ => XS.bipush X24.here hx rfl (hb hby at_86)) ?_
  show GG _ _ _ _ _ _ _ T24 (mkF m 88 #[.val (.int p0), .val (.int p1), .val (.int p2), .val (.int p3), .val (.int p4), .val (.ref ob1), .val (.ref ob17), .unset, .unset, .unset, .unset, .unset, .unset, .unset] [(.int (127 : Int32)), (.int x25), (.int (2 : Int32)), (.ref ob17)])
  refine own_go (fun _ => XS.iand X24.here hx rfl (hb hby at_88) rfl) ?_
  show GG _ _ _ _ _ _ _ T24 (mkF m 89 #[.val (.int p0), .val (.int p1), .val (.int p2), .val (.int p3), .val (.int p4), .val (.ref ob1), .val (.ref ob17), .unset, .unset, .unset, .unset, .unset, .unset, .unset] [(.int (x25 &&& (127 : Int32))), (.int (2 : Int32)), (.ref ob17)])
  have cx26 := c_mask x25 (127 : Int32) 7 (by decide) (by decide)
  generalize hx26 : (x25 &&& (127 : Int32)) = x26 at cx26 ⊢
  have rx26 := rng32 x26
  refine own_go (fun _ => XS.i2b X24.here hx rfl (hb hby at_89) rfl) ?_
  show GG _ _ _ _ _ _ _ T24 (mkF m 90 #[.val (.int p0), .val (.int p1), .val (.int p2), .val (.int p3), .val (.int p4), .val (.ref ob1), .val (.ref ob17), .unset, .unset, .unset, .unset, .unset, .unset, .unset] [(.int (x26.toInt8.toInt32)), (.int (2 : Int32)), (.ref ob17)])
  have cx27 := c_i2b x26
  generalize hx27 : (x26.toInt8.toInt32) = x27 at cx27 ⊢
  have rx27 := rng32 x27
  obtain ⟨T28, h28, X28, e28, W28, V28, st28⟩ := own_bastore X24 hx hZ e24 V_ob17 (by decide) (Nat.le_of_ble_eq_true rfl) (g := (mkF m 90 #[.val (.int p0), .val (.int p1), .val (.int p2), .val (.int p3), .val (.int p4), .val (.ref ob1), .val (.ref ob17), .unset, .unset, .unset, .unset, .unset, .unset, .unset] [(.int x27), (.int (2 : Int32)), (.ref ob17)])) rfl rfl (hb hby at_90)
  have K0 := K0.wr W28 (Or.inr sz_ob17)
  have O0 := O0.wr W28 g_ob17
  have V_ob1 := V_ob1.other W28 ne_ob1_ob17
  have E_ob1 := E_ob1.wr W28
  have E_ob17 := E_ob17.wr W28
  have V_ob17 : Arx Z h28 ob17 .byte [(.int (nar .byte x19)), (.int (nar .byte x23)), (.int (nar .byte x27)), (.int (0 : Int32))] := V28
  have N28 := Fr.snoc X28 N24 g_ob17
  refine own_go (fun _ => st28 _) ?_
  show GG _ _ _ _ _ _ _ T28 (mkF m 91 #[.val (.int p0), .val (.int p1), .val (.int p2), .val (.int p3), .val (.int p4), .val (.ref ob1), .val (.ref ob17), .unset, .unset, .unset, .unset, .unset, .unset, .unset] [])
  refine own_go (fun _ => XS.aload X28.here hx rfl (hb hby at_91) rfl rfl) ?_
  show GG _ _ _ _ _ _ _ T28 (mkF m 93 #[.val (.int p0), .val (.int p1), .val (.int p2), .val (.int p3), .val (.int p4), .val (.ref ob1), .val (.ref ob17), .unset, .unset, .unset, .unset, .unset, .unset, .unset] [(.ref ob17)])
  refine own_go (fun _ => XS.iconst X28.here hx rfl (hb hby at_93)) ?_
  show GG _ _ _ _ _ _ _ T28 (mkF m 94 #[.val (.int p0), .val (.int p1), .val (.int p2), .val (.int p3), .val (.int p4), .val (.ref ob1), .val (.ref ob17), .unset, .unset, .unset, .unset, .unset, .unset, .unset] [(.int (3 : Int32)), (.ref ob17)])
  refine own_go (fun _ => XS.iload X28.here hx rfl (hb hby at_94) rfl) ?_
  show GG _ _ _ _ _ _ _ T28 (mkF m 96 #[.val (.int p0), .val (.int p1), .val (.int p2), .val (.int p3), .val (.int p4), .val (.ref ob1), .val (.ref ob17), .unset, .unset, .unset, .unset, .unset, .unset, .unset] [(.int p4), (.int (3 : Int32)), (.ref ob17)])
  refine own_go (fun _ => XS.bipush X28.here hx rfl (hb hby at_96)) ?_
  show GG _ _ _ _ _ _ _ T28 (mkF m 98 #[.val (.int p0), .val (.int p1), .val (.int p2), .val (.int p3), .val (.int p4), .val (.ref ob1), .val (.ref ob17), .unset, .unset, .unset, .unset, .unset, .unset, .unset] [(.int (24 : Int32)), (.int p4), (.int (3 : Int32)), (.ref ob17)])
  refine own_go (fun _ => XS.iushr X28.here hx rfl (hb hby at_98) rfl) ?_
  show GG _ _ _ _ _ _ _ T28 (mkF m 99 #[.val (.int p0), .val (.int p1), .val (.int p2), .val (.int p3), .val (.int p4), .val (.ref ob1), .val (.ref ob17), .unset, .unset, .unset, .unset, .unset, .unset, .unset] [(.int ((p4.toUInt32 >>> ((24 : Int32) &&& 31).toUInt32).toInt32)), (.int (3 : Int32)), (.ref ob17)])
  have cx29 := c_iushr p4 (24 : Int32) 24 (by decide) (by decide)
  generalize hx29 : ((p4.toUInt32 >>> ((24 : Int32) &&& 31).toUInt32).toInt32) = x29 at cx29 ⊢
  have rx29 := rng32 x29
  refine own_go (fun _ => XS.bipush X28.here hx rfl (hb hby at_99)) ?_
  show GG _ _ _ _ _ _ _ T28 (mkF m 101 #[.val (.int p0), .val (.int p1), .val (.int p2), .val (.int p3), .val (.int p4), .val (.ref ob1), .val (.ref ob17), .unset, .unset, .unset, .unset, .unset, .unset, .unset] [(.int (127 : Int32)), (.int x29), (.int (3 : Int32)), (.ref ob17)])
  refine own_go (fun _ => XS.iand X28.here hx rfl (hb hby at_101) rfl) ?_
  show GG _ _ _ _ _ _ _ T28 (mkF m 102 #[.val (.int p0), .val (.int p1), .val (.int p2), .val (.int p3), .val (.int p4), .val (.ref ob1), .val (.ref ob17), .unset, .unset, .unset, .unset, .unset, .unset, .unset] [(.int (x29 &&& (127 : Int32))), (.int (3 : Int32)), (.ref ob17)])
  have cx30 := c_mask x29 (127 : Int32) 7 (by decide) (by decide)
  generalize hx30 : (x29 &&& (127 : Int32)) = x30 at cx30 ⊢
  have rx30 := rng32 x30
  refine own_go (fun _ => XS.i2b X28.here hx rfl (hb hby at_102) rfl) ?_
  show GG _ _ _ _ _ _ _ T28 (mkF m 103 #[.val (.int p0), .val (.int p1), .val (.int p2), .val (.int p3), .val (.int p4), .val (.ref ob1), .val (.ref ob17), .unset, .unset, .unset, .unset, .unset, .unset, .unset] [(.int (x30.toInt8.toInt32)), (.int (3 : Int32)), (.ref ob17)])
  have cx31 := c_i2b x30
  generalize hx31 : (x30.toInt8.toInt32) = x31 at cx31 ⊢
  have rx31 := rng32 x31
  obtain ⟨T32, h32, X32, e32, W32, V32, st32⟩ := own_bastore X28 hx hZ e28 V_ob17 (by decide) (Nat.le_of_ble_eq_true rfl) (g := (mkF m 103 #[.val (.int p0), .val (.int p1), .val (.int p2), .val (.int p3), .val (.int p4), .val (.ref ob1), .val (.ref ob17), .unset, .unset, .unset, .unset, .unset, .unset, .unset] [(.int x31), (.int (3 : Int32)), (.ref ob17)])) rfl rfl (hb hby at_103)
  have K0 := K0.wr W32 (Or.inr sz_ob17)
  have O0 := O0.wr W32 g_ob17
  have V_ob1 := V_ob1.other W32 ne_ob1_ob17
  have E_ob1 := E_ob1.wr W32
  have E_ob17 := E_ob17.wr W32
  have V_ob17 : Arx Z h32 ob17 .byte [(.int (nar .byte x19)), (.int (nar .byte x23)), (.int (nar .byte x27)), (.int (nar .byte x31))] := V32
  have N32 := Fr.snoc X32 N28 g_ob17
  refine own_go (fun _ => st32 _) ?_
  show GG _ _ _ _ _ _ _ T32 (mkF m 104 #[.val (.int p0), .val (.int p1), .val (.int p2), .val (.int p3), .val (.int p4), .val (.ref ob1), .val (.ref ob17), .unset, .unset, .unset, .unset, .unset, .unset, .unset] [])
  clear rx18 cx18 rx19 cx19 rx21 cx21 rx22 cx22 rx23 cx23 rx25 cx25 rx26 cx26 rx27 cx27 rx29 cx29 rx30 cx30 rx31 cx31
  refine own_go (fun _ => XS.iconst X32.here hx rfl (hb hby at_104)) ?_
  show GG _ _ _ _ _ _ _ T32 (mkF m 105 #[.val (.int p0), .val (.int p1), .val (.int p2), .val (.int p3), .val (.int p4), .val (.ref ob1), .val (.ref ob17), .unset, .unset, .unset, .unset, .unset, .unset, .unset] [(.int (3 : Int32))])
  obtain ⟨T33, h33, ob33, g33, X33, e33, E33, V_ob33, E_ob33, st33⟩ := own_newarr X32 hx hZ (hw _ (List.mem_of_getElem? (i := 1) rfl)) e32 (g := (mkF m 105 #[.val (.int p0), .val (.int p1), .val (.int p2), .val (.int p3), .val (.int p4), .val (.ref ob1), .val (.ref ob17), .unset, .unset, .unset, .unset, .unset, .unset, .unset] [(.int (3 : Int32))])) rfl (hb hby at_105) rfl (by decide) (cap := 3) (by decide) (by decide) (by decide) (by decide) (ad := "[C") (by decide)
  have ne_ob1_ob33 : ob1 ≠ ob33 := Nat.ne_of_lt (Nat.lt_of_lt_of_le V_ob1.lt (Nat.le_of_eq g33.symm))
  have ne_ob17_ob33 : ob17 ≠ ob33 := Nat.ne_of_lt (Nat.lt_of_lt_of_le V_ob17.lt (Nat.le_of_eq g33.symm))
  have sz_ob33 : h0.size ≤ ob33 := Nat.le_trans K0.1 (Nat.le_of_eq g33.symm)
  have g_ob33 : n0 ≤ ob33 := Nat.le_trans Z0 sz_ob33
  have K0 := K0.ext E33
  have O0 := O0.ext E33
  have V_ob1 := V_ob1.ext E33
  have E_ob1 := E_ob1.ext E33
  have V_ob17 := V_ob17.ext E33
  have E_ob17 := E_ob17.ext E33
  have V_ob33 : Arx Z h33 ob33 .char [(.int (0 : Int32)), (.int (0 : Int32)), (.int (0 : Int32))] := V_ob33
  refine own_go (fun _ => st33 _) ?_
  show GG _ _ _ _ _ _ _ T33 (mkF m 107 #[.val (.int p0), .val (.int p1), .val (.int p2), .val (.int p3), .val (.int p4), .val (.ref ob1), .val (.ref ob17), .unset, .unset, .unset, .unset, .unset, .unset, .unset] [(.ref ob33)])
  refine own_go (fun _ => XS.astore X33.here hx rfl (hb hby at_107) rfl rfl (l' := #[.val (.int p0), .val (.int p1), .val (.int p2), .val (.int p3), .val (.int p4), .val (.ref ob1), .val (.ref ob17), .val (.ref ob33), .unset, .unset, .unset, .unset, .unset, .unset]) rfl) ?_
  show GG _ _ _ _ _ _ _ T33 (mkF m 109 #[.val (.int p0), .val (.int p1), .val (.int p2), .val (.int p3), .val (.int p4), .val (.ref ob1), .val (.ref ob17), .val (.ref ob33), .unset, .unset, .unset, .unset, .unset, .unset] [])
  refine own_go (fun _ => XS.aload X33.here hx rfl (hb hby at_109) rfl rfl) ?_
  show GG _ _ _ _ _ _ _ T33 (mkF m 111 #[.val (.int p0), .val (.int p1), .val (.int p2), .val (.int p3), .val (.int p4), .val (.ref ob1), .val (.ref ob17), .val (.ref ob33), .unset, .unset, .unset, .unset, .unset, .unset] [(.ref ob33)])
  refine own_go (fun _ => XS.iconst X33.here hx rfl (hb hby at_111)) ?_
  show GG _ _ _ _ _ _ _ T33 (mkF m 112 #[.val (.int p0), .val (.int p1), .val (.int p2), .val (.int p3), .val (.int p4), .val (.ref ob1), .val (.ref ob17), .val (.ref ob33), .unset, .unset, .unset, .unset, .unset, .unset] [(.int (0 : Int32)), (.ref ob33)])
  refine own_go (fun _ => XS.iload X33.here hx rfl (hb hby at_112) rfl) ?_
  show GG _ _ _ _ _ _ _ T33 (mkF m 114 #[.val (.int p0), .val (.int p1), .val (.int p2), .val (.int p3), .val (.int p4), .val (.ref ob1), .val (.ref ob17), .val (.ref ob33), .unset, .unset, .unset, .unset, .unset, .unset] [(.int p4), (.int (0 : Int32)), (.ref ob33)])
  refine own_go (fun _ => XS.sipush X33.here hx rfl (hb hby at_114)) ?_
  show GG _ _ _ _ _ _ _ T33 (mkF m 117 #[.val (.int p0), .val (.int p1), .val (.int p2), .val (.int p3), .val (.int p4), .val (.ref ob1), .val (.ref ob17), .val (.ref ob33), .unset, .unset, .unset, .unset, .unset, .unset] [(.int (255 : Int32)), (.int p4), (.int (0 : Int32)), (.ref ob33)])
  refine own_go (fun _ => XS.iand X33.here hx rfl (hb hby at_117) rfl) ?_
  show GG _ _ _ _ _ _ _ T33 (mkF m 118 #[.val (.int p0), .val (.int p1), .val (.int p2), .val (.int p3), .val (.int p4), .val (.ref ob1), .val (.ref ob17), .val (.ref ob33), .unset, .unset, .unset, .unset, .unset, .unset] [(.int (p4 &&& (255 : Int32))), (.int (0 : Int32)), (.ref ob33)])
  have cx34 := c_mask p4 (255 : Int32) 8 (by decide) (by decide)
  generalize hx34 : (p4 &&& (255 : Int32)) = x34 at cx34 ⊢
  have rx34 := rng32 x34
  refine own_go (fun _ => XS.i2c X33.here hx rfl (hb hby at_118) rfl) ?_
  show GG _ _ _ _ _ _ _ T33 (mkF m 119 #[.val (.int p0), .val (.int p1), .val (.int p2), .val (.int p3), .val (.int p4), .val (.ref ob1), .val (.ref ob17), .val (.ref ob33), .unset, .unset, .unset, .unset, .unset, .unset] [(.int (x34.toUInt32.toUInt16.toUInt32.toInt32)), (.int (0 : Int32)), (.ref ob33)])
  have cx35 := c_i2c x34
  generalize hx35 : (x34.toUInt32.toUInt16.toUInt32.toInt32) = x35 at cx35 ⊢
  have rx35 := rng32 x35
  have dx35 : x35.toInt = x34.toInt := by omega
  clear cx35
  obtain ⟨T36, h36, X36, e36, W36, V36, st36⟩ := own_castore X33 hx hZ e33 V_ob33 (by decide) (Nat.le_of_ble_eq_true rfl) (g := (mkF m 119 #[.val (.int p0), .val (.int p1), .val (.int p2), .val (.int p3), .val (.int p4), .val (.ref ob1), .val (.ref ob17), .val (.ref ob33), .unset, .unset, .unset, .unset, .unset, .unset] [(.int x35), (.int (0 : Int32)), (.ref ob33)])) rfl rfl (hb hby at_119)
  have K0 := K0.wr W36 (Or.inr sz_ob33)
  have O0 := O0.wr W36 g_ob33
  have V_ob1 := V_ob1.other W36 ne_ob1_ob33
  have E_ob1 := E_ob1.wr W36
  have V_ob17 := V_ob17.other W36 ne_ob17_ob33
  have E_ob17 := E_ob17.wr W36
  have E_ob33 := E_ob33.wr W36
  have V_ob33 : Arx Z h36 ob33 .char [(.int (nar .char x35)), (.int (0 : Int32)), (.int (0 : Int32))] := V36
  have N36 := Fr.snoc X36 N32 g_ob33
  refine own_go (fun _ => st36 _) ?_
  show GG _ _ _ _ _ _ _ T36 (mkF m 120 #[.val (.int p0), .val (.int p1), .val (.int p2), .val (.int p3), .val (.int p4), .val (.ref ob1), .val (.ref ob17), .val (.ref ob33), .unset, .unset, .unset, .unset, .unset, .unset] [])
  refine own_go (fun _ => XS.aload X36.here hx rfl (hb hby at_120) rfl rfl) ?_
  show GG _ _ _ _ _ _ _ T36 (mkF m 122 #[.val (.int p0), .val (.int p1), .val (.int p2), .val (.int p3), .val (.int p4), .val (.ref ob1), .val (.ref ob17), .val (.ref ob33), .unset, .unset, .unset, .unset, .unset, .unset] [(.ref ob33)])
  refine own_go (fun _ => XS.iconst X36.here hx rfl (hb hby at_122)) ?_
  show GG _ _ _ _ _ _ _ T36 (mkF m 123 #[.val (.int p0), .val (.int p1), .val (.int p2), .val (.int p3), .val (.int p4), .val (.ref ob1), .val (.ref ob17), .val (.ref ob33), .unset, .unset, .unset, .unset, .unset, .unset] [(.int (1 : Int32)), (.ref ob33)])
  refine own_go (fun _ => XS.iload X36.here hx rfl (hb hby at_123) rfl) ?_
  show GG _ _ _ _ _ _ _ T36 (mkF m 125 #[.val (.int p0), .val (.int p1), .val (.int p2), .val (.int p3), .val (.int p4), .val (.ref ob1), .val (.ref ob17), .val (.ref ob33), .unset, .unset, .unset, .unset, .unset, .unset] [(.int p4), (.int (1 : Int32)), (.ref ob33)])
  refine own_go (fun _ => XS.bipush X36.here hx rfl (hb hby at_125)) ?_
  show GG _ _ _ _ _ _ _ T36 (mkF m 127 #[.val (.int p0), .val (.int p1), .val (.int p2), .val (.int p3), .val (.int p4), .val (.ref ob1), .val (.ref ob17), .val (.ref ob33), .unset, .unset, .unset, .unset, .unset, .unset] [(.int (8 : Int32)), (.int p4), (.int (1 : Int32)), (.ref ob33)])
  refine own_go (fun _ => XS.iushr X36.here hx rfl (hb hby at_127) rfl) ?_
  show GG _ _ _ _ _ _ _ T36 (mkF m 128 #[.val (.int p0), .val (.int p1), .val (.int p2), .val (.int p3), .val (.int p4), .val (.ref ob1), .val (.ref ob17), .val (.ref ob33), .unset, .unset, .unset, .unset, .unset, .unset] [(.int ((p4.toUInt32 >>> ((8 : Int32) &&& 31).toUInt32).toInt32)), (.int (1 : Int32)), (.ref ob33)])
  have cx37 := c_iushr p4 (8 : Int32) 8 (by decide) (by decide)
  generalize hx37 : ((p4.toUInt32 >>> ((8 : Int32) &&& 31).toUInt32).toInt32) = x37 at cx37 ⊢
  have rx37 := rng32 x37
  refine own_go (fun _ => XS.sipush X36.here hx rfl (hb hby at_128)) ?_
  show GG _ _ _ _ _ _ _ T36 (mkF m 131 #[.val (.int p0), .val (.int p1), .val (.int p2), .val (.int p3), .val (.int p4), .val (.ref ob1), .val (.ref ob17), .val (.ref ob33), .unset, .unset, .unset, .unset, .unset, .unset] [(.int (255 : Int32)), (.int x37), (.int (1 : Int32)), (.ref ob33)])
  refine own_go (fun _ => XS.iand X36.here hx rfl (hb hby at_131) rfl) ?_
  show GG _ _ _ _ _ _ _ T36 (mkF m 132 #[.val (.int p0), .val (.int p1), .val (.int p2), .val (.int p3), .val (.int p4), .val (.ref ob1), .val (.ref ob17), .val (.ref ob33), .unset, .unset, .unset, .unset, .unset, .unset] [(.int (x37 &&& (255 : Int32))), (.int (1 : Int32)), (.ref ob33)])
  have cx38 := c_mask x37 (255 : Int32) 8 (by decide) (by decide)
  generalize hx38 : (x37 &&& (255 : Int32)) = x38 at cx38 ⊢
  have rx38 := rng32 x38
  refine own_go (fun _ => XS.i2c X36.here hx rfl (hb hby at_132) rfl) ?_
  show GG _ _ _ _ _ _ _ T36 (mkF m 133 #[.val (.int p0), .val (.int p1), .val (.int p2), .val (.int p3), .val (.int p4), .val (.ref ob1), .val (.ref ob17), .val (.ref ob33), .unset, .unset, .unset, .unset, .unset, .unset] [(.int (x38.toUInt32.toUInt16.toUInt32.toInt32)), (.int (1 : Int32)), (.ref ob33)])
  have cx39 := c_i2c x38
  generalize hx39 : (x38.toUInt32.toUInt16.toUInt32.toInt32) = x39 at cx39 ⊢
  have rx39 := rng32 x39
  have dx39 : x39.toInt = x38.toInt := by omega
  clear cx39
  obtain ⟨T40, h40, X40, e40, W40, V40, st40⟩ := own_castore X36 hx hZ e36 V_ob33 (by decide) (Nat.le_of_ble_eq_true rfl) (g := (mkF m 133 #[.val (.int p0), .val (.int p1), .val (.int p2), .val (.int p3), .val (.int p4), .val (.ref ob1), .val (.ref ob17), .val (.ref ob33), .unset, .unset, .unset, .unset, .unset, .unset] [(.int x39), (.int (1 : Int32)), (.ref ob33)])) rfl rfl (hb hby at_133)
  have K0 := K0.wr W40 (Or.inr sz_ob33)
  have O0 := O0.wr W40 g_ob33
  have V_ob1 := V_ob1.other W40 ne_ob1_ob33
  have E_ob1 := E_ob1.wr W40
  have V_ob17 := V_ob17.other W40 ne_ob17_ob33
  have E_ob17 := E_ob17.wr W40
  have E_ob33 := E_ob33.wr W40
  have V_ob33 : Arx Z h40 ob33 .char [(.int (nar .char x35)), (.int (nar .char x39)), (.int (0 : Int32))] := V40
  have N40 := Fr.snoc X40 N36 g_ob33
  refine own_go (fun _ => st40 _) ?_
  show GG _ _ _ _ _ _ _ T40 (mkF m 134 #[.val (.int p0), .val (.int p1), .val (.int p2), .val (.int p3), .val (.int p4), .val (.ref ob1), .val (.ref ob17), .val (.ref ob33), .unset, .unset, .unset, .unset, .unset, .unset] [])
  refine own_go (fun _ => XS.aload X40.here hx rfl (hb hby at_134) rfl rfl) ?_
  show GG _ _ _ _ _ _ _ T40 (mkF m 136 #[.val (.int p0), .val (.int p1), .val (.int p2), .val (.int p3), .val (.int p4), .val (.ref ob1), .val (.ref ob17), .val (.ref ob33), .unset, .unset, .unset, .unset, .unset, .unset] [(.ref ob33)])
  refine own_go (fun _ => XS.iconst X40.here hx rfl (hb hby at_136)) ?_
  show GG _ _ _ _ _ _ _ T40 (mkF m 137 #[.val (.int p0), .val (.int p1), .val (.int p2), .val (.int p3), .val (.int p4), .val (.ref ob1), .val (.ref ob17), .val (.ref ob33), .unset, .unset, .unset, .unset, .unset, .unset] [(.int (2 : Int32)), (.ref ob33)])
  refine own_go (fun _ => XS.iload X40.here hx rfl (hb hby at_137) rfl) ?_
  show GG _ _ _ _ _ _ _ T40 (mkF m 139 #[.val (.int p0), .val (.int p1), .val (.int p2), .val (.int p3), .val (.int p4), .val (.ref ob1), .val (.ref ob17), .val (.ref ob33), .unset, .unset, .unset, .unset, .unset, .unset] [(.int p4), (.int (2 : Int32)), (.ref ob33)])
  refine own_go (fun _ => XS.bipush X40.here hx rfl (hb hby at_139)) ?_
  show GG _ _ _ _ _ _ _ T40 (mkF m 141 #[.val (.int p0), .val (.int p1), .val (.int p2), .val (.int p3), .val (.int p4), .val (.ref ob1), .val (.ref ob17), .val (.ref ob33), .unset, .unset, .unset, .unset, .unset, .unset] [(.int (16 : Int32)), (.int p4), (.int (2 : Int32)), (.ref ob33)])
  refine own_go (fun _ => XS.iushr X40.here hx rfl (hb hby at_141) rfl) ?_
  show GG _ _ _ _ _ _ _ T40 (mkF m 142 #[.val (.int p0), .val (.int p1), .val (.int p2), .val (.int p3), .val (.int p4), .val (.ref ob1), .val (.ref ob17), .val (.ref ob33), .unset, .unset, .unset, .unset, .unset, .unset] [(.int ((p4.toUInt32 >>> ((16 : Int32) &&& 31).toUInt32).toInt32)), (.int (2 : Int32)), (.ref ob33)])
  have cx41 := c_iushr p4 (16 : Int32) 16 (by decide) (by decide)
  generalize hx41 : ((p4.toUInt32 >>> ((16 : Int32) &&& 31).toUInt32).toInt32) = x41 at cx41 ⊢
  have rx41 := rng32 x41
  refine own_go (fun _ => XS.sipush X40.here hx rfl (hb hby at_142)) ?_
  show GG _ _ _ _ _ _ _ T40 (mkF m 145 #[.val (.int p0), .val (.int p1), .val (.int p2), .val (.int p3), .val (.int p4), .val (.ref ob1), .val (.ref ob17), .val (.ref ob33), .unset, .unset, .unset, .unset, .unset, .unset] [(.int (255 : Int32)), (.int x41), (.int (2 : Int32)), (.ref ob33)])
  refine own_go (fun _ => XS.iand X40.here hx rfl (hb hby at_145) rfl) ?_
  show GG _ _ _ _ _ _ _ T40 (mkF m 146 #[.val (.int p0), .val (.int p1), .val (.int p2), .val (.int p3), .val (.int p4), .val (.ref ob1), .val (.ref ob17), .val (.ref ob33), .unset, .unset, .unset, .unset, .unset, .unset] [(.int (x41 &&& (255 : Int32))), (.int (2 : Int32)), (.ref ob33)])
  have cx42 := c_mask x41 (255 : Int32) 8 (by decide) (by decide)
  generalize hx42 : (x41 &&& (255 : Int32)) = x42 at cx42 ⊢
  have rx42 := rng32 x42
  refine own_go (fun _ => XS.i2c X40.here hx rfl (hb hby at_146) rfl) ?_
  show GG _ _ _ _ _ _ _ T40 (mkF m 147 #[.val (.int p0), .val (.int p1), .val (.int p2), .val (.int p3), .val (.int p4), .val (.ref ob1), .val (.ref ob17), .val (.ref ob33), .unset, .unset, .unset, .unset, .unset, .unset] [(.int (x42.toUInt32.toUInt16.toUInt32.toInt32)), (.int (2 : Int32)), (.ref ob33)])
  have cx43 := c_i2c x42
  generalize hx43 : (x42.toUInt32.toUInt16.toUInt32.toInt32) = x43 at cx43 ⊢
  have rx43 := rng32 x43
  have dx43 : x43.toInt = x42.toInt := by omega
  clear cx43
  obtain ⟨T44, h44, X44, e44, W44, V44, st44⟩ := own_castore X40 hx hZ e40 V_ob33 (by decide) (Nat.le_of_ble_eq_true rfl) (g := (mkF m 147 #[.val (.int p0), .val (.int p1), .val (.int p2), .val (.int p3), .val (.int p4), .val (.ref ob1), .val (.ref ob17), .val (.ref ob33), .unset, .unset, .unset, .unset, .unset, .unset] [(.int x43), (.int (2 : Int32)), (.ref ob33)])) rfl rfl (hb hby at_147)
  have K0 := K0.wr W44 (Or.inr sz_ob33)
  have O0 := O0.wr W44 g_ob33
  have V_ob1 := V_ob1.other W44 ne_ob1_ob33
  have E_ob1 := E_ob1.wr W44
  have V_ob17 := V_ob17.other W44 ne_ob17_ob33
  have E_ob17 := E_ob17.wr W44
  have E_ob33 := E_ob33.wr W44
  have V_ob33 : Arx Z h44 ob33 .char [(.int (nar .char x35)), (.int (nar .char x39)), (.int (nar .char x43))] := V44
  have N44 := Fr.snoc X44 N40 g_ob33
  refine own_go (fun _ => st44 _) ?_
  show GG _ _ _ _ _ _ _ T44 (mkF m 148 #[.val (.int p0), .val (.int p1), .val (.int p2), .val (.int p3), .val (.int p4), .val (.ref ob1), .val (.ref ob17), .val (.ref ob33), .unset, .unset, .unset, .unset, .unset, .unset] [])
  have hc1b : 0 ≤ x35.toInt ∧ x35.toInt < 256 := by omega
  have hc2b : 0 ≤ x39.toInt ∧ x39.toInt < 256 := by omega
  have hc3b : 0 ≤ x43.toInt ∧ x43.toInt < 256 := by omega
  have V_ob33 : Arx Z h44 ob33 .char [(.int x35), (.int x39), (.int x43)] := by rw [own_nc ⟨by omega, by omega⟩, own_nc ⟨by omega, by omega⟩, own_nc ⟨by omega, by omega⟩] at V_ob33; exact V_ob33
  have hbn := And.intro hc1b (And.intro hc2b hc3b)
  clear hc1b hc2b hc3b
  clear rx34 cx34 rx35 dx35 rx37 cx37 rx38 cx38 rx39 dx39 rx41 cx41 rx42 cx42 rx43 dx43
  obtain ⟨T45, h45, X45, e45, E45, A45, D45, -, st45⟩ := newO X44 hx hZ hown (hw _ (List.mem_of_getElem? (i := 2) rfl)) (hw _ (List.mem_of_getElem? (i := 3) rfl)) (hw _ (List.mem_of_getElem? (i := 4) rfl)) e44 (g := (mkF m 148 #[.val (.int p0), .val (.int p1), .val (.int p2), .val (.int p3), .val (.int p4), .val (.ref ob1), .val (.ref ob17), .val (.ref ob33), .unset, .unset, .unset, .unset, .unset, .unset] [])) rfl (hb hby at_148) (by decide) (by decide)
  obtain ⟨ob45, g45⟩ : ∃ z, z = h44.size := ⟨_, rfl⟩
  rw [← g45] at A45 D45 st45
  have ne_ob1_ob45 : ob1 ≠ ob45 := Nat.ne_of_lt (Nat.lt_of_lt_of_le V_ob1.lt (Nat.le_of_eq g45.symm))
  have ne_ob17_ob45 : ob17 ≠ ob45 := Nat.ne_of_lt (Nat.lt_of_lt_of_le V_ob17.lt (Nat.le_of_eq g45.symm))
  have ne_ob33_ob45 : ob33 ≠ ob45 := Nat.ne_of_lt (Nat.lt_of_lt_of_le V_ob33.lt (Nat.le_of_eq g45.symm))
  have sz_ob45 : h0.size ≤ ob45 := Nat.le_trans K0.1 (Nat.le_of_eq g45.symm)
  have g_ob45 : n0 ≤ ob45 := Nat.le_trans Z0 sz_ob45
  have K0 := K0.ext E45
  have O0 := O0.ext E45
  have V_ob1 := V_ob1.ext E45
  have E_ob1 := E_ob1.ext E45
  have V_ob17 := V_ob17.ext E45
  have E_ob17 := E_ob17.ext E45
  have V_ob33 := V_ob33.ext E45
  have E_ob33 := E_ob33.ext E45
  have E_ob45 := A45
  have F_coder_ob45 : Fld Z h45 ob45 "java/lang/String" "coder" "B" (.int (0 : Int32)) := D45 (Or.inr (hw _ (List.mem_of_getElem? (i := 27) rfl))) (ty := .byte) (by decide)
  have F_value_ob45 : Fld Z h45 ob45 "java/lang/String" "value" "[B" .null := D45 (Or.inr (hw _ (List.mem_of_getElem? (i := 29) rfl))) (ty := (.array .byte)) (by decide)
  refine own_go (fun _ => st45 _) ?_
  show GG _ _ _ _ _ _ _ T45 (mkF m 151 #[.val (.int p0), .val (.int p1), .val (.int p2), .val (.int p3), .val (.int p4), .val (.ref ob1), .val (.ref ob17), .val (.ref ob33), .unset, .unset, .unset, .unset, .unset, .unset] [(.ref ob45)])
  refine own_go (fun _ => XS.dup X45.here hx rfl (hb hby at_151) rfl rfl) ?_
  show GG _ _ _ _ _ _ _ T45 (mkF m 152 #[.val (.int p0), .val (.int p1), .val (.int p2), .val (.int p3), .val (.int p4), .val (.ref ob1), .val (.ref ob17), .val (.ref ob33), .unset, .unset, .unset, .unset, .unset, .unset] [(.ref ob45), (.ref ob45)])
  refine own_go (fun _ => XS.aload X45.here hx rfl (hb hby at_152) rfl rfl) ?_
  show GG _ _ _ _ _ _ _ T45 (mkF m 154 #[.val (.int p0), .val (.int p1), .val (.int p2), .val (.int p3), .val (.int p4), .val (.ref ob1), .val (.ref ob17), .val (.ref ob33), .unset, .unset, .unset, .unset, .unset, .unset] [(.ref ob33), (.ref ob45), (.ref ob45)])
  refine own_callI X45 hx hZ (y := (⟨"java/lang/String", "<init>", "([C)V"⟩ : MethodName)) 1 rfl hown (hw _ (List.mem_of_getElem? (i := 5) rfl)) (hw _ (List.mem_of_getElem? (i := 6) rfl)) (hw _ (List.mem_of_getElem? (i := 4) rfl)) (hw _ (List.mem_of_getElem? (i := 7) rfl)) (by decide) (a := ob45) (argsL := [(.ref ob33)]) (rest := [(.ref ob45)]) (rm1 l Z a0 hw [] ob45 ob33 zc x35 x39 x43 h45 n0 (Nat.le_trans Z0 K0.1) O0 S_c hz hbn V_ob33 E_ob45 F_value_ob45 F_coder_ob45 g_ob45 (Ne.symm ne_ob33_ob45)) (by decide) (by decide) (by decide) (by decide) (g := (mkF m 154 #[.val (.int p0), .val (.int p1), .val (.int p2), .val (.int p3), .val (.int p4), .val (.ref ob1), .val (.ref ob17), .val (.ref ob33), .unset, .unset, .unset, .unset, .unset, .unset] [(.ref ob33), (.ref ob45), (.ref ob45)])) rfl (by rw [hml]; rfl) (lenOf pd___C_V_325 rfl) rfl (by show 2 * 0 + _ ≤ _; exact Nat.le_of_eq rfl) (hb hby at_154) e45 ?_
  rintro v46 T46 L46 X46 ⟨rfl, N46q, Kq46, Eq46, bq46, zq46_1, zq46_2, zq46_3, Fvq46, Fcq46, Vq46⟩
  have N46 := Fr.app N44 N46q
  have K0 := K0.trans Kq46 (allS (Or.inr sz_ob45) all0)
  have O0 := O0.keep Kq46 (allS g_ob45 all0)
  have V_ob1 := V_ob1.keep Kq46 (ninS ne_ob1_ob45 nin0)
  have E_ob1 := E_ob1.keep Kq46
  have V_ob17 := V_ob17.keep Kq46 (ninS ne_ob17_ob45 nin0)
  have E_ob17 := E_ob17.keep Kq46
  have V_ob33 := V_ob33.keep Kq46 (ninS ne_ob33_ob45 nin0)
  have E_ob33 := E_ob33.keep Kq46
  show GG _ _ _ _ _ _ _ T46 (mkF m 157 #[.val (.int p0), .val (.int p1), .val (.int p2), .val (.int p3), .val (.int p4), .val (.ref ob1), .val (.ref ob17), .val (.ref ob33), .unset, .unset, .unset, .unset, .unset, .unset] [(.ref ob45)])
  refine own_go (fun _ => XS.astore X46.here hx rfl (hb hby at_157) rfl rfl (l' := #[.val (.int p0), .val (.int p1), .val (.int p2), .val (.int p3), .val (.int p4), .val (.ref ob1), .val (.ref ob17), .val (.ref ob33), .val (.ref ob45), .unset, .unset, .unset, .unset, .unset]) rfl) ?_
  show GG _ _ _ _ _ _ _ T46 (mkF m 159 #[.val (.int p0), .val (.int p1), .val (.int p2), .val (.int p3), .val (.int p4), .val (.ref ob1), .val (.ref ob17), .val (.ref ob33), .val (.ref ob45), .unset, .unset, .unset, .unset, .unset] [])
  refine own_go (fun _ => XS.iloadN X46.here hx rfl (hb hby at_159) rfl) ?_
  show GG _ _ _ _ _ _ _ T46 (mkF m 160 #[.val (.int p0), .val (.int p1), .val (.int p2), .val (.int p3), .val (.int p4), .val (.ref ob1), .val (.ref ob17), .val (.ref ob33), .val (.ref ob45), .unset, .unset, .unset, .unset, .unset] [(.int p1)])
  refine own_go (fun _ => X46.ldcInt hx hown (mvT hZ (hw _ (List.mem_of_getElem? (i := 30) rfl))) (g := (mkF m 160 #[.val (.int p0), .val (.int p1), .val (.int p2), .val (.int p3), .val (.int p4), .val (.ref ob1), .val (.ref ob17), .val (.ref ob33), .val (.ref ob45), .unset, .unset, .unset, .unset, .unset] [(.int p1)])) rfl (hb hby at_160) _) ?_
  show GG _ _ _ _ _ _ _ T46 (mkF m 162 #[.val (.int p0), .val (.int p1), .val (.int p2), .val (.int p3), .val (.int p4), .val (.ref ob1), .val (.ref ob17), .val (.ref ob33), .val (.ref ob45), .unset, .unset, .unset, .unset, .unset] [(.int (2147483647 : Int32)), (.int p1)])
  refine own_go (fun _ => XS.iand X46.here hx rfl (hb hby at_162) rfl) ?_
  show GG _ _ _ _ _ _ _ T46 (mkF m 163 #[.val (.int p0), .val (.int p1), .val (.int p2), .val (.int p3), .val (.int p4), .val (.ref ob1), .val (.ref ob17), .val (.ref ob33), .val (.ref ob45), .unset, .unset, .unset, .unset, .unset] [(.int (p1 &&& (2147483647 : Int32)))])
  have cx47 := c_mask p1 (2147483647 : Int32) 31 (by decide) (by decide)
  generalize hx47 : (p1 &&& (2147483647 : Int32)) = x47 at cx47 ⊢
  have rx47 := rng32 x47
  refine own_go (fun _ => XS.iconst X46.here hx rfl (hb hby at_163)) ?_
  show GG _ _ _ _ _ _ _ T46 (mkF m 164 #[.val (.int p0), .val (.int p1), .val (.int p2), .val (.int p3), .val (.int p4), .val (.ref ob1), .val (.ref ob17), .val (.ref ob33), .val (.ref ob45), .unset, .unset, .unset, .unset, .unset] [(.int (5 : Int32)), (.int x47)])
  refine own_go (fun _ => iremM X46 hx rfl (hb hby at_164) rfl (by decide)) ?_
  show GG _ _ _ _ _ _ _ T46 (mkF m 165 #[.val (.int p0), .val (.int p1), .val (.int p2), .val (.int p3), .val (.int p4), .val (.ref ob1), .val (.ref ob17), .val (.ref ob33), .val (.ref ob45), .unset, .unset, .unset, .unset, .unset] [(.int (x47 % (5 : Int32)))])
  have cx48 := c_irem x47 (5 : Int32) 5 (by decide)
  generalize hx48 : (x47 % (5 : Int32)) = x48 at cx48 ⊢
  have rx48 := rng32 x48
  refine own_go (fun _ => XS.istore X46.here hx rfl (hb hby at_165) rfl (l' := #[.val (.int p0), .val (.int p1), .val (.int p2), .val (.int p3), .val (.int p4), .val (.ref ob1), .val (.ref ob17), .val (.ref ob33), .val (.ref ob45), .val (.int x48), .unset, .unset, .unset, .unset]) rfl) ?_
  show GG _ _ _ _ _ _ _ T46 (mkF m 167 #[.val (.int p0), .val (.int p1), .val (.int p2), .val (.int p3), .val (.int p4), .val (.ref ob1), .val (.ref ob17), .val (.ref ob33), .val (.ref ob45), .val (.int x48), .unset, .unset, .unset, .unset] [])
  refine own_go (fun _ => XS.iload X46.here hx rfl (hb hby at_167) rfl) ?_
  show GG _ _ _ _ _ _ _ T46 (mkF m 169 #[.val (.int p0), .val (.int p1), .val (.int p2), .val (.int p3), .val (.int p4), .val (.ref ob1), .val (.ref ob17), .val (.ref ob33), .val (.ref ob45), .val (.int x48), .unset, .unset, .unset, .unset] [(.int x48)])
  refine own_go (fun _ => XS.iloadN X46.here hx rfl (hb hby at_169) rfl) ?_
  show GG _ _ _ _ _ _ _ T46 (mkF m 170 #[.val (.int p0), .val (.int p1), .val (.int p2), .val (.int p3), .val (.int p4), .val (.ref ob1), .val (.ref ob17), .val (.ref ob33), .val (.ref ob45), .val (.int x48), .unset, .unset, .unset, .unset] [(.int p2), (.int x48)])
  refine own_go (fun _ => X46.ldcInt hx hown (mvT hZ (hw _ (List.mem_of_getElem? (i := 30) rfl))) (g := (mkF m 170 #[.val (.int p0), .val (.int p1), .val (.int p2), .val (.int p3), .val (.int p4), .val (.ref ob1), .val (.ref ob17), .val (.ref ob33), .val (.ref ob45), .val (.int x48), .unset, .unset, .unset, .unset] [(.int p2), (.int x48)])) rfl (hb hby at_170) _) ?_
  show GG _ _ _ _ _ _ _ T46 (mkF m 172 #[.val (.int p0), .val (.int p1), .val (.int p2), .val (.int p3), .val (.int p4), .val (.ref ob1), .val (.ref ob17), .val (.ref ob33), .val (.ref ob45), .val (.int x48), .unset, .unset, .unset, .unset] [(.int (2147483647 : Int32)), (.int p2), (.int x48)])
  refine own_go (fun _ => XS.iand X46.here hx rfl (hb hby at_172) rfl) ?_
  show GG _ _ _ _ _ _ _ T46 (mkF m 173 #[.val (.int p0), .val (.int p1), .val (.int p2), .val (.int p3), .val (.int p4), .val (.ref ob1), .val (.ref ob17), .val (.ref ob33), .val (.ref ob45), .val (.int x48), .unset, .unset, .unset, .unset] [(.int (p2 &&& (2147483647 : Int32))), (.int x48)])
  have cx49 := c_mask p2 (2147483647 : Int32) 31 (by decide) (by decide)
  generalize hx49 : (p2 &&& (2147483647 : Int32)) = x49 at cx49 ⊢
  have rx49 := rng32 x49
  refine own_go (fun _ => XS.iconst X46.here hx rfl (hb hby at_173)) ?_
  show GG _ _ _ _ _ _ _ T46 (mkF m 174 #[.val (.int p0), .val (.int p1), .val (.int p2), .val (.int p3), .val (.int p4), .val (.ref ob1), .val (.ref ob17), .val (.ref ob33), .val (.ref ob45), .val (.int x48), .unset, .unset, .unset, .unset] [(.int (5 : Int32)), (.int x49), (.int x48)])
  refine own_go (fun _ => XS.iload X46.here hx rfl (hb hby at_174) rfl) ?_
  show GG _ _ _ _ _ _ _ T46 (mkF m 176 #[.val (.int p0), .val (.int p1), .val (.int p2), .val (.int p3), .val (.int p4), .val (.ref ob1), .val (.ref ob17), .val (.ref ob33), .val (.ref ob45), .val (.int x48), .unset, .unset, .unset, .unset] [(.int x48), (.int (5 : Int32)), (.int x49), (.int x48)])
  refine own_go (fun _ => XS.isub X46.here hx rfl (hb hby at_176) rfl) ?_
  show GG _ _ _ _ _ _ _ T46 (mkF m 177 #[.val (.int p0), .val (.int p1), .val (.int p2), .val (.int p3), .val (.int p4), .val (.ref ob1), .val (.ref ob17), .val (.ref ob33), .val (.ref ob45), .val (.int x48), .unset, .unset, .unset, .unset] [(.int ((5 : Int32) - x48)), (.int x49), (.int x48)])
  have cx50 := c_isub (5 : Int32) x48
  simp only [show ((5 : Int32)).toInt = 5 from by decide] at cx50
  generalize hx50 : ((5 : Int32) - x48) = x50 at cx50 ⊢
  have rx50 := rng32 x50
  have dx50 : x50.toInt = 5 - x48.toInt := by omega
  clear cx50
  have hnz : x50 ≠ 0 := fun q => absurd (Int32.toInt_inj.mpr q) (by show ¬ x50.toInt = 0; omega)
  refine own_go (fun _ => iremM X46 hx rfl (hb hby at_177) rfl hnz) ?_
  show GG _ _ _ _ _ _ _ T46 (mkF m 178 #[.val (.int p0), .val (.int p1), .val (.int p2), .val (.int p3), .val (.int p4), .val (.ref ob1), .val (.ref ob17), .val (.ref ob33), .val (.ref ob45), .val (.int x48), .unset, .unset, .unset, .unset] [(.int (x49 % x50)), (.int x48)])
  have cx51 := c_iremV x49 x50
  generalize hx51 : (x49 % x50) = x51 at cx51 ⊢
  have rx51 := rng32 x51
  have qx51 := cx51.1 (by omega) (by omega)
  refine own_go (fun _ => XS.iadd X46.here hx rfl (hb hby at_178) rfl) ?_
  show GG _ _ _ _ _ _ _ T46 (mkF m 179 #[.val (.int p0), .val (.int p1), .val (.int p2), .val (.int p3), .val (.int p4), .val (.ref ob1), .val (.ref ob17), .val (.ref ob33), .val (.ref ob45), .val (.int x48), .unset, .unset, .unset, .unset] [(.int (x48 + x51))])
  have cx52 := c_iadd x48 x51
  generalize hx52 : (x48 + x51) = x52 at cx52 ⊢
  have rx52 := rng32 x52
  have dx52 : x52.toInt = x48.toInt + x51.toInt := by omega
  clear cx52
  refine own_go (fun _ => XS.istore X46.here hx rfl (hb hby at_179) rfl (l' := #[.val (.int p0), .val (.int p1), .val (.int p2), .val (.int p3), .val (.int p4), .val (.ref ob1), .val (.ref ob17), .val (.ref ob33), .val (.ref ob45), .val (.int x48), .val (.int x52), .unset, .unset, .unset]) rfl) ?_
  show GG _ _ _ _ _ _ _ T46 (mkF m 181 #[.val (.int p0), .val (.int p1), .val (.int p2), .val (.int p3), .val (.int p4), .val (.ref ob1), .val (.ref ob17), .val (.ref ob33), .val (.ref ob45), .val (.int x48), .val (.int x52), .unset, .unset, .unset] [])
  have hse : 0 ≤ x48.toInt ∧ x48.toInt ≤ x52.toInt ∧ x52.toInt ≤ 4 := by omega
  clear qx51
  clear rx47 cx47 rx48 cx48 rx49 cx49 rx50 dx50 rx51 cx51 rx52 dx52
  refine own_go (fun _ => XS.iloadN X46.here hx rfl (hb hby at_181) rfl) ?_
  show GG _ _ _ _ _ _ _ T46 (mkF m 182 #[.val (.int p0), .val (.int p1), .val (.int p2), .val (.int p3), .val (.int p4), .val (.ref ob1), .val (.ref ob17), .val (.ref ob33), .val (.ref ob45), .val (.int x48), .val (.int x52), .unset, .unset, .unset] [(.int p3)])
  refine own_go (fun _ => XS.iconst X46.here hx rfl (hb hby at_182)) ?_
  show GG _ _ _ _ _ _ _ T46 (mkF m 183 #[.val (.int p0), .val (.int p1), .val (.int p2), .val (.int p3), .val (.int p4), .val (.ref ob1), .val (.ref ob17), .val (.ref ob33), .val (.ref ob45), .val (.int x48), .val (.int x52), .unset, .unset, .unset] [(.int (3 : Int32)), (.int p3)])
  refine own_go (fun _ => XS.iand X46.here hx rfl (hb hby at_183) rfl) ?_
  show GG _ _ _ _ _ _ _ T46 (mkF m 184 #[.val (.int p0), .val (.int p1), .val (.int p2), .val (.int p3), .val (.int p4), .val (.ref ob1), .val (.ref ob17), .val (.ref ob33), .val (.ref ob45), .val (.int x48), .val (.int x52), .unset, .unset, .unset] [(.int (p3 &&& (3 : Int32)))])
  have cx53 := c_mask p3 (3 : Int32) 2 (by decide) (by decide)
  generalize hx53 : (p3 &&& (3 : Int32)) = x53 at cx53 ⊢
  have rx53 := rng32 x53
  refine own_go (fun _ => XS.istore X46.here hx rfl (hb hby at_184) rfl (l' := #[.val (.int p0), .val (.int p1), .val (.int p2), .val (.int p3), .val (.int p4), .val (.ref ob1), .val (.ref ob17), .val (.ref ob33), .val (.ref ob45), .val (.int x48), .val (.int x52), .val (.int x53), .unset, .unset]) rfl) ?_
  show GG _ _ _ _ _ _ _ T46 (mkF m 186 #[.val (.int p0), .val (.int p1), .val (.int p2), .val (.int p3), .val (.int p4), .val (.ref ob1), .val (.ref ob17), .val (.ref ob33), .val (.ref ob45), .val (.int x48), .val (.int x52), .val (.int x53), .unset, .unset] [])
  obtain ⟨T54, h54, X54, e54, E54, A54, D54, -, st54⟩ := newO X46 hx hZ hown (hw _ (List.mem_of_getElem? (i := 31) rfl)) (hw _ (List.mem_of_getElem? (i := 32) rfl)) (hw _ (List.mem_of_getElem? (i := 33) rfl)) rfl (g := (mkF m 186 #[.val (.int p0), .val (.int p1), .val (.int p2), .val (.int p3), .val (.int p4), .val (.ref ob1), .val (.ref ob17), .val (.ref ob33), .val (.ref ob45), .val (.int x48), .val (.int x52), .val (.int x53), .unset, .unset] [])) rfl (hb hby at_186) (by decide) (by decide)
  obtain ⟨ob54, g54⟩ : ∃ z, z = T46.heap.size := ⟨_, rfl⟩
  rw [← g54] at A54 D54 st54
  have ne_ob1_ob54 : ob1 ≠ ob54 := Nat.ne_of_lt (Nat.lt_of_lt_of_le V_ob1.lt (Nat.le_of_eq g54.symm))
  have ne_ob17_ob54 : ob17 ≠ ob54 := Nat.ne_of_lt (Nat.lt_of_lt_of_le V_ob17.lt (Nat.le_of_eq g54.symm))
  have ne_ob33_ob54 : ob33 ≠ ob54 := Nat.ne_of_lt (Nat.lt_of_lt_of_le V_ob33.lt (Nat.le_of_eq g54.symm))
  have ne_ob45_ob54 : ob45 ≠ ob54 := Nat.ne_of_lt (Nat.lt_of_lt_of_le Eq46.lt (Nat.le_of_eq g54.symm))
  have ne_bq46_ob54 : bq46 ≠ ob54 := Nat.ne_of_lt (Nat.lt_of_lt_of_le Vq46.lt (Nat.le_of_eq g54.symm))
  have sz_ob54 : h0.size ≤ ob54 := Nat.le_trans K0.1 (Nat.le_of_eq g54.symm)
  have g_ob54 : n0 ≤ ob54 := Nat.le_trans Z0 sz_ob54
  have K0 := K0.ext E54
  have O0 := O0.ext E54
  have V_ob1 := V_ob1.ext E54
  have E_ob1 := E_ob1.ext E54
  have V_ob17 := V_ob17.ext E54
  have E_ob17 := E_ob17.ext E54
  have V_ob33 := V_ob33.ext E54
  have E_ob33 := E_ob33.ext E54
  have Eq46 := Eq46.ext E54
  have Fvq46 := Fvq46.ext E54
  have Fcq46 := Fcq46.ext E54
  have Vq46 := Vq46.ext E54
  have E_ob54 := A54
  have F_ascii_ob54 : Fld Z h54 ob54 "com/example/breakwater/breakwater/io/LineText" "ascii" "[B" .null := D54 (Or.inl (hw _ (List.mem_of_getElem? (i := 44) rfl))) (ty := (.array .byte)) (by decide)
  have F_decoded_ob54 : Fld Z h54 ob54 "com/example/breakwater/breakwater/io/LineText" "decoded" "Ljava/lang/String;" .null := D54 (Or.inl (hw _ (List.mem_of_getElem? (i := 46) rfl))) (ty := (.object "java/lang/String")) (by decide)
  have F_from_ob54 : Fld Z h54 ob54 "com/example/breakwater/breakwater/io/LineText" "from" "I" (.int (0 : Int32)) := D54 (Or.inl (hw _ (List.mem_of_getElem? (i := 48) rfl))) (ty := .int) (by decide)
  have F_to_ob54 : Fld Z h54 ob54 "com/example/breakwater/breakwater/io/LineText" "to" "I" (.int (0 : Int32)) := D54 (Or.inl (hw _ (List.mem_of_getElem? (i := 60) rfl))) (ty := .int) (by decide)
  refine own_go (fun _ => st54 _) ?_
  show GG _ _ _ _ _ _ _ T54 (mkF m 189 #[.val (.int p0), .val (.int p1), .val (.int p2), .val (.int p3), .val (.int p4), .val (.ref ob1), .val (.ref ob17), .val (.ref ob33), .val (.ref ob45), .val (.int x48), .val (.int x52), .val (.int x53), .unset, .unset] [(.ref ob54)])
  refine own_go (fun _ => XS.dup X54.here hx rfl (hb hby at_189) rfl rfl) ?_
  show GG _ _ _ _ _ _ _ T54 (mkF m 190 #[.val (.int p0), .val (.int p1), .val (.int p2), .val (.int p3), .val (.int p4), .val (.ref ob1), .val (.ref ob17), .val (.ref ob33), .val (.ref ob45), .val (.int x48), .val (.int x52), .val (.int x53), .unset, .unset] [(.ref ob54), (.ref ob54)])
  refine own_callI X54 hx hZ (y := (⟨"com/example/breakwater/breakwater/io/LineText", "<init>", "()V"⟩ : MethodName)) 1 rfl hown (hw _ (List.mem_of_getElem? (i := 34) rfl)) (hw _ (List.mem_of_getElem? (i := 35) rfl)) (hw _ (List.mem_of_getElem? (i := 33) rfl)) (hw _ (List.mem_of_getElem? (i := 36) rfl)) (by decide) (a := ob54) (argsL := []) (rest := [(.ref ob54)]) (rm7 l Z a0 hw [] ob54 h54 n0 (Nat.le_trans Z0 K0.1)) (by decide) (by decide) (by decide) (by decide) (g := (mkF m 190 #[.val (.int p0), .val (.int p1), .val (.int p2), .val (.int p3), .val (.int p4), .val (.ref ob1), .val (.ref ob17), .val (.ref ob33), .val (.ref ob45), .val (.int x48), .val (.int x52), .val (.int x53), .unset, .unset] [(.ref ob54), (.ref ob54)])) rfl (by rw [hml]; rfl) (lenOf pd___V_167 rfl) rfl (by show 2 * 0 + _ ≤ _; exact Nat.le_of_eq rfl) (hb hby at_190) e54 ?_
  rintro v55 T55 L55 X55 ⟨rfl, N55q, hh55⟩
  have N55 := Fr.app N46 N55q
  show GG _ _ _ _ _ _ _ T55 (mkF m 193 #[.val (.int p0), .val (.int p1), .val (.int p2), .val (.int p3), .val (.int p4), .val (.ref ob1), .val (.ref ob17), .val (.ref ob33), .val (.ref ob45), .val (.int x48), .val (.int x52), .val (.int x53), .unset, .unset] [(.ref ob54)])
  refine own_go (fun _ => XS.astore X55.here hx rfl (hb hby at_193) rfl rfl (l' := #[.val (.int p0), .val (.int p1), .val (.int p2), .val (.int p3), .val (.int p4), .val (.ref ob1), .val (.ref ob17), .val (.ref ob33), .val (.ref ob45), .val (.int x48), .val (.int x52), .val (.int x53), .val (.ref ob54), .unset]) rfl) ?_
  show GG _ _ _ _ _ _ _ T55 (mkF m 195 #[.val (.int p0), .val (.int p1), .val (.int p2), .val (.int p3), .val (.int p4), .val (.ref ob1), .val (.ref ob17), .val (.ref ob33), .val (.ref ob45), .val (.int x48), .val (.int x52), .val (.int x53), .val (.ref ob54), .unset] [])
  refine own_go (fun _ => XS.iload X55.here hx rfl (hb hby at_195) rfl) ?_
  show GG _ _ _ _ _ _ _ T55 (mkF m 197 #[.val (.int p0), .val (.int p1), .val (.int p2), .val (.int p3), .val (.int p4), .val (.ref ob1), .val (.ref ob17), .val (.ref ob33), .val (.ref ob45), .val (.int x48), .val (.int x52), .val (.int x53), .val (.ref ob54), .unset] [(.int x53)])
  refine own_go (fun _ => XS.iconst X55.here hx rfl (hb hby at_197)) ?_
  show GG _ _ _ _ _ _ _ T55 (mkF m 198 #[.val (.int p0), .val (.int p1), .val (.int p2), .val (.int p3), .val (.int p4), .val (.ref ob1), .val (.ref ob17), .val (.ref ob33), .val (.ref ob45), .val (.int x48), .val (.int x52), .val (.int x53), .val (.ref ob54), .unset] [(.int (1 : Int32)), (.int x53)])
  by_cases hc198 : x53 = (1 : Int32)
  · skip
    have ihc198 : (x53.toInt = 1) := Int32.toInt_inj.mpr hc198
    refine own_go (fun _ => XS.icmpNo X55.here hx rfl (hb hby at_198) rfl (teq hc198).2) ?_
    show GG _ _ _ _ _ _ _ T55 (mkF m 201 #[.val (.int p0), .val (.int p1), .val (.int p2), .val (.int p3), .val (.int p4), .val (.ref ob1), .val (.ref ob17), .val (.ref ob33), .val (.ref ob45), .val (.int x48), .val (.int x52), .val (.int x53), .val (.ref ob54), .unset] [])
    refine own_go (fun _ => XS.aload X55.here hx rfl (hb hby at_201) rfl rfl) ?_
    show GG _ _ _ _ _ _ _ T55 (mkF m 203 #[.val (.int p0), .val (.int p1), .val (.int p2), .val (.int p3), .val (.int p4), .val (.ref ob1), .val (.ref ob17), .val (.ref ob33), .val (.ref ob45), .val (.int x48), .val (.int x52), .val (.int x53), .val (.ref ob54), .unset] [(.ref ob54)])
    refine own_go (fun _ => XS.aload X55.here hx rfl (hb hby at_203) rfl rfl) ?_
    show GG _ _ _ _ _ _ _ T55 (mkF m 205 #[.val (.int p0), .val (.int p1), .val (.int p2), .val (.int p3), .val (.int p4), .val (.ref ob1), .val (.ref ob17), .val (.ref ob33), .val (.ref ob45), .val (.int x48), .val (.int x52), .val (.int x53), .val (.ref ob54), .unset] [(.ref ob45), (.ref ob54)])
    refine own_callV X55 hx hZ (y := (⟨"com/example/breakwater/breakwater/io/LineText", "set", "(Ljava/lang/String;)V"⟩ : MethodName)) (z := (⟨"com/example/breakwater/breakwater/io/LineText", "set", "(Ljava/lang/String;)V"⟩ : MethodName)) 0 hown (hw _ (List.mem_of_getElem? (i := 38) rfl)) (hw _ (List.mem_of_getElem? (i := 39) rfl)) (notFace_of_selects (args := #[]) (mvT hZ (hw _ (List.mem_of_getElem? (i := 41) rfl)))) (hw _ (List.mem_of_getElem? (i := 41) rfl)) (hw _ (List.mem_of_getElem? (i := 40) rfl)) (hw _ (List.mem_of_getElem? (i := 33) rfl)) (hw _ (List.mem_of_getElem? (i := 42) rfl)) (by decide) (a := ob54) (argsL := [(.ref ob45)]) (rest := []) (rm8 l Z a0 hw [] ob54 ob45 bq46 zc _ _ _ h54 n0 (Nat.le_trans Z0 K0.1) O0 S_c hz Eq46 Fcq46 Fvq46 Vq46 (Ne.symm ne_ob45_ob54) (Ne.symm ne_bq46_ob54) E_ob54 g_ob54 F_ascii_ob54 F_decoded_ob54 F_from_ob54 F_to_ob54) (by decide) (by decide) (by decide) (by decide) E_ob54 (g := (mkF m 205 #[.val (.int p0), .val (.int p1), .val (.int p2), .val (.int p3), .val (.int p4), .val (.ref ob1), .val (.ref ob17), .val (.ref ob33), .val (.ref ob45), .val (.int x48), .val (.int x52), .val (.int x53), .val (.ref ob54), .unset] [(.ref ob45), (.ref ob54)])) rfl (by rw [hml]; rfl) (lenOf pd__Ljava_lang_String__V_866 rfl) rfl (by show 2 * 0 + _ ≤ _; exact Nat.le_of_eq rfl) (hb hby at_205) hh55 ?_
    rintro v56 T56 L56 X56 ⟨rfl, N56q, Kq56, Eq56, Fasciiq56, Fdecodedq56, Ffromq56, Ftoq56⟩
    have N56 := Fr.app N55 N56q
    have K0 := K0.trans Kq56 (allS (Or.inr sz_ob54) all0)
    have O0 := O0.keep Kq56 (allS g_ob54 all0)
    have V_ob1 := V_ob1.keep Kq56 (ninS ne_ob1_ob54 nin0)
    have E_ob1 := E_ob1.keep Kq56
    have V_ob17 := V_ob17.keep Kq56 (ninS ne_ob17_ob54 nin0)
    have E_ob17 := E_ob17.keep Kq56
    have V_ob33 := V_ob33.keep Kq56 (ninS ne_ob33_ob54 nin0)
    have E_ob33 := E_ob33.keep Kq56
    have Eq46 := Eq46.keep Kq56
    have Fvq46 := Fvq46.keep Kq56 (ninS ne_ob45_ob54 nin0)
    have Fcq46 := Fcq46.keep Kq56 (ninS ne_ob45_ob54 nin0)
    have Vq46 := Vq46.keep Kq56 (ninS ne_bq46_ob54 nin0)
    show GG _ _ _ _ _ _ _ T56 (mkF m 208 #[.val (.int p0), .val (.int p1), .val (.int p2), .val (.int p3), .val (.int p4), .val (.ref ob1), .val (.ref ob17), .val (.ref ob33), .val (.ref ob45), .val (.int x48), .val (.int x52), .val (.int x53), .val (.ref ob54), .unset] [])
    refine own_go (fun _ => XS.goto X56.here hx rfl (pc0 := 208) (pc' := 244) rfl (hb hby at_208) (by decide) (by decide)) ?_
    show GG _ _ _ _ _ _ _ T56 (mkF m 244 #[.val (.int p0), .val (.int p1), .val (.int p2), .val (.int p3), .val (.int p4), .val (.ref ob1), .val (.ref ob17), .val (.ref ob33), .val (.ref ob45), .val (.int x48), .val (.int x52), .val (.int x53), .val (.ref ob54), .unset] [])
    refine own_go (fun _ => XS.aload X56.here hx rfl (hb hby at_244) rfl rfl) ?_
    show GG _ _ _ _ _ _ _ T56 (mkF m 246 #[.val (.int p0), .val (.int p1), .val (.int p2), .val (.int p3), .val (.int p4), .val (.ref ob1), .val (.ref ob17), .val (.ref ob33), .val (.ref ob45), .val (.int x48), .val (.int x52), .val (.int x53), .val (.ref ob54), .unset] [(.ref ob54)])
    refine own_go (fun _ => XS.aload X56.here hx rfl (hb hby at_246) rfl rfl) ?_
    show GG _ _ _ _ _ _ _ T56 (mkF m 248 #[.val (.int p0), .val (.int p1), .val (.int p2), .val (.int p3), .val (.int p4), .val (.ref ob1), .val (.ref ob17), .val (.ref ob33), .val (.ref ob45), .val (.int x48), .val (.int x52), .val (.int x53), .val (.ref ob54), .unset] [(.ref ob1), (.ref ob54)])
    refine own_go (fun _ => XS.iload X56.here hx rfl (hb hby at_248) rfl) ?_
    show GG _ _ _ _ _ _ _ T56 (mkF m 250 #[.val (.int p0), .val (.int p1), .val (.int p2), .val (.int p3), .val (.int p4), .val (.ref ob1), .val (.ref ob17), .val (.ref ob33), .val (.ref ob45), .val (.int x48), .val (.int x52), .val (.int x53), .val (.ref ob54), .unset] [(.int x48), (.ref ob1), (.ref ob54)])
    refine own_go (fun _ => XS.iload X56.here hx rfl (hb hby at_250) rfl) ?_
    show GG _ _ _ _ _ _ _ T56 (mkF m 252 #[.val (.int p0), .val (.int p1), .val (.int p2), .val (.int p3), .val (.int p4), .val (.ref ob1), .val (.ref ob17), .val (.ref ob33), .val (.ref ob45), .val (.int x48), .val (.int x52), .val (.int x53), .val (.ref ob54), .unset] [(.int x52), (.int x48), (.ref ob1), (.ref ob54)])
    refine own_callV X56 hx hZ (y := (⟨"com/example/breakwater/breakwater/io/LineText", "set", "([BII)V"⟩ : MethodName)) (z := (⟨"com/example/breakwater/breakwater/io/LineText", "set", "([BII)V"⟩ : MethodName)) 0 hown (hw _ (List.mem_of_getElem? (i := 61) rfl)) (hw _ (List.mem_of_getElem? (i := 62) rfl)) (notFace_of_selects (args := #[]) (mvT hZ (hw _ (List.mem_of_getElem? (i := 64) rfl)))) (hw _ (List.mem_of_getElem? (i := 64) rfl)) (hw _ (List.mem_of_getElem? (i := 63) rfl)) (hw _ (List.mem_of_getElem? (i := 33) rfl)) (hw _ (List.mem_of_getElem? (i := 65) rfl)) (by decide) (a := ob54) (argsL := [(.ref ob1), (.int x48), (.int x52)]) (rest := []) (rm11_s l Z a0 hw [] ob54 ob1 x48 x52 ob45 (0 : Int32) (3 : Int32) T56.heap n0 (Nat.le_trans Z0 K0.1) Eq56 g_ob54 Fasciiq56 Fdecodedq56 Ffromq56 Ftoq56) (by decide) (by decide) (by decide) (by decide) Eq56 (g := (mkF m 252 #[.val (.int p0), .val (.int p1), .val (.int p2), .val (.int p3), .val (.int p4), .val (.ref ob1), .val (.ref ob17), .val (.ref ob33), .val (.ref ob45), .val (.int x48), .val (.int x52), .val (.int x53), .val (.ref ob54), .unset] [(.int x52), (.int x48), (.ref ob1), (.ref ob54)])) rfl (by rw [hml]; rfl) (lenOf pd___BII_V_470 rfl) rfl (by show 2 * 0 + _ ≤ _; exact Nat.le_of_eq rfl) (hb hby at_252) rfl ?_
    rintro v57 T57 L57 X57 ⟨rfl, N57q, Kq57, Eq57, Fasciiq57, Fdecodedq57, Ffromq57, Ftoq57⟩
    have N57 := Fr.app N56 N57q
    have K0 := K0.trans Kq57 (allS (Or.inr sz_ob54) all0)
    have O0 := O0.keep Kq57 (allS g_ob54 all0)
    have V_ob1 := V_ob1.keep Kq57 (ninS ne_ob1_ob54 nin0)
    have E_ob1 := E_ob1.keep Kq57
    have V_ob17 := V_ob17.keep Kq57 (ninS ne_ob17_ob54 nin0)
    have E_ob17 := E_ob17.keep Kq57
    have V_ob33 := V_ob33.keep Kq57 (ninS ne_ob33_ob54 nin0)
    have E_ob33 := E_ob33.keep Kq57
    have Eq46 := Eq46.keep Kq57
    have Fvq46 := Fvq46.keep Kq57 (ninS ne_ob45_ob54 nin0)
    have Fcq46 := Fcq46.keep Kq57 (ninS ne_ob45_ob54 nin0)
    have Vq46 := Vq46.keep Kq57 (ninS ne_bq46_ob54 nin0)
    show GG _ _ _ _ _ _ _ T57 (mkF m 255 #[.val (.int p0), .val (.int p1), .val (.int p2), .val (.int p3), .val (.int p4), .val (.ref ob1), .val (.ref ob17), .val (.ref ob33), .val (.ref ob45), .val (.int x48), .val (.int x52), .val (.int x53), .val (.ref ob54), .unset] [])
    refine own_go (fun _ => XS.iload X57.here hx rfl (hb hby at_255) rfl) ?_
    show GG _ _ _ _ _ _ _ T57 (mkF m 257 #[.val (.int p0), .val (.int p1), .val (.int p2), .val (.int p3), .val (.int p4), .val (.ref ob1), .val (.ref ob17), .val (.ref ob33), .val (.ref ob45), .val (.int x48), .val (.int x52), .val (.int x53), .val (.ref ob54), .unset] [(.int x52)])
    refine own_go (fun _ => XS.iload X57.here hx rfl (hb hby at_257) rfl) ?_
    show GG _ _ _ _ _ _ _ T57 (mkF m 259 #[.val (.int p0), .val (.int p1), .val (.int p2), .val (.int p3), .val (.int p4), .val (.ref ob1), .val (.ref ob17), .val (.ref ob33), .val (.ref ob45), .val (.int x48), .val (.int x52), .val (.int x53), .val (.ref ob54), .unset] [(.int x48), (.int x52)])
    refine own_go (fun _ => XS.isub X57.here hx rfl (hb hby at_259) rfl) ?_
    show GG _ _ _ _ _ _ _ T57 (mkF m 260 #[.val (.int p0), .val (.int p1), .val (.int p2), .val (.int p3), .val (.int p4), .val (.ref ob1), .val (.ref ob17), .val (.ref ob33), .val (.ref ob45), .val (.int x48), .val (.int x52), .val (.int x53), .val (.ref ob54), .unset] [(.int (x52 - x48))])
    have cx58 := c_isub x52 x48
    generalize hx58 : (x52 - x48) = x58 at cx58 ⊢
    have rx58 := rng32 x58
    have dx58 : x58.toInt = x52.toInt - x48.toInt := by omega
    clear cx58
    refine own_go (fun _ => XS.istore X57.here hx rfl (hb hby at_260) rfl (l' := #[.val (.int p0), .val (.int p1), .val (.int p2), .val (.int p3), .val (.int p4), .val (.ref ob1), .val (.ref ob17), .val (.ref ob33), .val (.ref ob45), .val (.int x48), .val (.int x52), .val (.int x53), .val (.ref ob54), .val (.int x58)]) rfl) ?_
    show GG _ _ _ _ _ _ _ T57 (mkF m 262 #[.val (.int p0), .val (.int p1), .val (.int p2), .val (.int p3), .val (.int p4), .val (.ref ob1), .val (.ref ob17), .val (.ref ob33), .val (.ref ob45), .val (.int x48), .val (.int x52), .val (.int x53), .val (.ref ob54), .val (.int x58)] [])
    refine own_go (fun _ => XS.aload X57.here hx rfl (hb hby at_262) rfl rfl) ?_
    show GG _ _ _ _ _ _ _ T57 (mkF m 264 #[.val (.int p0), .val (.int p1), .val (.int p2), .val (.int p3), .val (.int p4), .val (.ref ob1), .val (.ref ob17), .val (.ref ob33), .val (.ref ob45), .val (.int x48), .val (.int x52), .val (.int x53), .val (.ref ob54), .val (.int x58)] [(.ref ob54)])
    refine own_callV X57 hx hZ (y := (⟨"com/example/breakwater/breakwater/io/LineText", "length", "()I"⟩ : MethodName)) (z := (⟨"com/example/breakwater/breakwater/io/LineText", "length", "()I"⟩ : MethodName)) 0 hown (hw _ (List.mem_of_getElem? (i := 66) rfl)) (hw _ (List.mem_of_getElem? (i := 67) rfl)) (notFace_of_selects (args := #[]) (mvT hZ (hw _ (List.mem_of_getElem? (i := 69) rfl)))) (hw _ (List.mem_of_getElem? (i := 69) rfl)) (hw _ (List.mem_of_getElem? (i := 68) rfl)) (hw _ (List.mem_of_getElem? (i := 33) rfl)) (hw _ (List.mem_of_getElem? (i := 70) rfl)) (by decide) (a := ob54) (argsL := []) (rest := []) (rm12 l Z a0 hw [] ob54 x48 x52 T57.heap n0 (Nat.le_trans Z0 K0.1) Ffromq57 Ftoq57) (by decide) (by decide) (by decide) (by decide) Eq57 (g := (mkF m 264 #[.val (.int p0), .val (.int p1), .val (.int p2), .val (.int p3), .val (.int p4), .val (.ref ob1), .val (.ref ob17), .val (.ref ob33), .val (.ref ob45), .val (.int x48), .val (.int x52), .val (.int x53), .val (.ref ob54), .val (.int x58)] [(.ref ob54)])) rfl (by rw [hml]; rfl) (lenOf pd___I_154 rfl) rfl (by show 2 * 0 + _ ≤ _; exact Nat.le_of_eq rfl) (hb hby at_264) rfl ?_
    rintro v59 T59 L59 X59 ⟨rfl, N59q, hh59⟩
    have N59 := Fr.app N57 N59q
    show GG _ _ _ _ _ _ _ T59 (mkF m 267 #[.val (.int p0), .val (.int p1), .val (.int p2), .val (.int p3), .val (.int p4), .val (.ref ob1), .val (.ref ob17), .val (.ref ob33), .val (.ref ob45), .val (.int x48), .val (.int x52), .val (.int x53), .val (.ref ob54), .val (.int x58)] [(.int (x52 - x48))])
    refine own_go (fun _ => XS.iload X59.here hx rfl (hb hby at_267) rfl) ?_
    show GG _ _ _ _ _ _ _ T59 (mkF m 269 #[.val (.int p0), .val (.int p1), .val (.int p2), .val (.int p3), .val (.int p4), .val (.ref ob1), .val (.ref ob17), .val (.ref ob33), .val (.ref ob45), .val (.int x48), .val (.int x52), .val (.int x53), .val (.ref ob54), .val (.int x58)] [(.int x58), (.int (x52 - x48))])
    have hc269 : (x52 - x48) = x58 := hx58
    refine own_go (fun _ => XS.icmpNo X59.here hx rfl (hb hby at_269) rfl (teq hc269).2) ?_
    show GG _ _ _ _ _ _ _ T59 (mkF m 272 #[.val (.int p0), .val (.int p1), .val (.int p2), .val (.int p3), .val (.int p4), .val (.ref ob1), .val (.ref ob17), .val (.ref ob33), .val (.ref ob45), .val (.int x48), .val (.int x52), .val (.int x53), .val (.ref ob54), .val (.int x58)] [])
    refine own_go (fun _ => XS.aload X59.here hx rfl (hb hby at_272) rfl rfl) ?_
    show GG _ _ _ _ _ _ _ T59 (mkF m 274 #[.val (.int p0), .val (.int p1), .val (.int p2), .val (.int p3), .val (.int p4), .val (.ref ob1), .val (.ref ob17), .val (.ref ob33), .val (.ref ob45), .val (.int x48), .val (.int x52), .val (.int x53), .val (.ref ob54), .val (.int x58)] [(.ref ob54)])
    refine own_go (fun _ => XS.aload X59.here hx rfl (hb hby at_274) rfl rfl) ?_
    show GG _ _ _ _ _ _ _ T59 (mkF m 276 #[.val (.int p0), .val (.int p1), .val (.int p2), .val (.int p3), .val (.int p4), .val (.ref ob1), .val (.ref ob17), .val (.ref ob33), .val (.ref ob45), .val (.int x48), .val (.int x52), .val (.int x53), .val (.ref ob54), .val (.int x58)] [(.ref ob1), (.ref ob54)])
    refine own_go (fun _ => XS.iload X59.here hx rfl (hb hby at_276) rfl) ?_
    show GG _ _ _ _ _ _ _ T59 (mkF m 278 #[.val (.int p0), .val (.int p1), .val (.int p2), .val (.int p3), .val (.int p4), .val (.ref ob1), .val (.ref ob17), .val (.ref ob33), .val (.ref ob45), .val (.int x48), .val (.int x52), .val (.int x53), .val (.ref ob54), .val (.int x58)] [(.int x48), (.ref ob1), (.ref ob54)])
    refine own_go (fun _ => XS.iload X59.here hx rfl (hb hby at_278) rfl) ?_
    show GG _ _ _ _ _ _ _ T59 (mkF m 280 #[.val (.int p0), .val (.int p1), .val (.int p2), .val (.int p3), .val (.int p4), .val (.ref ob1), .val (.ref ob17), .val (.ref ob33), .val (.ref ob45), .val (.int x48), .val (.int x52), .val (.int x53), .val (.ref ob54), .val (.int x58)] [(.int x58), (.int x48), (.ref ob1), (.ref ob54)])
    refine own_go (fun _ => XS.iconst X59.here hx rfl (hb hby at_280)) ?_
    show GG _ _ _ _ _ _ _ T59 (mkF m 281 #[.val (.int p0), .val (.int p1), .val (.int p2), .val (.int p3), .val (.int p4), .val (.ref ob1), .val (.ref ob17), .val (.ref ob33), .val (.ref ob45), .val (.int x48), .val (.int x52), .val (.int x53), .val (.ref ob54), .val (.int x58)] [(.int (0 : Int32)), (.int x58), (.int x48), (.ref ob1), (.ref ob54)])
    refine own_callS X59 hx hZ (y := (⟨"com/example/breakwater/breakwater/io/LineTextSetPinLaw", "at", "(Lcom/example/breakwater/breakwater/io/LineText;[BIII)Z"⟩ : MethodName)) 0 hown (hw _ (List.mem_of_getElem? (i := 71) rfl)) (hw _ (List.mem_of_getElem? (i := 72) rfl)) (hw _ (List.mem_of_getElem? (i := 73) rfl)) (hw _ (List.mem_of_getElem? (i := 74) rfl)) (by decide) (argsL := [(.ref ob54), (.ref ob1), (.int x48), (.int x58), (.int (0 : Int32))]) (rest := []) (rm13 l Z a0 hw [] ob54 ob1 x48 x58 (0 : Int32) x52 x3 x7 x11 x15 T57.heap n0 (Nat.le_trans Z0 K0.1) Eq57 Fasciiq57 Ffromq57 Ftoq57 V_ob1 (by rw [show (0 : Int32).toInt = 0 from by decide]; omega) hy0 hy1 hy2 hy3) (by decide) (by decide) (by decide) (by decide) (g := (mkF m 281 #[.val (.int p0), .val (.int p1), .val (.int p2), .val (.int p3), .val (.int p4), .val (.ref ob1), .val (.ref ob17), .val (.ref ob33), .val (.ref ob45), .val (.int x48), .val (.int x52), .val (.int x53), .val (.ref ob54), .val (.int x58)] [(.int (0 : Int32)), (.int x58), (.int x48), (.ref ob1), (.ref ob54)])) rfl (by rw [hml]; rfl) (lenOf pd__Lcom_example_breakwater_breakwater_io_L_156 rfl) rfl (by show 2 * 0 + _ ≤ _; exact Nat.le_of_eq rfl) (hb hby at_281) hh59 ?_
    rintro v60 T60 L60 X60 ⟨rfl, N60q, hh60⟩
    have N60 := Fr.app N59 N60q
    show GG _ _ _ _ _ _ _ T60 (mkF m 284 #[.val (.int p0), .val (.int p1), .val (.int p2), .val (.int p3), .val (.int p4), .val (.ref ob1), .val (.ref ob17), .val (.ref ob33), .val (.ref ob45), .val (.int x48), .val (.int x52), .val (.int x53), .val (.ref ob54), .val (.int x58)] [(.int (1 : Int32))])
    have hc284 : ¬ ((1 : Int32) = (0 : Int32)) := by decide
    refine own_go (fun _ => XS.ifNo X60.here hx rfl (hb hby at_284) rfl ((if0 _ _).trans (feq hc284).1)) ?_
    show GG _ _ _ _ _ _ _ T60 (mkF m 287 #[.val (.int p0), .val (.int p1), .val (.int p2), .val (.int p3), .val (.int p4), .val (.ref ob1), .val (.ref ob17), .val (.ref ob33), .val (.ref ob45), .val (.int x48), .val (.int x52), .val (.int x53), .val (.ref ob54), .val (.int x58)] [])
    refine own_go (fun _ => XS.aload X60.here hx rfl (hb hby at_287) rfl rfl) ?_
    show GG _ _ _ _ _ _ _ T60 (mkF m 289 #[.val (.int p0), .val (.int p1), .val (.int p2), .val (.int p3), .val (.int p4), .val (.ref ob1), .val (.ref ob17), .val (.ref ob33), .val (.ref ob45), .val (.int x48), .val (.int x52), .val (.int x53), .val (.ref ob54), .val (.int x58)] [(.ref ob54)])
    refine own_go (fun _ => XS.aload X60.here hx rfl (hb hby at_289) rfl rfl) ?_
    show GG _ _ _ _ _ _ _ T60 (mkF m 291 #[.val (.int p0), .val (.int p1), .val (.int p2), .val (.int p3), .val (.int p4), .val (.ref ob1), .val (.ref ob17), .val (.ref ob33), .val (.ref ob45), .val (.int x48), .val (.int x52), .val (.int x53), .val (.ref ob54), .val (.int x58)] [(.ref ob1), (.ref ob54)])
    refine own_go (fun _ => XS.iload X60.here hx rfl (hb hby at_291) rfl) ?_
    show GG _ _ _ _ _ _ _ T60 (mkF m 293 #[.val (.int p0), .val (.int p1), .val (.int p2), .val (.int p3), .val (.int p4), .val (.ref ob1), .val (.ref ob17), .val (.ref ob33), .val (.ref ob45), .val (.int x48), .val (.int x52), .val (.int x53), .val (.ref ob54), .val (.int x58)] [(.int x48), (.ref ob1), (.ref ob54)])
    refine own_go (fun _ => XS.iload X60.here hx rfl (hb hby at_293) rfl) ?_
    show GG _ _ _ _ _ _ _ T60 (mkF m 295 #[.val (.int p0), .val (.int p1), .val (.int p2), .val (.int p3), .val (.int p4), .val (.ref ob1), .val (.ref ob17), .val (.ref ob33), .val (.ref ob45), .val (.int x48), .val (.int x52), .val (.int x53), .val (.ref ob54), .val (.int x58)] [(.int x58), (.int x48), (.ref ob1), (.ref ob54)])
    refine own_go (fun _ => XS.iconst X60.here hx rfl (hb hby at_295)) ?_
    show GG _ _ _ _ _ _ _ T60 (mkF m 296 #[.val (.int p0), .val (.int p1), .val (.int p2), .val (.int p3), .val (.int p4), .val (.ref ob1), .val (.ref ob17), .val (.ref ob33), .val (.ref ob45), .val (.int x48), .val (.int x52), .val (.int x53), .val (.ref ob54), .val (.int x58)] [(.int (1 : Int32)), (.int x58), (.int x48), (.ref ob1), (.ref ob54)])
    refine own_callS X60 hx hZ (y := (⟨"com/example/breakwater/breakwater/io/LineTextSetPinLaw", "at", "(Lcom/example/breakwater/breakwater/io/LineText;[BIII)Z"⟩ : MethodName)) 0 hown (hw _ (List.mem_of_getElem? (i := 71) rfl)) (hw _ (List.mem_of_getElem? (i := 72) rfl)) (hw _ (List.mem_of_getElem? (i := 73) rfl)) (hw _ (List.mem_of_getElem? (i := 74) rfl)) (by decide) (argsL := [(.ref ob54), (.ref ob1), (.int x48), (.int x58), (.int (1 : Int32))]) (rest := []) (rm13 l Z a0 hw [] ob54 ob1 x48 x58 (1 : Int32) x52 x3 x7 x11 x15 T57.heap n0 (Nat.le_trans Z0 K0.1) Eq57 Fasciiq57 Ffromq57 Ftoq57 V_ob1 (by rw [show (1 : Int32).toInt = 1 from by decide]; omega) hy0 hy1 hy2 hy3) (by decide) (by decide) (by decide) (by decide) (g := (mkF m 296 #[.val (.int p0), .val (.int p1), .val (.int p2), .val (.int p3), .val (.int p4), .val (.ref ob1), .val (.ref ob17), .val (.ref ob33), .val (.ref ob45), .val (.int x48), .val (.int x52), .val (.int x53), .val (.ref ob54), .val (.int x58)] [(.int (1 : Int32)), (.int x58), (.int x48), (.ref ob1), (.ref ob54)])) rfl (by rw [hml]; rfl) (lenOf pd__Lcom_example_breakwater_breakwater_io_L_156 rfl) rfl (by show 2 * 0 + _ ≤ _; exact Nat.le_of_eq rfl) (hb hby at_296) hh60 ?_
    rintro v61 T61 L61 X61 ⟨rfl, N61q, hh61⟩
    have N61 := Fr.app N60 N61q
    show GG _ _ _ _ _ _ _ T61 (mkF m 299 #[.val (.int p0), .val (.int p1), .val (.int p2), .val (.int p3), .val (.int p4), .val (.ref ob1), .val (.ref ob17), .val (.ref ob33), .val (.ref ob45), .val (.int x48), .val (.int x52), .val (.int x53), .val (.ref ob54), .val (.int x58)] [(.int (1 : Int32))])
    have hc299 : ¬ ((1 : Int32) = (0 : Int32)) := by decide
    refine own_go (fun _ => XS.ifNo X61.here hx rfl (hb hby at_299) rfl ((if0 _ _).trans (feq hc299).1)) ?_
    show GG _ _ _ _ _ _ _ T61 (mkF m 302 #[.val (.int p0), .val (.int p1), .val (.int p2), .val (.int p3), .val (.int p4), .val (.ref ob1), .val (.ref ob17), .val (.ref ob33), .val (.ref ob45), .val (.int x48), .val (.int x52), .val (.int x53), .val (.ref ob54), .val (.int x58)] [])
    refine own_go (fun _ => XS.aload X61.here hx rfl (hb hby at_302) rfl rfl) ?_
    show GG _ _ _ _ _ _ _ T61 (mkF m 304 #[.val (.int p0), .val (.int p1), .val (.int p2), .val (.int p3), .val (.int p4), .val (.ref ob1), .val (.ref ob17), .val (.ref ob33), .val (.ref ob45), .val (.int x48), .val (.int x52), .val (.int x53), .val (.ref ob54), .val (.int x58)] [(.ref ob54)])
    refine own_go (fun _ => XS.aload X61.here hx rfl (hb hby at_304) rfl rfl) ?_
    show GG _ _ _ _ _ _ _ T61 (mkF m 306 #[.val (.int p0), .val (.int p1), .val (.int p2), .val (.int p3), .val (.int p4), .val (.ref ob1), .val (.ref ob17), .val (.ref ob33), .val (.ref ob45), .val (.int x48), .val (.int x52), .val (.int x53), .val (.ref ob54), .val (.int x58)] [(.ref ob1), (.ref ob54)])
    refine own_go (fun _ => XS.iload X61.here hx rfl (hb hby at_306) rfl) ?_
    show GG _ _ _ _ _ _ _ T61 (mkF m 308 #[.val (.int p0), .val (.int p1), .val (.int p2), .val (.int p3), .val (.int p4), .val (.ref ob1), .val (.ref ob17), .val (.ref ob33), .val (.ref ob45), .val (.int x48), .val (.int x52), .val (.int x53), .val (.ref ob54), .val (.int x58)] [(.int x48), (.ref ob1), (.ref ob54)])
    refine own_go (fun _ => XS.iload X61.here hx rfl (hb hby at_308) rfl) ?_
    show GG _ _ _ _ _ _ _ T61 (mkF m 310 #[.val (.int p0), .val (.int p1), .val (.int p2), .val (.int p3), .val (.int p4), .val (.ref ob1), .val (.ref ob17), .val (.ref ob33), .val (.ref ob45), .val (.int x48), .val (.int x52), .val (.int x53), .val (.ref ob54), .val (.int x58)] [(.int x58), (.int x48), (.ref ob1), (.ref ob54)])
    refine own_go (fun _ => XS.iconst X61.here hx rfl (hb hby at_310)) ?_
    show GG _ _ _ _ _ _ _ T61 (mkF m 311 #[.val (.int p0), .val (.int p1), .val (.int p2), .val (.int p3), .val (.int p4), .val (.ref ob1), .val (.ref ob17), .val (.ref ob33), .val (.ref ob45), .val (.int x48), .val (.int x52), .val (.int x53), .val (.ref ob54), .val (.int x58)] [(.int (2 : Int32)), (.int x58), (.int x48), (.ref ob1), (.ref ob54)])
    refine own_callS X61 hx hZ (y := (⟨"com/example/breakwater/breakwater/io/LineTextSetPinLaw", "at", "(Lcom/example/breakwater/breakwater/io/LineText;[BIII)Z"⟩ : MethodName)) 0 hown (hw _ (List.mem_of_getElem? (i := 71) rfl)) (hw _ (List.mem_of_getElem? (i := 72) rfl)) (hw _ (List.mem_of_getElem? (i := 73) rfl)) (hw _ (List.mem_of_getElem? (i := 74) rfl)) (by decide) (argsL := [(.ref ob54), (.ref ob1), (.int x48), (.int x58), (.int (2 : Int32))]) (rest := []) (rm13 l Z a0 hw [] ob54 ob1 x48 x58 (2 : Int32) x52 x3 x7 x11 x15 T57.heap n0 (Nat.le_trans Z0 K0.1) Eq57 Fasciiq57 Ffromq57 Ftoq57 V_ob1 (by rw [show (2 : Int32).toInt = 2 from by decide]; omega) hy0 hy1 hy2 hy3) (by decide) (by decide) (by decide) (by decide) (g := (mkF m 311 #[.val (.int p0), .val (.int p1), .val (.int p2), .val (.int p3), .val (.int p4), .val (.ref ob1), .val (.ref ob17), .val (.ref ob33), .val (.ref ob45), .val (.int x48), .val (.int x52), .val (.int x53), .val (.ref ob54), .val (.int x58)] [(.int (2 : Int32)), (.int x58), (.int x48), (.ref ob1), (.ref ob54)])) rfl (by rw [hml]; rfl) (lenOf pd__Lcom_example_breakwater_breakwater_io_L_156 rfl) rfl (by show 2 * 0 + _ ≤ _; exact Nat.le_of_eq rfl) (hb hby at_311) hh61 ?_
    rintro v62 T62 L62 X62 ⟨rfl, N62q, hh62⟩
    have N62 := Fr.app N61 N62q
    show GG _ _ _ _ _ _ _ T62 (mkF m 314 #[.val (.int p0), .val (.int p1), .val (.int p2), .val (.int p3), .val (.int p4), .val (.ref ob1), .val (.ref ob17), .val (.ref ob33), .val (.ref ob45), .val (.int x48), .val (.int x52), .val (.int x53), .val (.ref ob54), .val (.int x58)] [(.int (1 : Int32))])
    have hc314 : ¬ ((1 : Int32) = (0 : Int32)) := by decide
    refine own_go (fun _ => XS.ifNo X62.here hx rfl (hb hby at_314) rfl ((if0 _ _).trans (feq hc314).1)) ?_
    show GG _ _ _ _ _ _ _ T62 (mkF m 317 #[.val (.int p0), .val (.int p1), .val (.int p2), .val (.int p3), .val (.int p4), .val (.ref ob1), .val (.ref ob17), .val (.ref ob33), .val (.ref ob45), .val (.int x48), .val (.int x52), .val (.int x53), .val (.ref ob54), .val (.int x58)] [])
    refine own_go (fun _ => XS.aload X62.here hx rfl (hb hby at_317) rfl rfl) ?_
    show GG _ _ _ _ _ _ _ T62 (mkF m 319 #[.val (.int p0), .val (.int p1), .val (.int p2), .val (.int p3), .val (.int p4), .val (.ref ob1), .val (.ref ob17), .val (.ref ob33), .val (.ref ob45), .val (.int x48), .val (.int x52), .val (.int x53), .val (.ref ob54), .val (.int x58)] [(.ref ob54)])
    refine own_go (fun _ => XS.aload X62.here hx rfl (hb hby at_319) rfl rfl) ?_
    show GG _ _ _ _ _ _ _ T62 (mkF m 321 #[.val (.int p0), .val (.int p1), .val (.int p2), .val (.int p3), .val (.int p4), .val (.ref ob1), .val (.ref ob17), .val (.ref ob33), .val (.ref ob45), .val (.int x48), .val (.int x52), .val (.int x53), .val (.ref ob54), .val (.int x58)] [(.ref ob1), (.ref ob54)])
    refine own_go (fun _ => XS.iload X62.here hx rfl (hb hby at_321) rfl) ?_
    show GG _ _ _ _ _ _ _ T62 (mkF m 323 #[.val (.int p0), .val (.int p1), .val (.int p2), .val (.int p3), .val (.int p4), .val (.ref ob1), .val (.ref ob17), .val (.ref ob33), .val (.ref ob45), .val (.int x48), .val (.int x52), .val (.int x53), .val (.ref ob54), .val (.int x58)] [(.int x48), (.ref ob1), (.ref ob54)])
    refine own_go (fun _ => XS.iload X62.here hx rfl (hb hby at_323) rfl) ?_
    show GG _ _ _ _ _ _ _ T62 (mkF m 325 #[.val (.int p0), .val (.int p1), .val (.int p2), .val (.int p3), .val (.int p4), .val (.ref ob1), .val (.ref ob17), .val (.ref ob33), .val (.ref ob45), .val (.int x48), .val (.int x52), .val (.int x53), .val (.ref ob54), .val (.int x58)] [(.int x58), (.int x48), (.ref ob1), (.ref ob54)])
    refine own_go (fun _ => XS.iconst X62.here hx rfl (hb hby at_325)) ?_
    show GG _ _ _ _ _ _ _ T62 (mkF m 326 #[.val (.int p0), .val (.int p1), .val (.int p2), .val (.int p3), .val (.int p4), .val (.ref ob1), .val (.ref ob17), .val (.ref ob33), .val (.ref ob45), .val (.int x48), .val (.int x52), .val (.int x53), .val (.ref ob54), .val (.int x58)] [(.int (3 : Int32)), (.int x58), (.int x48), (.ref ob1), (.ref ob54)])
    refine own_callS X62 hx hZ (y := (⟨"com/example/breakwater/breakwater/io/LineTextSetPinLaw", "at", "(Lcom/example/breakwater/breakwater/io/LineText;[BIII)Z"⟩ : MethodName)) 0 hown (hw _ (List.mem_of_getElem? (i := 71) rfl)) (hw _ (List.mem_of_getElem? (i := 72) rfl)) (hw _ (List.mem_of_getElem? (i := 73) rfl)) (hw _ (List.mem_of_getElem? (i := 74) rfl)) (by decide) (argsL := [(.ref ob54), (.ref ob1), (.int x48), (.int x58), (.int (3 : Int32))]) (rest := []) (rm13 l Z a0 hw [] ob54 ob1 x48 x58 (3 : Int32) x52 x3 x7 x11 x15 T57.heap n0 (Nat.le_trans Z0 K0.1) Eq57 Fasciiq57 Ffromq57 Ftoq57 V_ob1 (by rw [show (3 : Int32).toInt = 3 from by decide]; omega) hy0 hy1 hy2 hy3) (by decide) (by decide) (by decide) (by decide) (g := (mkF m 326 #[.val (.int p0), .val (.int p1), .val (.int p2), .val (.int p3), .val (.int p4), .val (.ref ob1), .val (.ref ob17), .val (.ref ob33), .val (.ref ob45), .val (.int x48), .val (.int x52), .val (.int x53), .val (.ref ob54), .val (.int x58)] [(.int (3 : Int32)), (.int x58), (.int x48), (.ref ob1), (.ref ob54)])) rfl (by rw [hml]; rfl) (lenOf pd__Lcom_example_breakwater_breakwater_io_L_156 rfl) rfl (by show 2 * 0 + _ ≤ _; exact Nat.le_of_eq rfl) (hb hby at_326) hh62 ?_
    rintro v63 T63 L63 X63 ⟨rfl, N63q, hh63⟩
    have N63 := Fr.app N62 N63q
    show GG _ _ _ _ _ _ _ T63 (mkF m 329 #[.val (.int p0), .val (.int p1), .val (.int p2), .val (.int p3), .val (.int p4), .val (.ref ob1), .val (.ref ob17), .val (.ref ob33), .val (.ref ob45), .val (.int x48), .val (.int x52), .val (.int x53), .val (.ref ob54), .val (.int x58)] [(.int (1 : Int32))])
    have hc329 : ¬ ((1 : Int32) = (0 : Int32)) := by decide
    refine own_go (fun _ => XS.ifNo X63.here hx rfl (hb hby at_329) rfl ((if0 _ _).trans (feq hc329).1)) ?_
    show GG _ _ _ _ _ _ _ T63 (mkF m 332 #[.val (.int p0), .val (.int p1), .val (.int p2), .val (.int p3), .val (.int p4), .val (.ref ob1), .val (.ref ob17), .val (.ref ob33), .val (.ref ob45), .val (.int x48), .val (.int x52), .val (.int x53), .val (.ref ob54), .val (.int x58)] [])
    refine own_go (fun _ => XS.iconst X63.here hx rfl (hb hby at_332)) ?_
    show GG _ _ _ _ _ _ _ T63 (mkF m 333 #[.val (.int p0), .val (.int p1), .val (.int p2), .val (.int p3), .val (.int p4), .val (.ref ob1), .val (.ref ob17), .val (.ref ob33), .val (.ref ob45), .val (.int x48), .val (.int x52), .val (.int x53), .val (.ref ob54), .val (.int x58)] [(.int (1 : Int32))])
    refine own_go (fun _ => XS.goto X63.here hx rfl (pc0 := 333) (pc' := 337) rfl (hb hby at_333) (by decide) (by decide)) ?_
    show GG _ _ _ _ _ _ _ T63 (mkF m 337 #[.val (.int p0), .val (.int p1), .val (.int p2), .val (.int p3), .val (.int p4), .val (.ref ob1), .val (.ref ob17), .val (.ref ob33), .val (.ref ob45), .val (.int x48), .val (.int x52), .val (.int x53), .val (.ref ob54), .val (.int x58)] [(.int (1 : Int32))])
    refine own_ret X63 hx hlk (t := .boolean) (w := (.int (1 : Int32))) Bd.returns rfl (Or.inl ⟨rfl, by simp, _, rfl⟩) (hb hby at_337) (by decide) (by decide) ?_
    show Q0 Z p0 p1 p2 p3 p4 zc h0 n0 (some (.int (1 : Int32))) T63.heap _
    rw [hh63]
    exact ⟨rfl, N63⟩
  · skip
    have ihc198 : ¬ (x53.toInt = 1) := fun q => hc198 (Int32.toInt_inj.mp q)
    refine own_go (fun _ => XS.icmpYes X55.here hx rfl (pc0 := 198) (pc' := 211) rfl (hb hby at_198) rfl (feq hc198).2 (by decide) (by decide)) ?_
    show GG _ _ _ _ _ _ _ T55 (mkF m 211 #[.val (.int p0), .val (.int p1), .val (.int p2), .val (.int p3), .val (.int p4), .val (.ref ob1), .val (.ref ob17), .val (.ref ob33), .val (.ref ob45), .val (.int x48), .val (.int x52), .val (.int x53), .val (.ref ob54), .unset] [])
    refine own_go (fun _ => XS.iload X55.here hx rfl (hb hby at_211) rfl) ?_
    show GG _ _ _ _ _ _ _ T55 (mkF m 213 #[.val (.int p0), .val (.int p1), .val (.int p2), .val (.int p3), .val (.int p4), .val (.ref ob1), .val (.ref ob17), .val (.ref ob33), .val (.ref ob45), .val (.int x48), .val (.int x52), .val (.int x53), .val (.ref ob54), .unset] [(.int x53)])
    refine own_go (fun _ => XS.iconst X55.here hx rfl (hb hby at_213)) ?_
    show GG _ _ _ _ _ _ _ T55 (mkF m 214 #[.val (.int p0), .val (.int p1), .val (.int p2), .val (.int p3), .val (.int p4), .val (.ref ob1), .val (.ref ob17), .val (.ref ob33), .val (.ref ob45), .val (.int x48), .val (.int x52), .val (.int x53), .val (.ref ob54), .unset] [(.int (2 : Int32)), (.int x53)])
    by_cases hc214 : x53 = (2 : Int32)
    · skip
      have ihc214 : (x53.toInt = 2) := Int32.toInt_inj.mpr hc214
      refine own_go (fun _ => XS.icmpNo X55.here hx rfl (hb hby at_214) rfl (teq hc214).2) ?_
      show GG _ _ _ _ _ _ _ T55 (mkF m 217 #[.val (.int p0), .val (.int p1), .val (.int p2), .val (.int p3), .val (.int p4), .val (.ref ob1), .val (.ref ob17), .val (.ref ob33), .val (.ref ob45), .val (.int x48), .val (.int x52), .val (.int x53), .val (.ref ob54), .unset] [])
      refine own_go (fun _ => XS.aload X55.here hx rfl (hb hby at_217) rfl rfl) ?_
      show GG _ _ _ _ _ _ _ T55 (mkF m 219 #[.val (.int p0), .val (.int p1), .val (.int p2), .val (.int p3), .val (.int p4), .val (.ref ob1), .val (.ref ob17), .val (.ref ob33), .val (.ref ob45), .val (.int x48), .val (.int x52), .val (.int x53), .val (.ref ob54), .unset] [(.ref ob54)])
      refine own_go (fun _ => XS.aload X55.here hx rfl (hb hby at_219) rfl rfl) ?_
      show GG _ _ _ _ _ _ _ T55 (mkF m 221 #[.val (.int p0), .val (.int p1), .val (.int p2), .val (.int p3), .val (.int p4), .val (.ref ob1), .val (.ref ob17), .val (.ref ob33), .val (.ref ob45), .val (.int x48), .val (.int x52), .val (.int x53), .val (.ref ob54), .unset] [(.ref ob1), (.ref ob54)])
      refine own_go (fun _ => XS.iconst X55.here hx rfl (hb hby at_221)) ?_
      show GG _ _ _ _ _ _ _ T55 (mkF m 222 #[.val (.int p0), .val (.int p1), .val (.int p2), .val (.int p3), .val (.int p4), .val (.ref ob1), .val (.ref ob17), .val (.ref ob33), .val (.ref ob45), .val (.int x48), .val (.int x52), .val (.int x53), .val (.ref ob54), .unset] [(.int (0 : Int32)), (.ref ob1), (.ref ob54)])
      refine own_go (fun _ => XS.iconst X55.here hx rfl (hb hby at_222)) ?_
      show GG _ _ _ _ _ _ _ T55 (mkF m 223 #[.val (.int p0), .val (.int p1), .val (.int p2), .val (.int p3), .val (.int p4), .val (.ref ob1), .val (.ref ob17), .val (.ref ob33), .val (.ref ob45), .val (.int x48), .val (.int x52), .val (.int x53), .val (.ref ob54), .unset] [(.int (4 : Int32)), (.int (0 : Int32)), (.ref ob1), (.ref ob54)])
      refine own_callV X55 hx hZ (y := (⟨"com/example/breakwater/breakwater/io/LineText", "set", "([BII)V"⟩ : MethodName)) (z := (⟨"com/example/breakwater/breakwater/io/LineText", "set", "([BII)V"⟩ : MethodName)) 0 hown (hw _ (List.mem_of_getElem? (i := 61) rfl)) (hw _ (List.mem_of_getElem? (i := 62) rfl)) (notFace_of_selects (args := #[]) (mvT hZ (hw _ (List.mem_of_getElem? (i := 64) rfl)))) (hw _ (List.mem_of_getElem? (i := 64) rfl)) (hw _ (List.mem_of_getElem? (i := 63) rfl)) (hw _ (List.mem_of_getElem? (i := 33) rfl)) (hw _ (List.mem_of_getElem? (i := 65) rfl)) (by decide) (a := ob54) (argsL := [(.ref ob1), (.int (0 : Int32)), (.int (4 : Int32))]) (rest := []) (rm11_n l Z a0 hw [] ob54 ob1 (0 : Int32) (4 : Int32) (0 : Int32) (0 : Int32) h54 n0 (Nat.le_trans Z0 K0.1) E_ob54 g_ob54 F_ascii_ob54 F_decoded_ob54 F_from_ob54 F_to_ob54) (by decide) (by decide) (by decide) (by decide) E_ob54 (g := (mkF m 223 #[.val (.int p0), .val (.int p1), .val (.int p2), .val (.int p3), .val (.int p4), .val (.ref ob1), .val (.ref ob17), .val (.ref ob33), .val (.ref ob45), .val (.int x48), .val (.int x52), .val (.int x53), .val (.ref ob54), .unset] [(.int (4 : Int32)), (.int (0 : Int32)), (.ref ob1), (.ref ob54)])) rfl (by rw [hml]; rfl) (lenOf pd___BII_V_470 rfl) rfl (by show 2 * 0 + _ ≤ _; exact Nat.le_of_eq rfl) (hb hby at_223) hh55 ?_
      rintro v64 T64 L64 X64 ⟨rfl, N64q, Kq64, Eq64, Fasciiq64, Fdecodedq64, Ffromq64, Ftoq64⟩
      have N64 := Fr.app N55 N64q
      have K0 := K0.trans Kq64 (allS (Or.inr sz_ob54) all0)
      have O0 := O0.keep Kq64 (allS g_ob54 all0)
      have V_ob1 := V_ob1.keep Kq64 (ninS ne_ob1_ob54 nin0)
      have E_ob1 := E_ob1.keep Kq64
      have V_ob17 := V_ob17.keep Kq64 (ninS ne_ob17_ob54 nin0)
      have E_ob17 := E_ob17.keep Kq64
      have V_ob33 := V_ob33.keep Kq64 (ninS ne_ob33_ob54 nin0)
      have E_ob33 := E_ob33.keep Kq64
      have Eq46 := Eq46.keep Kq64
      have Fvq46 := Fvq46.keep Kq64 (ninS ne_ob45_ob54 nin0)
      have Fcq46 := Fcq46.keep Kq64 (ninS ne_ob45_ob54 nin0)
      have Vq46 := Vq46.keep Kq64 (ninS ne_bq46_ob54 nin0)
      show GG _ _ _ _ _ _ _ T64 (mkF m 226 #[.val (.int p0), .val (.int p1), .val (.int p2), .val (.int p3), .val (.int p4), .val (.ref ob1), .val (.ref ob17), .val (.ref ob33), .val (.ref ob45), .val (.int x48), .val (.int x52), .val (.int x53), .val (.ref ob54), .unset] [])
      refine own_go (fun _ => XS.goto X64.here hx rfl (pc0 := 226) (pc' := 244) rfl (hb hby at_226) (by decide) (by decide)) ?_
      show GG _ _ _ _ _ _ _ T64 (mkF m 244 #[.val (.int p0), .val (.int p1), .val (.int p2), .val (.int p3), .val (.int p4), .val (.ref ob1), .val (.ref ob17), .val (.ref ob33), .val (.ref ob45), .val (.int x48), .val (.int x52), .val (.int x53), .val (.ref ob54), .unset] [])
      refine own_go (fun _ => XS.aload X64.here hx rfl (hb hby at_244) rfl rfl) ?_
      show GG _ _ _ _ _ _ _ T64 (mkF m 246 #[.val (.int p0), .val (.int p1), .val (.int p2), .val (.int p3), .val (.int p4), .val (.ref ob1), .val (.ref ob17), .val (.ref ob33), .val (.ref ob45), .val (.int x48), .val (.int x52), .val (.int x53), .val (.ref ob54), .unset] [(.ref ob54)])
      refine own_go (fun _ => XS.aload X64.here hx rfl (hb hby at_246) rfl rfl) ?_
      show GG _ _ _ _ _ _ _ T64 (mkF m 248 #[.val (.int p0), .val (.int p1), .val (.int p2), .val (.int p3), .val (.int p4), .val (.ref ob1), .val (.ref ob17), .val (.ref ob33), .val (.ref ob45), .val (.int x48), .val (.int x52), .val (.int x53), .val (.ref ob54), .unset] [(.ref ob1), (.ref ob54)])
      refine own_go (fun _ => XS.iload X64.here hx rfl (hb hby at_248) rfl) ?_
      show GG _ _ _ _ _ _ _ T64 (mkF m 250 #[.val (.int p0), .val (.int p1), .val (.int p2), .val (.int p3), .val (.int p4), .val (.ref ob1), .val (.ref ob17), .val (.ref ob33), .val (.ref ob45), .val (.int x48), .val (.int x52), .val (.int x53), .val (.ref ob54), .unset] [(.int x48), (.ref ob1), (.ref ob54)])
      refine own_go (fun _ => XS.iload X64.here hx rfl (hb hby at_250) rfl) ?_
      show GG _ _ _ _ _ _ _ T64 (mkF m 252 #[.val (.int p0), .val (.int p1), .val (.int p2), .val (.int p3), .val (.int p4), .val (.ref ob1), .val (.ref ob17), .val (.ref ob33), .val (.ref ob45), .val (.int x48), .val (.int x52), .val (.int x53), .val (.ref ob54), .unset] [(.int x52), (.int x48), (.ref ob1), (.ref ob54)])
      refine own_callV X64 hx hZ (y := (⟨"com/example/breakwater/breakwater/io/LineText", "set", "([BII)V"⟩ : MethodName)) (z := (⟨"com/example/breakwater/breakwater/io/LineText", "set", "([BII)V"⟩ : MethodName)) 0 hown (hw _ (List.mem_of_getElem? (i := 61) rfl)) (hw _ (List.mem_of_getElem? (i := 62) rfl)) (notFace_of_selects (args := #[]) (mvT hZ (hw _ (List.mem_of_getElem? (i := 64) rfl)))) (hw _ (List.mem_of_getElem? (i := 64) rfl)) (hw _ (List.mem_of_getElem? (i := 63) rfl)) (hw _ (List.mem_of_getElem? (i := 33) rfl)) (hw _ (List.mem_of_getElem? (i := 65) rfl)) (by decide) (a := ob54) (argsL := [(.ref ob1), (.int x48), (.int x52)]) (rest := []) (rm11_e l Z a0 hw [] ob54 ob1 x48 x52 (0 : Int32) (4 : Int32) T64.heap n0 (Nat.le_trans Z0 K0.1) Eq64 g_ob54 Fasciiq64 Fdecodedq64 Ffromq64 Ftoq64) (by decide) (by decide) (by decide) (by decide) Eq64 (g := (mkF m 252 #[.val (.int p0), .val (.int p1), .val (.int p2), .val (.int p3), .val (.int p4), .val (.ref ob1), .val (.ref ob17), .val (.ref ob33), .val (.ref ob45), .val (.int x48), .val (.int x52), .val (.int x53), .val (.ref ob54), .unset] [(.int x52), (.int x48), (.ref ob1), (.ref ob54)])) rfl (by rw [hml]; rfl) (lenOf pd___BII_V_470 rfl) rfl (by show 2 * 0 + _ ≤ _; exact Nat.le_of_eq rfl) (hb hby at_252) rfl ?_
      rintro v65 T65 L65 X65 ⟨rfl, N65q, Kq65, Eq65, Fasciiq65, Fdecodedq65, Ffromq65, Ftoq65⟩
      have N65 := Fr.app N64 N65q
      have K0 := K0.trans Kq65 (allS (Or.inr sz_ob54) all0)
      have O0 := O0.keep Kq65 (allS g_ob54 all0)
      have V_ob1 := V_ob1.keep Kq65 (ninS ne_ob1_ob54 nin0)
      have E_ob1 := E_ob1.keep Kq65
      have V_ob17 := V_ob17.keep Kq65 (ninS ne_ob17_ob54 nin0)
      have E_ob17 := E_ob17.keep Kq65
      have V_ob33 := V_ob33.keep Kq65 (ninS ne_ob33_ob54 nin0)
      have E_ob33 := E_ob33.keep Kq65
      have Eq46 := Eq46.keep Kq65
      have Fvq46 := Fvq46.keep Kq65 (ninS ne_ob45_ob54 nin0)
      have Fcq46 := Fcq46.keep Kq65 (ninS ne_ob45_ob54 nin0)
      have Vq46 := Vq46.keep Kq65 (ninS ne_bq46_ob54 nin0)
      show GG _ _ _ _ _ _ _ T65 (mkF m 255 #[.val (.int p0), .val (.int p1), .val (.int p2), .val (.int p3), .val (.int p4), .val (.ref ob1), .val (.ref ob17), .val (.ref ob33), .val (.ref ob45), .val (.int x48), .val (.int x52), .val (.int x53), .val (.ref ob54), .unset] [])
      refine own_go (fun _ => XS.iload X65.here hx rfl (hb hby at_255) rfl) ?_
      show GG _ _ _ _ _ _ _ T65 (mkF m 257 #[.val (.int p0), .val (.int p1), .val (.int p2), .val (.int p3), .val (.int p4), .val (.ref ob1), .val (.ref ob17), .val (.ref ob33), .val (.ref ob45), .val (.int x48), .val (.int x52), .val (.int x53), .val (.ref ob54), .unset] [(.int x52)])
      refine own_go (fun _ => XS.iload X65.here hx rfl (hb hby at_257) rfl) ?_
      show GG _ _ _ _ _ _ _ T65 (mkF m 259 #[.val (.int p0), .val (.int p1), .val (.int p2), .val (.int p3), .val (.int p4), .val (.ref ob1), .val (.ref ob17), .val (.ref ob33), .val (.ref ob45), .val (.int x48), .val (.int x52), .val (.int x53), .val (.ref ob54), .unset] [(.int x48), (.int x52)])
      refine own_go (fun _ => XS.isub X65.here hx rfl (hb hby at_259) rfl) ?_
      show GG _ _ _ _ _ _ _ T65 (mkF m 260 #[.val (.int p0), .val (.int p1), .val (.int p2), .val (.int p3), .val (.int p4), .val (.ref ob1), .val (.ref ob17), .val (.ref ob33), .val (.ref ob45), .val (.int x48), .val (.int x52), .val (.int x53), .val (.ref ob54), .unset] [(.int (x52 - x48))])
      have cx66 := c_isub x52 x48
      generalize hx66 : (x52 - x48) = x66 at cx66 ⊢
      have rx66 := rng32 x66
      have dx66 : x66.toInt = x52.toInt - x48.toInt := by omega
      clear cx66
      refine own_go (fun _ => XS.istore X65.here hx rfl (hb hby at_260) rfl (l' := #[.val (.int p0), .val (.int p1), .val (.int p2), .val (.int p3), .val (.int p4), .val (.ref ob1), .val (.ref ob17), .val (.ref ob33), .val (.ref ob45), .val (.int x48), .val (.int x52), .val (.int x53), .val (.ref ob54), .val (.int x66)]) rfl) ?_
      show GG _ _ _ _ _ _ _ T65 (mkF m 262 #[.val (.int p0), .val (.int p1), .val (.int p2), .val (.int p3), .val (.int p4), .val (.ref ob1), .val (.ref ob17), .val (.ref ob33), .val (.ref ob45), .val (.int x48), .val (.int x52), .val (.int x53), .val (.ref ob54), .val (.int x66)] [])
      refine own_go (fun _ => XS.aload X65.here hx rfl (hb hby at_262) rfl rfl) ?_
      show GG _ _ _ _ _ _ _ T65 (mkF m 264 #[.val (.int p0), .val (.int p1), .val (.int p2), .val (.int p3), .val (.int p4), .val (.ref ob1), .val (.ref ob17), .val (.ref ob33), .val (.ref ob45), .val (.int x48), .val (.int x52), .val (.int x53), .val (.ref ob54), .val (.int x66)] [(.ref ob54)])
      refine own_callV X65 hx hZ (y := (⟨"com/example/breakwater/breakwater/io/LineText", "length", "()I"⟩ : MethodName)) (z := (⟨"com/example/breakwater/breakwater/io/LineText", "length", "()I"⟩ : MethodName)) 0 hown (hw _ (List.mem_of_getElem? (i := 66) rfl)) (hw _ (List.mem_of_getElem? (i := 67) rfl)) (notFace_of_selects (args := #[]) (mvT hZ (hw _ (List.mem_of_getElem? (i := 69) rfl)))) (hw _ (List.mem_of_getElem? (i := 69) rfl)) (hw _ (List.mem_of_getElem? (i := 68) rfl)) (hw _ (List.mem_of_getElem? (i := 33) rfl)) (hw _ (List.mem_of_getElem? (i := 70) rfl)) (by decide) (a := ob54) (argsL := []) (rest := []) (rm12 l Z a0 hw [] ob54 x48 x52 T65.heap n0 (Nat.le_trans Z0 K0.1) Ffromq65 Ftoq65) (by decide) (by decide) (by decide) (by decide) Eq65 (g := (mkF m 264 #[.val (.int p0), .val (.int p1), .val (.int p2), .val (.int p3), .val (.int p4), .val (.ref ob1), .val (.ref ob17), .val (.ref ob33), .val (.ref ob45), .val (.int x48), .val (.int x52), .val (.int x53), .val (.ref ob54), .val (.int x66)] [(.ref ob54)])) rfl (by rw [hml]; rfl) (lenOf pd___I_154 rfl) rfl (by show 2 * 0 + _ ≤ _; exact Nat.le_of_eq rfl) (hb hby at_264) rfl ?_
      rintro v67 T67 L67 X67 ⟨rfl, N67q, hh67⟩
      have N67 := Fr.app N65 N67q
      show GG _ _ _ _ _ _ _ T67 (mkF m 267 #[.val (.int p0), .val (.int p1), .val (.int p2), .val (.int p3), .val (.int p4), .val (.ref ob1), .val (.ref ob17), .val (.ref ob33), .val (.ref ob45), .val (.int x48), .val (.int x52), .val (.int x53), .val (.ref ob54), .val (.int x66)] [(.int (x52 - x48))])
      refine own_go (fun _ => XS.iload X67.here hx rfl (hb hby at_267) rfl) ?_
      show GG _ _ _ _ _ _ _ T67 (mkF m 269 #[.val (.int p0), .val (.int p1), .val (.int p2), .val (.int p3), .val (.int p4), .val (.ref ob1), .val (.ref ob17), .val (.ref ob33), .val (.ref ob45), .val (.int x48), .val (.int x52), .val (.int x53), .val (.ref ob54), .val (.int x66)] [(.int x66), (.int (x52 - x48))])
      have hc269 : (x52 - x48) = x66 := hx66
      refine own_go (fun _ => XS.icmpNo X67.here hx rfl (hb hby at_269) rfl (teq hc269).2) ?_
      show GG _ _ _ _ _ _ _ T67 (mkF m 272 #[.val (.int p0), .val (.int p1), .val (.int p2), .val (.int p3), .val (.int p4), .val (.ref ob1), .val (.ref ob17), .val (.ref ob33), .val (.ref ob45), .val (.int x48), .val (.int x52), .val (.int x53), .val (.ref ob54), .val (.int x66)] [])
      refine own_go (fun _ => XS.aload X67.here hx rfl (hb hby at_272) rfl rfl) ?_
      show GG _ _ _ _ _ _ _ T67 (mkF m 274 #[.val (.int p0), .val (.int p1), .val (.int p2), .val (.int p3), .val (.int p4), .val (.ref ob1), .val (.ref ob17), .val (.ref ob33), .val (.ref ob45), .val (.int x48), .val (.int x52), .val (.int x53), .val (.ref ob54), .val (.int x66)] [(.ref ob54)])
      refine own_go (fun _ => XS.aload X67.here hx rfl (hb hby at_274) rfl rfl) ?_
      show GG _ _ _ _ _ _ _ T67 (mkF m 276 #[.val (.int p0), .val (.int p1), .val (.int p2), .val (.int p3), .val (.int p4), .val (.ref ob1), .val (.ref ob17), .val (.ref ob33), .val (.ref ob45), .val (.int x48), .val (.int x52), .val (.int x53), .val (.ref ob54), .val (.int x66)] [(.ref ob1), (.ref ob54)])
      refine own_go (fun _ => XS.iload X67.here hx rfl (hb hby at_276) rfl) ?_
      show GG _ _ _ _ _ _ _ T67 (mkF m 278 #[.val (.int p0), .val (.int p1), .val (.int p2), .val (.int p3), .val (.int p4), .val (.ref ob1), .val (.ref ob17), .val (.ref ob33), .val (.ref ob45), .val (.int x48), .val (.int x52), .val (.int x53), .val (.ref ob54), .val (.int x66)] [(.int x48), (.ref ob1), (.ref ob54)])
      refine own_go (fun _ => XS.iload X67.here hx rfl (hb hby at_278) rfl) ?_
      show GG _ _ _ _ _ _ _ T67 (mkF m 280 #[.val (.int p0), .val (.int p1), .val (.int p2), .val (.int p3), .val (.int p4), .val (.ref ob1), .val (.ref ob17), .val (.ref ob33), .val (.ref ob45), .val (.int x48), .val (.int x52), .val (.int x53), .val (.ref ob54), .val (.int x66)] [(.int x66), (.int x48), (.ref ob1), (.ref ob54)])
      refine own_go (fun _ => XS.iconst X67.here hx rfl (hb hby at_280)) ?_
      show GG _ _ _ _ _ _ _ T67 (mkF m 281 #[.val (.int p0), .val (.int p1), .val (.int p2), .val (.int p3), .val (.int p4), .val (.ref ob1), .val (.ref ob17), .val (.ref ob33), .val (.ref ob45), .val (.int x48), .val (.int x52), .val (.int x53), .val (.ref ob54), .val (.int x66)] [(.int (0 : Int32)), (.int x66), (.int x48), (.ref ob1), (.ref ob54)])
      refine own_callS X67 hx hZ (y := (⟨"com/example/breakwater/breakwater/io/LineTextSetPinLaw", "at", "(Lcom/example/breakwater/breakwater/io/LineText;[BIII)Z"⟩ : MethodName)) 0 hown (hw _ (List.mem_of_getElem? (i := 71) rfl)) (hw _ (List.mem_of_getElem? (i := 72) rfl)) (hw _ (List.mem_of_getElem? (i := 73) rfl)) (hw _ (List.mem_of_getElem? (i := 74) rfl)) (by decide) (argsL := [(.ref ob54), (.ref ob1), (.int x48), (.int x66), (.int (0 : Int32))]) (rest := []) (rm13 l Z a0 hw [] ob54 ob1 x48 x66 (0 : Int32) x52 x3 x7 x11 x15 T65.heap n0 (Nat.le_trans Z0 K0.1) Eq65 Fasciiq65 Ffromq65 Ftoq65 V_ob1 (by rw [show (0 : Int32).toInt = 0 from by decide]; omega) hy0 hy1 hy2 hy3) (by decide) (by decide) (by decide) (by decide) (g := (mkF m 281 #[.val (.int p0), .val (.int p1), .val (.int p2), .val (.int p3), .val (.int p4), .val (.ref ob1), .val (.ref ob17), .val (.ref ob33), .val (.ref ob45), .val (.int x48), .val (.int x52), .val (.int x53), .val (.ref ob54), .val (.int x66)] [(.int (0 : Int32)), (.int x66), (.int x48), (.ref ob1), (.ref ob54)])) rfl (by rw [hml]; rfl) (lenOf pd__Lcom_example_breakwater_breakwater_io_L_156 rfl) rfl (by show 2 * 0 + _ ≤ _; exact Nat.le_of_eq rfl) (hb hby at_281) hh67 ?_
      rintro v68 T68 L68 X68 ⟨rfl, N68q, hh68⟩
      have N68 := Fr.app N67 N68q
      show GG _ _ _ _ _ _ _ T68 (mkF m 284 #[.val (.int p0), .val (.int p1), .val (.int p2), .val (.int p3), .val (.int p4), .val (.ref ob1), .val (.ref ob17), .val (.ref ob33), .val (.ref ob45), .val (.int x48), .val (.int x52), .val (.int x53), .val (.ref ob54), .val (.int x66)] [(.int (1 : Int32))])
      have hc284 : ¬ ((1 : Int32) = (0 : Int32)) := by decide
      refine own_go (fun _ => XS.ifNo X68.here hx rfl (hb hby at_284) rfl ((if0 _ _).trans (feq hc284).1)) ?_
      show GG _ _ _ _ _ _ _ T68 (mkF m 287 #[.val (.int p0), .val (.int p1), .val (.int p2), .val (.int p3), .val (.int p4), .val (.ref ob1), .val (.ref ob17), .val (.ref ob33), .val (.ref ob45), .val (.int x48), .val (.int x52), .val (.int x53), .val (.ref ob54), .val (.int x66)] [])
      refine own_go (fun _ => XS.aload X68.here hx rfl (hb hby at_287) rfl rfl) ?_
      show GG _ _ _ _ _ _ _ T68 (mkF m 289 #[.val (.int p0), .val (.int p1), .val (.int p2), .val (.int p3), .val (.int p4), .val (.ref ob1), .val (.ref ob17), .val (.ref ob33), .val (.ref ob45), .val (.int x48), .val (.int x52), .val (.int x53), .val (.ref ob54), .val (.int x66)] [(.ref ob54)])
      refine own_go (fun _ => XS.aload X68.here hx rfl (hb hby at_289) rfl rfl) ?_
      show GG _ _ _ _ _ _ _ T68 (mkF m 291 #[.val (.int p0), .val (.int p1), .val (.int p2), .val (.int p3), .val (.int p4), .val (.ref ob1), .val (.ref ob17), .val (.ref ob33), .val (.ref ob45), .val (.int x48), .val (.int x52), .val (.int x53), .val (.ref ob54), .val (.int x66)] [(.ref ob1), (.ref ob54)])
      refine own_go (fun _ => XS.iload X68.here hx rfl (hb hby at_291) rfl) ?_
      show GG _ _ _ _ _ _ _ T68 (mkF m 293 #[.val (.int p0), .val (.int p1), .val (.int p2), .val (.int p3), .val (.int p4), .val (.ref ob1), .val (.ref ob17), .val (.ref ob33), .val (.ref ob45), .val (.int x48), .val (.int x52), .val (.int x53), .val (.ref ob54), .val (.int x66)] [(.int x48), (.ref ob1), (.ref ob54)])
      refine own_go (fun _ => XS.iload X68.here hx rfl (hb hby at_293) rfl) ?_
      show GG _ _ _ _ _ _ _ T68 (mkF m 295 #[.val (.int p0), .val (.int p1), .val (.int p2), .val (.int p3), .val (.int p4), .val (.ref ob1), .val (.ref ob17), .val (.ref ob33), .val (.ref ob45), .val (.int x48), .val (.int x52), .val (.int x53), .val (.ref ob54), .val (.int x66)] [(.int x66), (.int x48), (.ref ob1), (.ref ob54)])
      refine own_go (fun _ => XS.iconst X68.here hx rfl (hb hby at_295)) ?_
      show GG _ _ _ _ _ _ _ T68 (mkF m 296 #[.val (.int p0), .val (.int p1), .val (.int p2), .val (.int p3), .val (.int p4), .val (.ref ob1), .val (.ref ob17), .val (.ref ob33), .val (.ref ob45), .val (.int x48), .val (.int x52), .val (.int x53), .val (.ref ob54), .val (.int x66)] [(.int (1 : Int32)), (.int x66), (.int x48), (.ref ob1), (.ref ob54)])
      refine own_callS X68 hx hZ (y := (⟨"com/example/breakwater/breakwater/io/LineTextSetPinLaw", "at", "(Lcom/example/breakwater/breakwater/io/LineText;[BIII)Z"⟩ : MethodName)) 0 hown (hw _ (List.mem_of_getElem? (i := 71) rfl)) (hw _ (List.mem_of_getElem? (i := 72) rfl)) (hw _ (List.mem_of_getElem? (i := 73) rfl)) (hw _ (List.mem_of_getElem? (i := 74) rfl)) (by decide) (argsL := [(.ref ob54), (.ref ob1), (.int x48), (.int x66), (.int (1 : Int32))]) (rest := []) (rm13 l Z a0 hw [] ob54 ob1 x48 x66 (1 : Int32) x52 x3 x7 x11 x15 T65.heap n0 (Nat.le_trans Z0 K0.1) Eq65 Fasciiq65 Ffromq65 Ftoq65 V_ob1 (by rw [show (1 : Int32).toInt = 1 from by decide]; omega) hy0 hy1 hy2 hy3) (by decide) (by decide) (by decide) (by decide) (g := (mkF m 296 #[.val (.int p0), .val (.int p1), .val (.int p2), .val (.int p3), .val (.int p4), .val (.ref ob1), .val (.ref ob17), .val (.ref ob33), .val (.ref ob45), .val (.int x48), .val (.int x52), .val (.int x53), .val (.ref ob54), .val (.int x66)] [(.int (1 : Int32)), (.int x66), (.int x48), (.ref ob1), (.ref ob54)])) rfl (by rw [hml]; rfl) (lenOf pd__Lcom_example_breakwater_breakwater_io_L_156 rfl) rfl (by show 2 * 0 + _ ≤ _; exact Nat.le_of_eq rfl) (hb hby at_296) hh68 ?_
      rintro v69 T69 L69 X69 ⟨rfl, N69q, hh69⟩
      have N69 := Fr.app N68 N69q
      show GG _ _ _ _ _ _ _ T69 (mkF m 299 #[.val (.int p0), .val (.int p1), .val (.int p2), .val (.int p3), .val (.int p4), .val (.ref ob1), .val (.ref ob17), .val (.ref ob33), .val (.ref ob45), .val (.int x48), .val (.int x52), .val (.int x53), .val (.ref ob54), .val (.int x66)] [(.int (1 : Int32))])
      have hc299 : ¬ ((1 : Int32) = (0 : Int32)) := by decide
      refine own_go (fun _ => XS.ifNo X69.here hx rfl (hb hby at_299) rfl ((if0 _ _).trans (feq hc299).1)) ?_
      show GG _ _ _ _ _ _ _ T69 (mkF m 302 #[.val (.int p0), .val (.int p1), .val (.int p2), .val (.int p3), .val (.int p4), .val (.ref ob1), .val (.ref ob17), .val (.ref ob33), .val (.ref ob45), .val (.int x48), .val (.int x52), .val (.int x53), .val (.ref ob54), .val (.int x66)] [])
      refine own_go (fun _ => XS.aload X69.here hx rfl (hb hby at_302) rfl rfl) ?_
      show GG _ _ _ _ _ _ _ T69 (mkF m 304 #[.val (.int p0), .val (.int p1), .val (.int p2), .val (.int p3), .val (.int p4), .val (.ref ob1), .val (.ref ob17), .val (.ref ob33), .val (.ref ob45), .val (.int x48), .val (.int x52), .val (.int x53), .val (.ref ob54), .val (.int x66)] [(.ref ob54)])
      refine own_go (fun _ => XS.aload X69.here hx rfl (hb hby at_304) rfl rfl) ?_
      show GG _ _ _ _ _ _ _ T69 (mkF m 306 #[.val (.int p0), .val (.int p1), .val (.int p2), .val (.int p3), .val (.int p4), .val (.ref ob1), .val (.ref ob17), .val (.ref ob33), .val (.ref ob45), .val (.int x48), .val (.int x52), .val (.int x53), .val (.ref ob54), .val (.int x66)] [(.ref ob1), (.ref ob54)])
      refine own_go (fun _ => XS.iload X69.here hx rfl (hb hby at_306) rfl) ?_
      show GG _ _ _ _ _ _ _ T69 (mkF m 308 #[.val (.int p0), .val (.int p1), .val (.int p2), .val (.int p3), .val (.int p4), .val (.ref ob1), .val (.ref ob17), .val (.ref ob33), .val (.ref ob45), .val (.int x48), .val (.int x52), .val (.int x53), .val (.ref ob54), .val (.int x66)] [(.int x48), (.ref ob1), (.ref ob54)])
      refine own_go (fun _ => XS.iload X69.here hx rfl (hb hby at_308) rfl) ?_
      show GG _ _ _ _ _ _ _ T69 (mkF m 310 #[.val (.int p0), .val (.int p1), .val (.int p2), .val (.int p3), .val (.int p4), .val (.ref ob1), .val (.ref ob17), .val (.ref ob33), .val (.ref ob45), .val (.int x48), .val (.int x52), .val (.int x53), .val (.ref ob54), .val (.int x66)] [(.int x66), (.int x48), (.ref ob1), (.ref ob54)])
      refine own_go (fun _ => XS.iconst X69.here hx rfl (hb hby at_310)) ?_
      show GG _ _ _ _ _ _ _ T69 (mkF m 311 #[.val (.int p0), .val (.int p1), .val (.int p2), .val (.int p3), .val (.int p4), .val (.ref ob1), .val (.ref ob17), .val (.ref ob33), .val (.ref ob45), .val (.int x48), .val (.int x52), .val (.int x53), .val (.ref ob54), .val (.int x66)] [(.int (2 : Int32)), (.int x66), (.int x48), (.ref ob1), (.ref ob54)])
      refine own_callS X69 hx hZ (y := (⟨"com/example/breakwater/breakwater/io/LineTextSetPinLaw", "at", "(Lcom/example/breakwater/breakwater/io/LineText;[BIII)Z"⟩ : MethodName)) 0 hown (hw _ (List.mem_of_getElem? (i := 71) rfl)) (hw _ (List.mem_of_getElem? (i := 72) rfl)) (hw _ (List.mem_of_getElem? (i := 73) rfl)) (hw _ (List.mem_of_getElem? (i := 74) rfl)) (by decide) (argsL := [(.ref ob54), (.ref ob1), (.int x48), (.int x66), (.int (2 : Int32))]) (rest := []) (rm13 l Z a0 hw [] ob54 ob1 x48 x66 (2 : Int32) x52 x3 x7 x11 x15 T65.heap n0 (Nat.le_trans Z0 K0.1) Eq65 Fasciiq65 Ffromq65 Ftoq65 V_ob1 (by rw [show (2 : Int32).toInt = 2 from by decide]; omega) hy0 hy1 hy2 hy3) (by decide) (by decide) (by decide) (by decide) (g := (mkF m 311 #[.val (.int p0), .val (.int p1), .val (.int p2), .val (.int p3), .val (.int p4), .val (.ref ob1), .val (.ref ob17), .val (.ref ob33), .val (.ref ob45), .val (.int x48), .val (.int x52), .val (.int x53), .val (.ref ob54), .val (.int x66)] [(.int (2 : Int32)), (.int x66), (.int x48), (.ref ob1), (.ref ob54)])) rfl (by rw [hml]; rfl) (lenOf pd__Lcom_example_breakwater_breakwater_io_L_156 rfl) rfl (by show 2 * 0 + _ ≤ _; exact Nat.le_of_eq rfl) (hb hby at_311) hh69 ?_
      rintro v70 T70 L70 X70 ⟨rfl, N70q, hh70⟩
      have N70 := Fr.app N69 N70q
      show GG _ _ _ _ _ _ _ T70 (mkF m 314 #[.val (.int p0), .val (.int p1), .val (.int p2), .val (.int p3), .val (.int p4), .val (.ref ob1), .val (.ref ob17), .val (.ref ob33), .val (.ref ob45), .val (.int x48), .val (.int x52), .val (.int x53), .val (.ref ob54), .val (.int x66)] [(.int (1 : Int32))])
      have hc314 : ¬ ((1 : Int32) = (0 : Int32)) := by decide
      refine own_go (fun _ => XS.ifNo X70.here hx rfl (hb hby at_314) rfl ((if0 _ _).trans (feq hc314).1)) ?_
      show GG _ _ _ _ _ _ _ T70 (mkF m 317 #[.val (.int p0), .val (.int p1), .val (.int p2), .val (.int p3), .val (.int p4), .val (.ref ob1), .val (.ref ob17), .val (.ref ob33), .val (.ref ob45), .val (.int x48), .val (.int x52), .val (.int x53), .val (.ref ob54), .val (.int x66)] [])
      refine own_go (fun _ => XS.aload X70.here hx rfl (hb hby at_317) rfl rfl) ?_
      show GG _ _ _ _ _ _ _ T70 (mkF m 319 #[.val (.int p0), .val (.int p1), .val (.int p2), .val (.int p3), .val (.int p4), .val (.ref ob1), .val (.ref ob17), .val (.ref ob33), .val (.ref ob45), .val (.int x48), .val (.int x52), .val (.int x53), .val (.ref ob54), .val (.int x66)] [(.ref ob54)])
      refine own_go (fun _ => XS.aload X70.here hx rfl (hb hby at_319) rfl rfl) ?_
      show GG _ _ _ _ _ _ _ T70 (mkF m 321 #[.val (.int p0), .val (.int p1), .val (.int p2), .val (.int p3), .val (.int p4), .val (.ref ob1), .val (.ref ob17), .val (.ref ob33), .val (.ref ob45), .val (.int x48), .val (.int x52), .val (.int x53), .val (.ref ob54), .val (.int x66)] [(.ref ob1), (.ref ob54)])
      refine own_go (fun _ => XS.iload X70.here hx rfl (hb hby at_321) rfl) ?_
      show GG _ _ _ _ _ _ _ T70 (mkF m 323 #[.val (.int p0), .val (.int p1), .val (.int p2), .val (.int p3), .val (.int p4), .val (.ref ob1), .val (.ref ob17), .val (.ref ob33), .val (.ref ob45), .val (.int x48), .val (.int x52), .val (.int x53), .val (.ref ob54), .val (.int x66)] [(.int x48), (.ref ob1), (.ref ob54)])
      refine own_go (fun _ => XS.iload X70.here hx rfl (hb hby at_323) rfl) ?_
      show GG _ _ _ _ _ _ _ T70 (mkF m 325 #[.val (.int p0), .val (.int p1), .val (.int p2), .val (.int p3), .val (.int p4), .val (.ref ob1), .val (.ref ob17), .val (.ref ob33), .val (.ref ob45), .val (.int x48), .val (.int x52), .val (.int x53), .val (.ref ob54), .val (.int x66)] [(.int x66), (.int x48), (.ref ob1), (.ref ob54)])
      refine own_go (fun _ => XS.iconst X70.here hx rfl (hb hby at_325)) ?_
      show GG _ _ _ _ _ _ _ T70 (mkF m 326 #[.val (.int p0), .val (.int p1), .val (.int p2), .val (.int p3), .val (.int p4), .val (.ref ob1), .val (.ref ob17), .val (.ref ob33), .val (.ref ob45), .val (.int x48), .val (.int x52), .val (.int x53), .val (.ref ob54), .val (.int x66)] [(.int (3 : Int32)), (.int x66), (.int x48), (.ref ob1), (.ref ob54)])
      refine own_callS X70 hx hZ (y := (⟨"com/example/breakwater/breakwater/io/LineTextSetPinLaw", "at", "(Lcom/example/breakwater/breakwater/io/LineText;[BIII)Z"⟩ : MethodName)) 0 hown (hw _ (List.mem_of_getElem? (i := 71) rfl)) (hw _ (List.mem_of_getElem? (i := 72) rfl)) (hw _ (List.mem_of_getElem? (i := 73) rfl)) (hw _ (List.mem_of_getElem? (i := 74) rfl)) (by decide) (argsL := [(.ref ob54), (.ref ob1), (.int x48), (.int x66), (.int (3 : Int32))]) (rest := []) (rm13 l Z a0 hw [] ob54 ob1 x48 x66 (3 : Int32) x52 x3 x7 x11 x15 T65.heap n0 (Nat.le_trans Z0 K0.1) Eq65 Fasciiq65 Ffromq65 Ftoq65 V_ob1 (by rw [show (3 : Int32).toInt = 3 from by decide]; omega) hy0 hy1 hy2 hy3) (by decide) (by decide) (by decide) (by decide) (g := (mkF m 326 #[.val (.int p0), .val (.int p1), .val (.int p2), .val (.int p3), .val (.int p4), .val (.ref ob1), .val (.ref ob17), .val (.ref ob33), .val (.ref ob45), .val (.int x48), .val (.int x52), .val (.int x53), .val (.ref ob54), .val (.int x66)] [(.int (3 : Int32)), (.int x66), (.int x48), (.ref ob1), (.ref ob54)])) rfl (by rw [hml]; rfl) (lenOf pd__Lcom_example_breakwater_breakwater_io_L_156 rfl) rfl (by show 2 * 0 + _ ≤ _; exact Nat.le_of_eq rfl) (hb hby at_326) hh70 ?_
      rintro v71 T71 L71 X71 ⟨rfl, N71q, hh71⟩
      have N71 := Fr.app N70 N71q
      show GG _ _ _ _ _ _ _ T71 (mkF m 329 #[.val (.int p0), .val (.int p1), .val (.int p2), .val (.int p3), .val (.int p4), .val (.ref ob1), .val (.ref ob17), .val (.ref ob33), .val (.ref ob45), .val (.int x48), .val (.int x52), .val (.int x53), .val (.ref ob54), .val (.int x66)] [(.int (1 : Int32))])
      have hc329 : ¬ ((1 : Int32) = (0 : Int32)) := by decide
      refine own_go (fun _ => XS.ifNo X71.here hx rfl (hb hby at_329) rfl ((if0 _ _).trans (feq hc329).1)) ?_
      show GG _ _ _ _ _ _ _ T71 (mkF m 332 #[.val (.int p0), .val (.int p1), .val (.int p2), .val (.int p3), .val (.int p4), .val (.ref ob1), .val (.ref ob17), .val (.ref ob33), .val (.ref ob45), .val (.int x48), .val (.int x52), .val (.int x53), .val (.ref ob54), .val (.int x66)] [])
      refine own_go (fun _ => XS.iconst X71.here hx rfl (hb hby at_332)) ?_
      show GG _ _ _ _ _ _ _ T71 (mkF m 333 #[.val (.int p0), .val (.int p1), .val (.int p2), .val (.int p3), .val (.int p4), .val (.ref ob1), .val (.ref ob17), .val (.ref ob33), .val (.ref ob45), .val (.int x48), .val (.int x52), .val (.int x53), .val (.ref ob54), .val (.int x66)] [(.int (1 : Int32))])
      refine own_go (fun _ => XS.goto X71.here hx rfl (pc0 := 333) (pc' := 337) rfl (hb hby at_333) (by decide) (by decide)) ?_
      show GG _ _ _ _ _ _ _ T71 (mkF m 337 #[.val (.int p0), .val (.int p1), .val (.int p2), .val (.int p3), .val (.int p4), .val (.ref ob1), .val (.ref ob17), .val (.ref ob33), .val (.ref ob45), .val (.int x48), .val (.int x52), .val (.int x53), .val (.ref ob54), .val (.int x66)] [(.int (1 : Int32))])
      refine own_ret X71 hx hlk (t := .boolean) (w := (.int (1 : Int32))) Bd.returns rfl (Or.inl ⟨rfl, by simp, _, rfl⟩) (hb hby at_337) (by decide) (by decide) ?_
      show Q0 Z p0 p1 p2 p3 p4 zc h0 n0 (some (.int (1 : Int32))) T71.heap _
      rw [hh71]
      exact ⟨rfl, N71⟩
    · skip
      have ihc214 : ¬ (x53.toInt = 2) := fun q => hc214 (Int32.toInt_inj.mp q)
      refine own_go (fun _ => XS.icmpYes X55.here hx rfl (pc0 := 214) (pc' := 229) rfl (hb hby at_214) rfl (feq hc214).2 (by decide) (by decide)) ?_
      show GG _ _ _ _ _ _ _ T55 (mkF m 229 #[.val (.int p0), .val (.int p1), .val (.int p2), .val (.int p3), .val (.int p4), .val (.ref ob1), .val (.ref ob17), .val (.ref ob33), .val (.ref ob45), .val (.int x48), .val (.int x52), .val (.int x53), .val (.ref ob54), .unset] [])
      refine own_go (fun _ => XS.iload X55.here hx rfl (hb hby at_229) rfl) ?_
      show GG _ _ _ _ _ _ _ T55 (mkF m 231 #[.val (.int p0), .val (.int p1), .val (.int p2), .val (.int p3), .val (.int p4), .val (.ref ob1), .val (.ref ob17), .val (.ref ob33), .val (.ref ob45), .val (.int x48), .val (.int x52), .val (.int x53), .val (.ref ob54), .unset] [(.int x53)])
      refine own_go (fun _ => XS.iconst X55.here hx rfl (hb hby at_231)) ?_
      show GG _ _ _ _ _ _ _ T55 (mkF m 232 #[.val (.int p0), .val (.int p1), .val (.int p2), .val (.int p3), .val (.int p4), .val (.ref ob1), .val (.ref ob17), .val (.ref ob33), .val (.ref ob45), .val (.int x48), .val (.int x52), .val (.int x53), .val (.ref ob54), .unset] [(.int (3 : Int32)), (.int x53)])
      by_cases hc232 : x53 = (3 : Int32)
      · skip
        have ihc232 : (x53.toInt = 3) := Int32.toInt_inj.mpr hc232
        refine own_go (fun _ => XS.icmpNo X55.here hx rfl (hb hby at_232) rfl (teq hc232).2) ?_
        show GG _ _ _ _ _ _ _ T55 (mkF m 235 #[.val (.int p0), .val (.int p1), .val (.int p2), .val (.int p3), .val (.int p4), .val (.ref ob1), .val (.ref ob17), .val (.ref ob33), .val (.ref ob45), .val (.int x48), .val (.int x52), .val (.int x53), .val (.ref ob54), .unset] [])
        refine own_go (fun _ => XS.aload X55.here hx rfl (hb hby at_235) rfl rfl) ?_
        show GG _ _ _ _ _ _ _ T55 (mkF m 237 #[.val (.int p0), .val (.int p1), .val (.int p2), .val (.int p3), .val (.int p4), .val (.ref ob1), .val (.ref ob17), .val (.ref ob33), .val (.ref ob45), .val (.int x48), .val (.int x52), .val (.int x53), .val (.ref ob54), .unset] [(.ref ob54)])
        refine own_go (fun _ => XS.aload X55.here hx rfl (hb hby at_237) rfl rfl) ?_
        show GG _ _ _ _ _ _ _ T55 (mkF m 239 #[.val (.int p0), .val (.int p1), .val (.int p2), .val (.int p3), .val (.int p4), .val (.ref ob1), .val (.ref ob17), .val (.ref ob33), .val (.ref ob45), .val (.int x48), .val (.int x52), .val (.int x53), .val (.ref ob54), .unset] [(.ref ob17), (.ref ob54)])
        refine own_go (fun _ => XS.iconst X55.here hx rfl (hb hby at_239)) ?_
        show GG _ _ _ _ _ _ _ T55 (mkF m 240 #[.val (.int p0), .val (.int p1), .val (.int p2), .val (.int p3), .val (.int p4), .val (.ref ob1), .val (.ref ob17), .val (.ref ob33), .val (.ref ob45), .val (.int x48), .val (.int x52), .val (.int x53), .val (.ref ob54), .unset] [(.int (0 : Int32)), (.ref ob17), (.ref ob54)])
        refine own_go (fun _ => XS.iconst X55.here hx rfl (hb hby at_240)) ?_
        show GG _ _ _ _ _ _ _ T55 (mkF m 241 #[.val (.int p0), .val (.int p1), .val (.int p2), .val (.int p3), .val (.int p4), .val (.ref ob1), .val (.ref ob17), .val (.ref ob33), .val (.ref ob45), .val (.int x48), .val (.int x52), .val (.int x53), .val (.ref ob54), .unset] [(.int (4 : Int32)), (.int (0 : Int32)), (.ref ob17), (.ref ob54)])
        refine own_callV X55 hx hZ (y := (⟨"com/example/breakwater/breakwater/io/LineText", "set", "([BII)V"⟩ : MethodName)) (z := (⟨"com/example/breakwater/breakwater/io/LineText", "set", "([BII)V"⟩ : MethodName)) 0 hown (hw _ (List.mem_of_getElem? (i := 61) rfl)) (hw _ (List.mem_of_getElem? (i := 62) rfl)) (notFace_of_selects (args := #[]) (mvT hZ (hw _ (List.mem_of_getElem? (i := 64) rfl)))) (hw _ (List.mem_of_getElem? (i := 64) rfl)) (hw _ (List.mem_of_getElem? (i := 63) rfl)) (hw _ (List.mem_of_getElem? (i := 33) rfl)) (hw _ (List.mem_of_getElem? (i := 65) rfl)) (by decide) (a := ob54) (argsL := [(.ref ob17), (.int (0 : Int32)), (.int (4 : Int32))]) (rest := []) (rm11_n l Z a0 hw [] ob54 ob17 (0 : Int32) (4 : Int32) (0 : Int32) (0 : Int32) h54 n0 (Nat.le_trans Z0 K0.1) E_ob54 g_ob54 F_ascii_ob54 F_decoded_ob54 F_from_ob54 F_to_ob54) (by decide) (by decide) (by decide) (by decide) E_ob54 (g := (mkF m 241 #[.val (.int p0), .val (.int p1), .val (.int p2), .val (.int p3), .val (.int p4), .val (.ref ob1), .val (.ref ob17), .val (.ref ob33), .val (.ref ob45), .val (.int x48), .val (.int x52), .val (.int x53), .val (.ref ob54), .unset] [(.int (4 : Int32)), (.int (0 : Int32)), (.ref ob17), (.ref ob54)])) rfl (by rw [hml]; rfl) (lenOf pd___BII_V_470 rfl) rfl (by show 2 * 0 + _ ≤ _; exact Nat.le_of_eq rfl) (hb hby at_241) hh55 ?_
        rintro v72 T72 L72 X72 ⟨rfl, N72q, Kq72, Eq72, Fasciiq72, Fdecodedq72, Ffromq72, Ftoq72⟩
        have N72 := Fr.app N55 N72q
        have K0 := K0.trans Kq72 (allS (Or.inr sz_ob54) all0)
        have O0 := O0.keep Kq72 (allS g_ob54 all0)
        have V_ob1 := V_ob1.keep Kq72 (ninS ne_ob1_ob54 nin0)
        have E_ob1 := E_ob1.keep Kq72
        have V_ob17 := V_ob17.keep Kq72 (ninS ne_ob17_ob54 nin0)
        have E_ob17 := E_ob17.keep Kq72
        have V_ob33 := V_ob33.keep Kq72 (ninS ne_ob33_ob54 nin0)
        have E_ob33 := E_ob33.keep Kq72
        have Eq46 := Eq46.keep Kq72
        have Fvq46 := Fvq46.keep Kq72 (ninS ne_ob45_ob54 nin0)
        have Fcq46 := Fcq46.keep Kq72 (ninS ne_ob45_ob54 nin0)
        have Vq46 := Vq46.keep Kq72 (ninS ne_bq46_ob54 nin0)
        show GG _ _ _ _ _ _ _ T72 (mkF m 244 #[.val (.int p0), .val (.int p1), .val (.int p2), .val (.int p3), .val (.int p4), .val (.ref ob1), .val (.ref ob17), .val (.ref ob33), .val (.ref ob45), .val (.int x48), .val (.int x52), .val (.int x53), .val (.ref ob54), .unset] [])
        refine own_go (fun _ => XS.aload X72.here hx rfl (hb hby at_244) rfl rfl) ?_
        show GG _ _ _ _ _ _ _ T72 (mkF m 246 #[.val (.int p0), .val (.int p1), .val (.int p2), .val (.int p3), .val (.int p4), .val (.ref ob1), .val (.ref ob17), .val (.ref ob33), .val (.ref ob45), .val (.int x48), .val (.int x52), .val (.int x53), .val (.ref ob54), .unset] [(.ref ob54)])
        refine own_go (fun _ => XS.aload X72.here hx rfl (hb hby at_246) rfl rfl) ?_
        show GG _ _ _ _ _ _ _ T72 (mkF m 248 #[.val (.int p0), .val (.int p1), .val (.int p2), .val (.int p3), .val (.int p4), .val (.ref ob1), .val (.ref ob17), .val (.ref ob33), .val (.ref ob45), .val (.int x48), .val (.int x52), .val (.int x53), .val (.ref ob54), .unset] [(.ref ob1), (.ref ob54)])
        refine own_go (fun _ => XS.iload X72.here hx rfl (hb hby at_248) rfl) ?_
        show GG _ _ _ _ _ _ _ T72 (mkF m 250 #[.val (.int p0), .val (.int p1), .val (.int p2), .val (.int p3), .val (.int p4), .val (.ref ob1), .val (.ref ob17), .val (.ref ob33), .val (.ref ob45), .val (.int x48), .val (.int x52), .val (.int x53), .val (.ref ob54), .unset] [(.int x48), (.ref ob1), (.ref ob54)])
        refine own_go (fun _ => XS.iload X72.here hx rfl (hb hby at_250) rfl) ?_
        show GG _ _ _ _ _ _ _ T72 (mkF m 252 #[.val (.int p0), .val (.int p1), .val (.int p2), .val (.int p3), .val (.int p4), .val (.ref ob1), .val (.ref ob17), .val (.ref ob33), .val (.ref ob45), .val (.int x48), .val (.int x52), .val (.int x53), .val (.ref ob54), .unset] [(.int x52), (.int x48), (.ref ob1), (.ref ob54)])
        refine own_callV X72 hx hZ (y := (⟨"com/example/breakwater/breakwater/io/LineText", "set", "([BII)V"⟩ : MethodName)) (z := (⟨"com/example/breakwater/breakwater/io/LineText", "set", "([BII)V"⟩ : MethodName)) 0 hown (hw _ (List.mem_of_getElem? (i := 61) rfl)) (hw _ (List.mem_of_getElem? (i := 62) rfl)) (notFace_of_selects (args := #[]) (mvT hZ (hw _ (List.mem_of_getElem? (i := 64) rfl)))) (hw _ (List.mem_of_getElem? (i := 64) rfl)) (hw _ (List.mem_of_getElem? (i := 63) rfl)) (hw _ (List.mem_of_getElem? (i := 33) rfl)) (hw _ (List.mem_of_getElem? (i := 65) rfl)) (by decide) (a := ob54) (argsL := [(.ref ob1), (.int x48), (.int x52)]) (rest := []) (rm11_d l Z a0 hw [] ob54 ob1 x48 x52 ob17 (0 : Int32) (4 : Int32) T72.heap n0 (Nat.le_trans Z0 K0.1) (Ne.symm ne_ob1_ob17) Eq72 g_ob54 Fasciiq72 Fdecodedq72 Ffromq72 Ftoq72) (by decide) (by decide) (by decide) (by decide) Eq72 (g := (mkF m 252 #[.val (.int p0), .val (.int p1), .val (.int p2), .val (.int p3), .val (.int p4), .val (.ref ob1), .val (.ref ob17), .val (.ref ob33), .val (.ref ob45), .val (.int x48), .val (.int x52), .val (.int x53), .val (.ref ob54), .unset] [(.int x52), (.int x48), (.ref ob1), (.ref ob54)])) rfl (by rw [hml]; rfl) (lenOf pd___BII_V_470 rfl) rfl (by show 2 * 0 + _ ≤ _; exact Nat.le_of_eq rfl) (hb hby at_252) rfl ?_
        rintro v73 T73 L73 X73 ⟨rfl, N73q, Kq73, Eq73, Fasciiq73, Fdecodedq73, Ffromq73, Ftoq73⟩
        have N73 := Fr.app N72 N73q
        have K0 := K0.trans Kq73 (allS (Or.inr sz_ob54) all0)
        have O0 := O0.keep Kq73 (allS g_ob54 all0)
        have V_ob1 := V_ob1.keep Kq73 (ninS ne_ob1_ob54 nin0)
        have E_ob1 := E_ob1.keep Kq73
        have V_ob17 := V_ob17.keep Kq73 (ninS ne_ob17_ob54 nin0)
        have E_ob17 := E_ob17.keep Kq73
        have V_ob33 := V_ob33.keep Kq73 (ninS ne_ob33_ob54 nin0)
        have E_ob33 := E_ob33.keep Kq73
        have Eq46 := Eq46.keep Kq73
        have Fvq46 := Fvq46.keep Kq73 (ninS ne_ob45_ob54 nin0)
        have Fcq46 := Fcq46.keep Kq73 (ninS ne_ob45_ob54 nin0)
        have Vq46 := Vq46.keep Kq73 (ninS ne_bq46_ob54 nin0)
        show GG _ _ _ _ _ _ _ T73 (mkF m 255 #[.val (.int p0), .val (.int p1), .val (.int p2), .val (.int p3), .val (.int p4), .val (.ref ob1), .val (.ref ob17), .val (.ref ob33), .val (.ref ob45), .val (.int x48), .val (.int x52), .val (.int x53), .val (.ref ob54), .unset] [])
        refine own_go (fun _ => XS.iload X73.here hx rfl (hb hby at_255) rfl) ?_
        show GG _ _ _ _ _ _ _ T73 (mkF m 257 #[.val (.int p0), .val (.int p1), .val (.int p2), .val (.int p3), .val (.int p4), .val (.ref ob1), .val (.ref ob17), .val (.ref ob33), .val (.ref ob45), .val (.int x48), .val (.int x52), .val (.int x53), .val (.ref ob54), .unset] [(.int x52)])
        refine own_go (fun _ => XS.iload X73.here hx rfl (hb hby at_257) rfl) ?_
        show GG _ _ _ _ _ _ _ T73 (mkF m 259 #[.val (.int p0), .val (.int p1), .val (.int p2), .val (.int p3), .val (.int p4), .val (.ref ob1), .val (.ref ob17), .val (.ref ob33), .val (.ref ob45), .val (.int x48), .val (.int x52), .val (.int x53), .val (.ref ob54), .unset] [(.int x48), (.int x52)])
        refine own_go (fun _ => XS.isub X73.here hx rfl (hb hby at_259) rfl) ?_
        show GG _ _ _ _ _ _ _ T73 (mkF m 260 #[.val (.int p0), .val (.int p1), .val (.int p2), .val (.int p3), .val (.int p4), .val (.ref ob1), .val (.ref ob17), .val (.ref ob33), .val (.ref ob45), .val (.int x48), .val (.int x52), .val (.int x53), .val (.ref ob54), .unset] [(.int (x52 - x48))])
        have cx74 := c_isub x52 x48
        generalize hx74 : (x52 - x48) = x74 at cx74 ⊢
        have rx74 := rng32 x74
        have dx74 : x74.toInt = x52.toInt - x48.toInt := by omega
        clear cx74
        refine own_go (fun _ => XS.istore X73.here hx rfl (hb hby at_260) rfl (l' := #[.val (.int p0), .val (.int p1), .val (.int p2), .val (.int p3), .val (.int p4), .val (.ref ob1), .val (.ref ob17), .val (.ref ob33), .val (.ref ob45), .val (.int x48), .val (.int x52), .val (.int x53), .val (.ref ob54), .val (.int x74)]) rfl) ?_
        show GG _ _ _ _ _ _ _ T73 (mkF m 262 #[.val (.int p0), .val (.int p1), .val (.int p2), .val (.int p3), .val (.int p4), .val (.ref ob1), .val (.ref ob17), .val (.ref ob33), .val (.ref ob45), .val (.int x48), .val (.int x52), .val (.int x53), .val (.ref ob54), .val (.int x74)] [])
        refine own_go (fun _ => XS.aload X73.here hx rfl (hb hby at_262) rfl rfl) ?_
        show GG _ _ _ _ _ _ _ T73 (mkF m 264 #[.val (.int p0), .val (.int p1), .val (.int p2), .val (.int p3), .val (.int p4), .val (.ref ob1), .val (.ref ob17), .val (.ref ob33), .val (.ref ob45), .val (.int x48), .val (.int x52), .val (.int x53), .val (.ref ob54), .val (.int x74)] [(.ref ob54)])
        refine own_callV X73 hx hZ (y := (⟨"com/example/breakwater/breakwater/io/LineText", "length", "()I"⟩ : MethodName)) (z := (⟨"com/example/breakwater/breakwater/io/LineText", "length", "()I"⟩ : MethodName)) 0 hown (hw _ (List.mem_of_getElem? (i := 66) rfl)) (hw _ (List.mem_of_getElem? (i := 67) rfl)) (notFace_of_selects (args := #[]) (mvT hZ (hw _ (List.mem_of_getElem? (i := 69) rfl)))) (hw _ (List.mem_of_getElem? (i := 69) rfl)) (hw _ (List.mem_of_getElem? (i := 68) rfl)) (hw _ (List.mem_of_getElem? (i := 33) rfl)) (hw _ (List.mem_of_getElem? (i := 70) rfl)) (by decide) (a := ob54) (argsL := []) (rest := []) (rm12 l Z a0 hw [] ob54 x48 x52 T73.heap n0 (Nat.le_trans Z0 K0.1) Ffromq73 Ftoq73) (by decide) (by decide) (by decide) (by decide) Eq73 (g := (mkF m 264 #[.val (.int p0), .val (.int p1), .val (.int p2), .val (.int p3), .val (.int p4), .val (.ref ob1), .val (.ref ob17), .val (.ref ob33), .val (.ref ob45), .val (.int x48), .val (.int x52), .val (.int x53), .val (.ref ob54), .val (.int x74)] [(.ref ob54)])) rfl (by rw [hml]; rfl) (lenOf pd___I_154 rfl) rfl (by show 2 * 0 + _ ≤ _; exact Nat.le_of_eq rfl) (hb hby at_264) rfl ?_
        rintro v75 T75 L75 X75 ⟨rfl, N75q, hh75⟩
        have N75 := Fr.app N73 N75q
        show GG _ _ _ _ _ _ _ T75 (mkF m 267 #[.val (.int p0), .val (.int p1), .val (.int p2), .val (.int p3), .val (.int p4), .val (.ref ob1), .val (.ref ob17), .val (.ref ob33), .val (.ref ob45), .val (.int x48), .val (.int x52), .val (.int x53), .val (.ref ob54), .val (.int x74)] [(.int (x52 - x48))])
        refine own_go (fun _ => XS.iload X75.here hx rfl (hb hby at_267) rfl) ?_
        show GG _ _ _ _ _ _ _ T75 (mkF m 269 #[.val (.int p0), .val (.int p1), .val (.int p2), .val (.int p3), .val (.int p4), .val (.ref ob1), .val (.ref ob17), .val (.ref ob33), .val (.ref ob45), .val (.int x48), .val (.int x52), .val (.int x53), .val (.ref ob54), .val (.int x74)] [(.int x74), (.int (x52 - x48))])
        have hc269 : (x52 - x48) = x74 := hx74
        refine own_go (fun _ => XS.icmpNo X75.here hx rfl (hb hby at_269) rfl (teq hc269).2) ?_
        show GG _ _ _ _ _ _ _ T75 (mkF m 272 #[.val (.int p0), .val (.int p1), .val (.int p2), .val (.int p3), .val (.int p4), .val (.ref ob1), .val (.ref ob17), .val (.ref ob33), .val (.ref ob45), .val (.int x48), .val (.int x52), .val (.int x53), .val (.ref ob54), .val (.int x74)] [])
        refine own_go (fun _ => XS.aload X75.here hx rfl (hb hby at_272) rfl rfl) ?_
        show GG _ _ _ _ _ _ _ T75 (mkF m 274 #[.val (.int p0), .val (.int p1), .val (.int p2), .val (.int p3), .val (.int p4), .val (.ref ob1), .val (.ref ob17), .val (.ref ob33), .val (.ref ob45), .val (.int x48), .val (.int x52), .val (.int x53), .val (.ref ob54), .val (.int x74)] [(.ref ob54)])
        refine own_go (fun _ => XS.aload X75.here hx rfl (hb hby at_274) rfl rfl) ?_
        show GG _ _ _ _ _ _ _ T75 (mkF m 276 #[.val (.int p0), .val (.int p1), .val (.int p2), .val (.int p3), .val (.int p4), .val (.ref ob1), .val (.ref ob17), .val (.ref ob33), .val (.ref ob45), .val (.int x48), .val (.int x52), .val (.int x53), .val (.ref ob54), .val (.int x74)] [(.ref ob1), (.ref ob54)])
        refine own_go (fun _ => XS.iload X75.here hx rfl (hb hby at_276) rfl) ?_
        show GG _ _ _ _ _ _ _ T75 (mkF m 278 #[.val (.int p0), .val (.int p1), .val (.int p2), .val (.int p3), .val (.int p4), .val (.ref ob1), .val (.ref ob17), .val (.ref ob33), .val (.ref ob45), .val (.int x48), .val (.int x52), .val (.int x53), .val (.ref ob54), .val (.int x74)] [(.int x48), (.ref ob1), (.ref ob54)])
        refine own_go (fun _ => XS.iload X75.here hx rfl (hb hby at_278) rfl) ?_
        show GG _ _ _ _ _ _ _ T75 (mkF m 280 #[.val (.int p0), .val (.int p1), .val (.int p2), .val (.int p3), .val (.int p4), .val (.ref ob1), .val (.ref ob17), .val (.ref ob33), .val (.ref ob45), .val (.int x48), .val (.int x52), .val (.int x53), .val (.ref ob54), .val (.int x74)] [(.int x74), (.int x48), (.ref ob1), (.ref ob54)])
        refine own_go (fun _ => XS.iconst X75.here hx rfl (hb hby at_280)) ?_
        show GG _ _ _ _ _ _ _ T75 (mkF m 281 #[.val (.int p0), .val (.int p1), .val (.int p2), .val (.int p3), .val (.int p4), .val (.ref ob1), .val (.ref ob17), .val (.ref ob33), .val (.ref ob45), .val (.int x48), .val (.int x52), .val (.int x53), .val (.ref ob54), .val (.int x74)] [(.int (0 : Int32)), (.int x74), (.int x48), (.ref ob1), (.ref ob54)])
        refine own_callS X75 hx hZ (y := (⟨"com/example/breakwater/breakwater/io/LineTextSetPinLaw", "at", "(Lcom/example/breakwater/breakwater/io/LineText;[BIII)Z"⟩ : MethodName)) 0 hown (hw _ (List.mem_of_getElem? (i := 71) rfl)) (hw _ (List.mem_of_getElem? (i := 72) rfl)) (hw _ (List.mem_of_getElem? (i := 73) rfl)) (hw _ (List.mem_of_getElem? (i := 74) rfl)) (by decide) (argsL := [(.ref ob54), (.ref ob1), (.int x48), (.int x74), (.int (0 : Int32))]) (rest := []) (rm13 l Z a0 hw [] ob54 ob1 x48 x74 (0 : Int32) x52 x3 x7 x11 x15 T73.heap n0 (Nat.le_trans Z0 K0.1) Eq73 Fasciiq73 Ffromq73 Ftoq73 V_ob1 (by rw [show (0 : Int32).toInt = 0 from by decide]; omega) hy0 hy1 hy2 hy3) (by decide) (by decide) (by decide) (by decide) (g := (mkF m 281 #[.val (.int p0), .val (.int p1), .val (.int p2), .val (.int p3), .val (.int p4), .val (.ref ob1), .val (.ref ob17), .val (.ref ob33), .val (.ref ob45), .val (.int x48), .val (.int x52), .val (.int x53), .val (.ref ob54), .val (.int x74)] [(.int (0 : Int32)), (.int x74), (.int x48), (.ref ob1), (.ref ob54)])) rfl (by rw [hml]; rfl) (lenOf pd__Lcom_example_breakwater_breakwater_io_L_156 rfl) rfl (by show 2 * 0 + _ ≤ _; exact Nat.le_of_eq rfl) (hb hby at_281) hh75 ?_
        rintro v76 T76 L76 X76 ⟨rfl, N76q, hh76⟩
        have N76 := Fr.app N75 N76q
        show GG _ _ _ _ _ _ _ T76 (mkF m 284 #[.val (.int p0), .val (.int p1), .val (.int p2), .val (.int p3), .val (.int p4), .val (.ref ob1), .val (.ref ob17), .val (.ref ob33), .val (.ref ob45), .val (.int x48), .val (.int x52), .val (.int x53), .val (.ref ob54), .val (.int x74)] [(.int (1 : Int32))])
        have hc284 : ¬ ((1 : Int32) = (0 : Int32)) := by decide
        refine own_go (fun _ => XS.ifNo X76.here hx rfl (hb hby at_284) rfl ((if0 _ _).trans (feq hc284).1)) ?_
        show GG _ _ _ _ _ _ _ T76 (mkF m 287 #[.val (.int p0), .val (.int p1), .val (.int p2), .val (.int p3), .val (.int p4), .val (.ref ob1), .val (.ref ob17), .val (.ref ob33), .val (.ref ob45), .val (.int x48), .val (.int x52), .val (.int x53), .val (.ref ob54), .val (.int x74)] [])
        refine own_go (fun _ => XS.aload X76.here hx rfl (hb hby at_287) rfl rfl) ?_
        show GG _ _ _ _ _ _ _ T76 (mkF m 289 #[.val (.int p0), .val (.int p1), .val (.int p2), .val (.int p3), .val (.int p4), .val (.ref ob1), .val (.ref ob17), .val (.ref ob33), .val (.ref ob45), .val (.int x48), .val (.int x52), .val (.int x53), .val (.ref ob54), .val (.int x74)] [(.ref ob54)])
        refine own_go (fun _ => XS.aload X76.here hx rfl (hb hby at_289) rfl rfl) ?_
        show GG _ _ _ _ _ _ _ T76 (mkF m 291 #[.val (.int p0), .val (.int p1), .val (.int p2), .val (.int p3), .val (.int p4), .val (.ref ob1), .val (.ref ob17), .val (.ref ob33), .val (.ref ob45), .val (.int x48), .val (.int x52), .val (.int x53), .val (.ref ob54), .val (.int x74)] [(.ref ob1), (.ref ob54)])
        refine own_go (fun _ => XS.iload X76.here hx rfl (hb hby at_291) rfl) ?_
        show GG _ _ _ _ _ _ _ T76 (mkF m 293 #[.val (.int p0), .val (.int p1), .val (.int p2), .val (.int p3), .val (.int p4), .val (.ref ob1), .val (.ref ob17), .val (.ref ob33), .val (.ref ob45), .val (.int x48), .val (.int x52), .val (.int x53), .val (.ref ob54), .val (.int x74)] [(.int x48), (.ref ob1), (.ref ob54)])
        refine own_go (fun _ => XS.iload X76.here hx rfl (hb hby at_293) rfl) ?_
        show GG _ _ _ _ _ _ _ T76 (mkF m 295 #[.val (.int p0), .val (.int p1), .val (.int p2), .val (.int p3), .val (.int p4), .val (.ref ob1), .val (.ref ob17), .val (.ref ob33), .val (.ref ob45), .val (.int x48), .val (.int x52), .val (.int x53), .val (.ref ob54), .val (.int x74)] [(.int x74), (.int x48), (.ref ob1), (.ref ob54)])
        refine own_go (fun _ => XS.iconst X76.here hx rfl (hb hby at_295)) ?_
        show GG _ _ _ _ _ _ _ T76 (mkF m 296 #[.val (.int p0), .val (.int p1), .val (.int p2), .val (.int p3), .val (.int p4), .val (.ref ob1), .val (.ref ob17), .val (.ref ob33), .val (.ref ob45), .val (.int x48), .val (.int x52), .val (.int x53), .val (.ref ob54), .val (.int x74)] [(.int (1 : Int32)), (.int x74), (.int x48), (.ref ob1), (.ref ob54)])
        refine own_callS X76 hx hZ (y := (⟨"com/example/breakwater/breakwater/io/LineTextSetPinLaw", "at", "(Lcom/example/breakwater/breakwater/io/LineText;[BIII)Z"⟩ : MethodName)) 0 hown (hw _ (List.mem_of_getElem? (i := 71) rfl)) (hw _ (List.mem_of_getElem? (i := 72) rfl)) (hw _ (List.mem_of_getElem? (i := 73) rfl)) (hw _ (List.mem_of_getElem? (i := 74) rfl)) (by decide) (argsL := [(.ref ob54), (.ref ob1), (.int x48), (.int x74), (.int (1 : Int32))]) (rest := []) (rm13 l Z a0 hw [] ob54 ob1 x48 x74 (1 : Int32) x52 x3 x7 x11 x15 T73.heap n0 (Nat.le_trans Z0 K0.1) Eq73 Fasciiq73 Ffromq73 Ftoq73 V_ob1 (by rw [show (1 : Int32).toInt = 1 from by decide]; omega) hy0 hy1 hy2 hy3) (by decide) (by decide) (by decide) (by decide) (g := (mkF m 296 #[.val (.int p0), .val (.int p1), .val (.int p2), .val (.int p3), .val (.int p4), .val (.ref ob1), .val (.ref ob17), .val (.ref ob33), .val (.ref ob45), .val (.int x48), .val (.int x52), .val (.int x53), .val (.ref ob54), .val (.int x74)] [(.int (1 : Int32)), (.int x74), (.int x48), (.ref ob1), (.ref ob54)])) rfl (by rw [hml]; rfl) (lenOf pd__Lcom_example_breakwater_breakwater_io_L_156 rfl) rfl (by show 2 * 0 + _ ≤ _; exact Nat.le_of_eq rfl) (hb hby at_296) hh76 ?_
        rintro v77 T77 L77 X77 ⟨rfl, N77q, hh77⟩
        have N77 := Fr.app N76 N77q
        show GG _ _ _ _ _ _ _ T77 (mkF m 299 #[.val (.int p0), .val (.int p1), .val (.int p2), .val (.int p3), .val (.int p4), .val (.ref ob1), .val (.ref ob17), .val (.ref ob33), .val (.ref ob45), .val (.int x48), .val (.int x52), .val (.int x53), .val (.ref ob54), .val (.int x74)] [(.int (1 : Int32))])
        have hc299 : ¬ ((1 : Int32) = (0 : Int32)) := by decide
        refine own_go (fun _ => XS.ifNo X77.here hx rfl (hb hby at_299) rfl ((if0 _ _).trans (feq hc299).1)) ?_
        show GG _ _ _ _ _ _ _ T77 (mkF m 302 #[.val (.int p0), .val (.int p1), .val (.int p2), .val (.int p3), .val (.int p4), .val (.ref ob1), .val (.ref ob17), .val (.ref ob33), .val (.ref ob45), .val (.int x48), .val (.int x52), .val (.int x53), .val (.ref ob54), .val (.int x74)] [])
        refine own_go (fun _ => XS.aload X77.here hx rfl (hb hby at_302) rfl rfl) ?_
        show GG _ _ _ _ _ _ _ T77 (mkF m 304 #[.val (.int p0), .val (.int p1), .val (.int p2), .val (.int p3), .val (.int p4), .val (.ref ob1), .val (.ref ob17), .val (.ref ob33), .val (.ref ob45), .val (.int x48), .val (.int x52), .val (.int x53), .val (.ref ob54), .val (.int x74)] [(.ref ob54)])
        refine own_go (fun _ => XS.aload X77.here hx rfl (hb hby at_304) rfl rfl) ?_
        show GG _ _ _ _ _ _ _ T77 (mkF m 306 #[.val (.int p0), .val (.int p1), .val (.int p2), .val (.int p3), .val (.int p4), .val (.ref ob1), .val (.ref ob17), .val (.ref ob33), .val (.ref ob45), .val (.int x48), .val (.int x52), .val (.int x53), .val (.ref ob54), .val (.int x74)] [(.ref ob1), (.ref ob54)])
        refine own_go (fun _ => XS.iload X77.here hx rfl (hb hby at_306) rfl) ?_
        show GG _ _ _ _ _ _ _ T77 (mkF m 308 #[.val (.int p0), .val (.int p1), .val (.int p2), .val (.int p3), .val (.int p4), .val (.ref ob1), .val (.ref ob17), .val (.ref ob33), .val (.ref ob45), .val (.int x48), .val (.int x52), .val (.int x53), .val (.ref ob54), .val (.int x74)] [(.int x48), (.ref ob1), (.ref ob54)])
        refine own_go (fun _ => XS.iload X77.here hx rfl (hb hby at_308) rfl) ?_
        show GG _ _ _ _ _ _ _ T77 (mkF m 310 #[.val (.int p0), .val (.int p1), .val (.int p2), .val (.int p3), .val (.int p4), .val (.ref ob1), .val (.ref ob17), .val (.ref ob33), .val (.ref ob45), .val (.int x48), .val (.int x52), .val (.int x53), .val (.ref ob54), .val (.int x74)] [(.int x74), (.int x48), (.ref ob1), (.ref ob54)])
        refine own_go (fun _ => XS.iconst X77.here hx rfl (hb hby at_310)) ?_
        show GG _ _ _ _ _ _ _ T77 (mkF m 311 #[.val (.int p0), .val (.int p1), .val (.int p2), .val (.int p3), .val (.int p4), .val (.ref ob1), .val (.ref ob17), .val (.ref ob33), .val (.ref ob45), .val (.int x48), .val (.int x52), .val (.int x53), .val (.ref ob54), .val (.int x74)] [(.int (2 : Int32)), (.int x74), (.int x48), (.ref ob1), (.ref ob54)])
        refine own_callS X77 hx hZ (y := (⟨"com/example/breakwater/breakwater/io/LineTextSetPinLaw", "at", "(Lcom/example/breakwater/breakwater/io/LineText;[BIII)Z"⟩ : MethodName)) 0 hown (hw _ (List.mem_of_getElem? (i := 71) rfl)) (hw _ (List.mem_of_getElem? (i := 72) rfl)) (hw _ (List.mem_of_getElem? (i := 73) rfl)) (hw _ (List.mem_of_getElem? (i := 74) rfl)) (by decide) (argsL := [(.ref ob54), (.ref ob1), (.int x48), (.int x74), (.int (2 : Int32))]) (rest := []) (rm13 l Z a0 hw [] ob54 ob1 x48 x74 (2 : Int32) x52 x3 x7 x11 x15 T73.heap n0 (Nat.le_trans Z0 K0.1) Eq73 Fasciiq73 Ffromq73 Ftoq73 V_ob1 (by rw [show (2 : Int32).toInt = 2 from by decide]; omega) hy0 hy1 hy2 hy3) (by decide) (by decide) (by decide) (by decide) (g := (mkF m 311 #[.val (.int p0), .val (.int p1), .val (.int p2), .val (.int p3), .val (.int p4), .val (.ref ob1), .val (.ref ob17), .val (.ref ob33), .val (.ref ob45), .val (.int x48), .val (.int x52), .val (.int x53), .val (.ref ob54), .val (.int x74)] [(.int (2 : Int32)), (.int x74), (.int x48), (.ref ob1), (.ref ob54)])) rfl (by rw [hml]; rfl) (lenOf pd__Lcom_example_breakwater_breakwater_io_L_156 rfl) rfl (by show 2 * 0 + _ ≤ _; exact Nat.le_of_eq rfl) (hb hby at_311) hh77 ?_
        rintro v78 T78 L78 X78 ⟨rfl, N78q, hh78⟩
        have N78 := Fr.app N77 N78q
        show GG _ _ _ _ _ _ _ T78 (mkF m 314 #[.val (.int p0), .val (.int p1), .val (.int p2), .val (.int p3), .val (.int p4), .val (.ref ob1), .val (.ref ob17), .val (.ref ob33), .val (.ref ob45), .val (.int x48), .val (.int x52), .val (.int x53), .val (.ref ob54), .val (.int x74)] [(.int (1 : Int32))])
        have hc314 : ¬ ((1 : Int32) = (0 : Int32)) := by decide
        refine own_go (fun _ => XS.ifNo X78.here hx rfl (hb hby at_314) rfl ((if0 _ _).trans (feq hc314).1)) ?_
        show GG _ _ _ _ _ _ _ T78 (mkF m 317 #[.val (.int p0), .val (.int p1), .val (.int p2), .val (.int p3), .val (.int p4), .val (.ref ob1), .val (.ref ob17), .val (.ref ob33), .val (.ref ob45), .val (.int x48), .val (.int x52), .val (.int x53), .val (.ref ob54), .val (.int x74)] [])
        refine own_go (fun _ => XS.aload X78.here hx rfl (hb hby at_317) rfl rfl) ?_
        show GG _ _ _ _ _ _ _ T78 (mkF m 319 #[.val (.int p0), .val (.int p1), .val (.int p2), .val (.int p3), .val (.int p4), .val (.ref ob1), .val (.ref ob17), .val (.ref ob33), .val (.ref ob45), .val (.int x48), .val (.int x52), .val (.int x53), .val (.ref ob54), .val (.int x74)] [(.ref ob54)])
        refine own_go (fun _ => XS.aload X78.here hx rfl (hb hby at_319) rfl rfl) ?_
        show GG _ _ _ _ _ _ _ T78 (mkF m 321 #[.val (.int p0), .val (.int p1), .val (.int p2), .val (.int p3), .val (.int p4), .val (.ref ob1), .val (.ref ob17), .val (.ref ob33), .val (.ref ob45), .val (.int x48), .val (.int x52), .val (.int x53), .val (.ref ob54), .val (.int x74)] [(.ref ob1), (.ref ob54)])
        refine own_go (fun _ => XS.iload X78.here hx rfl (hb hby at_321) rfl) ?_
        show GG _ _ _ _ _ _ _ T78 (mkF m 323 #[.val (.int p0), .val (.int p1), .val (.int p2), .val (.int p3), .val (.int p4), .val (.ref ob1), .val (.ref ob17), .val (.ref ob33), .val (.ref ob45), .val (.int x48), .val (.int x52), .val (.int x53), .val (.ref ob54), .val (.int x74)] [(.int x48), (.ref ob1), (.ref ob54)])
        refine own_go (fun _ => XS.iload X78.here hx rfl (hb hby at_323) rfl) ?_
        show GG _ _ _ _ _ _ _ T78 (mkF m 325 #[.val (.int p0), .val (.int p1), .val (.int p2), .val (.int p3), .val (.int p4), .val (.ref ob1), .val (.ref ob17), .val (.ref ob33), .val (.ref ob45), .val (.int x48), .val (.int x52), .val (.int x53), .val (.ref ob54), .val (.int x74)] [(.int x74), (.int x48), (.ref ob1), (.ref ob54)])
        refine own_go (fun _ => XS.iconst X78.here hx rfl (hb hby at_325)) ?_
        show GG _ _ _ _ _ _ _ T78 (mkF m 326 #[.val (.int p0), .val (.int p1), .val (.int p2), .val (.int p3), .val (.int p4), .val (.ref ob1), .val (.ref ob17), .val (.ref ob33), .val (.ref ob45), .val (.int x48), .val (.int x52), .val (.int x53), .val (.ref ob54), .val (.int x74)] [(.int (3 : Int32)), (.int x74), (.int x48), (.ref ob1), (.ref ob54)])
        refine own_callS X78 hx hZ (y := (⟨"com/example/breakwater/breakwater/io/LineTextSetPinLaw", "at", "(Lcom/example/breakwater/breakwater/io/LineText;[BIII)Z"⟩ : MethodName)) 0 hown (hw _ (List.mem_of_getElem? (i := 71) rfl)) (hw _ (List.mem_of_getElem? (i := 72) rfl)) (hw _ (List.mem_of_getElem? (i := 73) rfl)) (hw _ (List.mem_of_getElem? (i := 74) rfl)) (by decide) (argsL := [(.ref ob54), (.ref ob1), (.int x48), (.int x74), (.int (3 : Int32))]) (rest := []) (rm13 l Z a0 hw [] ob54 ob1 x48 x74 (3 : Int32) x52 x3 x7 x11 x15 T73.heap n0 (Nat.le_trans Z0 K0.1) Eq73 Fasciiq73 Ffromq73 Ftoq73 V_ob1 (by rw [show (3 : Int32).toInt = 3 from by decide]; omega) hy0 hy1 hy2 hy3) (by decide) (by decide) (by decide) (by decide) (g := (mkF m 326 #[.val (.int p0), .val (.int p1), .val (.int p2), .val (.int p3), .val (.int p4), .val (.ref ob1), .val (.ref ob17), .val (.ref ob33), .val (.ref ob45), .val (.int x48), .val (.int x52), .val (.int x53), .val (.ref ob54), .val (.int x74)] [(.int (3 : Int32)), (.int x74), (.int x48), (.ref ob1), (.ref ob54)])) rfl (by rw [hml]; rfl) (lenOf pd__Lcom_example_breakwater_breakwater_io_L_156 rfl) rfl (by show 2 * 0 + _ ≤ _; exact Nat.le_of_eq rfl) (hb hby at_326) hh78 ?_
        rintro v79 T79 L79 X79 ⟨rfl, N79q, hh79⟩
        have N79 := Fr.app N78 N79q
        show GG _ _ _ _ _ _ _ T79 (mkF m 329 #[.val (.int p0), .val (.int p1), .val (.int p2), .val (.int p3), .val (.int p4), .val (.ref ob1), .val (.ref ob17), .val (.ref ob33), .val (.ref ob45), .val (.int x48), .val (.int x52), .val (.int x53), .val (.ref ob54), .val (.int x74)] [(.int (1 : Int32))])
        have hc329 : ¬ ((1 : Int32) = (0 : Int32)) := by decide
        refine own_go (fun _ => XS.ifNo X79.here hx rfl (hb hby at_329) rfl ((if0 _ _).trans (feq hc329).1)) ?_
        show GG _ _ _ _ _ _ _ T79 (mkF m 332 #[.val (.int p0), .val (.int p1), .val (.int p2), .val (.int p3), .val (.int p4), .val (.ref ob1), .val (.ref ob17), .val (.ref ob33), .val (.ref ob45), .val (.int x48), .val (.int x52), .val (.int x53), .val (.ref ob54), .val (.int x74)] [])
        refine own_go (fun _ => XS.iconst X79.here hx rfl (hb hby at_332)) ?_
        show GG _ _ _ _ _ _ _ T79 (mkF m 333 #[.val (.int p0), .val (.int p1), .val (.int p2), .val (.int p3), .val (.int p4), .val (.ref ob1), .val (.ref ob17), .val (.ref ob33), .val (.ref ob45), .val (.int x48), .val (.int x52), .val (.int x53), .val (.ref ob54), .val (.int x74)] [(.int (1 : Int32))])
        refine own_go (fun _ => XS.goto X79.here hx rfl (pc0 := 333) (pc' := 337) rfl (hb hby at_333) (by decide) (by decide)) ?_
        show GG _ _ _ _ _ _ _ T79 (mkF m 337 #[.val (.int p0), .val (.int p1), .val (.int p2), .val (.int p3), .val (.int p4), .val (.ref ob1), .val (.ref ob17), .val (.ref ob33), .val (.ref ob45), .val (.int x48), .val (.int x52), .val (.int x53), .val (.ref ob54), .val (.int x74)] [(.int (1 : Int32))])
        refine own_ret X79 hx hlk (t := .boolean) (w := (.int (1 : Int32))) Bd.returns rfl (Or.inl ⟨rfl, by simp, _, rfl⟩) (hb hby at_337) (by decide) (by decide) ?_
        show Q0 Z p0 p1 p2 p3 p4 zc h0 n0 (some (.int (1 : Int32))) T79.heap _
        rw [hh79]
        exact ⟨rfl, N79⟩
      · skip
        have ihc232 : ¬ (x53.toInt = 3) := fun q => hc232 (Int32.toInt_inj.mp q)
        refine own_go (fun _ => XS.icmpYes X55.here hx rfl (pc0 := 232) (pc' := 244) rfl (hb hby at_232) rfl (feq hc232).2 (by decide) (by decide)) ?_
        show GG _ _ _ _ _ _ _ T55 (mkF m 244 #[.val (.int p0), .val (.int p1), .val (.int p2), .val (.int p3), .val (.int p4), .val (.ref ob1), .val (.ref ob17), .val (.ref ob33), .val (.ref ob45), .val (.int x48), .val (.int x52), .val (.int x53), .val (.ref ob54), .unset] [])
        refine own_go (fun _ => XS.aload X55.here hx rfl (hb hby at_244) rfl rfl) ?_
        show GG _ _ _ _ _ _ _ T55 (mkF m 246 #[.val (.int p0), .val (.int p1), .val (.int p2), .val (.int p3), .val (.int p4), .val (.ref ob1), .val (.ref ob17), .val (.ref ob33), .val (.ref ob45), .val (.int x48), .val (.int x52), .val (.int x53), .val (.ref ob54), .unset] [(.ref ob54)])
        refine own_go (fun _ => XS.aload X55.here hx rfl (hb hby at_246) rfl rfl) ?_
        show GG _ _ _ _ _ _ _ T55 (mkF m 248 #[.val (.int p0), .val (.int p1), .val (.int p2), .val (.int p3), .val (.int p4), .val (.ref ob1), .val (.ref ob17), .val (.ref ob33), .val (.ref ob45), .val (.int x48), .val (.int x52), .val (.int x53), .val (.ref ob54), .unset] [(.ref ob1), (.ref ob54)])
        refine own_go (fun _ => XS.iload X55.here hx rfl (hb hby at_248) rfl) ?_
        show GG _ _ _ _ _ _ _ T55 (mkF m 250 #[.val (.int p0), .val (.int p1), .val (.int p2), .val (.int p3), .val (.int p4), .val (.ref ob1), .val (.ref ob17), .val (.ref ob33), .val (.ref ob45), .val (.int x48), .val (.int x52), .val (.int x53), .val (.ref ob54), .unset] [(.int x48), (.ref ob1), (.ref ob54)])
        refine own_go (fun _ => XS.iload X55.here hx rfl (hb hby at_250) rfl) ?_
        show GG _ _ _ _ _ _ _ T55 (mkF m 252 #[.val (.int p0), .val (.int p1), .val (.int p2), .val (.int p3), .val (.int p4), .val (.ref ob1), .val (.ref ob17), .val (.ref ob33), .val (.ref ob45), .val (.int x48), .val (.int x52), .val (.int x53), .val (.ref ob54), .unset] [(.int x52), (.int x48), (.ref ob1), (.ref ob54)])
        refine own_callV X55 hx hZ (y := (⟨"com/example/breakwater/breakwater/io/LineText", "set", "([BII)V"⟩ : MethodName)) (z := (⟨"com/example/breakwater/breakwater/io/LineText", "set", "([BII)V"⟩ : MethodName)) 0 hown (hw _ (List.mem_of_getElem? (i := 61) rfl)) (hw _ (List.mem_of_getElem? (i := 62) rfl)) (notFace_of_selects (args := #[]) (mvT hZ (hw _ (List.mem_of_getElem? (i := 64) rfl)))) (hw _ (List.mem_of_getElem? (i := 64) rfl)) (hw _ (List.mem_of_getElem? (i := 63) rfl)) (hw _ (List.mem_of_getElem? (i := 33) rfl)) (hw _ (List.mem_of_getElem? (i := 65) rfl)) (by decide) (a := ob54) (argsL := [(.ref ob1), (.int x48), (.int x52)]) (rest := []) (rm11_n l Z a0 hw [] ob54 ob1 x48 x52 (0 : Int32) (0 : Int32) h54 n0 (Nat.le_trans Z0 K0.1) E_ob54 g_ob54 F_ascii_ob54 F_decoded_ob54 F_from_ob54 F_to_ob54) (by decide) (by decide) (by decide) (by decide) E_ob54 (g := (mkF m 252 #[.val (.int p0), .val (.int p1), .val (.int p2), .val (.int p3), .val (.int p4), .val (.ref ob1), .val (.ref ob17), .val (.ref ob33), .val (.ref ob45), .val (.int x48), .val (.int x52), .val (.int x53), .val (.ref ob54), .unset] [(.int x52), (.int x48), (.ref ob1), (.ref ob54)])) rfl (by rw [hml]; rfl) (lenOf pd___BII_V_470 rfl) rfl (by show 2 * 0 + _ ≤ _; exact Nat.le_of_eq rfl) (hb hby at_252) hh55 ?_
        rintro v80 T80 L80 X80 ⟨rfl, N80q, Kq80, Eq80, Fasciiq80, Fdecodedq80, Ffromq80, Ftoq80⟩
        have N80 := Fr.app N55 N80q
        have K0 := K0.trans Kq80 (allS (Or.inr sz_ob54) all0)
        have O0 := O0.keep Kq80 (allS g_ob54 all0)
        have V_ob1 := V_ob1.keep Kq80 (ninS ne_ob1_ob54 nin0)
        have E_ob1 := E_ob1.keep Kq80
        have V_ob17 := V_ob17.keep Kq80 (ninS ne_ob17_ob54 nin0)
        have E_ob17 := E_ob17.keep Kq80
        have V_ob33 := V_ob33.keep Kq80 (ninS ne_ob33_ob54 nin0)
        have E_ob33 := E_ob33.keep Kq80
        have Eq46 := Eq46.keep Kq80
        have Fvq46 := Fvq46.keep Kq80 (ninS ne_ob45_ob54 nin0)
        have Fcq46 := Fcq46.keep Kq80 (ninS ne_ob45_ob54 nin0)
        have Vq46 := Vq46.keep Kq80 (ninS ne_bq46_ob54 nin0)
        show GG _ _ _ _ _ _ _ T80 (mkF m 255 #[.val (.int p0), .val (.int p1), .val (.int p2), .val (.int p3), .val (.int p4), .val (.ref ob1), .val (.ref ob17), .val (.ref ob33), .val (.ref ob45), .val (.int x48), .val (.int x52), .val (.int x53), .val (.ref ob54), .unset] [])
        refine own_go (fun _ => XS.iload X80.here hx rfl (hb hby at_255) rfl) ?_
        show GG _ _ _ _ _ _ _ T80 (mkF m 257 #[.val (.int p0), .val (.int p1), .val (.int p2), .val (.int p3), .val (.int p4), .val (.ref ob1), .val (.ref ob17), .val (.ref ob33), .val (.ref ob45), .val (.int x48), .val (.int x52), .val (.int x53), .val (.ref ob54), .unset] [(.int x52)])
        refine own_go (fun _ => XS.iload X80.here hx rfl (hb hby at_257) rfl) ?_
        show GG _ _ _ _ _ _ _ T80 (mkF m 259 #[.val (.int p0), .val (.int p1), .val (.int p2), .val (.int p3), .val (.int p4), .val (.ref ob1), .val (.ref ob17), .val (.ref ob33), .val (.ref ob45), .val (.int x48), .val (.int x52), .val (.int x53), .val (.ref ob54), .unset] [(.int x48), (.int x52)])
        refine own_go (fun _ => XS.isub X80.here hx rfl (hb hby at_259) rfl) ?_
        show GG _ _ _ _ _ _ _ T80 (mkF m 260 #[.val (.int p0), .val (.int p1), .val (.int p2), .val (.int p3), .val (.int p4), .val (.ref ob1), .val (.ref ob17), .val (.ref ob33), .val (.ref ob45), .val (.int x48), .val (.int x52), .val (.int x53), .val (.ref ob54), .unset] [(.int (x52 - x48))])
        have cx81 := c_isub x52 x48
        generalize hx81 : (x52 - x48) = x81 at cx81 ⊢
        have rx81 := rng32 x81
        have dx81 : x81.toInt = x52.toInt - x48.toInt := by omega
        clear cx81
        refine own_go (fun _ => XS.istore X80.here hx rfl (hb hby at_260) rfl (l' := #[.val (.int p0), .val (.int p1), .val (.int p2), .val (.int p3), .val (.int p4), .val (.ref ob1), .val (.ref ob17), .val (.ref ob33), .val (.ref ob45), .val (.int x48), .val (.int x52), .val (.int x53), .val (.ref ob54), .val (.int x81)]) rfl) ?_
        show GG _ _ _ _ _ _ _ T80 (mkF m 262 #[.val (.int p0), .val (.int p1), .val (.int p2), .val (.int p3), .val (.int p4), .val (.ref ob1), .val (.ref ob17), .val (.ref ob33), .val (.ref ob45), .val (.int x48), .val (.int x52), .val (.int x53), .val (.ref ob54), .val (.int x81)] [])
        refine own_go (fun _ => XS.aload X80.here hx rfl (hb hby at_262) rfl rfl) ?_
        show GG _ _ _ _ _ _ _ T80 (mkF m 264 #[.val (.int p0), .val (.int p1), .val (.int p2), .val (.int p3), .val (.int p4), .val (.ref ob1), .val (.ref ob17), .val (.ref ob33), .val (.ref ob45), .val (.int x48), .val (.int x52), .val (.int x53), .val (.ref ob54), .val (.int x81)] [(.ref ob54)])
        refine own_callV X80 hx hZ (y := (⟨"com/example/breakwater/breakwater/io/LineText", "length", "()I"⟩ : MethodName)) (z := (⟨"com/example/breakwater/breakwater/io/LineText", "length", "()I"⟩ : MethodName)) 0 hown (hw _ (List.mem_of_getElem? (i := 66) rfl)) (hw _ (List.mem_of_getElem? (i := 67) rfl)) (notFace_of_selects (args := #[]) (mvT hZ (hw _ (List.mem_of_getElem? (i := 69) rfl)))) (hw _ (List.mem_of_getElem? (i := 69) rfl)) (hw _ (List.mem_of_getElem? (i := 68) rfl)) (hw _ (List.mem_of_getElem? (i := 33) rfl)) (hw _ (List.mem_of_getElem? (i := 70) rfl)) (by decide) (a := ob54) (argsL := []) (rest := []) (rm12 l Z a0 hw [] ob54 x48 x52 T80.heap n0 (Nat.le_trans Z0 K0.1) Ffromq80 Ftoq80) (by decide) (by decide) (by decide) (by decide) Eq80 (g := (mkF m 264 #[.val (.int p0), .val (.int p1), .val (.int p2), .val (.int p3), .val (.int p4), .val (.ref ob1), .val (.ref ob17), .val (.ref ob33), .val (.ref ob45), .val (.int x48), .val (.int x52), .val (.int x53), .val (.ref ob54), .val (.int x81)] [(.ref ob54)])) rfl (by rw [hml]; rfl) (lenOf pd___I_154 rfl) rfl (by show 2 * 0 + _ ≤ _; exact Nat.le_of_eq rfl) (hb hby at_264) rfl ?_
        rintro v82 T82 L82 X82 ⟨rfl, N82q, hh82⟩
        have N82 := Fr.app N80 N82q
        show GG _ _ _ _ _ _ _ T82 (mkF m 267 #[.val (.int p0), .val (.int p1), .val (.int p2), .val (.int p3), .val (.int p4), .val (.ref ob1), .val (.ref ob17), .val (.ref ob33), .val (.ref ob45), .val (.int x48), .val (.int x52), .val (.int x53), .val (.ref ob54), .val (.int x81)] [(.int (x52 - x48))])
        refine own_go (fun _ => XS.iload X82.here hx rfl (hb hby at_267) rfl) ?_
        show GG _ _ _ _ _ _ _ T82 (mkF m 269 #[.val (.int p0), .val (.int p1), .val (.int p2), .val (.int p3), .val (.int p4), .val (.ref ob1), .val (.ref ob17), .val (.ref ob33), .val (.ref ob45), .val (.int x48), .val (.int x52), .val (.int x53), .val (.ref ob54), .val (.int x81)] [(.int x81), (.int (x52 - x48))])
        have hc269 : (x52 - x48) = x81 := hx81
        refine own_go (fun _ => XS.icmpNo X82.here hx rfl (hb hby at_269) rfl (teq hc269).2) ?_
        show GG _ _ _ _ _ _ _ T82 (mkF m 272 #[.val (.int p0), .val (.int p1), .val (.int p2), .val (.int p3), .val (.int p4), .val (.ref ob1), .val (.ref ob17), .val (.ref ob33), .val (.ref ob45), .val (.int x48), .val (.int x52), .val (.int x53), .val (.ref ob54), .val (.int x81)] [])
        refine own_go (fun _ => XS.aload X82.here hx rfl (hb hby at_272) rfl rfl) ?_
        show GG _ _ _ _ _ _ _ T82 (mkF m 274 #[.val (.int p0), .val (.int p1), .val (.int p2), .val (.int p3), .val (.int p4), .val (.ref ob1), .val (.ref ob17), .val (.ref ob33), .val (.ref ob45), .val (.int x48), .val (.int x52), .val (.int x53), .val (.ref ob54), .val (.int x81)] [(.ref ob54)])
        refine own_go (fun _ => XS.aload X82.here hx rfl (hb hby at_274) rfl rfl) ?_
        show GG _ _ _ _ _ _ _ T82 (mkF m 276 #[.val (.int p0), .val (.int p1), .val (.int p2), .val (.int p3), .val (.int p4), .val (.ref ob1), .val (.ref ob17), .val (.ref ob33), .val (.ref ob45), .val (.int x48), .val (.int x52), .val (.int x53), .val (.ref ob54), .val (.int x81)] [(.ref ob1), (.ref ob54)])
        refine own_go (fun _ => XS.iload X82.here hx rfl (hb hby at_276) rfl) ?_
        show GG _ _ _ _ _ _ _ T82 (mkF m 278 #[.val (.int p0), .val (.int p1), .val (.int p2), .val (.int p3), .val (.int p4), .val (.ref ob1), .val (.ref ob17), .val (.ref ob33), .val (.ref ob45), .val (.int x48), .val (.int x52), .val (.int x53), .val (.ref ob54), .val (.int x81)] [(.int x48), (.ref ob1), (.ref ob54)])
        refine own_go (fun _ => XS.iload X82.here hx rfl (hb hby at_278) rfl) ?_
        show GG _ _ _ _ _ _ _ T82 (mkF m 280 #[.val (.int p0), .val (.int p1), .val (.int p2), .val (.int p3), .val (.int p4), .val (.ref ob1), .val (.ref ob17), .val (.ref ob33), .val (.ref ob45), .val (.int x48), .val (.int x52), .val (.int x53), .val (.ref ob54), .val (.int x81)] [(.int x81), (.int x48), (.ref ob1), (.ref ob54)])
        refine own_go (fun _ => XS.iconst X82.here hx rfl (hb hby at_280)) ?_
        show GG _ _ _ _ _ _ _ T82 (mkF m 281 #[.val (.int p0), .val (.int p1), .val (.int p2), .val (.int p3), .val (.int p4), .val (.ref ob1), .val (.ref ob17), .val (.ref ob33), .val (.ref ob45), .val (.int x48), .val (.int x52), .val (.int x53), .val (.ref ob54), .val (.int x81)] [(.int (0 : Int32)), (.int x81), (.int x48), (.ref ob1), (.ref ob54)])
        refine own_callS X82 hx hZ (y := (⟨"com/example/breakwater/breakwater/io/LineTextSetPinLaw", "at", "(Lcom/example/breakwater/breakwater/io/LineText;[BIII)Z"⟩ : MethodName)) 0 hown (hw _ (List.mem_of_getElem? (i := 71) rfl)) (hw _ (List.mem_of_getElem? (i := 72) rfl)) (hw _ (List.mem_of_getElem? (i := 73) rfl)) (hw _ (List.mem_of_getElem? (i := 74) rfl)) (by decide) (argsL := [(.ref ob54), (.ref ob1), (.int x48), (.int x81), (.int (0 : Int32))]) (rest := []) (rm13 l Z a0 hw [] ob54 ob1 x48 x81 (0 : Int32) x52 x3 x7 x11 x15 T80.heap n0 (Nat.le_trans Z0 K0.1) Eq80 Fasciiq80 Ffromq80 Ftoq80 V_ob1 (by rw [show (0 : Int32).toInt = 0 from by decide]; omega) hy0 hy1 hy2 hy3) (by decide) (by decide) (by decide) (by decide) (g := (mkF m 281 #[.val (.int p0), .val (.int p1), .val (.int p2), .val (.int p3), .val (.int p4), .val (.ref ob1), .val (.ref ob17), .val (.ref ob33), .val (.ref ob45), .val (.int x48), .val (.int x52), .val (.int x53), .val (.ref ob54), .val (.int x81)] [(.int (0 : Int32)), (.int x81), (.int x48), (.ref ob1), (.ref ob54)])) rfl (by rw [hml]; rfl) (lenOf pd__Lcom_example_breakwater_breakwater_io_L_156 rfl) rfl (by show 2 * 0 + _ ≤ _; exact Nat.le_of_eq rfl) (hb hby at_281) hh82 ?_
        rintro v83 T83 L83 X83 ⟨rfl, N83q, hh83⟩
        have N83 := Fr.app N82 N83q
        show GG _ _ _ _ _ _ _ T83 (mkF m 284 #[.val (.int p0), .val (.int p1), .val (.int p2), .val (.int p3), .val (.int p4), .val (.ref ob1), .val (.ref ob17), .val (.ref ob33), .val (.ref ob45), .val (.int x48), .val (.int x52), .val (.int x53), .val (.ref ob54), .val (.int x81)] [(.int (1 : Int32))])
        have hc284 : ¬ ((1 : Int32) = (0 : Int32)) := by decide
        refine own_go (fun _ => XS.ifNo X83.here hx rfl (hb hby at_284) rfl ((if0 _ _).trans (feq hc284).1)) ?_
        show GG _ _ _ _ _ _ _ T83 (mkF m 287 #[.val (.int p0), .val (.int p1), .val (.int p2), .val (.int p3), .val (.int p4), .val (.ref ob1), .val (.ref ob17), .val (.ref ob33), .val (.ref ob45), .val (.int x48), .val (.int x52), .val (.int x53), .val (.ref ob54), .val (.int x81)] [])
        refine own_go (fun _ => XS.aload X83.here hx rfl (hb hby at_287) rfl rfl) ?_
        show GG _ _ _ _ _ _ _ T83 (mkF m 289 #[.val (.int p0), .val (.int p1), .val (.int p2), .val (.int p3), .val (.int p4), .val (.ref ob1), .val (.ref ob17), .val (.ref ob33), .val (.ref ob45), .val (.int x48), .val (.int x52), .val (.int x53), .val (.ref ob54), .val (.int x81)] [(.ref ob54)])
        refine own_go (fun _ => XS.aload X83.here hx rfl (hb hby at_289) rfl rfl) ?_
        show GG _ _ _ _ _ _ _ T83 (mkF m 291 #[.val (.int p0), .val (.int p1), .val (.int p2), .val (.int p3), .val (.int p4), .val (.ref ob1), .val (.ref ob17), .val (.ref ob33), .val (.ref ob45), .val (.int x48), .val (.int x52), .val (.int x53), .val (.ref ob54), .val (.int x81)] [(.ref ob1), (.ref ob54)])
        refine own_go (fun _ => XS.iload X83.here hx rfl (hb hby at_291) rfl) ?_
        show GG _ _ _ _ _ _ _ T83 (mkF m 293 #[.val (.int p0), .val (.int p1), .val (.int p2), .val (.int p3), .val (.int p4), .val (.ref ob1), .val (.ref ob17), .val (.ref ob33), .val (.ref ob45), .val (.int x48), .val (.int x52), .val (.int x53), .val (.ref ob54), .val (.int x81)] [(.int x48), (.ref ob1), (.ref ob54)])
        refine own_go (fun _ => XS.iload X83.here hx rfl (hb hby at_293) rfl) ?_
        show GG _ _ _ _ _ _ _ T83 (mkF m 295 #[.val (.int p0), .val (.int p1), .val (.int p2), .val (.int p3), .val (.int p4), .val (.ref ob1), .val (.ref ob17), .val (.ref ob33), .val (.ref ob45), .val (.int x48), .val (.int x52), .val (.int x53), .val (.ref ob54), .val (.int x81)] [(.int x81), (.int x48), (.ref ob1), (.ref ob54)])
        refine own_go (fun _ => XS.iconst X83.here hx rfl (hb hby at_295)) ?_
        show GG _ _ _ _ _ _ _ T83 (mkF m 296 #[.val (.int p0), .val (.int p1), .val (.int p2), .val (.int p3), .val (.int p4), .val (.ref ob1), .val (.ref ob17), .val (.ref ob33), .val (.ref ob45), .val (.int x48), .val (.int x52), .val (.int x53), .val (.ref ob54), .val (.int x81)] [(.int (1 : Int32)), (.int x81), (.int x48), (.ref ob1), (.ref ob54)])
        refine own_callS X83 hx hZ (y := (⟨"com/example/breakwater/breakwater/io/LineTextSetPinLaw", "at", "(Lcom/example/breakwater/breakwater/io/LineText;[BIII)Z"⟩ : MethodName)) 0 hown (hw _ (List.mem_of_getElem? (i := 71) rfl)) (hw _ (List.mem_of_getElem? (i := 72) rfl)) (hw _ (List.mem_of_getElem? (i := 73) rfl)) (hw _ (List.mem_of_getElem? (i := 74) rfl)) (by decide) (argsL := [(.ref ob54), (.ref ob1), (.int x48), (.int x81), (.int (1 : Int32))]) (rest := []) (rm13 l Z a0 hw [] ob54 ob1 x48 x81 (1 : Int32) x52 x3 x7 x11 x15 T80.heap n0 (Nat.le_trans Z0 K0.1) Eq80 Fasciiq80 Ffromq80 Ftoq80 V_ob1 (by rw [show (1 : Int32).toInt = 1 from by decide]; omega) hy0 hy1 hy2 hy3) (by decide) (by decide) (by decide) (by decide) (g := (mkF m 296 #[.val (.int p0), .val (.int p1), .val (.int p2), .val (.int p3), .val (.int p4), .val (.ref ob1), .val (.ref ob17), .val (.ref ob33), .val (.ref ob45), .val (.int x48), .val (.int x52), .val (.int x53), .val (.ref ob54), .val (.int x81)] [(.int (1 : Int32)), (.int x81), (.int x48), (.ref ob1), (.ref ob54)])) rfl (by rw [hml]; rfl) (lenOf pd__Lcom_example_breakwater_breakwater_io_L_156 rfl) rfl (by show 2 * 0 + _ ≤ _; exact Nat.le_of_eq rfl) (hb hby at_296) hh83 ?_
        rintro v84 T84 L84 X84 ⟨rfl, N84q, hh84⟩
        have N84 := Fr.app N83 N84q
        show GG _ _ _ _ _ _ _ T84 (mkF m 299 #[.val (.int p0), .val (.int p1), .val (.int p2), .val (.int p3), .val (.int p4), .val (.ref ob1), .val (.ref ob17), .val (.ref ob33), .val (.ref ob45), .val (.int x48), .val (.int x52), .val (.int x53), .val (.ref ob54), .val (.int x81)] [(.int (1 : Int32))])
        have hc299 : ¬ ((1 : Int32) = (0 : Int32)) := by decide
        refine own_go (fun _ => XS.ifNo X84.here hx rfl (hb hby at_299) rfl ((if0 _ _).trans (feq hc299).1)) ?_
        show GG _ _ _ _ _ _ _ T84 (mkF m 302 #[.val (.int p0), .val (.int p1), .val (.int p2), .val (.int p3), .val (.int p4), .val (.ref ob1), .val (.ref ob17), .val (.ref ob33), .val (.ref ob45), .val (.int x48), .val (.int x52), .val (.int x53), .val (.ref ob54), .val (.int x81)] [])
        refine own_go (fun _ => XS.aload X84.here hx rfl (hb hby at_302) rfl rfl) ?_
        show GG _ _ _ _ _ _ _ T84 (mkF m 304 #[.val (.int p0), .val (.int p1), .val (.int p2), .val (.int p3), .val (.int p4), .val (.ref ob1), .val (.ref ob17), .val (.ref ob33), .val (.ref ob45), .val (.int x48), .val (.int x52), .val (.int x53), .val (.ref ob54), .val (.int x81)] [(.ref ob54)])
        refine own_go (fun _ => XS.aload X84.here hx rfl (hb hby at_304) rfl rfl) ?_
        show GG _ _ _ _ _ _ _ T84 (mkF m 306 #[.val (.int p0), .val (.int p1), .val (.int p2), .val (.int p3), .val (.int p4), .val (.ref ob1), .val (.ref ob17), .val (.ref ob33), .val (.ref ob45), .val (.int x48), .val (.int x52), .val (.int x53), .val (.ref ob54), .val (.int x81)] [(.ref ob1), (.ref ob54)])
        refine own_go (fun _ => XS.iload X84.here hx rfl (hb hby at_306) rfl) ?_
        show GG _ _ _ _ _ _ _ T84 (mkF m 308 #[.val (.int p0), .val (.int p1), .val (.int p2), .val (.int p3), .val (.int p4), .val (.ref ob1), .val (.ref ob17), .val (.ref ob33), .val (.ref ob45), .val (.int x48), .val (.int x52), .val (.int x53), .val (.ref ob54), .val (.int x81)] [(.int x48), (.ref ob1), (.ref ob54)])
        refine own_go (fun _ => XS.iload X84.here hx rfl (hb hby at_308) rfl) ?_
        show GG _ _ _ _ _ _ _ T84 (mkF m 310 #[.val (.int p0), .val (.int p1), .val (.int p2), .val (.int p3), .val (.int p4), .val (.ref ob1), .val (.ref ob17), .val (.ref ob33), .val (.ref ob45), .val (.int x48), .val (.int x52), .val (.int x53), .val (.ref ob54), .val (.int x81)] [(.int x81), (.int x48), (.ref ob1), (.ref ob54)])
        refine own_go (fun _ => XS.iconst X84.here hx rfl (hb hby at_310)) ?_
        show GG _ _ _ _ _ _ _ T84 (mkF m 311 #[.val (.int p0), .val (.int p1), .val (.int p2), .val (.int p3), .val (.int p4), .val (.ref ob1), .val (.ref ob17), .val (.ref ob33), .val (.ref ob45), .val (.int x48), .val (.int x52), .val (.int x53), .val (.ref ob54), .val (.int x81)] [(.int (2 : Int32)), (.int x81), (.int x48), (.ref ob1), (.ref ob54)])
        refine own_callS X84 hx hZ (y := (⟨"com/example/breakwater/breakwater/io/LineTextSetPinLaw", "at", "(Lcom/example/breakwater/breakwater/io/LineText;[BIII)Z"⟩ : MethodName)) 0 hown (hw _ (List.mem_of_getElem? (i := 71) rfl)) (hw _ (List.mem_of_getElem? (i := 72) rfl)) (hw _ (List.mem_of_getElem? (i := 73) rfl)) (hw _ (List.mem_of_getElem? (i := 74) rfl)) (by decide) (argsL := [(.ref ob54), (.ref ob1), (.int x48), (.int x81), (.int (2 : Int32))]) (rest := []) (rm13 l Z a0 hw [] ob54 ob1 x48 x81 (2 : Int32) x52 x3 x7 x11 x15 T80.heap n0 (Nat.le_trans Z0 K0.1) Eq80 Fasciiq80 Ffromq80 Ftoq80 V_ob1 (by rw [show (2 : Int32).toInt = 2 from by decide]; omega) hy0 hy1 hy2 hy3) (by decide) (by decide) (by decide) (by decide) (g := (mkF m 311 #[.val (.int p0), .val (.int p1), .val (.int p2), .val (.int p3), .val (.int p4), .val (.ref ob1), .val (.ref ob17), .val (.ref ob33), .val (.ref ob45), .val (.int x48), .val (.int x52), .val (.int x53), .val (.ref ob54), .val (.int x81)] [(.int (2 : Int32)), (.int x81), (.int x48), (.ref ob1), (.ref ob54)])) rfl (by rw [hml]; rfl) (lenOf pd__Lcom_example_breakwater_breakwater_io_L_156 rfl) rfl (by show 2 * 0 + _ ≤ _; exact Nat.le_of_eq rfl) (hb hby at_311) hh84 ?_
        rintro v85 T85 L85 X85 ⟨rfl, N85q, hh85⟩
        have N85 := Fr.app N84 N85q
        show GG _ _ _ _ _ _ _ T85 (mkF m 314 #[.val (.int p0), .val (.int p1), .val (.int p2), .val (.int p3), .val (.int p4), .val (.ref ob1), .val (.ref ob17), .val (.ref ob33), .val (.ref ob45), .val (.int x48), .val (.int x52), .val (.int x53), .val (.ref ob54), .val (.int x81)] [(.int (1 : Int32))])
        have hc314 : ¬ ((1 : Int32) = (0 : Int32)) := by decide
        refine own_go (fun _ => XS.ifNo X85.here hx rfl (hb hby at_314) rfl ((if0 _ _).trans (feq hc314).1)) ?_
        show GG _ _ _ _ _ _ _ T85 (mkF m 317 #[.val (.int p0), .val (.int p1), .val (.int p2), .val (.int p3), .val (.int p4), .val (.ref ob1), .val (.ref ob17), .val (.ref ob33), .val (.ref ob45), .val (.int x48), .val (.int x52), .val (.int x53), .val (.ref ob54), .val (.int x81)] [])
        refine own_go (fun _ => XS.aload X85.here hx rfl (hb hby at_317) rfl rfl) ?_
        show GG _ _ _ _ _ _ _ T85 (mkF m 319 #[.val (.int p0), .val (.int p1), .val (.int p2), .val (.int p3), .val (.int p4), .val (.ref ob1), .val (.ref ob17), .val (.ref ob33), .val (.ref ob45), .val (.int x48), .val (.int x52), .val (.int x53), .val (.ref ob54), .val (.int x81)] [(.ref ob54)])
        refine own_go (fun _ => XS.aload X85.here hx rfl (hb hby at_319) rfl rfl) ?_
        show GG _ _ _ _ _ _ _ T85 (mkF m 321 #[.val (.int p0), .val (.int p1), .val (.int p2), .val (.int p3), .val (.int p4), .val (.ref ob1), .val (.ref ob17), .val (.ref ob33), .val (.ref ob45), .val (.int x48), .val (.int x52), .val (.int x53), .val (.ref ob54), .val (.int x81)] [(.ref ob1), (.ref ob54)])
        refine own_go (fun _ => XS.iload X85.here hx rfl (hb hby at_321) rfl) ?_
        show GG _ _ _ _ _ _ _ T85 (mkF m 323 #[.val (.int p0), .val (.int p1), .val (.int p2), .val (.int p3), .val (.int p4), .val (.ref ob1), .val (.ref ob17), .val (.ref ob33), .val (.ref ob45), .val (.int x48), .val (.int x52), .val (.int x53), .val (.ref ob54), .val (.int x81)] [(.int x48), (.ref ob1), (.ref ob54)])
        refine own_go (fun _ => XS.iload X85.here hx rfl (hb hby at_323) rfl) ?_
        show GG _ _ _ _ _ _ _ T85 (mkF m 325 #[.val (.int p0), .val (.int p1), .val (.int p2), .val (.int p3), .val (.int p4), .val (.ref ob1), .val (.ref ob17), .val (.ref ob33), .val (.ref ob45), .val (.int x48), .val (.int x52), .val (.int x53), .val (.ref ob54), .val (.int x81)] [(.int x81), (.int x48), (.ref ob1), (.ref ob54)])
        refine own_go (fun _ => XS.iconst X85.here hx rfl (hb hby at_325)) ?_
        show GG _ _ _ _ _ _ _ T85 (mkF m 326 #[.val (.int p0), .val (.int p1), .val (.int p2), .val (.int p3), .val (.int p4), .val (.ref ob1), .val (.ref ob17), .val (.ref ob33), .val (.ref ob45), .val (.int x48), .val (.int x52), .val (.int x53), .val (.ref ob54), .val (.int x81)] [(.int (3 : Int32)), (.int x81), (.int x48), (.ref ob1), (.ref ob54)])
        refine own_callS X85 hx hZ (y := (⟨"com/example/breakwater/breakwater/io/LineTextSetPinLaw", "at", "(Lcom/example/breakwater/breakwater/io/LineText;[BIII)Z"⟩ : MethodName)) 0 hown (hw _ (List.mem_of_getElem? (i := 71) rfl)) (hw _ (List.mem_of_getElem? (i := 72) rfl)) (hw _ (List.mem_of_getElem? (i := 73) rfl)) (hw _ (List.mem_of_getElem? (i := 74) rfl)) (by decide) (argsL := [(.ref ob54), (.ref ob1), (.int x48), (.int x81), (.int (3 : Int32))]) (rest := []) (rm13 l Z a0 hw [] ob54 ob1 x48 x81 (3 : Int32) x52 x3 x7 x11 x15 T80.heap n0 (Nat.le_trans Z0 K0.1) Eq80 Fasciiq80 Ffromq80 Ftoq80 V_ob1 (by rw [show (3 : Int32).toInt = 3 from by decide]; omega) hy0 hy1 hy2 hy3) (by decide) (by decide) (by decide) (by decide) (g := (mkF m 326 #[.val (.int p0), .val (.int p1), .val (.int p2), .val (.int p3), .val (.int p4), .val (.ref ob1), .val (.ref ob17), .val (.ref ob33), .val (.ref ob45), .val (.int x48), .val (.int x52), .val (.int x53), .val (.ref ob54), .val (.int x81)] [(.int (3 : Int32)), (.int x81), (.int x48), (.ref ob1), (.ref ob54)])) rfl (by rw [hml]; rfl) (lenOf pd__Lcom_example_breakwater_breakwater_io_L_156 rfl) rfl (by show 2 * 0 + _ ≤ _; exact Nat.le_of_eq rfl) (hb hby at_326) hh85 ?_
        rintro v86 T86 L86 X86 ⟨rfl, N86q, hh86⟩
        have N86 := Fr.app N85 N86q
        show GG _ _ _ _ _ _ _ T86 (mkF m 329 #[.val (.int p0), .val (.int p1), .val (.int p2), .val (.int p3), .val (.int p4), .val (.ref ob1), .val (.ref ob17), .val (.ref ob33), .val (.ref ob45), .val (.int x48), .val (.int x52), .val (.int x53), .val (.ref ob54), .val (.int x81)] [(.int (1 : Int32))])
        have hc329 : ¬ ((1 : Int32) = (0 : Int32)) := by decide
        refine own_go (fun _ => XS.ifNo X86.here hx rfl (hb hby at_329) rfl ((if0 _ _).trans (feq hc329).1)) ?_
        show GG _ _ _ _ _ _ _ T86 (mkF m 332 #[.val (.int p0), .val (.int p1), .val (.int p2), .val (.int p3), .val (.int p4), .val (.ref ob1), .val (.ref ob17), .val (.ref ob33), .val (.ref ob45), .val (.int x48), .val (.int x52), .val (.int x53), .val (.ref ob54), .val (.int x81)] [])
        refine own_go (fun _ => XS.iconst X86.here hx rfl (hb hby at_332)) ?_
        show GG _ _ _ _ _ _ _ T86 (mkF m 333 #[.val (.int p0), .val (.int p1), .val (.int p2), .val (.int p3), .val (.int p4), .val (.ref ob1), .val (.ref ob17), .val (.ref ob33), .val (.ref ob45), .val (.int x48), .val (.int x52), .val (.int x53), .val (.ref ob54), .val (.int x81)] [(.int (1 : Int32))])
        refine own_go (fun _ => XS.goto X86.here hx rfl (pc0 := 333) (pc' := 337) rfl (hb hby at_333) (by decide) (by decide)) ?_
        show GG _ _ _ _ _ _ _ T86 (mkF m 337 #[.val (.int p0), .val (.int p1), .val (.int p2), .val (.int p3), .val (.int p4), .val (.ref ob1), .val (.ref ob17), .val (.ref ob33), .val (.ref ob45), .val (.int x48), .val (.int x52), .val (.int x53), .val (.ref ob54), .val (.int x81)] [(.int (1 : Int32))])
        refine own_ret X86 hx hlk (t := .boolean) (w := (.int (1 : Int32))) Bd.returns rfl (Or.inl ⟨rfl, by simp, _, rfl⟩) (hb hby at_337) (by decide) (by decide) ?_
        show Q0 Z p0 p1 p2 p3 p4 zc h0 n0 (some (.int (1 : Int32))) T86.heap _
        rw [hh86]
        exact ⟨rfl, N86⟩
set_option maxRecDepth 65536 in
set_option maxHeartbeats 40000000 in
theorem comes_1 {Post : Tables → Env → Array Value → State → Outcome → State → Prop} (hpost : ∀ tb e args s v u, (limb_1_1.after args s (.returned v) u = true ∧ limb_1_2.after args s (.returned v) u = true ∧ True) → FrameEnd s (.returned v) u (Jvm.fieldLocs frame_1_writes args s ++ Jvm.arrayLocs frame_1_arrays args s ++ Jvm.staticLocs frame_1_statics s) 24 128 → Post tb e args s (.returned v) u) :
    ArmFor flags0 classFile x code maxLocals ret World_1 tables_1 room_1 Calls_1 rest_1 Pre_1 Post := by
  intro l hfl _ _ p e ha hc hk s m args below hf hA hF happ hP
  obtain ⟨hcalls, hrest, hpre⟩ := hP
  obtain ⟨-, -, -, hnamed, -, -, -, hat⟩ := (Spec.applies_iff hf).mp happ
  obtain ⟨hg, hn⟩ := and_e (Cond.before_iff.mp (show (Jvm.Cond.and given_1 narrow_1).before args s = true from hpre))
  obtain ⟨g1, g2⟩ := and_e hg
  obtain ⟨g3, g4⟩ := and_e g2
  obtain ⟨g5, g6⟩ := and_e g4
  obtain ⟨g7, g8⟩ := and_e g6
  obtain ⟨g9, g10⟩ := and_e g8
  obtain ⟨w0, w1, w2, w3, w4, rfl⟩ : ∃ w0 w1 w2 w3 w4 : Value, args = #[w0, w1, w2, w3, w4] := by
    have hs : args.size = 5 := by simpa [Cond.value, given_1] using g1
    obtain ⟨L⟩ := args
    match L, hs with
    | [w0, w1, w2, w3, w4], _ => exact ⟨w0, w1, w2, w3, w4, rfl⟩
  have hw := fun d (hd : d ∈ tables_1) => atoms_spec (ws := Jvm.Cond.code x code maxLocals ret :: tables_1) hat d (List.mem_cons_of_mem _ hd)
  have hfit : Fit s := fun {y c} hc i hi => by
    obtain ⟨ha, rfl⟩ := Array.getElem?_eq_some_iff.mp hc
    have q := List.all_eq_true.mp ((Array.all_eq_true_iff_forall_mem.mp hF) _ (Array.getElem_mem ha)) i (List.mem_range.mpr hi)
    simpa [Array.getElem?_eq_getElem hi] using q
  obtain ⟨hsets, hown0⟩ := atoms_of _ (rest_1_c_eq ▸ (show rest_1_c.before _ s = true from hrest))
  have hr0 := Cond.before_iff.mp hown0
  obtain ⟨i0, ei0⟩ := is_v g3
  obtain rfl : w0 = (.int i0) := Option.some.inj ei0
  obtain ⟨i1, ei1⟩ := is_v g5
  obtain rfl : w1 = (.int i1) := Option.some.inj ei1
  obtain ⟨i2, ei2⟩ := is_v g7
  obtain rfl : w2 = (.int i2) := Option.some.inj ei2
  obtain ⟨i3, ei3⟩ := is_v g9
  obtain rfl : w3 = (.int i3) := Option.some.inj ei3
  obtain ⟨i4, ei4⟩ := is_v g10
  obtain rfl : w4 = (.int i4) := Option.some.inj ei4
  obtain ⟨zc, evz⟩ := is_v (Cond.before_iff.mp (hsets _ (List.mem_of_getElem? (i := 1) rfl)))
  have S_c := Sta.start evz (Or.inl (hsets _ (List.mem_of_getElem? (i := 0) rfl)))
  have hz : zc ≠ 0 := by
    intro q
    have k := (Cond.before_iff.mp (hsets _ (List.mem_of_getElem? (i := 2) rfl)))
    have k0 : (Term.int (0 : Int32)).eval #[.int i0, .int i1, .int i2, .int i3, .int i4] s none [] s = some (.int 0) := rfl
    simp [Cond.value, evz, q, k0] at k
  obtain ⟨n, o, h1, h2, h3, _, L, rfl, ⟨rfl, N⟩, hq⟩ := rm0 l s _ hw tables_1 i0 i1 i2 i3 i4 zc s.heap s.heap.size (Nat.le_refl _) (Old.start s) S_c hz p e ha hc hk s m _ below hf ((Spec.applies_iff_loose hf).mp happ).1 ⟨rfl, State.Warmed39.refl s, rfl⟩ trivial
  refine ⟨n, _, h1, h2, h3, hpost _ _ _ _ _ _ ⟨Cond.after_iff.mpr rfl, Cond.after_iff.mpr (eq_i res_at (Term.int_eval (1)) rfl), trivial⟩ ⟨hq.1, hq.2.1, (hq.2.2.sift fun y hy => Or.inr (N y hy)).mono (by decide) (by decide)⟩⟩
theorem main_1_1 : Claimed_1_1 := comes_1 fun _ _ _ _ _ _ h hF => ⟨h.1, hF⟩
theorem main_1_2 : Claimed_1_2 := comes_1 fun _ _ _ _ _ _ h hF => ⟨h.2.1, hF⟩
end Jvm.Pilot.@@N@@
namespace Jvm.Pilot.@@N@@
open Jvm Jvm.ClassFile Sem Op Lib Jvm.Free Jvm.Stand Jvm.Pilot.@@N@@.Jvm.D
/-! MADE BY PROGRAM (witnessworld.py) out of the Statement's table words and the real class files: 21 classes; the members and pool entries that the words name. The judged class is class 1, her method 2. -/
namespace start1
open Jvm.ClassFile
def u (s : String) : CpInfo := .utf8 (stringToUtf16 s)
/-- a pool by its gaps: so many unusable entries, then the entry; so many at the end -/
def gap : Nat → List CpInfo → List CpInfo
  | 0, r => r
  | n + 1, r => .unusable :: gap n r
def poolList (es : List (Nat × CpInfo)) (last : Nat) : List CpInfo := es.foldr (fun e r => gap e.1 (e.2 :: r)) (gap last [])
def pool (es : List (Nat × CpInfo)) (last : Nat) : Array CpInfo := ⟨poolList es last⟩
def fileOf (pool : Array CpInfo) (this : Nat) (attrs : Array Attribute := #[]) (ms : Array MethodInfo := #[]) (fl : Nat := 33) (sup : Nat := 0) (ifs : Array Nat := #[]) (fds : Array FieldInfo := #[]) : ClassFile where
  minorVersion := 0
  majorVersion := 65
  constantPool := pool
  accessFlags := fl
  thisClass := this
  superClass := sup
  interfaces := ifs
  fields := fds
  methods := ms
  attributes := attrs
def plain (name : String) (sup : Option ClassId) : Class where
  name := name
  kind := .ordinary
  loader := none
  accessFlags := 33
  super := sup
  interfaces := #[]
  cf := none
  fields := #[]
  methods := #[]
  instanceTypes := #[]
  staticTypes := #[]
  resolved := #[]
  callSites := []
  init := .initialized
  statics := none
  mirror := none

def pool0 : Array CpInfo := pool [(5, u "<init>"), (0, u "()V"), (1, .class_ 10), (1, u "java/lang/Object")] 113

def k0c0 : Code := { maxStack := 0, maxLocals := 1, code := object_method_1_code, exceptionTable := #[], attributes := #[] }
def k0m0 : Method := { name := "<init>", desc := "()V", sig := { parameters := [], returnType := none }, accessFlags := 1, code := some k0c0 }
/-- java/lang/Object -/
def k0 : Class := { plain "java/lang/Object" none with
  accessFlags := 33
  interfaces := #[]
  cf := some (fileOf pool0 8 #[] #[{ accessFlags := 1, nameIndex := 5, descriptorIndex := 6, attributes := #[] }] 33 0 #[] #[])
  fields := #[]
  methods := #[k0m0]
  instanceTypes := #[]
  staticTypes := #[]
  resolved := Array.replicate 124 none
  statics := none }

def pool1 : Array CpInfo := pool [(2, .class_ 4), (0, .nameAndType 5 6), (0, u "java/lang/Object"), (0, u "<init>"), (0, u "()V"), (0, .methodref 8 9), (0, .class_ 10), (0, .nameAndType 11 12), (0, u "com/example/breakwater/breakwater/io/LineText"), (0, u "charAt"), (0, u "(I)C"), (0, .class_ 14), (0, u "java/lang/String"), (0, .methodref 13 16), (0, .nameAndType 5 17), (0, u "([C)V"), (0, .integer 2147483647), (0, .methodref 8 3), (0, .methodref 8 21), (0, .nameAndType 22 23), (0, u "set"), (0, u "(Ljava/lang/String;)V"), (0, .methodref 8 25), (0, .nameAndType 22 26), (0, u "([BII)V"), (0, .methodref 8 28), (0, .nameAndType 29 30), (0, u "length"), (0, u "()I"), (0, .methodref 32 33), (0, .class_ 34), (0, .nameAndType 35 36), (0, u "com/example/breakwater/breakwater/io/LineTextSetPinLaw"), (0, u "at"), (0, u "(Lcom/example/breakwater/breakwater/io/LineText;[BIII)Z"), (3, u "law"), (0, u "(IIIII)Z")] 6

def k1m0 : Method := { name := "<init>", desc := "()V", sig := { parameters := [], returnType := none }, accessFlags := 1, code := none }
def k1c1 : Code := { maxStack := 4, maxLocals := 5, code := method_2_code, exceptionTable := #[], attributes := #[] }
def k1m1 : Method := { name := "at", desc := "(Lcom/example/breakwater/breakwater/io/LineText;[BIII)Z", sig := { parameters := [(.object "com/example/breakwater/breakwater/io/LineText"), (.array .byte), .int, .int, .int], returnType := some .boolean }, accessFlags := 10, code := some k1c1 }
def k1c2 : Code := { maxStack := 5, maxLocals := 14, code := code, exceptionTable := #[], attributes := #[] }
def k1m2 : Method := { name := "law", desc := "(IIIII)Z", sig := { parameters := [.int, .int, .int, .int, .int], returnType := some .boolean }, accessFlags := 9, code := some k1c2 }
/-- com/example/breakwater/breakwater/io/LineTextSetPinLaw -/
def k1 : Class := { plain "com/example/breakwater/breakwater/io/LineTextSetPinLaw" (some 0) with
  accessFlags := 49
  interfaces := #[]
  cf := some (fileOf pool1 32 #[] #[{ accessFlags := 1, nameIndex := 5, descriptorIndex := 6, attributes := #[] }, { accessFlags := 10, nameIndex := 35, descriptorIndex := 36, attributes := #[] }, { accessFlags := 9, nameIndex := 40, descriptorIndex := 41, attributes := #[] }] 49 2 #[] #[])
  fields := #[]
  methods := #[k1m0, k1m1, k1m2]
  instanceTypes := #[]
  staticTypes := #[]
  resolved := Array.replicate 48 none
  statics := none }

def pool2 : Array CpInfo := pool [(1, .class_ 2), (0, u "java/io/Serializable"), (0, .class_ 4), (0, u "java/lang/Object")] 2

/-- java/io/Serializable -/
def k2 : Class := { plain "java/io/Serializable" (some 0) with
  accessFlags := 1537
  interfaces := #[]
  cf := some (fileOf pool2 1 #[] #[] 1537 3 #[] #[])
  fields := #[]
  methods := #[]
  instanceTypes := #[]
  staticTypes := #[]
  resolved := Array.replicate 7 none
  statics := none }

def pool3 : Array CpInfo := pool [(1, .class_ 2), (0, u "java/lang/Comparable"), (0, .class_ 4), (0, u "java/lang/Object")] 7

/-- java/lang/Comparable -/
def k3 : Class := { plain "java/lang/Comparable" (some 0) with
  accessFlags := 1537
  interfaces := #[]
  cf := some (fileOf pool3 1 #[] #[] 1537 3 #[] #[])
  fields := #[]
  methods := #[]
  instanceTypes := #[]
  staticTypes := #[]
  resolved := Array.replicate 12 none
  statics := none }

def pool4 : Array CpInfo := pool [(2, .class_ 4), (1, u "java/lang/CharSequence"), (42, .class_ 48), (0, u "java/lang/CharSequence$1CodePointIterator"), (10, .class_ 60), (0, u "java/lang/CharSequence$1CharIterator"), (5, .class_ 67), (0, u "java/lang/Object")] 63

/-- java/lang/CharSequence -/
def k4 : Class := { plain "java/lang/CharSequence" (some 0) with
  accessFlags := 1537
  interfaces := #[]
  cf := some (fileOf pool4 2 #[.nestMembers #[47, 59]] #[] 1537 66 #[] #[])
  fields := #[]
  methods := #[]
  instanceTypes := #[]
  staticTypes := #[]
  resolved := Array.replicate 131 none
  statics := none }

def pool5 : Array CpInfo := pool [(1, .class_ 2), (0, u "java/lang/constant/Constable"), (0, .class_ 4), (0, u "java/lang/Object")] 6

/-- java/lang/constant/Constable -/
def k5 : Class := { plain "java/lang/constant/Constable" (some 0) with
  accessFlags := 1537
  interfaces := #[]
  cf := some (fileOf pool5 1 #[] #[] 1537 3 #[] #[])
  fields := #[]
  methods := #[]
  instanceTypes := #[]
  staticTypes := #[]
  resolved := Array.replicate 11 none
  statics := none }

def pool6 : Array CpInfo := pool [(1, .class_ 2), (0, u "java/lang/constant/ConstantDesc"), (0, .class_ 4), (0, u "java/lang/Object")] 32

/-- java/lang/constant/ConstantDesc -/
def k6 : Class := { plain "java/lang/constant/ConstantDesc" (some 0) with
  accessFlags := 1537
  interfaces := #[]
  cf := some (fileOf pool6 1 #[] #[] 1537 3 #[] #[])
  fields := #[]
  methods := #[]
  instanceTypes := #[]
  staticTypes := #[]
  resolved := Array.replicate 37 none
  statics := none }

def pool7 : Array CpInfo := pool [(1, .methodref 2 3), (0, .class_ 4), (0, .nameAndType 5 6), (0, u "java/lang/Object"), (0, u "<init>"), (0, u "()V"), (2, .fieldref 10 11), (0, .class_ 12), (0, .nameAndType 13 14), (0, u "java/lang/String"), (0, u "value"), (0, u "[B"), (0, .fieldref 10 16), (0, .nameAndType 17 18), (0, u "coder"), (0, u "B"), (2, u "hash"), (0, u "I"), (2, u "hashIsZero"), (0, u "Z"), (0, .methodref 10 28), (0, .nameAndType 5 29), (0, u "([CIILjava/lang/Void;)V"), (8, .fieldref 10 39), (0, .nameAndType 40 26), (0, u "COMPACT_STRINGS"), (1, .class_ 44), (1, u "java/lang/StringUTF16"), (0, u "compress"), (1, .methodref 42 48), (0, .nameAndType 49 50), (0, u "coderFromArrayLen"), (0, u "([BI)B"), (126, .methodref 42 178), (0, .nameAndType 45 179), (0, u "([CII)[B"), (154, u "()I"), (0, .methodref 10 336), (0, .nameAndType 17 337), (0, u "()B"), (169, u "length"), (67, .class_ 576), (0, u "java/lang/CharSequence"), (22, u "CASE_INSENSITIVE_ORDER"), (0, u "Ljava/util/Comparator;"), (409, u "([C)V"), (90, u "serialPersistentFields"), (0, u "[Ljava/io/ObjectStreamField;"), (0, .class_ 1104), (0, u "java/lang/String$CaseInsensitiveComparator"), (1, .class_ 1107), (0, u "java/io/Serializable"), (0, .class_ 1109), (0, u "java/lang/Comparable"), (0, .class_ 1111), (0, u "java/lang/constant/Constable"), (0, .class_ 1113), (0, u "java/lang/constant/ConstantDesc"), (2, u "serialVersionUID"), (0, u "J"), (3, u "REPL"), (0, u "C"), (2, u "LATIN1"), (1, u "UTF16")] 323

def k7m0 : Method := { name := "<init>", desc := "()V", sig := { parameters := [], returnType := none }, accessFlags := 1, code := none }
def k7c1 : Code := { maxStack := 5, maxLocals := 2, code := jdk_42_method_3_code, exceptionTable := #[], attributes := #[] }
def k7m1 : Method := { name := "<init>", desc := "([C)V", sig := { parameters := [(.array .char)], returnType := none }, accessFlags := 1, code := some k7c1 }
def k7c2 : Code := { maxStack := 2, maxLocals := 1, code := jdk_42_method_54_code, exceptionTable := #[], attributes := #[] }
def k7m2 : Method := { name := "length", desc := "()I", sig := { parameters := [], returnType := some .int }, accessFlags := 1, code := some k7c2 }
def k7c3 : Code := { maxStack := 4, maxLocals := 6, code := jdk_42_method_149_code, exceptionTable := #[], attributes := #[] }
def k7m3 : Method := { name := "<init>", desc := "([CIILjava/lang/Void;)V", sig := { parameters := [(.array .char), .int, .int, (.object "java/lang/Void")], returnType := none }, accessFlags := 2, code := some k7c3 }
def k7c4 : Code := { maxStack := 1, maxLocals := 1, code := jdk_42_method_152_code, exceptionTable := #[], attributes := #[] }
def k7m4 : Method := { name := "coder", desc := "()B", sig := { parameters := [], returnType := some .byte }, accessFlags := 0, code := some k7c4 }
/-- java/lang/String -/
def k7 : Class := { plain "java/lang/String" (some 0) with
  accessFlags := 49
  interfaces := #[2, 3, 4, 5, 6]
  cf := some (fileOf pool7 10 #[.nestMembers #[1103]] #[{ accessFlags := 1, nameIndex := 5, descriptorIndex := 6, attributes := #[] }, { accessFlags := 1, nameIndex := 5, descriptorIndex := 1010, attributes := #[] }, { accessFlags := 1, nameIndex := 507, descriptorIndex := 334, attributes := #[] }, { accessFlags := 2, nameIndex := 5, descriptorIndex := 29, attributes := #[] }, { accessFlags := 0, nameIndex := 17, descriptorIndex := 337, attributes := #[] }] 49 2 #[1106, 1108, 575, 1110, 1112] #[{ accessFlags := 18, nameIndex := 13, descriptorIndex := 14, attributes := #[] }, { accessFlags := 18, nameIndex := 17, descriptorIndex := 18, attributes := #[] }, { accessFlags := 2, nameIndex := 21, descriptorIndex := 22, attributes := #[] }, { accessFlags := 2, nameIndex := 25, descriptorIndex := 26, attributes := #[] }, { accessFlags := 26, nameIndex := 1116, descriptorIndex := 1117, attributes := #[] }, { accessFlags := 24, nameIndex := 40, descriptorIndex := 26, attributes := #[] }, { accessFlags := 26, nameIndex := 1101, descriptorIndex := 1102, attributes := #[] }, { accessFlags := 26, nameIndex := 1121, descriptorIndex := 1122, attributes := #[] }, { accessFlags := 25, nameIndex := 599, descriptorIndex := 600, attributes := #[] }, { accessFlags := 24, nameIndex := 1125, descriptorIndex := 18, attributes := #[] }, { accessFlags := 24, nameIndex := 1127, descriptorIndex := 18, attributes := #[] }])
  fields := #[{ name := "value", type := (.array .byte), accessFlags := 18, slot := 0, constantValue := 0 }, { name := "coder", type := .byte, accessFlags := 18, slot := 1, constantValue := 0 }, { name := "hash", type := .int, accessFlags := 2, slot := 2, constantValue := 0 }, { name := "hashIsZero", type := .boolean, accessFlags := 2, slot := 3, constantValue := 0 }, { name := "serialVersionUID", type := .long, accessFlags := 26, slot := 0, constantValue := 0 }, { name := "COMPACT_STRINGS", type := .boolean, accessFlags := 24, slot := 1, constantValue := 0 }, { name := "serialPersistentFields", type := (.array (.object "java/io/ObjectStreamField")), accessFlags := 26, slot := 2, constantValue := 0 }, { name := "REPL", type := .char, accessFlags := 26, slot := 3, constantValue := 0 }, { name := "CASE_INSENSITIVE_ORDER", type := (.object "java/util/Comparator"), accessFlags := 25, slot := 4, constantValue := 0 }, { name := "LATIN1", type := .byte, accessFlags := 24, slot := 5, constantValue := 0 }, { name := "UTF16", type := .byte, accessFlags := 24, slot := 6, constantValue := 0 }]
  methods := #[k7m0, k7m1, k7m2, k7m3, k7m4]
  instanceTypes := #[(.array .byte), .byte, .int, .boolean]
  staticTypes := #[.long, .boolean, (.array (.object "java/io/ObjectStreamField")), .char, (.object "java/util/Comparator"), .byte, .byte]
  resolved := Array.replicate 1451 none
  statics := some 0 }

def pool8 : Array CpInfo := pool [(6, .class_ 8), (1, u "java/lang/Object"), (0, u "<init>"), (0, u "()V"), (1, .class_ 14), (1, u "java/lang/StringUTF16"), (31, u "$assertionsDisabled"), (0, u "Z"), (13, u "HI_BYTE_SHIFT"), (0, u "I"), (2, u "LO_BYTE_SHIFT"), (49, .methodref 12 116), (0, .nameAndType 117 118), (0, u "compress"), (0, u "([CI[BII)I"), (3, u "([CII)[B"), (138, u "coderFromArrayLen"), (0, u "([BI)B"), (106, .class_ 371), (1, u "java/lang/StringUTF16$LinesSpliterator"), (58, u "MAX_LENGTH"), (196, .class_ 628), (0, u "java/lang/StringUTF16$CodePointsSpliterator"), (0, .class_ 630), (0, u "java/lang/StringUTF16$CharsSpliterator")] 4

def k8m0 : Method := { name := "<init>", desc := "()V", sig := { parameters := [], returnType := none }, accessFlags := 0, code := none }
def k8c1 : Code := { maxStack := 2, maxLocals := 2, code := jdk_52_method_15_code, exceptionTable := #[], attributes := #[] }
def k8m1 : Method := { name := "coderFromArrayLen", desc := "([BI)B", sig := { parameters := [(.array .byte), .int], returnType := some .byte }, accessFlags := 8, code := some k8c1 }
def k8c2 : Code := { maxStack := 5, maxLocals := 6, code := jdk_52_method_16_code, exceptionTable := #[], attributes := #[] }
def k8m2 : Method := { name := "compress", desc := "([CII)[B", sig := { parameters := [(.array .char), .int, .int], returnType := some (.array .byte) }, accessFlags := 9, code := some k8c2 }
def k8c3 : Code := { maxStack := 3, maxLocals := 7, code := jdk_52_method_21_code, exceptionTable := #[], attributes := #[] }
def k8m3 : Method := { name := "compress", desc := "([CI[BII)I", sig := { parameters := [(.array .char), .int, (.array .byte), .int, .int], returnType := some .int }, accessFlags := 9, code := some k8c3 }
/-- java/lang/StringUTF16 -/
def k8 : Class := { plain "java/lang/StringUTF16" (some 0) with
  accessFlags := 48
  interfaces := #[]
  cf := some (fileOf pool8 12 #[.nestMembers #[627, 629, 369]] #[{ accessFlags := 0, nameIndex := 9, descriptorIndex := 10, attributes := #[] }, { accessFlags := 8, nameIndex := 261, descriptorIndex := 262, attributes := #[] }, { accessFlags := 9, nameIndex := 117, descriptorIndex := 122, attributes := #[] }, { accessFlags := 9, nameIndex := 117, descriptorIndex := 118, attributes := #[] }] 48 6 #[] #[{ accessFlags := 26, nameIndex := 61, descriptorIndex := 62, attributes := #[] }, { accessFlags := 26, nameIndex := 65, descriptorIndex := 62, attributes := #[] }, { accessFlags := 24, nameIndex := 430, descriptorIndex := 62, attributes := #[] }, { accessFlags := 4120, nameIndex := 46, descriptorIndex := 47, attributes := #[] }])
  fields := #[{ name := "HI_BYTE_SHIFT", type := .int, accessFlags := 26, slot := 0, constantValue := 0 }, { name := "LO_BYTE_SHIFT", type := .int, accessFlags := 26, slot := 1, constantValue := 0 }, { name := "MAX_LENGTH", type := .int, accessFlags := 24, slot := 2, constantValue := 0 }, { name := "$assertionsDisabled", type := .boolean, accessFlags := 4120, slot := 3, constantValue := 0 }]
  methods := #[k8m0, k8m1, k8m2, k8m3]
  instanceTypes := #[]
  staticTypes := #[.int, .int, .int, .boolean]
  resolved := Array.replicate 635 none
  statics := none }

def pool9 : Array CpInfo := pool [(1, .methodref 2 3), (0, .class_ 4), (0, .nameAndType 5 6), (0, u "java/lang/Object"), (0, u "<init>"), (0, u "()V"), (0, .fieldref 8 9), (0, .class_ 10), (0, .nameAndType 11 12), (0, u "com/example/breakwater/breakwater/io/LineText"), (0, u "ascii"), (0, u "[B"), (0, .fieldref 8 14), (0, .nameAndType 15 16), (0, u "decoded"), (0, u "Ljava/lang/String;"), (0, .fieldref 8 18), (0, .nameAndType 19 20), (0, u "from"), (0, u "I"), (0, .fieldref 8 22), (0, .nameAndType 23 20), (0, u "to"), (0, .methodref 25 26), (0, .class_ 27), (0, .nameAndType 28 29), (0, u "java/lang/String"), (0, u "length"), (0, u "()I"), (0, .methodref 31 32), (0, .class_ 33), (0, .nameAndType 34 35), (0, u "java/util/Objects"), (0, u "checkIndex"), (0, u "(II)I"), (0, .methodref 8 37), (0, .nameAndType 38 39), (0, u "held"), (0, u "(I)C"), (7, u "charAt"), (23, .class_ 72), (0, u "java/lang/CharSequence"), (2, u "set"), (0, u "([BII)V"), (1, u "(Ljava/lang/String;)V")] 12

def k9c0 : Code := { maxStack := 1, maxLocals := 1, code := prog_44_method_1_code, exceptionTable := #[], attributes := #[] }
def k9m0 : Method := { name := "<init>", desc := "()V", sig := { parameters := [], returnType := none }, accessFlags := 0, code := some k9c0 }
def k9c1 : Code := { maxStack := 2, maxLocals := 4, code := prog_44_method_2_code, exceptionTable := #[], attributes := #[] }
def k9m1 : Method := { name := "set", desc := "([BII)V", sig := { parameters := [(.array .byte), .int, .int], returnType := none }, accessFlags := 0, code := some k9c1 }
def k9c2 : Code := { maxStack := 2, maxLocals := 2, code := prog_44_method_3_code, exceptionTable := #[], attributes := #[] }
def k9m2 : Method := { name := "set", desc := "(Ljava/lang/String;)V", sig := { parameters := [(.object "java/lang/String")], returnType := none }, accessFlags := 0, code := some k9c2 }
def k9c3 : Code := { maxStack := 2, maxLocals := 1, code := prog_44_method_4_code, exceptionTable := #[], attributes := #[] }
def k9m3 : Method := { name := "length", desc := "()I", sig := { parameters := [], returnType := some .int }, accessFlags := 1, code := some k9c3 }
def k9c4 : Code := { maxStack := 3, maxLocals := 2, code := prog_44_method_5_code, exceptionTable := #[], attributes := #[] }
def k9m4 : Method := { name := "charAt", desc := "(I)C", sig := { parameters := [.int], returnType := some .char }, accessFlags := 1, code := some k9c4 }
def k9c5 : Code := { maxStack := 2, maxLocals := 2, code := prog_44_method_7_code, exceptionTable := #[], attributes := #[] }
def k9m5 : Method := { name := "held", desc := "(I)C", sig := { parameters := [.int], returnType := some .char }, accessFlags := 2, code := some k9c5 }
/-- com/example/breakwater/breakwater/io/LineText -/
def k9 : Class := { plain "com/example/breakwater/breakwater/io/LineText" (some 0) with
  accessFlags := 48
  interfaces := #[4]
  cf := some (fileOf pool9 8 #[] #[{ accessFlags := 0, nameIndex := 5, descriptorIndex := 6, attributes := #[] }, { accessFlags := 0, nameIndex := 75, descriptorIndex := 76, attributes := #[] }, { accessFlags := 0, nameIndex := 75, descriptorIndex := 78, attributes := #[] }, { accessFlags := 1, nameIndex := 28, descriptorIndex := 29, attributes := #[] }, { accessFlags := 1, nameIndex := 47, descriptorIndex := 39, attributes := #[] }, { accessFlags := 2, nameIndex := 38, descriptorIndex := 39, attributes := #[] }] 48 2 #[71] #[{ accessFlags := 2, nameIndex := 11, descriptorIndex := 12, attributes := #[] }, { accessFlags := 2, nameIndex := 15, descriptorIndex := 16, attributes := #[] }, { accessFlags := 2, nameIndex := 19, descriptorIndex := 20, attributes := #[] }, { accessFlags := 2, nameIndex := 23, descriptorIndex := 20, attributes := #[] }])
  fields := #[{ name := "ascii", type := (.array .byte), accessFlags := 2, slot := 0, constantValue := 0 }, { name := "decoded", type := (.object "java/lang/String"), accessFlags := 2, slot := 1, constantValue := 0 }, { name := "from", type := .int, accessFlags := 2, slot := 2, constantValue := 0 }, { name := "to", type := .int, accessFlags := 2, slot := 3, constantValue := 0 }]
  methods := #[k9m0, k9m1, k9m2, k9m3, k9m4, k9m5]
  instanceTypes := #[(.array .byte), (.object "java/lang/String"), .int, .int]
  staticTypes := #[]
  resolved := Array.replicate 91 none
  statics := none }

def pool10 : Array CpInfo := pool [(2, .class_ 4), (1, u "java/lang/Object"), (0, u "<init>"), (0, u "()V"), (35, .class_ 44), (1, u "java/util/Objects"), (60, .methodref 106 107), (0, .class_ 108), (0, .nameAndType 109 110), (0, u "jdk/internal/util/Preconditions"), (0, u "checkIndex"), (0, u "(IILjava/util/function/BiFunction;)I"), (60, u "(II)I")] 12

def k10m0 : Method := { name := "<init>", desc := "()V", sig := { parameters := [], returnType := none }, accessFlags := 2, code := none }
def k10c1 : Code := { maxStack := 3, maxLocals := 2, code := jdk_31_method_17_code, exceptionTable := #[], attributes := #[] }
def k10m1 : Method := { name := "checkIndex", desc := "(II)I", sig := { parameters := [.int, .int], returnType := some .int }, accessFlags := 9, code := some k10c1 }
/-- java/util/Objects -/
def k10 : Class := { plain "java/util/Objects" (some 0) with
  accessFlags := 49
  interfaces := #[]
  cf := some (fileOf pool10 42 #[] #[{ accessFlags := 2, nameIndex := 5, descriptorIndex := 6, attributes := #[] }, { accessFlags := 9, nameIndex := 109, descriptorIndex := 171, attributes := #[] }] 49 2 #[] #[])
  fields := #[]
  methods := #[k10m0, k10m1]
  instanceTypes := #[]
  staticTypes := #[]
  resolved := Array.replicate 184 none
  statics := none }

def pool11 : Array CpInfo := pool [(2, .class_ 4), (1, u "java/lang/Object"), (0, u "<init>"), (0, u "()V"), (17, .class_ 26), (1, u "jdk/internal/util/Preconditions"), (6, u "checkIndex"), (21, .class_ 56), (0, u "jdk/internal/util/Preconditions$4"), (57, .class_ 115), (0, u "jdk/internal/util/Preconditions$1"), (7, u "SIOOBE_FORMATTER"), (0, u "Ljava/util/function/BiFunction;"), (0, .class_ 126), (0, u "jdk/internal/util/Preconditions$2"), (3, u "AIOOBE_FORMATTER"), (0, .class_ 132), (0, u "jdk/internal/util/Preconditions$3"), (3, u "IOOBE_FORMATTER"), (41, u "(IILjava/util/function/BiFunction;)I")] 15

def k11m0 : Method := { name := "<init>", desc := "()V", sig := { parameters := [], returnType := none }, accessFlags := 1, code := none }
def k11c1 : Code := { maxStack := 3, maxLocals := 3, code := jdk_41_method_11_code, exceptionTable := #[], attributes := #[] }
def k11m1 : Method := { name := "checkIndex", desc := "(IILjava/util/function/BiFunction;)I", sig := { parameters := [.int, .int, (.object "java/util/function/BiFunction")], returnType := some .int }, accessFlags := 9, code := some k11c1 }
/-- jdk/internal/util/Preconditions -/
def k11 : Class := { plain "jdk/internal/util/Preconditions" (some 0) with
  accessFlags := 33
  interfaces := #[]
  cf := some (fileOf pool11 24 #[.nestMembers #[55, 131, 125, 114]] #[{ accessFlags := 1, nameIndex := 5, descriptorIndex := 6, attributes := #[] }, { accessFlags := 9, nameIndex := 33, descriptorIndex := 178, attributes := #[] }] 33 2 #[] #[{ accessFlags := 25, nameIndex := 123, descriptorIndex := 124, attributes := #[] }, { accessFlags := 25, nameIndex := 130, descriptorIndex := 124, attributes := #[] }, { accessFlags := 25, nameIndex := 136, descriptorIndex := 124, attributes := #[] }])
  fields := #[{ name := "SIOOBE_FORMATTER", type := (.object "java/util/function/BiFunction"), accessFlags := 25, slot := 0, constantValue := 0 }, { name := "AIOOBE_FORMATTER", type := (.object "java/util/function/BiFunction"), accessFlags := 25, slot := 1, constantValue := 0 }, { name := "IOOBE_FORMATTER", type := (.object "java/util/function/BiFunction"), accessFlags := 25, slot := 2, constantValue := 0 }]
  methods := #[k11m0, k11m1]
  instanceTypes := #[]
  staticTypes := #[(.object "java/util/function/BiFunction"), (.object "java/util/function/BiFunction"), (.object "java/util/function/BiFunction")]
  resolved := Array.replicate 194 none
  statics := some 1 }

def pool12 : Array CpInfo := pool [(4, .class_ 6), (1, u "java/lang/Object"), (0, u "<init>"), (0, u "()V"), (5, .class_ 16), (1, u "java/lang/StringLatin1"), (104, u "$assertionsDisabled"), (0, u "Z"), (98, .class_ 223), (1, u "java/lang/StringLatin1$LinesSpliterator"), (166, .class_ 391), (0, u "java/lang/StringLatin1$CharsSpliterator")] 3

def k12m0 : Method := { name := "<init>", desc := "()V", sig := { parameters := [], returnType := none }, accessFlags := 0, code := none }
/-- java/lang/StringLatin1 -/
def k12 : Class := { plain "java/lang/StringLatin1" (some 0) with
  accessFlags := 48
  interfaces := #[]
  cf := some (fileOf pool12 14 #[.nestMembers #[390, 221]] #[{ accessFlags := 0, nameIndex := 7, descriptorIndex := 8, attributes := #[] }] 48 4 #[] #[{ accessFlags := 4120, nameIndex := 121, descriptorIndex := 122, attributes := #[] }])
  fields := #[{ name := "$assertionsDisabled", type := .boolean, accessFlags := 4120, slot := 0, constantValue := 0 }]
  methods := #[k12m0]
  instanceTypes := #[]
  staticTypes := #[.boolean]
  resolved := Array.replicate 395 none
  statics := none }

def pool13 : Array CpInfo := pool [(9, u "<init>"), (6, .class_ 18), (1, u "java/lang/Object"), (0, u "()V"), (1, .class_ 23), (1, u "jdk/internal/util/ArraysSupport"), (0, u "LOG2_ARRAY_LONG_INDEX_SCALE"), (0, u "I"), (2, u "U"), (0, u "Ljdk/internal/misc/Unsafe;"), (8, u "BIG_ENDIAN"), (0, u "Z"), (8, u "LOG2_BYTE_BIT_SIZE"), (4, u "LOG2_ARRAY_INT_INDEX_SCALE"), (54, u "JLA"), (0, u "Ljdk/internal/access/JavaLangAccess;"), (11, u "LOG2_ARRAY_BOOLEAN_INDEX_SCALE"), (9, u "LOG2_ARRAY_BYTE_INDEX_SCALE"), (5, u "LOG2_ARRAY_CHAR_INDEX_SCALE"), (5, u "LOG2_ARRAY_SHORT_INDEX_SCALE"), (18, u "LOG2_ARRAY_FLOAT_INDEX_SCALE"), (24, u "LOG2_ARRAY_DOUBLE_INDEX_SCALE"), (89, u "T_BOOLEAN"), (2, u "T_CHAR"), (1, u "T_FLOAT"), (1, u "T_DOUBLE"), (1, u "T_BYTE"), (1, u "T_SHORT"), (1, u "T_INT"), (1, u "T_LONG"), (1, u "SOFT_MAX_ARRAY_LENGTH")] 83

def k13m0 : Method := { name := "<init>", desc := "()V", sig := { parameters := [], returnType := none }, accessFlags := 2, code := none }
/-- jdk/internal/util/ArraysSupport -/
def k13 : Class := { plain "jdk/internal/util/ArraysSupport" (some 0) with
  accessFlags := 33
  interfaces := #[]
  cf := some (fileOf pool13 21 #[] #[{ accessFlags := 2, nameIndex := 9, descriptorIndex := 19, attributes := #[] }] 33 16 #[] #[{ accessFlags := 24, nameIndex := 28, descriptorIndex := 29, attributes := #[] }, { accessFlags := 26, nameIndex := 38, descriptorIndex := 39, attributes := #[] }, { accessFlags := 25, nameIndex := 121, descriptorIndex := 25, attributes := #[] }, { accessFlags := 25, nameIndex := 131, descriptorIndex := 25, attributes := #[] }, { accessFlags := 25, nameIndex := 137, descriptorIndex := 25, attributes := #[] }, { accessFlags := 25, nameIndex := 143, descriptorIndex := 25, attributes := #[] }, { accessFlags := 25, nameIndex := 53, descriptorIndex := 25, attributes := #[] }, { accessFlags := 25, nameIndex := 24, descriptorIndex := 25, attributes := #[] }, { accessFlags := 25, nameIndex := 162, descriptorIndex := 25, attributes := #[] }, { accessFlags := 25, nameIndex := 187, descriptorIndex := 25, attributes := #[] }, { accessFlags := 26, nameIndex := 48, descriptorIndex := 25, attributes := #[] }, { accessFlags := 25, nameIndex := 277, descriptorIndex := 25, attributes := #[] }, { accessFlags := 25, nameIndex := 280, descriptorIndex := 25, attributes := #[] }, { accessFlags := 25, nameIndex := 282, descriptorIndex := 25, attributes := #[] }, { accessFlags := 25, nameIndex := 284, descriptorIndex := 25, attributes := #[] }, { accessFlags := 25, nameIndex := 286, descriptorIndex := 25, attributes := #[] }, { accessFlags := 25, nameIndex := 288, descriptorIndex := 25, attributes := #[] }, { accessFlags := 25, nameIndex := 290, descriptorIndex := 25, attributes := #[] }, { accessFlags := 25, nameIndex := 292, descriptorIndex := 25, attributes := #[] }, { accessFlags := 26, nameIndex := 108, descriptorIndex := 109, attributes := #[] }, { accessFlags := 25, nameIndex := 294, descriptorIndex := 25, attributes := #[] }])
  fields := #[{ name := "U", type := (.object "jdk/internal/misc/Unsafe"), accessFlags := 24, slot := 0, constantValue := 0 }, { name := "BIG_ENDIAN", type := .boolean, accessFlags := 26, slot := 1, constantValue := 0 }, { name := "LOG2_ARRAY_BOOLEAN_INDEX_SCALE", type := .int, accessFlags := 25, slot := 2, constantValue := 0 }, { name := "LOG2_ARRAY_BYTE_INDEX_SCALE", type := .int, accessFlags := 25, slot := 3, constantValue := 0 }, { name := "LOG2_ARRAY_CHAR_INDEX_SCALE", type := .int, accessFlags := 25, slot := 4, constantValue := 0 }, { name := "LOG2_ARRAY_SHORT_INDEX_SCALE", type := .int, accessFlags := 25, slot := 5, constantValue := 0 }, { name := "LOG2_ARRAY_INT_INDEX_SCALE", type := .int, accessFlags := 25, slot := 6, constantValue := 0 }, { name := "LOG2_ARRAY_LONG_INDEX_SCALE", type := .int, accessFlags := 25, slot := 7, constantValue := 0 }, { name := "LOG2_ARRAY_FLOAT_INDEX_SCALE", type := .int, accessFlags := 25, slot := 8, constantValue := 0 }, { name := "LOG2_ARRAY_DOUBLE_INDEX_SCALE", type := .int, accessFlags := 25, slot := 9, constantValue := 0 }, { name := "LOG2_BYTE_BIT_SIZE", type := .int, accessFlags := 26, slot := 10, constantValue := 0 }, { name := "T_BOOLEAN", type := .int, accessFlags := 25, slot := 11, constantValue := 0 }, { name := "T_CHAR", type := .int, accessFlags := 25, slot := 12, constantValue := 0 }, { name := "T_FLOAT", type := .int, accessFlags := 25, slot := 13, constantValue := 0 }, { name := "T_DOUBLE", type := .int, accessFlags := 25, slot := 14, constantValue := 0 }, { name := "T_BYTE", type := .int, accessFlags := 25, slot := 15, constantValue := 0 }, { name := "T_SHORT", type := .int, accessFlags := 25, slot := 16, constantValue := 0 }, { name := "T_INT", type := .int, accessFlags := 25, slot := 17, constantValue := 0 }, { name := "T_LONG", type := .int, accessFlags := 25, slot := 18, constantValue := 0 }, { name := "JLA", type := (.object "jdk/internal/access/JavaLangAccess"), accessFlags := 26, slot := 19, constantValue := 0 }, { name := "SOFT_MAX_ARRAY_LENGTH", type := .int, accessFlags := 25, slot := 20, constantValue := 0 }]
  methods := #[k13m0]
  instanceTypes := #[]
  staticTypes := #[(.object "jdk/internal/misc/Unsafe"), .boolean, .int, .int, .int, .int, .int, .int, .int, .int, .int, .int, .int, .int, .int, .int, .int, .int, .int, (.object "jdk/internal/access/JavaLangAccess"), .int]
  resolved := Array.replicate 378 none
  statics := none }

def pool14 : Array CpInfo := pool [(1, u "java/lang/Cloneable"), (0, .class_ 1), (0, u "java/lang/Object"), (0, .class_ 3)] 3

/-- java/lang/Cloneable -/
def k14 : Class := { plain "java/lang/Cloneable" (some 0) with
  accessFlags := 1537
  interfaces := #[]
  cf := some (fileOf pool14 2 #[] #[] 1537 4 #[] #[])
  fields := #[]
  methods := #[]
  instanceTypes := #[]
  staticTypes := #[]
  resolved := Array.replicate 8 none
  statics := none }

/-- the primitive byte -/
def k15 : Class := { plain "byte" none with kind := .primitive 'B', accessFlags := 0x411 }
/-- [B -/
def k16 : Class := { plain "[B" (some 0) with kind := .array 15 .byte, interfaces := #[14, 2], accessFlags := 1041 }

/-- the primitive char -/
def k17 : Class := { plain "char" none with kind := .primitive 'C', accessFlags := 0x411 }
/-- [C -/
def k18 : Class := { plain "[C" (some 0) with kind := .array 17 .char, interfaces := #[14, 2], accessFlags := 1041 }

/-- the primitive int -/
def k19 : Class := { plain "int" none with kind := .primitive 'I', accessFlags := 0x411 }
/-- [I -/
def k20 : Class := { plain "[I" (some 0) with kind := .array 19 .int, interfaces := #[14, 2], accessFlags := 1041 }

def heap : Heap := #[{ cls := 7, slots := #[.long 0, .int 1, .null, .int 0, .null, .int 0, .int 0], vm := .statics 7 },
  { cls := 11, slots := #[.null, .null, .null], vm := .statics 11 }]
def classes : Array Class := #[k0, k1, k2, k3, k4, k5, k6, k7, k8, k9, k10, k11, k12, k13, k14, k15, k16, k17, k18, k19, k20]
def interned : List (Array UInt16 × Addr) := []
def slotsUsed : Nat := 10
def theMethod : MethodId := ⟨1, 2⟩
def args0 : Array Value := #[.int 77, .int 1, .int 2, .int 3, .int 99]
def aboutOver (below : List Frame) : State where
  vm := { classes := classes, interned := interned.toArray }
  heap := heap
  slotsUsed := slotsUsed
  threads := #[{ frames := .invoking theMethod args0 :: below }]
def below0 : List Frame := [.native { method := ⟨0, 0⟩, args := #[] }]
def about1 : State := aboutOver below0
def p0 : Program := .bare "" "" ""
def e0 : Env := launch0.env 0 0 0
theorem w_frames : about1.frames = Frame.invoking theMethod args0 :: below0 := rfl
set_option maxRecDepth 65536 in
theorem w_args : argsFit about1.vm theMethod args0 = true := by decide +kernel
set_option maxRecDepth 65536 in
theorem w_heap : heapFits about1 = true := by decide +kernel
set_option maxRecDepth 65536 in
theorem w_runnable : about1.curStatus? = some .runnable := by decide +kernel
set_option maxRecDepth 65536 in
theorem w_alone : about1.alone = true := by decide +kernel
set_option maxRecDepth 65536 in
theorem w_named : about1.methodNamed? x = some theMethod := by decide +kernel
set_option maxRecDepth 65536 in
theorem w_hears : about1.hears theMethod below0 = true := by decide +kernel
set_option maxRecDepth 65536 in
theorem w_ripe : about1.ripe theMethod args0 below0 = true := by decide +kernel
theorem w_running : about1.status = .running := rfl
set_option maxRecDepth 65536 in
theorem w_room : about1.hasRoom e0.platform room_1 = true :=
  launch0.hasRoom_least _ room_1 (by decide +kernel) (by decide +kernel) (by decide +kernel) (by decide +kernel) (by decide +kernel) (by decide +kernel)
theorem allAtoms_all (ts : List Jvm.Cond) (a : Array Jvm.Value) (st : Jvm.State) : (allAtoms ts).before a st = ts.all (fun c => c.before a st) := by
  induction ts with
  | nil => rfl
  | cons c t ih =>
    show (Jvm.Cond.and c (allAtoms t)).before a st = _
    rw [Jvm.Cond.before_and, ih, List.all_cons]
def words1 : List Jvm.Cond := Jvm.Cond.code x code maxLocals ret :: tables_1
/-- a 'code' word, met by the world's own term for the bytes: nothing is compared byte by byte -/
theorem code_word {y : MethodName} {bytes : ByteArray} {mx : Nat} {rt : Option FieldType} {a : Array Value} {s : State} {m : MethodId} {meth : Method} {c : Code} (h1 : s.methodNamed? y = some m) (h2 : s.vm.method? m = some meth) (h3 : meth.code = some c) (h4 : c.code = bytes)
    (h5 : (c.maxLocals == mx && c.exceptionTable.isEmpty && decide (c.maxStack ≤ mostOperands) && decide (meth.sig.returnType = rt) && !meth.locks && decide (parseMethodDescriptor y.desc = some meth.sig)) = true) : (Jvm.Cond.code y bytes mx rt).before a s = true := by
  simp only [Bool.and_eq_true, beq_iff_eq, Bool.not_eq_true', decide_eq_true_eq] at h5
  obtain ⟨⟨⟨⟨⟨g1, g2⟩, g3⟩, g4⟩, g5⟩, g6⟩ := h5
  simp [Cond.before, Cond.holds, Cond.value, h1, h2, h3, h4, g1, g2, g3, g4, g5, g6]
def isCode : Jvm.Cond → Bool
  | .code _ _ _ _ => true
  | _ => false
theorem all_split {L : List Jvm.Cond} {P : Jvm.Cond → Bool} (h1 : L.all (fun c => isCode c || P c) = true) (h2 : ∀ c ∈ L.filter isCode, P c = true) : L.all P = true := by
  refine List.all_eq_true.mpr fun c hc => ?_
  have h := List.all_eq_true.mp h1 c hc
  rcases Bool.eq_false_or_eq_true (isCode c) with hi | hi
  · exact h2 c (List.mem_filter.mpr ⟨hc, hi⟩)
  · simpa [hi] using h
set_option maxRecDepth 65536 in
theorem w_c0 : (Jvm.Cond.code x code maxLocals ret).before args0 about1 = true := code_word (m := ⟨1, 2⟩) (meth := k1m2) (c := k1c2) (by decide +kernel) rfl rfl rfl (by decide +kernel)
set_option maxRecDepth 65536 in
theorem w_c1 : (Jvm.Cond.code ({ cls := "java/lang/String", name := "<init>", desc := "([C)V" } : Jvm.MethodName) jdk_42_method_3_code (2 : Nat) (Option.none : Option Jvm.ClassFile.FieldType)).before args0 about1 = true := code_word (m := ⟨7, 1⟩) (meth := k7m1) (c := k7c1) (by decide +kernel) rfl rfl rfl (by decide +kernel)
set_option maxRecDepth 65536 in
theorem w_c2 : (Jvm.Cond.code ({ cls := "java/lang/String", name := "<init>", desc := "([CIILjava/lang/Void;)V" } : Jvm.MethodName) jdk_42_method_149_code (6 : Nat) (Option.none : Option Jvm.ClassFile.FieldType)).before args0 about1 = true := code_word (m := ⟨7, 3⟩) (meth := k7m3) (c := k7c3) (by decide +kernel) rfl rfl rfl (by decide +kernel)
set_option maxRecDepth 65536 in
theorem w_c3 : (Jvm.Cond.code ({ cls := "java/lang/Object", name := "<init>", desc := "()V" } : Jvm.MethodName) object_method_1_code (1 : Nat) (Option.none : Option Jvm.ClassFile.FieldType)).before args0 about1 = true := code_word (m := ⟨0, 0⟩) (meth := k0m0) (c := k0c0) (by decide +kernel) rfl rfl rfl (by decide +kernel)
set_option maxRecDepth 65536 in
theorem w_c4 : (Jvm.Cond.code ({ cls := "java/lang/StringUTF16", name := "compress", desc := "([CII)[B" } : Jvm.MethodName) jdk_52_method_16_code (6 : Nat) (Option.some (Jvm.ClassFile.FieldType.array Jvm.ClassFile.FieldType.byte))).before args0 about1 = true := code_word (m := ⟨8, 2⟩) (meth := k8m2) (c := k8c2) (by decide +kernel) rfl rfl rfl (by decide +kernel)
set_option maxRecDepth 65536 in
theorem w_c5 : (Jvm.Cond.code ({ cls := "java/lang/StringUTF16", name := "compress", desc := "([CI[BII)I" } : Jvm.MethodName) jdk_52_method_21_code (7 : Nat) (Option.some Jvm.ClassFile.FieldType.int)).before args0 about1 = true := code_word (m := ⟨8, 3⟩) (meth := k8m3) (c := k8c3) (by decide +kernel) rfl rfl rfl (by decide +kernel)
set_option maxRecDepth 65536 in
theorem w_c6 : (Jvm.Cond.code ({ cls := "java/lang/StringUTF16", name := "coderFromArrayLen", desc := "([BI)B" } : Jvm.MethodName) jdk_52_method_15_code (2 : Nat) (Option.some Jvm.ClassFile.FieldType.byte)).before args0 about1 = true := code_word (m := ⟨8, 1⟩) (meth := k8m1) (c := k8c1) (by decide +kernel) rfl rfl rfl (by decide +kernel)
set_option maxRecDepth 65536 in
theorem w_c7 : (Jvm.Cond.code ({ cls := "com/example/breakwater/breakwater/io/LineText", name := "<init>", desc := "()V" } : Jvm.MethodName) prog_44_method_1_code (1 : Nat) (Option.none : Option Jvm.ClassFile.FieldType)).before args0 about1 = true := code_word (m := ⟨9, 0⟩) (meth := k9m0) (c := k9c0) (by decide +kernel) rfl rfl rfl (by decide +kernel)
set_option maxRecDepth 65536 in
theorem w_c8 : (Jvm.Cond.code ({ cls := "com/example/breakwater/breakwater/io/LineText", name := "set", desc := "(Ljava/lang/String;)V" } : Jvm.MethodName) prog_44_method_3_code (2 : Nat) (Option.none : Option Jvm.ClassFile.FieldType)).before args0 about1 = true := code_word (m := ⟨9, 2⟩) (meth := k9m2) (c := k9c2) (by decide +kernel) rfl rfl rfl (by decide +kernel)
set_option maxRecDepth 65536 in
theorem w_c9 : (Jvm.Cond.code ({ cls := "java/lang/String", name := "length", desc := "()I" } : Jvm.MethodName) jdk_42_method_54_code (1 : Nat) (Option.some Jvm.ClassFile.FieldType.int)).before args0 about1 = true := code_word (m := ⟨7, 2⟩) (meth := k7m2) (c := k7c2) (by decide +kernel) rfl rfl rfl (by decide +kernel)
set_option maxRecDepth 65536 in
theorem w_c10 : (Jvm.Cond.code ({ cls := "java/lang/String", name := "coder", desc := "()B" } : Jvm.MethodName) jdk_42_method_152_code (1 : Nat) (Option.some Jvm.ClassFile.FieldType.byte)).before args0 about1 = true := code_word (m := ⟨7, 4⟩) (meth := k7m4) (c := k7c4) (by decide +kernel) rfl rfl rfl (by decide +kernel)
set_option maxRecDepth 65536 in
theorem w_c11 : (Jvm.Cond.code ({ cls := "com/example/breakwater/breakwater/io/LineText", name := "set", desc := "([BII)V" } : Jvm.MethodName) prog_44_method_2_code (4 : Nat) (Option.none : Option Jvm.ClassFile.FieldType)).before args0 about1 = true := code_word (m := ⟨9, 1⟩) (meth := k9m1) (c := k9c1) (by decide +kernel) rfl rfl rfl (by decide +kernel)
set_option maxRecDepth 65536 in
theorem w_c12 : (Jvm.Cond.code ({ cls := "com/example/breakwater/breakwater/io/LineText", name := "length", desc := "()I" } : Jvm.MethodName) prog_44_method_4_code (1 : Nat) (Option.some Jvm.ClassFile.FieldType.int)).before args0 about1 = true := code_word (m := ⟨9, 3⟩) (meth := k9m3) (c := k9c3) (by decide +kernel) rfl rfl rfl (by decide +kernel)
set_option maxRecDepth 65536 in
theorem w_c13 : (Jvm.Cond.code ({ cls := "com/example/breakwater/breakwater/io/LineTextSetPinLaw", name := "at", desc := "(Lcom/example/breakwater/breakwater/io/LineText;[BIII)Z" } : Jvm.MethodName) method_2_code (5 : Nat) (Option.some Jvm.ClassFile.FieldType.boolean)).before args0 about1 = true := code_word (m := ⟨1, 1⟩) (meth := k1m1) (c := k1c1) (by decide +kernel) rfl rfl rfl (by decide +kernel)
set_option maxRecDepth 65536 in
theorem w_c14 : (Jvm.Cond.code ({ cls := "com/example/breakwater/breakwater/io/LineText", name := "charAt", desc := "(I)C" } : Jvm.MethodName) prog_44_method_5_code (2 : Nat) (Option.some Jvm.ClassFile.FieldType.char)).before args0 about1 = true := code_word (m := ⟨9, 4⟩) (meth := k9m4) (c := k9c4) (by decide +kernel) rfl rfl rfl (by decide +kernel)
set_option maxRecDepth 65536 in
theorem w_c15 : (Jvm.Cond.code ({ cls := "java/util/Objects", name := "checkIndex", desc := "(II)I" } : Jvm.MethodName) jdk_31_method_17_code (2 : Nat) (Option.some Jvm.ClassFile.FieldType.int)).before args0 about1 = true := code_word (m := ⟨10, 1⟩) (meth := k10m1) (c := k10c1) (by decide +kernel) rfl rfl rfl (by decide +kernel)
set_option maxRecDepth 65536 in
theorem w_c16 : (Jvm.Cond.code ({ cls := "jdk/internal/util/Preconditions", name := "checkIndex", desc := "(IILjava/util/function/BiFunction;)I" } : Jvm.MethodName) jdk_41_method_11_code (3 : Nat) (Option.some Jvm.ClassFile.FieldType.int)).before args0 about1 = true := code_word (m := ⟨11, 1⟩) (meth := k11m1) (c := k11c1) (by decide +kernel) rfl rfl rfl (by decide +kernel)
set_option maxRecDepth 65536 in
theorem w_c17 : (Jvm.Cond.code ({ cls := "com/example/breakwater/breakwater/io/LineText", name := "held", desc := "(I)C" } : Jvm.MethodName) prog_44_method_7_code (2 : Nat) (Option.some Jvm.ClassFile.FieldType.char)).before args0 about1 = true := code_word (m := ⟨9, 5⟩) (meth := k9m5) (c := k9c5) (by decide +kernel) rfl rfl rfl (by decide +kernel)
def codes1 : List Jvm.Cond := [Jvm.Cond.code x code maxLocals ret, Jvm.Cond.code ({ cls := "java/lang/String", name := "<init>", desc := "([C)V" } : Jvm.MethodName) jdk_42_method_3_code (2 : Nat) (Option.none : Option Jvm.ClassFile.FieldType), Jvm.Cond.code ({ cls := "java/lang/String", name := "<init>", desc := "([CIILjava/lang/Void;)V" } : Jvm.MethodName) jdk_42_method_149_code (6 : Nat) (Option.none : Option Jvm.ClassFile.FieldType), Jvm.Cond.code ({ cls := "java/lang/Object", name := "<init>", desc := "()V" } : Jvm.MethodName) object_method_1_code (1 : Nat) (Option.none : Option Jvm.ClassFile.FieldType), Jvm.Cond.code ({ cls := "java/lang/StringUTF16", name := "compress", desc := "([CII)[B" } : Jvm.MethodName) jdk_52_method_16_code (6 : Nat) (Option.some (Jvm.ClassFile.FieldType.array Jvm.ClassFile.FieldType.byte)), Jvm.Cond.code ({ cls := "java/lang/StringUTF16", name := "compress", desc := "([CI[BII)I" } : Jvm.MethodName) jdk_52_method_21_code (7 : Nat) (Option.some Jvm.ClassFile.FieldType.int), Jvm.Cond.code ({ cls := "java/lang/StringUTF16", name := "coderFromArrayLen", desc := "([BI)B" } : Jvm.MethodName) jdk_52_method_15_code (2 : Nat) (Option.some Jvm.ClassFile.FieldType.byte), Jvm.Cond.code ({ cls := "com/example/breakwater/breakwater/io/LineText", name := "<init>", desc := "()V" } : Jvm.MethodName) prog_44_method_1_code (1 : Nat) (Option.none : Option Jvm.ClassFile.FieldType), Jvm.Cond.code ({ cls := "com/example/breakwater/breakwater/io/LineText", name := "set", desc := "(Ljava/lang/String;)V" } : Jvm.MethodName) prog_44_method_3_code (2 : Nat) (Option.none : Option Jvm.ClassFile.FieldType), Jvm.Cond.code ({ cls := "java/lang/String", name := "length", desc := "()I" } : Jvm.MethodName) jdk_42_method_54_code (1 : Nat) (Option.some Jvm.ClassFile.FieldType.int), Jvm.Cond.code ({ cls := "java/lang/String", name := "coder", desc := "()B" } : Jvm.MethodName) jdk_42_method_152_code (1 : Nat) (Option.some Jvm.ClassFile.FieldType.byte), Jvm.Cond.code ({ cls := "com/example/breakwater/breakwater/io/LineText", name := "set", desc := "([BII)V" } : Jvm.MethodName) prog_44_method_2_code (4 : Nat) (Option.none : Option Jvm.ClassFile.FieldType), Jvm.Cond.code ({ cls := "com/example/breakwater/breakwater/io/LineText", name := "length", desc := "()I" } : Jvm.MethodName) prog_44_method_4_code (1 : Nat) (Option.some Jvm.ClassFile.FieldType.int), Jvm.Cond.code ({ cls := "com/example/breakwater/breakwater/io/LineTextSetPinLaw", name := "at", desc := "(Lcom/example/breakwater/breakwater/io/LineText;[BIII)Z" } : Jvm.MethodName) method_2_code (5 : Nat) (Option.some Jvm.ClassFile.FieldType.boolean), Jvm.Cond.code ({ cls := "com/example/breakwater/breakwater/io/LineText", name := "charAt", desc := "(I)C" } : Jvm.MethodName) prog_44_method_5_code (2 : Nat) (Option.some Jvm.ClassFile.FieldType.char), Jvm.Cond.code ({ cls := "java/util/Objects", name := "checkIndex", desc := "(II)I" } : Jvm.MethodName) jdk_31_method_17_code (2 : Nat) (Option.some Jvm.ClassFile.FieldType.int), Jvm.Cond.code ({ cls := "jdk/internal/util/Preconditions", name := "checkIndex", desc := "(IILjava/util/function/BiFunction;)I" } : Jvm.MethodName) jdk_41_method_11_code (3 : Nat) (Option.some Jvm.ClassFile.FieldType.int), Jvm.Cond.code ({ cls := "com/example/breakwater/breakwater/io/LineText", name := "held", desc := "(I)C" } : Jvm.MethodName) prog_44_method_7_code (2 : Nat) (Option.some Jvm.ClassFile.FieldType.char)]
set_option maxRecDepth 65536 in
theorem codes_eq : words1.filter isCode = codes1 := rfl
theorem w_codes : ∀ c ∈ words1.filter isCode, c.before args0 about1 = true := by
  rw [codes_eq]
  intro c hc
  simp only [codes1, List.mem_cons, List.not_mem_nil, or_false] at hc
  rcases hc with rfl | rfl | rfl | rfl | rfl | rfl | rfl | rfl | rfl | rfl | rfl | rfl | rfl | rfl | rfl | rfl | rfl | rfl
  · exact w_c0
  · exact w_c1
  · exact w_c2
  · exact w_c3
  · exact w_c4
  · exact w_c5
  · exact w_c6
  · exact w_c7
  · exact w_c8
  · exact w_c9
  · exact w_c10
  · exact w_c11
  · exact w_c12
  · exact w_c13
  · exact w_c14
  · exact w_c15
  · exact w_c16
  · exact w_c17
set_option maxRecDepth 65536 in
theorem w_t1 : (words1.take 24).all (fun c => isCode c || c.before args0 about1) = true := by decide +kernel
set_option maxRecDepth 65536 in
theorem w_t2 : ((words1.drop 24).take 24).all (fun c => isCode c || c.before args0 about1) = true := by decide +kernel
set_option maxRecDepth 65536 in
theorem w_t3 : (((words1.drop 24).drop 24).take 24).all (fun c => isCode c || c.before args0 about1) = true := by decide +kernel
set_option maxRecDepth 65536 in
theorem w_t4 : (((words1.drop 24).drop 24).drop 24).all (fun c => isCode c || c.before args0 about1) = true := by decide +kernel
theorem w_tables : (allAtoms (Jvm.Cond.code x code maxLocals ret :: tables_1)).before args0 about1 = true := by
  rw [allAtoms_all]
  show words1.all (fun c => c.before args0 about1) = true
  refine all_split ?_ w_codes
  rw [← List.take_append_drop 24 words1, List.all_append, w_t1, ← List.take_append_drop 24 (words1.drop 24), List.all_append, w_t2, ← List.take_append_drop 24 ((words1.drop 24).drop 24), List.all_append, w_t3, w_t4]
  rfl
set_option maxRecDepth 65536 in
theorem w_rest : rest_1_c.before args0 about1 = true := by decide +kernel
set_option maxRecDepth 65536 in
theorem w_case : (Jvm.Cond.and given_1 narrow_1).before args0 about1 = true := by decide +kernel
theorem w_applies : (headSpec (Jvm.Cond.code x code maxLocals ret :: tables_1) room_1).applies x e0.platform about1 = true :=
  (Spec.applies_iff w_frames).mpr ⟨w_running, w_runnable, w_alone, w_named, w_hears, w_ripe, w_room, w_tables⟩
theorem atStart : AtStart classFile x code maxLocals ret World_1 tables_1 room_1 Calls_1 rest_1 Pre_1 launch0 p0 e0 about1 theMethod args0 below0 :=
  ⟨lists_1, trivial, launch0.admits_env _ _ _, launch0.least_env, fairChoices_fair.cas, fairChoices_fair.clock, w_frames, w_args, w_heap, w_applies, trivial, w_rest, w_case⟩
end start1
theorem witness_1 : WitnessClaimed_1 := ⟨start1.p0, start1.e0, start1.about1, start1.theMethod, start1.args0, start1.below0, start1.atStart⟩
end Jvm.Pilot.@@N@@
