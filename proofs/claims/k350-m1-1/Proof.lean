import JvmDerived
import JvmDerived.Pilot.@@N@@Statement
import JvmDerived.Pilot.@@N@@Code
set_option linter.unusedVariables false
set_option linter.unusedSimpArgs false
namespace Jvm.Pilot.@@N@@
open Jvm Jvm.ClassFile Sem Op Lib Jvm.Free Jvm.Stand Jvm.LawKit Jvm.RoadKit Bundle Jvm.Pilot.@@N@@.Jvm.D
section Own
variable {p : Program} {l : Launch} {e : Env} {R : Room} {s : State} {m : MethodId} {args : Array Value} {below : List Frame} {meth : Method} {c : Code} {T : State} {locs : List Loc} {cells slots : Nat} {Z : State} {a0 : Array Value} {h h' : Heap} {rc rs : Nat} {Q Qc : Option Value → Heap → List Loc → Prop}
/-- from here the run comes to its end, and leaves what Q says -/
def GG (p : Program) (e : Env) (below : List Frame) (s : State) (rc rs : Nat) (Q : Option Value → Heap → List Loc → Prop) (T : State) (g : JFrame) : Prop :=
  ∃ s₂ o, Steps p.tables e below (T.setTop g) s₂ ∧ s₂.status = .running ∧ Ended s₂ below o ∧ ∃ v L, o = .returned v ∧ Q v s₂.heap L ∧ FrameEnd s o s₂ L rc rs
theorem own_go {T' : State} {g g' : JFrame} (st : ∀ t, Steps p.tables e below (T'.setTop g') t → Steps p.tables e below (T.setTop g) t) (k : GG p e below s rc rs Q T' g') : GG p e below s rc rs Q T g := by
  obtain ⟨s₂, o, h1, h2⟩ := k
  exact ⟨s₂, o, st _ h1, h2⟩
theorem own_in {g g' : JFrame} (q : g = g') (k : GG p e below s rc rs Q T g') : GG p e below s rc rs Q T g := q ▸ k
theorem own_if {g1 g2 : JFrame} {P : Prop} [Decidable P] (k1 : P → GG p e below s rc rs Q T g1) (k2 : ¬ P → GG p e below s rc rs Q T g2) : GG p e below s rc rs Q T (if P then g1 else g2) := by
  by_cases q : P
  · rw [if_pos q]; exact k1 q
  · rw [if_neg q]; exact k2 q
theorem own_join {g g' : JFrame} (k1 : GG p e below s rc rs Q T g' → GG p e below s rc rs Q T g) (k2 : GG p e below s rc rs Q T g') : GG p e below s rc rs Q T g := k1 k2
abbrev own_CT (l : Launch) (Z : State) (y : MethodName) (bytes : ByteArray) (maxL : Nat) (ret : Option FieldType) (ws : List Jvm.Cond) (rm : Room) (as : Array Value) (h : Heap) (Qc : Option Value → Heap → List Loc → Prop) : Prop :=
  MetFree l y (head1 (Jvm.Cond.code y bytes maxL ret :: ws) rm) (fun a U => a = as ∧ Z.Warmed39 U.vm ∧ U.heap = h) (fun _ _ _ _ _ => True) (fun _ U o U' => ∃ v L, o = .returned v ∧ Qc v U'.heap L ∧ FrameEnd U o U' L rm.cells rm.slots)
theorem own_callS (X : Stand p l e R s m args below meth c T locs cells slots) (hx : p.tables.exec = Jvm.exec) (hZ : Z.Warmed39 s.vm) {own : String} {index : Nat} {y : MethodName} {bytes : ByteArray} {maxL : Nat} {ret : Option FieldType} {rm : Room} (W : Nat)
    (hown : s.vm.findClass own = some m.cls) (w1 : (Jvm.Cond.methodLink own index y).before a0 Z = true) (w2 : (Jvm.Cond.static y).before a0 Z = true) (w3 : (Jvm.Cond.initialized y.cls).before a0 Z = true) (w4 : (Jvm.Cond.code y bytes maxL ret).before a0 Z = true)
    (hy : y.cls ≠ "java/lang/invoke/MethodHandle" ∧ y.cls ≠ "java/lang/invoke/VarHandle") {argsL rest : List Value} (hM : own_CT l Z y bytes maxL ret [] rm argsL.toArray h Qc)
    (hf : rm.frames + 1 ≤ R.frames) (hl : W + (maxL + 11) + rm.locals ≤ R.locals) (hc : cells + rm.cells ≤ R.cells) (hs : slots + rm.slots ≤ R.slots)
    {g : JFrame} (hg : g.method = m) (hsize : g.locals.size = c.maxLocals) (hlen : ∀ sig, parseMethodDescriptor y.desc = some sig → argsL.length = sig.parameters.length) (hstack : g.stack = argsL.reverse ++ rest) (hW : 2 * g.monitorRoom + (rest.map fun v => v.category).sum ≤ W)
    (hdg : decode c.code g.pc = .ok (.invokestatic index, 3)) (eT : T.heap = h)
    (k : ∀ (v : Option Value) (T' : State) (L : List Loc), Stand p l e R s m args below meth c T' (locs ++ L) (cells + rm.cells) (slots + rm.slots) → Qc v T'.heap L → GG p e below s rc rs Q T' { g with pc := g.pc + 3, stack := v.toList ++ rest }) : GG p e below s rc rs Q T g := by
  obtain ⟨v, vm₁, ⟨T', L', k', n'⟩, -, X', ⟨L, hQ, q1, q2, q3⟩, st⟩ := Jvm.LawKit.callS X hx hown (mvT hZ w1) (mvT hZ w2) (mvT hZ w3) (mvT hZ w4) hy (backOf (W := W) hM hZ w4 w3 hf hl) hg hsize hlen hstack hW hdg (fun _ _ => ⟨rfl, eT, hc, hs⟩)
  dsimp only [Pt.U, Pt.locs, Pt.cells, Pt.slots] at X' q1 q2 q3 st hQ
  subst q1 q2 q3
  exact own_go st (k v T' L X' hQ)
theorem own_callI (X : Stand p l e R s m args below meth c T locs cells slots) (hx : p.tables.exec = Jvm.exec) (hZ : Z.Warmed39 s.vm) {own : String} {index : Nat} {y : MethodName} {bytes : ByteArray} {maxL : Nat} {rm : Room} (W : Nat) (hy1 : y.name = "<init>")
    (hown : s.vm.findClass own = some m.cls) (w1 : (Jvm.Cond.methodLink own index y).before a0 Z = true) (w2 : (Jvm.Cond.instanceMethod y).before a0 Z = true) (w3 : (Jvm.Cond.initialized y.cls).before a0 Z = true) (w4 : (Jvm.Cond.code y bytes maxL none).before a0 Z = true)
    (hy : y.cls ≠ "java/lang/invoke/MethodHandle" ∧ y.cls ≠ "java/lang/invoke/VarHandle") {a : Addr} {argsL rest : List Value} (hM : own_CT l Z y bytes maxL none [] rm (.ref a :: argsL).toArray h Qc)
    (hf : rm.frames + 1 ≤ R.frames) (hl : W + (maxL + 11) + rm.locals ≤ R.locals) (hc : cells + rm.cells ≤ R.cells) (hs : slots + rm.slots ≤ R.slots)
    {g : JFrame} (hg : g.method = m) (hsize : g.locals.size = c.maxLocals) (hlen : ∀ sig, parseMethodDescriptor y.desc = some sig → argsL.length = sig.parameters.length) (hstack : g.stack = argsL.reverse ++ .ref a :: rest) (hW : 2 * g.monitorRoom + (rest.map fun v => v.category).sum ≤ W)
    (hdg : decode c.code g.pc = .ok (.invokespecial index, 3)) (eT : T.heap = h)
    (k : ∀ (v : Option Value) (T' : State) (L : List Loc), Stand p l e R s m args below meth c T' (locs ++ L) (cells + rm.cells) (slots + rm.slots) → Qc v T'.heap L → GG p e below s rc rs Q T' { g with pc := g.pc + 3, stack := v.toList ++ rest }) : GG p e below s rc rs Q T g := by
  obtain ⟨v, vm₁, ⟨T', L', k', n'⟩, -, X', ⟨L, hQ, q1, q2, q3⟩, st⟩ := X.specialBack hx hy1 hown (mvT hZ w1) (mvT hZ w2) (mvT hZ w4) hy (backOf (W := W) hM hZ w4 w3 hf hl) hg hsize (Steps.refl _) hlen hstack hW hdg (fun _ _ => ⟨rfl, eT, hc, hs⟩)
  dsimp only [Pt.U, Pt.locs, Pt.cells, Pt.slots] at X' q1 q2 q3 st hQ
  subst q1 q2 q3
  exact own_go (fun _ => st.trans) (k v T' L X' hQ)
theorem own_callV (X : Stand p l e R s m args below meth c T locs cells slots) (hx : p.tables.exec = Jvm.exec) (hZ : Z.Warmed39 s.vm) {own C : String} {index : Nat} {y z : MethodName} {bytes : ByteArray} {maxL : Nat} {ret : Option FieldType} {rm : Room} (W : Nat)
    (hown : s.vm.findClass own = some m.cls) (w1 : (Jvm.Cond.methodLink own index y).before a0 Z = true) (w2 : (Jvm.Cond.declares y).before a0 Z = true) (hnf : NotFace s y) (w5 : (Jvm.Cond.selects C y z).before a0 Z = true) (w6 : (Jvm.Cond.instanceMethod z).before a0 Z = true) (w3 : (Jvm.Cond.initialized z.cls).before a0 Z = true) (w4 : (Jvm.Cond.code z bytes maxL ret).before a0 Z = true)
    (hy : y.cls ≠ "java/lang/invoke/MethodHandle" ∧ y.cls ≠ "java/lang/invoke/VarHandle") {a : Addr} {argsL rest : List Value} (hM : own_CT l Z z bytes maxL ret [] rm (.ref a :: argsL).toArray h Qc)
    (hf : rm.frames + 1 ≤ R.frames) (hl : W + (maxL + 11) + rm.locals ≤ R.locals) (hc : cells + rm.cells ≤ R.cells) (hs : slots + rm.slots ≤ R.slots) (E : Exa Z h a C)
    {g : JFrame} (hg : g.method = m) (hsize : g.locals.size = c.maxLocals) (hlen : ∀ sig, parseMethodDescriptor y.desc = some sig → argsL.length = sig.parameters.length) (hstack : g.stack = argsL.reverse ++ .ref a :: rest) (hW : 2 * g.monitorRoom + (rest.map fun v => v.category).sum ≤ W)
    (hdg : decode c.code g.pc = .ok (.invokevirtual index, 3)) (eT : T.heap = h)
    (k : ∀ (v : Option Value) (T' : State) (L : List Loc), Stand p l e R s m args below meth c T' (locs ++ L) (cells + rm.cells) (slots + rm.slots) → Qc v T'.heap L → GG p e below s rc rs Q T' { g with pc := g.pc + 3, stack := v.toList ++ rest }) : GG p e below s rc rs Q T g := by
  obtain ⟨cq, kq, qa, qb, qc⟩ := isOf hZ eT E
  obtain ⟨v, vm₁, ⟨T', L', k', n'⟩, -, X', ⟨L, hQ, q1, q2, q3⟩, st⟩ := X.virtualBack hx hown (mvT hZ w1) (mvT hZ w2) hnf (mvT hZ w5) (mvT hZ w6) hy (backOf (W := W) hM hZ w4 w3 hf hl) qa qc hg hsize (Steps.refl _) hlen hstack hW hdg (fun _ _ => ⟨rfl, eT, hc, hs⟩)
  dsimp only [Pt.U, Pt.locs, Pt.cells, Pt.slots] at X' q1 q2 q3 st hQ
  subst q1 q2 q3
  exact own_go (fun _ => st.trans) (k v T' L X' hQ)
theorem own_callP (X : Stand p l e R s m args below meth c T locs cells slots) (hx : p.tables.exec = Jvm.exec) (hZ : Z.Warmed39 s.vm) {own C : String} {index : Nat} {y : MethodName} {bytes : ByteArray} {maxL : Nat} {ret : Option FieldType} {rm : Room} (W : Nat)
    (hown : s.vm.findClass own = some m.cls) (w1 : (Jvm.Cond.methodLink own index y).before a0 Z = true) (w2 : (Jvm.Cond.instanceMethod y).before a0 Z = true) {kk : Nat} (w5 : (Jvm.Cond.instantiable y.cls kk).before a0 Z = true) (w6 : (Jvm.Cond.privateMethod y).before a0 Z = true) (w3 : (Jvm.Cond.initialized y.cls).before a0 Z = true) (w4 : (Jvm.Cond.code y bytes maxL ret).before a0 Z = true)
    (hy : y.cls ≠ "java/lang/invoke/MethodHandle" ∧ y.cls ≠ "java/lang/invoke/VarHandle") {a : Addr} {argsL rest : List Value} (hM : own_CT l Z y bytes maxL ret [] rm (.ref a :: argsL).toArray h Qc)
    (hf : rm.frames + 1 ≤ R.frames) (hl : W + (maxL + 11) + rm.locals ≤ R.locals) (hc : cells + rm.cells ≤ R.cells) (hs : slots + rm.slots ≤ R.slots) (E : Exa Z h a C)
    {g : JFrame} (hg : g.method = m) (hsize : g.locals.size = c.maxLocals) (hlen : ∀ sig, parseMethodDescriptor y.desc = some sig → argsL.length = sig.parameters.length) (hstack : g.stack = argsL.reverse ++ .ref a :: rest) (hW : 2 * g.monitorRoom + (rest.map fun v => v.category).sum ≤ W)
    (hdg : decode c.code g.pc = .ok (.invokevirtual index, 3)) (eT : T.heap = h)
    (k : ∀ (v : Option Value) (T' : State) (L : List Loc), Stand p l e R s m args below meth c T' (locs ++ L) (cells + rm.cells) (slots + rm.slots) → Qc v T'.heap L → GG p e below s rc rs Q T' { g with pc := g.pc + 3, stack := v.toList ++ rest }) : GG p e below s rc rs Q T g := by
  obtain ⟨cq, q, q'⟩ := E.cell
  have hpr : s.PrivateAt y := Cond.privateMethod_at (mvP hZ w6 (args := #[]))
  obtain ⟨c1, k1, i1, i2, -, i4, -⟩ := Cond.instantiable_spec (show (Jvm.Cond.instantiable y.cls kk).before args s = true from mv hZ w5)
  have hsel : (Jvm.Cond.selects y.cls y y).before args s = true := selects_self_of_private i1 i2 (Bool.or_eq_false_iff.mp i4).1 hpr (mvT hZ w2) hy
  obtain ⟨v, vm₁, ⟨T', L', k', n'⟩, -, X', ⟨L, hQ, q1, q2, q3⟩, st⟩ := X.privateBack hx hown (mvT hZ w1) (mvT hZ w2) hsel hpr (mvT hZ w4) hy (backOf (W := W) hM hZ w4 w3 hf hl) hg hsize (Steps.refl _) (by rw [eT]; exact q) q' hlen hstack hW hdg (fun _ _ => ⟨rfl, eT, hc, hs⟩)
  dsimp only [Pt.U, Pt.locs, Pt.cells, Pt.slots] at X' q1 q2 q3 st hQ
  subst q1 q2 q3
  exact own_go (fun _ => st.trans) (k v T' L X' hQ)
theorem own_ret (X : Stand p l e R s m args below meth c T locs cells slots) (hx : p.tables.exec = Jvm.exec) (hlk : meth.locks = false) {t : FieldType} {w : Value} {i : Instr} {pc : Nat} {Ls : Array Slot} {rest : List Value} (hret : meth.sig.returnType = some t) (hn : narrow t w = w)
    (hi : (i = .ireturn ∧ (t = .int ∨ t = .boolean ∨ t = .byte ∨ t = .char ∨ t = .short) ∧ ∃ z, w = .int z) ∨ (i = .lreturn ∧ t = .long ∧ ∃ z, w = .long z) ∨ (i = .dreturn ∧ t = .double ∧ ∃ z, w = .double z) ∨ (i = .freturn ∧ t = .float ∧ ∃ z, w = .float z) ∨ (i = .areturn ∧ t.isReference = true ∧ w.isRef = true))
    (hd : decode c.code pc = .ok (i, 1)) (hc : cells ≤ rc) (hs : slots ≤ rs) (hQ : Q (some w) T.heap locs) : GG p e below s rc rs Q T (mkF m pc Ls (w :: rest)) := by
  obtain ⟨fs, hr, hrun, hended, hW, hsame⟩ := X.leave (v := some w) (fun h => by rw [hret] at h; cases h) hlk
  exact ⟨_, _, retOut X hx hret hn hi hd hr, hrun, hended, _, _, rfl, hQ, ⟨_, rfl⟩, hW, hsame.mono hc hs⟩
theorem own_retV (X : Stand p l e R s m args below meth c T locs cells slots) (hx : p.tables.exec = Jvm.exec) (hlk : meth.locks = false) {pc : Nat} {Ls : Array Slot} (hret : meth.sig.returnType = none)
    (hd : decode c.code pc = .ok (.return_, 1)) (hc : cells ≤ rc) (hs : slots ≤ rs) (hQ : Q none T.heap locs) : GG p e below s rc rs Q T (mkF m pc Ls []) := by
  obtain ⟨fs, hr, hrun, hended, hW, hsame⟩ := X.leave (v := none) (fun _ => rfl) hlk
  exact ⟨_, _, X.returnOut hx hret hd hr, hrun, hended, _, _, rfl, hQ, ⟨_, rfl⟩, hW, hsame.mono hc hs⟩
theorem own_nZ {P : Prop} [Decidable P] : narrow .boolean (.int (if P then 1 else 0)) = .int (if P then 1 else 0) := by split <;> rfl
/-- an array of values, all of them named -/
def Arx (Z : State) (h : Heap) (a : Addr) (ty : FieldType) (vs : List Value) : Prop := vs.length < 2 ^ 31 ∧ ∃ k dv, Arv Z h a k ty (Int32.ofNat vs.length) vs dv
variable {a b : Addr} {ty : FieldType} {vs : List Value}
theorem own_ofNat {n : Nat} (q : n < 2 ^ 31) : (Int32.ofNat n).toInt = n := Int32.toInt_ofNat_of_lt q
theorem own_clamp {n : Nat} (q : n < 2 ^ 31) : (Int32.ofNat n).toNatClampNeg = n := by simp only [Int32.toNatClampNeg, own_ofNat q]; rfl
theorem Arx.lt (V : Arx Z h a ty vs) : a < h.size := by obtain ⟨_, k, dv, V⟩ := V; exact V.lt
theorem Arx.ext (V : Arx Z h a ty vs) (E : Ext h h') : Arx Z h' a ty vs := by obtain ⟨q, k, dv, V⟩ := V; exact ⟨q, k, dv, V.ext E⟩
theorem Arx.other {sl : Nat} {v : Value} (V : Arx Z h b ty vs) (W : Wr h h' a sl v) (n : b ≠ a) : Arx Z h' b ty vs := by obtain ⟨q, k, dv, V⟩ := V; exact ⟨q, k, dv, V.other W n⟩
theorem Arx.keep {ws : List Addr} (V : Arx Z h a ty vs) (K : Keep h h' ws) (n : a ∉ ws) : Arx Z h' a ty vs := by obtain ⟨q, k, dv, V⟩ := V; exact ⟨q, k, dv, V.keep K n⟩
theorem Arx.open {j : Int32} {v : Value} (V : Arx Z h a ty vs) (h0 : ¬ j < 0) (hv : vs[j.toNatClampNeg]? = some v) : ∃ cl, Arr Z h a cl ty ∧ ¬ (j < 0 ∨ cl.slots.size ≤ j.toNatClampNeg) ∧ cl.slots[j.toNatClampNeg]? = some v := by
  obtain ⟨q, k, dv, cl, A, -, S, -, H, -⟩ := V
  rw [own_clamp q] at S
  have hl := (List.getElem?_eq_some_iff.mp hv).1
  have e := H j.toNatClampNeg (by rw [S]; exact hl)
  rw [List.getD_eq_getElem?_getD, hv] at e
  exact ⟨cl, A, fun q' => q'.elim h0 (by rw [S]; exact Nat.not_le.mpr hl), e⟩
theorem own_len (X : Stand p l e R s m args below meth c T locs cells slots) (hx : p.tables.exec = Jvm.exec) (hZ : Z.Warmed39 s.vm) (eT : T.heap = h) (V : Arx Z h a ty vs) {g : JFrame} (hg : g.method = m) {rest : List Value} (hs : g.stack = .ref a :: rest) (hd : decode c.code g.pc = .ok (.arraylength, 1)) :
    ∀ t, Steps p.tables e below (T.setTop { g with pc := g.pc + 1, stack := .int (Int32.ofNat vs.length) :: rest }) t → Steps p.tables e below (T.setTop g) t := fun t k => by
  obtain ⟨q, k', dv, cl, A, -, S, N, -⟩ := V
  refine X.arraylength hx (by rw [eT]; exact A.1) (State.isArrayOf_alike hZ.alike A.2.1) hg hs hd _ ?_
  rw [len_of S N]; exact k
theorem own_iaload (X : Stand p l e R s m args below meth c T locs cells slots) (hx : p.tables.exec = Jvm.exec) (hZ : Z.Warmed39 s.vm) (eT : T.heap = h) (V : Arx Z h a .int vs) {j : Int32} {v : Value} (h0 : ¬ j < 0) (hv : vs[j.toNatClampNeg]? = some v) {g : JFrame} (hg : g.method = m) {rest : List Value} (hs : g.stack = .int j :: .ref a :: rest) (hd : decode c.code g.pc = .ok (.iaload, 1)) :
    ∀ t, Steps p.tables e below (T.setTop { g with pc := g.pc + 1, stack := v :: rest }) t → Steps p.tables e below (T.setTop g) t := fun t k => by
  obtain ⟨cl, A, h1, h2⟩ := V.open h0 hv
  exact X.iaload hx (by rw [eT]; exact A.1) (State.isArrayOf_alike hZ.alike A.2.1) A.2.2 h1 h2 hg hs hd _ k
theorem own_laload (X : Stand p l e R s m args below meth c T locs cells slots) (hx : p.tables.exec = Jvm.exec) (hZ : Z.Warmed39 s.vm) (eT : T.heap = h) (V : Arx Z h a .long vs) {j : Int32} {v : Value} (h0 : ¬ j < 0) (hv : vs[j.toNatClampNeg]? = some v) {g : JFrame} (hg : g.method = m) {rest : List Value} (hs : g.stack = .int j :: .ref a :: rest) (hd : decode c.code g.pc = .ok (.laload, 1)) :
    ∀ t, Steps p.tables e below (T.setTop { g with pc := g.pc + 1, stack := v :: rest }) t → Steps p.tables e below (T.setTop g) t := fun t k => by
  obtain ⟨cl, A, h1, h2⟩ := V.open h0 hv
  exact X.laload hx (by rw [eT]; exact A.1) (State.isArrayOf_alike hZ.alike A.2.1) A.2.2 h1 h2 hg hs hd _ k
theorem own_caload (X : Stand p l e R s m args below meth c T locs cells slots) (hx : p.tables.exec = Jvm.exec) (hZ : Z.Warmed39 s.vm) (eT : T.heap = h) (V : Arx Z h a .char vs) {j : Int32} {v : Value} (h0 : ¬ j < 0) (hv : vs[j.toNatClampNeg]? = some v) {g : JFrame} (hg : g.method = m) {rest : List Value} (hs : g.stack = .int j :: .ref a :: rest) (hd : decode c.code g.pc = .ok (.caload, 1)) :
    ∀ t, Steps p.tables e below (T.setTop { g with pc := g.pc + 1, stack := v :: rest }) t → Steps p.tables e below (T.setTop g) t := fun t k => by
  obtain ⟨cl, A, h1, h2⟩ := V.open h0 hv
  exact X.caload hx (by rw [eT]; exact A.1) (State.isArrayOf_alike hZ.alike A.2.1) A.2.2 h1 h2 hg hs hd _ k
theorem own_baload (X : Stand p l e R s m args below meth c T locs cells slots) (hx : p.tables.exec = Jvm.exec) (hZ : Z.Warmed39 s.vm) (eT : T.heap = h) (V : Arx Z h a .byte vs) {j : Int32} {v : Value} (h0 : ¬ j < 0) (hv : vs[j.toNatClampNeg]? = some v) {g : JFrame} (hg : g.method = m) {rest : List Value} (hs : g.stack = .int j :: .ref a :: rest) (hd : decode c.code g.pc = .ok (.baload, 1)) :
    ∀ t, Steps p.tables e below (T.setTop { g with pc := g.pc + 1, stack := v :: rest }) t → Steps p.tables e below (T.setTop g) t := fun t k => by
  obtain ⟨cl, A, h1, h2⟩ := V.open h0 hv
  exact X.baloadBytes hx (by rw [eT]; exact A.1) (State.isArrayOf_alike hZ.alike A.2.1) A.2.2 h1 h2 hg hs hd _ k
theorem own_aaload (X : Stand p l e R s m args below meth c T locs cells slots) (hx : p.tables.exec = Jvm.exec) (hZ : Z.Warmed39 s.vm) (eT : T.heap = h) (V : Arx Z h a ty vs) (ht : ty.isReference = true) {j : Int32} {v : Value} (h0 : ¬ j < 0) (hv : vs[j.toNatClampNeg]? = some v) {g : JFrame} (hg : g.method = m) {rest : List Value} (hs : g.stack = .int j :: .ref a :: rest) (hd : decode c.code g.pc = .ok (.aaload, 1)) :
    ∀ t, Steps p.tables e below (T.setTop { g with pc := g.pc + 1, stack := v :: rest }) t → Steps p.tables e below (T.setTop g) t := fun t k => by
  obtain ⟨cl, A, h1, h2⟩ := V.open h0 hv
  exact X.aaload hx (by rw [eT]; exact A.1) (State.isArrayOf_alike hZ.alike A.2.1) ht A.2.2 h1 h2 hg hs hd _ k
theorem Arx.put {j : Int32} {v : Value} (V : Arx Z h a ty vs) (h0 : ¬ j < 0) (hj : j.toNatClampNeg < vs.length) (hv : fits ty v = true) : ∃ cl, Arr Z h a cl ty ∧ ¬ (j < 0 ∨ cl.slots.size ≤ j.toNatClampNeg) ∧ ∀ {h' : Heap}, Wr h h' a j.toNatClampNeg v → Arx Z h' a ty (vs.set j.toNatClampNeg v) := by
  obtain ⟨q, k, dv, cl, A, q1, S, N, H, G⟩ := V
  refine ⟨cl, A, fun q' => q'.elim h0 ?_, fun W => ⟨by rw [List.length_set]; exact q, k, dv, ?_⟩⟩
  · rw [S, own_clamp q]; exact Nat.not_le.mpr hj
  · rw [List.length_set]; exact Arv.set A q1 S N H G hv W _ rfl hj
theorem own_iastore (X : Stand p l e R s m args below meth c T locs cells slots) (hx : p.tables.exec = Jvm.exec) (hZ : Z.Warmed39 s.vm) (eT : T.heap = h) (V : Arx Z h a .int vs) {j x : Int32} (h0 : ¬ j < 0) (hj : j.toNatClampNeg < vs.length) {g : JFrame} (hg : g.method = m) {rest : List Value} (hs : g.stack = .int x :: .int j :: .ref a :: rest) (hd : decode c.code g.pc = .ok (.iastore, 1)) :
    ∃ T' h', Stand p l e R s m args below meth c T' (locs ++ [⟨a, j.toNatClampNeg⟩]) cells slots ∧ T'.heap = h' ∧ Wr h h' a j.toNatClampNeg (.int x) ∧ Arx Z h' a .int (vs.set j.toNatClampNeg (.int x)) ∧ ∀ t, Steps p.tables e below (T'.setTop { g with pc := g.pc + 1, stack := rest }) t → Steps p.tables e below (T.setTop g) t := by
  obtain ⟨cl, A, h1, h2⟩ := V.put (v := .int x) h0 hj rfl
  obtain ⟨T', h', X', e', W, st⟩ := stI X hx hZ eT A h1 hg hs hd
  exact ⟨T', h', X', e', W, h2 W, st⟩
theorem own_lastore (X : Stand p l e R s m args below meth c T locs cells slots) (hx : p.tables.exec = Jvm.exec) (hZ : Z.Warmed39 s.vm) (eT : T.heap = h) (V : Arx Z h a .long vs) {j : Int32} {x : Int64} (h0 : ¬ j < 0) (hj : j.toNatClampNeg < vs.length) {g : JFrame} (hg : g.method = m) {rest : List Value} (hs : g.stack = .long x :: .int j :: .ref a :: rest) (hd : decode c.code g.pc = .ok (.lastore, 1)) :
    ∃ T' h', Stand p l e R s m args below meth c T' (locs ++ [⟨a, j.toNatClampNeg⟩]) cells slots ∧ T'.heap = h' ∧ Wr h h' a j.toNatClampNeg (.long x) ∧ Arx Z h' a .long (vs.set j.toNatClampNeg (.long x)) ∧ ∀ t, Steps p.tables e below (T'.setTop { g with pc := g.pc + 1, stack := rest }) t → Steps p.tables e below (T.setTop g) t := by
  obtain ⟨cl, A, h1, h2⟩ := V.put (v := .long x) h0 hj rfl
  obtain ⟨T', h', X', e', W, st⟩ := stJ X hx hZ eT A h1 hg hs hd
  exact ⟨T', h', X', e', W, h2 W, st⟩
theorem own_castore (X : Stand p l e R s m args below meth c T locs cells slots) (hx : p.tables.exec = Jvm.exec) (hZ : Z.Warmed39 s.vm) (eT : T.heap = h) (V : Arx Z h a .char vs) {j x : Int32} (h0 : ¬ j < 0) (hj : j.toNatClampNeg < vs.length) {g : JFrame} (hg : g.method = m) {rest : List Value} (hs : g.stack = .int x :: .int j :: .ref a :: rest) (hd : decode c.code g.pc = .ok (.castore, 1)) :
    ∃ T' h', Stand p l e R s m args below meth c T' (locs ++ [⟨a, j.toNatClampNeg⟩]) cells slots ∧ T'.heap = h' ∧ Wr h h' a j.toNatClampNeg (.int (nar .char x)) ∧ Arx Z h' a .char (vs.set j.toNatClampNeg (.int (nar .char x))) ∧ ∀ t, Steps p.tables e below (T'.setTop { g with pc := g.pc + 1, stack := rest }) t → Steps p.tables e below (T.setTop g) t := by
  obtain ⟨cl, A, h1, h2⟩ := V.put (v := .int (nar .char x)) h0 hj (fits_nar_char _)
  obtain ⟨T', h', X', e', W, st⟩ := stC X hx hZ eT A h1 hg hs hd
  exact ⟨T', h', X', e', W, h2 W, st⟩
theorem own_bastore (X : Stand p l e R s m args below meth c T locs cells slots) (hx : p.tables.exec = Jvm.exec) (hZ : Z.Warmed39 s.vm) (eT : T.heap = h) (V : Arx Z h a .byte vs) {j x : Int32} (h0 : ¬ j < 0) (hj : j.toNatClampNeg < vs.length) {g : JFrame} (hg : g.method = m) {rest : List Value} (hs : g.stack = .int x :: .int j :: .ref a :: rest) (hd : decode c.code g.pc = .ok (.bastore, 1)) :
    ∃ T' h', Stand p l e R s m args below meth c T' (locs ++ [⟨a, j.toNatClampNeg⟩]) cells slots ∧ T'.heap = h' ∧ Wr h h' a j.toNatClampNeg (.int (nar .byte x)) ∧ Arx Z h' a .byte (vs.set j.toNatClampNeg (.int (nar .byte x))) ∧ ∀ t, Steps p.tables e below (T'.setTop { g with pc := g.pc + 1, stack := rest }) t → Steps p.tables e below (T.setTop g) t := by
  obtain ⟨cl, A, h1, h2⟩ := V.put (v := .int (nar .byte x)) h0 hj (fits_nar_byte _)
  obtain ⟨T', h', X', e', W, st⟩ := stB X hx hZ eT A h1 hg hs hd
  exact ⟨T', h', X', e', W, h2 W, st⟩
theorem own_newarr (X : Stand p l e R s m args below meth c T locs cells slots) (hx : p.tables.exec = Jvm.exec) (hZ : Z.Warmed39 s.vm) {aty : ArrayType} (w : (Jvm.Cond.arrayClass (newarray.typeOf aty)).before a0 Z = true) (eT : T.heap = h) {g : JFrame} (hg : g.method = m) (hd : decode c.code g.pc = .ok (.newarray aty, 2)) {n : Int32} {rest : List Value} (hs : g.stack = .int n :: rest)
    (hn : ¬ n < 0) {cap : Nat} (hcap : n.toNatClampNeg ≤ cap) (hb : cap * 8 ≤ 536870912) (hc : cells + 1 ≤ R.cells) (hl : slots + cap ≤ R.slots) {ad : String} (had : "[" ++ (newarray.typeOf aty).toString = ad) :
    ∃ T' h' a, a = h.size ∧ Stand p l e R s m args below meth c T' locs (cells + 1) (slots + cap) ∧ T'.heap = h' ∧ Ext h h' ∧ Arx Z h' a (newarray.typeOf aty) (List.replicate n.toNatClampNeg (defaultValue (newarray.typeOf aty))) ∧ Exa Z h' a ad ∧
      ∀ t, Steps p.tables e below (T'.setTop { g with pc := g.pc + 2, stack := .ref a :: rest }) t → Steps p.tables e below (T.setTop g) t := by
  obtain ⟨T', h', cA, X', e', E, A, Ex, st⟩ := newPE X hx hZ w eT hg hd hs hn hcap hb hc hl had
  have b := back32 hn
  refine ⟨T', h', _, rfl, X', e', E, ⟨by rw [List.length_replicate]; exact b.2, cA, defaultValue (newarray.typeOf aty), ?_⟩, Ex, st⟩
  rw [List.length_replicate, show Int32.ofNat n.toNatClampNeg = n from b.1]
  exact (Arv.new A hn).pad (pad_rep [] _ _)
theorem own_clone (X : Stand p l e R s m args below meth c T locs cells slots) (hx : p.tables.exec = Jvm.exec) (hZ : Z.Warmed39 s.vm) {own ad : String} {index : Nat} (hown : s.vm.findClass own = some m.cls)
    (w1 : (Jvm.Cond.methodLink own index ⟨ad, "clone", "()Ljava/lang/Object;"⟩).before a0 Z = true) (w2 : (Jvm.Cond.sameMethod ad "java/lang/Object" "clone" "()Ljava/lang/Object;").before a0 Z = true) (w3 : (Jvm.Cond.native ⟨"java/lang/Object", "clone", "()Ljava/lang/Object;"⟩).before a0 Z = true)
    (w4 : (Jvm.Cond.instanceMethod ⟨"java/lang/Object", "clone", "()Ljava/lang/Object;"⟩).before a0 Z = true) (w5 : (Jvm.Cond.selects ad ⟨ad, "clone", "()Ljava/lang/Object;"⟩ ⟨"java/lang/Object", "clone", "()Ljava/lang/Object;"⟩).before a0 Z = true) (w6 : (Jvm.Cond.castable ad "java/lang/Cloneable").before a0 Z = true)
    (eT : T.heap = h) (V : Arx Z h a ty vs) (E : Exa Z h a ad) {g : JFrame} (hg : g.method = m) (hsize : g.locals.size = c.maxLocals) {rest : List Value} (hst : g.stack = .ref a :: rest) (hd : decode c.code g.pc = .ok (.invokevirtual index, 3))
    (hf : 1 ≤ R.frames) {W cap : Nat} (hW : 2 * g.monitorRoom + (rest.map fun v => v.category).sum ≤ W) (hl : W + 14 ≤ R.locals) (hcap : vs.length ≤ cap) (hc : cells + 1 ≤ R.cells) (hsl : slots + cap ≤ R.slots) :
    ∃ T' h' b, b = h.size ∧ Stand p l e R s m args below meth c T' locs (cells + 1) (slots + cap) ∧ T'.heap = h' ∧ Ext h h' ∧ Arx Z h' b ty vs ∧ Exa Z h' b ad ∧
      ∀ t, Steps p.tables e below (T'.setTop { g with pc := g.pc + 3, stack := .ref b :: rest }) t → Steps p.tables e below (T.setTop g) t := by
  obtain ⟨q, k, dv, V⟩ := V
  obtain ⟨T', h', X', e', ex, V', E', st⟩ := cloneH X hx hZ hown w1 w2 w3 w4 w5 w6 eT V.arh E hg hsize hst hd hf hW hl (by rw [own_clamp q]; exact hcap) hc hsl
  exact ⟨T', h', _, rfl, X', e', ex, ⟨q, k, dv, V'⟩, E', st⟩
end Own
def swapL (L : List Int32) (i j : Nat) : List Int32 := (L.set i (L.getD j 0)).set j (L.getD i 0)
theorem own_swl (L : List Int32) (i j : Nat) : (swapL L i j).length = L.length := by simp [swapL]
def jx (p n : Int32) : Nat := ((p &&& (2147483647 : Int32)) % n).toNatClampNeg
def Good (L : List Int32) : Prop := (∀ i, i < L.length → 0 ≤ (L.getD i 0).toInt ∧ (L.getD i 0).toInt < L.length) ∧ ∀ i, i < L.length → ∀ j, j < L.length → L.getD i 0 = L.getD j 0 → i = j
instance (L : List Int32) : Decidable (Good L) := inferInstanceAs (Decidable (_ ∧ _))
def bl (n : Nat) (a b c : Int32) : List Int32 := match n with
  | 0 => []
  | 1 => [0]
  | 2 => swapL [0, 1] 1 (jx a 2)
  | 3 => swapL (swapL [0, 1, 2] 2 (jx a 3)) 1 (jx b 2)
  | _ => swapL (swapL (swapL [0, 1, 2, 3] 3 (jx a 4)) 2 (jx b 3)) 1 (jx c 2)
theorem own_jx (p n : Int32) (N : Nat) (hn : n.toInt = N) (h0 : 0 < N) : jx p n < N ∧ ((p &&& (2147483647 : Int32)) % n).toInt = jx p n := by
  have h1 := c_mask p 2147483647 31 (by decide) (by decide)
  have h2 := (c_irem (p &&& (2147483647 : Int32)) n N hn).1 (by omega)
  have h3 : 0 ≤ (p &&& (2147483647 : Int32)).toInt % (N : Int) := Int.emod_nonneg _ (by omega)
  have h4 : (p &&& (2147483647 : Int32)).toInt % (N : Int) < N := Int.emod_lt_of_pos _ (by omega)
  unfold jx
  simp only [Int32.toNatClampNeg]
  omega
theorem own_g2 : ∀ a : Fin 2, Good (swapL [0, 1] 1 a.val) := by decide +kernel
theorem own_g3 : ∀ a : Fin 3, ∀ b : Fin 2, Good (swapL (swapL [0, 1, 2] 2 a.val) 1 b.val) := by decide +kernel
theorem own_g4 : ∀ a : Fin 4, ∀ b : Fin 3, ∀ c : Fin 2, Good (swapL (swapL (swapL [0, 1, 2, 3] 3 a.val) 2 b.val) 1 c.val) := by decide +kernel
theorem own_good (n : Nat) (a b c : Int32) : Good (bl n a b c) := by
  unfold bl
  split
  · decide +kernel
  · decide +kernel
  · exact own_g2 ⟨_, (own_jx a 2 2 (by decide) (by decide)).1⟩
  · exact own_g3 ⟨_, (own_jx a 3 3 (by decide) (by decide)).1⟩ ⟨_, (own_jx b 2 2 (by decide) (by decide)).1⟩
  · exact own_g4 ⟨_, (own_jx a 4 4 (by decide) (by decide)).1⟩ ⟨_, (own_jx b 3 3 (by decide) (by decide)).1⟩ ⟨_, (own_jx c 2 2 (by decide) (by decide)).1⟩
theorem own_nat {i : Int32} {n : Nat} (h : i.toInt = n) : i.toNatClampNeg = n := by simp only [Int32.toNatClampNeg, h]; rfl
theorem own_nn {i : Int32} (h : 0 ≤ i.toInt) : ¬ i < 0 := fun q => absurd (Int32.lt_iff_toInt_lt.mp q) (by show ¬ i.toInt < 0; omega)
theorem own_gm (L : List Int32) (i : Nat) (h : i < L.length) : (L.map Value.int)[i]? = some (.int (L.getD i 0)) := by
  rw [List.getElem?_map, List.getElem?_eq_getElem h, List.getD_eq_getElem?_getD, List.getElem?_eq_getElem h]; rfl
theorem d7_0 : decode method_2_code 0 = .ok (.aload_n 0, 1) := by decide +kernel
theorem d7_1 : decode method_2_code 1 = .ok (.iload_n 1, 1) := by decide +kernel
theorem d7_2 : decode method_2_code 2 = .ok (.iaload, 1) := by decide +kernel
theorem d7_3 : decode method_2_code 3 = .ok (.istore_n 3, 1) := by decide +kernel
theorem d7_4 : decode method_2_code 4 = .ok (.aload_n 0, 1) := by decide +kernel
theorem d7_5 : decode method_2_code 5 = .ok (.iload_n 1, 1) := by decide +kernel
theorem d7_6 : decode method_2_code 6 = .ok (.aload_n 0, 1) := by decide +kernel
theorem d7_7 : decode method_2_code 7 = .ok (.iload_n 2, 1) := by decide +kernel
theorem d7_8 : decode method_2_code 8 = .ok (.iaload, 1) := by decide +kernel
theorem d7_9 : decode method_2_code 9 = .ok (.iastore, 1) := by decide +kernel
theorem d7_10 : decode method_2_code 10 = .ok (.aload_n 0, 1) := by decide +kernel
theorem d7_11 : decode method_2_code 11 = .ok (.iload_n 2, 1) := by decide +kernel
theorem d7_12 : decode method_2_code 12 = .ok (.iload_n 3, 1) := by decide +kernel
theorem d7_13 : decode method_2_code 13 = .ok (.iastore, 1) := by decide +kernel
theorem d7_14 : decode method_2_code 14 = .ok (.return_, 1) := by decide +kernel
theorem pn_com_example_hadamint_hadamint_GroupsPositionsPinLaw : plainName "com/example/hadamint/hadamint/GroupsPositionsPinLaw" = true := by first | (simp [plainName, overriddenIn]; done) | decide +kernel
theorem ef_7 (m : MethodId) (x0 : Addr) (x1 : Int32) (x2 : Int32) : entryFrame m #[(.ref x0), (.int x1), (.int x2)] 4 = mkF m 0 #[.val (.ref x0), .val (.int x1), .val (.int x2), .unset] [] := by first | (simp [entryFrame, mkF, argsToLocals, Value.category]; done) | rfl
def Q7 (Z : State) (a1 : Addr) (p2 : Int32) (p3 : Int32) (Li : List Int32) (i j : Nat) (h0 : Heap) (n0 : Nat) (v : Option Value) (h : Heap) (L : List Loc) : Prop := v = none ∧ Fr n0 L ∧ Keep h0 h [a1] ∧ Arx Z h a1 .int ((swapL Li i j).map Value.int)
set_option maxRecDepth 65536 in
set_option maxHeartbeats 40000000 in
theorem rm7 (l : Launch) (Z : State) (a0 : Array Value) (hw : ∀ d ∈ tables_1, d.before a0 Z = true) (ws : List Jvm.Cond) (a1 : Addr) (p2 : Int32) (p3 : Int32) (Li : List Int32) (i j : Nat) (h0 : Heap) (n0 : Nat) (Z0 : n0 ≤ h0.size) (V_a1 : Arx Z h0 a1 .int (Li.map Value.int)) (g_a1 : n0 ≤ a1) (hi : p2.toInt = i) (hj : p3.toInt = j) (hil : i < Li.length) (hjl : j < Li.length) :
    own_CT l Z (⟨"com/example/hadamint/hadamint/GroupsPositionsPinLaw", "swap", "([III)V"⟩ : MethodName) method_2_code 4 none ws ({ frames := 0, cells := 0, slots := 0, locals := 0 } : Room) #[(.ref a1), (.int p2), (.int p3)] h0 (Q7 Z a1 p2 p3 Li i j h0 n0) := by
  refine MetFree.of_bodySF (plainFor_of_name pn_com_example_hadamint_hadamint_GroupsPositionsPinLaw) hisR ?_
  intro p e s m args below meth c s₁ Bd hml0 hP hK
  obtain ⟨rfl, hZ, hh⟩ := hP
  have hx := Bd.exec
  have hby := Bd.bytes
  have hml : c.maxLocals = 4 := hml0
  have hown : s.vm.findClass "com/example/hadamint/hadamint/GroupsPositionsPinLaw" = some m.cls := findClass_of_methodNamed Bd.named
  have hnm := (name_of_methodNamed Bd.named Bd.method).1
  have hlk : meth.locks = false := BodyLoose.notSynchronized Bd
  have X0 : Stand p l e ({ frames := 0, cells := 0, slots := 0, locals := 0 } : Room) s m #[(.ref a1), (.int p2), (.int p3)] below meth c s₁ [] 0 0 := Stand.of_body Bd
  have e0 : s₁.heap = h0 := by rw [← hh, Bd.state]; rfl
  have N0 := Fr.nil n0
  show GG p e below s ({ frames := 0, cells := 0, slots := 0, locals := 0 } : Room).cells ({ frames := 0, cells := 0, slots := 0, locals := 0 } : Room).slots (Q7 Z a1 p2 p3 Li i j h0 n0) s₁ (entryFrame m #[(.ref a1), (.int p2), (.int p3)] 4)
  refine own_in (ef_7 m a1 p2 p3) ?_
  show GG _ _ _ _ _ _ _ s₁ (mkF m 0 #[.val (.ref a1), .val (.int p2), .val (.int p3), .unset] [])
  refine own_go (fun _ => XS.aloadN X0.here hx rfl (hb hby d7_0) rfl rfl) ?_
  show GG _ _ _ _ _ _ _ s₁ (mkF m 1 #[.val (.ref a1), .val (.int p2), .val (.int p3), .unset] [(.ref a1)])
  refine own_go (fun _ => XS.iloadN X0.here hx rfl (hb hby d7_1) rfl) ?_
  show GG _ _ _ _ _ _ _ s₁ (mkF m 2 #[.val (.ref a1), .val (.int p2), .val (.int p3), .unset] [(.int p2), (.ref a1)])
  refine own_go (fun _ => own_iaload X0 hx hZ e0 V_a1 (j := p2) (v := (.int (Li.getD i 0))) (own_nn (by omega)) (by rw [own_nat hi]; exact own_gm Li i hil) (g := (mkF m 2 #[.val (.ref a1), .val (.int p2), .val (.int p3), .unset] [(.int p2), (.ref a1)])) rfl rfl (hb hby d7_2) _) ?_
  show GG _ _ _ _ _ _ _ s₁ (mkF m 3 #[.val (.ref a1), .val (.int p2), .val (.int p3), .unset] [(.int (Li.getD i 0))])
  refine own_go (fun _ => XS.istoreN X0.here hx rfl (hb hby d7_3) rfl (l' := #[.val (.ref a1), .val (.int p2), .val (.int p3), .val (.int (Li.getD i 0))]) rfl) ?_
  show GG _ _ _ _ _ _ _ s₁ (mkF m 4 #[.val (.ref a1), .val (.int p2), .val (.int p3), .val (.int (Li.getD i 0))] [])
  refine own_go (fun _ => XS.aloadN X0.here hx rfl (hb hby d7_4) rfl rfl) ?_
  show GG _ _ _ _ _ _ _ s₁ (mkF m 5 #[.val (.ref a1), .val (.int p2), .val (.int p3), .val (.int (Li.getD i 0))] [(.ref a1)])
  refine own_go (fun _ => XS.iloadN X0.here hx rfl (hb hby d7_5) rfl) ?_
  show GG _ _ _ _ _ _ _ s₁ (mkF m 6 #[.val (.ref a1), .val (.int p2), .val (.int p3), .val (.int (Li.getD i 0))] [(.int p2), (.ref a1)])
  refine own_go (fun _ => XS.aloadN X0.here hx rfl (hb hby d7_6) rfl rfl) ?_
  show GG _ _ _ _ _ _ _ s₁ (mkF m 7 #[.val (.ref a1), .val (.int p2), .val (.int p3), .val (.int (Li.getD i 0))] [(.ref a1), (.int p2), (.ref a1)])
  refine own_go (fun _ => XS.iloadN X0.here hx rfl (hb hby d7_7) rfl) ?_
  show GG _ _ _ _ _ _ _ s₁ (mkF m 8 #[.val (.ref a1), .val (.int p2), .val (.int p3), .val (.int (Li.getD i 0))] [(.int p3), (.ref a1), (.int p2), (.ref a1)])
  refine own_go (fun _ => own_iaload X0 hx hZ e0 V_a1 (j := p3) (v := (.int (Li.getD j 0))) (own_nn (by omega)) (by rw [own_nat hj]; exact own_gm Li j hjl) (g := (mkF m 8 #[.val (.ref a1), .val (.int p2), .val (.int p3), .val (.int (Li.getD i 0))] [(.int p3), (.ref a1), (.int p2), (.ref a1)])) rfl rfl (hb hby d7_8) _) ?_
  show GG _ _ _ _ _ _ _ s₁ (mkF m 9 #[.val (.ref a1), .val (.int p2), .val (.int p3), .val (.int (Li.getD i 0))] [(.int (Li.getD j 0)), (.int p2), (.ref a1)])
  have K0 := Keep.refl h0 [a1]
  obtain ⟨T1, h1, X1, e1, W1, V1, st1⟩ := own_iastore X0 hx hZ e0 V_a1 (own_nn (by omega)) (by rw [own_nat hi, List.length_map]; exact hil) (g := (mkF m 9 #[.val (.ref a1), .val (.int p2), .val (.int p3), .val (.int (Li.getD i 0))] [(.int (Li.getD j 0)), (.int p2), (.ref a1)])) rfl rfl (hb hby d7_9)
  have K0 := K0.wr W1 (Or.inl (List.mem_of_getElem? (i := 0) rfl))
  have V_a1 : Arx Z h1 a1 .int ((Li.set i (Li.getD j 0)).map Value.int) := (by rw [List.map_set]; rw [own_nat hi] at V1; exact V1)
  have N1 := Fr.snoc X1 N0 g_a1
  refine own_go (fun _ => st1 _) ?_
  show GG _ _ _ _ _ _ _ T1 (mkF m 10 #[.val (.ref a1), .val (.int p2), .val (.int p3), .val (.int (Li.getD i 0))] [])
  refine own_go (fun _ => XS.aloadN X1.here hx rfl (hb hby d7_10) rfl rfl) ?_
  show GG _ _ _ _ _ _ _ T1 (mkF m 11 #[.val (.ref a1), .val (.int p2), .val (.int p3), .val (.int (Li.getD i 0))] [(.ref a1)])
  refine own_go (fun _ => XS.iloadN X1.here hx rfl (hb hby d7_11) rfl) ?_
  show GG _ _ _ _ _ _ _ T1 (mkF m 12 #[.val (.ref a1), .val (.int p2), .val (.int p3), .val (.int (Li.getD i 0))] [(.int p3), (.ref a1)])
  refine own_go (fun _ => XS.iloadN X1.here hx rfl (hb hby d7_12) rfl) ?_
  show GG _ _ _ _ _ _ _ T1 (mkF m 13 #[.val (.ref a1), .val (.int p2), .val (.int p3), .val (.int (Li.getD i 0))] [(.int (Li.getD i 0)), (.int p3), (.ref a1)])
  obtain ⟨T2, h2, X2, e2, W2, V2, st2⟩ := own_iastore X1 hx hZ e1 V_a1 (own_nn (by omega)) (by rw [own_nat hj, List.length_map, List.length_set]; exact hjl) (g := (mkF m 13 #[.val (.ref a1), .val (.int p2), .val (.int p3), .val (.int (Li.getD i 0))] [(.int (Li.getD i 0)), (.int p3), (.ref a1)])) rfl rfl (hb hby d7_13)
  have K0 := K0.wr W2 (Or.inl (List.mem_of_getElem? (i := 0) rfl))
  have V_a1 : Arx Z h2 a1 .int ((swapL Li i j).map Value.int) := (by unfold swapL; rw [List.map_set]; rw [own_nat hj] at V2; exact V2)
  have N2 := Fr.snoc X2 N1 g_a1
  refine own_go (fun _ => st2 _) ?_
  show GG _ _ _ _ _ _ _ T2 (mkF m 14 #[.val (.ref a1), .val (.int p2), .val (.int p3), .val (.int (Li.getD i 0))] [])
  refine own_retV X2 hx hlk Bd.returns (hb hby d7_14) (by decide) (by decide) ?_
  show Q7 Z a1 p2 p3 Li i j h0 n0 (none) T2.heap _
  rw [e2]
  exact ⟨rfl, N2, K0, V_a1⟩
theorem d1_0 : decode method_3_code 0 = .ok (.iload_n 0, 1) := by decide +kernel
theorem d1_1 : decode method_3_code 1 = .ok (.newarray .int, 2) := by decide +kernel
theorem d1_3 : decode method_3_code 3 = .ok (.astore 4, 2) := by decide +kernel
theorem d1_5 : decode method_3_code 5 = .ok (.iload_n 0, 1) := by decide +kernel
theorem d1_6 : decode method_3_code 6 = .ok (.iconst 1, 1) := by decide +kernel
theorem d1_7 : decode method_3_code 7 = .ok (.if_icmp .le 8, 3) := by decide +kernel
theorem d1_15 : decode method_3_code 15 = .ok (.iload_n 0, 1) := by decide +kernel
theorem d1_16 : decode method_3_code 16 = .ok (.iconst 2, 1) := by decide +kernel
theorem d1_17 : decode method_3_code 17 = .ok (.if_icmp .le 8, 3) := by decide +kernel
theorem d1_25 : decode method_3_code 25 = .ok (.iload_n 0, 1) := by decide +kernel
theorem d1_26 : decode method_3_code 26 = .ok (.iconst 3, 1) := by decide +kernel
theorem d1_27 : decode method_3_code 27 = .ok (.if_icmp .le 8, 3) := by decide +kernel
theorem d1_35 : decode method_3_code 35 = .ok (.iload_n 0, 1) := by decide +kernel
theorem d1_36 : decode method_3_code 36 = .ok (.iconst 2, 1) := by decide +kernel
theorem d1_37 : decode method_3_code 37 = .ok (.if_icmp .lt 17, 3) := by decide +kernel
theorem d1_54 : decode method_3_code 54 = .ok (.iload_n 0, 1) := by decide +kernel
theorem d1_55 : decode method_3_code 55 = .ok (.iconst 3, 1) := by decide +kernel
theorem d1_56 : decode method_3_code 56 = .ok (.if_icmp .lt 19, 3) := by decide +kernel
theorem d1_75 : decode method_3_code 75 = .ok (.iload_n 0, 1) := by decide +kernel
theorem d1_76 : decode method_3_code 76 = .ok (.iconst 4, 1) := by decide +kernel
theorem d1_77 : decode method_3_code 77 = .ok (.if_icmp .lt 19, 3) := by decide +kernel
theorem d1_96 : decode method_3_code 96 = .ok (.aload 4, 2) := by decide +kernel
theorem d1_98 : decode method_3_code 98 = .ok (.areturn, 1) := by decide +kernel
theorem ef_1 (m : MethodId) (x0 : Int32) (x1 : Int32) (x2 : Int32) (x3 : Int32) : entryFrame m #[(.int x0), (.int x1), (.int x2), (.int x3)] 5 = mkF m 0 #[.val (.int x0), .val (.int x1), .val (.int x2), .val (.int x3), .unset] [] := by first | (simp [entryFrame, mkF, argsToLocals, Value.category]; done) | rfl
def Q1_0 (Z : State) (p1 : Int32) (p2 : Int32) (p3 : Int32) (h0 : Heap) (n0 : Nat) (v : Option Value) (h : Heap) (L : List Loc) : Prop := ∃ b, v = some (.ref b) ∧ Fr n0 L ∧ h0.size ≤ b ∧ Keep h0 h [] ∧ Arx Z h b .int ((bl 0 p1 p2 p3).map Value.int)
set_option maxRecDepth 65536 in
set_option maxHeartbeats 40000000 in
theorem rm1_0 (l : Launch) (Z : State) (a0 : Array Value) (hw : ∀ d ∈ tables_1, d.before a0 Z = true) (ws : List Jvm.Cond) (p1 : Int32) (p2 : Int32) (p3 : Int32) (h0 : Heap) (n0 : Nat) (Z0 : n0 ≤ h0.size)  :
    own_CT l Z (⟨"com/example/hadamint/hadamint/GroupsPositionsPinLaw", "build", "(IIII)[I"⟩ : MethodName) method_3_code 5 (some (.array .int)) ws ({ frames := 0, cells := 1, slots := 0, locals := 0 } : Room) #[(.int (0 : Int32)), (.int p1), (.int p2), (.int p3)] h0 (Q1_0 Z p1 p2 p3 h0 n0) := by
  refine MetFree.of_bodySF (plainFor_of_name pn_com_example_hadamint_hadamint_GroupsPositionsPinLaw) hisR ?_
  intro p e s m args below meth c s₁ Bd hml0 hP hK
  obtain ⟨rfl, hZ, hh⟩ := hP
  have hx := Bd.exec
  have hby := Bd.bytes
  have hml : c.maxLocals = 5 := hml0
  have hown : s.vm.findClass "com/example/hadamint/hadamint/GroupsPositionsPinLaw" = some m.cls := findClass_of_methodNamed Bd.named
  have hnm := (name_of_methodNamed Bd.named Bd.method).1
  have hlk : meth.locks = false := BodyLoose.notSynchronized Bd
  have X0 : Stand p l e ({ frames := 0, cells := 1, slots := 0, locals := 0 } : Room) s m #[(.int (0 : Int32)), (.int p1), (.int p2), (.int p3)] below meth c s₁ [] 0 0 := Stand.of_body Bd
  have e0 : s₁.heap = h0 := by rw [← hh, Bd.state]; rfl
  have N0 := Fr.nil n0
  show GG p e below s ({ frames := 0, cells := 1, slots := 0, locals := 0 } : Room).cells ({ frames := 0, cells := 1, slots := 0, locals := 0 } : Room).slots (Q1_0 Z p1 p2 p3 h0 n0) s₁ (entryFrame m #[(.int (0 : Int32)), (.int p1), (.int p2), (.int p3)] 5)
  refine own_in (ef_1 m (0 : Int32) p1 p2 p3) ?_
  show GG _ _ _ _ _ _ _ s₁ (mkF m 0 #[.val (.int (0 : Int32)), .val (.int p1), .val (.int p2), .val (.int p3), .unset] [])
  refine own_go (fun _ => XS.iloadN X0.here hx rfl (hb hby d1_0) rfl) ?_
  show GG _ _ _ _ _ _ _ s₁ (mkF m 1 #[.val (.int (0 : Int32)), .val (.int p1), .val (.int p2), .val (.int p3), .unset] [(.int (0 : Int32))])
  have K0 := Keep.refl h0 []
  obtain ⟨T1, h1, ob1, g1, X1, e1, E1, V_ob1, E_ob1, st1⟩ := own_newarr X0 hx hZ (hw _ (List.mem_of_getElem? (i := 5) rfl)) e0 (g := (mkF m 1 #[.val (.int (0 : Int32)), .val (.int p1), .val (.int p2), .val (.int p3), .unset] [(.int (0 : Int32))])) rfl (hb hby d1_1) rfl (by decide) (cap := 0) (by decide) (by decide) (by decide) (by decide) (ad := "[I") (by decide)
  have sz_ob1 : h0.size ≤ ob1 := Nat.le_trans K0.1 (Nat.le_of_eq g1.symm)
  have g_ob1 : n0 ≤ ob1 := Nat.le_trans Z0 sz_ob1
  have K0 := K0.ext E1
  have V_ob1 : Arx Z h1 ob1 .int [] := V_ob1
  refine own_go (fun _ => st1 _) ?_
  show GG _ _ _ _ _ _ _ T1 (mkF m 3 #[.val (.int (0 : Int32)), .val (.int p1), .val (.int p2), .val (.int p3), .unset] [(.ref ob1)])
  refine own_go (fun _ => XS.astore X1.here hx rfl (hb hby d1_3) rfl rfl (l' := #[.val (.int (0 : Int32)), .val (.int p1), .val (.int p2), .val (.int p3), .val (.ref ob1)]) rfl) ?_
  show GG _ _ _ _ _ _ _ T1 (mkF m 5 #[.val (.int (0 : Int32)), .val (.int p1), .val (.int p2), .val (.int p3), .val (.ref ob1)] [])
  refine own_go (fun _ => XS.iloadN X1.here hx rfl (hb hby d1_5) rfl) ?_
  show GG _ _ _ _ _ _ _ T1 (mkF m 6 #[.val (.int (0 : Int32)), .val (.int p1), .val (.int p2), .val (.int p3), .val (.ref ob1)] [(.int (0 : Int32))])
  refine own_go (fun _ => XS.iconst X1.here hx rfl (hb hby d1_6)) ?_
  show GG _ _ _ _ _ _ _ T1 (mkF m 7 #[.val (.int (0 : Int32)), .val (.int p1), .val (.int p2), .val (.int p3), .val (.ref ob1)] [(.int (1 : Int32)), (.int (0 : Int32))])
  have hc7 : ¬ ((1 : Int32) < (0 : Int32)) := by decide
  refine own_go (fun _ => XS.icmpYes X1.here hx rfl (pc0 := 7) (pc' := 15) rfl (hb hby d1_7) rfl (flt hc7).2.2.2 (by decide) (by decide)) ?_
  show GG _ _ _ _ _ _ _ T1 (mkF m 15 #[.val (.int (0 : Int32)), .val (.int p1), .val (.int p2), .val (.int p3), .val (.ref ob1)] [])
  refine own_go (fun _ => XS.iloadN X1.here hx rfl (hb hby d1_15) rfl) ?_
  show GG _ _ _ _ _ _ _ T1 (mkF m 16 #[.val (.int (0 : Int32)), .val (.int p1), .val (.int p2), .val (.int p3), .val (.ref ob1)] [(.int (0 : Int32))])
  refine own_go (fun _ => XS.iconst X1.here hx rfl (hb hby d1_16)) ?_
  show GG _ _ _ _ _ _ _ T1 (mkF m 17 #[.val (.int (0 : Int32)), .val (.int p1), .val (.int p2), .val (.int p3), .val (.ref ob1)] [(.int (2 : Int32)), (.int (0 : Int32))])
  have hc17 : ¬ ((2 : Int32) < (0 : Int32)) := by decide
  refine own_go (fun _ => XS.icmpYes X1.here hx rfl (pc0 := 17) (pc' := 25) rfl (hb hby d1_17) rfl (flt hc17).2.2.2 (by decide) (by decide)) ?_
  show GG _ _ _ _ _ _ _ T1 (mkF m 25 #[.val (.int (0 : Int32)), .val (.int p1), .val (.int p2), .val (.int p3), .val (.ref ob1)] [])
  refine own_go (fun _ => XS.iloadN X1.here hx rfl (hb hby d1_25) rfl) ?_
  show GG _ _ _ _ _ _ _ T1 (mkF m 26 #[.val (.int (0 : Int32)), .val (.int p1), .val (.int p2), .val (.int p3), .val (.ref ob1)] [(.int (0 : Int32))])
  refine own_go (fun _ => XS.iconst X1.here hx rfl (hb hby d1_26)) ?_
  show GG _ _ _ _ _ _ _ T1 (mkF m 27 #[.val (.int (0 : Int32)), .val (.int p1), .val (.int p2), .val (.int p3), .val (.ref ob1)] [(.int (3 : Int32)), (.int (0 : Int32))])
  have hc27 : ¬ ((3 : Int32) < (0 : Int32)) := by decide
  refine own_go (fun _ => XS.icmpYes X1.here hx rfl (pc0 := 27) (pc' := 35) rfl (hb hby d1_27) rfl (flt hc27).2.2.2 (by decide) (by decide)) ?_
  show GG _ _ _ _ _ _ _ T1 (mkF m 35 #[.val (.int (0 : Int32)), .val (.int p1), .val (.int p2), .val (.int p3), .val (.ref ob1)] [])
  refine own_go (fun _ => XS.iloadN X1.here hx rfl (hb hby d1_35) rfl) ?_
  show GG _ _ _ _ _ _ _ T1 (mkF m 36 #[.val (.int (0 : Int32)), .val (.int p1), .val (.int p2), .val (.int p3), .val (.ref ob1)] [(.int (0 : Int32))])
  refine own_go (fun _ => XS.iconst X1.here hx rfl (hb hby d1_36)) ?_
  show GG _ _ _ _ _ _ _ T1 (mkF m 37 #[.val (.int (0 : Int32)), .val (.int p1), .val (.int p2), .val (.int p3), .val (.ref ob1)] [(.int (2 : Int32)), (.int (0 : Int32))])
  have hc37 : (0 : Int32) < (2 : Int32) := by decide
  refine own_go (fun _ => XS.icmpYes X1.here hx rfl (pc0 := 37) (pc' := 54) rfl (hb hby d1_37) rfl (tlt hc37).1 (by decide) (by decide)) ?_
  show GG _ _ _ _ _ _ _ T1 (mkF m 54 #[.val (.int (0 : Int32)), .val (.int p1), .val (.int p2), .val (.int p3), .val (.ref ob1)] [])
  refine own_go (fun _ => XS.iloadN X1.here hx rfl (hb hby d1_54) rfl) ?_
  show GG _ _ _ _ _ _ _ T1 (mkF m 55 #[.val (.int (0 : Int32)), .val (.int p1), .val (.int p2), .val (.int p3), .val (.ref ob1)] [(.int (0 : Int32))])
  refine own_go (fun _ => XS.iconst X1.here hx rfl (hb hby d1_55)) ?_
  show GG _ _ _ _ _ _ _ T1 (mkF m 56 #[.val (.int (0 : Int32)), .val (.int p1), .val (.int p2), .val (.int p3), .val (.ref ob1)] [(.int (3 : Int32)), (.int (0 : Int32))])
  have hc56 : (0 : Int32) < (3 : Int32) := by decide
  refine own_go (fun _ => XS.icmpYes X1.here hx rfl (pc0 := 56) (pc' := 75) rfl (hb hby d1_56) rfl (tlt hc56).1 (by decide) (by decide)) ?_
  show GG _ _ _ _ _ _ _ T1 (mkF m 75 #[.val (.int (0 : Int32)), .val (.int p1), .val (.int p2), .val (.int p3), .val (.ref ob1)] [])
  refine own_go (fun _ => XS.iloadN X1.here hx rfl (hb hby d1_75) rfl) ?_
  show GG _ _ _ _ _ _ _ T1 (mkF m 76 #[.val (.int (0 : Int32)), .val (.int p1), .val (.int p2), .val (.int p3), .val (.ref ob1)] [(.int (0 : Int32))])
  refine own_go (fun _ => XS.iconst X1.here hx rfl (hb hby d1_76)) ?_
  show GG _ _ _ _ _ _ _ T1 (mkF m 77 #[.val (.int (0 : Int32)), .val (.int p1), .val (.int p2), .val (.int p3), .val (.ref ob1)] [(.int (4 : Int32)), (.int (0 : Int32))])
  have hc77 : (0 : Int32) < (4 : Int32) := by decide
  refine own_go (fun _ => XS.icmpYes X1.here hx rfl (pc0 := 77) (pc' := 96) rfl (hb hby d1_77) rfl (tlt hc77).1 (by decide) (by decide)) ?_
  show GG _ _ _ _ _ _ _ T1 (mkF m 96 #[.val (.int (0 : Int32)), .val (.int p1), .val (.int p2), .val (.int p3), .val (.ref ob1)] [])
  refine own_go (fun _ => XS.aload X1.here hx rfl (hb hby d1_96) rfl rfl) ?_
  show GG _ _ _ _ _ _ _ T1 (mkF m 98 #[.val (.int (0 : Int32)), .val (.int p1), .val (.int p2), .val (.int p3), .val (.ref ob1)] [(.ref ob1)])
  refine own_ret X1 hx hlk (t := (.array .int)) (w := (.ref ob1)) Bd.returns rfl (Or.inr (Or.inr (Or.inr (Or.inr ⟨rfl, rfl, rfl⟩)))) (hb hby d1_98) (by decide) (by decide) ?_
  show Q1_0 Z p1 p2 p3 h0 n0 (some (.ref ob1)) T1.heap _
  rw [e1]
  exact ⟨_, rfl, N0, sz_ob1, K0, V_ob1⟩
def Q1_1 (Z : State) (p1 : Int32) (p2 : Int32) (p3 : Int32) (h0 : Heap) (n0 : Nat) (v : Option Value) (h : Heap) (L : List Loc) : Prop := ∃ b, v = some (.ref b) ∧ Fr n0 L ∧ h0.size ≤ b ∧ Keep h0 h [] ∧ Arx Z h b .int ((bl 1 p1 p2 p3).map Value.int)
set_option maxRecDepth 65536 in
set_option maxHeartbeats 40000000 in
theorem rm1_1 (l : Launch) (Z : State) (a0 : Array Value) (hw : ∀ d ∈ tables_1, d.before a0 Z = true) (ws : List Jvm.Cond) (p1 : Int32) (p2 : Int32) (p3 : Int32) (h0 : Heap) (n0 : Nat) (Z0 : n0 ≤ h0.size)  :
    own_CT l Z (⟨"com/example/hadamint/hadamint/GroupsPositionsPinLaw", "build", "(IIII)[I"⟩ : MethodName) method_3_code 5 (some (.array .int)) ws ({ frames := 0, cells := 1, slots := 1, locals := 0 } : Room) #[(.int (1 : Int32)), (.int p1), (.int p2), (.int p3)] h0 (Q1_1 Z p1 p2 p3 h0 n0) := by
  refine MetFree.of_bodySF (plainFor_of_name pn_com_example_hadamint_hadamint_GroupsPositionsPinLaw) hisR ?_
  intro p e s m args below meth c s₁ Bd hml0 hP hK
  obtain ⟨rfl, hZ, hh⟩ := hP
  have hx := Bd.exec
  have hby := Bd.bytes
  have hml : c.maxLocals = 5 := hml0
  have hown : s.vm.findClass "com/example/hadamint/hadamint/GroupsPositionsPinLaw" = some m.cls := findClass_of_methodNamed Bd.named
  have hnm := (name_of_methodNamed Bd.named Bd.method).1
  have hlk : meth.locks = false := BodyLoose.notSynchronized Bd
  have X0 : Stand p l e ({ frames := 0, cells := 1, slots := 1, locals := 0 } : Room) s m #[(.int (1 : Int32)), (.int p1), (.int p2), (.int p3)] below meth c s₁ [] 0 0 := Stand.of_body Bd
  have e0 : s₁.heap = h0 := by rw [← hh, Bd.state]; rfl
  have N0 := Fr.nil n0
  show GG p e below s ({ frames := 0, cells := 1, slots := 1, locals := 0 } : Room).cells ({ frames := 0, cells := 1, slots := 1, locals := 0 } : Room).slots (Q1_1 Z p1 p2 p3 h0 n0) s₁ (entryFrame m #[(.int (1 : Int32)), (.int p1), (.int p2), (.int p3)] 5)
  refine own_in (ef_1 m (1 : Int32) p1 p2 p3) ?_
  show GG _ _ _ _ _ _ _ s₁ (mkF m 0 #[.val (.int (1 : Int32)), .val (.int p1), .val (.int p2), .val (.int p3), .unset] [])
  refine own_go (fun _ => XS.iloadN X0.here hx rfl (hb hby d1_0) rfl) ?_
  show GG _ _ _ _ _ _ _ s₁ (mkF m 1 #[.val (.int (1 : Int32)), .val (.int p1), .val (.int p2), .val (.int p3), .unset] [(.int (1 : Int32))])
  have K0 := Keep.refl h0 []
  obtain ⟨T1, h1, ob1, g1, X1, e1, E1, V_ob1, E_ob1, st1⟩ := own_newarr X0 hx hZ (hw _ (List.mem_of_getElem? (i := 5) rfl)) e0 (g := (mkF m 1 #[.val (.int (1 : Int32)), .val (.int p1), .val (.int p2), .val (.int p3), .unset] [(.int (1 : Int32))])) rfl (hb hby d1_1) rfl (by decide) (cap := 1) (by decide) (by decide) (by decide) (by decide) (ad := "[I") (by decide)
  have sz_ob1 : h0.size ≤ ob1 := Nat.le_trans K0.1 (Nat.le_of_eq g1.symm)
  have g_ob1 : n0 ≤ ob1 := Nat.le_trans Z0 sz_ob1
  have K0 := K0.ext E1
  have V_ob1 : Arx Z h1 ob1 .int [(.int (0 : Int32))] := V_ob1
  refine own_go (fun _ => st1 _) ?_
  show GG _ _ _ _ _ _ _ T1 (mkF m 3 #[.val (.int (1 : Int32)), .val (.int p1), .val (.int p2), .val (.int p3), .unset] [(.ref ob1)])
  refine own_go (fun _ => XS.astore X1.here hx rfl (hb hby d1_3) rfl rfl (l' := #[.val (.int (1 : Int32)), .val (.int p1), .val (.int p2), .val (.int p3), .val (.ref ob1)]) rfl) ?_
  show GG _ _ _ _ _ _ _ T1 (mkF m 5 #[.val (.int (1 : Int32)), .val (.int p1), .val (.int p2), .val (.int p3), .val (.ref ob1)] [])
  refine own_go (fun _ => XS.iloadN X1.here hx rfl (hb hby d1_5) rfl) ?_
  show GG _ _ _ _ _ _ _ T1 (mkF m 6 #[.val (.int (1 : Int32)), .val (.int p1), .val (.int p2), .val (.int p3), .val (.ref ob1)] [(.int (1 : Int32))])
  refine own_go (fun _ => XS.iconst X1.here hx rfl (hb hby d1_6)) ?_
  show GG _ _ _ _ _ _ _ T1 (mkF m 7 #[.val (.int (1 : Int32)), .val (.int p1), .val (.int p2), .val (.int p3), .val (.ref ob1)] [(.int (1 : Int32)), (.int (1 : Int32))])
  have hc7 : ¬ ((1 : Int32) < (1 : Int32)) := by decide
  refine own_go (fun _ => XS.icmpYes X1.here hx rfl (pc0 := 7) (pc' := 15) rfl (hb hby d1_7) rfl (flt hc7).2.2.2 (by decide) (by decide)) ?_
  show GG _ _ _ _ _ _ _ T1 (mkF m 15 #[.val (.int (1 : Int32)), .val (.int p1), .val (.int p2), .val (.int p3), .val (.ref ob1)] [])
  refine own_go (fun _ => XS.iloadN X1.here hx rfl (hb hby d1_15) rfl) ?_
  show GG _ _ _ _ _ _ _ T1 (mkF m 16 #[.val (.int (1 : Int32)), .val (.int p1), .val (.int p2), .val (.int p3), .val (.ref ob1)] [(.int (1 : Int32))])
  refine own_go (fun _ => XS.iconst X1.here hx rfl (hb hby d1_16)) ?_
  show GG _ _ _ _ _ _ _ T1 (mkF m 17 #[.val (.int (1 : Int32)), .val (.int p1), .val (.int p2), .val (.int p3), .val (.ref ob1)] [(.int (2 : Int32)), (.int (1 : Int32))])
  have hc17 : ¬ ((2 : Int32) < (1 : Int32)) := by decide
  refine own_go (fun _ => XS.icmpYes X1.here hx rfl (pc0 := 17) (pc' := 25) rfl (hb hby d1_17) rfl (flt hc17).2.2.2 (by decide) (by decide)) ?_
  show GG _ _ _ _ _ _ _ T1 (mkF m 25 #[.val (.int (1 : Int32)), .val (.int p1), .val (.int p2), .val (.int p3), .val (.ref ob1)] [])
  refine own_go (fun _ => XS.iloadN X1.here hx rfl (hb hby d1_25) rfl) ?_
  show GG _ _ _ _ _ _ _ T1 (mkF m 26 #[.val (.int (1 : Int32)), .val (.int p1), .val (.int p2), .val (.int p3), .val (.ref ob1)] [(.int (1 : Int32))])
  refine own_go (fun _ => XS.iconst X1.here hx rfl (hb hby d1_26)) ?_
  show GG _ _ _ _ _ _ _ T1 (mkF m 27 #[.val (.int (1 : Int32)), .val (.int p1), .val (.int p2), .val (.int p3), .val (.ref ob1)] [(.int (3 : Int32)), (.int (1 : Int32))])
  have hc27 : ¬ ((3 : Int32) < (1 : Int32)) := by decide
  refine own_go (fun _ => XS.icmpYes X1.here hx rfl (pc0 := 27) (pc' := 35) rfl (hb hby d1_27) rfl (flt hc27).2.2.2 (by decide) (by decide)) ?_
  show GG _ _ _ _ _ _ _ T1 (mkF m 35 #[.val (.int (1 : Int32)), .val (.int p1), .val (.int p2), .val (.int p3), .val (.ref ob1)] [])
  refine own_go (fun _ => XS.iloadN X1.here hx rfl (hb hby d1_35) rfl) ?_
  show GG _ _ _ _ _ _ _ T1 (mkF m 36 #[.val (.int (1 : Int32)), .val (.int p1), .val (.int p2), .val (.int p3), .val (.ref ob1)] [(.int (1 : Int32))])
  refine own_go (fun _ => XS.iconst X1.here hx rfl (hb hby d1_36)) ?_
  show GG _ _ _ _ _ _ _ T1 (mkF m 37 #[.val (.int (1 : Int32)), .val (.int p1), .val (.int p2), .val (.int p3), .val (.ref ob1)] [(.int (2 : Int32)), (.int (1 : Int32))])
  have hc37 : (1 : Int32) < (2 : Int32) := by decide
  refine own_go (fun _ => XS.icmpYes X1.here hx rfl (pc0 := 37) (pc' := 54) rfl (hb hby d1_37) rfl (tlt hc37).1 (by decide) (by decide)) ?_
  show GG _ _ _ _ _ _ _ T1 (mkF m 54 #[.val (.int (1 : Int32)), .val (.int p1), .val (.int p2), .val (.int p3), .val (.ref ob1)] [])
  refine own_go (fun _ => XS.iloadN X1.here hx rfl (hb hby d1_54) rfl) ?_
  show GG _ _ _ _ _ _ _ T1 (mkF m 55 #[.val (.int (1 : Int32)), .val (.int p1), .val (.int p2), .val (.int p3), .val (.ref ob1)] [(.int (1 : Int32))])
  refine own_go (fun _ => XS.iconst X1.here hx rfl (hb hby d1_55)) ?_
  show GG _ _ _ _ _ _ _ T1 (mkF m 56 #[.val (.int (1 : Int32)), .val (.int p1), .val (.int p2), .val (.int p3), .val (.ref ob1)] [(.int (3 : Int32)), (.int (1 : Int32))])
  have hc56 : (1 : Int32) < (3 : Int32) := by decide
  refine own_go (fun _ => XS.icmpYes X1.here hx rfl (pc0 := 56) (pc' := 75) rfl (hb hby d1_56) rfl (tlt hc56).1 (by decide) (by decide)) ?_
  show GG _ _ _ _ _ _ _ T1 (mkF m 75 #[.val (.int (1 : Int32)), .val (.int p1), .val (.int p2), .val (.int p3), .val (.ref ob1)] [])
  refine own_go (fun _ => XS.iloadN X1.here hx rfl (hb hby d1_75) rfl) ?_
  show GG _ _ _ _ _ _ _ T1 (mkF m 76 #[.val (.int (1 : Int32)), .val (.int p1), .val (.int p2), .val (.int p3), .val (.ref ob1)] [(.int (1 : Int32))])
  refine own_go (fun _ => XS.iconst X1.here hx rfl (hb hby d1_76)) ?_
  show GG _ _ _ _ _ _ _ T1 (mkF m 77 #[.val (.int (1 : Int32)), .val (.int p1), .val (.int p2), .val (.int p3), .val (.ref ob1)] [(.int (4 : Int32)), (.int (1 : Int32))])
  have hc77 : (1 : Int32) < (4 : Int32) := by decide
  refine own_go (fun _ => XS.icmpYes X1.here hx rfl (pc0 := 77) (pc' := 96) rfl (hb hby d1_77) rfl (tlt hc77).1 (by decide) (by decide)) ?_
  show GG _ _ _ _ _ _ _ T1 (mkF m 96 #[.val (.int (1 : Int32)), .val (.int p1), .val (.int p2), .val (.int p3), .val (.ref ob1)] [])
  refine own_go (fun _ => XS.aload X1.here hx rfl (hb hby d1_96) rfl rfl) ?_
  show GG _ _ _ _ _ _ _ T1 (mkF m 98 #[.val (.int (1 : Int32)), .val (.int p1), .val (.int p2), .val (.int p3), .val (.ref ob1)] [(.ref ob1)])
  refine own_ret X1 hx hlk (t := (.array .int)) (w := (.ref ob1)) Bd.returns rfl (Or.inr (Or.inr (Or.inr (Or.inr ⟨rfl, rfl, rfl⟩)))) (hb hby d1_98) (by decide) (by decide) ?_
  show Q1_1 Z p1 p2 p3 h0 n0 (some (.ref ob1)) T1.heap _
  rw [e1]
  exact ⟨_, rfl, N0, sz_ob1, K0, V_ob1⟩
theorem pd___III_V_477 : parseMethodDescriptor "([III)V" = some ⟨[(.array .int), .int, .int], none⟩ := by decide +kernel
theorem d1_10 : decode method_3_code 10 = .ok (.aload 4, 2) := by decide +kernel
theorem d1_12 : decode method_3_code 12 = .ok (.iconst 1, 1) := by decide +kernel
theorem d1_13 : decode method_3_code 13 = .ok (.iconst 1, 1) := by decide +kernel
theorem d1_14 : decode method_3_code 14 = .ok (.iastore, 1) := by decide +kernel
theorem d1_40 : decode method_3_code 40 = .ok (.aload 4, 2) := by decide +kernel
theorem d1_42 : decode method_3_code 42 = .ok (.iload_n 0, 1) := by decide +kernel
theorem d1_43 : decode method_3_code 43 = .ok (.iconst 1, 1) := by decide +kernel
theorem d1_44 : decode method_3_code 44 = .ok (.isub, 1) := by decide +kernel
theorem d1_45 : decode method_3_code 45 = .ok (.iload_n 1, 1) := by decide +kernel
theorem d1_46 : decode method_3_code 46 = .ok (.ldc 7, 2) := by decide +kernel
theorem d1_48 : decode method_3_code 48 = .ok (.iand, 1) := by decide +kernel
theorem d1_49 : decode method_3_code 49 = .ok (.iload_n 0, 1) := by decide +kernel
theorem d1_50 : decode method_3_code 50 = .ok (.irem, 1) := by decide +kernel
theorem d1_51 : decode method_3_code 51 = .ok (.invokestatic 8, 3) := by decide +kernel
def Q1_2 (Z : State) (p1 : Int32) (p2 : Int32) (p3 : Int32) (h0 : Heap) (n0 : Nat) (v : Option Value) (h : Heap) (L : List Loc) : Prop := ∃ b, v = some (.ref b) ∧ Fr n0 L ∧ h0.size ≤ b ∧ Keep h0 h [] ∧ Arx Z h b .int ((bl 2 p1 p2 p3).map Value.int)
set_option maxRecDepth 65536 in
set_option maxHeartbeats 40000000 in
theorem rm1_2 (l : Launch) (Z : State) (a0 : Array Value) (hw : ∀ d ∈ tables_1, d.before a0 Z = true) (ws : List Jvm.Cond) (p1 : Int32) (p2 : Int32) (p3 : Int32) (h0 : Heap) (n0 : Nat) (Z0 : n0 ≤ h0.size)  :
    own_CT l Z (⟨"com/example/hadamint/hadamint/GroupsPositionsPinLaw", "build", "(IIII)[I"⟩ : MethodName) method_3_code 5 (some (.array .int)) ws ({ frames := 1, cells := 1, slots := 2, locals := 15 } : Room) #[(.int (2 : Int32)), (.int p1), (.int p2), (.int p3)] h0 (Q1_2 Z p1 p2 p3 h0 n0) := by
  refine MetFree.of_bodySF (plainFor_of_name pn_com_example_hadamint_hadamint_GroupsPositionsPinLaw) hisR ?_
  intro p e s m args below meth c s₁ Bd hml0 hP hK
  obtain ⟨rfl, hZ, hh⟩ := hP
  have hx := Bd.exec
  have hby := Bd.bytes
  have hml : c.maxLocals = 5 := hml0
  have hown : s.vm.findClass "com/example/hadamint/hadamint/GroupsPositionsPinLaw" = some m.cls := findClass_of_methodNamed Bd.named
  have hnm := (name_of_methodNamed Bd.named Bd.method).1
  have hlk : meth.locks = false := BodyLoose.notSynchronized Bd
  have X0 : Stand p l e ({ frames := 1, cells := 1, slots := 2, locals := 15 } : Room) s m #[(.int (2 : Int32)), (.int p1), (.int p2), (.int p3)] below meth c s₁ [] 0 0 := Stand.of_body Bd
  have e0 : s₁.heap = h0 := by rw [← hh, Bd.state]; rfl
  have N0 := Fr.nil n0
  show GG p e below s ({ frames := 1, cells := 1, slots := 2, locals := 15 } : Room).cells ({ frames := 1, cells := 1, slots := 2, locals := 15 } : Room).slots (Q1_2 Z p1 p2 p3 h0 n0) s₁ (entryFrame m #[(.int (2 : Int32)), (.int p1), (.int p2), (.int p3)] 5)
  refine own_in (ef_1 m (2 : Int32) p1 p2 p3) ?_
  show GG _ _ _ _ _ _ _ s₁ (mkF m 0 #[.val (.int (2 : Int32)), .val (.int p1), .val (.int p2), .val (.int p3), .unset] [])
  refine own_go (fun _ => XS.iloadN X0.here hx rfl (hb hby d1_0) rfl) ?_
  show GG _ _ _ _ _ _ _ s₁ (mkF m 1 #[.val (.int (2 : Int32)), .val (.int p1), .val (.int p2), .val (.int p3), .unset] [(.int (2 : Int32))])
  have K0 := Keep.refl h0 []
  obtain ⟨T1, h1, ob1, g1, X1, e1, E1, V_ob1, E_ob1, st1⟩ := own_newarr X0 hx hZ (hw _ (List.mem_of_getElem? (i := 5) rfl)) e0 (g := (mkF m 1 #[.val (.int (2 : Int32)), .val (.int p1), .val (.int p2), .val (.int p3), .unset] [(.int (2 : Int32))])) rfl (hb hby d1_1) rfl (by decide) (cap := 2) (by decide) (by decide) (by decide) (by decide) (ad := "[I") (by decide)
  have sz_ob1 : h0.size ≤ ob1 := Nat.le_trans K0.1 (Nat.le_of_eq g1.symm)
  have g_ob1 : n0 ≤ ob1 := Nat.le_trans Z0 sz_ob1
  have K0 := K0.ext E1
  have V_ob1 : Arx Z h1 ob1 .int [(.int (0 : Int32)), (.int (0 : Int32))] := V_ob1
  refine own_go (fun _ => st1 _) ?_
  show GG _ _ _ _ _ _ _ T1 (mkF m 3 #[.val (.int (2 : Int32)), .val (.int p1), .val (.int p2), .val (.int p3), .unset] [(.ref ob1)])
  refine own_go (fun _ => XS.astore X1.here hx rfl (hb hby d1_3) rfl rfl (l' := #[.val (.int (2 : Int32)), .val (.int p1), .val (.int p2), .val (.int p3), .val (.ref ob1)]) rfl) ?_
  show GG _ _ _ _ _ _ _ T1 (mkF m 5 #[.val (.int (2 : Int32)), .val (.int p1), .val (.int p2), .val (.int p3), .val (.ref ob1)] [])
  refine own_go (fun _ => XS.iloadN X1.here hx rfl (hb hby d1_5) rfl) ?_
  show GG _ _ _ _ _ _ _ T1 (mkF m 6 #[.val (.int (2 : Int32)), .val (.int p1), .val (.int p2), .val (.int p3), .val (.ref ob1)] [(.int (2 : Int32))])
  refine own_go (fun _ => XS.iconst X1.here hx rfl (hb hby d1_6)) ?_
  show GG _ _ _ _ _ _ _ T1 (mkF m 7 #[.val (.int (2 : Int32)), .val (.int p1), .val (.int p2), .val (.int p3), .val (.ref ob1)] [(.int (1 : Int32)), (.int (2 : Int32))])
  have hc7 : (1 : Int32) < (2 : Int32) := by decide
  refine own_go (fun _ => XS.icmpNo X1.here hx rfl (hb hby d1_7) rfl (tlt hc7).2.2.2) ?_
  show GG _ _ _ _ _ _ _ T1 (mkF m 10 #[.val (.int (2 : Int32)), .val (.int p1), .val (.int p2), .val (.int p3), .val (.ref ob1)] [])
  refine own_go (fun _ => XS.aload X1.here hx rfl (hb hby d1_10) rfl rfl) ?_
  show GG _ _ _ _ _ _ _ T1 (mkF m 12 #[.val (.int (2 : Int32)), .val (.int p1), .val (.int p2), .val (.int p3), .val (.ref ob1)] [(.ref ob1)])
  refine own_go (fun _ => XS.iconst X1.here hx rfl (hb hby d1_12)) ?_
  show GG _ _ _ _ _ _ _ T1 (mkF m 13 #[.val (.int (2 : Int32)), .val (.int p1), .val (.int p2), .val (.int p3), .val (.ref ob1)] [(.int (1 : Int32)), (.ref ob1)])
  refine own_go (fun _ => XS.iconst X1.here hx rfl (hb hby d1_13)) ?_
  show GG _ _ _ _ _ _ _ T1 (mkF m 14 #[.val (.int (2 : Int32)), .val (.int p1), .val (.int p2), .val (.int p3), .val (.ref ob1)] [(.int (1 : Int32)), (.int (1 : Int32)), (.ref ob1)])
  obtain ⟨T2, h2, X2, e2, W2, V2, st2⟩ := own_iastore X1 hx hZ e1 V_ob1 (by decide) (Nat.le_of_ble_eq_true rfl) (g := (mkF m 14 #[.val (.int (2 : Int32)), .val (.int p1), .val (.int p2), .val (.int p3), .val (.ref ob1)] [(.int (1 : Int32)), (.int (1 : Int32)), (.ref ob1)])) rfl rfl (hb hby d1_14)
  have K0 := K0.wr W2 (Or.inr sz_ob1)
  have E_ob1 := E_ob1.wr W2
  have V_ob1 : Arx Z h2 ob1 .int [(.int (0 : Int32)), (.int (1 : Int32))] := V2
  have N2 := Fr.snoc X2 N0 g_ob1
  refine own_go (fun _ => st2 _) ?_
  show GG _ _ _ _ _ _ _ T2 (mkF m 15 #[.val (.int (2 : Int32)), .val (.int p1), .val (.int p2), .val (.int p3), .val (.ref ob1)] [])
  refine own_go (fun _ => XS.iloadN X2.here hx rfl (hb hby d1_15) rfl) ?_
  show GG _ _ _ _ _ _ _ T2 (mkF m 16 #[.val (.int (2 : Int32)), .val (.int p1), .val (.int p2), .val (.int p3), .val (.ref ob1)] [(.int (2 : Int32))])
  refine own_go (fun _ => XS.iconst X2.here hx rfl (hb hby d1_16)) ?_
  show GG _ _ _ _ _ _ _ T2 (mkF m 17 #[.val (.int (2 : Int32)), .val (.int p1), .val (.int p2), .val (.int p3), .val (.ref ob1)] [(.int (2 : Int32)), (.int (2 : Int32))])
  have hc17 : ¬ ((2 : Int32) < (2 : Int32)) := by decide
  refine own_go (fun _ => XS.icmpYes X2.here hx rfl (pc0 := 17) (pc' := 25) rfl (hb hby d1_17) rfl (flt hc17).2.2.2 (by decide) (by decide)) ?_
  show GG _ _ _ _ _ _ _ T2 (mkF m 25 #[.val (.int (2 : Int32)), .val (.int p1), .val (.int p2), .val (.int p3), .val (.ref ob1)] [])
  refine own_go (fun _ => XS.iloadN X2.here hx rfl (hb hby d1_25) rfl) ?_
  show GG _ _ _ _ _ _ _ T2 (mkF m 26 #[.val (.int (2 : Int32)), .val (.int p1), .val (.int p2), .val (.int p3), .val (.ref ob1)] [(.int (2 : Int32))])
  refine own_go (fun _ => XS.iconst X2.here hx rfl (hb hby d1_26)) ?_
  show GG _ _ _ _ _ _ _ T2 (mkF m 27 #[.val (.int (2 : Int32)), .val (.int p1), .val (.int p2), .val (.int p3), .val (.ref ob1)] [(.int (3 : Int32)), (.int (2 : Int32))])
  have hc27 : ¬ ((3 : Int32) < (2 : Int32)) := by decide
  refine own_go (fun _ => XS.icmpYes X2.here hx rfl (pc0 := 27) (pc' := 35) rfl (hb hby d1_27) rfl (flt hc27).2.2.2 (by decide) (by decide)) ?_
  show GG _ _ _ _ _ _ _ T2 (mkF m 35 #[.val (.int (2 : Int32)), .val (.int p1), .val (.int p2), .val (.int p3), .val (.ref ob1)] [])
  refine own_go (fun _ => XS.iloadN X2.here hx rfl (hb hby d1_35) rfl) ?_
  show GG _ _ _ _ _ _ _ T2 (mkF m 36 #[.val (.int (2 : Int32)), .val (.int p1), .val (.int p2), .val (.int p3), .val (.ref ob1)] [(.int (2 : Int32))])
  refine own_go (fun _ => XS.iconst X2.here hx rfl (hb hby d1_36)) ?_
  show GG _ _ _ _ _ _ _ T2 (mkF m 37 #[.val (.int (2 : Int32)), .val (.int p1), .val (.int p2), .val (.int p3), .val (.ref ob1)] [(.int (2 : Int32)), (.int (2 : Int32))])
  have hc37 : ¬ ((2 : Int32) < (2 : Int32)) := by decide
  refine own_go (fun _ => XS.icmpNo X2.here hx rfl (hb hby d1_37) rfl (flt hc37).1) ?_
  show GG _ _ _ _ _ _ _ T2 (mkF m 40 #[.val (.int (2 : Int32)), .val (.int p1), .val (.int p2), .val (.int p3), .val (.ref ob1)] [])
  refine own_go (fun _ => XS.aload X2.here hx rfl (hb hby d1_40) rfl rfl) ?_
  show GG _ _ _ _ _ _ _ T2 (mkF m 42 #[.val (.int (2 : Int32)), .val (.int p1), .val (.int p2), .val (.int p3), .val (.ref ob1)] [(.ref ob1)])
  refine own_go (fun _ => XS.iloadN X2.here hx rfl (hb hby d1_42) rfl) ?_
  show GG _ _ _ _ _ _ _ T2 (mkF m 43 #[.val (.int (2 : Int32)), .val (.int p1), .val (.int p2), .val (.int p3), .val (.ref ob1)] [(.int (2 : Int32)), (.ref ob1)])
  refine own_go (fun _ => XS.iconst X2.here hx rfl (hb hby d1_43)) ?_
  show GG _ _ _ _ _ _ _ T2 (mkF m 44 #[.val (.int (2 : Int32)), .val (.int p1), .val (.int p2), .val (.int p3), .val (.ref ob1)] [(.int (1 : Int32)), (.int (2 : Int32)), (.ref ob1)])
  refine own_go (fun _ => XS.isub X2.here hx rfl (hb hby d1_44) rfl) ?_
  show GG _ _ _ _ _ _ _ T2 (mkF m 45 #[.val (.int (2 : Int32)), .val (.int p1), .val (.int p2), .val (.int p3), .val (.ref ob1)] [(.int (1 : Int32)), (.ref ob1)])
  refine own_go (fun _ => XS.iloadN X2.here hx rfl (hb hby d1_45) rfl) ?_
  show GG _ _ _ _ _ _ _ T2 (mkF m 46 #[.val (.int (2 : Int32)), .val (.int p1), .val (.int p2), .val (.int p3), .val (.ref ob1)] [(.int p1), (.int (1 : Int32)), (.ref ob1)])
  refine own_go (fun _ => X2.ldcInt hx hown (mvT hZ (hw _ (List.mem_of_getElem? (i := 0) rfl))) (g := (mkF m 46 #[.val (.int (2 : Int32)), .val (.int p1), .val (.int p2), .val (.int p3), .val (.ref ob1)] [(.int p1), (.int (1 : Int32)), (.ref ob1)])) rfl (hb hby d1_46) _) ?_
  show GG _ _ _ _ _ _ _ T2 (mkF m 48 #[.val (.int (2 : Int32)), .val (.int p1), .val (.int p2), .val (.int p3), .val (.ref ob1)] [(.int (2147483647 : Int32)), (.int p1), (.int (1 : Int32)), (.ref ob1)])
  refine own_go (fun _ => XS.iand X2.here hx rfl (hb hby d1_48) rfl) ?_
  show GG _ _ _ _ _ _ _ T2 (mkF m 49 #[.val (.int (2 : Int32)), .val (.int p1), .val (.int p2), .val (.int p3), .val (.ref ob1)] [(.int (p1 &&& (2147483647 : Int32))), (.int (1 : Int32)), (.ref ob1)])
  refine own_go (fun _ => XS.iloadN X2.here hx rfl (hb hby d1_49) rfl) ?_
  show GG _ _ _ _ _ _ _ T2 (mkF m 50 #[.val (.int (2 : Int32)), .val (.int p1), .val (.int p2), .val (.int p3), .val (.ref ob1)] [(.int (2 : Int32)), (.int (p1 &&& (2147483647 : Int32))), (.int (1 : Int32)), (.ref ob1)])
  refine own_go (fun _ => iremM X2 hx rfl (hb hby d1_50) rfl (by decide)) ?_
  show GG _ _ _ _ _ _ _ T2 (mkF m 51 #[.val (.int (2 : Int32)), .val (.int p1), .val (.int p2), .val (.int p3), .val (.ref ob1)] [(.int ((p1 &&& (2147483647 : Int32)) % (2 : Int32))), (.int (1 : Int32)), (.ref ob1)])
  have hj51 := own_jx p1 2 2 (by decide) (by decide)
  refine own_callS X2 hx hZ (y := (⟨"com/example/hadamint/hadamint/GroupsPositionsPinLaw", "swap", "([III)V"⟩ : MethodName)) 0 hown (hw _ (List.mem_of_getElem? (i := 32) rfl)) (hw _ (List.mem_of_getElem? (i := 33) rfl)) (hw _ (List.mem_of_getElem? (i := 3) rfl)) (hw _ (List.mem_of_getElem? (i := 34) rfl)) (by decide) (argsL := [(.ref ob1), (.int (1 : Int32)), (.int ((p1 &&& (2147483647 : Int32)) % (2 : Int32)))]) (rest := []) (rm7 l Z a0 hw [] ob1 (1 : Int32) ((p1 &&& (2147483647 : Int32)) % (2 : Int32)) [0, 1] 1 (jx p1 2) h2 n0 (Nat.le_trans Z0 K0.1) V_ob1 g_ob1 (by decide) hj51.2 (by decide) (Nat.lt_of_lt_of_le hj51.1 (by decide))) (by decide) (by decide) (by decide) (by decide) (g := (mkF m 51 #[.val (.int (2 : Int32)), .val (.int p1), .val (.int p2), .val (.int p3), .val (.ref ob1)] [(.int ((p1 &&& (2147483647 : Int32)) % (2 : Int32))), (.int (1 : Int32)), (.ref ob1)])) rfl (by rw [hml]; rfl) (lenOf pd___III_V_477 rfl) rfl (by show 2 * 0 + _ ≤ _; exact Nat.le_of_eq rfl) (hb hby d1_51) e2 ?_
  rintro v3 T3 L3 X3 ⟨rfl, N3q, Kq3, Vq3⟩
  have N3 := Fr.app N2 N3q
  have K0 := K0.trans Kq3 (allS (Or.inr sz_ob1) all0)
  have E_ob1 := E_ob1.keep Kq3
  show GG _ _ _ _ _ _ _ T3 (mkF m 54 #[.val (.int (2 : Int32)), .val (.int p1), .val (.int p2), .val (.int p3), .val (.ref ob1)] [])
  refine own_go (fun _ => XS.iloadN X3.here hx rfl (hb hby d1_54) rfl) ?_
  show GG _ _ _ _ _ _ _ T3 (mkF m 55 #[.val (.int (2 : Int32)), .val (.int p1), .val (.int p2), .val (.int p3), .val (.ref ob1)] [(.int (2 : Int32))])
  refine own_go (fun _ => XS.iconst X3.here hx rfl (hb hby d1_55)) ?_
  show GG _ _ _ _ _ _ _ T3 (mkF m 56 #[.val (.int (2 : Int32)), .val (.int p1), .val (.int p2), .val (.int p3), .val (.ref ob1)] [(.int (3 : Int32)), (.int (2 : Int32))])
  have hc56 : (2 : Int32) < (3 : Int32) := by decide
  refine own_go (fun _ => XS.icmpYes X3.here hx rfl (pc0 := 56) (pc' := 75) rfl (hb hby d1_56) rfl (tlt hc56).1 (by decide) (by decide)) ?_
  show GG _ _ _ _ _ _ _ T3 (mkF m 75 #[.val (.int (2 : Int32)), .val (.int p1), .val (.int p2), .val (.int p3), .val (.ref ob1)] [])
  refine own_go (fun _ => XS.iloadN X3.here hx rfl (hb hby d1_75) rfl) ?_
  show GG _ _ _ _ _ _ _ T3 (mkF m 76 #[.val (.int (2 : Int32)), .val (.int p1), .val (.int p2), .val (.int p3), .val (.ref ob1)] [(.int (2 : Int32))])
  refine own_go (fun _ => XS.iconst X3.here hx rfl (hb hby d1_76)) ?_
  show GG _ _ _ _ _ _ _ T3 (mkF m 77 #[.val (.int (2 : Int32)), .val (.int p1), .val (.int p2), .val (.int p3), .val (.ref ob1)] [(.int (4 : Int32)), (.int (2 : Int32))])
  have hc77 : (2 : Int32) < (4 : Int32) := by decide
  refine own_go (fun _ => XS.icmpYes X3.here hx rfl (pc0 := 77) (pc' := 96) rfl (hb hby d1_77) rfl (tlt hc77).1 (by decide) (by decide)) ?_
  show GG _ _ _ _ _ _ _ T3 (mkF m 96 #[.val (.int (2 : Int32)), .val (.int p1), .val (.int p2), .val (.int p3), .val (.ref ob1)] [])
  refine own_go (fun _ => XS.aload X3.here hx rfl (hb hby d1_96) rfl rfl) ?_
  show GG _ _ _ _ _ _ _ T3 (mkF m 98 #[.val (.int (2 : Int32)), .val (.int p1), .val (.int p2), .val (.int p3), .val (.ref ob1)] [(.ref ob1)])
  refine own_ret X3 hx hlk (t := (.array .int)) (w := (.ref ob1)) Bd.returns rfl (Or.inr (Or.inr (Or.inr (Or.inr ⟨rfl, rfl, rfl⟩)))) (hb hby d1_98) (by decide) (by decide) ?_
  show Q1_2 Z p1 p2 p3 h0 n0 (some (.ref ob1)) T3.heap _
  exact ⟨_, rfl, N3, sz_ob1, K0, Vq3⟩
theorem d1_20 : decode method_3_code 20 = .ok (.aload 4, 2) := by decide +kernel
theorem d1_22 : decode method_3_code 22 = .ok (.iconst 2, 1) := by decide +kernel
theorem d1_23 : decode method_3_code 23 = .ok (.iconst 2, 1) := by decide +kernel
theorem d1_24 : decode method_3_code 24 = .ok (.iastore, 1) := by decide +kernel
theorem d1_59 : decode method_3_code 59 = .ok (.aload 4, 2) := by decide +kernel
theorem d1_61 : decode method_3_code 61 = .ok (.iload_n 0, 1) := by decide +kernel
theorem d1_62 : decode method_3_code 62 = .ok (.iconst 2, 1) := by decide +kernel
theorem d1_63 : decode method_3_code 63 = .ok (.isub, 1) := by decide +kernel
theorem d1_64 : decode method_3_code 64 = .ok (.iload_n 2, 1) := by decide +kernel
theorem d1_65 : decode method_3_code 65 = .ok (.ldc 7, 2) := by decide +kernel
theorem d1_67 : decode method_3_code 67 = .ok (.iand, 1) := by decide +kernel
theorem d1_68 : decode method_3_code 68 = .ok (.iload_n 0, 1) := by decide +kernel
theorem d1_69 : decode method_3_code 69 = .ok (.iconst 1, 1) := by decide +kernel
theorem d1_70 : decode method_3_code 70 = .ok (.isub, 1) := by decide +kernel
theorem d1_71 : decode method_3_code 71 = .ok (.irem, 1) := by decide +kernel
theorem d1_72 : decode method_3_code 72 = .ok (.invokestatic 8, 3) := by decide +kernel
def Q1_3 (Z : State) (p1 : Int32) (p2 : Int32) (p3 : Int32) (h0 : Heap) (n0 : Nat) (v : Option Value) (h : Heap) (L : List Loc) : Prop := ∃ b, v = some (.ref b) ∧ Fr n0 L ∧ h0.size ≤ b ∧ Keep h0 h [] ∧ Arx Z h b .int ((bl 3 p1 p2 p3).map Value.int)
set_option maxRecDepth 65536 in
set_option maxHeartbeats 40000000 in
theorem rm1_3 (l : Launch) (Z : State) (a0 : Array Value) (hw : ∀ d ∈ tables_1, d.before a0 Z = true) (ws : List Jvm.Cond) (p1 : Int32) (p2 : Int32) (p3 : Int32) (h0 : Heap) (n0 : Nat) (Z0 : n0 ≤ h0.size)  :
    own_CT l Z (⟨"com/example/hadamint/hadamint/GroupsPositionsPinLaw", "build", "(IIII)[I"⟩ : MethodName) method_3_code 5 (some (.array .int)) ws ({ frames := 1, cells := 1, slots := 3, locals := 15 } : Room) #[(.int (3 : Int32)), (.int p1), (.int p2), (.int p3)] h0 (Q1_3 Z p1 p2 p3 h0 n0) := by
  refine MetFree.of_bodySF (plainFor_of_name pn_com_example_hadamint_hadamint_GroupsPositionsPinLaw) hisR ?_
  intro p e s m args below meth c s₁ Bd hml0 hP hK
  obtain ⟨rfl, hZ, hh⟩ := hP
  have hx := Bd.exec
  have hby := Bd.bytes
  have hml : c.maxLocals = 5 := hml0
  have hown : s.vm.findClass "com/example/hadamint/hadamint/GroupsPositionsPinLaw" = some m.cls := findClass_of_methodNamed Bd.named
  have hnm := (name_of_methodNamed Bd.named Bd.method).1
  have hlk : meth.locks = false := BodyLoose.notSynchronized Bd
  have X0 : Stand p l e ({ frames := 1, cells := 1, slots := 3, locals := 15 } : Room) s m #[(.int (3 : Int32)), (.int p1), (.int p2), (.int p3)] below meth c s₁ [] 0 0 := Stand.of_body Bd
  have e0 : s₁.heap = h0 := by rw [← hh, Bd.state]; rfl
  have N0 := Fr.nil n0
  show GG p e below s ({ frames := 1, cells := 1, slots := 3, locals := 15 } : Room).cells ({ frames := 1, cells := 1, slots := 3, locals := 15 } : Room).slots (Q1_3 Z p1 p2 p3 h0 n0) s₁ (entryFrame m #[(.int (3 : Int32)), (.int p1), (.int p2), (.int p3)] 5)
  refine own_in (ef_1 m (3 : Int32) p1 p2 p3) ?_
  show GG _ _ _ _ _ _ _ s₁ (mkF m 0 #[.val (.int (3 : Int32)), .val (.int p1), .val (.int p2), .val (.int p3), .unset] [])
  refine own_go (fun _ => XS.iloadN X0.here hx rfl (hb hby d1_0) rfl) ?_
  show GG _ _ _ _ _ _ _ s₁ (mkF m 1 #[.val (.int (3 : Int32)), .val (.int p1), .val (.int p2), .val (.int p3), .unset] [(.int (3 : Int32))])
  have K0 := Keep.refl h0 []
  obtain ⟨T1, h1, ob1, g1, X1, e1, E1, V_ob1, E_ob1, st1⟩ := own_newarr X0 hx hZ (hw _ (List.mem_of_getElem? (i := 5) rfl)) e0 (g := (mkF m 1 #[.val (.int (3 : Int32)), .val (.int p1), .val (.int p2), .val (.int p3), .unset] [(.int (3 : Int32))])) rfl (hb hby d1_1) rfl (by decide) (cap := 3) (by decide) (by decide) (by decide) (by decide) (ad := "[I") (by decide)
  have sz_ob1 : h0.size ≤ ob1 := Nat.le_trans K0.1 (Nat.le_of_eq g1.symm)
  have g_ob1 : n0 ≤ ob1 := Nat.le_trans Z0 sz_ob1
  have K0 := K0.ext E1
  have V_ob1 : Arx Z h1 ob1 .int [(.int (0 : Int32)), (.int (0 : Int32)), (.int (0 : Int32))] := V_ob1
  refine own_go (fun _ => st1 _) ?_
  show GG _ _ _ _ _ _ _ T1 (mkF m 3 #[.val (.int (3 : Int32)), .val (.int p1), .val (.int p2), .val (.int p3), .unset] [(.ref ob1)])
  refine own_go (fun _ => XS.astore X1.here hx rfl (hb hby d1_3) rfl rfl (l' := #[.val (.int (3 : Int32)), .val (.int p1), .val (.int p2), .val (.int p3), .val (.ref ob1)]) rfl) ?_
  show GG _ _ _ _ _ _ _ T1 (mkF m 5 #[.val (.int (3 : Int32)), .val (.int p1), .val (.int p2), .val (.int p3), .val (.ref ob1)] [])
  refine own_go (fun _ => XS.iloadN X1.here hx rfl (hb hby d1_5) rfl) ?_
  show GG _ _ _ _ _ _ _ T1 (mkF m 6 #[.val (.int (3 : Int32)), .val (.int p1), .val (.int p2), .val (.int p3), .val (.ref ob1)] [(.int (3 : Int32))])
  refine own_go (fun _ => XS.iconst X1.here hx rfl (hb hby d1_6)) ?_
  show GG _ _ _ _ _ _ _ T1 (mkF m 7 #[.val (.int (3 : Int32)), .val (.int p1), .val (.int p2), .val (.int p3), .val (.ref ob1)] [(.int (1 : Int32)), (.int (3 : Int32))])
  have hc7 : (1 : Int32) < (3 : Int32) := by decide
  refine own_go (fun _ => XS.icmpNo X1.here hx rfl (hb hby d1_7) rfl (tlt hc7).2.2.2) ?_
  show GG _ _ _ _ _ _ _ T1 (mkF m 10 #[.val (.int (3 : Int32)), .val (.int p1), .val (.int p2), .val (.int p3), .val (.ref ob1)] [])
  refine own_go (fun _ => XS.aload X1.here hx rfl (hb hby d1_10) rfl rfl) ?_
  show GG _ _ _ _ _ _ _ T1 (mkF m 12 #[.val (.int (3 : Int32)), .val (.int p1), .val (.int p2), .val (.int p3), .val (.ref ob1)] [(.ref ob1)])
  refine own_go (fun _ => XS.iconst X1.here hx rfl (hb hby d1_12)) ?_
  show GG _ _ _ _ _ _ _ T1 (mkF m 13 #[.val (.int (3 : Int32)), .val (.int p1), .val (.int p2), .val (.int p3), .val (.ref ob1)] [(.int (1 : Int32)), (.ref ob1)])
  refine own_go (fun _ => XS.iconst X1.here hx rfl (hb hby d1_13)) ?_
  show GG _ _ _ _ _ _ _ T1 (mkF m 14 #[.val (.int (3 : Int32)), .val (.int p1), .val (.int p2), .val (.int p3), .val (.ref ob1)] [(.int (1 : Int32)), (.int (1 : Int32)), (.ref ob1)])
  obtain ⟨T2, h2, X2, e2, W2, V2, st2⟩ := own_iastore X1 hx hZ e1 V_ob1 (by decide) (Nat.le_of_ble_eq_true rfl) (g := (mkF m 14 #[.val (.int (3 : Int32)), .val (.int p1), .val (.int p2), .val (.int p3), .val (.ref ob1)] [(.int (1 : Int32)), (.int (1 : Int32)), (.ref ob1)])) rfl rfl (hb hby d1_14)
  have K0 := K0.wr W2 (Or.inr sz_ob1)
  have E_ob1 := E_ob1.wr W2
  have V_ob1 : Arx Z h2 ob1 .int [(.int (0 : Int32)), (.int (1 : Int32)), (.int (0 : Int32))] := V2
  have N2 := Fr.snoc X2 N0 g_ob1
  refine own_go (fun _ => st2 _) ?_
  show GG _ _ _ _ _ _ _ T2 (mkF m 15 #[.val (.int (3 : Int32)), .val (.int p1), .val (.int p2), .val (.int p3), .val (.ref ob1)] [])
  refine own_go (fun _ => XS.iloadN X2.here hx rfl (hb hby d1_15) rfl) ?_
  show GG _ _ _ _ _ _ _ T2 (mkF m 16 #[.val (.int (3 : Int32)), .val (.int p1), .val (.int p2), .val (.int p3), .val (.ref ob1)] [(.int (3 : Int32))])
  refine own_go (fun _ => XS.iconst X2.here hx rfl (hb hby d1_16)) ?_
  show GG _ _ _ _ _ _ _ T2 (mkF m 17 #[.val (.int (3 : Int32)), .val (.int p1), .val (.int p2), .val (.int p3), .val (.ref ob1)] [(.int (2 : Int32)), (.int (3 : Int32))])
  have hc17 : (2 : Int32) < (3 : Int32) := by decide
  refine own_go (fun _ => XS.icmpNo X2.here hx rfl (hb hby d1_17) rfl (tlt hc17).2.2.2) ?_
  show GG _ _ _ _ _ _ _ T2 (mkF m 20 #[.val (.int (3 : Int32)), .val (.int p1), .val (.int p2), .val (.int p3), .val (.ref ob1)] [])
  refine own_go (fun _ => XS.aload X2.here hx rfl (hb hby d1_20) rfl rfl) ?_
  show GG _ _ _ _ _ _ _ T2 (mkF m 22 #[.val (.int (3 : Int32)), .val (.int p1), .val (.int p2), .val (.int p3), .val (.ref ob1)] [(.ref ob1)])
  refine own_go (fun _ => XS.iconst X2.here hx rfl (hb hby d1_22)) ?_
  show GG _ _ _ _ _ _ _ T2 (mkF m 23 #[.val (.int (3 : Int32)), .val (.int p1), .val (.int p2), .val (.int p3), .val (.ref ob1)] [(.int (2 : Int32)), (.ref ob1)])
  refine own_go (fun _ => XS.iconst X2.here hx rfl (hb hby d1_23)) ?_
  show GG _ _ _ _ _ _ _ T2 (mkF m 24 #[.val (.int (3 : Int32)), .val (.int p1), .val (.int p2), .val (.int p3), .val (.ref ob1)] [(.int (2 : Int32)), (.int (2 : Int32)), (.ref ob1)])
  obtain ⟨T3, h3, X3, e3, W3, V3, st3⟩ := own_iastore X2 hx hZ e2 V_ob1 (by decide) (Nat.le_of_ble_eq_true rfl) (g := (mkF m 24 #[.val (.int (3 : Int32)), .val (.int p1), .val (.int p2), .val (.int p3), .val (.ref ob1)] [(.int (2 : Int32)), (.int (2 : Int32)), (.ref ob1)])) rfl rfl (hb hby d1_24)
  have K0 := K0.wr W3 (Or.inr sz_ob1)
  have E_ob1 := E_ob1.wr W3
  have V_ob1 : Arx Z h3 ob1 .int [(.int (0 : Int32)), (.int (1 : Int32)), (.int (2 : Int32))] := V3
  have N3 := Fr.snoc X3 N2 g_ob1
  refine own_go (fun _ => st3 _) ?_
  show GG _ _ _ _ _ _ _ T3 (mkF m 25 #[.val (.int (3 : Int32)), .val (.int p1), .val (.int p2), .val (.int p3), .val (.ref ob1)] [])
  refine own_go (fun _ => XS.iloadN X3.here hx rfl (hb hby d1_25) rfl) ?_
  show GG _ _ _ _ _ _ _ T3 (mkF m 26 #[.val (.int (3 : Int32)), .val (.int p1), .val (.int p2), .val (.int p3), .val (.ref ob1)] [(.int (3 : Int32))])
  refine own_go (fun _ => XS.iconst X3.here hx rfl (hb hby d1_26)) ?_
  show GG _ _ _ _ _ _ _ T3 (mkF m 27 #[.val (.int (3 : Int32)), .val (.int p1), .val (.int p2), .val (.int p3), .val (.ref ob1)] [(.int (3 : Int32)), (.int (3 : Int32))])
  have hc27 : ¬ ((3 : Int32) < (3 : Int32)) := by decide
  refine own_go (fun _ => XS.icmpYes X3.here hx rfl (pc0 := 27) (pc' := 35) rfl (hb hby d1_27) rfl (flt hc27).2.2.2 (by decide) (by decide)) ?_
  show GG _ _ _ _ _ _ _ T3 (mkF m 35 #[.val (.int (3 : Int32)), .val (.int p1), .val (.int p2), .val (.int p3), .val (.ref ob1)] [])
  refine own_go (fun _ => XS.iloadN X3.here hx rfl (hb hby d1_35) rfl) ?_
  show GG _ _ _ _ _ _ _ T3 (mkF m 36 #[.val (.int (3 : Int32)), .val (.int p1), .val (.int p2), .val (.int p3), .val (.ref ob1)] [(.int (3 : Int32))])
  refine own_go (fun _ => XS.iconst X3.here hx rfl (hb hby d1_36)) ?_
  show GG _ _ _ _ _ _ _ T3 (mkF m 37 #[.val (.int (3 : Int32)), .val (.int p1), .val (.int p2), .val (.int p3), .val (.ref ob1)] [(.int (2 : Int32)), (.int (3 : Int32))])
  have hc37 : ¬ ((3 : Int32) < (2 : Int32)) := by decide
  refine own_go (fun _ => XS.icmpNo X3.here hx rfl (hb hby d1_37) rfl (flt hc37).1) ?_
  show GG _ _ _ _ _ _ _ T3 (mkF m 40 #[.val (.int (3 : Int32)), .val (.int p1), .val (.int p2), .val (.int p3), .val (.ref ob1)] [])
  refine own_go (fun _ => XS.aload X3.here hx rfl (hb hby d1_40) rfl rfl) ?_
  show GG _ _ _ _ _ _ _ T3 (mkF m 42 #[.val (.int (3 : Int32)), .val (.int p1), .val (.int p2), .val (.int p3), .val (.ref ob1)] [(.ref ob1)])
  refine own_go (fun _ => XS.iloadN X3.here hx rfl (hb hby d1_42) rfl) ?_
  show GG _ _ _ _ _ _ _ T3 (mkF m 43 #[.val (.int (3 : Int32)), .val (.int p1), .val (.int p2), .val (.int p3), .val (.ref ob1)] [(.int (3 : Int32)), (.ref ob1)])
  refine own_go (fun _ => XS.iconst X3.here hx rfl (hb hby d1_43)) ?_
  show GG _ _ _ _ _ _ _ T3 (mkF m 44 #[.val (.int (3 : Int32)), .val (.int p1), .val (.int p2), .val (.int p3), .val (.ref ob1)] [(.int (1 : Int32)), (.int (3 : Int32)), (.ref ob1)])
  refine own_go (fun _ => XS.isub X3.here hx rfl (hb hby d1_44) rfl) ?_
  show GG _ _ _ _ _ _ _ T3 (mkF m 45 #[.val (.int (3 : Int32)), .val (.int p1), .val (.int p2), .val (.int p3), .val (.ref ob1)] [(.int (2 : Int32)), (.ref ob1)])
  refine own_go (fun _ => XS.iloadN X3.here hx rfl (hb hby d1_45) rfl) ?_
  show GG _ _ _ _ _ _ _ T3 (mkF m 46 #[.val (.int (3 : Int32)), .val (.int p1), .val (.int p2), .val (.int p3), .val (.ref ob1)] [(.int p1), (.int (2 : Int32)), (.ref ob1)])
  refine own_go (fun _ => X3.ldcInt hx hown (mvT hZ (hw _ (List.mem_of_getElem? (i := 0) rfl))) (g := (mkF m 46 #[.val (.int (3 : Int32)), .val (.int p1), .val (.int p2), .val (.int p3), .val (.ref ob1)] [(.int p1), (.int (2 : Int32)), (.ref ob1)])) rfl (hb hby d1_46) _) ?_
  show GG _ _ _ _ _ _ _ T3 (mkF m 48 #[.val (.int (3 : Int32)), .val (.int p1), .val (.int p2), .val (.int p3), .val (.ref ob1)] [(.int (2147483647 : Int32)), (.int p1), (.int (2 : Int32)), (.ref ob1)])
  refine own_go (fun _ => XS.iand X3.here hx rfl (hb hby d1_48) rfl) ?_
  show GG _ _ _ _ _ _ _ T3 (mkF m 49 #[.val (.int (3 : Int32)), .val (.int p1), .val (.int p2), .val (.int p3), .val (.ref ob1)] [(.int (p1 &&& (2147483647 : Int32))), (.int (2 : Int32)), (.ref ob1)])
  refine own_go (fun _ => XS.iloadN X3.here hx rfl (hb hby d1_49) rfl) ?_
  show GG _ _ _ _ _ _ _ T3 (mkF m 50 #[.val (.int (3 : Int32)), .val (.int p1), .val (.int p2), .val (.int p3), .val (.ref ob1)] [(.int (3 : Int32)), (.int (p1 &&& (2147483647 : Int32))), (.int (2 : Int32)), (.ref ob1)])
  refine own_go (fun _ => iremM X3 hx rfl (hb hby d1_50) rfl (by decide)) ?_
  show GG _ _ _ _ _ _ _ T3 (mkF m 51 #[.val (.int (3 : Int32)), .val (.int p1), .val (.int p2), .val (.int p3), .val (.ref ob1)] [(.int ((p1 &&& (2147483647 : Int32)) % (3 : Int32))), (.int (2 : Int32)), (.ref ob1)])
  have hj51 := own_jx p1 3 3 (by decide) (by decide)
  refine own_callS X3 hx hZ (y := (⟨"com/example/hadamint/hadamint/GroupsPositionsPinLaw", "swap", "([III)V"⟩ : MethodName)) 0 hown (hw _ (List.mem_of_getElem? (i := 32) rfl)) (hw _ (List.mem_of_getElem? (i := 33) rfl)) (hw _ (List.mem_of_getElem? (i := 3) rfl)) (hw _ (List.mem_of_getElem? (i := 34) rfl)) (by decide) (argsL := [(.ref ob1), (.int (2 : Int32)), (.int ((p1 &&& (2147483647 : Int32)) % (3 : Int32)))]) (rest := []) (rm7 l Z a0 hw [] ob1 (2 : Int32) ((p1 &&& (2147483647 : Int32)) % (3 : Int32)) [0, 1, 2] 2 (jx p1 3) h3 n0 (Nat.le_trans Z0 K0.1) V_ob1 g_ob1 (by decide) hj51.2 (by decide) (Nat.lt_of_lt_of_le hj51.1 (by decide))) (by decide) (by decide) (by decide) (by decide) (g := (mkF m 51 #[.val (.int (3 : Int32)), .val (.int p1), .val (.int p2), .val (.int p3), .val (.ref ob1)] [(.int ((p1 &&& (2147483647 : Int32)) % (3 : Int32))), (.int (2 : Int32)), (.ref ob1)])) rfl (by rw [hml]; rfl) (lenOf pd___III_V_477 rfl) rfl (by show 2 * 0 + _ ≤ _; exact Nat.le_of_eq rfl) (hb hby d1_51) e3 ?_
  rintro v4 T4 L4 X4 ⟨rfl, N4q, Kq4, Vq4⟩
  have N4 := Fr.app N3 N4q
  have K0 := K0.trans Kq4 (allS (Or.inr sz_ob1) all0)
  have E_ob1 := E_ob1.keep Kq4
  show GG _ _ _ _ _ _ _ T4 (mkF m 54 #[.val (.int (3 : Int32)), .val (.int p1), .val (.int p2), .val (.int p3), .val (.ref ob1)] [])
  refine own_go (fun _ => XS.iloadN X4.here hx rfl (hb hby d1_54) rfl) ?_
  show GG _ _ _ _ _ _ _ T4 (mkF m 55 #[.val (.int (3 : Int32)), .val (.int p1), .val (.int p2), .val (.int p3), .val (.ref ob1)] [(.int (3 : Int32))])
  refine own_go (fun _ => XS.iconst X4.here hx rfl (hb hby d1_55)) ?_
  show GG _ _ _ _ _ _ _ T4 (mkF m 56 #[.val (.int (3 : Int32)), .val (.int p1), .val (.int p2), .val (.int p3), .val (.ref ob1)] [(.int (3 : Int32)), (.int (3 : Int32))])
  have hc56 : ¬ ((3 : Int32) < (3 : Int32)) := by decide
  refine own_go (fun _ => XS.icmpNo X4.here hx rfl (hb hby d1_56) rfl (flt hc56).1) ?_
  show GG _ _ _ _ _ _ _ T4 (mkF m 59 #[.val (.int (3 : Int32)), .val (.int p1), .val (.int p2), .val (.int p3), .val (.ref ob1)] [])
  refine own_go (fun _ => XS.aload X4.here hx rfl (hb hby d1_59) rfl rfl) ?_
  show GG _ _ _ _ _ _ _ T4 (mkF m 61 #[.val (.int (3 : Int32)), .val (.int p1), .val (.int p2), .val (.int p3), .val (.ref ob1)] [(.ref ob1)])
  refine own_go (fun _ => XS.iloadN X4.here hx rfl (hb hby d1_61) rfl) ?_
  show GG _ _ _ _ _ _ _ T4 (mkF m 62 #[.val (.int (3 : Int32)), .val (.int p1), .val (.int p2), .val (.int p3), .val (.ref ob1)] [(.int (3 : Int32)), (.ref ob1)])
  refine own_go (fun _ => XS.iconst X4.here hx rfl (hb hby d1_62)) ?_
  show GG _ _ _ _ _ _ _ T4 (mkF m 63 #[.val (.int (3 : Int32)), .val (.int p1), .val (.int p2), .val (.int p3), .val (.ref ob1)] [(.int (2 : Int32)), (.int (3 : Int32)), (.ref ob1)])
  refine own_go (fun _ => XS.isub X4.here hx rfl (hb hby d1_63) rfl) ?_
  show GG _ _ _ _ _ _ _ T4 (mkF m 64 #[.val (.int (3 : Int32)), .val (.int p1), .val (.int p2), .val (.int p3), .val (.ref ob1)] [(.int (1 : Int32)), (.ref ob1)])
  refine own_go (fun _ => XS.iloadN X4.here hx rfl (hb hby d1_64) rfl) ?_
  show GG _ _ _ _ _ _ _ T4 (mkF m 65 #[.val (.int (3 : Int32)), .val (.int p1), .val (.int p2), .val (.int p3), .val (.ref ob1)] [(.int p2), (.int (1 : Int32)), (.ref ob1)])
  refine own_go (fun _ => X4.ldcInt hx hown (mvT hZ (hw _ (List.mem_of_getElem? (i := 0) rfl))) (g := (mkF m 65 #[.val (.int (3 : Int32)), .val (.int p1), .val (.int p2), .val (.int p3), .val (.ref ob1)] [(.int p2), (.int (1 : Int32)), (.ref ob1)])) rfl (hb hby d1_65) _) ?_
  show GG _ _ _ _ _ _ _ T4 (mkF m 67 #[.val (.int (3 : Int32)), .val (.int p1), .val (.int p2), .val (.int p3), .val (.ref ob1)] [(.int (2147483647 : Int32)), (.int p2), (.int (1 : Int32)), (.ref ob1)])
  refine own_go (fun _ => XS.iand X4.here hx rfl (hb hby d1_67) rfl) ?_
  show GG _ _ _ _ _ _ _ T4 (mkF m 68 #[.val (.int (3 : Int32)), .val (.int p1), .val (.int p2), .val (.int p3), .val (.ref ob1)] [(.int (p2 &&& (2147483647 : Int32))), (.int (1 : Int32)), (.ref ob1)])
  refine own_go (fun _ => XS.iloadN X4.here hx rfl (hb hby d1_68) rfl) ?_
  show GG _ _ _ _ _ _ _ T4 (mkF m 69 #[.val (.int (3 : Int32)), .val (.int p1), .val (.int p2), .val (.int p3), .val (.ref ob1)] [(.int (3 : Int32)), (.int (p2 &&& (2147483647 : Int32))), (.int (1 : Int32)), (.ref ob1)])
  refine own_go (fun _ => XS.iconst X4.here hx rfl (hb hby d1_69)) ?_
  show GG _ _ _ _ _ _ _ T4 (mkF m 70 #[.val (.int (3 : Int32)), .val (.int p1), .val (.int p2), .val (.int p3), .val (.ref ob1)] [(.int (1 : Int32)), (.int (3 : Int32)), (.int (p2 &&& (2147483647 : Int32))), (.int (1 : Int32)), (.ref ob1)])
  refine own_go (fun _ => XS.isub X4.here hx rfl (hb hby d1_70) rfl) ?_
  show GG _ _ _ _ _ _ _ T4 (mkF m 71 #[.val (.int (3 : Int32)), .val (.int p1), .val (.int p2), .val (.int p3), .val (.ref ob1)] [(.int (2 : Int32)), (.int (p2 &&& (2147483647 : Int32))), (.int (1 : Int32)), (.ref ob1)])
  refine own_go (fun _ => iremM X4 hx rfl (hb hby d1_71) rfl (by decide)) ?_
  show GG _ _ _ _ _ _ _ T4 (mkF m 72 #[.val (.int (3 : Int32)), .val (.int p1), .val (.int p2), .val (.int p3), .val (.ref ob1)] [(.int ((p2 &&& (2147483647 : Int32)) % (2 : Int32))), (.int (1 : Int32)), (.ref ob1)])
  have hj72 := own_jx p2 2 2 (by decide) (by decide)
  refine own_callS X4 hx hZ (y := (⟨"com/example/hadamint/hadamint/GroupsPositionsPinLaw", "swap", "([III)V"⟩ : MethodName)) 0 hown (hw _ (List.mem_of_getElem? (i := 32) rfl)) (hw _ (List.mem_of_getElem? (i := 33) rfl)) (hw _ (List.mem_of_getElem? (i := 3) rfl)) (hw _ (List.mem_of_getElem? (i := 34) rfl)) (by decide) (argsL := [(.ref ob1), (.int (1 : Int32)), (.int ((p2 &&& (2147483647 : Int32)) % (2 : Int32)))]) (rest := []) (rm7 l Z a0 hw [] ob1 (1 : Int32) ((p2 &&& (2147483647 : Int32)) % (2 : Int32)) (swapL [0, 1, 2] 2 (jx p1 3)) 1 (jx p2 2) T4.heap n0 (Nat.le_trans Z0 K0.1) Vq4 g_ob1 (by decide) hj72.2 (by simp only [own_swl]; decide) (by simp only [own_swl]; exact Nat.lt_of_lt_of_le hj72.1 (by decide))) (by decide) (by decide) (by decide) (by decide) (g := (mkF m 72 #[.val (.int (3 : Int32)), .val (.int p1), .val (.int p2), .val (.int p3), .val (.ref ob1)] [(.int ((p2 &&& (2147483647 : Int32)) % (2 : Int32))), (.int (1 : Int32)), (.ref ob1)])) rfl (by rw [hml]; rfl) (lenOf pd___III_V_477 rfl) rfl (by show 2 * 0 + _ ≤ _; exact Nat.le_of_eq rfl) (hb hby d1_72) rfl ?_
  rintro v5 T5 L5 X5 ⟨rfl, N5q, Kq5, Vq5⟩
  have N5 := Fr.app N4 N5q
  have K0 := K0.trans Kq5 (allS (Or.inr sz_ob1) all0)
  have E_ob1 := E_ob1.keep Kq5
  show GG _ _ _ _ _ _ _ T5 (mkF m 75 #[.val (.int (3 : Int32)), .val (.int p1), .val (.int p2), .val (.int p3), .val (.ref ob1)] [])
  refine own_go (fun _ => XS.iloadN X5.here hx rfl (hb hby d1_75) rfl) ?_
  show GG _ _ _ _ _ _ _ T5 (mkF m 76 #[.val (.int (3 : Int32)), .val (.int p1), .val (.int p2), .val (.int p3), .val (.ref ob1)] [(.int (3 : Int32))])
  refine own_go (fun _ => XS.iconst X5.here hx rfl (hb hby d1_76)) ?_
  show GG _ _ _ _ _ _ _ T5 (mkF m 77 #[.val (.int (3 : Int32)), .val (.int p1), .val (.int p2), .val (.int p3), .val (.ref ob1)] [(.int (4 : Int32)), (.int (3 : Int32))])
  have hc77 : (3 : Int32) < (4 : Int32) := by decide
  refine own_go (fun _ => XS.icmpYes X5.here hx rfl (pc0 := 77) (pc' := 96) rfl (hb hby d1_77) rfl (tlt hc77).1 (by decide) (by decide)) ?_
  show GG _ _ _ _ _ _ _ T5 (mkF m 96 #[.val (.int (3 : Int32)), .val (.int p1), .val (.int p2), .val (.int p3), .val (.ref ob1)] [])
  refine own_go (fun _ => XS.aload X5.here hx rfl (hb hby d1_96) rfl rfl) ?_
  show GG _ _ _ _ _ _ _ T5 (mkF m 98 #[.val (.int (3 : Int32)), .val (.int p1), .val (.int p2), .val (.int p3), .val (.ref ob1)] [(.ref ob1)])
  refine own_ret X5 hx hlk (t := (.array .int)) (w := (.ref ob1)) Bd.returns rfl (Or.inr (Or.inr (Or.inr (Or.inr ⟨rfl, rfl, rfl⟩)))) (hb hby d1_98) (by decide) (by decide) ?_
  show Q1_3 Z p1 p2 p3 h0 n0 (some (.ref ob1)) T5.heap _
  exact ⟨_, rfl, N5, sz_ob1, K0, Vq5⟩
theorem d1_30 : decode method_3_code 30 = .ok (.aload 4, 2) := by decide +kernel
theorem d1_32 : decode method_3_code 32 = .ok (.iconst 3, 1) := by decide +kernel
theorem d1_33 : decode method_3_code 33 = .ok (.iconst 3, 1) := by decide +kernel
theorem d1_34 : decode method_3_code 34 = .ok (.iastore, 1) := by decide +kernel
theorem d1_80 : decode method_3_code 80 = .ok (.aload 4, 2) := by decide +kernel
theorem d1_82 : decode method_3_code 82 = .ok (.iload_n 0, 1) := by decide +kernel
theorem d1_83 : decode method_3_code 83 = .ok (.iconst 3, 1) := by decide +kernel
theorem d1_84 : decode method_3_code 84 = .ok (.isub, 1) := by decide +kernel
theorem d1_85 : decode method_3_code 85 = .ok (.iload_n 3, 1) := by decide +kernel
theorem d1_86 : decode method_3_code 86 = .ok (.ldc 7, 2) := by decide +kernel
theorem d1_88 : decode method_3_code 88 = .ok (.iand, 1) := by decide +kernel
theorem d1_89 : decode method_3_code 89 = .ok (.iload_n 0, 1) := by decide +kernel
theorem d1_90 : decode method_3_code 90 = .ok (.iconst 2, 1) := by decide +kernel
theorem d1_91 : decode method_3_code 91 = .ok (.isub, 1) := by decide +kernel
theorem d1_92 : decode method_3_code 92 = .ok (.irem, 1) := by decide +kernel
theorem d1_93 : decode method_3_code 93 = .ok (.invokestatic 8, 3) := by decide +kernel
def Q1_4 (Z : State) (p1 : Int32) (p2 : Int32) (p3 : Int32) (h0 : Heap) (n0 : Nat) (v : Option Value) (h : Heap) (L : List Loc) : Prop := ∃ b, v = some (.ref b) ∧ Fr n0 L ∧ h0.size ≤ b ∧ Keep h0 h [] ∧ Arx Z h b .int ((bl 4 p1 p2 p3).map Value.int)
set_option maxRecDepth 65536 in
set_option maxHeartbeats 40000000 in
theorem rm1_4 (l : Launch) (Z : State) (a0 : Array Value) (hw : ∀ d ∈ tables_1, d.before a0 Z = true) (ws : List Jvm.Cond) (p1 : Int32) (p2 : Int32) (p3 : Int32) (h0 : Heap) (n0 : Nat) (Z0 : n0 ≤ h0.size)  :
    own_CT l Z (⟨"com/example/hadamint/hadamint/GroupsPositionsPinLaw", "build", "(IIII)[I"⟩ : MethodName) method_3_code 5 (some (.array .int)) ws ({ frames := 1, cells := 1, slots := 4, locals := 15 } : Room) #[(.int (4 : Int32)), (.int p1), (.int p2), (.int p3)] h0 (Q1_4 Z p1 p2 p3 h0 n0) := by
  refine MetFree.of_bodySF (plainFor_of_name pn_com_example_hadamint_hadamint_GroupsPositionsPinLaw) hisR ?_
  intro p e s m args below meth c s₁ Bd hml0 hP hK
  obtain ⟨rfl, hZ, hh⟩ := hP
  have hx := Bd.exec
  have hby := Bd.bytes
  have hml : c.maxLocals = 5 := hml0
  have hown : s.vm.findClass "com/example/hadamint/hadamint/GroupsPositionsPinLaw" = some m.cls := findClass_of_methodNamed Bd.named
  have hnm := (name_of_methodNamed Bd.named Bd.method).1
  have hlk : meth.locks = false := BodyLoose.notSynchronized Bd
  have X0 : Stand p l e ({ frames := 1, cells := 1, slots := 4, locals := 15 } : Room) s m #[(.int (4 : Int32)), (.int p1), (.int p2), (.int p3)] below meth c s₁ [] 0 0 := Stand.of_body Bd
  have e0 : s₁.heap = h0 := by rw [← hh, Bd.state]; rfl
  have N0 := Fr.nil n0
  show GG p e below s ({ frames := 1, cells := 1, slots := 4, locals := 15 } : Room).cells ({ frames := 1, cells := 1, slots := 4, locals := 15 } : Room).slots (Q1_4 Z p1 p2 p3 h0 n0) s₁ (entryFrame m #[(.int (4 : Int32)), (.int p1), (.int p2), (.int p3)] 5)
  refine own_in (ef_1 m (4 : Int32) p1 p2 p3) ?_
  show GG _ _ _ _ _ _ _ s₁ (mkF m 0 #[.val (.int (4 : Int32)), .val (.int p1), .val (.int p2), .val (.int p3), .unset] [])
  refine own_go (fun _ => XS.iloadN X0.here hx rfl (hb hby d1_0) rfl) ?_
  show GG _ _ _ _ _ _ _ s₁ (mkF m 1 #[.val (.int (4 : Int32)), .val (.int p1), .val (.int p2), .val (.int p3), .unset] [(.int (4 : Int32))])
  have K0 := Keep.refl h0 []
  obtain ⟨T1, h1, ob1, g1, X1, e1, E1, V_ob1, E_ob1, st1⟩ := own_newarr X0 hx hZ (hw _ (List.mem_of_getElem? (i := 5) rfl)) e0 (g := (mkF m 1 #[.val (.int (4 : Int32)), .val (.int p1), .val (.int p2), .val (.int p3), .unset] [(.int (4 : Int32))])) rfl (hb hby d1_1) rfl (by decide) (cap := 4) (by decide) (by decide) (by decide) (by decide) (ad := "[I") (by decide)
  have sz_ob1 : h0.size ≤ ob1 := Nat.le_trans K0.1 (Nat.le_of_eq g1.symm)
  have g_ob1 : n0 ≤ ob1 := Nat.le_trans Z0 sz_ob1
  have K0 := K0.ext E1
  have V_ob1 : Arx Z h1 ob1 .int [(.int (0 : Int32)), (.int (0 : Int32)), (.int (0 : Int32)), (.int (0 : Int32))] := V_ob1
  refine own_go (fun _ => st1 _) ?_
  show GG _ _ _ _ _ _ _ T1 (mkF m 3 #[.val (.int (4 : Int32)), .val (.int p1), .val (.int p2), .val (.int p3), .unset] [(.ref ob1)])
  refine own_go (fun _ => XS.astore X1.here hx rfl (hb hby d1_3) rfl rfl (l' := #[.val (.int (4 : Int32)), .val (.int p1), .val (.int p2), .val (.int p3), .val (.ref ob1)]) rfl) ?_
  show GG _ _ _ _ _ _ _ T1 (mkF m 5 #[.val (.int (4 : Int32)), .val (.int p1), .val (.int p2), .val (.int p3), .val (.ref ob1)] [])
  refine own_go (fun _ => XS.iloadN X1.here hx rfl (hb hby d1_5) rfl) ?_
  show GG _ _ _ _ _ _ _ T1 (mkF m 6 #[.val (.int (4 : Int32)), .val (.int p1), .val (.int p2), .val (.int p3), .val (.ref ob1)] [(.int (4 : Int32))])
  refine own_go (fun _ => XS.iconst X1.here hx rfl (hb hby d1_6)) ?_
  show GG _ _ _ _ _ _ _ T1 (mkF m 7 #[.val (.int (4 : Int32)), .val (.int p1), .val (.int p2), .val (.int p3), .val (.ref ob1)] [(.int (1 : Int32)), (.int (4 : Int32))])
  have hc7 : (1 : Int32) < (4 : Int32) := by decide
  refine own_go (fun _ => XS.icmpNo X1.here hx rfl (hb hby d1_7) rfl (tlt hc7).2.2.2) ?_
  show GG _ _ _ _ _ _ _ T1 (mkF m 10 #[.val (.int (4 : Int32)), .val (.int p1), .val (.int p2), .val (.int p3), .val (.ref ob1)] [])
  refine own_go (fun _ => XS.aload X1.here hx rfl (hb hby d1_10) rfl rfl) ?_
  show GG _ _ _ _ _ _ _ T1 (mkF m 12 #[.val (.int (4 : Int32)), .val (.int p1), .val (.int p2), .val (.int p3), .val (.ref ob1)] [(.ref ob1)])
  refine own_go (fun _ => XS.iconst X1.here hx rfl (hb hby d1_12)) ?_
  show GG _ _ _ _ _ _ _ T1 (mkF m 13 #[.val (.int (4 : Int32)), .val (.int p1), .val (.int p2), .val (.int p3), .val (.ref ob1)] [(.int (1 : Int32)), (.ref ob1)])
  refine own_go (fun _ => XS.iconst X1.here hx rfl (hb hby d1_13)) ?_
  show GG _ _ _ _ _ _ _ T1 (mkF m 14 #[.val (.int (4 : Int32)), .val (.int p1), .val (.int p2), .val (.int p3), .val (.ref ob1)] [(.int (1 : Int32)), (.int (1 : Int32)), (.ref ob1)])
  obtain ⟨T2, h2, X2, e2, W2, V2, st2⟩ := own_iastore X1 hx hZ e1 V_ob1 (by decide) (Nat.le_of_ble_eq_true rfl) (g := (mkF m 14 #[.val (.int (4 : Int32)), .val (.int p1), .val (.int p2), .val (.int p3), .val (.ref ob1)] [(.int (1 : Int32)), (.int (1 : Int32)), (.ref ob1)])) rfl rfl (hb hby d1_14)
  have K0 := K0.wr W2 (Or.inr sz_ob1)
  have E_ob1 := E_ob1.wr W2
  have V_ob1 : Arx Z h2 ob1 .int [(.int (0 : Int32)), (.int (1 : Int32)), (.int (0 : Int32)), (.int (0 : Int32))] := V2
  have N2 := Fr.snoc X2 N0 g_ob1
  refine own_go (fun _ => st2 _) ?_
  show GG _ _ _ _ _ _ _ T2 (mkF m 15 #[.val (.int (4 : Int32)), .val (.int p1), .val (.int p2), .val (.int p3), .val (.ref ob1)] [])
  refine own_go (fun _ => XS.iloadN X2.here hx rfl (hb hby d1_15) rfl) ?_
  show GG _ _ _ _ _ _ _ T2 (mkF m 16 #[.val (.int (4 : Int32)), .val (.int p1), .val (.int p2), .val (.int p3), .val (.ref ob1)] [(.int (4 : Int32))])
  refine own_go (fun _ => XS.iconst X2.here hx rfl (hb hby d1_16)) ?_
  show GG _ _ _ _ _ _ _ T2 (mkF m 17 #[.val (.int (4 : Int32)), .val (.int p1), .val (.int p2), .val (.int p3), .val (.ref ob1)] [(.int (2 : Int32)), (.int (4 : Int32))])
  have hc17 : (2 : Int32) < (4 : Int32) := by decide
  refine own_go (fun _ => XS.icmpNo X2.here hx rfl (hb hby d1_17) rfl (tlt hc17).2.2.2) ?_
  show GG _ _ _ _ _ _ _ T2 (mkF m 20 #[.val (.int (4 : Int32)), .val (.int p1), .val (.int p2), .val (.int p3), .val (.ref ob1)] [])
  refine own_go (fun _ => XS.aload X2.here hx rfl (hb hby d1_20) rfl rfl) ?_
  show GG _ _ _ _ _ _ _ T2 (mkF m 22 #[.val (.int (4 : Int32)), .val (.int p1), .val (.int p2), .val (.int p3), .val (.ref ob1)] [(.ref ob1)])
  refine own_go (fun _ => XS.iconst X2.here hx rfl (hb hby d1_22)) ?_
  show GG _ _ _ _ _ _ _ T2 (mkF m 23 #[.val (.int (4 : Int32)), .val (.int p1), .val (.int p2), .val (.int p3), .val (.ref ob1)] [(.int (2 : Int32)), (.ref ob1)])
  refine own_go (fun _ => XS.iconst X2.here hx rfl (hb hby d1_23)) ?_
  show GG _ _ _ _ _ _ _ T2 (mkF m 24 #[.val (.int (4 : Int32)), .val (.int p1), .val (.int p2), .val (.int p3), .val (.ref ob1)] [(.int (2 : Int32)), (.int (2 : Int32)), (.ref ob1)])
  obtain ⟨T3, h3, X3, e3, W3, V3, st3⟩ := own_iastore X2 hx hZ e2 V_ob1 (by decide) (Nat.le_of_ble_eq_true rfl) (g := (mkF m 24 #[.val (.int (4 : Int32)), .val (.int p1), .val (.int p2), .val (.int p3), .val (.ref ob1)] [(.int (2 : Int32)), (.int (2 : Int32)), (.ref ob1)])) rfl rfl (hb hby d1_24)
  have K0 := K0.wr W3 (Or.inr sz_ob1)
  have E_ob1 := E_ob1.wr W3
  have V_ob1 : Arx Z h3 ob1 .int [(.int (0 : Int32)), (.int (1 : Int32)), (.int (2 : Int32)), (.int (0 : Int32))] := V3
  have N3 := Fr.snoc X3 N2 g_ob1
  refine own_go (fun _ => st3 _) ?_
  show GG _ _ _ _ _ _ _ T3 (mkF m 25 #[.val (.int (4 : Int32)), .val (.int p1), .val (.int p2), .val (.int p3), .val (.ref ob1)] [])
  refine own_go (fun _ => XS.iloadN X3.here hx rfl (hb hby d1_25) rfl) ?_
  show GG _ _ _ _ _ _ _ T3 (mkF m 26 #[.val (.int (4 : Int32)), .val (.int p1), .val (.int p2), .val (.int p3), .val (.ref ob1)] [(.int (4 : Int32))])
  refine own_go (fun _ => XS.iconst X3.here hx rfl (hb hby d1_26)) ?_
  show GG _ _ _ _ _ _ _ T3 (mkF m 27 #[.val (.int (4 : Int32)), .val (.int p1), .val (.int p2), .val (.int p3), .val (.ref ob1)] [(.int (3 : Int32)), (.int (4 : Int32))])
  have hc27 : (3 : Int32) < (4 : Int32) := by decide
  refine own_go (fun _ => XS.icmpNo X3.here hx rfl (hb hby d1_27) rfl (tlt hc27).2.2.2) ?_
  show GG _ _ _ _ _ _ _ T3 (mkF m 30 #[.val (.int (4 : Int32)), .val (.int p1), .val (.int p2), .val (.int p3), .val (.ref ob1)] [])
  refine own_go (fun _ => XS.aload X3.here hx rfl (hb hby d1_30) rfl rfl) ?_
  show GG _ _ _ _ _ _ _ T3 (mkF m 32 #[.val (.int (4 : Int32)), .val (.int p1), .val (.int p2), .val (.int p3), .val (.ref ob1)] [(.ref ob1)])
  refine own_go (fun _ => XS.iconst X3.here hx rfl (hb hby d1_32)) ?_
  show GG _ _ _ _ _ _ _ T3 (mkF m 33 #[.val (.int (4 : Int32)), .val (.int p1), .val (.int p2), .val (.int p3), .val (.ref ob1)] [(.int (3 : Int32)), (.ref ob1)])
  refine own_go (fun _ => XS.iconst X3.here hx rfl (hb hby d1_33)) ?_
  show GG _ _ _ _ _ _ _ T3 (mkF m 34 #[.val (.int (4 : Int32)), .val (.int p1), .val (.int p2), .val (.int p3), .val (.ref ob1)] [(.int (3 : Int32)), (.int (3 : Int32)), (.ref ob1)])
  obtain ⟨T4, h4, X4, e4, W4, V4, st4⟩ := own_iastore X3 hx hZ e3 V_ob1 (by decide) (Nat.le_of_ble_eq_true rfl) (g := (mkF m 34 #[.val (.int (4 : Int32)), .val (.int p1), .val (.int p2), .val (.int p3), .val (.ref ob1)] [(.int (3 : Int32)), (.int (3 : Int32)), (.ref ob1)])) rfl rfl (hb hby d1_34)
  have K0 := K0.wr W4 (Or.inr sz_ob1)
  have E_ob1 := E_ob1.wr W4
  have V_ob1 : Arx Z h4 ob1 .int [(.int (0 : Int32)), (.int (1 : Int32)), (.int (2 : Int32)), (.int (3 : Int32))] := V4
  have N4 := Fr.snoc X4 N3 g_ob1
  refine own_go (fun _ => st4 _) ?_
  show GG _ _ _ _ _ _ _ T4 (mkF m 35 #[.val (.int (4 : Int32)), .val (.int p1), .val (.int p2), .val (.int p3), .val (.ref ob1)] [])
  refine own_go (fun _ => XS.iloadN X4.here hx rfl (hb hby d1_35) rfl) ?_
  show GG _ _ _ _ _ _ _ T4 (mkF m 36 #[.val (.int (4 : Int32)), .val (.int p1), .val (.int p2), .val (.int p3), .val (.ref ob1)] [(.int (4 : Int32))])
  refine own_go (fun _ => XS.iconst X4.here hx rfl (hb hby d1_36)) ?_
  show GG _ _ _ _ _ _ _ T4 (mkF m 37 #[.val (.int (4 : Int32)), .val (.int p1), .val (.int p2), .val (.int p3), .val (.ref ob1)] [(.int (2 : Int32)), (.int (4 : Int32))])
  have hc37 : ¬ ((4 : Int32) < (2 : Int32)) := by decide
  refine own_go (fun _ => XS.icmpNo X4.here hx rfl (hb hby d1_37) rfl (flt hc37).1) ?_
  show GG _ _ _ _ _ _ _ T4 (mkF m 40 #[.val (.int (4 : Int32)), .val (.int p1), .val (.int p2), .val (.int p3), .val (.ref ob1)] [])
  refine own_go (fun _ => XS.aload X4.here hx rfl (hb hby d1_40) rfl rfl) ?_
  show GG _ _ _ _ _ _ _ T4 (mkF m 42 #[.val (.int (4 : Int32)), .val (.int p1), .val (.int p2), .val (.int p3), .val (.ref ob1)] [(.ref ob1)])
  refine own_go (fun _ => XS.iloadN X4.here hx rfl (hb hby d1_42) rfl) ?_
  show GG _ _ _ _ _ _ _ T4 (mkF m 43 #[.val (.int (4 : Int32)), .val (.int p1), .val (.int p2), .val (.int p3), .val (.ref ob1)] [(.int (4 : Int32)), (.ref ob1)])
  refine own_go (fun _ => XS.iconst X4.here hx rfl (hb hby d1_43)) ?_
  show GG _ _ _ _ _ _ _ T4 (mkF m 44 #[.val (.int (4 : Int32)), .val (.int p1), .val (.int p2), .val (.int p3), .val (.ref ob1)] [(.int (1 : Int32)), (.int (4 : Int32)), (.ref ob1)])
  refine own_go (fun _ => XS.isub X4.here hx rfl (hb hby d1_44) rfl) ?_
  show GG _ _ _ _ _ _ _ T4 (mkF m 45 #[.val (.int (4 : Int32)), .val (.int p1), .val (.int p2), .val (.int p3), .val (.ref ob1)] [(.int (3 : Int32)), (.ref ob1)])
  refine own_go (fun _ => XS.iloadN X4.here hx rfl (hb hby d1_45) rfl) ?_
  show GG _ _ _ _ _ _ _ T4 (mkF m 46 #[.val (.int (4 : Int32)), .val (.int p1), .val (.int p2), .val (.int p3), .val (.ref ob1)] [(.int p1), (.int (3 : Int32)), (.ref ob1)])
  refine own_go (fun _ => X4.ldcInt hx hown (mvT hZ (hw _ (List.mem_of_getElem? (i := 0) rfl))) (g := (mkF m 46 #[.val (.int (4 : Int32)), .val (.int p1), .val (.int p2), .val (.int p3), .val (.ref ob1)] [(.int p1), (.int (3 : Int32)), (.ref ob1)])) rfl (hb hby d1_46) _) ?_
  show GG _ _ _ _ _ _ _ T4 (mkF m 48 #[.val (.int (4 : Int32)), .val (.int p1), .val (.int p2), .val (.int p3), .val (.ref ob1)] [(.int (2147483647 : Int32)), (.int p1), (.int (3 : Int32)), (.ref ob1)])
  refine own_go (fun _ => XS.iand X4.here hx rfl (hb hby d1_48) rfl) ?_
  show GG _ _ _ _ _ _ _ T4 (mkF m 49 #[.val (.int (4 : Int32)), .val (.int p1), .val (.int p2), .val (.int p3), .val (.ref ob1)] [(.int (p1 &&& (2147483647 : Int32))), (.int (3 : Int32)), (.ref ob1)])
  refine own_go (fun _ => XS.iloadN X4.here hx rfl (hb hby d1_49) rfl) ?_
  show GG _ _ _ _ _ _ _ T4 (mkF m 50 #[.val (.int (4 : Int32)), .val (.int p1), .val (.int p2), .val (.int p3), .val (.ref ob1)] [(.int (4 : Int32)), (.int (p1 &&& (2147483647 : Int32))), (.int (3 : Int32)), (.ref ob1)])
  refine own_go (fun _ => iremM X4 hx rfl (hb hby d1_50) rfl (by decide)) ?_
  show GG _ _ _ _ _ _ _ T4 (mkF m 51 #[.val (.int (4 : Int32)), .val (.int p1), .val (.int p2), .val (.int p3), .val (.ref ob1)] [(.int ((p1 &&& (2147483647 : Int32)) % (4 : Int32))), (.int (3 : Int32)), (.ref ob1)])
  have hj51 := own_jx p1 4 4 (by decide) (by decide)
  refine own_callS X4 hx hZ (y := (⟨"com/example/hadamint/hadamint/GroupsPositionsPinLaw", "swap", "([III)V"⟩ : MethodName)) 0 hown (hw _ (List.mem_of_getElem? (i := 32) rfl)) (hw _ (List.mem_of_getElem? (i := 33) rfl)) (hw _ (List.mem_of_getElem? (i := 3) rfl)) (hw _ (List.mem_of_getElem? (i := 34) rfl)) (by decide) (argsL := [(.ref ob1), (.int (3 : Int32)), (.int ((p1 &&& (2147483647 : Int32)) % (4 : Int32)))]) (rest := []) (rm7 l Z a0 hw [] ob1 (3 : Int32) ((p1 &&& (2147483647 : Int32)) % (4 : Int32)) [0, 1, 2, 3] 3 (jx p1 4) h4 n0 (Nat.le_trans Z0 K0.1) V_ob1 g_ob1 (by decide) hj51.2 (by decide) (Nat.lt_of_lt_of_le hj51.1 (by decide))) (by decide) (by decide) (by decide) (by decide) (g := (mkF m 51 #[.val (.int (4 : Int32)), .val (.int p1), .val (.int p2), .val (.int p3), .val (.ref ob1)] [(.int ((p1 &&& (2147483647 : Int32)) % (4 : Int32))), (.int (3 : Int32)), (.ref ob1)])) rfl (by rw [hml]; rfl) (lenOf pd___III_V_477 rfl) rfl (by show 2 * 0 + _ ≤ _; exact Nat.le_of_eq rfl) (hb hby d1_51) e4 ?_
  rintro v5 T5 L5 X5 ⟨rfl, N5q, Kq5, Vq5⟩
  have N5 := Fr.app N4 N5q
  have K0 := K0.trans Kq5 (allS (Or.inr sz_ob1) all0)
  have E_ob1 := E_ob1.keep Kq5
  show GG _ _ _ _ _ _ _ T5 (mkF m 54 #[.val (.int (4 : Int32)), .val (.int p1), .val (.int p2), .val (.int p3), .val (.ref ob1)] [])
  refine own_go (fun _ => XS.iloadN X5.here hx rfl (hb hby d1_54) rfl) ?_
  show GG _ _ _ _ _ _ _ T5 (mkF m 55 #[.val (.int (4 : Int32)), .val (.int p1), .val (.int p2), .val (.int p3), .val (.ref ob1)] [(.int (4 : Int32))])
  refine own_go (fun _ => XS.iconst X5.here hx rfl (hb hby d1_55)) ?_
  show GG _ _ _ _ _ _ _ T5 (mkF m 56 #[.val (.int (4 : Int32)), .val (.int p1), .val (.int p2), .val (.int p3), .val (.ref ob1)] [(.int (3 : Int32)), (.int (4 : Int32))])
  have hc56 : ¬ ((4 : Int32) < (3 : Int32)) := by decide
  refine own_go (fun _ => XS.icmpNo X5.here hx rfl (hb hby d1_56) rfl (flt hc56).1) ?_
  show GG _ _ _ _ _ _ _ T5 (mkF m 59 #[.val (.int (4 : Int32)), .val (.int p1), .val (.int p2), .val (.int p3), .val (.ref ob1)] [])
  refine own_go (fun _ => XS.aload X5.here hx rfl (hb hby d1_59) rfl rfl) ?_
  show GG _ _ _ _ _ _ _ T5 (mkF m 61 #[.val (.int (4 : Int32)), .val (.int p1), .val (.int p2), .val (.int p3), .val (.ref ob1)] [(.ref ob1)])
  refine own_go (fun _ => XS.iloadN X5.here hx rfl (hb hby d1_61) rfl) ?_
  show GG _ _ _ _ _ _ _ T5 (mkF m 62 #[.val (.int (4 : Int32)), .val (.int p1), .val (.int p2), .val (.int p3), .val (.ref ob1)] [(.int (4 : Int32)), (.ref ob1)])
  refine own_go (fun _ => XS.iconst X5.here hx rfl (hb hby d1_62)) ?_
  show GG _ _ _ _ _ _ _ T5 (mkF m 63 #[.val (.int (4 : Int32)), .val (.int p1), .val (.int p2), .val (.int p3), .val (.ref ob1)] [(.int (2 : Int32)), (.int (4 : Int32)), (.ref ob1)])
  refine own_go (fun _ => XS.isub X5.here hx rfl (hb hby d1_63) rfl) ?_
  show GG _ _ _ _ _ _ _ T5 (mkF m 64 #[.val (.int (4 : Int32)), .val (.int p1), .val (.int p2), .val (.int p3), .val (.ref ob1)] [(.int (2 : Int32)), (.ref ob1)])
  refine own_go (fun _ => XS.iloadN X5.here hx rfl (hb hby d1_64) rfl) ?_
  show GG _ _ _ _ _ _ _ T5 (mkF m 65 #[.val (.int (4 : Int32)), .val (.int p1), .val (.int p2), .val (.int p3), .val (.ref ob1)] [(.int p2), (.int (2 : Int32)), (.ref ob1)])
  refine own_go (fun _ => X5.ldcInt hx hown (mvT hZ (hw _ (List.mem_of_getElem? (i := 0) rfl))) (g := (mkF m 65 #[.val (.int (4 : Int32)), .val (.int p1), .val (.int p2), .val (.int p3), .val (.ref ob1)] [(.int p2), (.int (2 : Int32)), (.ref ob1)])) rfl (hb hby d1_65) _) ?_
  show GG _ _ _ _ _ _ _ T5 (mkF m 67 #[.val (.int (4 : Int32)), .val (.int p1), .val (.int p2), .val (.int p3), .val (.ref ob1)] [(.int (2147483647 : Int32)), (.int p2), (.int (2 : Int32)), (.ref ob1)])
  refine own_go (fun _ => XS.iand X5.here hx rfl (hb hby d1_67) rfl) ?_
  show GG _ _ _ _ _ _ _ T5 (mkF m 68 #[.val (.int (4 : Int32)), .val (.int p1), .val (.int p2), .val (.int p3), .val (.ref ob1)] [(.int (p2 &&& (2147483647 : Int32))), (.int (2 : Int32)), (.ref ob1)])
  refine own_go (fun _ => XS.iloadN X5.here hx rfl (hb hby d1_68) rfl) ?_
  show GG _ _ _ _ _ _ _ T5 (mkF m 69 #[.val (.int (4 : Int32)), .val (.int p1), .val (.int p2), .val (.int p3), .val (.ref ob1)] [(.int (4 : Int32)), (.int (p2 &&& (2147483647 : Int32))), (.int (2 : Int32)), (.ref ob1)])
  refine own_go (fun _ => XS.iconst X5.here hx rfl (hb hby d1_69)) ?_
  show GG _ _ _ _ _ _ _ T5 (mkF m 70 #[.val (.int (4 : Int32)), .val (.int p1), .val (.int p2), .val (.int p3), .val (.ref ob1)] [(.int (1 : Int32)), (.int (4 : Int32)), (.int (p2 &&& (2147483647 : Int32))), (.int (2 : Int32)), (.ref ob1)])
  refine own_go (fun _ => XS.isub X5.here hx rfl (hb hby d1_70) rfl) ?_
  show GG _ _ _ _ _ _ _ T5 (mkF m 71 #[.val (.int (4 : Int32)), .val (.int p1), .val (.int p2), .val (.int p3), .val (.ref ob1)] [(.int (3 : Int32)), (.int (p2 &&& (2147483647 : Int32))), (.int (2 : Int32)), (.ref ob1)])
  refine own_go (fun _ => iremM X5 hx rfl (hb hby d1_71) rfl (by decide)) ?_
  show GG _ _ _ _ _ _ _ T5 (mkF m 72 #[.val (.int (4 : Int32)), .val (.int p1), .val (.int p2), .val (.int p3), .val (.ref ob1)] [(.int ((p2 &&& (2147483647 : Int32)) % (3 : Int32))), (.int (2 : Int32)), (.ref ob1)])
  have hj72 := own_jx p2 3 3 (by decide) (by decide)
  refine own_callS X5 hx hZ (y := (⟨"com/example/hadamint/hadamint/GroupsPositionsPinLaw", "swap", "([III)V"⟩ : MethodName)) 0 hown (hw _ (List.mem_of_getElem? (i := 32) rfl)) (hw _ (List.mem_of_getElem? (i := 33) rfl)) (hw _ (List.mem_of_getElem? (i := 3) rfl)) (hw _ (List.mem_of_getElem? (i := 34) rfl)) (by decide) (argsL := [(.ref ob1), (.int (2 : Int32)), (.int ((p2 &&& (2147483647 : Int32)) % (3 : Int32)))]) (rest := []) (rm7 l Z a0 hw [] ob1 (2 : Int32) ((p2 &&& (2147483647 : Int32)) % (3 : Int32)) (swapL [0, 1, 2, 3] 3 (jx p1 4)) 2 (jx p2 3) T5.heap n0 (Nat.le_trans Z0 K0.1) Vq5 g_ob1 (by decide) hj72.2 (by simp only [own_swl]; decide) (by simp only [own_swl]; exact Nat.lt_of_lt_of_le hj72.1 (by decide))) (by decide) (by decide) (by decide) (by decide) (g := (mkF m 72 #[.val (.int (4 : Int32)), .val (.int p1), .val (.int p2), .val (.int p3), .val (.ref ob1)] [(.int ((p2 &&& (2147483647 : Int32)) % (3 : Int32))), (.int (2 : Int32)), (.ref ob1)])) rfl (by rw [hml]; rfl) (lenOf pd___III_V_477 rfl) rfl (by show 2 * 0 + _ ≤ _; exact Nat.le_of_eq rfl) (hb hby d1_72) rfl ?_
  rintro v6 T6 L6 X6 ⟨rfl, N6q, Kq6, Vq6⟩
  have N6 := Fr.app N5 N6q
  have K0 := K0.trans Kq6 (allS (Or.inr sz_ob1) all0)
  have E_ob1 := E_ob1.keep Kq6
  show GG _ _ _ _ _ _ _ T6 (mkF m 75 #[.val (.int (4 : Int32)), .val (.int p1), .val (.int p2), .val (.int p3), .val (.ref ob1)] [])
  refine own_go (fun _ => XS.iloadN X6.here hx rfl (hb hby d1_75) rfl) ?_
  show GG _ _ _ _ _ _ _ T6 (mkF m 76 #[.val (.int (4 : Int32)), .val (.int p1), .val (.int p2), .val (.int p3), .val (.ref ob1)] [(.int (4 : Int32))])
  refine own_go (fun _ => XS.iconst X6.here hx rfl (hb hby d1_76)) ?_
  show GG _ _ _ _ _ _ _ T6 (mkF m 77 #[.val (.int (4 : Int32)), .val (.int p1), .val (.int p2), .val (.int p3), .val (.ref ob1)] [(.int (4 : Int32)), (.int (4 : Int32))])
  have hc77 : ¬ ((4 : Int32) < (4 : Int32)) := by decide
  refine own_go (fun _ => XS.icmpNo X6.here hx rfl (hb hby d1_77) rfl (flt hc77).1) ?_
  show GG _ _ _ _ _ _ _ T6 (mkF m 80 #[.val (.int (4 : Int32)), .val (.int p1), .val (.int p2), .val (.int p3), .val (.ref ob1)] [])
  refine own_go (fun _ => XS.aload X6.here hx rfl (hb hby d1_80) rfl rfl) ?_
  show GG _ _ _ _ _ _ _ T6 (mkF m 82 #[.val (.int (4 : Int32)), .val (.int p1), .val (.int p2), .val (.int p3), .val (.ref ob1)] [(.ref ob1)])
  refine own_go (fun _ => XS.iloadN X6.here hx rfl (hb hby d1_82) rfl) ?_
  show GG _ _ _ _ _ _ _ T6 (mkF m 83 #[.val (.int (4 : Int32)), .val (.int p1), .val (.int p2), .val (.int p3), .val (.ref ob1)] [(.int (4 : Int32)), (.ref ob1)])
  refine own_go (fun _ => XS.iconst X6.here hx rfl (hb hby d1_83)) ?_
  show GG _ _ _ _ _ _ _ T6 (mkF m 84 #[.val (.int (4 : Int32)), .val (.int p1), .val (.int p2), .val (.int p3), .val (.ref ob1)] [(.int (3 : Int32)), (.int (4 : Int32)), (.ref ob1)])
  refine own_go (fun _ => XS.isub X6.here hx rfl (hb hby d1_84) rfl) ?_
  show GG _ _ _ _ _ _ _ T6 (mkF m 85 #[.val (.int (4 : Int32)), .val (.int p1), .val (.int p2), .val (.int p3), .val (.ref ob1)] [(.int (1 : Int32)), (.ref ob1)])
  refine own_go (fun _ => XS.iloadN X6.here hx rfl (hb hby d1_85) rfl) ?_
  show GG _ _ _ _ _ _ _ T6 (mkF m 86 #[.val (.int (4 : Int32)), .val (.int p1), .val (.int p2), .val (.int p3), .val (.ref ob1)] [(.int p3), (.int (1 : Int32)), (.ref ob1)])
  refine own_go (fun _ => X6.ldcInt hx hown (mvT hZ (hw _ (List.mem_of_getElem? (i := 0) rfl))) (g := (mkF m 86 #[.val (.int (4 : Int32)), .val (.int p1), .val (.int p2), .val (.int p3), .val (.ref ob1)] [(.int p3), (.int (1 : Int32)), (.ref ob1)])) rfl (hb hby d1_86) _) ?_
  show GG _ _ _ _ _ _ _ T6 (mkF m 88 #[.val (.int (4 : Int32)), .val (.int p1), .val (.int p2), .val (.int p3), .val (.ref ob1)] [(.int (2147483647 : Int32)), (.int p3), (.int (1 : Int32)), (.ref ob1)])
  refine own_go (fun _ => XS.iand X6.here hx rfl (hb hby d1_88) rfl) ?_
  show GG _ _ _ _ _ _ _ T6 (mkF m 89 #[.val (.int (4 : Int32)), .val (.int p1), .val (.int p2), .val (.int p3), .val (.ref ob1)] [(.int (p3 &&& (2147483647 : Int32))), (.int (1 : Int32)), (.ref ob1)])
  refine own_go (fun _ => XS.iloadN X6.here hx rfl (hb hby d1_89) rfl) ?_
  show GG _ _ _ _ _ _ _ T6 (mkF m 90 #[.val (.int (4 : Int32)), .val (.int p1), .val (.int p2), .val (.int p3), .val (.ref ob1)] [(.int (4 : Int32)), (.int (p3 &&& (2147483647 : Int32))), (.int (1 : Int32)), (.ref ob1)])
  refine own_go (fun _ => XS.iconst X6.here hx rfl (hb hby d1_90)) ?_
  show GG _ _ _ _ _ _ _ T6 (mkF m 91 #[.val (.int (4 : Int32)), .val (.int p1), .val (.int p2), .val (.int p3), .val (.ref ob1)] [(.int (2 : Int32)), (.int (4 : Int32)), (.int (p3 &&& (2147483647 : Int32))), (.int (1 : Int32)), (.ref ob1)])
  refine own_go (fun _ => XS.isub X6.here hx rfl (hb hby d1_91) rfl) ?_
  show GG _ _ _ _ _ _ _ T6 (mkF m 92 #[.val (.int (4 : Int32)), .val (.int p1), .val (.int p2), .val (.int p3), .val (.ref ob1)] [(.int (2 : Int32)), (.int (p3 &&& (2147483647 : Int32))), (.int (1 : Int32)), (.ref ob1)])
  refine own_go (fun _ => iremM X6 hx rfl (hb hby d1_92) rfl (by decide)) ?_
  show GG _ _ _ _ _ _ _ T6 (mkF m 93 #[.val (.int (4 : Int32)), .val (.int p1), .val (.int p2), .val (.int p3), .val (.ref ob1)] [(.int ((p3 &&& (2147483647 : Int32)) % (2 : Int32))), (.int (1 : Int32)), (.ref ob1)])
  have hj93 := own_jx p3 2 2 (by decide) (by decide)
  refine own_callS X6 hx hZ (y := (⟨"com/example/hadamint/hadamint/GroupsPositionsPinLaw", "swap", "([III)V"⟩ : MethodName)) 0 hown (hw _ (List.mem_of_getElem? (i := 32) rfl)) (hw _ (List.mem_of_getElem? (i := 33) rfl)) (hw _ (List.mem_of_getElem? (i := 3) rfl)) (hw _ (List.mem_of_getElem? (i := 34) rfl)) (by decide) (argsL := [(.ref ob1), (.int (1 : Int32)), (.int ((p3 &&& (2147483647 : Int32)) % (2 : Int32)))]) (rest := []) (rm7 l Z a0 hw [] ob1 (1 : Int32) ((p3 &&& (2147483647 : Int32)) % (2 : Int32)) (swapL (swapL [0, 1, 2, 3] 3 (jx p1 4)) 2 (jx p2 3)) 1 (jx p3 2) T6.heap n0 (Nat.le_trans Z0 K0.1) Vq6 g_ob1 (by decide) hj93.2 (by simp only [own_swl]; decide) (by simp only [own_swl]; exact Nat.lt_of_lt_of_le hj93.1 (by decide))) (by decide) (by decide) (by decide) (by decide) (g := (mkF m 93 #[.val (.int (4 : Int32)), .val (.int p1), .val (.int p2), .val (.int p3), .val (.ref ob1)] [(.int ((p3 &&& (2147483647 : Int32)) % (2 : Int32))), (.int (1 : Int32)), (.ref ob1)])) rfl (by rw [hml]; rfl) (lenOf pd___III_V_477 rfl) rfl (by show 2 * 0 + _ ≤ _; exact Nat.le_of_eq rfl) (hb hby d1_93) rfl ?_
  rintro v7 T7 L7 X7 ⟨rfl, N7q, Kq7, Vq7⟩
  have N7 := Fr.app N6 N7q
  have K0 := K0.trans Kq7 (allS (Or.inr sz_ob1) all0)
  have E_ob1 := E_ob1.keep Kq7
  show GG _ _ _ _ _ _ _ T7 (mkF m 96 #[.val (.int (4 : Int32)), .val (.int p1), .val (.int p2), .val (.int p3), .val (.ref ob1)] [])
  refine own_go (fun _ => XS.aload X7.here hx rfl (hb hby d1_96) rfl rfl) ?_
  show GG _ _ _ _ _ _ _ T7 (mkF m 98 #[.val (.int (4 : Int32)), .val (.int p1), .val (.int p2), .val (.int p3), .val (.ref ob1)] [(.ref ob1)])
  refine own_ret X7 hx hlk (t := (.array .int)) (w := (.ref ob1)) Bd.returns rfl (Or.inr (Or.inr (Or.inr (Or.inr ⟨rfl, rfl, rfl⟩)))) (hb hby d1_98) (by decide) (by decide) ?_
  show Q1_4 Z p1 p2 p3 h0 n0 (some (.ref ob1)) T7.heap _
  exact ⟨_, rfl, N7, sz_ob1, K0, Vq7⟩
theorem d3_0 : decode jdk_30_method_1_code 0 = .ok (.aload_n 0, 1) := by decide +kernel
theorem d3_1 : decode jdk_30_method_1_code 1 = .ok (.invokespecial 1, 3) := by decide +kernel
theorem d3_4 : decode jdk_30_method_1_code 4 = .ok (.return_, 1) := by decide +kernel
theorem pn_java_lang_Record : plainName "java/lang/Record" = true := by first | (simp [plainName, overriddenIn]; done) | decide +kernel
theorem ef_3 (m : MethodId) (x0 : Addr) : entryFrame m #[(.ref x0)] 1 = mkF m 0 #[.val (.ref x0)] [] := by first | (simp [entryFrame, mkF, argsToLocals, Value.category]; done) | rfl
def Q3 (Z : State) (a1 : Addr) (h0 : Heap) (n0 : Nat) (v : Option Value) (h : Heap) (L : List Loc) : Prop := v = none ∧ Fr n0 L ∧ h = h0
set_option maxRecDepth 65536 in
set_option maxHeartbeats 40000000 in
theorem rm3 (l : Launch) (Z : State) (a0 : Array Value) (hw : ∀ d ∈ tables_1, d.before a0 Z = true) (ws : List Jvm.Cond) (a1 : Addr) (h0 : Heap) (n0 : Nat) (Z0 : n0 ≤ h0.size)  :
    own_CT l Z (⟨"java/lang/Record", "<init>", "()V"⟩ : MethodName) jdk_30_method_1_code 1 none ws ({ frames := 1, cells := 0, slots := 0, locals := 12 } : Room) #[(.ref a1)] h0 (Q3 Z a1 h0 n0) := by
  refine MetFree.of_bodySF (plainFor_of_name pn_java_lang_Record) hisR ?_
  intro p e s m args below meth c s₁ Bd hml0 hP hK
  obtain ⟨rfl, hZ, hh⟩ := hP
  have hx := Bd.exec
  have hby := Bd.bytes
  have hml : c.maxLocals = 1 := hml0
  have hown : s.vm.findClass "java/lang/Record" = some m.cls := findClass_of_methodNamed Bd.named
  have hnm := (name_of_methodNamed Bd.named Bd.method).1
  have hlk : meth.locks = false := BodyLoose.notSynchronized Bd
  have X0 : Stand p l e ({ frames := 1, cells := 0, slots := 0, locals := 12 } : Room) s m #[(.ref a1)] below meth c s₁ [] 0 0 := Stand.of_body Bd
  have e0 : s₁.heap = h0 := by rw [← hh, Bd.state]; rfl
  have N0 := Fr.nil n0
  show GG p e below s ({ frames := 1, cells := 0, slots := 0, locals := 12 } : Room).cells ({ frames := 1, cells := 0, slots := 0, locals := 12 } : Room).slots (Q3 Z a1 h0 n0) s₁ (entryFrame m #[(.ref a1)] 1)
  refine own_in (ef_3 m a1) ?_
  show GG _ _ _ _ _ _ _ s₁ (mkF m 0 #[.val (.ref a1)] [])
  refine own_go (fun _ => XS.aloadN X0.here hx rfl (hb hby d3_0) rfl rfl) ?_
  show GG _ _ _ _ _ _ _ s₁ (mkF m 1 #[.val (.ref a1)] [(.ref a1)])
  obtain ⟨T1, X1, e1, st1⟩ := initO X0 hx hZ hown (hw _ (List.mem_of_getElem? (i := 17) rfl)) (hw _ (List.mem_of_getElem? (i := 18) rfl)) (hw _ (List.mem_of_getElem? (i := 19) rfl)) e0 (g := (mkF m 1 #[.val (.ref a1)] [(.ref a1)])) rfl (by rw [hml]; rfl) rfl (hb hby d3_1) (by decide) (W := 0) (by show 2 * 0 + _ ≤ _; exact Nat.le_of_eq rfl) (by decide)
  refine own_go (fun _ => st1 _) ?_
  show GG _ _ _ _ _ _ _ T1 (mkF m 4 #[.val (.ref a1)] [])
  refine own_retV X1 hx hlk Bd.returns (hb hby d3_4) (by decide) (by decide) ?_
  show Q3 Z a1 h0 n0 (none) T1.heap _
  rw [e1]
  exact ⟨rfl, N0, rfl⟩
theorem pd___V_167 : parseMethodDescriptor "()V" = some ⟨[], none⟩ := by decide +kernel
theorem d2_0 : decode prog_5_method_1_code 0 = .ok (.aload_n 0, 1) := by decide +kernel
theorem d2_1 : decode prog_5_method_1_code 1 = .ok (.invokespecial 1, 3) := by decide +kernel
theorem d2_4 : decode prog_5_method_1_code 4 = .ok (.aload_n 0, 1) := by decide +kernel
theorem d2_5 : decode prog_5_method_1_code 5 = .ok (.aload_n 1, 1) := by decide +kernel
theorem d2_6 : decode prog_5_method_1_code 6 = .ok (.putfield 7, 3) := by decide +kernel
theorem d2_9 : decode prog_5_method_1_code 9 = .ok (.aload_n 0, 1) := by decide +kernel
theorem d2_10 : decode prog_5_method_1_code 10 = .ok (.aload_n 2, 1) := by decide +kernel
theorem d2_11 : decode prog_5_method_1_code 11 = .ok (.putfield 13, 3) := by decide +kernel
theorem d2_14 : decode prog_5_method_1_code 14 = .ok (.return_, 1) := by decide +kernel
theorem pn_com_example_hadamint_hadamint_Groups : plainName "com/example/hadamint/hadamint/Groups" = true := by first | (simp [plainName, overriddenIn]; done) | decide +kernel
theorem ef_2 (m : MethodId) (x0 : Addr) (x1 : Addr) (x2 : Addr) : entryFrame m #[(.ref x0), (.ref x1), (.ref x2)] 3 = mkF m 0 #[.val (.ref x0), .val (.ref x1), .val (.ref x2)] [] := by first | (simp [entryFrame, mkF, argsToLocals, Value.category]; done) | rfl
def Q2 (Z : State) (a1 : Addr) (a2 : Addr) (a3 : Addr) (h0 : Heap) (n0 : Nat) (v : Option Value) (h : Heap) (L : List Loc) : Prop := v = none ∧ Fr n0 L ∧ Keep h0 h [a1] ∧ Exa Z h a1 "com/example/hadamint/hadamint/Groups" ∧ Fld Z h a1 "com/example/hadamint/hadamint/Groups" "members" "[I" (.ref a3)
set_option maxRecDepth 65536 in
set_option maxHeartbeats 40000000 in
theorem rm2 (l : Launch) (Z : State) (a0 : Array Value) (hw : ∀ d ∈ tables_1, d.before a0 Z = true) (ws : List Jvm.Cond) (a1 : Addr) (a2 : Addr) (a3 : Addr) (h0 : Heap) (n0 : Nat) (Z0 : n0 ≤ h0.size) (E_a1 : Exa Z h0 a1 "com/example/hadamint/hadamint/Groups") (F_s : Fld Z h0 a1 "com/example/hadamint/hadamint/Groups" "starts" "[I" .null) (F_m : Fld Z h0 a1 "com/example/hadamint/hadamint/Groups" "members" "[I" .null) (g_a1 : n0 ≤ a1) :
    own_CT l Z (⟨"com/example/hadamint/hadamint/Groups", "<init>", "([I[I)V"⟩ : MethodName) prog_5_method_1_code 3 none ws ({ frames := 2, cells := 0, slots := 0, locals := 24 } : Room) #[(.ref a1), (.ref a2), (.ref a3)] h0 (Q2 Z a1 a2 a3 h0 n0) := by
  refine MetFree.of_bodySF (plainFor_of_name pn_com_example_hadamint_hadamint_Groups) hisR ?_
  intro p e s m args below meth c s₁ Bd hml0 hP hK
  obtain ⟨rfl, hZ, hh⟩ := hP
  have hx := Bd.exec
  have hby := Bd.bytes
  have hml : c.maxLocals = 3 := hml0
  have hown : s.vm.findClass "com/example/hadamint/hadamint/Groups" = some m.cls := findClass_of_methodNamed Bd.named
  have hnm := (name_of_methodNamed Bd.named Bd.method).1
  have hlk : meth.locks = false := BodyLoose.notSynchronized Bd
  have X0 : Stand p l e ({ frames := 2, cells := 0, slots := 0, locals := 24 } : Room) s m #[(.ref a1), (.ref a2), (.ref a3)] below meth c s₁ [] 0 0 := Stand.of_body Bd
  have e0 : s₁.heap = h0 := by rw [← hh, Bd.state]; rfl
  have N0 := Fr.nil n0
  show GG p e below s ({ frames := 2, cells := 0, slots := 0, locals := 24 } : Room).cells ({ frames := 2, cells := 0, slots := 0, locals := 24 } : Room).slots (Q2 Z a1 a2 a3 h0 n0) s₁ (entryFrame m #[(.ref a1), (.ref a2), (.ref a3)] 3)
  refine own_in (ef_2 m a1 a2 a3) ?_
  show GG _ _ _ _ _ _ _ s₁ (mkF m 0 #[.val (.ref a1), .val (.ref a2), .val (.ref a3)] [])
  refine own_go (fun _ => XS.aloadN X0.here hx rfl (hb hby d2_0) rfl rfl) ?_
  show GG _ _ _ _ _ _ _ s₁ (mkF m 1 #[.val (.ref a1), .val (.ref a2), .val (.ref a3)] [(.ref a1)])
  refine own_callI X0 hx hZ (y := (⟨"java/lang/Record", "<init>", "()V"⟩ : MethodName)) 0 rfl hown (hw _ (List.mem_of_getElem? (i := 12) rfl)) (hw _ (List.mem_of_getElem? (i := 13) rfl)) (hw _ (List.mem_of_getElem? (i := 15) rfl)) (hw _ (List.mem_of_getElem? (i := 16) rfl)) (by decide) (a := a1) (argsL := []) (rest := []) (rm3 l Z a0 hw [] a1 h0 n0 Z0) (by decide) (by decide) (by decide) (by decide) (g := (mkF m 1 #[.val (.ref a1), .val (.ref a2), .val (.ref a3)] [(.ref a1)])) rfl (by rw [hml]; rfl) (lenOf pd___V_167 rfl) rfl (by show 2 * 0 + _ ≤ _; exact Nat.le_of_eq rfl) (hb hby d2_1) e0 ?_
  rintro v1 T1 L1 X1 ⟨rfl, N1q, hh1⟩
  have N1 := Fr.app N0 N1q
  show GG _ _ _ _ _ _ _ T1 (mkF m 4 #[.val (.ref a1), .val (.ref a2), .val (.ref a3)] [])
  refine own_go (fun _ => XS.aloadN X1.here hx rfl (hb hby d2_4) rfl rfl) ?_
  show GG _ _ _ _ _ _ _ T1 (mkF m 5 #[.val (.ref a1), .val (.ref a2), .val (.ref a3)] [(.ref a1)])
  refine own_go (fun _ => XS.aloadN X1.here hx rfl (hb hby d2_5) rfl rfl) ?_
  show GG _ _ _ _ _ _ _ T1 (mkF m 6 #[.val (.ref a1), .val (.ref a2), .val (.ref a3)] [(.ref a2), (.ref a1)])
  have K0 := Keep.refl h0 [a1]
  obtain ⟨T2, h2, X2, e2, W2, st2⟩ := putF X1 hx hZ hown (host := "") (Or.inl (hw _ (List.mem_of_getElem? (i := 20) rfl))) Via.refl hh1 F_s E_a1 (Or.inr ⟨(hw _ (List.mem_of_getElem? (i := 21) rfl)), rfl, hnm⟩) (hw _ (List.mem_of_getElem? (i := 7) rfl)) (ty := (.array .int)) (by decide) rfl rfl (g := (mkF m 6 #[.val (.ref a1), .val (.ref a2), .val (.ref a3)] [(.ref a2), (.ref a1)])) rfl rfl (hb hby d2_6)
  have E_a1 := E_a1.wr W2
  have F_m := F_m.other W2 (Or.inr (slot_ne (Or.inr (hw _ (List.mem_of_getElem? (i := 23) rfl))) (Or.inr (hw _ (List.mem_of_getElem? (i := 21) rfl))) (by decide) (t := (.array .int)) (t' := (.array .int)) (by decide) (by decide)))
  have K0 := K0.wr W2 (Or.inl (List.mem_of_getElem? (i := 0) rfl))
  have F_s := F_s.same W2
  have N2 := Fr.snoc X2 N1 g_a1
  refine own_go (fun _ => st2 _) ?_
  show GG _ _ _ _ _ _ _ T2 (mkF m 9 #[.val (.ref a1), .val (.ref a2), .val (.ref a3)] [])
  refine own_go (fun _ => XS.aloadN X2.here hx rfl (hb hby d2_9) rfl rfl) ?_
  show GG _ _ _ _ _ _ _ T2 (mkF m 10 #[.val (.ref a1), .val (.ref a2), .val (.ref a3)] [(.ref a1)])
  refine own_go (fun _ => XS.aloadN X2.here hx rfl (hb hby d2_10) rfl rfl) ?_
  show GG _ _ _ _ _ _ _ T2 (mkF m 11 #[.val (.ref a1), .val (.ref a2), .val (.ref a3)] [(.ref a3), (.ref a1)])
  obtain ⟨T3, h3, X3, e3, W3, st3⟩ := putF X2 hx hZ hown (host := "") (Or.inl (hw _ (List.mem_of_getElem? (i := 22) rfl))) Via.refl e2 F_m E_a1 (Or.inr ⟨(hw _ (List.mem_of_getElem? (i := 23) rfl)), rfl, hnm⟩) (hw _ (List.mem_of_getElem? (i := 7) rfl)) (ty := (.array .int)) (by decide) rfl rfl (g := (mkF m 11 #[.val (.ref a1), .val (.ref a2), .val (.ref a3)] [(.ref a3), (.ref a1)])) rfl rfl (hb hby d2_11)
  have E_a1 := E_a1.wr W3
  have F_s := F_s.other W3 (Or.inr (slot_ne (Or.inr (hw _ (List.mem_of_getElem? (i := 21) rfl))) (Or.inr (hw _ (List.mem_of_getElem? (i := 23) rfl))) (by decide) (t := (.array .int)) (t' := (.array .int)) (by decide) (by decide)))
  have K0 := K0.wr W3 (Or.inl (List.mem_of_getElem? (i := 0) rfl))
  have F_m := F_m.same W3
  have N3 := Fr.snoc X3 N2 g_a1
  refine own_go (fun _ => st3 _) ?_
  show GG _ _ _ _ _ _ _ T3 (mkF m 14 #[.val (.ref a1), .val (.ref a2), .val (.ref a3)] [])
  refine own_retV X3 hx hlk Bd.returns (hb hby d2_14) (by decide) (by decide) ?_
  show Q2 Z a1 a2 a3 h0 n0 (none) T3.heap _
  rw [e3]
  exact ⟨rfl, N3, K0, E_a1, F_m⟩
theorem own_inv {Li Po : List Int32} {k0 t : Nat} {i : Int32} (hG : Good Li) (hlt : k0 < Li.length) (hpl : Po.length = Li.length) (hi : i.toInt = k0) (ht : (Li.getD k0 0).toInt = t) (hp : ∀ j, j < k0 → Po.getD (Li.getD j 0).toNatClampNeg 0 = Int32.ofNat j) : ∀ j, j < k0 + 1 → (Po.set t i).getD (Li.getD j 0).toNatClampNeg 0 = Int32.ofNat j := by
  intro j hj
  have hr := hG.1 k0 hlt
  have hk : i = Int32.ofNat k0 := by rw [← Int32.toInt_inj, hi, own_ofNat (by have := rng32 i; omega)]
  rw [List.getD_eq_getElem?_getD, List.getElem?_set]
  by_cases q : j = k0
  · subst q
    rw [own_nat ht, if_pos rfl, if_pos (by omega)]
    exact hk
  · have hne : t ≠ (Li.getD j 0).toNatClampNeg := by
      intro e
      apply q
      refine hG.2 j (by omega) k0 hlt ?_
      have hr2 := hG.1 j (by omega)
      rw [← Int32.toInt_inj, ht]
      simp only [Int32.toNatClampNeg] at e
      omega
    rw [if_neg hne, ← List.getD_eq_getElem?_getD]
    exact hp j (by omega)
theorem d5_0 : decode prog_5_method_3_code 0 = .ok (.aload_n 0, 1) := by decide +kernel
theorem d5_1 : decode prog_5_method_3_code 1 = .ok (.getfield 13, 3) := by decide +kernel
theorem d5_4 : decode prog_5_method_3_code 4 = .ok (.arraylength, 1) := by decide +kernel
theorem d5_5 : decode prog_5_method_3_code 5 = .ok (.newarray .int, 2) := by decide +kernel
theorem d5_7 : decode prog_5_method_3_code 7 = .ok (.astore_n 1, 1) := by decide +kernel
theorem d5_8 : decode prog_5_method_3_code 8 = .ok (.iconst 0, 1) := by decide +kernel
theorem d5_9 : decode prog_5_method_3_code 9 = .ok (.istore_n 2, 1) := by decide +kernel
theorem d5_10 : decode prog_5_method_3_code 10 = .ok (.iload_n 2, 1) := by decide +kernel
theorem d5_11 : decode prog_5_method_3_code 11 = .ok (.aload_n 0, 1) := by decide +kernel
theorem d5_12 : decode prog_5_method_3_code 12 = .ok (.getfield 13, 3) := by decide +kernel
theorem d5_15 : decode prog_5_method_3_code 15 = .ok (.arraylength, 1) := by decide +kernel
theorem d5_16 : decode prog_5_method_3_code 16 = .ok (.if_icmp .ge 18, 3) := by decide +kernel
theorem d5_19 : decode prog_5_method_3_code 19 = .ok (.aload_n 1, 1) := by decide +kernel
theorem d5_20 : decode prog_5_method_3_code 20 = .ok (.aload_n 0, 1) := by decide +kernel
theorem d5_21 : decode prog_5_method_3_code 21 = .ok (.getfield 13, 3) := by decide +kernel
theorem d5_24 : decode prog_5_method_3_code 24 = .ok (.iload_n 2, 1) := by decide +kernel
theorem d5_25 : decode prog_5_method_3_code 25 = .ok (.iaload, 1) := by decide +kernel
theorem d5_26 : decode prog_5_method_3_code 26 = .ok (.iload_n 2, 1) := by decide +kernel
theorem d5_27 : decode prog_5_method_3_code 27 = .ok (.iastore, 1) := by decide +kernel
theorem d5_28 : decode prog_5_method_3_code 28 = .ok (.iinc 2 1, 3) := by decide +kernel
theorem d5_31 : decode prog_5_method_3_code 31 = .ok (.goto (-21), 3) := by decide +kernel
theorem d5_34 : decode prog_5_method_3_code 34 = .ok (.aload_n 1, 1) := by decide +kernel
theorem d5_35 : decode prog_5_method_3_code 35 = .ok (.areturn, 1) := by decide +kernel
theorem ef_5 (m : MethodId) (x0 : Addr) : entryFrame m #[(.ref x0)] 3 = mkF m 0 #[.val (.ref x0), .unset, .unset] [] := by first | (simp [entryFrame, mkF, argsToLocals, Value.category]; done) | rfl
def Q5 (Z : State) (a1 : Addr) (b2 : Addr) (Li : List Int32) (h0 : Heap) (n0 : Nat) (v : Option Value) (h : Heap) (L : List Loc) : Prop := ∃ b, v = some (.ref b) ∧ Fr n0 L ∧ h0.size ≤ b ∧ Keep h0 h [] ∧ ∃ Po : List Int32, Arx Z h b .int (Po.map Value.int) ∧ Po.length = Li.length ∧ ∀ i, i < Li.length → Po.getD (Li.getD i 0).toNatClampNeg 0 = Int32.ofNat i
set_option maxRecDepth 65536 in
set_option maxHeartbeats 40000000 in
theorem rm5 (l : Launch) (Z : State) (a0 : Array Value) (hw : ∀ d ∈ tables_1, d.before a0 Z = true) (ws : List Jvm.Cond) (a1 : Addr) (b2 : Addr) (Li : List Int32) (h0 : Heap) (n0 : Nat) (Z0 : n0 ≤ h0.size) (F_m : Fld Z h0 a1 "com/example/hadamint/hadamint/Groups" "members" "[I" (.ref b2)) (V_b2 : Arx Z h0 b2 .int (Li.map Value.int)) (hG : Good Li) (hlen : Li.length ≤ 4) :
    own_CT l Z (⟨"com/example/hadamint/hadamint/Groups", "positions", "()[I"⟩ : MethodName) prog_5_method_3_code 3 (some (.array .int)) ws ({ frames := 0, cells := 1, slots := 4, locals := 0 } : Room) #[(.ref a1)] h0 (Q5 Z a1 b2 Li h0 n0) := by
  refine MetFree.of_bodySF (plainFor_of_name pn_com_example_hadamint_hadamint_Groups) hisR ?_
  intro p e s m args below meth c s₁ Bd hml0 hP hK
  obtain ⟨rfl, hZ, hh⟩ := hP
  have hx := Bd.exec
  have hby := Bd.bytes
  have hml : c.maxLocals = 3 := hml0
  have hown : s.vm.findClass "com/example/hadamint/hadamint/Groups" = some m.cls := findClass_of_methodNamed Bd.named
  have hnm := (name_of_methodNamed Bd.named Bd.method).1
  have hlk : meth.locks = false := BodyLoose.notSynchronized Bd
  have X0 : Stand p l e ({ frames := 0, cells := 1, slots := 4, locals := 0 } : Room) s m #[(.ref a1)] below meth c s₁ [] 0 0 := Stand.of_body Bd
  have e0 : s₁.heap = h0 := by rw [← hh, Bd.state]; rfl
  have N0 := Fr.nil n0
  show GG p e below s ({ frames := 0, cells := 1, slots := 4, locals := 0 } : Room).cells ({ frames := 0, cells := 1, slots := 4, locals := 0 } : Room).slots (Q5 Z a1 b2 Li h0 n0) s₁ (entryFrame m #[(.ref a1)] 3)
  refine own_in (ef_5 m a1) ?_
  have hz : (Int32.ofNat (Li.map Value.int).length).toInt = Li.length := by rw [own_ofNat V_b2.1, List.length_map]
  show GG _ _ _ _ _ _ _ s₁ (mkF m 0 #[.val (.ref a1), .unset, .unset] [])
  refine own_go (fun _ => XS.aloadN X0.here hx rfl (hb hby d5_0) rfl rfl) ?_
  show GG _ _ _ _ _ _ _ s₁ (mkF m 1 #[.val (.ref a1), .unset, .unset] [(.ref a1)])
  obtain ⟨T1, X1, e1, st1⟩ := getF X0 hx hZ hown (host := "") (Or.inl (hw _ (List.mem_of_getElem? (i := 22) rfl))) Via.refl e0 F_m (g := (mkF m 1 #[.val (.ref a1), .unset, .unset] [(.ref a1)])) rfl rfl (hb hby d5_1)
  refine own_go (fun _ => st1 _) ?_
  show GG _ _ _ _ _ _ _ T1 (mkF m 4 #[.val (.ref a1), .unset, .unset] [(.ref b2)])
  refine own_go (fun _ => own_len X1 hx hZ e1 V_b2 (g := (mkF m 4 #[.val (.ref a1), .unset, .unset] [(.ref b2)])) rfl rfl (hb hby d5_4) _) ?_
  show GG _ _ _ _ _ _ _ T1 (mkF m 5 #[.val (.ref a1), .unset, .unset] [(.int (Int32.ofNat (Li.map Value.int).length))])
  have K0 := Keep.refl h0 []
  obtain ⟨T2, h2, ob2, g2, X2, e2, E2, V_ob2, E_ob2, st2⟩ := own_newarr X1 hx hZ (hw _ (List.mem_of_getElem? (i := 5) rfl)) e1 (g := (mkF m 5 #[.val (.ref a1), .unset, .unset] [(.int (Int32.ofNat (Li.map Value.int).length))])) rfl (hb hby d5_5) rfl (own_nn (by omega)) (cap := 4) (by rw [own_nat hz]; exact hlen) (by decide) (by decide) (by decide) (ad := "[I") (by decide)
  have ne_a1_ob2 : a1 ≠ ob2 := Nat.ne_of_lt (Nat.lt_of_lt_of_le F_m.lt (Nat.le_of_eq g2.symm))
  have ne_b2_ob2 : b2 ≠ ob2 := Nat.ne_of_lt (Nat.lt_of_lt_of_le V_b2.lt (Nat.le_of_eq g2.symm))
  have sz_ob2 : h0.size ≤ ob2 := Nat.le_trans K0.1 (Nat.le_of_eq g2.symm)
  have g_ob2 : n0 ≤ ob2 := Nat.le_trans Z0 sz_ob2
  have F_m := F_m.ext E2
  have V_b2 := V_b2.ext E2
  have K0 := K0.ext E2
  have V_ob2 : Arx Z h2 ob2 .int (List.replicate (Int32.ofNat (Li.map Value.int).length).toNatClampNeg (.int (0 : Int32))) := V_ob2
  refine own_go (fun _ => st2 _) ?_
  show GG _ _ _ _ _ _ _ T2 (mkF m 7 #[.val (.ref a1), .unset, .unset] [(.ref ob2)])
  refine own_go (fun _ => XS.astoreN X2.here hx rfl (hb hby d5_7) rfl rfl (l' := #[.val (.ref a1), .val (.ref ob2), .unset]) rfl) ?_
  show GG _ _ _ _ _ _ _ T2 (mkF m 8 #[.val (.ref a1), .val (.ref ob2), .unset] [])
  refine own_go (fun _ => XS.iconst X2.here hx rfl (hb hby d5_8)) ?_
  show GG _ _ _ _ _ _ _ T2 (mkF m 9 #[.val (.ref a1), .val (.ref ob2), .unset] [(.int (0 : Int32))])
  refine own_go (fun _ => XS.istoreN X2.here hx rfl (hb hby d5_9) rfl (l' := #[.val (.ref a1), .val (.ref ob2), .val (.int (0 : Int32))]) rfl) ?_
  show GG _ _ _ _ _ _ _ T2 (mkF m 10 #[.val (.ref a1), .val (.ref ob2), .val (.int (0 : Int32))] [])
  have V_ob2 : Arx Z h2 ob2 .int ((List.replicate Li.length (0 : Int32)).map Value.int) := by rw [List.map_replicate]; rw [own_nat hz] at V_ob2; exact V_ob2
  have loop3 : ∀ (k : Nat) (k0 : Nat) (i : Int32) (Po : List Int32) (TL : State) (hL : Heap) (lL : List Loc) (XL : Stand p l e ({ frames := 0, cells := 1, slots := 4, locals := 0 } : Room) s m #[(.ref a1)] below meth c TL lL 1 4) (eL : TL.heap = hL) (NL : Fr n0 lL) (hi : i.toInt = k0) (hk : k0 + k = Li.length) (F_m : Fld Z hL a1 "com/example/hadamint/hadamint/Groups" "members" "[I" (.ref b2)) (V_b2 : Arx Z hL b2 .int (Li.map Value.int)) (V_p : Arx Z hL ob2 .int (Po.map Value.int)) (K0 : Keep h0 hL []) (hpl : Po.length = Li.length) (hp : ∀ j, j < k0 → Po.getD (Li.getD j 0).toNatClampNeg 0 = Int32.ofNat j), GG p e below s 1 4 (Q5 Z a1 b2 Li h0 n0) TL (mkF m 10 #[.val (.ref a1), .val (.ref ob2), .val (.int i)] []) := by
    intro k
    induction k with
    | zero =>
      intro k0 i Po TL hL lL XL eL NL hi hk F_m V_b2 V_p K0 hpl hp
      have ri := rng32 i
      show GG _ _ _ _ _ _ _ TL (mkF m 10 #[.val (.ref a1), .val (.ref ob2), .val (.int i)] [])
      refine own_go (fun _ => XS.iloadN XL.here hx rfl (hb hby d5_10) rfl) ?_
      show GG _ _ _ _ _ _ _ TL (mkF m 11 #[.val (.ref a1), .val (.ref ob2), .val (.int i)] [(.int i)])
      refine own_go (fun _ => XS.aloadN XL.here hx rfl (hb hby d5_11) rfl rfl) ?_
      show GG _ _ _ _ _ _ _ TL (mkF m 12 #[.val (.ref a1), .val (.ref ob2), .val (.int i)] [(.ref a1), (.int i)])
      obtain ⟨T4, X4, e4, st4⟩ := getF XL hx hZ hown (host := "") (Or.inl (hw _ (List.mem_of_getElem? (i := 22) rfl))) Via.refl eL F_m (g := (mkF m 12 #[.val (.ref a1), .val (.ref ob2), .val (.int i)] [(.ref a1), (.int i)])) rfl rfl (hb hby d5_12)
      refine own_go (fun _ => st4 _) ?_
      show GG _ _ _ _ _ _ _ T4 (mkF m 15 #[.val (.ref a1), .val (.ref ob2), .val (.int i)] [(.ref b2), (.int i)])
      refine own_go (fun _ => own_len X4 hx hZ e4 V_b2 (g := (mkF m 15 #[.val (.ref a1), .val (.ref ob2), .val (.int i)] [(.ref b2), (.int i)])) rfl rfl (hb hby d5_15) _) ?_
      show GG _ _ _ _ _ _ _ T4 (mkF m 16 #[.val (.ref a1), .val (.ref ob2), .val (.int i)] [(.int (Int32.ofNat (Li.map Value.int).length)), (.int i)])
      have hc16 : ¬ (i < (Int32.ofNat (Li.map Value.int).length)) := (fun q => absurd (Int32.lt_iff_toInt_lt.mp q) ((by show ¬ (i.toInt < ((Int32.ofNat (Li.map Value.int).length)).toInt); omega : ¬ (i.toInt < ((Int32.ofNat (Li.map Value.int).length)).toInt))))
      refine own_go (fun _ => XS.icmpYes X4.here hx rfl (pc0 := 16) (pc' := 34) rfl (hb hby d5_16) rfl (flt hc16).2.1 (by decide) (by decide)) ?_
      show GG _ _ _ _ _ _ _ T4 (mkF m 34 #[.val (.ref a1), .val (.ref ob2), .val (.int i)] [])
      refine own_go (fun _ => XS.aloadN X4.here hx rfl (hb hby d5_34) rfl rfl) ?_
      show GG _ _ _ _ _ _ _ T4 (mkF m 35 #[.val (.ref a1), .val (.ref ob2), .val (.int i)] [(.ref ob2)])
      refine own_ret X4 hx hlk (t := (.array .int)) (w := (.ref ob2)) Bd.returns rfl (Or.inr (Or.inr (Or.inr (Or.inr ⟨rfl, rfl, rfl⟩)))) (hb hby d5_35) (by decide) (by decide) ?_
      show Q5 Z a1 b2 Li h0 n0 (some (.ref ob2)) T4.heap _
      rw [e4]
      have hk2 : k0 = Li.length := by omega
      subst hk2
      exact ⟨_, rfl, NL, sz_ob2, K0, Po, V_p, hpl, hp⟩
    | succ k ih =>
      intro k0 i Po TL hL lL XL eL NL hi hk F_m V_b2 V_p K0 hpl hp
      have ri := rng32 i
      have hlt : k0 < Li.length := by omega
      have hr := hG.1 k0 hlt
      obtain ⟨t, ht⟩ : ∃ t : Nat, (Li.getD k0 0).toInt = t := ⟨(Li.getD k0 0).toInt.toNat, by omega⟩
      show GG _ _ _ _ _ _ _ TL (mkF m 10 #[.val (.ref a1), .val (.ref ob2), .val (.int i)] [])
      refine own_go (fun _ => XS.iloadN XL.here hx rfl (hb hby d5_10) rfl) ?_
      show GG _ _ _ _ _ _ _ TL (mkF m 11 #[.val (.ref a1), .val (.ref ob2), .val (.int i)] [(.int i)])
      refine own_go (fun _ => XS.aloadN XL.here hx rfl (hb hby d5_11) rfl rfl) ?_
      show GG _ _ _ _ _ _ _ TL (mkF m 12 #[.val (.ref a1), .val (.ref ob2), .val (.int i)] [(.ref a1), (.int i)])
      obtain ⟨T5, X5, e5, st5⟩ := getF XL hx hZ hown (host := "") (Or.inl (hw _ (List.mem_of_getElem? (i := 22) rfl))) Via.refl eL F_m (g := (mkF m 12 #[.val (.ref a1), .val (.ref ob2), .val (.int i)] [(.ref a1), (.int i)])) rfl rfl (hb hby d5_12)
      refine own_go (fun _ => st5 _) ?_
      show GG _ _ _ _ _ _ _ T5 (mkF m 15 #[.val (.ref a1), .val (.ref ob2), .val (.int i)] [(.ref b2), (.int i)])
      refine own_go (fun _ => own_len X5 hx hZ e5 V_b2 (g := (mkF m 15 #[.val (.ref a1), .val (.ref ob2), .val (.int i)] [(.ref b2), (.int i)])) rfl rfl (hb hby d5_15) _) ?_
      show GG _ _ _ _ _ _ _ T5 (mkF m 16 #[.val (.ref a1), .val (.ref ob2), .val (.int i)] [(.int (Int32.ofNat (Li.map Value.int).length)), (.int i)])
      have hc16 : i < (Int32.ofNat (Li.map Value.int).length) := (Int32.lt_iff_toInt_lt.mpr ((by show (i.toInt < ((Int32.ofNat (Li.map Value.int).length)).toInt); omega : (i.toInt < ((Int32.ofNat (Li.map Value.int).length)).toInt))))
      refine own_go (fun _ => XS.icmpNo X5.here hx rfl (hb hby d5_16) rfl (tlt hc16).2.1) ?_
      show GG _ _ _ _ _ _ _ T5 (mkF m 19 #[.val (.ref a1), .val (.ref ob2), .val (.int i)] [])
      refine own_go (fun _ => XS.aloadN X5.here hx rfl (hb hby d5_19) rfl rfl) ?_
      show GG _ _ _ _ _ _ _ T5 (mkF m 20 #[.val (.ref a1), .val (.ref ob2), .val (.int i)] [(.ref ob2)])
      refine own_go (fun _ => XS.aloadN X5.here hx rfl (hb hby d5_20) rfl rfl) ?_
      show GG _ _ _ _ _ _ _ T5 (mkF m 21 #[.val (.ref a1), .val (.ref ob2), .val (.int i)] [(.ref a1), (.ref ob2)])
      obtain ⟨T6, X6, e6, st6⟩ := getF X5 hx hZ hown (host := "") (Or.inl (hw _ (List.mem_of_getElem? (i := 22) rfl))) Via.refl e5 F_m (g := (mkF m 21 #[.val (.ref a1), .val (.ref ob2), .val (.int i)] [(.ref a1), (.ref ob2)])) rfl rfl (hb hby d5_21)
      refine own_go (fun _ => st6 _) ?_
      show GG _ _ _ _ _ _ _ T6 (mkF m 24 #[.val (.ref a1), .val (.ref ob2), .val (.int i)] [(.ref b2), (.ref ob2)])
      refine own_go (fun _ => XS.iloadN X6.here hx rfl (hb hby d5_24) rfl) ?_
      show GG _ _ _ _ _ _ _ T6 (mkF m 25 #[.val (.ref a1), .val (.ref ob2), .val (.int i)] [(.int i), (.ref b2), (.ref ob2)])
      refine own_go (fun _ => own_iaload X6 hx hZ e6 V_b2 (j := i) (v := (.int (Li.getD k0 0))) (own_nn (by omega)) (by rw [own_nat hi]; exact own_gm Li k0 hlt) (g := (mkF m 25 #[.val (.ref a1), .val (.ref ob2), .val (.int i)] [(.int i), (.ref b2), (.ref ob2)])) rfl rfl (hb hby d5_25) _) ?_
      show GG _ _ _ _ _ _ _ T6 (mkF m 26 #[.val (.ref a1), .val (.ref ob2), .val (.int i)] [(.int (Li.getD k0 0)), (.ref ob2)])
      refine own_go (fun _ => XS.iloadN X6.here hx rfl (hb hby d5_26) rfl) ?_
      show GG _ _ _ _ _ _ _ T6 (mkF m 27 #[.val (.ref a1), .val (.ref ob2), .val (.int i)] [(.int i), (.int (Li.getD k0 0)), (.ref ob2)])
      obtain ⟨T7, h7, X7, e7, W7, V7, st7⟩ := own_iastore X6 hx hZ e6 V_p (own_nn (by omega)) (by rw [own_nat ht, List.length_map]; omega) (g := (mkF m 27 #[.val (.ref a1), .val (.ref ob2), .val (.int i)] [(.int i), (.int (Li.getD k0 0)), (.ref ob2)])) rfl rfl (hb hby d5_27)
      have F_m := F_m.other W7 (Or.inl ne_a1_ob2)
      have V_b2 := V_b2.other W7 ne_b2_ob2
      have K0 := K0.wr W7 (Or.inr sz_ob2)
      have V_p : Arx Z h7 ob2 .int ((Po.set t i).map Value.int) := (by rw [List.map_set]; rw [own_nat ht] at V7; exact V7)
      have N7 := Fr.snoc X7 NL g_ob2
      refine own_go (fun _ => st7 _) ?_
      show GG _ _ _ _ _ _ _ T7 (mkF m 28 #[.val (.ref a1), .val (.ref ob2), .val (.int i)] [])
      refine own_go (fun _ => XS.iinc X7.here hx rfl (hb hby d5_28) rfl (l' := #[.val (.ref a1), .val (.ref ob2), .val (.int (i + (1 : Int32)))]) rfl) ?_
      show GG _ _ _ _ _ _ _ T7 (mkF m 31 #[.val (.ref a1), .val (.ref ob2), .val (.int (i + (1 : Int32)))] [])
      have cx8 := c_iadd i (1 : Int32)
      simp only [show ((1 : Int32)).toInt = 1 from by decide] at cx8
      generalize hx8 : (i + (1 : Int32)) = x8 at cx8 ⊢
      have rx8 := rng32 x8
      refine own_go (fun _ => XS.goto X7.here hx rfl (pc0 := 31) (pc' := 10) rfl (hb hby d5_31) (by decide) (by decide)) ?_
      show GG _ _ _ _ _ _ _ T7 (mkF m 10 #[.val (.ref a1), .val (.ref ob2), .val (.int x8)] [])
      refine ih (k0 + 1) x8 (Po.set t i) T7 _ _ X7 e7 N7 (by omega) (by omega) F_m V_b2 V_p K0 (by rw [List.length_set]; exact hpl) ?_
      exact own_inv hG hlt hpl hi ht hp
  exact loop3 Li.length 0 (0 : Int32) (List.replicate Li.length 0) T2 h2 _ X2 e2 N0 (by decide) (by omega) F_m V_b2 V_ob2 K0 (List.length_replicate) (fun j hj => absurd hj (Nat.not_lt_zero _))
theorem d6_0 : decode method_4_code 0 = .ok (.iload 4, 2) := by decide +kernel
theorem d6_2 : decode method_4_code 2 = .ok (.iload_n 3, 1) := by decide +kernel
theorem d6_3 : decode method_4_code 3 = .ok (.if_icmp .lt 5, 3) := by decide +kernel
theorem d6_6 : decode method_4_code 6 = .ok (.iconst 1, 1) := by decide +kernel
theorem d6_7 : decode method_4_code 7 = .ok (.ireturn, 1) := by decide +kernel
theorem d6_8 : decode method_4_code 8 = .ok (.aload_n 0, 1) := by decide +kernel
theorem d6_9 : decode method_4_code 9 = .ok (.iload 4, 2) := by decide +kernel
theorem d6_11 : decode method_4_code 11 = .ok (.iaload, 1) := by decide +kernel
theorem d6_12 : decode method_4_code 12 = .ok (.aload_n 1, 1) := by decide +kernel
theorem d6_13 : decode method_4_code 13 = .ok (.iload 4, 2) := by decide +kernel
theorem d6_15 : decode method_4_code 15 = .ok (.iaload, 1) := by decide +kernel
theorem d6_16 : decode method_4_code 16 = .ok (.if_icmp .ne 18, 3) := by decide +kernel
theorem d6_19 : decode method_4_code 19 = .ok (.aload_n 2, 1) := by decide +kernel
theorem d6_20 : decode method_4_code 20 = .ok (.aload_n 0, 1) := by decide +kernel
theorem d6_21 : decode method_4_code 21 = .ok (.iload 4, 2) := by decide +kernel
theorem d6_23 : decode method_4_code 23 = .ok (.iaload, 1) := by decide +kernel
theorem d6_24 : decode method_4_code 24 = .ok (.iaload, 1) := by decide +kernel
theorem d6_25 : decode method_4_code 25 = .ok (.iload 4, 2) := by decide +kernel
theorem d6_27 : decode method_4_code 27 = .ok (.if_icmp .ne 7, 3) := by decide +kernel
theorem d6_30 : decode method_4_code 30 = .ok (.iconst 1, 1) := by decide +kernel
theorem d6_31 : decode method_4_code 31 = .ok (.goto 4, 3) := by decide +kernel
theorem d6_35 : decode method_4_code 35 = .ok (.ireturn, 1) := by decide +kernel
theorem ef_6 (m : MethodId) (x0 : Addr) (x1 : Addr) (x2 : Addr) (x3 : Int32) (x4 : Int32) : entryFrame m #[(.ref x0), (.ref x1), (.ref x2), (.int x3), (.int x4)] 5 = mkF m 0 #[.val (.ref x0), .val (.ref x1), .val (.ref x2), .val (.int x3), .val (.int x4)] [] := by first | (simp [entryFrame, mkF, argsToLocals, Value.category]; done) | rfl
def Q6 (Z : State) (a1 : Addr) (a2 : Addr) (a3 : Addr) (p4 : Int32) (p5 : Int32) (Li Po : List Int32) (k : Nat) (h0 : Heap) (n0 : Nat) (v : Option Value) (h : Heap) (L : List Loc) : Prop := v = some (.int 1) ∧ Fr n0 L ∧ h = h0
set_option maxRecDepth 65536 in
set_option maxHeartbeats 40000000 in
theorem rm6 (l : Launch) (Z : State) (a0 : Array Value) (hw : ∀ d ∈ tables_1, d.before a0 Z = true) (ws : List Jvm.Cond) (a1 : Addr) (a2 : Addr) (a3 : Addr) (p4 : Int32) (p5 : Int32) (Li Po : List Int32) (k : Nat) (h0 : Heap) (n0 : Nat) (Z0 : n0 ≤ h0.size) (V_a1 : Arx Z h0 a1 .int (Li.map Value.int)) (V_a2 : Arx Z h0 a2 .int (Li.map Value.int)) (V_a3 : Arx Z h0 a3 .int (Po.map Value.int)) (hn : p4.toInt = Li.length) (hk : p5.toInt = k) (hG : Good Li) (hpl : Po.length = Li.length) (hp : ∀ i, i < Li.length → Po.getD (Li.getD i 0).toNatClampNeg 0 = Int32.ofNat i) :
    own_CT l Z (⟨"com/example/hadamint/hadamint/GroupsPositionsPinLaw", "at", "([I[I[III)Z"⟩ : MethodName) method_4_code 5 (some .boolean) ws ({ frames := 0, cells := 0, slots := 0, locals := 0 } : Room) #[(.ref a1), (.ref a2), (.ref a3), (.int p4), (.int p5)] h0 (Q6 Z a1 a2 a3 p4 p5 Li Po k h0 n0) := by
  refine MetFree.of_bodySF (plainFor_of_name pn_com_example_hadamint_hadamint_GroupsPositionsPinLaw) hisR ?_
  intro p e s m args below meth c s₁ Bd hml0 hP hK
  obtain ⟨rfl, hZ, hh⟩ := hP
  have hx := Bd.exec
  have hby := Bd.bytes
  have hml : c.maxLocals = 5 := hml0
  have hown : s.vm.findClass "com/example/hadamint/hadamint/GroupsPositionsPinLaw" = some m.cls := findClass_of_methodNamed Bd.named
  have hnm := (name_of_methodNamed Bd.named Bd.method).1
  have hlk : meth.locks = false := BodyLoose.notSynchronized Bd
  have X0 : Stand p l e ({ frames := 0, cells := 0, slots := 0, locals := 0 } : Room) s m #[(.ref a1), (.ref a2), (.ref a3), (.int p4), (.int p5)] below meth c s₁ [] 0 0 := Stand.of_body Bd
  have e0 : s₁.heap = h0 := by rw [← hh, Bd.state]; rfl
  have N0 := Fr.nil n0
  show GG p e below s ({ frames := 0, cells := 0, slots := 0, locals := 0 } : Room).cells ({ frames := 0, cells := 0, slots := 0, locals := 0 } : Room).slots (Q6 Z a1 a2 a3 p4 p5 Li Po k h0 n0) s₁ (entryFrame m #[(.ref a1), (.ref a2), (.ref a3), (.int p4), (.int p5)] 5)
  refine own_in (ef_6 m a1 a2 a3 p4 p5) ?_
  show GG _ _ _ _ _ _ _ s₁ (mkF m 0 #[.val (.ref a1), .val (.ref a2), .val (.ref a3), .val (.int p4), .val (.int p5)] [])
  refine own_go (fun _ => XS.iload X0.here hx rfl (hb hby d6_0) rfl) ?_
  show GG _ _ _ _ _ _ _ s₁ (mkF m 2 #[.val (.ref a1), .val (.ref a2), .val (.ref a3), .val (.int p4), .val (.int p5)] [(.int p5)])
  refine own_go (fun _ => XS.iloadN X0.here hx rfl (hb hby d6_2) rfl) ?_
  show GG _ _ _ _ _ _ _ s₁ (mkF m 3 #[.val (.ref a1), .val (.ref a2), .val (.ref a3), .val (.int p4), .val (.int p5)] [(.int p4), (.int p5)])
  by_cases hc3 : p5 < p4
  · skip
    have ihc3 : (p5.toInt < p4.toInt) := Int32.lt_iff_toInt_lt.mp hc3
    refine own_go (fun _ => XS.icmpYes X0.here hx rfl (pc0 := 3) (pc' := 8) rfl (hb hby d6_3) rfl (tlt hc3).1 (by decide) (by decide)) ?_
    show GG _ _ _ _ _ _ _ s₁ (mkF m 8 #[.val (.ref a1), .val (.ref a2), .val (.ref a3), .val (.int p4), .val (.int p5)] [])
    refine own_go (fun _ => XS.aloadN X0.here hx rfl (hb hby d6_8) rfl rfl) ?_
    show GG _ _ _ _ _ _ _ s₁ (mkF m 9 #[.val (.ref a1), .val (.ref a2), .val (.ref a3), .val (.int p4), .val (.int p5)] [(.ref a1)])
    refine own_go (fun _ => XS.iload X0.here hx rfl (hb hby d6_9) rfl) ?_
    show GG _ _ _ _ _ _ _ s₁ (mkF m 11 #[.val (.ref a1), .val (.ref a2), .val (.ref a3), .val (.int p4), .val (.int p5)] [(.int p5), (.ref a1)])
    refine own_go (fun _ => own_iaload X0 hx hZ e0 V_a1 (j := p5) (v := (.int (Li.getD k 0))) (own_nn (by omega)) (by rw [own_nat hk]; exact own_gm Li k (by omega)) (g := (mkF m 11 #[.val (.ref a1), .val (.ref a2), .val (.ref a3), .val (.int p4), .val (.int p5)] [(.int p5), (.ref a1)])) rfl rfl (hb hby d6_11) _) ?_
    show GG _ _ _ _ _ _ _ s₁ (mkF m 12 #[.val (.ref a1), .val (.ref a2), .val (.ref a3), .val (.int p4), .val (.int p5)] [(.int (Li.getD k 0))])
    refine own_go (fun _ => XS.aloadN X0.here hx rfl (hb hby d6_12) rfl rfl) ?_
    show GG _ _ _ _ _ _ _ s₁ (mkF m 13 #[.val (.ref a1), .val (.ref a2), .val (.ref a3), .val (.int p4), .val (.int p5)] [(.ref a2), (.int (Li.getD k 0))])
    refine own_go (fun _ => XS.iload X0.here hx rfl (hb hby d6_13) rfl) ?_
    show GG _ _ _ _ _ _ _ s₁ (mkF m 15 #[.val (.ref a1), .val (.ref a2), .val (.ref a3), .val (.int p4), .val (.int p5)] [(.int p5), (.ref a2), (.int (Li.getD k 0))])
    refine own_go (fun _ => own_iaload X0 hx hZ e0 V_a2 (j := p5) (v := (.int (Li.getD k 0))) (own_nn (by omega)) (by rw [own_nat hk]; exact own_gm Li k (by omega)) (g := (mkF m 15 #[.val (.ref a1), .val (.ref a2), .val (.ref a3), .val (.int p4), .val (.int p5)] [(.int p5), (.ref a2), (.int (Li.getD k 0))])) rfl rfl (hb hby d6_15) _) ?_
    show GG _ _ _ _ _ _ _ s₁ (mkF m 16 #[.val (.ref a1), .val (.ref a2), .val (.ref a3), .val (.int p4), .val (.int p5)] [(.int (Li.getD k 0)), (.int (Li.getD k 0))])
    have hc16 : (Li.getD k 0) = (Li.getD k 0) := rfl
    refine own_go (fun _ => XS.icmpNo X0.here hx rfl (hb hby d6_16) rfl (teq hc16).2) ?_
    show GG _ _ _ _ _ _ _ s₁ (mkF m 19 #[.val (.ref a1), .val (.ref a2), .val (.ref a3), .val (.int p4), .val (.int p5)] [])
    refine own_go (fun _ => XS.aloadN X0.here hx rfl (hb hby d6_19) rfl rfl) ?_
    show GG _ _ _ _ _ _ _ s₁ (mkF m 20 #[.val (.ref a1), .val (.ref a2), .val (.ref a3), .val (.int p4), .val (.int p5)] [(.ref a3)])
    refine own_go (fun _ => XS.aloadN X0.here hx rfl (hb hby d6_20) rfl rfl) ?_
    show GG _ _ _ _ _ _ _ s₁ (mkF m 21 #[.val (.ref a1), .val (.ref a2), .val (.ref a3), .val (.int p4), .val (.int p5)] [(.ref a1), (.ref a3)])
    refine own_go (fun _ => XS.iload X0.here hx rfl (hb hby d6_21) rfl) ?_
    show GG _ _ _ _ _ _ _ s₁ (mkF m 23 #[.val (.ref a1), .val (.ref a2), .val (.ref a3), .val (.int p4), .val (.int p5)] [(.int p5), (.ref a1), (.ref a3)])
    refine own_go (fun _ => own_iaload X0 hx hZ e0 V_a1 (j := p5) (v := (.int (Li.getD k 0))) (own_nn (by omega)) (by rw [own_nat hk]; exact own_gm Li k (by omega)) (g := (mkF m 23 #[.val (.ref a1), .val (.ref a2), .val (.ref a3), .val (.int p4), .val (.int p5)] [(.int p5), (.ref a1), (.ref a3)])) rfl rfl (hb hby d6_23) _) ?_
    show GG _ _ _ _ _ _ _ s₁ (mkF m 24 #[.val (.ref a1), .val (.ref a2), .val (.ref a3), .val (.int p4), .val (.int p5)] [(.int (Li.getD k 0)), (.ref a3)])
    refine own_go (fun _ => own_iaload X0 hx hZ e0 V_a3 (j := (Li.getD k 0)) (v := (.int (Po.getD (Li.getD k 0).toNatClampNeg 0))) (own_nn (hG.1 k (by omega)).1) (own_gm Po _ (by have := hG.1 k (by omega); simp only [Int32.toNatClampNeg]; omega)) (g := (mkF m 24 #[.val (.ref a1), .val (.ref a2), .val (.ref a3), .val (.int p4), .val (.int p5)] [(.int (Li.getD k 0)), (.ref a3)])) rfl rfl (hb hby d6_24) _) ?_
    show GG _ _ _ _ _ _ _ s₁ (mkF m 25 #[.val (.ref a1), .val (.ref a2), .val (.ref a3), .val (.int p4), .val (.int p5)] [(.int (Po.getD (Li.getD k 0).toNatClampNeg 0))])
    refine own_go (fun _ => XS.iload X0.here hx rfl (hb hby d6_25) rfl) ?_
    show GG _ _ _ _ _ _ _ s₁ (mkF m 27 #[.val (.ref a1), .val (.ref a2), .val (.ref a3), .val (.int p4), .val (.int p5)] [(.int p5), (.int (Po.getD (Li.getD k 0).toNatClampNeg 0))])
    have hc27 : (Po.getD (Li.getD k 0).toNatClampNeg 0) = p5 := by rw [hp k (by omega), ← Int32.toInt_inj, hk, own_ofNat (by have := rng32 p5; omega)]
    refine own_go (fun _ => XS.icmpNo X0.here hx rfl (hb hby d6_27) rfl (teq hc27).2) ?_
    show GG _ _ _ _ _ _ _ s₁ (mkF m 30 #[.val (.ref a1), .val (.ref a2), .val (.ref a3), .val (.int p4), .val (.int p5)] [])
    refine own_go (fun _ => XS.iconst X0.here hx rfl (hb hby d6_30)) ?_
    show GG _ _ _ _ _ _ _ s₁ (mkF m 31 #[.val (.ref a1), .val (.ref a2), .val (.ref a3), .val (.int p4), .val (.int p5)] [(.int (1 : Int32))])
    refine own_go (fun _ => XS.goto X0.here hx rfl (pc0 := 31) (pc' := 35) rfl (hb hby d6_31) (by decide) (by decide)) ?_
    show GG _ _ _ _ _ _ _ s₁ (mkF m 35 #[.val (.ref a1), .val (.ref a2), .val (.ref a3), .val (.int p4), .val (.int p5)] [(.int (1 : Int32))])
    refine own_ret X0 hx hlk (t := .boolean) (w := (.int (1 : Int32))) Bd.returns rfl (Or.inl ⟨rfl, by simp, _, rfl⟩) (hb hby d6_35) (by decide) (by decide) ?_
    show Q6 Z a1 a2 a3 p4 p5 Li Po k h0 n0 (some (.int (1 : Int32))) s₁.heap _
    rw [e0]
    exact ⟨rfl, N0, rfl⟩
  · skip
    have ihc3 : ¬ (p5.toInt < p4.toInt) := fun q => hc3 (Int32.lt_iff_toInt_lt.mpr q)
    refine own_go (fun _ => XS.icmpNo X0.here hx rfl (hb hby d6_3) rfl (flt hc3).1) ?_
    show GG _ _ _ _ _ _ _ s₁ (mkF m 6 #[.val (.ref a1), .val (.ref a2), .val (.ref a3), .val (.int p4), .val (.int p5)] [])
    refine own_go (fun _ => XS.iconst X0.here hx rfl (hb hby d6_6)) ?_
    show GG _ _ _ _ _ _ _ s₁ (mkF m 7 #[.val (.ref a1), .val (.ref a2), .val (.ref a3), .val (.int p4), .val (.int p5)] [(.int (1 : Int32))])
    refine own_ret X0 hx hlk (t := .boolean) (w := (.int (1 : Int32))) Bd.returns rfl (Or.inl ⟨rfl, by simp, _, rfl⟩) (hb hby d6_7) (by decide) (by decide) ?_
    show Q6 Z a1 a2 a3 p4 p5 Li Po k h0 n0 (some (.int (1 : Int32))) s₁.heap _
    rw [e0]
    exact ⟨rfl, N0, rfl⟩
theorem pd__IIII__I_537 : parseMethodDescriptor "(IIII)[I" = some ⟨[.int, .int, .int, .int], some (.array .int)⟩ := by decide +kernel
theorem pd___I_I_V_495 : parseMethodDescriptor "([I[I)V" = some ⟨[(.array .int), (.array .int)], none⟩ := by decide +kernel
theorem pd____I_245 : parseMethodDescriptor "()[I" = some ⟨[], some (.array .int)⟩ := by decide +kernel
theorem pd___I_I_III_Z_809 : parseMethodDescriptor "([I[I[III)Z" = some ⟨[(.array .int), (.array .int), (.array .int), .int, .int], some .boolean⟩ := by decide +kernel
theorem ef_0 (m : MethodId) (x0 : Int32) (x1 : Int32) (x2 : Int32) (x3 : Int32) : entryFrame m #[(.int x0), (.int x1), (.int x2), (.int x3)] maxLocals = mkF m 0 #[.val (.int x0), .val (.int x1), .val (.int x2), .val (.int x3), .unset, .unset, .unset, .unset, .unset] [] := by first | (simp [entryFrame, mkF, argsToLocals, Value.category, maxLocals]; done) | rfl
def Q0 (Z : State) (p0 : Int32) (p1 : Int32) (p2 : Int32) (p3 : Int32) (h0 : Heap) (n0 : Nat) (v : Option Value) (h : Heap) (L : List Loc) : Prop := v = some (.int 1) ∧ Fr n0 L
set_option maxRecDepth 65536 in
set_option maxHeartbeats 40000000 in
theorem rm0 (l : Launch) (Z : State) (a0 : Array Value) (hw : ∀ d ∈ tables_1, d.before a0 Z = true) (ws : List Jvm.Cond) (p0 : Int32) (p1 : Int32) (p2 : Int32) (p3 : Int32) (h0 : Heap) (n0 : Nat) (Z0 : n0 ≤ h0.size)  :
    own_CT l Z x code maxLocals ret ws room_1 #[(.int p0), (.int p1), (.int p2), (.int p3)] h0 (Q0 Z p0 p1 p2 p3 h0 n0) := by
  refine MetFree.of_bodySF (plainFor_of_name pn_com_example_hadamint_hadamint_GroupsPositionsPinLaw) hisR ?_
  intro p e s m args below meth c s₁ Bd hml0 hP hK
  obtain ⟨rfl, hZ, hh⟩ := hP
  have hx := Bd.exec
  have hby := Bd.bytes
  have hml : c.maxLocals = 9 := hml0
  have hown : s.vm.findClass "com/example/hadamint/hadamint/GroupsPositionsPinLaw" = some m.cls := findClass_of_methodNamed Bd.named
  have hnm := (name_of_methodNamed Bd.named Bd.method).1
  have hlk : meth.locks = false := BodyLoose.notSynchronized Bd
  have X0 : Stand p l e room_1 s m #[(.int p0), (.int p1), (.int p2), (.int p3)] below meth c s₁ [] 0 0 := Stand.of_body Bd
  have e0 : s₁.heap = h0 := by rw [← hh, Bd.state]; rfl
  have N0 := Fr.nil n0
  show GG p e below s room_1.cells room_1.slots (Q0 Z p0 p1 p2 p3 h0 n0) s₁ (entryFrame m #[(.int p0), (.int p1), (.int p2), (.int p3)] maxLocals)
  refine own_in (ef_0 m p0 p1 p2 p3) ?_
  show GG _ _ _ _ _ _ _ s₁ (mkF m 0 #[.val (.int p0), .val (.int p1), .val (.int p2), .val (.int p3), .unset, .unset, .unset, .unset, .unset] [])
  refine own_go (fun _ => XS.iloadN X0.here hx rfl (hb hby at_0) rfl) ?_
  show GG _ _ _ _ _ _ _ s₁ (mkF m 1 #[.val (.int p0), .val (.int p1), .val (.int p2), .val (.int p3), .unset, .unset, .unset, .unset, .unset] [(.int p0)])
  refine own_go (fun _ => X0.ldcInt hx hown (mvT hZ (hw _ (List.mem_of_getElem? (i := 0) rfl))) (g := (mkF m 1 #[.val (.int p0), .val (.int p1), .val (.int p2), .val (.int p3), .unset, .unset, .unset, .unset, .unset] [(.int p0)])) rfl (hb hby at_1) _) ?_
  show GG _ _ _ _ _ _ _ s₁ (mkF m 3 #[.val (.int p0), .val (.int p1), .val (.int p2), .val (.int p3), .unset, .unset, .unset, .unset, .unset] [(.int (2147483647 : Int32)), (.int p0)])
  refine own_go (fun _ => XS.iand X0.here hx rfl (hb hby at_3) rfl) ?_
  show GG _ _ _ _ _ _ _ s₁ (mkF m 4 #[.val (.int p0), .val (.int p1), .val (.int p2), .val (.int p3), .unset, .unset, .unset, .unset, .unset] [(.int (p0 &&& (2147483647 : Int32)))])
  have cx1 := c_mask p0 (2147483647 : Int32) 31 (by decide) (by decide)
  generalize hx1 : (p0 &&& (2147483647 : Int32)) = x1 at cx1 ⊢
  have rx1 := rng32 x1
  refine own_go (fun _ => XS.iconst X0.here hx rfl (hb hby at_4)) ?_
  show GG _ _ _ _ _ _ _ s₁ (mkF m 5 #[.val (.int p0), .val (.int p1), .val (.int p2), .val (.int p3), .unset, .unset, .unset, .unset, .unset] [(.int (5 : Int32)), (.int x1)])
  refine own_go (fun _ => iremM X0 hx rfl (hb hby at_5) rfl (by decide)) ?_
  show GG _ _ _ _ _ _ _ s₁ (mkF m 6 #[.val (.int p0), .val (.int p1), .val (.int p2), .val (.int p3), .unset, .unset, .unset, .unset, .unset] [(.int (x1 % (5 : Int32)))])
  have cx2 := c_irem x1 (5 : Int32) 5 (by decide)
  generalize hx2 : (x1 % (5 : Int32)) = x2 at cx2 ⊢
  have rx2 := rng32 x2
  refine own_go (fun _ => XS.istore X0.here hx rfl (hb hby at_6) rfl (l' := #[.val (.int p0), .val (.int p1), .val (.int p2), .val (.int p3), .val (.int x2), .unset, .unset, .unset, .unset]) rfl) ?_
  show GG _ _ _ _ _ _ _ s₁ (mkF m 8 #[.val (.int p0), .val (.int p1), .val (.int p2), .val (.int p3), .val (.int x2), .unset, .unset, .unset, .unset] [])
  have h5 : x2 = 0 ∨ x2 = 1 ∨ x2 = 2 ∨ x2 = 3 ∨ x2 = 4 := by simp only [← Int32.toInt_inj, show (0 : Int32).toInt = 0 from by decide, show (1 : Int32).toInt = 1 from by decide, show (2 : Int32).toInt = 2 from by decide, show (3 : Int32).toInt = 3 from by decide, show (4 : Int32).toInt = 4 from by decide]; omega
  rcases h5 with h5 | h5 | h5 | h5 | h5
  · skip
    subst h5
    have hG := own_good 0 p1 p2 p3
    have hbl : (bl 0 p1 p2 p3).length = 0 := by simp only [bl, own_swl]; rfl
    show GG _ _ _ _ _ _ _ s₁ (mkF m 8 #[.val (.int p0), .val (.int p1), .val (.int p2), .val (.int p3), .val (.int (0 : Int32)), .unset, .unset, .unset, .unset] [])
    have K0 := Keep.refl h0 []
    refine own_go (fun _ => XS.iload X0.here hx rfl (hb hby at_8) rfl) ?_
    show GG _ _ _ _ _ _ _ s₁ (mkF m 10 #[.val (.int p0), .val (.int p1), .val (.int p2), .val (.int p3), .val (.int (0 : Int32)), .unset, .unset, .unset, .unset] [(.int (0 : Int32))])
    refine own_go (fun _ => XS.iloadN X0.here hx rfl (hb hby at_10) rfl) ?_
    show GG _ _ _ _ _ _ _ s₁ (mkF m 11 #[.val (.int p0), .val (.int p1), .val (.int p2), .val (.int p3), .val (.int (0 : Int32)), .unset, .unset, .unset, .unset] [(.int p1), (.int (0 : Int32))])
    refine own_go (fun _ => XS.iloadN X0.here hx rfl (hb hby at_11) rfl) ?_
    show GG _ _ _ _ _ _ _ s₁ (mkF m 12 #[.val (.int p0), .val (.int p1), .val (.int p2), .val (.int p3), .val (.int (0 : Int32)), .unset, .unset, .unset, .unset] [(.int p2), (.int p1), (.int (0 : Int32))])
    refine own_go (fun _ => XS.iloadN X0.here hx rfl (hb hby at_12) rfl) ?_
    show GG _ _ _ _ _ _ _ s₁ (mkF m 13 #[.val (.int p0), .val (.int p1), .val (.int p2), .val (.int p3), .val (.int (0 : Int32)), .unset, .unset, .unset, .unset] [(.int p3), (.int p2), (.int p1), (.int (0 : Int32))])
    refine own_callS X0 hx hZ (y := (⟨"com/example/hadamint/hadamint/GroupsPositionsPinLaw", "build", "(IIII)[I"⟩ : MethodName)) 0 hown (hw _ (List.mem_of_getElem? (i := 1) rfl)) (hw _ (List.mem_of_getElem? (i := 2) rfl)) (hw _ (List.mem_of_getElem? (i := 3) rfl)) (hw _ (List.mem_of_getElem? (i := 4) rfl)) (by decide) (argsL := [(.int (0 : Int32)), (.int p1), (.int p2), (.int p3)]) (rest := []) (rm1_0 l Z a0 hw [] p1 p2 p3 h0 n0 Z0) (by decide) (by decide) (by decide) (by decide) (g := (mkF m 13 #[.val (.int p0), .val (.int p1), .val (.int p2), .val (.int p3), .val (.int (0 : Int32)), .unset, .unset, .unset, .unset] [(.int p3), (.int p2), (.int p1), (.int (0 : Int32))])) rfl (by rw [hml]; rfl) (lenOf pd__IIII__I_537 rfl) rfl (by show 2 * 0 + _ ≤ _; exact Nat.le_of_eq rfl) (hb hby at_13) e0 ?_
    rintro v3 T3 L3 X3 ⟨bq3, rfl, N3q, szq3, Kq3, Vq3⟩
    have N3 := Fr.app N0 N3q
    have K0 := K0.trans Kq3 all0
    have sz_bq3 : h0.size ≤ bq3 := Nat.le_trans (Nat.le_refl _) szq3
    have g_bq3 : n0 ≤ bq3 := Nat.le_trans Z0 sz_bq3
    have Kp := K0
    show GG _ _ _ _ _ _ _ T3 (mkF m 16 #[.val (.int p0), .val (.int p1), .val (.int p2), .val (.int p3), .val (.int (0 : Int32)), .unset, .unset, .unset, .unset] [(.ref bq3)])
    refine own_go (fun _ => XS.astore X3.here hx rfl (hb hby at_16) rfl rfl (l' := #[.val (.int p0), .val (.int p1), .val (.int p2), .val (.int p3), .val (.int (0 : Int32)), .val (.ref bq3), .unset, .unset, .unset]) rfl) ?_
    show GG _ _ _ _ _ _ _ T3 (mkF m 18 #[.val (.int p0), .val (.int p1), .val (.int p2), .val (.int p3), .val (.int (0 : Int32)), .val (.ref bq3), .unset, .unset, .unset] [])
    refine own_go (fun _ => XS.iload X3.here hx rfl (hb hby at_18) rfl) ?_
    show GG _ _ _ _ _ _ _ T3 (mkF m 20 #[.val (.int p0), .val (.int p1), .val (.int p2), .val (.int p3), .val (.int (0 : Int32)), .val (.ref bq3), .unset, .unset, .unset] [(.int (0 : Int32))])
    refine own_go (fun _ => XS.iloadN X3.here hx rfl (hb hby at_20) rfl) ?_
    show GG _ _ _ _ _ _ _ T3 (mkF m 21 #[.val (.int p0), .val (.int p1), .val (.int p2), .val (.int p3), .val (.int (0 : Int32)), .val (.ref bq3), .unset, .unset, .unset] [(.int p1), (.int (0 : Int32))])
    refine own_go (fun _ => XS.iloadN X3.here hx rfl (hb hby at_21) rfl) ?_
    show GG _ _ _ _ _ _ _ T3 (mkF m 22 #[.val (.int p0), .val (.int p1), .val (.int p2), .val (.int p3), .val (.int (0 : Int32)), .val (.ref bq3), .unset, .unset, .unset] [(.int p2), (.int p1), (.int (0 : Int32))])
    refine own_go (fun _ => XS.iloadN X3.here hx rfl (hb hby at_22) rfl) ?_
    show GG _ _ _ _ _ _ _ T3 (mkF m 23 #[.val (.int p0), .val (.int p1), .val (.int p2), .val (.int p3), .val (.int (0 : Int32)), .val (.ref bq3), .unset, .unset, .unset] [(.int p3), (.int p2), (.int p1), (.int (0 : Int32))])
    refine own_callS X3 hx hZ (y := (⟨"com/example/hadamint/hadamint/GroupsPositionsPinLaw", "build", "(IIII)[I"⟩ : MethodName)) 0 hown (hw _ (List.mem_of_getElem? (i := 1) rfl)) (hw _ (List.mem_of_getElem? (i := 2) rfl)) (hw _ (List.mem_of_getElem? (i := 3) rfl)) (hw _ (List.mem_of_getElem? (i := 4) rfl)) (by decide) (argsL := [(.int (0 : Int32)), (.int p1), (.int p2), (.int p3)]) (rest := []) (rm1_0 l Z a0 hw [] p1 p2 p3 T3.heap n0 (Nat.le_trans Z0 K0.1)) (by decide) (by decide) (by decide) (by decide) (g := (mkF m 23 #[.val (.int p0), .val (.int p1), .val (.int p2), .val (.int p3), .val (.int (0 : Int32)), .val (.ref bq3), .unset, .unset, .unset] [(.int p3), (.int p2), (.int p1), (.int (0 : Int32))])) rfl (by rw [hml]; rfl) (lenOf pd__IIII__I_537 rfl) rfl (by show 2 * 0 + _ ≤ _; exact Nat.le_of_eq rfl) (hb hby at_23) rfl ?_
    rintro v4 T4 L4 X4 ⟨bq4, rfl, N4q, szq4, Kq4, Vq4⟩
    have N4 := Fr.app N3 N4q
    have K0 := K0.trans Kq4 all0
    have Vq3 := Vq3.keep Kq4 nin0
    have sz_bq4 : h0.size ≤ bq4 := Nat.le_trans Kp.1 szq4
    have g_bq4 : n0 ≤ bq4 := Nat.le_trans Z0 sz_bq4
    have Kp := K0
    show GG _ _ _ _ _ _ _ T4 (mkF m 26 #[.val (.int p0), .val (.int p1), .val (.int p2), .val (.int p3), .val (.int (0 : Int32)), .val (.ref bq3), .unset, .unset, .unset] [(.ref bq4)])
    refine own_go (fun _ => XS.astore X4.here hx rfl (hb hby at_26) rfl rfl (l' := #[.val (.int p0), .val (.int p1), .val (.int p2), .val (.int p3), .val (.int (0 : Int32)), .val (.ref bq3), .val (.ref bq4), .unset, .unset]) rfl) ?_
    show GG _ _ _ _ _ _ _ T4 (mkF m 28 #[.val (.int p0), .val (.int p1), .val (.int p2), .val (.int p3), .val (.int (0 : Int32)), .val (.ref bq3), .val (.ref bq4), .unset, .unset] [])
    obtain ⟨T5, h5, X5, e5, E5, A5, D5, -, st5⟩ := newO X4 hx hZ hown (hw _ (List.mem_of_getElem? (i := 6) rfl)) (hw _ (List.mem_of_getElem? (i := 7) rfl)) (hw _ (List.mem_of_getElem? (i := 8) rfl)) rfl (g := (mkF m 28 #[.val (.int p0), .val (.int p1), .val (.int p2), .val (.int p3), .val (.int (0 : Int32)), .val (.ref bq3), .val (.ref bq4), .unset, .unset] [])) rfl (hb hby at_28) (by decide) (by decide)
    obtain ⟨ob5, g5⟩ : ∃ z, z = T4.heap.size := ⟨_, rfl⟩
    rw [← g5] at A5 D5 st5
    have ne_bq3_ob5 : bq3 ≠ ob5 := Nat.ne_of_lt (Nat.lt_of_lt_of_le Vq3.lt (Nat.le_of_eq g5.symm))
    have ne_bq4_ob5 : bq4 ≠ ob5 := Nat.ne_of_lt (Nat.lt_of_lt_of_le Vq4.lt (Nat.le_of_eq g5.symm))
    have sz_ob5 : h0.size ≤ ob5 := Nat.le_trans K0.1 (Nat.le_of_eq g5.symm)
    have g_ob5 : n0 ≤ ob5 := Nat.le_trans Z0 sz_ob5
    have K0 := K0.ext E5
    have Vq3 := Vq3.ext E5
    have Vq4 := Vq4.ext E5
    have E_ob5 := A5
    have F_starts_ob5 : Fld Z h5 ob5 "com/example/hadamint/hadamint/Groups" "starts" "[I" .null := D5 (Or.inr (hw _ (List.mem_of_getElem? (i := 21) rfl))) (ty := (.array .int)) (by decide)
    have F_members_ob5 : Fld Z h5 ob5 "com/example/hadamint/hadamint/Groups" "members" "[I" .null := D5 (Or.inr (hw _ (List.mem_of_getElem? (i := 23) rfl))) (ty := (.array .int)) (by decide)
    refine own_go (fun _ => st5 _) ?_
    show GG _ _ _ _ _ _ _ T5 (mkF m 31 #[.val (.int p0), .val (.int p1), .val (.int p2), .val (.int p3), .val (.int (0 : Int32)), .val (.ref bq3), .val (.ref bq4), .unset, .unset] [(.ref ob5)])
    refine own_go (fun _ => XS.dup X5.here hx rfl (hb hby at_31) rfl rfl) ?_
    show GG _ _ _ _ _ _ _ T5 (mkF m 32 #[.val (.int p0), .val (.int p1), .val (.int p2), .val (.int p3), .val (.int (0 : Int32)), .val (.ref bq3), .val (.ref bq4), .unset, .unset] [(.ref ob5), (.ref ob5)])
    refine own_go (fun _ => XS.iconst X5.here hx rfl (hb hby at_32)) ?_
    show GG _ _ _ _ _ _ _ T5 (mkF m 33 #[.val (.int p0), .val (.int p1), .val (.int p2), .val (.int p3), .val (.int (0 : Int32)), .val (.ref bq3), .val (.ref bq4), .unset, .unset] [(.int (2 : Int32)), (.ref ob5), (.ref ob5)])
    obtain ⟨T6, h6, ob6, g6, X6, e6, E6, V_ob6, E_ob6, st6⟩ := own_newarr X5 hx hZ (hw _ (List.mem_of_getElem? (i := 5) rfl)) e5 (g := (mkF m 33 #[.val (.int p0), .val (.int p1), .val (.int p2), .val (.int p3), .val (.int (0 : Int32)), .val (.ref bq3), .val (.ref bq4), .unset, .unset] [(.int (2 : Int32)), (.ref ob5), (.ref ob5)])) rfl (hb hby at_33) rfl (by decide) (cap := 2) (by decide) (by decide) (by decide) (by decide) (ad := "[I") (by decide)
    have ne_bq3_ob6 : bq3 ≠ ob6 := Nat.ne_of_lt (Nat.lt_of_lt_of_le Vq3.lt (Nat.le_of_eq g6.symm))
    have ne_bq4_ob6 : bq4 ≠ ob6 := Nat.ne_of_lt (Nat.lt_of_lt_of_le Vq4.lt (Nat.le_of_eq g6.symm))
    have ne_ob5_ob6 : ob5 ≠ ob6 := Nat.ne_of_lt (Nat.lt_of_lt_of_le E_ob5.lt (Nat.le_of_eq g6.symm))
    have sz_ob6 : h0.size ≤ ob6 := Nat.le_trans K0.1 (Nat.le_of_eq g6.symm)
    have g_ob6 : n0 ≤ ob6 := Nat.le_trans Z0 sz_ob6
    have K0 := K0.ext E6
    have Vq3 := Vq3.ext E6
    have Vq4 := Vq4.ext E6
    have E_ob5 := E_ob5.ext E6
    have F_starts_ob5 := F_starts_ob5.ext E6
    have F_members_ob5 := F_members_ob5.ext E6
    have V_ob6 : Arx Z h6 ob6 .int [(.int (0 : Int32)), (.int (0 : Int32))] := V_ob6
    refine own_go (fun _ => st6 _) ?_
    show GG _ _ _ _ _ _ _ T6 (mkF m 35 #[.val (.int p0), .val (.int p1), .val (.int p2), .val (.int p3), .val (.int (0 : Int32)), .val (.ref bq3), .val (.ref bq4), .unset, .unset] [(.ref ob6), (.ref ob5), (.ref ob5)])
    refine own_go (fun _ => XS.dup X6.here hx rfl (hb hby at_35) rfl rfl) ?_
    show GG _ _ _ _ _ _ _ T6 (mkF m 36 #[.val (.int p0), .val (.int p1), .val (.int p2), .val (.int p3), .val (.int (0 : Int32)), .val (.ref bq3), .val (.ref bq4), .unset, .unset] [(.ref ob6), (.ref ob6), (.ref ob5), (.ref ob5)])
    refine own_go (fun _ => XS.iconst X6.here hx rfl (hb hby at_36)) ?_
    show GG _ _ _ _ _ _ _ T6 (mkF m 37 #[.val (.int p0), .val (.int p1), .val (.int p2), .val (.int p3), .val (.int (0 : Int32)), .val (.ref bq3), .val (.ref bq4), .unset, .unset] [(.int (0 : Int32)), (.ref ob6), (.ref ob6), (.ref ob5), (.ref ob5)])
    refine own_go (fun _ => XS.iconst X6.here hx rfl (hb hby at_37)) ?_
    show GG _ _ _ _ _ _ _ T6 (mkF m 38 #[.val (.int p0), .val (.int p1), .val (.int p2), .val (.int p3), .val (.int (0 : Int32)), .val (.ref bq3), .val (.ref bq4), .unset, .unset] [(.int (0 : Int32)), (.int (0 : Int32)), (.ref ob6), (.ref ob6), (.ref ob5), (.ref ob5)])
    obtain ⟨T7, h7, X7, e7, W7, V7, st7⟩ := own_iastore X6 hx hZ e6 V_ob6 (by decide) (Nat.le_of_ble_eq_true rfl) (g := (mkF m 38 #[.val (.int p0), .val (.int p1), .val (.int p2), .val (.int p3), .val (.int (0 : Int32)), .val (.ref bq3), .val (.ref bq4), .unset, .unset] [(.int (0 : Int32)), (.int (0 : Int32)), (.ref ob6), (.ref ob6), (.ref ob5), (.ref ob5)])) rfl rfl (hb hby at_38)
    have K0 := K0.wr W7 (Or.inr sz_ob6)
    have Vq3 := Vq3.other W7 ne_bq3_ob6
    have Vq4 := Vq4.other W7 ne_bq4_ob6
    have E_ob5 := E_ob5.wr W7
    have F_starts_ob5 := F_starts_ob5.other W7 (Or.inl ne_ob5_ob6)
    have F_members_ob5 := F_members_ob5.other W7 (Or.inl ne_ob5_ob6)
    have E_ob6 := E_ob6.wr W7
    have V_ob6 : Arx Z h7 ob6 .int [(.int (0 : Int32)), (.int (0 : Int32))] := V7
    have N7 := Fr.snoc X7 N4 g_ob6
    refine own_go (fun _ => st7 _) ?_
    show GG _ _ _ _ _ _ _ T7 (mkF m 39 #[.val (.int p0), .val (.int p1), .val (.int p2), .val (.int p3), .val (.int (0 : Int32)), .val (.ref bq3), .val (.ref bq4), .unset, .unset] [(.ref ob6), (.ref ob5), (.ref ob5)])
    refine own_go (fun _ => XS.dup X7.here hx rfl (hb hby at_39) rfl rfl) ?_
    show GG _ _ _ _ _ _ _ T7 (mkF m 40 #[.val (.int p0), .val (.int p1), .val (.int p2), .val (.int p3), .val (.int (0 : Int32)), .val (.ref bq3), .val (.ref bq4), .unset, .unset] [(.ref ob6), (.ref ob6), (.ref ob5), (.ref ob5)])
    refine own_go (fun _ => XS.iconst X7.here hx rfl (hb hby at_40)) ?_
    show GG _ _ _ _ _ _ _ T7 (mkF m 41 #[.val (.int p0), .val (.int p1), .val (.int p2), .val (.int p3), .val (.int (0 : Int32)), .val (.ref bq3), .val (.ref bq4), .unset, .unset] [(.int (1 : Int32)), (.ref ob6), (.ref ob6), (.ref ob5), (.ref ob5)])
    refine own_go (fun _ => XS.iload X7.here hx rfl (hb hby at_41) rfl) ?_
    show GG _ _ _ _ _ _ _ T7 (mkF m 43 #[.val (.int p0), .val (.int p1), .val (.int p2), .val (.int p3), .val (.int (0 : Int32)), .val (.ref bq3), .val (.ref bq4), .unset, .unset] [(.int (0 : Int32)), (.int (1 : Int32)), (.ref ob6), (.ref ob6), (.ref ob5), (.ref ob5)])
    obtain ⟨T8, h8, X8, e8, W8, V8, st8⟩ := own_iastore X7 hx hZ e7 V_ob6 (by decide) (Nat.le_of_ble_eq_true rfl) (g := (mkF m 43 #[.val (.int p0), .val (.int p1), .val (.int p2), .val (.int p3), .val (.int (0 : Int32)), .val (.ref bq3), .val (.ref bq4), .unset, .unset] [(.int (0 : Int32)), (.int (1 : Int32)), (.ref ob6), (.ref ob6), (.ref ob5), (.ref ob5)])) rfl rfl (hb hby at_43)
    have K0 := K0.wr W8 (Or.inr sz_ob6)
    have Vq3 := Vq3.other W8 ne_bq3_ob6
    have Vq4 := Vq4.other W8 ne_bq4_ob6
    have E_ob5 := E_ob5.wr W8
    have F_starts_ob5 := F_starts_ob5.other W8 (Or.inl ne_ob5_ob6)
    have F_members_ob5 := F_members_ob5.other W8 (Or.inl ne_ob5_ob6)
    have E_ob6 := E_ob6.wr W8
    have V_ob6 : Arx Z h8 ob6 .int [(.int (0 : Int32)), (.int (0 : Int32))] := V8
    have N8 := Fr.snoc X8 N7 g_ob6
    refine own_go (fun _ => st8 _) ?_
    show GG _ _ _ _ _ _ _ T8 (mkF m 44 #[.val (.int p0), .val (.int p1), .val (.int p2), .val (.int p3), .val (.int (0 : Int32)), .val (.ref bq3), .val (.ref bq4), .unset, .unset] [(.ref ob6), (.ref ob5), (.ref ob5)])
    refine own_go (fun _ => XS.aload X8.here hx rfl (hb hby at_44) rfl rfl) ?_
    show GG _ _ _ _ _ _ _ T8 (mkF m 46 #[.val (.int p0), .val (.int p1), .val (.int p2), .val (.int p3), .val (.int (0 : Int32)), .val (.ref bq3), .val (.ref bq4), .unset, .unset] [(.ref bq3), (.ref ob6), (.ref ob5), (.ref ob5)])
    refine own_callI X8 hx hZ (y := (⟨"com/example/hadamint/hadamint/Groups", "<init>", "([I[I)V"⟩ : MethodName)) 1 rfl hown (hw _ (List.mem_of_getElem? (i := 9) rfl)) (hw _ (List.mem_of_getElem? (i := 10) rfl)) (hw _ (List.mem_of_getElem? (i := 8) rfl)) (hw _ (List.mem_of_getElem? (i := 11) rfl)) (by decide) (a := ob5) (argsL := [(.ref ob6), (.ref bq3)]) (rest := [(.ref ob5)]) (rm2 l Z a0 hw [] ob5 ob6 bq3 h8 n0 (Nat.le_trans Z0 K0.1) E_ob5 F_starts_ob5 F_members_ob5 g_ob5) (by decide) (by decide) (by decide) (by decide) (g := (mkF m 46 #[.val (.int p0), .val (.int p1), .val (.int p2), .val (.int p3), .val (.int (0 : Int32)), .val (.ref bq3), .val (.ref bq4), .unset, .unset] [(.ref bq3), (.ref ob6), (.ref ob5), (.ref ob5)])) rfl (by rw [hml]; rfl) (lenOf pd___I_I_V_495 rfl) rfl (by show 2 * 0 + _ ≤ _; exact Nat.le_of_eq rfl) (hb hby at_46) e8 ?_
    rintro v9 T9 L9 X9 ⟨rfl, N9q, Kq9, Eq9, Fq9⟩
    have N9 := Fr.app N8 N9q
    have K0 := K0.trans Kq9 (allS (Or.inr sz_ob5) all0)
    have Vq3 := Vq3.keep Kq9 (ninS ne_bq3_ob5 nin0)
    have Vq4 := Vq4.keep Kq9 (ninS ne_bq4_ob5 nin0)
    have V_ob6 := V_ob6.keep Kq9 (ninS (Ne.symm ne_ob5_ob6) nin0)
    have E_ob6 := E_ob6.keep Kq9
    show GG _ _ _ _ _ _ _ T9 (mkF m 49 #[.val (.int p0), .val (.int p1), .val (.int p2), .val (.int p3), .val (.int (0 : Int32)), .val (.ref bq3), .val (.ref bq4), .unset, .unset] [(.ref ob5)])
    refine own_go (fun _ => XS.astore X9.here hx rfl (hb hby at_49) rfl rfl (l' := #[.val (.int p0), .val (.int p1), .val (.int p2), .val (.int p3), .val (.int (0 : Int32)), .val (.ref bq3), .val (.ref bq4), .val (.ref ob5), .unset]) rfl) ?_
    show GG _ _ _ _ _ _ _ T9 (mkF m 51 #[.val (.int p0), .val (.int p1), .val (.int p2), .val (.int p3), .val (.int (0 : Int32)), .val (.ref bq3), .val (.ref bq4), .val (.ref ob5), .unset] [])
    refine own_go (fun _ => XS.aload X9.here hx rfl (hb hby at_51) rfl rfl) ?_
    show GG _ _ _ _ _ _ _ T9 (mkF m 53 #[.val (.int p0), .val (.int p1), .val (.int p2), .val (.int p3), .val (.int (0 : Int32)), .val (.ref bq3), .val (.ref bq4), .val (.ref ob5), .unset] [(.ref ob5)])
    refine own_callV X9 hx hZ (y := (⟨"com/example/hadamint/hadamint/Groups", "positions", "()[I"⟩ : MethodName)) (z := (⟨"com/example/hadamint/hadamint/Groups", "positions", "()[I"⟩ : MethodName)) 0 hown (hw _ (List.mem_of_getElem? (i := 24) rfl)) (hw _ (List.mem_of_getElem? (i := 25) rfl)) (notFace_of_selects (args := #[]) (mvT hZ (hw _ (List.mem_of_getElem? (i := 27) rfl)))) (hw _ (List.mem_of_getElem? (i := 27) rfl)) (hw _ (List.mem_of_getElem? (i := 26) rfl)) (hw _ (List.mem_of_getElem? (i := 8) rfl)) (hw _ (List.mem_of_getElem? (i := 28) rfl)) (by decide) (a := ob5) (argsL := []) (rest := []) (rm5 l Z a0 hw [] ob5 bq3 (bl 0 p1 p2 p3) T9.heap n0 (Nat.le_trans Z0 K0.1) Fq9 Vq3 hG (by rw [hbl]; decide)) (by decide) (by decide) (by decide) (by decide) Eq9 (g := (mkF m 53 #[.val (.int p0), .val (.int p1), .val (.int p2), .val (.int p3), .val (.int (0 : Int32)), .val (.ref bq3), .val (.ref bq4), .val (.ref ob5), .unset] [(.ref ob5)])) rfl (by rw [hml]; rfl) (lenOf pd____I_245 rfl) rfl (by show 2 * 0 + _ ≤ _; exact Nat.le_of_eq rfl) (hb hby at_53) rfl ?_
    rintro v10 T10 L10 X10 ⟨bq10, rfl, N10q, szq10, Kq10, Po10, Vq10, hpl10, hp10⟩
    have N10 := Fr.app N9 N10q
    have K0 := K0.trans Kq10 all0
    have Vq3 := Vq3.keep Kq10 nin0
    have Vq4 := Vq4.keep Kq10 nin0
    have V_ob6 := V_ob6.keep Kq10 nin0
    have E_ob6 := E_ob6.keep Kq10
    have Eq9 := Eq9.keep Kq10
    have Fq9 := Fq9.keep Kq10 nin0
    show GG _ _ _ _ _ _ _ T10 (mkF m 56 #[.val (.int p0), .val (.int p1), .val (.int p2), .val (.int p3), .val (.int (0 : Int32)), .val (.ref bq3), .val (.ref bq4), .val (.ref ob5), .unset] [(.ref bq10)])
    refine own_go (fun _ => XS.astore X10.here hx rfl (hb hby at_56) rfl rfl (l' := #[.val (.int p0), .val (.int p1), .val (.int p2), .val (.int p3), .val (.int (0 : Int32)), .val (.ref bq3), .val (.ref bq4), .val (.ref ob5), .val (.ref bq10)]) rfl) ?_
    show GG _ _ _ _ _ _ _ T10 (mkF m 58 #[.val (.int p0), .val (.int p1), .val (.int p2), .val (.int p3), .val (.int (0 : Int32)), .val (.ref bq3), .val (.ref bq4), .val (.ref ob5), .val (.ref bq10)] [])
    refine own_go (fun _ => XS.aload X10.here hx rfl (hb hby at_58) rfl rfl) ?_
    show GG _ _ _ _ _ _ _ T10 (mkF m 60 #[.val (.int p0), .val (.int p1), .val (.int p2), .val (.int p3), .val (.int (0 : Int32)), .val (.ref bq3), .val (.ref bq4), .val (.ref ob5), .val (.ref bq10)] [(.ref bq10)])
    refine own_go (fun _ => own_len X10 hx hZ rfl Vq10 (g := (mkF m 60 #[.val (.int p0), .val (.int p1), .val (.int p2), .val (.int p3), .val (.int (0 : Int32)), .val (.ref bq3), .val (.ref bq4), .val (.ref ob5), .val (.ref bq10)] [(.ref bq10)])) rfl rfl (hb hby at_60) _) ?_
    show GG _ _ _ _ _ _ _ T10 (mkF m 61 #[.val (.int p0), .val (.int p1), .val (.int p2), .val (.int p3), .val (.int (0 : Int32)), .val (.ref bq3), .val (.ref bq4), .val (.ref ob5), .val (.ref bq10)] [(.int (Int32.ofNat (Po10.map Value.int).length))])
    refine own_go (fun _ => XS.iload X10.here hx rfl (hb hby at_61) rfl) ?_
    show GG _ _ _ _ _ _ _ T10 (mkF m 63 #[.val (.int p0), .val (.int p1), .val (.int p2), .val (.int p3), .val (.int (0 : Int32)), .val (.ref bq3), .val (.ref bq4), .val (.ref ob5), .val (.ref bq10)] [(.int (0 : Int32)), (.int (Int32.ofNat (Po10.map Value.int).length))])
    have hc63 : (Int32.ofNat (Po10.map Value.int).length) = (0 : Int32) := by rw [List.length_map, hpl10, hbl]; rfl
    refine own_go (fun _ => XS.icmpYes X10.here hx rfl (pc0 := 63) (pc' := 68) rfl (hb hby at_63) rfl (teq hc63).1 (by decide) (by decide)) ?_
    show GG _ _ _ _ _ _ _ T10 (mkF m 68 #[.val (.int p0), .val (.int p1), .val (.int p2), .val (.int p3), .val (.int (0 : Int32)), .val (.ref bq3), .val (.ref bq4), .val (.ref ob5), .val (.ref bq10)] [])
    refine own_go (fun _ => XS.aload X10.here hx rfl (hb hby at_68) rfl rfl) ?_
    show GG _ _ _ _ _ _ _ T10 (mkF m 70 #[.val (.int p0), .val (.int p1), .val (.int p2), .val (.int p3), .val (.int (0 : Int32)), .val (.ref bq3), .val (.ref bq4), .val (.ref ob5), .val (.ref bq10)] [(.ref bq3)])
    refine own_go (fun _ => XS.aload X10.here hx rfl (hb hby at_70) rfl rfl) ?_
    show GG _ _ _ _ _ _ _ T10 (mkF m 72 #[.val (.int p0), .val (.int p1), .val (.int p2), .val (.int p3), .val (.int (0 : Int32)), .val (.ref bq3), .val (.ref bq4), .val (.ref ob5), .val (.ref bq10)] [(.ref bq4), (.ref bq3)])
    refine own_go (fun _ => XS.aload X10.here hx rfl (hb hby at_72) rfl rfl) ?_
    show GG _ _ _ _ _ _ _ T10 (mkF m 74 #[.val (.int p0), .val (.int p1), .val (.int p2), .val (.int p3), .val (.int (0 : Int32)), .val (.ref bq3), .val (.ref bq4), .val (.ref ob5), .val (.ref bq10)] [(.ref bq10), (.ref bq4), (.ref bq3)])
    refine own_go (fun _ => XS.iload X10.here hx rfl (hb hby at_74) rfl) ?_
    show GG _ _ _ _ _ _ _ T10 (mkF m 76 #[.val (.int p0), .val (.int p1), .val (.int p2), .val (.int p3), .val (.int (0 : Int32)), .val (.ref bq3), .val (.ref bq4), .val (.ref ob5), .val (.ref bq10)] [(.int (0 : Int32)), (.ref bq10), (.ref bq4), (.ref bq3)])
    refine own_go (fun _ => XS.iconst X10.here hx rfl (hb hby at_76)) ?_
    show GG _ _ _ _ _ _ _ T10 (mkF m 77 #[.val (.int p0), .val (.int p1), .val (.int p2), .val (.int p3), .val (.int (0 : Int32)), .val (.ref bq3), .val (.ref bq4), .val (.ref ob5), .val (.ref bq10)] [(.int (0 : Int32)), (.int (0 : Int32)), (.ref bq10), (.ref bq4), (.ref bq3)])
    refine own_callS X10 hx hZ (y := (⟨"com/example/hadamint/hadamint/GroupsPositionsPinLaw", "at", "([I[I[III)Z"⟩ : MethodName)) 0 hown (hw _ (List.mem_of_getElem? (i := 29) rfl)) (hw _ (List.mem_of_getElem? (i := 30) rfl)) (hw _ (List.mem_of_getElem? (i := 3) rfl)) (hw _ (List.mem_of_getElem? (i := 31) rfl)) (by decide) (argsL := [(.ref bq3), (.ref bq4), (.ref bq10), (.int (0 : Int32)), (.int (0 : Int32))]) (rest := []) (rm6 l Z a0 hw [] bq3 bq4 bq10 (0 : Int32) (0 : Int32) (bl 0 p1 p2 p3) Po10 0 T10.heap n0 (Nat.le_trans Z0 K0.1) Vq3 Vq4 Vq10 (by rw [hbl]; decide) (by decide) hG hpl10 hp10) (by decide) (by decide) (by decide) (by decide) (g := (mkF m 77 #[.val (.int p0), .val (.int p1), .val (.int p2), .val (.int p3), .val (.int (0 : Int32)), .val (.ref bq3), .val (.ref bq4), .val (.ref ob5), .val (.ref bq10)] [(.int (0 : Int32)), (.int (0 : Int32)), (.ref bq10), (.ref bq4), (.ref bq3)])) rfl (by rw [hml]; rfl) (lenOf pd___I_I_III_Z_809 rfl) rfl (by show 2 * 0 + _ ≤ _; exact Nat.le_of_eq rfl) (hb hby at_77) rfl ?_
    rintro v11 T11 L11 X11 ⟨rfl, N11q, hh11⟩
    have N11 := Fr.app N10 N11q
    show GG _ _ _ _ _ _ _ T11 (mkF m 80 #[.val (.int p0), .val (.int p1), .val (.int p2), .val (.int p3), .val (.int (0 : Int32)), .val (.ref bq3), .val (.ref bq4), .val (.ref ob5), .val (.ref bq10)] [(.int (1 : Int32))])
    have hc80 : ¬ ((1 : Int32) = (0 : Int32)) := by decide
    refine own_go (fun _ => XS.ifNo X11.here hx rfl (hb hby at_80) rfl ((if0 _ _).trans (feq hc80).1)) ?_
    show GG _ _ _ _ _ _ _ T11 (mkF m 83 #[.val (.int p0), .val (.int p1), .val (.int p2), .val (.int p3), .val (.int (0 : Int32)), .val (.ref bq3), .val (.ref bq4), .val (.ref ob5), .val (.ref bq10)] [])
    refine own_go (fun _ => XS.aload X11.here hx rfl (hb hby at_83) rfl rfl) ?_
    show GG _ _ _ _ _ _ _ T11 (mkF m 85 #[.val (.int p0), .val (.int p1), .val (.int p2), .val (.int p3), .val (.int (0 : Int32)), .val (.ref bq3), .val (.ref bq4), .val (.ref ob5), .val (.ref bq10)] [(.ref bq3)])
    refine own_go (fun _ => XS.aload X11.here hx rfl (hb hby at_85) rfl rfl) ?_
    show GG _ _ _ _ _ _ _ T11 (mkF m 87 #[.val (.int p0), .val (.int p1), .val (.int p2), .val (.int p3), .val (.int (0 : Int32)), .val (.ref bq3), .val (.ref bq4), .val (.ref ob5), .val (.ref bq10)] [(.ref bq4), (.ref bq3)])
    refine own_go (fun _ => XS.aload X11.here hx rfl (hb hby at_87) rfl rfl) ?_
    show GG _ _ _ _ _ _ _ T11 (mkF m 89 #[.val (.int p0), .val (.int p1), .val (.int p2), .val (.int p3), .val (.int (0 : Int32)), .val (.ref bq3), .val (.ref bq4), .val (.ref ob5), .val (.ref bq10)] [(.ref bq10), (.ref bq4), (.ref bq3)])
    refine own_go (fun _ => XS.iload X11.here hx rfl (hb hby at_89) rfl) ?_
    show GG _ _ _ _ _ _ _ T11 (mkF m 91 #[.val (.int p0), .val (.int p1), .val (.int p2), .val (.int p3), .val (.int (0 : Int32)), .val (.ref bq3), .val (.ref bq4), .val (.ref ob5), .val (.ref bq10)] [(.int (0 : Int32)), (.ref bq10), (.ref bq4), (.ref bq3)])
    refine own_go (fun _ => XS.iconst X11.here hx rfl (hb hby at_91)) ?_
    show GG _ _ _ _ _ _ _ T11 (mkF m 92 #[.val (.int p0), .val (.int p1), .val (.int p2), .val (.int p3), .val (.int (0 : Int32)), .val (.ref bq3), .val (.ref bq4), .val (.ref ob5), .val (.ref bq10)] [(.int (1 : Int32)), (.int (0 : Int32)), (.ref bq10), (.ref bq4), (.ref bq3)])
    refine own_callS X11 hx hZ (y := (⟨"com/example/hadamint/hadamint/GroupsPositionsPinLaw", "at", "([I[I[III)Z"⟩ : MethodName)) 0 hown (hw _ (List.mem_of_getElem? (i := 29) rfl)) (hw _ (List.mem_of_getElem? (i := 30) rfl)) (hw _ (List.mem_of_getElem? (i := 3) rfl)) (hw _ (List.mem_of_getElem? (i := 31) rfl)) (by decide) (argsL := [(.ref bq3), (.ref bq4), (.ref bq10), (.int (0 : Int32)), (.int (1 : Int32))]) (rest := []) (rm6 l Z a0 hw [] bq3 bq4 bq10 (0 : Int32) (1 : Int32) (bl 0 p1 p2 p3) Po10 1 T10.heap n0 (Nat.le_trans Z0 K0.1) Vq3 Vq4 Vq10 (by rw [hbl]; decide) (by decide) hG hpl10 hp10) (by decide) (by decide) (by decide) (by decide) (g := (mkF m 92 #[.val (.int p0), .val (.int p1), .val (.int p2), .val (.int p3), .val (.int (0 : Int32)), .val (.ref bq3), .val (.ref bq4), .val (.ref ob5), .val (.ref bq10)] [(.int (1 : Int32)), (.int (0 : Int32)), (.ref bq10), (.ref bq4), (.ref bq3)])) rfl (by rw [hml]; rfl) (lenOf pd___I_I_III_Z_809 rfl) rfl (by show 2 * 0 + _ ≤ _; exact Nat.le_of_eq rfl) (hb hby at_92) hh11 ?_
    rintro v12 T12 L12 X12 ⟨rfl, N12q, hh12⟩
    have N12 := Fr.app N11 N12q
    show GG _ _ _ _ _ _ _ T12 (mkF m 95 #[.val (.int p0), .val (.int p1), .val (.int p2), .val (.int p3), .val (.int (0 : Int32)), .val (.ref bq3), .val (.ref bq4), .val (.ref ob5), .val (.ref bq10)] [(.int (1 : Int32))])
    have hc95 : ¬ ((1 : Int32) = (0 : Int32)) := by decide
    refine own_go (fun _ => XS.ifNo X12.here hx rfl (hb hby at_95) rfl ((if0 _ _).trans (feq hc95).1)) ?_
    show GG _ _ _ _ _ _ _ T12 (mkF m 98 #[.val (.int p0), .val (.int p1), .val (.int p2), .val (.int p3), .val (.int (0 : Int32)), .val (.ref bq3), .val (.ref bq4), .val (.ref ob5), .val (.ref bq10)] [])
    refine own_go (fun _ => XS.aload X12.here hx rfl (hb hby at_98) rfl rfl) ?_
    show GG _ _ _ _ _ _ _ T12 (mkF m 100 #[.val (.int p0), .val (.int p1), .val (.int p2), .val (.int p3), .val (.int (0 : Int32)), .val (.ref bq3), .val (.ref bq4), .val (.ref ob5), .val (.ref bq10)] [(.ref bq3)])
    refine own_go (fun _ => XS.aload X12.here hx rfl (hb hby at_100) rfl rfl) ?_
    show GG _ _ _ _ _ _ _ T12 (mkF m 102 #[.val (.int p0), .val (.int p1), .val (.int p2), .val (.int p3), .val (.int (0 : Int32)), .val (.ref bq3), .val (.ref bq4), .val (.ref ob5), .val (.ref bq10)] [(.ref bq4), (.ref bq3)])
    refine own_go (fun _ => XS.aload X12.here hx rfl (hb hby at_102) rfl rfl) ?_
    show GG _ _ _ _ _ _ _ T12 (mkF m 104 #[.val (.int p0), .val (.int p1), .val (.int p2), .val (.int p3), .val (.int (0 : Int32)), .val (.ref bq3), .val (.ref bq4), .val (.ref ob5), .val (.ref bq10)] [(.ref bq10), (.ref bq4), (.ref bq3)])
    refine own_go (fun _ => XS.iload X12.here hx rfl (hb hby at_104) rfl) ?_
    show GG _ _ _ _ _ _ _ T12 (mkF m 106 #[.val (.int p0), .val (.int p1), .val (.int p2), .val (.int p3), .val (.int (0 : Int32)), .val (.ref bq3), .val (.ref bq4), .val (.ref ob5), .val (.ref bq10)] [(.int (0 : Int32)), (.ref bq10), (.ref bq4), (.ref bq3)])
    refine own_go (fun _ => XS.iconst X12.here hx rfl (hb hby at_106)) ?_
    show GG _ _ _ _ _ _ _ T12 (mkF m 107 #[.val (.int p0), .val (.int p1), .val (.int p2), .val (.int p3), .val (.int (0 : Int32)), .val (.ref bq3), .val (.ref bq4), .val (.ref ob5), .val (.ref bq10)] [(.int (2 : Int32)), (.int (0 : Int32)), (.ref bq10), (.ref bq4), (.ref bq3)])
    refine own_callS X12 hx hZ (y := (⟨"com/example/hadamint/hadamint/GroupsPositionsPinLaw", "at", "([I[I[III)Z"⟩ : MethodName)) 0 hown (hw _ (List.mem_of_getElem? (i := 29) rfl)) (hw _ (List.mem_of_getElem? (i := 30) rfl)) (hw _ (List.mem_of_getElem? (i := 3) rfl)) (hw _ (List.mem_of_getElem? (i := 31) rfl)) (by decide) (argsL := [(.ref bq3), (.ref bq4), (.ref bq10), (.int (0 : Int32)), (.int (2 : Int32))]) (rest := []) (rm6 l Z a0 hw [] bq3 bq4 bq10 (0 : Int32) (2 : Int32) (bl 0 p1 p2 p3) Po10 2 T10.heap n0 (Nat.le_trans Z0 K0.1) Vq3 Vq4 Vq10 (by rw [hbl]; decide) (by decide) hG hpl10 hp10) (by decide) (by decide) (by decide) (by decide) (g := (mkF m 107 #[.val (.int p0), .val (.int p1), .val (.int p2), .val (.int p3), .val (.int (0 : Int32)), .val (.ref bq3), .val (.ref bq4), .val (.ref ob5), .val (.ref bq10)] [(.int (2 : Int32)), (.int (0 : Int32)), (.ref bq10), (.ref bq4), (.ref bq3)])) rfl (by rw [hml]; rfl) (lenOf pd___I_I_III_Z_809 rfl) rfl (by show 2 * 0 + _ ≤ _; exact Nat.le_of_eq rfl) (hb hby at_107) hh12 ?_
    rintro v13 T13 L13 X13 ⟨rfl, N13q, hh13⟩
    have N13 := Fr.app N12 N13q
    show GG _ _ _ _ _ _ _ T13 (mkF m 110 #[.val (.int p0), .val (.int p1), .val (.int p2), .val (.int p3), .val (.int (0 : Int32)), .val (.ref bq3), .val (.ref bq4), .val (.ref ob5), .val (.ref bq10)] [(.int (1 : Int32))])
    have hc110 : ¬ ((1 : Int32) = (0 : Int32)) := by decide
    refine own_go (fun _ => XS.ifNo X13.here hx rfl (hb hby at_110) rfl ((if0 _ _).trans (feq hc110).1)) ?_
    show GG _ _ _ _ _ _ _ T13 (mkF m 113 #[.val (.int p0), .val (.int p1), .val (.int p2), .val (.int p3), .val (.int (0 : Int32)), .val (.ref bq3), .val (.ref bq4), .val (.ref ob5), .val (.ref bq10)] [])
    refine own_go (fun _ => XS.aload X13.here hx rfl (hb hby at_113) rfl rfl) ?_
    show GG _ _ _ _ _ _ _ T13 (mkF m 115 #[.val (.int p0), .val (.int p1), .val (.int p2), .val (.int p3), .val (.int (0 : Int32)), .val (.ref bq3), .val (.ref bq4), .val (.ref ob5), .val (.ref bq10)] [(.ref bq3)])
    refine own_go (fun _ => XS.aload X13.here hx rfl (hb hby at_115) rfl rfl) ?_
    show GG _ _ _ _ _ _ _ T13 (mkF m 117 #[.val (.int p0), .val (.int p1), .val (.int p2), .val (.int p3), .val (.int (0 : Int32)), .val (.ref bq3), .val (.ref bq4), .val (.ref ob5), .val (.ref bq10)] [(.ref bq4), (.ref bq3)])
    refine own_go (fun _ => XS.aload X13.here hx rfl (hb hby at_117) rfl rfl) ?_
    show GG _ _ _ _ _ _ _ T13 (mkF m 119 #[.val (.int p0), .val (.int p1), .val (.int p2), .val (.int p3), .val (.int (0 : Int32)), .val (.ref bq3), .val (.ref bq4), .val (.ref ob5), .val (.ref bq10)] [(.ref bq10), (.ref bq4), (.ref bq3)])
    refine own_go (fun _ => XS.iload X13.here hx rfl (hb hby at_119) rfl) ?_
    show GG _ _ _ _ _ _ _ T13 (mkF m 121 #[.val (.int p0), .val (.int p1), .val (.int p2), .val (.int p3), .val (.int (0 : Int32)), .val (.ref bq3), .val (.ref bq4), .val (.ref ob5), .val (.ref bq10)] [(.int (0 : Int32)), (.ref bq10), (.ref bq4), (.ref bq3)])
    refine own_go (fun _ => XS.iconst X13.here hx rfl (hb hby at_121)) ?_
    show GG _ _ _ _ _ _ _ T13 (mkF m 122 #[.val (.int p0), .val (.int p1), .val (.int p2), .val (.int p3), .val (.int (0 : Int32)), .val (.ref bq3), .val (.ref bq4), .val (.ref ob5), .val (.ref bq10)] [(.int (3 : Int32)), (.int (0 : Int32)), (.ref bq10), (.ref bq4), (.ref bq3)])
    refine own_callS X13 hx hZ (y := (⟨"com/example/hadamint/hadamint/GroupsPositionsPinLaw", "at", "([I[I[III)Z"⟩ : MethodName)) 0 hown (hw _ (List.mem_of_getElem? (i := 29) rfl)) (hw _ (List.mem_of_getElem? (i := 30) rfl)) (hw _ (List.mem_of_getElem? (i := 3) rfl)) (hw _ (List.mem_of_getElem? (i := 31) rfl)) (by decide) (argsL := [(.ref bq3), (.ref bq4), (.ref bq10), (.int (0 : Int32)), (.int (3 : Int32))]) (rest := []) (rm6 l Z a0 hw [] bq3 bq4 bq10 (0 : Int32) (3 : Int32) (bl 0 p1 p2 p3) Po10 3 T10.heap n0 (Nat.le_trans Z0 K0.1) Vq3 Vq4 Vq10 (by rw [hbl]; decide) (by decide) hG hpl10 hp10) (by decide) (by decide) (by decide) (by decide) (g := (mkF m 122 #[.val (.int p0), .val (.int p1), .val (.int p2), .val (.int p3), .val (.int (0 : Int32)), .val (.ref bq3), .val (.ref bq4), .val (.ref ob5), .val (.ref bq10)] [(.int (3 : Int32)), (.int (0 : Int32)), (.ref bq10), (.ref bq4), (.ref bq3)])) rfl (by rw [hml]; rfl) (lenOf pd___I_I_III_Z_809 rfl) rfl (by show 2 * 0 + _ ≤ _; exact Nat.le_of_eq rfl) (hb hby at_122) hh13 ?_
    rintro v14 T14 L14 X14 ⟨rfl, N14q, hh14⟩
    have N14 := Fr.app N13 N14q
    show GG _ _ _ _ _ _ _ T14 (mkF m 125 #[.val (.int p0), .val (.int p1), .val (.int p2), .val (.int p3), .val (.int (0 : Int32)), .val (.ref bq3), .val (.ref bq4), .val (.ref ob5), .val (.ref bq10)] [(.int (1 : Int32))])
    have hc125 : ¬ ((1 : Int32) = (0 : Int32)) := by decide
    refine own_go (fun _ => XS.ifNo X14.here hx rfl (hb hby at_125) rfl ((if0 _ _).trans (feq hc125).1)) ?_
    show GG _ _ _ _ _ _ _ T14 (mkF m 128 #[.val (.int p0), .val (.int p1), .val (.int p2), .val (.int p3), .val (.int (0 : Int32)), .val (.ref bq3), .val (.ref bq4), .val (.ref ob5), .val (.ref bq10)] [])
    refine own_go (fun _ => XS.iconst X14.here hx rfl (hb hby at_128)) ?_
    show GG _ _ _ _ _ _ _ T14 (mkF m 129 #[.val (.int p0), .val (.int p1), .val (.int p2), .val (.int p3), .val (.int (0 : Int32)), .val (.ref bq3), .val (.ref bq4), .val (.ref ob5), .val (.ref bq10)] [(.int (1 : Int32))])
    refine own_go (fun _ => XS.goto X14.here hx rfl (pc0 := 129) (pc' := 133) rfl (hb hby at_129) (by decide) (by decide)) ?_
    show GG _ _ _ _ _ _ _ T14 (mkF m 133 #[.val (.int p0), .val (.int p1), .val (.int p2), .val (.int p3), .val (.int (0 : Int32)), .val (.ref bq3), .val (.ref bq4), .val (.ref ob5), .val (.ref bq10)] [(.int (1 : Int32))])
    refine own_ret X14 hx hlk (t := .boolean) (w := (.int (1 : Int32))) Bd.returns rfl (Or.inl ⟨rfl, by simp, _, rfl⟩) (hb hby at_133) (by decide) (by decide) ?_
    show Q0 Z p0 p1 p2 p3 h0 n0 (some (.int (1 : Int32))) T14.heap _
    rw [hh14]
    exact ⟨rfl, N14⟩
  · skip
    subst h5
    have hG := own_good 1 p1 p2 p3
    have hbl : (bl 1 p1 p2 p3).length = 1 := by simp only [bl, own_swl]; rfl
    show GG _ _ _ _ _ _ _ s₁ (mkF m 8 #[.val (.int p0), .val (.int p1), .val (.int p2), .val (.int p3), .val (.int (1 : Int32)), .unset, .unset, .unset, .unset] [])
    have K0 := Keep.refl h0 []
    refine own_go (fun _ => XS.iload X0.here hx rfl (hb hby at_8) rfl) ?_
    show GG _ _ _ _ _ _ _ s₁ (mkF m 10 #[.val (.int p0), .val (.int p1), .val (.int p2), .val (.int p3), .val (.int (1 : Int32)), .unset, .unset, .unset, .unset] [(.int (1 : Int32))])
    refine own_go (fun _ => XS.iloadN X0.here hx rfl (hb hby at_10) rfl) ?_
    show GG _ _ _ _ _ _ _ s₁ (mkF m 11 #[.val (.int p0), .val (.int p1), .val (.int p2), .val (.int p3), .val (.int (1 : Int32)), .unset, .unset, .unset, .unset] [(.int p1), (.int (1 : Int32))])
    refine own_go (fun _ => XS.iloadN X0.here hx rfl (hb hby at_11) rfl) ?_
    show GG _ _ _ _ _ _ _ s₁ (mkF m 12 #[.val (.int p0), .val (.int p1), .val (.int p2), .val (.int p3), .val (.int (1 : Int32)), .unset, .unset, .unset, .unset] [(.int p2), (.int p1), (.int (1 : Int32))])
    refine own_go (fun _ => XS.iloadN X0.here hx rfl (hb hby at_12) rfl) ?_
    show GG _ _ _ _ _ _ _ s₁ (mkF m 13 #[.val (.int p0), .val (.int p1), .val (.int p2), .val (.int p3), .val (.int (1 : Int32)), .unset, .unset, .unset, .unset] [(.int p3), (.int p2), (.int p1), (.int (1 : Int32))])
    refine own_callS X0 hx hZ (y := (⟨"com/example/hadamint/hadamint/GroupsPositionsPinLaw", "build", "(IIII)[I"⟩ : MethodName)) 0 hown (hw _ (List.mem_of_getElem? (i := 1) rfl)) (hw _ (List.mem_of_getElem? (i := 2) rfl)) (hw _ (List.mem_of_getElem? (i := 3) rfl)) (hw _ (List.mem_of_getElem? (i := 4) rfl)) (by decide) (argsL := [(.int (1 : Int32)), (.int p1), (.int p2), (.int p3)]) (rest := []) (rm1_1 l Z a0 hw [] p1 p2 p3 h0 n0 Z0) (by decide) (by decide) (by decide) (by decide) (g := (mkF m 13 #[.val (.int p0), .val (.int p1), .val (.int p2), .val (.int p3), .val (.int (1 : Int32)), .unset, .unset, .unset, .unset] [(.int p3), (.int p2), (.int p1), (.int (1 : Int32))])) rfl (by rw [hml]; rfl) (lenOf pd__IIII__I_537 rfl) rfl (by show 2 * 0 + _ ≤ _; exact Nat.le_of_eq rfl) (hb hby at_13) e0 ?_
    rintro v15 T15 L15 X15 ⟨bq15, rfl, N15q, szq15, Kq15, Vq15⟩
    have N15 := Fr.app N0 N15q
    have K0 := K0.trans Kq15 all0
    have sz_bq15 : h0.size ≤ bq15 := Nat.le_trans (Nat.le_refl _) szq15
    have g_bq15 : n0 ≤ bq15 := Nat.le_trans Z0 sz_bq15
    have Kp := K0
    show GG _ _ _ _ _ _ _ T15 (mkF m 16 #[.val (.int p0), .val (.int p1), .val (.int p2), .val (.int p3), .val (.int (1 : Int32)), .unset, .unset, .unset, .unset] [(.ref bq15)])
    refine own_go (fun _ => XS.astore X15.here hx rfl (hb hby at_16) rfl rfl (l' := #[.val (.int p0), .val (.int p1), .val (.int p2), .val (.int p3), .val (.int (1 : Int32)), .val (.ref bq15), .unset, .unset, .unset]) rfl) ?_
    show GG _ _ _ _ _ _ _ T15 (mkF m 18 #[.val (.int p0), .val (.int p1), .val (.int p2), .val (.int p3), .val (.int (1 : Int32)), .val (.ref bq15), .unset, .unset, .unset] [])
    refine own_go (fun _ => XS.iload X15.here hx rfl (hb hby at_18) rfl) ?_
    show GG _ _ _ _ _ _ _ T15 (mkF m 20 #[.val (.int p0), .val (.int p1), .val (.int p2), .val (.int p3), .val (.int (1 : Int32)), .val (.ref bq15), .unset, .unset, .unset] [(.int (1 : Int32))])
    refine own_go (fun _ => XS.iloadN X15.here hx rfl (hb hby at_20) rfl) ?_
    show GG _ _ _ _ _ _ _ T15 (mkF m 21 #[.val (.int p0), .val (.int p1), .val (.int p2), .val (.int p3), .val (.int (1 : Int32)), .val (.ref bq15), .unset, .unset, .unset] [(.int p1), (.int (1 : Int32))])
    refine own_go (fun _ => XS.iloadN X15.here hx rfl (hb hby at_21) rfl) ?_
    show GG _ _ _ _ _ _ _ T15 (mkF m 22 #[.val (.int p0), .val (.int p1), .val (.int p2), .val (.int p3), .val (.int (1 : Int32)), .val (.ref bq15), .unset, .unset, .unset] [(.int p2), (.int p1), (.int (1 : Int32))])
    refine own_go (fun _ => XS.iloadN X15.here hx rfl (hb hby at_22) rfl) ?_
    show GG _ _ _ _ _ _ _ T15 (mkF m 23 #[.val (.int p0), .val (.int p1), .val (.int p2), .val (.int p3), .val (.int (1 : Int32)), .val (.ref bq15), .unset, .unset, .unset] [(.int p3), (.int p2), (.int p1), (.int (1 : Int32))])
    refine own_callS X15 hx hZ (y := (⟨"com/example/hadamint/hadamint/GroupsPositionsPinLaw", "build", "(IIII)[I"⟩ : MethodName)) 0 hown (hw _ (List.mem_of_getElem? (i := 1) rfl)) (hw _ (List.mem_of_getElem? (i := 2) rfl)) (hw _ (List.mem_of_getElem? (i := 3) rfl)) (hw _ (List.mem_of_getElem? (i := 4) rfl)) (by decide) (argsL := [(.int (1 : Int32)), (.int p1), (.int p2), (.int p3)]) (rest := []) (rm1_1 l Z a0 hw [] p1 p2 p3 T15.heap n0 (Nat.le_trans Z0 K0.1)) (by decide) (by decide) (by decide) (by decide) (g := (mkF m 23 #[.val (.int p0), .val (.int p1), .val (.int p2), .val (.int p3), .val (.int (1 : Int32)), .val (.ref bq15), .unset, .unset, .unset] [(.int p3), (.int p2), (.int p1), (.int (1 : Int32))])) rfl (by rw [hml]; rfl) (lenOf pd__IIII__I_537 rfl) rfl (by show 2 * 0 + _ ≤ _; exact Nat.le_of_eq rfl) (hb hby at_23) rfl ?_
    rintro v16 T16 L16 X16 ⟨bq16, rfl, N16q, szq16, Kq16, Vq16⟩
    have N16 := Fr.app N15 N16q
    have K0 := K0.trans Kq16 all0
    have Vq15 := Vq15.keep Kq16 nin0
    have sz_bq16 : h0.size ≤ bq16 := Nat.le_trans Kp.1 szq16
    have g_bq16 : n0 ≤ bq16 := Nat.le_trans Z0 sz_bq16
    have Kp := K0
    show GG _ _ _ _ _ _ _ T16 (mkF m 26 #[.val (.int p0), .val (.int p1), .val (.int p2), .val (.int p3), .val (.int (1 : Int32)), .val (.ref bq15), .unset, .unset, .unset] [(.ref bq16)])
    refine own_go (fun _ => XS.astore X16.here hx rfl (hb hby at_26) rfl rfl (l' := #[.val (.int p0), .val (.int p1), .val (.int p2), .val (.int p3), .val (.int (1 : Int32)), .val (.ref bq15), .val (.ref bq16), .unset, .unset]) rfl) ?_
    show GG _ _ _ _ _ _ _ T16 (mkF m 28 #[.val (.int p0), .val (.int p1), .val (.int p2), .val (.int p3), .val (.int (1 : Int32)), .val (.ref bq15), .val (.ref bq16), .unset, .unset] [])
    obtain ⟨T17, h17, X17, e17, E17, A17, D17, -, st17⟩ := newO X16 hx hZ hown (hw _ (List.mem_of_getElem? (i := 6) rfl)) (hw _ (List.mem_of_getElem? (i := 7) rfl)) (hw _ (List.mem_of_getElem? (i := 8) rfl)) rfl (g := (mkF m 28 #[.val (.int p0), .val (.int p1), .val (.int p2), .val (.int p3), .val (.int (1 : Int32)), .val (.ref bq15), .val (.ref bq16), .unset, .unset] [])) rfl (hb hby at_28) (by decide) (by decide)
    obtain ⟨ob17, g17⟩ : ∃ z, z = T16.heap.size := ⟨_, rfl⟩
    rw [← g17] at A17 D17 st17
    have ne_bq15_ob17 : bq15 ≠ ob17 := Nat.ne_of_lt (Nat.lt_of_lt_of_le Vq15.lt (Nat.le_of_eq g17.symm))
    have ne_bq16_ob17 : bq16 ≠ ob17 := Nat.ne_of_lt (Nat.lt_of_lt_of_le Vq16.lt (Nat.le_of_eq g17.symm))
    have sz_ob17 : h0.size ≤ ob17 := Nat.le_trans K0.1 (Nat.le_of_eq g17.symm)
    have g_ob17 : n0 ≤ ob17 := Nat.le_trans Z0 sz_ob17
    have K0 := K0.ext E17
    have Vq15 := Vq15.ext E17
    have Vq16 := Vq16.ext E17
    have E_ob17 := A17
    have F_starts_ob17 : Fld Z h17 ob17 "com/example/hadamint/hadamint/Groups" "starts" "[I" .null := D17 (Or.inr (hw _ (List.mem_of_getElem? (i := 21) rfl))) (ty := (.array .int)) (by decide)
    have F_members_ob17 : Fld Z h17 ob17 "com/example/hadamint/hadamint/Groups" "members" "[I" .null := D17 (Or.inr (hw _ (List.mem_of_getElem? (i := 23) rfl))) (ty := (.array .int)) (by decide)
    refine own_go (fun _ => st17 _) ?_
    show GG _ _ _ _ _ _ _ T17 (mkF m 31 #[.val (.int p0), .val (.int p1), .val (.int p2), .val (.int p3), .val (.int (1 : Int32)), .val (.ref bq15), .val (.ref bq16), .unset, .unset] [(.ref ob17)])
    refine own_go (fun _ => XS.dup X17.here hx rfl (hb hby at_31) rfl rfl) ?_
    show GG _ _ _ _ _ _ _ T17 (mkF m 32 #[.val (.int p0), .val (.int p1), .val (.int p2), .val (.int p3), .val (.int (1 : Int32)), .val (.ref bq15), .val (.ref bq16), .unset, .unset] [(.ref ob17), (.ref ob17)])
    refine own_go (fun _ => XS.iconst X17.here hx rfl (hb hby at_32)) ?_
    show GG _ _ _ _ _ _ _ T17 (mkF m 33 #[.val (.int p0), .val (.int p1), .val (.int p2), .val (.int p3), .val (.int (1 : Int32)), .val (.ref bq15), .val (.ref bq16), .unset, .unset] [(.int (2 : Int32)), (.ref ob17), (.ref ob17)])
    obtain ⟨T18, h18, ob18, g18, X18, e18, E18, V_ob18, E_ob18, st18⟩ := own_newarr X17 hx hZ (hw _ (List.mem_of_getElem? (i := 5) rfl)) e17 (g := (mkF m 33 #[.val (.int p0), .val (.int p1), .val (.int p2), .val (.int p3), .val (.int (1 : Int32)), .val (.ref bq15), .val (.ref bq16), .unset, .unset] [(.int (2 : Int32)), (.ref ob17), (.ref ob17)])) rfl (hb hby at_33) rfl (by decide) (cap := 2) (by decide) (by decide) (by decide) (by decide) (ad := "[I") (by decide)
    have ne_bq15_ob18 : bq15 ≠ ob18 := Nat.ne_of_lt (Nat.lt_of_lt_of_le Vq15.lt (Nat.le_of_eq g18.symm))
    have ne_bq16_ob18 : bq16 ≠ ob18 := Nat.ne_of_lt (Nat.lt_of_lt_of_le Vq16.lt (Nat.le_of_eq g18.symm))
    have ne_ob17_ob18 : ob17 ≠ ob18 := Nat.ne_of_lt (Nat.lt_of_lt_of_le E_ob17.lt (Nat.le_of_eq g18.symm))
    have sz_ob18 : h0.size ≤ ob18 := Nat.le_trans K0.1 (Nat.le_of_eq g18.symm)
    have g_ob18 : n0 ≤ ob18 := Nat.le_trans Z0 sz_ob18
    have K0 := K0.ext E18
    have Vq15 := Vq15.ext E18
    have Vq16 := Vq16.ext E18
    have E_ob17 := E_ob17.ext E18
    have F_starts_ob17 := F_starts_ob17.ext E18
    have F_members_ob17 := F_members_ob17.ext E18
    have V_ob18 : Arx Z h18 ob18 .int [(.int (0 : Int32)), (.int (0 : Int32))] := V_ob18
    refine own_go (fun _ => st18 _) ?_
    show GG _ _ _ _ _ _ _ T18 (mkF m 35 #[.val (.int p0), .val (.int p1), .val (.int p2), .val (.int p3), .val (.int (1 : Int32)), .val (.ref bq15), .val (.ref bq16), .unset, .unset] [(.ref ob18), (.ref ob17), (.ref ob17)])
    refine own_go (fun _ => XS.dup X18.here hx rfl (hb hby at_35) rfl rfl) ?_
    show GG _ _ _ _ _ _ _ T18 (mkF m 36 #[.val (.int p0), .val (.int p1), .val (.int p2), .val (.int p3), .val (.int (1 : Int32)), .val (.ref bq15), .val (.ref bq16), .unset, .unset] [(.ref ob18), (.ref ob18), (.ref ob17), (.ref ob17)])
    refine own_go (fun _ => XS.iconst X18.here hx rfl (hb hby at_36)) ?_
    show GG _ _ _ _ _ _ _ T18 (mkF m 37 #[.val (.int p0), .val (.int p1), .val (.int p2), .val (.int p3), .val (.int (1 : Int32)), .val (.ref bq15), .val (.ref bq16), .unset, .unset] [(.int (0 : Int32)), (.ref ob18), (.ref ob18), (.ref ob17), (.ref ob17)])
    refine own_go (fun _ => XS.iconst X18.here hx rfl (hb hby at_37)) ?_
    show GG _ _ _ _ _ _ _ T18 (mkF m 38 #[.val (.int p0), .val (.int p1), .val (.int p2), .val (.int p3), .val (.int (1 : Int32)), .val (.ref bq15), .val (.ref bq16), .unset, .unset] [(.int (0 : Int32)), (.int (0 : Int32)), (.ref ob18), (.ref ob18), (.ref ob17), (.ref ob17)])
    obtain ⟨T19, h19, X19, e19, W19, V19, st19⟩ := own_iastore X18 hx hZ e18 V_ob18 (by decide) (Nat.le_of_ble_eq_true rfl) (g := (mkF m 38 #[.val (.int p0), .val (.int p1), .val (.int p2), .val (.int p3), .val (.int (1 : Int32)), .val (.ref bq15), .val (.ref bq16), .unset, .unset] [(.int (0 : Int32)), (.int (0 : Int32)), (.ref ob18), (.ref ob18), (.ref ob17), (.ref ob17)])) rfl rfl (hb hby at_38)
    have K0 := K0.wr W19 (Or.inr sz_ob18)
    have Vq15 := Vq15.other W19 ne_bq15_ob18
    have Vq16 := Vq16.other W19 ne_bq16_ob18
    have E_ob17 := E_ob17.wr W19
    have F_starts_ob17 := F_starts_ob17.other W19 (Or.inl ne_ob17_ob18)
    have F_members_ob17 := F_members_ob17.other W19 (Or.inl ne_ob17_ob18)
    have E_ob18 := E_ob18.wr W19
    have V_ob18 : Arx Z h19 ob18 .int [(.int (0 : Int32)), (.int (0 : Int32))] := V19
    have N19 := Fr.snoc X19 N16 g_ob18
    refine own_go (fun _ => st19 _) ?_
    show GG _ _ _ _ _ _ _ T19 (mkF m 39 #[.val (.int p0), .val (.int p1), .val (.int p2), .val (.int p3), .val (.int (1 : Int32)), .val (.ref bq15), .val (.ref bq16), .unset, .unset] [(.ref ob18), (.ref ob17), (.ref ob17)])
    refine own_go (fun _ => XS.dup X19.here hx rfl (hb hby at_39) rfl rfl) ?_
    show GG _ _ _ _ _ _ _ T19 (mkF m 40 #[.val (.int p0), .val (.int p1), .val (.int p2), .val (.int p3), .val (.int (1 : Int32)), .val (.ref bq15), .val (.ref bq16), .unset, .unset] [(.ref ob18), (.ref ob18), (.ref ob17), (.ref ob17)])
    refine own_go (fun _ => XS.iconst X19.here hx rfl (hb hby at_40)) ?_
    show GG _ _ _ _ _ _ _ T19 (mkF m 41 #[.val (.int p0), .val (.int p1), .val (.int p2), .val (.int p3), .val (.int (1 : Int32)), .val (.ref bq15), .val (.ref bq16), .unset, .unset] [(.int (1 : Int32)), (.ref ob18), (.ref ob18), (.ref ob17), (.ref ob17)])
    refine own_go (fun _ => XS.iload X19.here hx rfl (hb hby at_41) rfl) ?_
    show GG _ _ _ _ _ _ _ T19 (mkF m 43 #[.val (.int p0), .val (.int p1), .val (.int p2), .val (.int p3), .val (.int (1 : Int32)), .val (.ref bq15), .val (.ref bq16), .unset, .unset] [(.int (1 : Int32)), (.int (1 : Int32)), (.ref ob18), (.ref ob18), (.ref ob17), (.ref ob17)])
    obtain ⟨T20, h20, X20, e20, W20, V20, st20⟩ := own_iastore X19 hx hZ e19 V_ob18 (by decide) (Nat.le_of_ble_eq_true rfl) (g := (mkF m 43 #[.val (.int p0), .val (.int p1), .val (.int p2), .val (.int p3), .val (.int (1 : Int32)), .val (.ref bq15), .val (.ref bq16), .unset, .unset] [(.int (1 : Int32)), (.int (1 : Int32)), (.ref ob18), (.ref ob18), (.ref ob17), (.ref ob17)])) rfl rfl (hb hby at_43)
    have K0 := K0.wr W20 (Or.inr sz_ob18)
    have Vq15 := Vq15.other W20 ne_bq15_ob18
    have Vq16 := Vq16.other W20 ne_bq16_ob18
    have E_ob17 := E_ob17.wr W20
    have F_starts_ob17 := F_starts_ob17.other W20 (Or.inl ne_ob17_ob18)
    have F_members_ob17 := F_members_ob17.other W20 (Or.inl ne_ob17_ob18)
    have E_ob18 := E_ob18.wr W20
    have V_ob18 : Arx Z h20 ob18 .int [(.int (0 : Int32)), (.int (1 : Int32))] := V20
    have N20 := Fr.snoc X20 N19 g_ob18
    refine own_go (fun _ => st20 _) ?_
    show GG _ _ _ _ _ _ _ T20 (mkF m 44 #[.val (.int p0), .val (.int p1), .val (.int p2), .val (.int p3), .val (.int (1 : Int32)), .val (.ref bq15), .val (.ref bq16), .unset, .unset] [(.ref ob18), (.ref ob17), (.ref ob17)])
    refine own_go (fun _ => XS.aload X20.here hx rfl (hb hby at_44) rfl rfl) ?_
    show GG _ _ _ _ _ _ _ T20 (mkF m 46 #[.val (.int p0), .val (.int p1), .val (.int p2), .val (.int p3), .val (.int (1 : Int32)), .val (.ref bq15), .val (.ref bq16), .unset, .unset] [(.ref bq15), (.ref ob18), (.ref ob17), (.ref ob17)])
    refine own_callI X20 hx hZ (y := (⟨"com/example/hadamint/hadamint/Groups", "<init>", "([I[I)V"⟩ : MethodName)) 1 rfl hown (hw _ (List.mem_of_getElem? (i := 9) rfl)) (hw _ (List.mem_of_getElem? (i := 10) rfl)) (hw _ (List.mem_of_getElem? (i := 8) rfl)) (hw _ (List.mem_of_getElem? (i := 11) rfl)) (by decide) (a := ob17) (argsL := [(.ref ob18), (.ref bq15)]) (rest := [(.ref ob17)]) (rm2 l Z a0 hw [] ob17 ob18 bq15 h20 n0 (Nat.le_trans Z0 K0.1) E_ob17 F_starts_ob17 F_members_ob17 g_ob17) (by decide) (by decide) (by decide) (by decide) (g := (mkF m 46 #[.val (.int p0), .val (.int p1), .val (.int p2), .val (.int p3), .val (.int (1 : Int32)), .val (.ref bq15), .val (.ref bq16), .unset, .unset] [(.ref bq15), (.ref ob18), (.ref ob17), (.ref ob17)])) rfl (by rw [hml]; rfl) (lenOf pd___I_I_V_495 rfl) rfl (by show 2 * 0 + _ ≤ _; exact Nat.le_of_eq rfl) (hb hby at_46) e20 ?_
    rintro v21 T21 L21 X21 ⟨rfl, N21q, Kq21, Eq21, Fq21⟩
    have N21 := Fr.app N20 N21q
    have K0 := K0.trans Kq21 (allS (Or.inr sz_ob17) all0)
    have Vq15 := Vq15.keep Kq21 (ninS ne_bq15_ob17 nin0)
    have Vq16 := Vq16.keep Kq21 (ninS ne_bq16_ob17 nin0)
    have V_ob18 := V_ob18.keep Kq21 (ninS (Ne.symm ne_ob17_ob18) nin0)
    have E_ob18 := E_ob18.keep Kq21
    show GG _ _ _ _ _ _ _ T21 (mkF m 49 #[.val (.int p0), .val (.int p1), .val (.int p2), .val (.int p3), .val (.int (1 : Int32)), .val (.ref bq15), .val (.ref bq16), .unset, .unset] [(.ref ob17)])
    refine own_go (fun _ => XS.astore X21.here hx rfl (hb hby at_49) rfl rfl (l' := #[.val (.int p0), .val (.int p1), .val (.int p2), .val (.int p3), .val (.int (1 : Int32)), .val (.ref bq15), .val (.ref bq16), .val (.ref ob17), .unset]) rfl) ?_
    show GG _ _ _ _ _ _ _ T21 (mkF m 51 #[.val (.int p0), .val (.int p1), .val (.int p2), .val (.int p3), .val (.int (1 : Int32)), .val (.ref bq15), .val (.ref bq16), .val (.ref ob17), .unset] [])
    refine own_go (fun _ => XS.aload X21.here hx rfl (hb hby at_51) rfl rfl) ?_
    show GG _ _ _ _ _ _ _ T21 (mkF m 53 #[.val (.int p0), .val (.int p1), .val (.int p2), .val (.int p3), .val (.int (1 : Int32)), .val (.ref bq15), .val (.ref bq16), .val (.ref ob17), .unset] [(.ref ob17)])
    refine own_callV X21 hx hZ (y := (⟨"com/example/hadamint/hadamint/Groups", "positions", "()[I"⟩ : MethodName)) (z := (⟨"com/example/hadamint/hadamint/Groups", "positions", "()[I"⟩ : MethodName)) 0 hown (hw _ (List.mem_of_getElem? (i := 24) rfl)) (hw _ (List.mem_of_getElem? (i := 25) rfl)) (notFace_of_selects (args := #[]) (mvT hZ (hw _ (List.mem_of_getElem? (i := 27) rfl)))) (hw _ (List.mem_of_getElem? (i := 27) rfl)) (hw _ (List.mem_of_getElem? (i := 26) rfl)) (hw _ (List.mem_of_getElem? (i := 8) rfl)) (hw _ (List.mem_of_getElem? (i := 28) rfl)) (by decide) (a := ob17) (argsL := []) (rest := []) (rm5 l Z a0 hw [] ob17 bq15 (bl 1 p1 p2 p3) T21.heap n0 (Nat.le_trans Z0 K0.1) Fq21 Vq15 hG (by rw [hbl]; decide)) (by decide) (by decide) (by decide) (by decide) Eq21 (g := (mkF m 53 #[.val (.int p0), .val (.int p1), .val (.int p2), .val (.int p3), .val (.int (1 : Int32)), .val (.ref bq15), .val (.ref bq16), .val (.ref ob17), .unset] [(.ref ob17)])) rfl (by rw [hml]; rfl) (lenOf pd____I_245 rfl) rfl (by show 2 * 0 + _ ≤ _; exact Nat.le_of_eq rfl) (hb hby at_53) rfl ?_
    rintro v22 T22 L22 X22 ⟨bq22, rfl, N22q, szq22, Kq22, Po22, Vq22, hpl22, hp22⟩
    have N22 := Fr.app N21 N22q
    have K0 := K0.trans Kq22 all0
    have Vq15 := Vq15.keep Kq22 nin0
    have Vq16 := Vq16.keep Kq22 nin0
    have V_ob18 := V_ob18.keep Kq22 nin0
    have E_ob18 := E_ob18.keep Kq22
    have Eq21 := Eq21.keep Kq22
    have Fq21 := Fq21.keep Kq22 nin0
    show GG _ _ _ _ _ _ _ T22 (mkF m 56 #[.val (.int p0), .val (.int p1), .val (.int p2), .val (.int p3), .val (.int (1 : Int32)), .val (.ref bq15), .val (.ref bq16), .val (.ref ob17), .unset] [(.ref bq22)])
    refine own_go (fun _ => XS.astore X22.here hx rfl (hb hby at_56) rfl rfl (l' := #[.val (.int p0), .val (.int p1), .val (.int p2), .val (.int p3), .val (.int (1 : Int32)), .val (.ref bq15), .val (.ref bq16), .val (.ref ob17), .val (.ref bq22)]) rfl) ?_
    show GG _ _ _ _ _ _ _ T22 (mkF m 58 #[.val (.int p0), .val (.int p1), .val (.int p2), .val (.int p3), .val (.int (1 : Int32)), .val (.ref bq15), .val (.ref bq16), .val (.ref ob17), .val (.ref bq22)] [])
    refine own_go (fun _ => XS.aload X22.here hx rfl (hb hby at_58) rfl rfl) ?_
    show GG _ _ _ _ _ _ _ T22 (mkF m 60 #[.val (.int p0), .val (.int p1), .val (.int p2), .val (.int p3), .val (.int (1 : Int32)), .val (.ref bq15), .val (.ref bq16), .val (.ref ob17), .val (.ref bq22)] [(.ref bq22)])
    refine own_go (fun _ => own_len X22 hx hZ rfl Vq22 (g := (mkF m 60 #[.val (.int p0), .val (.int p1), .val (.int p2), .val (.int p3), .val (.int (1 : Int32)), .val (.ref bq15), .val (.ref bq16), .val (.ref ob17), .val (.ref bq22)] [(.ref bq22)])) rfl rfl (hb hby at_60) _) ?_
    show GG _ _ _ _ _ _ _ T22 (mkF m 61 #[.val (.int p0), .val (.int p1), .val (.int p2), .val (.int p3), .val (.int (1 : Int32)), .val (.ref bq15), .val (.ref bq16), .val (.ref ob17), .val (.ref bq22)] [(.int (Int32.ofNat (Po22.map Value.int).length))])
    refine own_go (fun _ => XS.iload X22.here hx rfl (hb hby at_61) rfl) ?_
    show GG _ _ _ _ _ _ _ T22 (mkF m 63 #[.val (.int p0), .val (.int p1), .val (.int p2), .val (.int p3), .val (.int (1 : Int32)), .val (.ref bq15), .val (.ref bq16), .val (.ref ob17), .val (.ref bq22)] [(.int (1 : Int32)), (.int (Int32.ofNat (Po22.map Value.int).length))])
    have hc63 : (Int32.ofNat (Po22.map Value.int).length) = (1 : Int32) := by rw [List.length_map, hpl22, hbl]; rfl
    refine own_go (fun _ => XS.icmpYes X22.here hx rfl (pc0 := 63) (pc' := 68) rfl (hb hby at_63) rfl (teq hc63).1 (by decide) (by decide)) ?_
    show GG _ _ _ _ _ _ _ T22 (mkF m 68 #[.val (.int p0), .val (.int p1), .val (.int p2), .val (.int p3), .val (.int (1 : Int32)), .val (.ref bq15), .val (.ref bq16), .val (.ref ob17), .val (.ref bq22)] [])
    refine own_go (fun _ => XS.aload X22.here hx rfl (hb hby at_68) rfl rfl) ?_
    show GG _ _ _ _ _ _ _ T22 (mkF m 70 #[.val (.int p0), .val (.int p1), .val (.int p2), .val (.int p3), .val (.int (1 : Int32)), .val (.ref bq15), .val (.ref bq16), .val (.ref ob17), .val (.ref bq22)] [(.ref bq15)])
    refine own_go (fun _ => XS.aload X22.here hx rfl (hb hby at_70) rfl rfl) ?_
    show GG _ _ _ _ _ _ _ T22 (mkF m 72 #[.val (.int p0), .val (.int p1), .val (.int p2), .val (.int p3), .val (.int (1 : Int32)), .val (.ref bq15), .val (.ref bq16), .val (.ref ob17), .val (.ref bq22)] [(.ref bq16), (.ref bq15)])
    refine own_go (fun _ => XS.aload X22.here hx rfl (hb hby at_72) rfl rfl) ?_
    show GG _ _ _ _ _ _ _ T22 (mkF m 74 #[.val (.int p0), .val (.int p1), .val (.int p2), .val (.int p3), .val (.int (1 : Int32)), .val (.ref bq15), .val (.ref bq16), .val (.ref ob17), .val (.ref bq22)] [(.ref bq22), (.ref bq16), (.ref bq15)])
    refine own_go (fun _ => XS.iload X22.here hx rfl (hb hby at_74) rfl) ?_
    show GG _ _ _ _ _ _ _ T22 (mkF m 76 #[.val (.int p0), .val (.int p1), .val (.int p2), .val (.int p3), .val (.int (1 : Int32)), .val (.ref bq15), .val (.ref bq16), .val (.ref ob17), .val (.ref bq22)] [(.int (1 : Int32)), (.ref bq22), (.ref bq16), (.ref bq15)])
    refine own_go (fun _ => XS.iconst X22.here hx rfl (hb hby at_76)) ?_
    show GG _ _ _ _ _ _ _ T22 (mkF m 77 #[.val (.int p0), .val (.int p1), .val (.int p2), .val (.int p3), .val (.int (1 : Int32)), .val (.ref bq15), .val (.ref bq16), .val (.ref ob17), .val (.ref bq22)] [(.int (0 : Int32)), (.int (1 : Int32)), (.ref bq22), (.ref bq16), (.ref bq15)])
    refine own_callS X22 hx hZ (y := (⟨"com/example/hadamint/hadamint/GroupsPositionsPinLaw", "at", "([I[I[III)Z"⟩ : MethodName)) 0 hown (hw _ (List.mem_of_getElem? (i := 29) rfl)) (hw _ (List.mem_of_getElem? (i := 30) rfl)) (hw _ (List.mem_of_getElem? (i := 3) rfl)) (hw _ (List.mem_of_getElem? (i := 31) rfl)) (by decide) (argsL := [(.ref bq15), (.ref bq16), (.ref bq22), (.int (1 : Int32)), (.int (0 : Int32))]) (rest := []) (rm6 l Z a0 hw [] bq15 bq16 bq22 (1 : Int32) (0 : Int32) (bl 1 p1 p2 p3) Po22 0 T22.heap n0 (Nat.le_trans Z0 K0.1) Vq15 Vq16 Vq22 (by rw [hbl]; decide) (by decide) hG hpl22 hp22) (by decide) (by decide) (by decide) (by decide) (g := (mkF m 77 #[.val (.int p0), .val (.int p1), .val (.int p2), .val (.int p3), .val (.int (1 : Int32)), .val (.ref bq15), .val (.ref bq16), .val (.ref ob17), .val (.ref bq22)] [(.int (0 : Int32)), (.int (1 : Int32)), (.ref bq22), (.ref bq16), (.ref bq15)])) rfl (by rw [hml]; rfl) (lenOf pd___I_I_III_Z_809 rfl) rfl (by show 2 * 0 + _ ≤ _; exact Nat.le_of_eq rfl) (hb hby at_77) rfl ?_
    rintro v23 T23 L23 X23 ⟨rfl, N23q, hh23⟩
    have N23 := Fr.app N22 N23q
    show GG _ _ _ _ _ _ _ T23 (mkF m 80 #[.val (.int p0), .val (.int p1), .val (.int p2), .val (.int p3), .val (.int (1 : Int32)), .val (.ref bq15), .val (.ref bq16), .val (.ref ob17), .val (.ref bq22)] [(.int (1 : Int32))])
    have hc80 : ¬ ((1 : Int32) = (0 : Int32)) := by decide
    refine own_go (fun _ => XS.ifNo X23.here hx rfl (hb hby at_80) rfl ((if0 _ _).trans (feq hc80).1)) ?_
    show GG _ _ _ _ _ _ _ T23 (mkF m 83 #[.val (.int p0), .val (.int p1), .val (.int p2), .val (.int p3), .val (.int (1 : Int32)), .val (.ref bq15), .val (.ref bq16), .val (.ref ob17), .val (.ref bq22)] [])
    refine own_go (fun _ => XS.aload X23.here hx rfl (hb hby at_83) rfl rfl) ?_
    show GG _ _ _ _ _ _ _ T23 (mkF m 85 #[.val (.int p0), .val (.int p1), .val (.int p2), .val (.int p3), .val (.int (1 : Int32)), .val (.ref bq15), .val (.ref bq16), .val (.ref ob17), .val (.ref bq22)] [(.ref bq15)])
    refine own_go (fun _ => XS.aload X23.here hx rfl (hb hby at_85) rfl rfl) ?_
    show GG _ _ _ _ _ _ _ T23 (mkF m 87 #[.val (.int p0), .val (.int p1), .val (.int p2), .val (.int p3), .val (.int (1 : Int32)), .val (.ref bq15), .val (.ref bq16), .val (.ref ob17), .val (.ref bq22)] [(.ref bq16), (.ref bq15)])
    refine own_go (fun _ => XS.aload X23.here hx rfl (hb hby at_87) rfl rfl) ?_
    show GG _ _ _ _ _ _ _ T23 (mkF m 89 #[.val (.int p0), .val (.int p1), .val (.int p2), .val (.int p3), .val (.int (1 : Int32)), .val (.ref bq15), .val (.ref bq16), .val (.ref ob17), .val (.ref bq22)] [(.ref bq22), (.ref bq16), (.ref bq15)])
    refine own_go (fun _ => XS.iload X23.here hx rfl (hb hby at_89) rfl) ?_
    show GG _ _ _ _ _ _ _ T23 (mkF m 91 #[.val (.int p0), .val (.int p1), .val (.int p2), .val (.int p3), .val (.int (1 : Int32)), .val (.ref bq15), .val (.ref bq16), .val (.ref ob17), .val (.ref bq22)] [(.int (1 : Int32)), (.ref bq22), (.ref bq16), (.ref bq15)])
    refine own_go (fun _ => XS.iconst X23.here hx rfl (hb hby at_91)) ?_
    show GG _ _ _ _ _ _ _ T23 (mkF m 92 #[.val (.int p0), .val (.int p1), .val (.int p2), .val (.int p3), .val (.int (1 : Int32)), .val (.ref bq15), .val (.ref bq16), .val (.ref ob17), .val (.ref bq22)] [(.int (1 : Int32)), (.int (1 : Int32)), (.ref bq22), (.ref bq16), (.ref bq15)])
    refine own_callS X23 hx hZ (y := (⟨"com/example/hadamint/hadamint/GroupsPositionsPinLaw", "at", "([I[I[III)Z"⟩ : MethodName)) 0 hown (hw _ (List.mem_of_getElem? (i := 29) rfl)) (hw _ (List.mem_of_getElem? (i := 30) rfl)) (hw _ (List.mem_of_getElem? (i := 3) rfl)) (hw _ (List.mem_of_getElem? (i := 31) rfl)) (by decide) (argsL := [(.ref bq15), (.ref bq16), (.ref bq22), (.int (1 : Int32)), (.int (1 : Int32))]) (rest := []) (rm6 l Z a0 hw [] bq15 bq16 bq22 (1 : Int32) (1 : Int32) (bl 1 p1 p2 p3) Po22 1 T22.heap n0 (Nat.le_trans Z0 K0.1) Vq15 Vq16 Vq22 (by rw [hbl]; decide) (by decide) hG hpl22 hp22) (by decide) (by decide) (by decide) (by decide) (g := (mkF m 92 #[.val (.int p0), .val (.int p1), .val (.int p2), .val (.int p3), .val (.int (1 : Int32)), .val (.ref bq15), .val (.ref bq16), .val (.ref ob17), .val (.ref bq22)] [(.int (1 : Int32)), (.int (1 : Int32)), (.ref bq22), (.ref bq16), (.ref bq15)])) rfl (by rw [hml]; rfl) (lenOf pd___I_I_III_Z_809 rfl) rfl (by show 2 * 0 + _ ≤ _; exact Nat.le_of_eq rfl) (hb hby at_92) hh23 ?_
    rintro v24 T24 L24 X24 ⟨rfl, N24q, hh24⟩
    have N24 := Fr.app N23 N24q
    show GG _ _ _ _ _ _ _ T24 (mkF m 95 #[.val (.int p0), .val (.int p1), .val (.int p2), .val (.int p3), .val (.int (1 : Int32)), .val (.ref bq15), .val (.ref bq16), .val (.ref ob17), .val (.ref bq22)] [(.int (1 : Int32))])
    have hc95 : ¬ ((1 : Int32) = (0 : Int32)) := by decide
    refine own_go (fun _ => XS.ifNo X24.here hx rfl (hb hby at_95) rfl ((if0 _ _).trans (feq hc95).1)) ?_
    show GG _ _ _ _ _ _ _ T24 (mkF m 98 #[.val (.int p0), .val (.int p1), .val (.int p2), .val (.int p3), .val (.int (1 : Int32)), .val (.ref bq15), .val (.ref bq16), .val (.ref ob17), .val (.ref bq22)] [])
    refine own_go (fun _ => XS.aload X24.here hx rfl (hb hby at_98) rfl rfl) ?_
    show GG _ _ _ _ _ _ _ T24 (mkF m 100 #[.val (.int p0), .val (.int p1), .val (.int p2), .val (.int p3), .val (.int (1 : Int32)), .val (.ref bq15), .val (.ref bq16), .val (.ref ob17), .val (.ref bq22)] [(.ref bq15)])
    refine own_go (fun _ => XS.aload X24.here hx rfl (hb hby at_100) rfl rfl) ?_
    show GG _ _ _ _ _ _ _ T24 (mkF m 102 #[.val (.int p0), .val (.int p1), .val (.int p2), .val (.int p3), .val (.int (1 : Int32)), .val (.ref bq15), .val (.ref bq16), .val (.ref ob17), .val (.ref bq22)] [(.ref bq16), (.ref bq15)])
    refine own_go (fun _ => XS.aload X24.here hx rfl (hb hby at_102) rfl rfl) ?_
    show GG _ _ _ _ _ _ _ T24 (mkF m 104 #[.val (.int p0), .val (.int p1), .val (.int p2), .val (.int p3), .val (.int (1 : Int32)), .val (.ref bq15), .val (.ref bq16), .val (.ref ob17), .val (.ref bq22)] [(.ref bq22), (.ref bq16), (.ref bq15)])
    refine own_go (fun _ => XS.iload X24.here hx rfl (hb hby at_104) rfl) ?_
    show GG _ _ _ _ _ _ _ T24 (mkF m 106 #[.val (.int p0), .val (.int p1), .val (.int p2), .val (.int p3), .val (.int (1 : Int32)), .val (.ref bq15), .val (.ref bq16), .val (.ref ob17), .val (.ref bq22)] [(.int (1 : Int32)), (.ref bq22), (.ref bq16), (.ref bq15)])
    refine own_go (fun _ => XS.iconst X24.here hx rfl (hb hby at_106)) ?_
    show GG _ _ _ _ _ _ _ T24 (mkF m 107 #[.val (.int p0), .val (.int p1), .val (.int p2), .val (.int p3), .val (.int (1 : Int32)), .val (.ref bq15), .val (.ref bq16), .val (.ref ob17), .val (.ref bq22)] [(.int (2 : Int32)), (.int (1 : Int32)), (.ref bq22), (.ref bq16), (.ref bq15)])
    refine own_callS X24 hx hZ (y := (⟨"com/example/hadamint/hadamint/GroupsPositionsPinLaw", "at", "([I[I[III)Z"⟩ : MethodName)) 0 hown (hw _ (List.mem_of_getElem? (i := 29) rfl)) (hw _ (List.mem_of_getElem? (i := 30) rfl)) (hw _ (List.mem_of_getElem? (i := 3) rfl)) (hw _ (List.mem_of_getElem? (i := 31) rfl)) (by decide) (argsL := [(.ref bq15), (.ref bq16), (.ref bq22), (.int (1 : Int32)), (.int (2 : Int32))]) (rest := []) (rm6 l Z a0 hw [] bq15 bq16 bq22 (1 : Int32) (2 : Int32) (bl 1 p1 p2 p3) Po22 2 T22.heap n0 (Nat.le_trans Z0 K0.1) Vq15 Vq16 Vq22 (by rw [hbl]; decide) (by decide) hG hpl22 hp22) (by decide) (by decide) (by decide) (by decide) (g := (mkF m 107 #[.val (.int p0), .val (.int p1), .val (.int p2), .val (.int p3), .val (.int (1 : Int32)), .val (.ref bq15), .val (.ref bq16), .val (.ref ob17), .val (.ref bq22)] [(.int (2 : Int32)), (.int (1 : Int32)), (.ref bq22), (.ref bq16), (.ref bq15)])) rfl (by rw [hml]; rfl) (lenOf pd___I_I_III_Z_809 rfl) rfl (by show 2 * 0 + _ ≤ _; exact Nat.le_of_eq rfl) (hb hby at_107) hh24 ?_
    rintro v25 T25 L25 X25 ⟨rfl, N25q, hh25⟩
    have N25 := Fr.app N24 N25q
    show GG _ _ _ _ _ _ _ T25 (mkF m 110 #[.val (.int p0), .val (.int p1), .val (.int p2), .val (.int p3), .val (.int (1 : Int32)), .val (.ref bq15), .val (.ref bq16), .val (.ref ob17), .val (.ref bq22)] [(.int (1 : Int32))])
    have hc110 : ¬ ((1 : Int32) = (0 : Int32)) := by decide
    refine own_go (fun _ => XS.ifNo X25.here hx rfl (hb hby at_110) rfl ((if0 _ _).trans (feq hc110).1)) ?_
    show GG _ _ _ _ _ _ _ T25 (mkF m 113 #[.val (.int p0), .val (.int p1), .val (.int p2), .val (.int p3), .val (.int (1 : Int32)), .val (.ref bq15), .val (.ref bq16), .val (.ref ob17), .val (.ref bq22)] [])
    refine own_go (fun _ => XS.aload X25.here hx rfl (hb hby at_113) rfl rfl) ?_
    show GG _ _ _ _ _ _ _ T25 (mkF m 115 #[.val (.int p0), .val (.int p1), .val (.int p2), .val (.int p3), .val (.int (1 : Int32)), .val (.ref bq15), .val (.ref bq16), .val (.ref ob17), .val (.ref bq22)] [(.ref bq15)])
    refine own_go (fun _ => XS.aload X25.here hx rfl (hb hby at_115) rfl rfl) ?_
    show GG _ _ _ _ _ _ _ T25 (mkF m 117 #[.val (.int p0), .val (.int p1), .val (.int p2), .val (.int p3), .val (.int (1 : Int32)), .val (.ref bq15), .val (.ref bq16), .val (.ref ob17), .val (.ref bq22)] [(.ref bq16), (.ref bq15)])
    refine own_go (fun _ => XS.aload X25.here hx rfl (hb hby at_117) rfl rfl) ?_
    show GG _ _ _ _ _ _ _ T25 (mkF m 119 #[.val (.int p0), .val (.int p1), .val (.int p2), .val (.int p3), .val (.int (1 : Int32)), .val (.ref bq15), .val (.ref bq16), .val (.ref ob17), .val (.ref bq22)] [(.ref bq22), (.ref bq16), (.ref bq15)])
    refine own_go (fun _ => XS.iload X25.here hx rfl (hb hby at_119) rfl) ?_
    show GG _ _ _ _ _ _ _ T25 (mkF m 121 #[.val (.int p0), .val (.int p1), .val (.int p2), .val (.int p3), .val (.int (1 : Int32)), .val (.ref bq15), .val (.ref bq16), .val (.ref ob17), .val (.ref bq22)] [(.int (1 : Int32)), (.ref bq22), (.ref bq16), (.ref bq15)])
    refine own_go (fun _ => XS.iconst X25.here hx rfl (hb hby at_121)) ?_
    show GG _ _ _ _ _ _ _ T25 (mkF m 122 #[.val (.int p0), .val (.int p1), .val (.int p2), .val (.int p3), .val (.int (1 : Int32)), .val (.ref bq15), .val (.ref bq16), .val (.ref ob17), .val (.ref bq22)] [(.int (3 : Int32)), (.int (1 : Int32)), (.ref bq22), (.ref bq16), (.ref bq15)])
    refine own_callS X25 hx hZ (y := (⟨"com/example/hadamint/hadamint/GroupsPositionsPinLaw", "at", "([I[I[III)Z"⟩ : MethodName)) 0 hown (hw _ (List.mem_of_getElem? (i := 29) rfl)) (hw _ (List.mem_of_getElem? (i := 30) rfl)) (hw _ (List.mem_of_getElem? (i := 3) rfl)) (hw _ (List.mem_of_getElem? (i := 31) rfl)) (by decide) (argsL := [(.ref bq15), (.ref bq16), (.ref bq22), (.int (1 : Int32)), (.int (3 : Int32))]) (rest := []) (rm6 l Z a0 hw [] bq15 bq16 bq22 (1 : Int32) (3 : Int32) (bl 1 p1 p2 p3) Po22 3 T22.heap n0 (Nat.le_trans Z0 K0.1) Vq15 Vq16 Vq22 (by rw [hbl]; decide) (by decide) hG hpl22 hp22) (by decide) (by decide) (by decide) (by decide) (g := (mkF m 122 #[.val (.int p0), .val (.int p1), .val (.int p2), .val (.int p3), .val (.int (1 : Int32)), .val (.ref bq15), .val (.ref bq16), .val (.ref ob17), .val (.ref bq22)] [(.int (3 : Int32)), (.int (1 : Int32)), (.ref bq22), (.ref bq16), (.ref bq15)])) rfl (by rw [hml]; rfl) (lenOf pd___I_I_III_Z_809 rfl) rfl (by show 2 * 0 + _ ≤ _; exact Nat.le_of_eq rfl) (hb hby at_122) hh25 ?_
    rintro v26 T26 L26 X26 ⟨rfl, N26q, hh26⟩
    have N26 := Fr.app N25 N26q
    show GG _ _ _ _ _ _ _ T26 (mkF m 125 #[.val (.int p0), .val (.int p1), .val (.int p2), .val (.int p3), .val (.int (1 : Int32)), .val (.ref bq15), .val (.ref bq16), .val (.ref ob17), .val (.ref bq22)] [(.int (1 : Int32))])
    have hc125 : ¬ ((1 : Int32) = (0 : Int32)) := by decide
    refine own_go (fun _ => XS.ifNo X26.here hx rfl (hb hby at_125) rfl ((if0 _ _).trans (feq hc125).1)) ?_
    show GG _ _ _ _ _ _ _ T26 (mkF m 128 #[.val (.int p0), .val (.int p1), .val (.int p2), .val (.int p3), .val (.int (1 : Int32)), .val (.ref bq15), .val (.ref bq16), .val (.ref ob17), .val (.ref bq22)] [])
    refine own_go (fun _ => XS.iconst X26.here hx rfl (hb hby at_128)) ?_
    show GG _ _ _ _ _ _ _ T26 (mkF m 129 #[.val (.int p0), .val (.int p1), .val (.int p2), .val (.int p3), .val (.int (1 : Int32)), .val (.ref bq15), .val (.ref bq16), .val (.ref ob17), .val (.ref bq22)] [(.int (1 : Int32))])
    refine own_go (fun _ => XS.goto X26.here hx rfl (pc0 := 129) (pc' := 133) rfl (hb hby at_129) (by decide) (by decide)) ?_
    show GG _ _ _ _ _ _ _ T26 (mkF m 133 #[.val (.int p0), .val (.int p1), .val (.int p2), .val (.int p3), .val (.int (1 : Int32)), .val (.ref bq15), .val (.ref bq16), .val (.ref ob17), .val (.ref bq22)] [(.int (1 : Int32))])
    refine own_ret X26 hx hlk (t := .boolean) (w := (.int (1 : Int32))) Bd.returns rfl (Or.inl ⟨rfl, by simp, _, rfl⟩) (hb hby at_133) (by decide) (by decide) ?_
    show Q0 Z p0 p1 p2 p3 h0 n0 (some (.int (1 : Int32))) T26.heap _
    rw [hh26]
    exact ⟨rfl, N26⟩
  · skip
    subst h5
    have hG := own_good 2 p1 p2 p3
    have hbl : (bl 2 p1 p2 p3).length = 2 := by simp only [bl, own_swl]; rfl
    show GG _ _ _ _ _ _ _ s₁ (mkF m 8 #[.val (.int p0), .val (.int p1), .val (.int p2), .val (.int p3), .val (.int (2 : Int32)), .unset, .unset, .unset, .unset] [])
    have K0 := Keep.refl h0 []
    refine own_go (fun _ => XS.iload X0.here hx rfl (hb hby at_8) rfl) ?_
    show GG _ _ _ _ _ _ _ s₁ (mkF m 10 #[.val (.int p0), .val (.int p1), .val (.int p2), .val (.int p3), .val (.int (2 : Int32)), .unset, .unset, .unset, .unset] [(.int (2 : Int32))])
    refine own_go (fun _ => XS.iloadN X0.here hx rfl (hb hby at_10) rfl) ?_
    show GG _ _ _ _ _ _ _ s₁ (mkF m 11 #[.val (.int p0), .val (.int p1), .val (.int p2), .val (.int p3), .val (.int (2 : Int32)), .unset, .unset, .unset, .unset] [(.int p1), (.int (2 : Int32))])
    refine own_go (fun _ => XS.iloadN X0.here hx rfl (hb hby at_11) rfl) ?_
    show GG _ _ _ _ _ _ _ s₁ (mkF m 12 #[.val (.int p0), .val (.int p1), .val (.int p2), .val (.int p3), .val (.int (2 : Int32)), .unset, .unset, .unset, .unset] [(.int p2), (.int p1), (.int (2 : Int32))])
    refine own_go (fun _ => XS.iloadN X0.here hx rfl (hb hby at_12) rfl) ?_
    show GG _ _ _ _ _ _ _ s₁ (mkF m 13 #[.val (.int p0), .val (.int p1), .val (.int p2), .val (.int p3), .val (.int (2 : Int32)), .unset, .unset, .unset, .unset] [(.int p3), (.int p2), (.int p1), (.int (2 : Int32))])
    refine own_callS X0 hx hZ (y := (⟨"com/example/hadamint/hadamint/GroupsPositionsPinLaw", "build", "(IIII)[I"⟩ : MethodName)) 0 hown (hw _ (List.mem_of_getElem? (i := 1) rfl)) (hw _ (List.mem_of_getElem? (i := 2) rfl)) (hw _ (List.mem_of_getElem? (i := 3) rfl)) (hw _ (List.mem_of_getElem? (i := 4) rfl)) (by decide) (argsL := [(.int (2 : Int32)), (.int p1), (.int p2), (.int p3)]) (rest := []) (rm1_2 l Z a0 hw [] p1 p2 p3 h0 n0 Z0) (by decide) (by decide) (by decide) (by decide) (g := (mkF m 13 #[.val (.int p0), .val (.int p1), .val (.int p2), .val (.int p3), .val (.int (2 : Int32)), .unset, .unset, .unset, .unset] [(.int p3), (.int p2), (.int p1), (.int (2 : Int32))])) rfl (by rw [hml]; rfl) (lenOf pd__IIII__I_537 rfl) rfl (by show 2 * 0 + _ ≤ _; exact Nat.le_of_eq rfl) (hb hby at_13) e0 ?_
    rintro v27 T27 L27 X27 ⟨bq27, rfl, N27q, szq27, Kq27, Vq27⟩
    have N27 := Fr.app N0 N27q
    have K0 := K0.trans Kq27 all0
    have sz_bq27 : h0.size ≤ bq27 := Nat.le_trans (Nat.le_refl _) szq27
    have g_bq27 : n0 ≤ bq27 := Nat.le_trans Z0 sz_bq27
    have Kp := K0
    show GG _ _ _ _ _ _ _ T27 (mkF m 16 #[.val (.int p0), .val (.int p1), .val (.int p2), .val (.int p3), .val (.int (2 : Int32)), .unset, .unset, .unset, .unset] [(.ref bq27)])
    refine own_go (fun _ => XS.astore X27.here hx rfl (hb hby at_16) rfl rfl (l' := #[.val (.int p0), .val (.int p1), .val (.int p2), .val (.int p3), .val (.int (2 : Int32)), .val (.ref bq27), .unset, .unset, .unset]) rfl) ?_
    show GG _ _ _ _ _ _ _ T27 (mkF m 18 #[.val (.int p0), .val (.int p1), .val (.int p2), .val (.int p3), .val (.int (2 : Int32)), .val (.ref bq27), .unset, .unset, .unset] [])
    refine own_go (fun _ => XS.iload X27.here hx rfl (hb hby at_18) rfl) ?_
    show GG _ _ _ _ _ _ _ T27 (mkF m 20 #[.val (.int p0), .val (.int p1), .val (.int p2), .val (.int p3), .val (.int (2 : Int32)), .val (.ref bq27), .unset, .unset, .unset] [(.int (2 : Int32))])
    refine own_go (fun _ => XS.iloadN X27.here hx rfl (hb hby at_20) rfl) ?_
    show GG _ _ _ _ _ _ _ T27 (mkF m 21 #[.val (.int p0), .val (.int p1), .val (.int p2), .val (.int p3), .val (.int (2 : Int32)), .val (.ref bq27), .unset, .unset, .unset] [(.int p1), (.int (2 : Int32))])
    refine own_go (fun _ => XS.iloadN X27.here hx rfl (hb hby at_21) rfl) ?_
    show GG _ _ _ _ _ _ _ T27 (mkF m 22 #[.val (.int p0), .val (.int p1), .val (.int p2), .val (.int p3), .val (.int (2 : Int32)), .val (.ref bq27), .unset, .unset, .unset] [(.int p2), (.int p1), (.int (2 : Int32))])
    refine own_go (fun _ => XS.iloadN X27.here hx rfl (hb hby at_22) rfl) ?_
    show GG _ _ _ _ _ _ _ T27 (mkF m 23 #[.val (.int p0), .val (.int p1), .val (.int p2), .val (.int p3), .val (.int (2 : Int32)), .val (.ref bq27), .unset, .unset, .unset] [(.int p3), (.int p2), (.int p1), (.int (2 : Int32))])
    refine own_callS X27 hx hZ (y := (⟨"com/example/hadamint/hadamint/GroupsPositionsPinLaw", "build", "(IIII)[I"⟩ : MethodName)) 0 hown (hw _ (List.mem_of_getElem? (i := 1) rfl)) (hw _ (List.mem_of_getElem? (i := 2) rfl)) (hw _ (List.mem_of_getElem? (i := 3) rfl)) (hw _ (List.mem_of_getElem? (i := 4) rfl)) (by decide) (argsL := [(.int (2 : Int32)), (.int p1), (.int p2), (.int p3)]) (rest := []) (rm1_2 l Z a0 hw [] p1 p2 p3 T27.heap n0 (Nat.le_trans Z0 K0.1)) (by decide) (by decide) (by decide) (by decide) (g := (mkF m 23 #[.val (.int p0), .val (.int p1), .val (.int p2), .val (.int p3), .val (.int (2 : Int32)), .val (.ref bq27), .unset, .unset, .unset] [(.int p3), (.int p2), (.int p1), (.int (2 : Int32))])) rfl (by rw [hml]; rfl) (lenOf pd__IIII__I_537 rfl) rfl (by show 2 * 0 + _ ≤ _; exact Nat.le_of_eq rfl) (hb hby at_23) rfl ?_
    rintro v28 T28 L28 X28 ⟨bq28, rfl, N28q, szq28, Kq28, Vq28⟩
    have N28 := Fr.app N27 N28q
    have K0 := K0.trans Kq28 all0
    have Vq27 := Vq27.keep Kq28 nin0
    have sz_bq28 : h0.size ≤ bq28 := Nat.le_trans Kp.1 szq28
    have g_bq28 : n0 ≤ bq28 := Nat.le_trans Z0 sz_bq28
    have Kp := K0
    show GG _ _ _ _ _ _ _ T28 (mkF m 26 #[.val (.int p0), .val (.int p1), .val (.int p2), .val (.int p3), .val (.int (2 : Int32)), .val (.ref bq27), .unset, .unset, .unset] [(.ref bq28)])
    refine own_go (fun _ => XS.astore X28.here hx rfl (hb hby at_26) rfl rfl (l' := #[.val (.int p0), .val (.int p1), .val (.int p2), .val (.int p3), .val (.int (2 : Int32)), .val (.ref bq27), .val (.ref bq28), .unset, .unset]) rfl) ?_
    show GG _ _ _ _ _ _ _ T28 (mkF m 28 #[.val (.int p0), .val (.int p1), .val (.int p2), .val (.int p3), .val (.int (2 : Int32)), .val (.ref bq27), .val (.ref bq28), .unset, .unset] [])
    obtain ⟨T29, h29, X29, e29, E29, A29, D29, -, st29⟩ := newO X28 hx hZ hown (hw _ (List.mem_of_getElem? (i := 6) rfl)) (hw _ (List.mem_of_getElem? (i := 7) rfl)) (hw _ (List.mem_of_getElem? (i := 8) rfl)) rfl (g := (mkF m 28 #[.val (.int p0), .val (.int p1), .val (.int p2), .val (.int p3), .val (.int (2 : Int32)), .val (.ref bq27), .val (.ref bq28), .unset, .unset] [])) rfl (hb hby at_28) (by decide) (by decide)
    obtain ⟨ob29, g29⟩ : ∃ z, z = T28.heap.size := ⟨_, rfl⟩
    rw [← g29] at A29 D29 st29
    have ne_bq27_ob29 : bq27 ≠ ob29 := Nat.ne_of_lt (Nat.lt_of_lt_of_le Vq27.lt (Nat.le_of_eq g29.symm))
    have ne_bq28_ob29 : bq28 ≠ ob29 := Nat.ne_of_lt (Nat.lt_of_lt_of_le Vq28.lt (Nat.le_of_eq g29.symm))
    have sz_ob29 : h0.size ≤ ob29 := Nat.le_trans K0.1 (Nat.le_of_eq g29.symm)
    have g_ob29 : n0 ≤ ob29 := Nat.le_trans Z0 sz_ob29
    have K0 := K0.ext E29
    have Vq27 := Vq27.ext E29
    have Vq28 := Vq28.ext E29
    have E_ob29 := A29
    have F_starts_ob29 : Fld Z h29 ob29 "com/example/hadamint/hadamint/Groups" "starts" "[I" .null := D29 (Or.inr (hw _ (List.mem_of_getElem? (i := 21) rfl))) (ty := (.array .int)) (by decide)
    have F_members_ob29 : Fld Z h29 ob29 "com/example/hadamint/hadamint/Groups" "members" "[I" .null := D29 (Or.inr (hw _ (List.mem_of_getElem? (i := 23) rfl))) (ty := (.array .int)) (by decide)
    refine own_go (fun _ => st29 _) ?_
    show GG _ _ _ _ _ _ _ T29 (mkF m 31 #[.val (.int p0), .val (.int p1), .val (.int p2), .val (.int p3), .val (.int (2 : Int32)), .val (.ref bq27), .val (.ref bq28), .unset, .unset] [(.ref ob29)])
    refine own_go (fun _ => XS.dup X29.here hx rfl (hb hby at_31) rfl rfl) ?_
    show GG _ _ _ _ _ _ _ T29 (mkF m 32 #[.val (.int p0), .val (.int p1), .val (.int p2), .val (.int p3), .val (.int (2 : Int32)), .val (.ref bq27), .val (.ref bq28), .unset, .unset] [(.ref ob29), (.ref ob29)])
    refine own_go (fun _ => XS.iconst X29.here hx rfl (hb hby at_32)) ?_
    show GG _ _ _ _ _ _ _ T29 (mkF m 33 #[.val (.int p0), .val (.int p1), .val (.int p2), .val (.int p3), .val (.int (2 : Int32)), .val (.ref bq27), .val (.ref bq28), .unset, .unset] [(.int (2 : Int32)), (.ref ob29), (.ref ob29)])
    obtain ⟨T30, h30, ob30, g30, X30, e30, E30, V_ob30, E_ob30, st30⟩ := own_newarr X29 hx hZ (hw _ (List.mem_of_getElem? (i := 5) rfl)) e29 (g := (mkF m 33 #[.val (.int p0), .val (.int p1), .val (.int p2), .val (.int p3), .val (.int (2 : Int32)), .val (.ref bq27), .val (.ref bq28), .unset, .unset] [(.int (2 : Int32)), (.ref ob29), (.ref ob29)])) rfl (hb hby at_33) rfl (by decide) (cap := 2) (by decide) (by decide) (by decide) (by decide) (ad := "[I") (by decide)
    have ne_bq27_ob30 : bq27 ≠ ob30 := Nat.ne_of_lt (Nat.lt_of_lt_of_le Vq27.lt (Nat.le_of_eq g30.symm))
    have ne_bq28_ob30 : bq28 ≠ ob30 := Nat.ne_of_lt (Nat.lt_of_lt_of_le Vq28.lt (Nat.le_of_eq g30.symm))
    have ne_ob29_ob30 : ob29 ≠ ob30 := Nat.ne_of_lt (Nat.lt_of_lt_of_le E_ob29.lt (Nat.le_of_eq g30.symm))
    have sz_ob30 : h0.size ≤ ob30 := Nat.le_trans K0.1 (Nat.le_of_eq g30.symm)
    have g_ob30 : n0 ≤ ob30 := Nat.le_trans Z0 sz_ob30
    have K0 := K0.ext E30
    have Vq27 := Vq27.ext E30
    have Vq28 := Vq28.ext E30
    have E_ob29 := E_ob29.ext E30
    have F_starts_ob29 := F_starts_ob29.ext E30
    have F_members_ob29 := F_members_ob29.ext E30
    have V_ob30 : Arx Z h30 ob30 .int [(.int (0 : Int32)), (.int (0 : Int32))] := V_ob30
    refine own_go (fun _ => st30 _) ?_
    show GG _ _ _ _ _ _ _ T30 (mkF m 35 #[.val (.int p0), .val (.int p1), .val (.int p2), .val (.int p3), .val (.int (2 : Int32)), .val (.ref bq27), .val (.ref bq28), .unset, .unset] [(.ref ob30), (.ref ob29), (.ref ob29)])
    refine own_go (fun _ => XS.dup X30.here hx rfl (hb hby at_35) rfl rfl) ?_
    show GG _ _ _ _ _ _ _ T30 (mkF m 36 #[.val (.int p0), .val (.int p1), .val (.int p2), .val (.int p3), .val (.int (2 : Int32)), .val (.ref bq27), .val (.ref bq28), .unset, .unset] [(.ref ob30), (.ref ob30), (.ref ob29), (.ref ob29)])
    refine own_go (fun _ => XS.iconst X30.here hx rfl (hb hby at_36)) ?_
    show GG _ _ _ _ _ _ _ T30 (mkF m 37 #[.val (.int p0), .val (.int p1), .val (.int p2), .val (.int p3), .val (.int (2 : Int32)), .val (.ref bq27), .val (.ref bq28), .unset, .unset] [(.int (0 : Int32)), (.ref ob30), (.ref ob30), (.ref ob29), (.ref ob29)])
    refine own_go (fun _ => XS.iconst X30.here hx rfl (hb hby at_37)) ?_
    show GG _ _ _ _ _ _ _ T30 (mkF m 38 #[.val (.int p0), .val (.int p1), .val (.int p2), .val (.int p3), .val (.int (2 : Int32)), .val (.ref bq27), .val (.ref bq28), .unset, .unset] [(.int (0 : Int32)), (.int (0 : Int32)), (.ref ob30), (.ref ob30), (.ref ob29), (.ref ob29)])
    obtain ⟨T31, h31, X31, e31, W31, V31, st31⟩ := own_iastore X30 hx hZ e30 V_ob30 (by decide) (Nat.le_of_ble_eq_true rfl) (g := (mkF m 38 #[.val (.int p0), .val (.int p1), .val (.int p2), .val (.int p3), .val (.int (2 : Int32)), .val (.ref bq27), .val (.ref bq28), .unset, .unset] [(.int (0 : Int32)), (.int (0 : Int32)), (.ref ob30), (.ref ob30), (.ref ob29), (.ref ob29)])) rfl rfl (hb hby at_38)
    have K0 := K0.wr W31 (Or.inr sz_ob30)
    have Vq27 := Vq27.other W31 ne_bq27_ob30
    have Vq28 := Vq28.other W31 ne_bq28_ob30
    have E_ob29 := E_ob29.wr W31
    have F_starts_ob29 := F_starts_ob29.other W31 (Or.inl ne_ob29_ob30)
    have F_members_ob29 := F_members_ob29.other W31 (Or.inl ne_ob29_ob30)
    have E_ob30 := E_ob30.wr W31
    have V_ob30 : Arx Z h31 ob30 .int [(.int (0 : Int32)), (.int (0 : Int32))] := V31
    have N31 := Fr.snoc X31 N28 g_ob30
    refine own_go (fun _ => st31 _) ?_
    show GG _ _ _ _ _ _ _ T31 (mkF m 39 #[.val (.int p0), .val (.int p1), .val (.int p2), .val (.int p3), .val (.int (2 : Int32)), .val (.ref bq27), .val (.ref bq28), .unset, .unset] [(.ref ob30), (.ref ob29), (.ref ob29)])
    refine own_go (fun _ => XS.dup X31.here hx rfl (hb hby at_39) rfl rfl) ?_
    show GG _ _ _ _ _ _ _ T31 (mkF m 40 #[.val (.int p0), .val (.int p1), .val (.int p2), .val (.int p3), .val (.int (2 : Int32)), .val (.ref bq27), .val (.ref bq28), .unset, .unset] [(.ref ob30), (.ref ob30), (.ref ob29), (.ref ob29)])
    refine own_go (fun _ => XS.iconst X31.here hx rfl (hb hby at_40)) ?_
    show GG _ _ _ _ _ _ _ T31 (mkF m 41 #[.val (.int p0), .val (.int p1), .val (.int p2), .val (.int p3), .val (.int (2 : Int32)), .val (.ref bq27), .val (.ref bq28), .unset, .unset] [(.int (1 : Int32)), (.ref ob30), (.ref ob30), (.ref ob29), (.ref ob29)])
    refine own_go (fun _ => XS.iload X31.here hx rfl (hb hby at_41) rfl) ?_
    show GG _ _ _ _ _ _ _ T31 (mkF m 43 #[.val (.int p0), .val (.int p1), .val (.int p2), .val (.int p3), .val (.int (2 : Int32)), .val (.ref bq27), .val (.ref bq28), .unset, .unset] [(.int (2 : Int32)), (.int (1 : Int32)), (.ref ob30), (.ref ob30), (.ref ob29), (.ref ob29)])
    obtain ⟨T32, h32, X32, e32, W32, V32, st32⟩ := own_iastore X31 hx hZ e31 V_ob30 (by decide) (Nat.le_of_ble_eq_true rfl) (g := (mkF m 43 #[.val (.int p0), .val (.int p1), .val (.int p2), .val (.int p3), .val (.int (2 : Int32)), .val (.ref bq27), .val (.ref bq28), .unset, .unset] [(.int (2 : Int32)), (.int (1 : Int32)), (.ref ob30), (.ref ob30), (.ref ob29), (.ref ob29)])) rfl rfl (hb hby at_43)
    have K0 := K0.wr W32 (Or.inr sz_ob30)
    have Vq27 := Vq27.other W32 ne_bq27_ob30
    have Vq28 := Vq28.other W32 ne_bq28_ob30
    have E_ob29 := E_ob29.wr W32
    have F_starts_ob29 := F_starts_ob29.other W32 (Or.inl ne_ob29_ob30)
    have F_members_ob29 := F_members_ob29.other W32 (Or.inl ne_ob29_ob30)
    have E_ob30 := E_ob30.wr W32
    have V_ob30 : Arx Z h32 ob30 .int [(.int (0 : Int32)), (.int (2 : Int32))] := V32
    have N32 := Fr.snoc X32 N31 g_ob30
    refine own_go (fun _ => st32 _) ?_
    show GG _ _ _ _ _ _ _ T32 (mkF m 44 #[.val (.int p0), .val (.int p1), .val (.int p2), .val (.int p3), .val (.int (2 : Int32)), .val (.ref bq27), .val (.ref bq28), .unset, .unset] [(.ref ob30), (.ref ob29), (.ref ob29)])
    refine own_go (fun _ => XS.aload X32.here hx rfl (hb hby at_44) rfl rfl) ?_
    show GG _ _ _ _ _ _ _ T32 (mkF m 46 #[.val (.int p0), .val (.int p1), .val (.int p2), .val (.int p3), .val (.int (2 : Int32)), .val (.ref bq27), .val (.ref bq28), .unset, .unset] [(.ref bq27), (.ref ob30), (.ref ob29), (.ref ob29)])
    refine own_callI X32 hx hZ (y := (⟨"com/example/hadamint/hadamint/Groups", "<init>", "([I[I)V"⟩ : MethodName)) 1 rfl hown (hw _ (List.mem_of_getElem? (i := 9) rfl)) (hw _ (List.mem_of_getElem? (i := 10) rfl)) (hw _ (List.mem_of_getElem? (i := 8) rfl)) (hw _ (List.mem_of_getElem? (i := 11) rfl)) (by decide) (a := ob29) (argsL := [(.ref ob30), (.ref bq27)]) (rest := [(.ref ob29)]) (rm2 l Z a0 hw [] ob29 ob30 bq27 h32 n0 (Nat.le_trans Z0 K0.1) E_ob29 F_starts_ob29 F_members_ob29 g_ob29) (by decide) (by decide) (by decide) (by decide) (g := (mkF m 46 #[.val (.int p0), .val (.int p1), .val (.int p2), .val (.int p3), .val (.int (2 : Int32)), .val (.ref bq27), .val (.ref bq28), .unset, .unset] [(.ref bq27), (.ref ob30), (.ref ob29), (.ref ob29)])) rfl (by rw [hml]; rfl) (lenOf pd___I_I_V_495 rfl) rfl (by show 2 * 0 + _ ≤ _; exact Nat.le_of_eq rfl) (hb hby at_46) e32 ?_
    rintro v33 T33 L33 X33 ⟨rfl, N33q, Kq33, Eq33, Fq33⟩
    have N33 := Fr.app N32 N33q
    have K0 := K0.trans Kq33 (allS (Or.inr sz_ob29) all0)
    have Vq27 := Vq27.keep Kq33 (ninS ne_bq27_ob29 nin0)
    have Vq28 := Vq28.keep Kq33 (ninS ne_bq28_ob29 nin0)
    have V_ob30 := V_ob30.keep Kq33 (ninS (Ne.symm ne_ob29_ob30) nin0)
    have E_ob30 := E_ob30.keep Kq33
    show GG _ _ _ _ _ _ _ T33 (mkF m 49 #[.val (.int p0), .val (.int p1), .val (.int p2), .val (.int p3), .val (.int (2 : Int32)), .val (.ref bq27), .val (.ref bq28), .unset, .unset] [(.ref ob29)])
    refine own_go (fun _ => XS.astore X33.here hx rfl (hb hby at_49) rfl rfl (l' := #[.val (.int p0), .val (.int p1), .val (.int p2), .val (.int p3), .val (.int (2 : Int32)), .val (.ref bq27), .val (.ref bq28), .val (.ref ob29), .unset]) rfl) ?_
    show GG _ _ _ _ _ _ _ T33 (mkF m 51 #[.val (.int p0), .val (.int p1), .val (.int p2), .val (.int p3), .val (.int (2 : Int32)), .val (.ref bq27), .val (.ref bq28), .val (.ref ob29), .unset] [])
    refine own_go (fun _ => XS.aload X33.here hx rfl (hb hby at_51) rfl rfl) ?_
    show GG _ _ _ _ _ _ _ T33 (mkF m 53 #[.val (.int p0), .val (.int p1), .val (.int p2), .val (.int p3), .val (.int (2 : Int32)), .val (.ref bq27), .val (.ref bq28), .val (.ref ob29), .unset] [(.ref ob29)])
    refine own_callV X33 hx hZ (y := (⟨"com/example/hadamint/hadamint/Groups", "positions", "()[I"⟩ : MethodName)) (z := (⟨"com/example/hadamint/hadamint/Groups", "positions", "()[I"⟩ : MethodName)) 0 hown (hw _ (List.mem_of_getElem? (i := 24) rfl)) (hw _ (List.mem_of_getElem? (i := 25) rfl)) (notFace_of_selects (args := #[]) (mvT hZ (hw _ (List.mem_of_getElem? (i := 27) rfl)))) (hw _ (List.mem_of_getElem? (i := 27) rfl)) (hw _ (List.mem_of_getElem? (i := 26) rfl)) (hw _ (List.mem_of_getElem? (i := 8) rfl)) (hw _ (List.mem_of_getElem? (i := 28) rfl)) (by decide) (a := ob29) (argsL := []) (rest := []) (rm5 l Z a0 hw [] ob29 bq27 (bl 2 p1 p2 p3) T33.heap n0 (Nat.le_trans Z0 K0.1) Fq33 Vq27 hG (by rw [hbl]; decide)) (by decide) (by decide) (by decide) (by decide) Eq33 (g := (mkF m 53 #[.val (.int p0), .val (.int p1), .val (.int p2), .val (.int p3), .val (.int (2 : Int32)), .val (.ref bq27), .val (.ref bq28), .val (.ref ob29), .unset] [(.ref ob29)])) rfl (by rw [hml]; rfl) (lenOf pd____I_245 rfl) rfl (by show 2 * 0 + _ ≤ _; exact Nat.le_of_eq rfl) (hb hby at_53) rfl ?_
    rintro v34 T34 L34 X34 ⟨bq34, rfl, N34q, szq34, Kq34, Po34, Vq34, hpl34, hp34⟩
    have N34 := Fr.app N33 N34q
    have K0 := K0.trans Kq34 all0
    have Vq27 := Vq27.keep Kq34 nin0
    have Vq28 := Vq28.keep Kq34 nin0
    have V_ob30 := V_ob30.keep Kq34 nin0
    have E_ob30 := E_ob30.keep Kq34
    have Eq33 := Eq33.keep Kq34
    have Fq33 := Fq33.keep Kq34 nin0
    show GG _ _ _ _ _ _ _ T34 (mkF m 56 #[.val (.int p0), .val (.int p1), .val (.int p2), .val (.int p3), .val (.int (2 : Int32)), .val (.ref bq27), .val (.ref bq28), .val (.ref ob29), .unset] [(.ref bq34)])
    refine own_go (fun _ => XS.astore X34.here hx rfl (hb hby at_56) rfl rfl (l' := #[.val (.int p0), .val (.int p1), .val (.int p2), .val (.int p3), .val (.int (2 : Int32)), .val (.ref bq27), .val (.ref bq28), .val (.ref ob29), .val (.ref bq34)]) rfl) ?_
    show GG _ _ _ _ _ _ _ T34 (mkF m 58 #[.val (.int p0), .val (.int p1), .val (.int p2), .val (.int p3), .val (.int (2 : Int32)), .val (.ref bq27), .val (.ref bq28), .val (.ref ob29), .val (.ref bq34)] [])
    refine own_go (fun _ => XS.aload X34.here hx rfl (hb hby at_58) rfl rfl) ?_
    show GG _ _ _ _ _ _ _ T34 (mkF m 60 #[.val (.int p0), .val (.int p1), .val (.int p2), .val (.int p3), .val (.int (2 : Int32)), .val (.ref bq27), .val (.ref bq28), .val (.ref ob29), .val (.ref bq34)] [(.ref bq34)])
    refine own_go (fun _ => own_len X34 hx hZ rfl Vq34 (g := (mkF m 60 #[.val (.int p0), .val (.int p1), .val (.int p2), .val (.int p3), .val (.int (2 : Int32)), .val (.ref bq27), .val (.ref bq28), .val (.ref ob29), .val (.ref bq34)] [(.ref bq34)])) rfl rfl (hb hby at_60) _) ?_
    show GG _ _ _ _ _ _ _ T34 (mkF m 61 #[.val (.int p0), .val (.int p1), .val (.int p2), .val (.int p3), .val (.int (2 : Int32)), .val (.ref bq27), .val (.ref bq28), .val (.ref ob29), .val (.ref bq34)] [(.int (Int32.ofNat (Po34.map Value.int).length))])
    refine own_go (fun _ => XS.iload X34.here hx rfl (hb hby at_61) rfl) ?_
    show GG _ _ _ _ _ _ _ T34 (mkF m 63 #[.val (.int p0), .val (.int p1), .val (.int p2), .val (.int p3), .val (.int (2 : Int32)), .val (.ref bq27), .val (.ref bq28), .val (.ref ob29), .val (.ref bq34)] [(.int (2 : Int32)), (.int (Int32.ofNat (Po34.map Value.int).length))])
    have hc63 : (Int32.ofNat (Po34.map Value.int).length) = (2 : Int32) := by rw [List.length_map, hpl34, hbl]; rfl
    refine own_go (fun _ => XS.icmpYes X34.here hx rfl (pc0 := 63) (pc' := 68) rfl (hb hby at_63) rfl (teq hc63).1 (by decide) (by decide)) ?_
    show GG _ _ _ _ _ _ _ T34 (mkF m 68 #[.val (.int p0), .val (.int p1), .val (.int p2), .val (.int p3), .val (.int (2 : Int32)), .val (.ref bq27), .val (.ref bq28), .val (.ref ob29), .val (.ref bq34)] [])
    refine own_go (fun _ => XS.aload X34.here hx rfl (hb hby at_68) rfl rfl) ?_
    show GG _ _ _ _ _ _ _ T34 (mkF m 70 #[.val (.int p0), .val (.int p1), .val (.int p2), .val (.int p3), .val (.int (2 : Int32)), .val (.ref bq27), .val (.ref bq28), .val (.ref ob29), .val (.ref bq34)] [(.ref bq27)])
    refine own_go (fun _ => XS.aload X34.here hx rfl (hb hby at_70) rfl rfl) ?_
    show GG _ _ _ _ _ _ _ T34 (mkF m 72 #[.val (.int p0), .val (.int p1), .val (.int p2), .val (.int p3), .val (.int (2 : Int32)), .val (.ref bq27), .val (.ref bq28), .val (.ref ob29), .val (.ref bq34)] [(.ref bq28), (.ref bq27)])
    refine own_go (fun _ => XS.aload X34.here hx rfl (hb hby at_72) rfl rfl) ?_
    show GG _ _ _ _ _ _ _ T34 (mkF m 74 #[.val (.int p0), .val (.int p1), .val (.int p2), .val (.int p3), .val (.int (2 : Int32)), .val (.ref bq27), .val (.ref bq28), .val (.ref ob29), .val (.ref bq34)] [(.ref bq34), (.ref bq28), (.ref bq27)])
    refine own_go (fun _ => XS.iload X34.here hx rfl (hb hby at_74) rfl) ?_
    show GG _ _ _ _ _ _ _ T34 (mkF m 76 #[.val (.int p0), .val (.int p1), .val (.int p2), .val (.int p3), .val (.int (2 : Int32)), .val (.ref bq27), .val (.ref bq28), .val (.ref ob29), .val (.ref bq34)] [(.int (2 : Int32)), (.ref bq34), (.ref bq28), (.ref bq27)])
    refine own_go (fun _ => XS.iconst X34.here hx rfl (hb hby at_76)) ?_
    show GG _ _ _ _ _ _ _ T34 (mkF m 77 #[.val (.int p0), .val (.int p1), .val (.int p2), .val (.int p3), .val (.int (2 : Int32)), .val (.ref bq27), .val (.ref bq28), .val (.ref ob29), .val (.ref bq34)] [(.int (0 : Int32)), (.int (2 : Int32)), (.ref bq34), (.ref bq28), (.ref bq27)])
    refine own_callS X34 hx hZ (y := (⟨"com/example/hadamint/hadamint/GroupsPositionsPinLaw", "at", "([I[I[III)Z"⟩ : MethodName)) 0 hown (hw _ (List.mem_of_getElem? (i := 29) rfl)) (hw _ (List.mem_of_getElem? (i := 30) rfl)) (hw _ (List.mem_of_getElem? (i := 3) rfl)) (hw _ (List.mem_of_getElem? (i := 31) rfl)) (by decide) (argsL := [(.ref bq27), (.ref bq28), (.ref bq34), (.int (2 : Int32)), (.int (0 : Int32))]) (rest := []) (rm6 l Z a0 hw [] bq27 bq28 bq34 (2 : Int32) (0 : Int32) (bl 2 p1 p2 p3) Po34 0 T34.heap n0 (Nat.le_trans Z0 K0.1) Vq27 Vq28 Vq34 (by rw [hbl]; decide) (by decide) hG hpl34 hp34) (by decide) (by decide) (by decide) (by decide) (g := (mkF m 77 #[.val (.int p0), .val (.int p1), .val (.int p2), .val (.int p3), .val (.int (2 : Int32)), .val (.ref bq27), .val (.ref bq28), .val (.ref ob29), .val (.ref bq34)] [(.int (0 : Int32)), (.int (2 : Int32)), (.ref bq34), (.ref bq28), (.ref bq27)])) rfl (by rw [hml]; rfl) (lenOf pd___I_I_III_Z_809 rfl) rfl (by show 2 * 0 + _ ≤ _; exact Nat.le_of_eq rfl) (hb hby at_77) rfl ?_
    rintro v35 T35 L35 X35 ⟨rfl, N35q, hh35⟩
    have N35 := Fr.app N34 N35q
    show GG _ _ _ _ _ _ _ T35 (mkF m 80 #[.val (.int p0), .val (.int p1), .val (.int p2), .val (.int p3), .val (.int (2 : Int32)), .val (.ref bq27), .val (.ref bq28), .val (.ref ob29), .val (.ref bq34)] [(.int (1 : Int32))])
    have hc80 : ¬ ((1 : Int32) = (0 : Int32)) := by decide
    refine own_go (fun _ => XS.ifNo X35.here hx rfl (hb hby at_80) rfl ((if0 _ _).trans (feq hc80).1)) ?_
    show GG _ _ _ _ _ _ _ T35 (mkF m 83 #[.val (.int p0), .val (.int p1), .val (.int p2), .val (.int p3), .val (.int (2 : Int32)), .val (.ref bq27), .val (.ref bq28), .val (.ref ob29), .val (.ref bq34)] [])
    refine own_go (fun _ => XS.aload X35.here hx rfl (hb hby at_83) rfl rfl) ?_
    show GG _ _ _ _ _ _ _ T35 (mkF m 85 #[.val (.int p0), .val (.int p1), .val (.int p2), .val (.int p3), .val (.int (2 : Int32)), .val (.ref bq27), .val (.ref bq28), .val (.ref ob29), .val (.ref bq34)] [(.ref bq27)])
    refine own_go (fun _ => XS.aload X35.here hx rfl (hb hby at_85) rfl rfl) ?_
    show GG _ _ _ _ _ _ _ T35 (mkF m 87 #[.val (.int p0), .val (.int p1), .val (.int p2), .val (.int p3), .val (.int (2 : Int32)), .val (.ref bq27), .val (.ref bq28), .val (.ref ob29), .val (.ref bq34)] [(.ref bq28), (.ref bq27)])
    refine own_go (fun _ => XS.aload X35.here hx rfl (hb hby at_87) rfl rfl) ?_
    show GG _ _ _ _ _ _ _ T35 (mkF m 89 #[.val (.int p0), .val (.int p1), .val (.int p2), .val (.int p3), .val (.int (2 : Int32)), .val (.ref bq27), .val (.ref bq28), .val (.ref ob29), .val (.ref bq34)] [(.ref bq34), (.ref bq28), (.ref bq27)])
    refine own_go (fun _ => XS.iload X35.here hx rfl (hb hby at_89) rfl) ?_
    show GG _ _ _ _ _ _ _ T35 (mkF m 91 #[.val (.int p0), .val (.int p1), .val (.int p2), .val (.int p3), .val (.int (2 : Int32)), .val (.ref bq27), .val (.ref bq28), .val (.ref ob29), .val (.ref bq34)] [(.int (2 : Int32)), (.ref bq34), (.ref bq28), (.ref bq27)])
    refine own_go (fun _ => XS.iconst X35.here hx rfl (hb hby at_91)) ?_
    show GG _ _ _ _ _ _ _ T35 (mkF m 92 #[.val (.int p0), .val (.int p1), .val (.int p2), .val (.int p3), .val (.int (2 : Int32)), .val (.ref bq27), .val (.ref bq28), .val (.ref ob29), .val (.ref bq34)] [(.int (1 : Int32)), (.int (2 : Int32)), (.ref bq34), (.ref bq28), (.ref bq27)])
    refine own_callS X35 hx hZ (y := (⟨"com/example/hadamint/hadamint/GroupsPositionsPinLaw", "at", "([I[I[III)Z"⟩ : MethodName)) 0 hown (hw _ (List.mem_of_getElem? (i := 29) rfl)) (hw _ (List.mem_of_getElem? (i := 30) rfl)) (hw _ (List.mem_of_getElem? (i := 3) rfl)) (hw _ (List.mem_of_getElem? (i := 31) rfl)) (by decide) (argsL := [(.ref bq27), (.ref bq28), (.ref bq34), (.int (2 : Int32)), (.int (1 : Int32))]) (rest := []) (rm6 l Z a0 hw [] bq27 bq28 bq34 (2 : Int32) (1 : Int32) (bl 2 p1 p2 p3) Po34 1 T34.heap n0 (Nat.le_trans Z0 K0.1) Vq27 Vq28 Vq34 (by rw [hbl]; decide) (by decide) hG hpl34 hp34) (by decide) (by decide) (by decide) (by decide) (g := (mkF m 92 #[.val (.int p0), .val (.int p1), .val (.int p2), .val (.int p3), .val (.int (2 : Int32)), .val (.ref bq27), .val (.ref bq28), .val (.ref ob29), .val (.ref bq34)] [(.int (1 : Int32)), (.int (2 : Int32)), (.ref bq34), (.ref bq28), (.ref bq27)])) rfl (by rw [hml]; rfl) (lenOf pd___I_I_III_Z_809 rfl) rfl (by show 2 * 0 + _ ≤ _; exact Nat.le_of_eq rfl) (hb hby at_92) hh35 ?_
    rintro v36 T36 L36 X36 ⟨rfl, N36q, hh36⟩
    have N36 := Fr.app N35 N36q
    show GG _ _ _ _ _ _ _ T36 (mkF m 95 #[.val (.int p0), .val (.int p1), .val (.int p2), .val (.int p3), .val (.int (2 : Int32)), .val (.ref bq27), .val (.ref bq28), .val (.ref ob29), .val (.ref bq34)] [(.int (1 : Int32))])
    have hc95 : ¬ ((1 : Int32) = (0 : Int32)) := by decide
    refine own_go (fun _ => XS.ifNo X36.here hx rfl (hb hby at_95) rfl ((if0 _ _).trans (feq hc95).1)) ?_
    show GG _ _ _ _ _ _ _ T36 (mkF m 98 #[.val (.int p0), .val (.int p1), .val (.int p2), .val (.int p3), .val (.int (2 : Int32)), .val (.ref bq27), .val (.ref bq28), .val (.ref ob29), .val (.ref bq34)] [])
    refine own_go (fun _ => XS.aload X36.here hx rfl (hb hby at_98) rfl rfl) ?_
    show GG _ _ _ _ _ _ _ T36 (mkF m 100 #[.val (.int p0), .val (.int p1), .val (.int p2), .val (.int p3), .val (.int (2 : Int32)), .val (.ref bq27), .val (.ref bq28), .val (.ref ob29), .val (.ref bq34)] [(.ref bq27)])
    refine own_go (fun _ => XS.aload X36.here hx rfl (hb hby at_100) rfl rfl) ?_
    show GG _ _ _ _ _ _ _ T36 (mkF m 102 #[.val (.int p0), .val (.int p1), .val (.int p2), .val (.int p3), .val (.int (2 : Int32)), .val (.ref bq27), .val (.ref bq28), .val (.ref ob29), .val (.ref bq34)] [(.ref bq28), (.ref bq27)])
    refine own_go (fun _ => XS.aload X36.here hx rfl (hb hby at_102) rfl rfl) ?_
    show GG _ _ _ _ _ _ _ T36 (mkF m 104 #[.val (.int p0), .val (.int p1), .val (.int p2), .val (.int p3), .val (.int (2 : Int32)), .val (.ref bq27), .val (.ref bq28), .val (.ref ob29), .val (.ref bq34)] [(.ref bq34), (.ref bq28), (.ref bq27)])
    refine own_go (fun _ => XS.iload X36.here hx rfl (hb hby at_104) rfl) ?_
    show GG _ _ _ _ _ _ _ T36 (mkF m 106 #[.val (.int p0), .val (.int p1), .val (.int p2), .val (.int p3), .val (.int (2 : Int32)), .val (.ref bq27), .val (.ref bq28), .val (.ref ob29), .val (.ref bq34)] [(.int (2 : Int32)), (.ref bq34), (.ref bq28), (.ref bq27)])
    refine own_go (fun _ => XS.iconst X36.here hx rfl (hb hby at_106)) ?_
    show GG _ _ _ _ _ _ _ T36 (mkF m 107 #[.val (.int p0), .val (.int p1), .val (.int p2), .val (.int p3), .val (.int (2 : Int32)), .val (.ref bq27), .val (.ref bq28), .val (.ref ob29), .val (.ref bq34)] [(.int (2 : Int32)), (.int (2 : Int32)), (.ref bq34), (.ref bq28), (.ref bq27)])
    refine own_callS X36 hx hZ (y := (⟨"com/example/hadamint/hadamint/GroupsPositionsPinLaw", "at", "([I[I[III)Z"⟩ : MethodName)) 0 hown (hw _ (List.mem_of_getElem? (i := 29) rfl)) (hw _ (List.mem_of_getElem? (i := 30) rfl)) (hw _ (List.mem_of_getElem? (i := 3) rfl)) (hw _ (List.mem_of_getElem? (i := 31) rfl)) (by decide) (argsL := [(.ref bq27), (.ref bq28), (.ref bq34), (.int (2 : Int32)), (.int (2 : Int32))]) (rest := []) (rm6 l Z a0 hw [] bq27 bq28 bq34 (2 : Int32) (2 : Int32) (bl 2 p1 p2 p3) Po34 2 T34.heap n0 (Nat.le_trans Z0 K0.1) Vq27 Vq28 Vq34 (by rw [hbl]; decide) (by decide) hG hpl34 hp34) (by decide) (by decide) (by decide) (by decide) (g := (mkF m 107 #[.val (.int p0), .val (.int p1), .val (.int p2), .val (.int p3), .val (.int (2 : Int32)), .val (.ref bq27), .val (.ref bq28), .val (.ref ob29), .val (.ref bq34)] [(.int (2 : Int32)), (.int (2 : Int32)), (.ref bq34), (.ref bq28), (.ref bq27)])) rfl (by rw [hml]; rfl) (lenOf pd___I_I_III_Z_809 rfl) rfl (by show 2 * 0 + _ ≤ _; exact Nat.le_of_eq rfl) (hb hby at_107) hh36 ?_
    rintro v37 T37 L37 X37 ⟨rfl, N37q, hh37⟩
    have N37 := Fr.app N36 N37q
    show GG _ _ _ _ _ _ _ T37 (mkF m 110 #[.val (.int p0), .val (.int p1), .val (.int p2), .val (.int p3), .val (.int (2 : Int32)), .val (.ref bq27), .val (.ref bq28), .val (.ref ob29), .val (.ref bq34)] [(.int (1 : Int32))])
    have hc110 : ¬ ((1 : Int32) = (0 : Int32)) := by decide
    refine own_go (fun _ => XS.ifNo X37.here hx rfl (hb hby at_110) rfl ((if0 _ _).trans (feq hc110).1)) ?_
    show GG _ _ _ _ _ _ _ T37 (mkF m 113 #[.val (.int p0), .val (.int p1), .val (.int p2), .val (.int p3), .val (.int (2 : Int32)), .val (.ref bq27), .val (.ref bq28), .val (.ref ob29), .val (.ref bq34)] [])
    refine own_go (fun _ => XS.aload X37.here hx rfl (hb hby at_113) rfl rfl) ?_
    show GG _ _ _ _ _ _ _ T37 (mkF m 115 #[.val (.int p0), .val (.int p1), .val (.int p2), .val (.int p3), .val (.int (2 : Int32)), .val (.ref bq27), .val (.ref bq28), .val (.ref ob29), .val (.ref bq34)] [(.ref bq27)])
    refine own_go (fun _ => XS.aload X37.here hx rfl (hb hby at_115) rfl rfl) ?_
    show GG _ _ _ _ _ _ _ T37 (mkF m 117 #[.val (.int p0), .val (.int p1), .val (.int p2), .val (.int p3), .val (.int (2 : Int32)), .val (.ref bq27), .val (.ref bq28), .val (.ref ob29), .val (.ref bq34)] [(.ref bq28), (.ref bq27)])
    refine own_go (fun _ => XS.aload X37.here hx rfl (hb hby at_117) rfl rfl) ?_
    show GG _ _ _ _ _ _ _ T37 (mkF m 119 #[.val (.int p0), .val (.int p1), .val (.int p2), .val (.int p3), .val (.int (2 : Int32)), .val (.ref bq27), .val (.ref bq28), .val (.ref ob29), .val (.ref bq34)] [(.ref bq34), (.ref bq28), (.ref bq27)])
    refine own_go (fun _ => XS.iload X37.here hx rfl (hb hby at_119) rfl) ?_
    show GG _ _ _ _ _ _ _ T37 (mkF m 121 #[.val (.int p0), .val (.int p1), .val (.int p2), .val (.int p3), .val (.int (2 : Int32)), .val (.ref bq27), .val (.ref bq28), .val (.ref ob29), .val (.ref bq34)] [(.int (2 : Int32)), (.ref bq34), (.ref bq28), (.ref bq27)])
    refine own_go (fun _ => XS.iconst X37.here hx rfl (hb hby at_121)) ?_
    show GG _ _ _ _ _ _ _ T37 (mkF m 122 #[.val (.int p0), .val (.int p1), .val (.int p2), .val (.int p3), .val (.int (2 : Int32)), .val (.ref bq27), .val (.ref bq28), .val (.ref ob29), .val (.ref bq34)] [(.int (3 : Int32)), (.int (2 : Int32)), (.ref bq34), (.ref bq28), (.ref bq27)])
    refine own_callS X37 hx hZ (y := (⟨"com/example/hadamint/hadamint/GroupsPositionsPinLaw", "at", "([I[I[III)Z"⟩ : MethodName)) 0 hown (hw _ (List.mem_of_getElem? (i := 29) rfl)) (hw _ (List.mem_of_getElem? (i := 30) rfl)) (hw _ (List.mem_of_getElem? (i := 3) rfl)) (hw _ (List.mem_of_getElem? (i := 31) rfl)) (by decide) (argsL := [(.ref bq27), (.ref bq28), (.ref bq34), (.int (2 : Int32)), (.int (3 : Int32))]) (rest := []) (rm6 l Z a0 hw [] bq27 bq28 bq34 (2 : Int32) (3 : Int32) (bl 2 p1 p2 p3) Po34 3 T34.heap n0 (Nat.le_trans Z0 K0.1) Vq27 Vq28 Vq34 (by rw [hbl]; decide) (by decide) hG hpl34 hp34) (by decide) (by decide) (by decide) (by decide) (g := (mkF m 122 #[.val (.int p0), .val (.int p1), .val (.int p2), .val (.int p3), .val (.int (2 : Int32)), .val (.ref bq27), .val (.ref bq28), .val (.ref ob29), .val (.ref bq34)] [(.int (3 : Int32)), (.int (2 : Int32)), (.ref bq34), (.ref bq28), (.ref bq27)])) rfl (by rw [hml]; rfl) (lenOf pd___I_I_III_Z_809 rfl) rfl (by show 2 * 0 + _ ≤ _; exact Nat.le_of_eq rfl) (hb hby at_122) hh37 ?_
    rintro v38 T38 L38 X38 ⟨rfl, N38q, hh38⟩
    have N38 := Fr.app N37 N38q
    show GG _ _ _ _ _ _ _ T38 (mkF m 125 #[.val (.int p0), .val (.int p1), .val (.int p2), .val (.int p3), .val (.int (2 : Int32)), .val (.ref bq27), .val (.ref bq28), .val (.ref ob29), .val (.ref bq34)] [(.int (1 : Int32))])
    have hc125 : ¬ ((1 : Int32) = (0 : Int32)) := by decide
    refine own_go (fun _ => XS.ifNo X38.here hx rfl (hb hby at_125) rfl ((if0 _ _).trans (feq hc125).1)) ?_
    show GG _ _ _ _ _ _ _ T38 (mkF m 128 #[.val (.int p0), .val (.int p1), .val (.int p2), .val (.int p3), .val (.int (2 : Int32)), .val (.ref bq27), .val (.ref bq28), .val (.ref ob29), .val (.ref bq34)] [])
    refine own_go (fun _ => XS.iconst X38.here hx rfl (hb hby at_128)) ?_
    show GG _ _ _ _ _ _ _ T38 (mkF m 129 #[.val (.int p0), .val (.int p1), .val (.int p2), .val (.int p3), .val (.int (2 : Int32)), .val (.ref bq27), .val (.ref bq28), .val (.ref ob29), .val (.ref bq34)] [(.int (1 : Int32))])
    refine own_go (fun _ => XS.goto X38.here hx rfl (pc0 := 129) (pc' := 133) rfl (hb hby at_129) (by decide) (by decide)) ?_
    show GG _ _ _ _ _ _ _ T38 (mkF m 133 #[.val (.int p0), .val (.int p1), .val (.int p2), .val (.int p3), .val (.int (2 : Int32)), .val (.ref bq27), .val (.ref bq28), .val (.ref ob29), .val (.ref bq34)] [(.int (1 : Int32))])
    refine own_ret X38 hx hlk (t := .boolean) (w := (.int (1 : Int32))) Bd.returns rfl (Or.inl ⟨rfl, by simp, _, rfl⟩) (hb hby at_133) (by decide) (by decide) ?_
    show Q0 Z p0 p1 p2 p3 h0 n0 (some (.int (1 : Int32))) T38.heap _
    rw [hh38]
    exact ⟨rfl, N38⟩
  · skip
    subst h5
    have hG := own_good 3 p1 p2 p3
    have hbl : (bl 3 p1 p2 p3).length = 3 := by simp only [bl, own_swl]; rfl
    show GG _ _ _ _ _ _ _ s₁ (mkF m 8 #[.val (.int p0), .val (.int p1), .val (.int p2), .val (.int p3), .val (.int (3 : Int32)), .unset, .unset, .unset, .unset] [])
    have K0 := Keep.refl h0 []
    refine own_go (fun _ => XS.iload X0.here hx rfl (hb hby at_8) rfl) ?_
    show GG _ _ _ _ _ _ _ s₁ (mkF m 10 #[.val (.int p0), .val (.int p1), .val (.int p2), .val (.int p3), .val (.int (3 : Int32)), .unset, .unset, .unset, .unset] [(.int (3 : Int32))])
    refine own_go (fun _ => XS.iloadN X0.here hx rfl (hb hby at_10) rfl) ?_
    show GG _ _ _ _ _ _ _ s₁ (mkF m 11 #[.val (.int p0), .val (.int p1), .val (.int p2), .val (.int p3), .val (.int (3 : Int32)), .unset, .unset, .unset, .unset] [(.int p1), (.int (3 : Int32))])
    refine own_go (fun _ => XS.iloadN X0.here hx rfl (hb hby at_11) rfl) ?_
    show GG _ _ _ _ _ _ _ s₁ (mkF m 12 #[.val (.int p0), .val (.int p1), .val (.int p2), .val (.int p3), .val (.int (3 : Int32)), .unset, .unset, .unset, .unset] [(.int p2), (.int p1), (.int (3 : Int32))])
    refine own_go (fun _ => XS.iloadN X0.here hx rfl (hb hby at_12) rfl) ?_
    show GG _ _ _ _ _ _ _ s₁ (mkF m 13 #[.val (.int p0), .val (.int p1), .val (.int p2), .val (.int p3), .val (.int (3 : Int32)), .unset, .unset, .unset, .unset] [(.int p3), (.int p2), (.int p1), (.int (3 : Int32))])
    refine own_callS X0 hx hZ (y := (⟨"com/example/hadamint/hadamint/GroupsPositionsPinLaw", "build", "(IIII)[I"⟩ : MethodName)) 0 hown (hw _ (List.mem_of_getElem? (i := 1) rfl)) (hw _ (List.mem_of_getElem? (i := 2) rfl)) (hw _ (List.mem_of_getElem? (i := 3) rfl)) (hw _ (List.mem_of_getElem? (i := 4) rfl)) (by decide) (argsL := [(.int (3 : Int32)), (.int p1), (.int p2), (.int p3)]) (rest := []) (rm1_3 l Z a0 hw [] p1 p2 p3 h0 n0 Z0) (by decide) (by decide) (by decide) (by decide) (g := (mkF m 13 #[.val (.int p0), .val (.int p1), .val (.int p2), .val (.int p3), .val (.int (3 : Int32)), .unset, .unset, .unset, .unset] [(.int p3), (.int p2), (.int p1), (.int (3 : Int32))])) rfl (by rw [hml]; rfl) (lenOf pd__IIII__I_537 rfl) rfl (by show 2 * 0 + _ ≤ _; exact Nat.le_of_eq rfl) (hb hby at_13) e0 ?_
    rintro v39 T39 L39 X39 ⟨bq39, rfl, N39q, szq39, Kq39, Vq39⟩
    have N39 := Fr.app N0 N39q
    have K0 := K0.trans Kq39 all0
    have sz_bq39 : h0.size ≤ bq39 := Nat.le_trans (Nat.le_refl _) szq39
    have g_bq39 : n0 ≤ bq39 := Nat.le_trans Z0 sz_bq39
    have Kp := K0
    show GG _ _ _ _ _ _ _ T39 (mkF m 16 #[.val (.int p0), .val (.int p1), .val (.int p2), .val (.int p3), .val (.int (3 : Int32)), .unset, .unset, .unset, .unset] [(.ref bq39)])
    refine own_go (fun _ => XS.astore X39.here hx rfl (hb hby at_16) rfl rfl (l' := #[.val (.int p0), .val (.int p1), .val (.int p2), .val (.int p3), .val (.int (3 : Int32)), .val (.ref bq39), .unset, .unset, .unset]) rfl) ?_
    show GG _ _ _ _ _ _ _ T39 (mkF m 18 #[.val (.int p0), .val (.int p1), .val (.int p2), .val (.int p3), .val (.int (3 : Int32)), .val (.ref bq39), .unset, .unset, .unset] [])
    refine own_go (fun _ => XS.iload X39.here hx rfl (hb hby at_18) rfl) ?_
    show GG _ _ _ _ _ _ _ T39 (mkF m 20 #[.val (.int p0), .val (.int p1), .val (.int p2), .val (.int p3), .val (.int (3 : Int32)), .val (.ref bq39), .unset, .unset, .unset] [(.int (3 : Int32))])
    refine own_go (fun _ => XS.iloadN X39.here hx rfl (hb hby at_20) rfl) ?_
    show GG _ _ _ _ _ _ _ T39 (mkF m 21 #[.val (.int p0), .val (.int p1), .val (.int p2), .val (.int p3), .val (.int (3 : Int32)), .val (.ref bq39), .unset, .unset, .unset] [(.int p1), (.int (3 : Int32))])
    refine own_go (fun _ => XS.iloadN X39.here hx rfl (hb hby at_21) rfl) ?_
    show GG _ _ _ _ _ _ _ T39 (mkF m 22 #[.val (.int p0), .val (.int p1), .val (.int p2), .val (.int p3), .val (.int (3 : Int32)), .val (.ref bq39), .unset, .unset, .unset] [(.int p2), (.int p1), (.int (3 : Int32))])
    refine own_go (fun _ => XS.iloadN X39.here hx rfl (hb hby at_22) rfl) ?_
    show GG _ _ _ _ _ _ _ T39 (mkF m 23 #[.val (.int p0), .val (.int p1), .val (.int p2), .val (.int p3), .val (.int (3 : Int32)), .val (.ref bq39), .unset, .unset, .unset] [(.int p3), (.int p2), (.int p1), (.int (3 : Int32))])
    refine own_callS X39 hx hZ (y := (⟨"com/example/hadamint/hadamint/GroupsPositionsPinLaw", "build", "(IIII)[I"⟩ : MethodName)) 0 hown (hw _ (List.mem_of_getElem? (i := 1) rfl)) (hw _ (List.mem_of_getElem? (i := 2) rfl)) (hw _ (List.mem_of_getElem? (i := 3) rfl)) (hw _ (List.mem_of_getElem? (i := 4) rfl)) (by decide) (argsL := [(.int (3 : Int32)), (.int p1), (.int p2), (.int p3)]) (rest := []) (rm1_3 l Z a0 hw [] p1 p2 p3 T39.heap n0 (Nat.le_trans Z0 K0.1)) (by decide) (by decide) (by decide) (by decide) (g := (mkF m 23 #[.val (.int p0), .val (.int p1), .val (.int p2), .val (.int p3), .val (.int (3 : Int32)), .val (.ref bq39), .unset, .unset, .unset] [(.int p3), (.int p2), (.int p1), (.int (3 : Int32))])) rfl (by rw [hml]; rfl) (lenOf pd__IIII__I_537 rfl) rfl (by show 2 * 0 + _ ≤ _; exact Nat.le_of_eq rfl) (hb hby at_23) rfl ?_
    rintro v40 T40 L40 X40 ⟨bq40, rfl, N40q, szq40, Kq40, Vq40⟩
    have N40 := Fr.app N39 N40q
    have K0 := K0.trans Kq40 all0
    have Vq39 := Vq39.keep Kq40 nin0
    have sz_bq40 : h0.size ≤ bq40 := Nat.le_trans Kp.1 szq40
    have g_bq40 : n0 ≤ bq40 := Nat.le_trans Z0 sz_bq40
    have Kp := K0
    show GG _ _ _ _ _ _ _ T40 (mkF m 26 #[.val (.int p0), .val (.int p1), .val (.int p2), .val (.int p3), .val (.int (3 : Int32)), .val (.ref bq39), .unset, .unset, .unset] [(.ref bq40)])
    refine own_go (fun _ => XS.astore X40.here hx rfl (hb hby at_26) rfl rfl (l' := #[.val (.int p0), .val (.int p1), .val (.int p2), .val (.int p3), .val (.int (3 : Int32)), .val (.ref bq39), .val (.ref bq40), .unset, .unset]) rfl) ?_
    show GG _ _ _ _ _ _ _ T40 (mkF m 28 #[.val (.int p0), .val (.int p1), .val (.int p2), .val (.int p3), .val (.int (3 : Int32)), .val (.ref bq39), .val (.ref bq40), .unset, .unset] [])
    obtain ⟨T41, h41, X41, e41, E41, A41, D41, -, st41⟩ := newO X40 hx hZ hown (hw _ (List.mem_of_getElem? (i := 6) rfl)) (hw _ (List.mem_of_getElem? (i := 7) rfl)) (hw _ (List.mem_of_getElem? (i := 8) rfl)) rfl (g := (mkF m 28 #[.val (.int p0), .val (.int p1), .val (.int p2), .val (.int p3), .val (.int (3 : Int32)), .val (.ref bq39), .val (.ref bq40), .unset, .unset] [])) rfl (hb hby at_28) (by decide) (by decide)
    obtain ⟨ob41, g41⟩ : ∃ z, z = T40.heap.size := ⟨_, rfl⟩
    rw [← g41] at A41 D41 st41
    have ne_bq39_ob41 : bq39 ≠ ob41 := Nat.ne_of_lt (Nat.lt_of_lt_of_le Vq39.lt (Nat.le_of_eq g41.symm))
    have ne_bq40_ob41 : bq40 ≠ ob41 := Nat.ne_of_lt (Nat.lt_of_lt_of_le Vq40.lt (Nat.le_of_eq g41.symm))
    have sz_ob41 : h0.size ≤ ob41 := Nat.le_trans K0.1 (Nat.le_of_eq g41.symm)
    have g_ob41 : n0 ≤ ob41 := Nat.le_trans Z0 sz_ob41
    have K0 := K0.ext E41
    have Vq39 := Vq39.ext E41
    have Vq40 := Vq40.ext E41
    have E_ob41 := A41
    have F_starts_ob41 : Fld Z h41 ob41 "com/example/hadamint/hadamint/Groups" "starts" "[I" .null := D41 (Or.inr (hw _ (List.mem_of_getElem? (i := 21) rfl))) (ty := (.array .int)) (by decide)
    have F_members_ob41 : Fld Z h41 ob41 "com/example/hadamint/hadamint/Groups" "members" "[I" .null := D41 (Or.inr (hw _ (List.mem_of_getElem? (i := 23) rfl))) (ty := (.array .int)) (by decide)
    refine own_go (fun _ => st41 _) ?_
    show GG _ _ _ _ _ _ _ T41 (mkF m 31 #[.val (.int p0), .val (.int p1), .val (.int p2), .val (.int p3), .val (.int (3 : Int32)), .val (.ref bq39), .val (.ref bq40), .unset, .unset] [(.ref ob41)])
    refine own_go (fun _ => XS.dup X41.here hx rfl (hb hby at_31) rfl rfl) ?_
    show GG _ _ _ _ _ _ _ T41 (mkF m 32 #[.val (.int p0), .val (.int p1), .val (.int p2), .val (.int p3), .val (.int (3 : Int32)), .val (.ref bq39), .val (.ref bq40), .unset, .unset] [(.ref ob41), (.ref ob41)])
    refine own_go (fun _ => XS.iconst X41.here hx rfl (hb hby at_32)) ?_
    show GG _ _ _ _ _ _ _ T41 (mkF m 33 #[.val (.int p0), .val (.int p1), .val (.int p2), .val (.int p3), .val (.int (3 : Int32)), .val (.ref bq39), .val (.ref bq40), .unset, .unset] [(.int (2 : Int32)), (.ref ob41), (.ref ob41)])
    obtain ⟨T42, h42, ob42, g42, X42, e42, E42, V_ob42, E_ob42, st42⟩ := own_newarr X41 hx hZ (hw _ (List.mem_of_getElem? (i := 5) rfl)) e41 (g := (mkF m 33 #[.val (.int p0), .val (.int p1), .val (.int p2), .val (.int p3), .val (.int (3 : Int32)), .val (.ref bq39), .val (.ref bq40), .unset, .unset] [(.int (2 : Int32)), (.ref ob41), (.ref ob41)])) rfl (hb hby at_33) rfl (by decide) (cap := 2) (by decide) (by decide) (by decide) (by decide) (ad := "[I") (by decide)
    have ne_bq39_ob42 : bq39 ≠ ob42 := Nat.ne_of_lt (Nat.lt_of_lt_of_le Vq39.lt (Nat.le_of_eq g42.symm))
    have ne_bq40_ob42 : bq40 ≠ ob42 := Nat.ne_of_lt (Nat.lt_of_lt_of_le Vq40.lt (Nat.le_of_eq g42.symm))
    have ne_ob41_ob42 : ob41 ≠ ob42 := Nat.ne_of_lt (Nat.lt_of_lt_of_le E_ob41.lt (Nat.le_of_eq g42.symm))
    have sz_ob42 : h0.size ≤ ob42 := Nat.le_trans K0.1 (Nat.le_of_eq g42.symm)
    have g_ob42 : n0 ≤ ob42 := Nat.le_trans Z0 sz_ob42
    have K0 := K0.ext E42
    have Vq39 := Vq39.ext E42
    have Vq40 := Vq40.ext E42
    have E_ob41 := E_ob41.ext E42
    have F_starts_ob41 := F_starts_ob41.ext E42
    have F_members_ob41 := F_members_ob41.ext E42
    have V_ob42 : Arx Z h42 ob42 .int [(.int (0 : Int32)), (.int (0 : Int32))] := V_ob42
    refine own_go (fun _ => st42 _) ?_
    show GG _ _ _ _ _ _ _ T42 (mkF m 35 #[.val (.int p0), .val (.int p1), .val (.int p2), .val (.int p3), .val (.int (3 : Int32)), .val (.ref bq39), .val (.ref bq40), .unset, .unset] [(.ref ob42), (.ref ob41), (.ref ob41)])
    refine own_go (fun _ => XS.dup X42.here hx rfl (hb hby at_35) rfl rfl) ?_
    show GG _ _ _ _ _ _ _ T42 (mkF m 36 #[.val (.int p0), .val (.int p1), .val (.int p2), .val (.int p3), .val (.int (3 : Int32)), .val (.ref bq39), .val (.ref bq40), .unset, .unset] [(.ref ob42), (.ref ob42), (.ref ob41), (.ref ob41)])
    refine own_go (fun _ => XS.iconst X42.here hx rfl (hb hby at_36)) ?_
    show GG _ _ _ _ _ _ _ T42 (mkF m 37 #[.val (.int p0), .val (.int p1), .val (.int p2), .val (.int p3), .val (.int (3 : Int32)), .val (.ref bq39), .val (.ref bq40), .unset, .unset] [(.int (0 : Int32)), (.ref ob42), (.ref ob42), (.ref ob41), (.ref ob41)])
    refine own_go (fun _ => XS.iconst X42.here hx rfl (hb hby at_37)) ?_
    show GG _ _ _ _ _ _ _ T42 (mkF m 38 #[.val (.int p0), .val (.int p1), .val (.int p2), .val (.int p3), .val (.int (3 : Int32)), .val (.ref bq39), .val (.ref bq40), .unset, .unset] [(.int (0 : Int32)), (.int (0 : Int32)), (.ref ob42), (.ref ob42), (.ref ob41), (.ref ob41)])
    obtain ⟨T43, h43, X43, e43, W43, V43, st43⟩ := own_iastore X42 hx hZ e42 V_ob42 (by decide) (Nat.le_of_ble_eq_true rfl) (g := (mkF m 38 #[.val (.int p0), .val (.int p1), .val (.int p2), .val (.int p3), .val (.int (3 : Int32)), .val (.ref bq39), .val (.ref bq40), .unset, .unset] [(.int (0 : Int32)), (.int (0 : Int32)), (.ref ob42), (.ref ob42), (.ref ob41), (.ref ob41)])) rfl rfl (hb hby at_38)
    have K0 := K0.wr W43 (Or.inr sz_ob42)
    have Vq39 := Vq39.other W43 ne_bq39_ob42
    have Vq40 := Vq40.other W43 ne_bq40_ob42
    have E_ob41 := E_ob41.wr W43
    have F_starts_ob41 := F_starts_ob41.other W43 (Or.inl ne_ob41_ob42)
    have F_members_ob41 := F_members_ob41.other W43 (Or.inl ne_ob41_ob42)
    have E_ob42 := E_ob42.wr W43
    have V_ob42 : Arx Z h43 ob42 .int [(.int (0 : Int32)), (.int (0 : Int32))] := V43
    have N43 := Fr.snoc X43 N40 g_ob42
    refine own_go (fun _ => st43 _) ?_
    show GG _ _ _ _ _ _ _ T43 (mkF m 39 #[.val (.int p0), .val (.int p1), .val (.int p2), .val (.int p3), .val (.int (3 : Int32)), .val (.ref bq39), .val (.ref bq40), .unset, .unset] [(.ref ob42), (.ref ob41), (.ref ob41)])
    refine own_go (fun _ => XS.dup X43.here hx rfl (hb hby at_39) rfl rfl) ?_
    show GG _ _ _ _ _ _ _ T43 (mkF m 40 #[.val (.int p0), .val (.int p1), .val (.int p2), .val (.int p3), .val (.int (3 : Int32)), .val (.ref bq39), .val (.ref bq40), .unset, .unset] [(.ref ob42), (.ref ob42), (.ref ob41), (.ref ob41)])
    refine own_go (fun _ => XS.iconst X43.here hx rfl (hb hby at_40)) ?_
    show GG _ _ _ _ _ _ _ T43 (mkF m 41 #[.val (.int p0), .val (.int p1), .val (.int p2), .val (.int p3), .val (.int (3 : Int32)), .val (.ref bq39), .val (.ref bq40), .unset, .unset] [(.int (1 : Int32)), (.ref ob42), (.ref ob42), (.ref ob41), (.ref ob41)])
    refine own_go (fun _ => XS.iload X43.here hx rfl (hb hby at_41) rfl) ?_
    show GG _ _ _ _ _ _ _ T43 (mkF m 43 #[.val (.int p0), .val (.int p1), .val (.int p2), .val (.int p3), .val (.int (3 : Int32)), .val (.ref bq39), .val (.ref bq40), .unset, .unset] [(.int (3 : Int32)), (.int (1 : Int32)), (.ref ob42), (.ref ob42), (.ref ob41), (.ref ob41)])
    obtain ⟨T44, h44, X44, e44, W44, V44, st44⟩ := own_iastore X43 hx hZ e43 V_ob42 (by decide) (Nat.le_of_ble_eq_true rfl) (g := (mkF m 43 #[.val (.int p0), .val (.int p1), .val (.int p2), .val (.int p3), .val (.int (3 : Int32)), .val (.ref bq39), .val (.ref bq40), .unset, .unset] [(.int (3 : Int32)), (.int (1 : Int32)), (.ref ob42), (.ref ob42), (.ref ob41), (.ref ob41)])) rfl rfl (hb hby at_43)
    have K0 := K0.wr W44 (Or.inr sz_ob42)
    have Vq39 := Vq39.other W44 ne_bq39_ob42
    have Vq40 := Vq40.other W44 ne_bq40_ob42
    have E_ob41 := E_ob41.wr W44
    have F_starts_ob41 := F_starts_ob41.other W44 (Or.inl ne_ob41_ob42)
    have F_members_ob41 := F_members_ob41.other W44 (Or.inl ne_ob41_ob42)
    have E_ob42 := E_ob42.wr W44
    have V_ob42 : Arx Z h44 ob42 .int [(.int (0 : Int32)), (.int (3 : Int32))] := V44
    have N44 := Fr.snoc X44 N43 g_ob42
    refine own_go (fun _ => st44 _) ?_
    show GG _ _ _ _ _ _ _ T44 (mkF m 44 #[.val (.int p0), .val (.int p1), .val (.int p2), .val (.int p3), .val (.int (3 : Int32)), .val (.ref bq39), .val (.ref bq40), .unset, .unset] [(.ref ob42), (.ref ob41), (.ref ob41)])
    refine own_go (fun _ => XS.aload X44.here hx rfl (hb hby at_44) rfl rfl) ?_
    show GG _ _ _ _ _ _ _ T44 (mkF m 46 #[.val (.int p0), .val (.int p1), .val (.int p2), .val (.int p3), .val (.int (3 : Int32)), .val (.ref bq39), .val (.ref bq40), .unset, .unset] [(.ref bq39), (.ref ob42), (.ref ob41), (.ref ob41)])
    refine own_callI X44 hx hZ (y := (⟨"com/example/hadamint/hadamint/Groups", "<init>", "([I[I)V"⟩ : MethodName)) 1 rfl hown (hw _ (List.mem_of_getElem? (i := 9) rfl)) (hw _ (List.mem_of_getElem? (i := 10) rfl)) (hw _ (List.mem_of_getElem? (i := 8) rfl)) (hw _ (List.mem_of_getElem? (i := 11) rfl)) (by decide) (a := ob41) (argsL := [(.ref ob42), (.ref bq39)]) (rest := [(.ref ob41)]) (rm2 l Z a0 hw [] ob41 ob42 bq39 h44 n0 (Nat.le_trans Z0 K0.1) E_ob41 F_starts_ob41 F_members_ob41 g_ob41) (by decide) (by decide) (by decide) (by decide) (g := (mkF m 46 #[.val (.int p0), .val (.int p1), .val (.int p2), .val (.int p3), .val (.int (3 : Int32)), .val (.ref bq39), .val (.ref bq40), .unset, .unset] [(.ref bq39), (.ref ob42), (.ref ob41), (.ref ob41)])) rfl (by rw [hml]; rfl) (lenOf pd___I_I_V_495 rfl) rfl (by show 2 * 0 + _ ≤ _; exact Nat.le_of_eq rfl) (hb hby at_46) e44 ?_
    rintro v45 T45 L45 X45 ⟨rfl, N45q, Kq45, Eq45, Fq45⟩
    have N45 := Fr.app N44 N45q
    have K0 := K0.trans Kq45 (allS (Or.inr sz_ob41) all0)
    have Vq39 := Vq39.keep Kq45 (ninS ne_bq39_ob41 nin0)
    have Vq40 := Vq40.keep Kq45 (ninS ne_bq40_ob41 nin0)
    have V_ob42 := V_ob42.keep Kq45 (ninS (Ne.symm ne_ob41_ob42) nin0)
    have E_ob42 := E_ob42.keep Kq45
    show GG _ _ _ _ _ _ _ T45 (mkF m 49 #[.val (.int p0), .val (.int p1), .val (.int p2), .val (.int p3), .val (.int (3 : Int32)), .val (.ref bq39), .val (.ref bq40), .unset, .unset] [(.ref ob41)])
    refine own_go (fun _ => XS.astore X45.here hx rfl (hb hby at_49) rfl rfl (l' := #[.val (.int p0), .val (.int p1), .val (.int p2), .val (.int p3), .val (.int (3 : Int32)), .val (.ref bq39), .val (.ref bq40), .val (.ref ob41), .unset]) rfl) ?_
    show GG _ _ _ _ _ _ _ T45 (mkF m 51 #[.val (.int p0), .val (.int p1), .val (.int p2), .val (.int p3), .val (.int (3 : Int32)), .val (.ref bq39), .val (.ref bq40), .val (.ref ob41), .unset] [])
    refine own_go (fun _ => XS.aload X45.here hx rfl (hb hby at_51) rfl rfl) ?_
    show GG _ _ _ _ _ _ _ T45 (mkF m 53 #[.val (.int p0), .val (.int p1), .val (.int p2), .val (.int p3), .val (.int (3 : Int32)), .val (.ref bq39), .val (.ref bq40), .val (.ref ob41), .unset] [(.ref ob41)])
    refine own_callV X45 hx hZ (y := (⟨"com/example/hadamint/hadamint/Groups", "positions", "()[I"⟩ : MethodName)) (z := (⟨"com/example/hadamint/hadamint/Groups", "positions", "()[I"⟩ : MethodName)) 0 hown (hw _ (List.mem_of_getElem? (i := 24) rfl)) (hw _ (List.mem_of_getElem? (i := 25) rfl)) (notFace_of_selects (args := #[]) (mvT hZ (hw _ (List.mem_of_getElem? (i := 27) rfl)))) (hw _ (List.mem_of_getElem? (i := 27) rfl)) (hw _ (List.mem_of_getElem? (i := 26) rfl)) (hw _ (List.mem_of_getElem? (i := 8) rfl)) (hw _ (List.mem_of_getElem? (i := 28) rfl)) (by decide) (a := ob41) (argsL := []) (rest := []) (rm5 l Z a0 hw [] ob41 bq39 (bl 3 p1 p2 p3) T45.heap n0 (Nat.le_trans Z0 K0.1) Fq45 Vq39 hG (by rw [hbl]; decide)) (by decide) (by decide) (by decide) (by decide) Eq45 (g := (mkF m 53 #[.val (.int p0), .val (.int p1), .val (.int p2), .val (.int p3), .val (.int (3 : Int32)), .val (.ref bq39), .val (.ref bq40), .val (.ref ob41), .unset] [(.ref ob41)])) rfl (by rw [hml]; rfl) (lenOf pd____I_245 rfl) rfl (by show 2 * 0 + _ ≤ _; exact Nat.le_of_eq rfl) (hb hby at_53) rfl ?_
    rintro v46 T46 L46 X46 ⟨bq46, rfl, N46q, szq46, Kq46, Po46, Vq46, hpl46, hp46⟩
    have N46 := Fr.app N45 N46q
    have K0 := K0.trans Kq46 all0
    have Vq39 := Vq39.keep Kq46 nin0
    have Vq40 := Vq40.keep Kq46 nin0
    have V_ob42 := V_ob42.keep Kq46 nin0
    have E_ob42 := E_ob42.keep Kq46
    have Eq45 := Eq45.keep Kq46
    have Fq45 := Fq45.keep Kq46 nin0
    show GG _ _ _ _ _ _ _ T46 (mkF m 56 #[.val (.int p0), .val (.int p1), .val (.int p2), .val (.int p3), .val (.int (3 : Int32)), .val (.ref bq39), .val (.ref bq40), .val (.ref ob41), .unset] [(.ref bq46)])
    refine own_go (fun _ => XS.astore X46.here hx rfl (hb hby at_56) rfl rfl (l' := #[.val (.int p0), .val (.int p1), .val (.int p2), .val (.int p3), .val (.int (3 : Int32)), .val (.ref bq39), .val (.ref bq40), .val (.ref ob41), .val (.ref bq46)]) rfl) ?_
    show GG _ _ _ _ _ _ _ T46 (mkF m 58 #[.val (.int p0), .val (.int p1), .val (.int p2), .val (.int p3), .val (.int (3 : Int32)), .val (.ref bq39), .val (.ref bq40), .val (.ref ob41), .val (.ref bq46)] [])
    refine own_go (fun _ => XS.aload X46.here hx rfl (hb hby at_58) rfl rfl) ?_
    show GG _ _ _ _ _ _ _ T46 (mkF m 60 #[.val (.int p0), .val (.int p1), .val (.int p2), .val (.int p3), .val (.int (3 : Int32)), .val (.ref bq39), .val (.ref bq40), .val (.ref ob41), .val (.ref bq46)] [(.ref bq46)])
    refine own_go (fun _ => own_len X46 hx hZ rfl Vq46 (g := (mkF m 60 #[.val (.int p0), .val (.int p1), .val (.int p2), .val (.int p3), .val (.int (3 : Int32)), .val (.ref bq39), .val (.ref bq40), .val (.ref ob41), .val (.ref bq46)] [(.ref bq46)])) rfl rfl (hb hby at_60) _) ?_
    show GG _ _ _ _ _ _ _ T46 (mkF m 61 #[.val (.int p0), .val (.int p1), .val (.int p2), .val (.int p3), .val (.int (3 : Int32)), .val (.ref bq39), .val (.ref bq40), .val (.ref ob41), .val (.ref bq46)] [(.int (Int32.ofNat (Po46.map Value.int).length))])
    refine own_go (fun _ => XS.iload X46.here hx rfl (hb hby at_61) rfl) ?_
    show GG _ _ _ _ _ _ _ T46 (mkF m 63 #[.val (.int p0), .val (.int p1), .val (.int p2), .val (.int p3), .val (.int (3 : Int32)), .val (.ref bq39), .val (.ref bq40), .val (.ref ob41), .val (.ref bq46)] [(.int (3 : Int32)), (.int (Int32.ofNat (Po46.map Value.int).length))])
    have hc63 : (Int32.ofNat (Po46.map Value.int).length) = (3 : Int32) := by rw [List.length_map, hpl46, hbl]; rfl
    refine own_go (fun _ => XS.icmpYes X46.here hx rfl (pc0 := 63) (pc' := 68) rfl (hb hby at_63) rfl (teq hc63).1 (by decide) (by decide)) ?_
    show GG _ _ _ _ _ _ _ T46 (mkF m 68 #[.val (.int p0), .val (.int p1), .val (.int p2), .val (.int p3), .val (.int (3 : Int32)), .val (.ref bq39), .val (.ref bq40), .val (.ref ob41), .val (.ref bq46)] [])
    refine own_go (fun _ => XS.aload X46.here hx rfl (hb hby at_68) rfl rfl) ?_
    show GG _ _ _ _ _ _ _ T46 (mkF m 70 #[.val (.int p0), .val (.int p1), .val (.int p2), .val (.int p3), .val (.int (3 : Int32)), .val (.ref bq39), .val (.ref bq40), .val (.ref ob41), .val (.ref bq46)] [(.ref bq39)])
    refine own_go (fun _ => XS.aload X46.here hx rfl (hb hby at_70) rfl rfl) ?_
    show GG _ _ _ _ _ _ _ T46 (mkF m 72 #[.val (.int p0), .val (.int p1), .val (.int p2), .val (.int p3), .val (.int (3 : Int32)), .val (.ref bq39), .val (.ref bq40), .val (.ref ob41), .val (.ref bq46)] [(.ref bq40), (.ref bq39)])
    refine own_go (fun _ => XS.aload X46.here hx rfl (hb hby at_72) rfl rfl) ?_
    show GG _ _ _ _ _ _ _ T46 (mkF m 74 #[.val (.int p0), .val (.int p1), .val (.int p2), .val (.int p3), .val (.int (3 : Int32)), .val (.ref bq39), .val (.ref bq40), .val (.ref ob41), .val (.ref bq46)] [(.ref bq46), (.ref bq40), (.ref bq39)])
    refine own_go (fun _ => XS.iload X46.here hx rfl (hb hby at_74) rfl) ?_
    show GG _ _ _ _ _ _ _ T46 (mkF m 76 #[.val (.int p0), .val (.int p1), .val (.int p2), .val (.int p3), .val (.int (3 : Int32)), .val (.ref bq39), .val (.ref bq40), .val (.ref ob41), .val (.ref bq46)] [(.int (3 : Int32)), (.ref bq46), (.ref bq40), (.ref bq39)])
    refine own_go (fun _ => XS.iconst X46.here hx rfl (hb hby at_76)) ?_
    show GG _ _ _ _ _ _ _ T46 (mkF m 77 #[.val (.int p0), .val (.int p1), .val (.int p2), .val (.int p3), .val (.int (3 : Int32)), .val (.ref bq39), .val (.ref bq40), .val (.ref ob41), .val (.ref bq46)] [(.int (0 : Int32)), (.int (3 : Int32)), (.ref bq46), (.ref bq40), (.ref bq39)])
    refine own_callS X46 hx hZ (y := (⟨"com/example/hadamint/hadamint/GroupsPositionsPinLaw", "at", "([I[I[III)Z"⟩ : MethodName)) 0 hown (hw _ (List.mem_of_getElem? (i := 29) rfl)) (hw _ (List.mem_of_getElem? (i := 30) rfl)) (hw _ (List.mem_of_getElem? (i := 3) rfl)) (hw _ (List.mem_of_getElem? (i := 31) rfl)) (by decide) (argsL := [(.ref bq39), (.ref bq40), (.ref bq46), (.int (3 : Int32)), (.int (0 : Int32))]) (rest := []) (rm6 l Z a0 hw [] bq39 bq40 bq46 (3 : Int32) (0 : Int32) (bl 3 p1 p2 p3) Po46 0 T46.heap n0 (Nat.le_trans Z0 K0.1) Vq39 Vq40 Vq46 (by rw [hbl]; decide) (by decide) hG hpl46 hp46) (by decide) (by decide) (by decide) (by decide) (g := (mkF m 77 #[.val (.int p0), .val (.int p1), .val (.int p2), .val (.int p3), .val (.int (3 : Int32)), .val (.ref bq39), .val (.ref bq40), .val (.ref ob41), .val (.ref bq46)] [(.int (0 : Int32)), (.int (3 : Int32)), (.ref bq46), (.ref bq40), (.ref bq39)])) rfl (by rw [hml]; rfl) (lenOf pd___I_I_III_Z_809 rfl) rfl (by show 2 * 0 + _ ≤ _; exact Nat.le_of_eq rfl) (hb hby at_77) rfl ?_
    rintro v47 T47 L47 X47 ⟨rfl, N47q, hh47⟩
    have N47 := Fr.app N46 N47q
    show GG _ _ _ _ _ _ _ T47 (mkF m 80 #[.val (.int p0), .val (.int p1), .val (.int p2), .val (.int p3), .val (.int (3 : Int32)), .val (.ref bq39), .val (.ref bq40), .val (.ref ob41), .val (.ref bq46)] [(.int (1 : Int32))])
    have hc80 : ¬ ((1 : Int32) = (0 : Int32)) := by decide
    refine own_go (fun _ => XS.ifNo X47.here hx rfl (hb hby at_80) rfl ((if0 _ _).trans (feq hc80).1)) ?_
    show GG _ _ _ _ _ _ _ T47 (mkF m 83 #[.val (.int p0), .val (.int p1), .val (.int p2), .val (.int p3), .val (.int (3 : Int32)), .val (.ref bq39), .val (.ref bq40), .val (.ref ob41), .val (.ref bq46)] [])
    refine own_go (fun _ => XS.aload X47.here hx rfl (hb hby at_83) rfl rfl) ?_
    show GG _ _ _ _ _ _ _ T47 (mkF m 85 #[.val (.int p0), .val (.int p1), .val (.int p2), .val (.int p3), .val (.int (3 : Int32)), .val (.ref bq39), .val (.ref bq40), .val (.ref ob41), .val (.ref bq46)] [(.ref bq39)])
    refine own_go (fun _ => XS.aload X47.here hx rfl (hb hby at_85) rfl rfl) ?_
    show GG _ _ _ _ _ _ _ T47 (mkF m 87 #[.val (.int p0), .val (.int p1), .val (.int p2), .val (.int p3), .val (.int (3 : Int32)), .val (.ref bq39), .val (.ref bq40), .val (.ref ob41), .val (.ref bq46)] [(.ref bq40), (.ref bq39)])
    refine own_go (fun _ => XS.aload X47.here hx rfl (hb hby at_87) rfl rfl) ?_
    show GG _ _ _ _ _ _ _ T47 (mkF m 89 #[.val (.int p0), .val (.int p1), .val (.int p2), .val (.int p3), .val (.int (3 : Int32)), .val (.ref bq39), .val (.ref bq40), .val (.ref ob41), .val (.ref bq46)] [(.ref bq46), (.ref bq40), (.ref bq39)])
    refine own_go (fun _ => XS.iload X47.here hx rfl (hb hby at_89) rfl) ?_
    show GG _ _ _ _ _ _ _ T47 (mkF m 91 #[.val (.int p0), .val (.int p1), .val (.int p2), .val (.int p3), .val (.int (3 : Int32)), .val (.ref bq39), .val (.ref bq40), .val (.ref ob41), .val (.ref bq46)] [(.int (3 : Int32)), (.ref bq46), (.ref bq40), (.ref bq39)])
    refine own_go (fun _ => XS.iconst X47.here hx rfl (hb hby at_91)) ?_
    show GG _ _ _ _ _ _ _ T47 (mkF m 92 #[.val (.int p0), .val (.int p1), .val (.int p2), .val (.int p3), .val (.int (3 : Int32)), .val (.ref bq39), .val (.ref bq40), .val (.ref ob41), .val (.ref bq46)] [(.int (1 : Int32)), (.int (3 : Int32)), (.ref bq46), (.ref bq40), (.ref bq39)])
    refine own_callS X47 hx hZ (y := (⟨"com/example/hadamint/hadamint/GroupsPositionsPinLaw", "at", "([I[I[III)Z"⟩ : MethodName)) 0 hown (hw _ (List.mem_of_getElem? (i := 29) rfl)) (hw _ (List.mem_of_getElem? (i := 30) rfl)) (hw _ (List.mem_of_getElem? (i := 3) rfl)) (hw _ (List.mem_of_getElem? (i := 31) rfl)) (by decide) (argsL := [(.ref bq39), (.ref bq40), (.ref bq46), (.int (3 : Int32)), (.int (1 : Int32))]) (rest := []) (rm6 l Z a0 hw [] bq39 bq40 bq46 (3 : Int32) (1 : Int32) (bl 3 p1 p2 p3) Po46 1 T46.heap n0 (Nat.le_trans Z0 K0.1) Vq39 Vq40 Vq46 (by rw [hbl]; decide) (by decide) hG hpl46 hp46) (by decide) (by decide) (by decide) (by decide) (g := (mkF m 92 #[.val (.int p0), .val (.int p1), .val (.int p2), .val (.int p3), .val (.int (3 : Int32)), .val (.ref bq39), .val (.ref bq40), .val (.ref ob41), .val (.ref bq46)] [(.int (1 : Int32)), (.int (3 : Int32)), (.ref bq46), (.ref bq40), (.ref bq39)])) rfl (by rw [hml]; rfl) (lenOf pd___I_I_III_Z_809 rfl) rfl (by show 2 * 0 + _ ≤ _; exact Nat.le_of_eq rfl) (hb hby at_92) hh47 ?_
    rintro v48 T48 L48 X48 ⟨rfl, N48q, hh48⟩
    have N48 := Fr.app N47 N48q
    show GG _ _ _ _ _ _ _ T48 (mkF m 95 #[.val (.int p0), .val (.int p1), .val (.int p2), .val (.int p3), .val (.int (3 : Int32)), .val (.ref bq39), .val (.ref bq40), .val (.ref ob41), .val (.ref bq46)] [(.int (1 : Int32))])
    have hc95 : ¬ ((1 : Int32) = (0 : Int32)) := by decide
    refine own_go (fun _ => XS.ifNo X48.here hx rfl (hb hby at_95) rfl ((if0 _ _).trans (feq hc95).1)) ?_
    show GG _ _ _ _ _ _ _ T48 (mkF m 98 #[.val (.int p0), .val (.int p1), .val (.int p2), .val (.int p3), .val (.int (3 : Int32)), .val (.ref bq39), .val (.ref bq40), .val (.ref ob41), .val (.ref bq46)] [])
    refine own_go (fun _ => XS.aload X48.here hx rfl (hb hby at_98) rfl rfl) ?_
    show GG _ _ _ _ _ _ _ T48 (mkF m 100 #[.val (.int p0), .val (.int p1), .val (.int p2), .val (.int p3), .val (.int (3 : Int32)), .val (.ref bq39), .val (.ref bq40), .val (.ref ob41), .val (.ref bq46)] [(.ref bq39)])
    refine own_go (fun _ => XS.aload X48.here hx rfl (hb hby at_100) rfl rfl) ?_
    show GG _ _ _ _ _ _ _ T48 (mkF m 102 #[.val (.int p0), .val (.int p1), .val (.int p2), .val (.int p3), .val (.int (3 : Int32)), .val (.ref bq39), .val (.ref bq40), .val (.ref ob41), .val (.ref bq46)] [(.ref bq40), (.ref bq39)])
    refine own_go (fun _ => XS.aload X48.here hx rfl (hb hby at_102) rfl rfl) ?_
    show GG _ _ _ _ _ _ _ T48 (mkF m 104 #[.val (.int p0), .val (.int p1), .val (.int p2), .val (.int p3), .val (.int (3 : Int32)), .val (.ref bq39), .val (.ref bq40), .val (.ref ob41), .val (.ref bq46)] [(.ref bq46), (.ref bq40), (.ref bq39)])
    refine own_go (fun _ => XS.iload X48.here hx rfl (hb hby at_104) rfl) ?_
    show GG _ _ _ _ _ _ _ T48 (mkF m 106 #[.val (.int p0), .val (.int p1), .val (.int p2), .val (.int p3), .val (.int (3 : Int32)), .val (.ref bq39), .val (.ref bq40), .val (.ref ob41), .val (.ref bq46)] [(.int (3 : Int32)), (.ref bq46), (.ref bq40), (.ref bq39)])
    refine own_go (fun _ => XS.iconst X48.here hx rfl (hb hby at_106)) ?_
    show GG _ _ _ _ _ _ _ T48 (mkF m 107 #[.val (.int p0), .val (.int p1), .val (.int p2), .val (.int p3), .val (.int (3 : Int32)), .val (.ref bq39), .val (.ref bq40), .val (.ref ob41), .val (.ref bq46)] [(.int (2 : Int32)), (.int (3 : Int32)), (.ref bq46), (.ref bq40), (.ref bq39)])
    refine own_callS X48 hx hZ (y := (⟨"com/example/hadamint/hadamint/GroupsPositionsPinLaw", "at", "([I[I[III)Z"⟩ : MethodName)) 0 hown (hw _ (List.mem_of_getElem? (i := 29) rfl)) (hw _ (List.mem_of_getElem? (i := 30) rfl)) (hw _ (List.mem_of_getElem? (i := 3) rfl)) (hw _ (List.mem_of_getElem? (i := 31) rfl)) (by decide) (argsL := [(.ref bq39), (.ref bq40), (.ref bq46), (.int (3 : Int32)), (.int (2 : Int32))]) (rest := []) (rm6 l Z a0 hw [] bq39 bq40 bq46 (3 : Int32) (2 : Int32) (bl 3 p1 p2 p3) Po46 2 T46.heap n0 (Nat.le_trans Z0 K0.1) Vq39 Vq40 Vq46 (by rw [hbl]; decide) (by decide) hG hpl46 hp46) (by decide) (by decide) (by decide) (by decide) (g := (mkF m 107 #[.val (.int p0), .val (.int p1), .val (.int p2), .val (.int p3), .val (.int (3 : Int32)), .val (.ref bq39), .val (.ref bq40), .val (.ref ob41), .val (.ref bq46)] [(.int (2 : Int32)), (.int (3 : Int32)), (.ref bq46), (.ref bq40), (.ref bq39)])) rfl (by rw [hml]; rfl) (lenOf pd___I_I_III_Z_809 rfl) rfl (by show 2 * 0 + _ ≤ _; exact Nat.le_of_eq rfl) (hb hby at_107) hh48 ?_
    rintro v49 T49 L49 X49 ⟨rfl, N49q, hh49⟩
    have N49 := Fr.app N48 N49q
    show GG _ _ _ _ _ _ _ T49 (mkF m 110 #[.val (.int p0), .val (.int p1), .val (.int p2), .val (.int p3), .val (.int (3 : Int32)), .val (.ref bq39), .val (.ref bq40), .val (.ref ob41), .val (.ref bq46)] [(.int (1 : Int32))])
    have hc110 : ¬ ((1 : Int32) = (0 : Int32)) := by decide
    refine own_go (fun _ => XS.ifNo X49.here hx rfl (hb hby at_110) rfl ((if0 _ _).trans (feq hc110).1)) ?_
    show GG _ _ _ _ _ _ _ T49 (mkF m 113 #[.val (.int p0), .val (.int p1), .val (.int p2), .val (.int p3), .val (.int (3 : Int32)), .val (.ref bq39), .val (.ref bq40), .val (.ref ob41), .val (.ref bq46)] [])
    refine own_go (fun _ => XS.aload X49.here hx rfl (hb hby at_113) rfl rfl) ?_
    show GG _ _ _ _ _ _ _ T49 (mkF m 115 #[.val (.int p0), .val (.int p1), .val (.int p2), .val (.int p3), .val (.int (3 : Int32)), .val (.ref bq39), .val (.ref bq40), .val (.ref ob41), .val (.ref bq46)] [(.ref bq39)])
    refine own_go (fun _ => XS.aload X49.here hx rfl (hb hby at_115) rfl rfl) ?_
    show GG _ _ _ _ _ _ _ T49 (mkF m 117 #[.val (.int p0), .val (.int p1), .val (.int p2), .val (.int p3), .val (.int (3 : Int32)), .val (.ref bq39), .val (.ref bq40), .val (.ref ob41), .val (.ref bq46)] [(.ref bq40), (.ref bq39)])
    refine own_go (fun _ => XS.aload X49.here hx rfl (hb hby at_117) rfl rfl) ?_
    show GG _ _ _ _ _ _ _ T49 (mkF m 119 #[.val (.int p0), .val (.int p1), .val (.int p2), .val (.int p3), .val (.int (3 : Int32)), .val (.ref bq39), .val (.ref bq40), .val (.ref ob41), .val (.ref bq46)] [(.ref bq46), (.ref bq40), (.ref bq39)])
    refine own_go (fun _ => XS.iload X49.here hx rfl (hb hby at_119) rfl) ?_
    show GG _ _ _ _ _ _ _ T49 (mkF m 121 #[.val (.int p0), .val (.int p1), .val (.int p2), .val (.int p3), .val (.int (3 : Int32)), .val (.ref bq39), .val (.ref bq40), .val (.ref ob41), .val (.ref bq46)] [(.int (3 : Int32)), (.ref bq46), (.ref bq40), (.ref bq39)])
    refine own_go (fun _ => XS.iconst X49.here hx rfl (hb hby at_121)) ?_
    show GG _ _ _ _ _ _ _ T49 (mkF m 122 #[.val (.int p0), .val (.int p1), .val (.int p2), .val (.int p3), .val (.int (3 : Int32)), .val (.ref bq39), .val (.ref bq40), .val (.ref ob41), .val (.ref bq46)] [(.int (3 : Int32)), (.int (3 : Int32)), (.ref bq46), (.ref bq40), (.ref bq39)])
    refine own_callS X49 hx hZ (y := (⟨"com/example/hadamint/hadamint/GroupsPositionsPinLaw", "at", "([I[I[III)Z"⟩ : MethodName)) 0 hown (hw _ (List.mem_of_getElem? (i := 29) rfl)) (hw _ (List.mem_of_getElem? (i := 30) rfl)) (hw _ (List.mem_of_getElem? (i := 3) rfl)) (hw _ (List.mem_of_getElem? (i := 31) rfl)) (by decide) (argsL := [(.ref bq39), (.ref bq40), (.ref bq46), (.int (3 : Int32)), (.int (3 : Int32))]) (rest := []) (rm6 l Z a0 hw [] bq39 bq40 bq46 (3 : Int32) (3 : Int32) (bl 3 p1 p2 p3) Po46 3 T46.heap n0 (Nat.le_trans Z0 K0.1) Vq39 Vq40 Vq46 (by rw [hbl]; decide) (by decide) hG hpl46 hp46) (by decide) (by decide) (by decide) (by decide) (g := (mkF m 122 #[.val (.int p0), .val (.int p1), .val (.int p2), .val (.int p3), .val (.int (3 : Int32)), .val (.ref bq39), .val (.ref bq40), .val (.ref ob41), .val (.ref bq46)] [(.int (3 : Int32)), (.int (3 : Int32)), (.ref bq46), (.ref bq40), (.ref bq39)])) rfl (by rw [hml]; rfl) (lenOf pd___I_I_III_Z_809 rfl) rfl (by show 2 * 0 + _ ≤ _; exact Nat.le_of_eq rfl) (hb hby at_122) hh49 ?_
    rintro v50 T50 L50 X50 ⟨rfl, N50q, hh50⟩
    have N50 := Fr.app N49 N50q
    show GG _ _ _ _ _ _ _ T50 (mkF m 125 #[.val (.int p0), .val (.int p1), .val (.int p2), .val (.int p3), .val (.int (3 : Int32)), .val (.ref bq39), .val (.ref bq40), .val (.ref ob41), .val (.ref bq46)] [(.int (1 : Int32))])
    have hc125 : ¬ ((1 : Int32) = (0 : Int32)) := by decide
    refine own_go (fun _ => XS.ifNo X50.here hx rfl (hb hby at_125) rfl ((if0 _ _).trans (feq hc125).1)) ?_
    show GG _ _ _ _ _ _ _ T50 (mkF m 128 #[.val (.int p0), .val (.int p1), .val (.int p2), .val (.int p3), .val (.int (3 : Int32)), .val (.ref bq39), .val (.ref bq40), .val (.ref ob41), .val (.ref bq46)] [])
    refine own_go (fun _ => XS.iconst X50.here hx rfl (hb hby at_128)) ?_
    show GG _ _ _ _ _ _ _ T50 (mkF m 129 #[.val (.int p0), .val (.int p1), .val (.int p2), .val (.int p3), .val (.int (3 : Int32)), .val (.ref bq39), .val (.ref bq40), .val (.ref ob41), .val (.ref bq46)] [(.int (1 : Int32))])
    refine own_go (fun _ => XS.goto X50.here hx rfl (pc0 := 129) (pc' := 133) rfl (hb hby at_129) (by decide) (by decide)) ?_
    show GG _ _ _ _ _ _ _ T50 (mkF m 133 #[.val (.int p0), .val (.int p1), .val (.int p2), .val (.int p3), .val (.int (3 : Int32)), .val (.ref bq39), .val (.ref bq40), .val (.ref ob41), .val (.ref bq46)] [(.int (1 : Int32))])
    refine own_ret X50 hx hlk (t := .boolean) (w := (.int (1 : Int32))) Bd.returns rfl (Or.inl ⟨rfl, by simp, _, rfl⟩) (hb hby at_133) (by decide) (by decide) ?_
    show Q0 Z p0 p1 p2 p3 h0 n0 (some (.int (1 : Int32))) T50.heap _
    rw [hh50]
    exact ⟨rfl, N50⟩
  · skip
    subst h5
    have hG := own_good 4 p1 p2 p3
    have hbl : (bl 4 p1 p2 p3).length = 4 := by simp only [bl, own_swl]; rfl
    show GG _ _ _ _ _ _ _ s₁ (mkF m 8 #[.val (.int p0), .val (.int p1), .val (.int p2), .val (.int p3), .val (.int (4 : Int32)), .unset, .unset, .unset, .unset] [])
    have K0 := Keep.refl h0 []
    refine own_go (fun _ => XS.iload X0.here hx rfl (hb hby at_8) rfl) ?_
    show GG _ _ _ _ _ _ _ s₁ (mkF m 10 #[.val (.int p0), .val (.int p1), .val (.int p2), .val (.int p3), .val (.int (4 : Int32)), .unset, .unset, .unset, .unset] [(.int (4 : Int32))])
    refine own_go (fun _ => XS.iloadN X0.here hx rfl (hb hby at_10) rfl) ?_
    show GG _ _ _ _ _ _ _ s₁ (mkF m 11 #[.val (.int p0), .val (.int p1), .val (.int p2), .val (.int p3), .val (.int (4 : Int32)), .unset, .unset, .unset, .unset] [(.int p1), (.int (4 : Int32))])
    refine own_go (fun _ => XS.iloadN X0.here hx rfl (hb hby at_11) rfl) ?_
    show GG _ _ _ _ _ _ _ s₁ (mkF m 12 #[.val (.int p0), .val (.int p1), .val (.int p2), .val (.int p3), .val (.int (4 : Int32)), .unset, .unset, .unset, .unset] [(.int p2), (.int p1), (.int (4 : Int32))])
    refine own_go (fun _ => XS.iloadN X0.here hx rfl (hb hby at_12) rfl) ?_
    show GG _ _ _ _ _ _ _ s₁ (mkF m 13 #[.val (.int p0), .val (.int p1), .val (.int p2), .val (.int p3), .val (.int (4 : Int32)), .unset, .unset, .unset, .unset] [(.int p3), (.int p2), (.int p1), (.int (4 : Int32))])
    refine own_callS X0 hx hZ (y := (⟨"com/example/hadamint/hadamint/GroupsPositionsPinLaw", "build", "(IIII)[I"⟩ : MethodName)) 0 hown (hw _ (List.mem_of_getElem? (i := 1) rfl)) (hw _ (List.mem_of_getElem? (i := 2) rfl)) (hw _ (List.mem_of_getElem? (i := 3) rfl)) (hw _ (List.mem_of_getElem? (i := 4) rfl)) (by decide) (argsL := [(.int (4 : Int32)), (.int p1), (.int p2), (.int p3)]) (rest := []) (rm1_4 l Z a0 hw [] p1 p2 p3 h0 n0 Z0) (by decide) (by decide) (by decide) (by decide) (g := (mkF m 13 #[.val (.int p0), .val (.int p1), .val (.int p2), .val (.int p3), .val (.int (4 : Int32)), .unset, .unset, .unset, .unset] [(.int p3), (.int p2), (.int p1), (.int (4 : Int32))])) rfl (by rw [hml]; rfl) (lenOf pd__IIII__I_537 rfl) rfl (by show 2 * 0 + _ ≤ _; exact Nat.le_of_eq rfl) (hb hby at_13) e0 ?_
    rintro v51 T51 L51 X51 ⟨bq51, rfl, N51q, szq51, Kq51, Vq51⟩
    have N51 := Fr.app N0 N51q
    have K0 := K0.trans Kq51 all0
    have sz_bq51 : h0.size ≤ bq51 := Nat.le_trans (Nat.le_refl _) szq51
    have g_bq51 : n0 ≤ bq51 := Nat.le_trans Z0 sz_bq51
    have Kp := K0
    show GG _ _ _ _ _ _ _ T51 (mkF m 16 #[.val (.int p0), .val (.int p1), .val (.int p2), .val (.int p3), .val (.int (4 : Int32)), .unset, .unset, .unset, .unset] [(.ref bq51)])
    refine own_go (fun _ => XS.astore X51.here hx rfl (hb hby at_16) rfl rfl (l' := #[.val (.int p0), .val (.int p1), .val (.int p2), .val (.int p3), .val (.int (4 : Int32)), .val (.ref bq51), .unset, .unset, .unset]) rfl) ?_
    show GG _ _ _ _ _ _ _ T51 (mkF m 18 #[.val (.int p0), .val (.int p1), .val (.int p2), .val (.int p3), .val (.int (4 : Int32)), .val (.ref bq51), .unset, .unset, .unset] [])
    refine own_go (fun _ => XS.iload X51.here hx rfl (hb hby at_18) rfl) ?_
    show GG _ _ _ _ _ _ _ T51 (mkF m 20 #[.val (.int p0), .val (.int p1), .val (.int p2), .val (.int p3), .val (.int (4 : Int32)), .val (.ref bq51), .unset, .unset, .unset] [(.int (4 : Int32))])
    refine own_go (fun _ => XS.iloadN X51.here hx rfl (hb hby at_20) rfl) ?_
    show GG _ _ _ _ _ _ _ T51 (mkF m 21 #[.val (.int p0), .val (.int p1), .val (.int p2), .val (.int p3), .val (.int (4 : Int32)), .val (.ref bq51), .unset, .unset, .unset] [(.int p1), (.int (4 : Int32))])
    refine own_go (fun _ => XS.iloadN X51.here hx rfl (hb hby at_21) rfl) ?_
    show GG _ _ _ _ _ _ _ T51 (mkF m 22 #[.val (.int p0), .val (.int p1), .val (.int p2), .val (.int p3), .val (.int (4 : Int32)), .val (.ref bq51), .unset, .unset, .unset] [(.int p2), (.int p1), (.int (4 : Int32))])
    refine own_go (fun _ => XS.iloadN X51.here hx rfl (hb hby at_22) rfl) ?_
    show GG _ _ _ _ _ _ _ T51 (mkF m 23 #[.val (.int p0), .val (.int p1), .val (.int p2), .val (.int p3), .val (.int (4 : Int32)), .val (.ref bq51), .unset, .unset, .unset] [(.int p3), (.int p2), (.int p1), (.int (4 : Int32))])
    refine own_callS X51 hx hZ (y := (⟨"com/example/hadamint/hadamint/GroupsPositionsPinLaw", "build", "(IIII)[I"⟩ : MethodName)) 0 hown (hw _ (List.mem_of_getElem? (i := 1) rfl)) (hw _ (List.mem_of_getElem? (i := 2) rfl)) (hw _ (List.mem_of_getElem? (i := 3) rfl)) (hw _ (List.mem_of_getElem? (i := 4) rfl)) (by decide) (argsL := [(.int (4 : Int32)), (.int p1), (.int p2), (.int p3)]) (rest := []) (rm1_4 l Z a0 hw [] p1 p2 p3 T51.heap n0 (Nat.le_trans Z0 K0.1)) (by decide) (by decide) (by decide) (by decide) (g := (mkF m 23 #[.val (.int p0), .val (.int p1), .val (.int p2), .val (.int p3), .val (.int (4 : Int32)), .val (.ref bq51), .unset, .unset, .unset] [(.int p3), (.int p2), (.int p1), (.int (4 : Int32))])) rfl (by rw [hml]; rfl) (lenOf pd__IIII__I_537 rfl) rfl (by show 2 * 0 + _ ≤ _; exact Nat.le_of_eq rfl) (hb hby at_23) rfl ?_
    rintro v52 T52 L52 X52 ⟨bq52, rfl, N52q, szq52, Kq52, Vq52⟩
    have N52 := Fr.app N51 N52q
    have K0 := K0.trans Kq52 all0
    have Vq51 := Vq51.keep Kq52 nin0
    have sz_bq52 : h0.size ≤ bq52 := Nat.le_trans Kp.1 szq52
    have g_bq52 : n0 ≤ bq52 := Nat.le_trans Z0 sz_bq52
    have Kp := K0
    show GG _ _ _ _ _ _ _ T52 (mkF m 26 #[.val (.int p0), .val (.int p1), .val (.int p2), .val (.int p3), .val (.int (4 : Int32)), .val (.ref bq51), .unset, .unset, .unset] [(.ref bq52)])
    refine own_go (fun _ => XS.astore X52.here hx rfl (hb hby at_26) rfl rfl (l' := #[.val (.int p0), .val (.int p1), .val (.int p2), .val (.int p3), .val (.int (4 : Int32)), .val (.ref bq51), .val (.ref bq52), .unset, .unset]) rfl) ?_
    show GG _ _ _ _ _ _ _ T52 (mkF m 28 #[.val (.int p0), .val (.int p1), .val (.int p2), .val (.int p3), .val (.int (4 : Int32)), .val (.ref bq51), .val (.ref bq52), .unset, .unset] [])
    obtain ⟨T53, h53, X53, e53, E53, A53, D53, -, st53⟩ := newO X52 hx hZ hown (hw _ (List.mem_of_getElem? (i := 6) rfl)) (hw _ (List.mem_of_getElem? (i := 7) rfl)) (hw _ (List.mem_of_getElem? (i := 8) rfl)) rfl (g := (mkF m 28 #[.val (.int p0), .val (.int p1), .val (.int p2), .val (.int p3), .val (.int (4 : Int32)), .val (.ref bq51), .val (.ref bq52), .unset, .unset] [])) rfl (hb hby at_28) (by decide) (by decide)
    obtain ⟨ob53, g53⟩ : ∃ z, z = T52.heap.size := ⟨_, rfl⟩
    rw [← g53] at A53 D53 st53
    have ne_bq51_ob53 : bq51 ≠ ob53 := Nat.ne_of_lt (Nat.lt_of_lt_of_le Vq51.lt (Nat.le_of_eq g53.symm))
    have ne_bq52_ob53 : bq52 ≠ ob53 := Nat.ne_of_lt (Nat.lt_of_lt_of_le Vq52.lt (Nat.le_of_eq g53.symm))
    have sz_ob53 : h0.size ≤ ob53 := Nat.le_trans K0.1 (Nat.le_of_eq g53.symm)
    have g_ob53 : n0 ≤ ob53 := Nat.le_trans Z0 sz_ob53
    have K0 := K0.ext E53
    have Vq51 := Vq51.ext E53
    have Vq52 := Vq52.ext E53
    have E_ob53 := A53
    have F_starts_ob53 : Fld Z h53 ob53 "com/example/hadamint/hadamint/Groups" "starts" "[I" .null := D53 (Or.inr (hw _ (List.mem_of_getElem? (i := 21) rfl))) (ty := (.array .int)) (by decide)
    have F_members_ob53 : Fld Z h53 ob53 "com/example/hadamint/hadamint/Groups" "members" "[I" .null := D53 (Or.inr (hw _ (List.mem_of_getElem? (i := 23) rfl))) (ty := (.array .int)) (by decide)
    refine own_go (fun _ => st53 _) ?_
    show GG _ _ _ _ _ _ _ T53 (mkF m 31 #[.val (.int p0), .val (.int p1), .val (.int p2), .val (.int p3), .val (.int (4 : Int32)), .val (.ref bq51), .val (.ref bq52), .unset, .unset] [(.ref ob53)])
    refine own_go (fun _ => XS.dup X53.here hx rfl (hb hby at_31) rfl rfl) ?_
    show GG _ _ _ _ _ _ _ T53 (mkF m 32 #[.val (.int p0), .val (.int p1), .val (.int p2), .val (.int p3), .val (.int (4 : Int32)), .val (.ref bq51), .val (.ref bq52), .unset, .unset] [(.ref ob53), (.ref ob53)])
    refine own_go (fun _ => XS.iconst X53.here hx rfl (hb hby at_32)) ?_
    show GG _ _ _ _ _ _ _ T53 (mkF m 33 #[.val (.int p0), .val (.int p1), .val (.int p2), .val (.int p3), .val (.int (4 : Int32)), .val (.ref bq51), .val (.ref bq52), .unset, .unset] [(.int (2 : Int32)), (.ref ob53), (.ref ob53)])
    obtain ⟨T54, h54, ob54, g54, X54, e54, E54, V_ob54, E_ob54, st54⟩ := own_newarr X53 hx hZ (hw _ (List.mem_of_getElem? (i := 5) rfl)) e53 (g := (mkF m 33 #[.val (.int p0), .val (.int p1), .val (.int p2), .val (.int p3), .val (.int (4 : Int32)), .val (.ref bq51), .val (.ref bq52), .unset, .unset] [(.int (2 : Int32)), (.ref ob53), (.ref ob53)])) rfl (hb hby at_33) rfl (by decide) (cap := 2) (by decide) (by decide) (by decide) (by decide) (ad := "[I") (by decide)
    have ne_bq51_ob54 : bq51 ≠ ob54 := Nat.ne_of_lt (Nat.lt_of_lt_of_le Vq51.lt (Nat.le_of_eq g54.symm))
    have ne_bq52_ob54 : bq52 ≠ ob54 := Nat.ne_of_lt (Nat.lt_of_lt_of_le Vq52.lt (Nat.le_of_eq g54.symm))
    have ne_ob53_ob54 : ob53 ≠ ob54 := Nat.ne_of_lt (Nat.lt_of_lt_of_le E_ob53.lt (Nat.le_of_eq g54.symm))
    have sz_ob54 : h0.size ≤ ob54 := Nat.le_trans K0.1 (Nat.le_of_eq g54.symm)
    have g_ob54 : n0 ≤ ob54 := Nat.le_trans Z0 sz_ob54
    have K0 := K0.ext E54
    have Vq51 := Vq51.ext E54
    have Vq52 := Vq52.ext E54
    have E_ob53 := E_ob53.ext E54
    have F_starts_ob53 := F_starts_ob53.ext E54
    have F_members_ob53 := F_members_ob53.ext E54
    have V_ob54 : Arx Z h54 ob54 .int [(.int (0 : Int32)), (.int (0 : Int32))] := V_ob54
    refine own_go (fun _ => st54 _) ?_
    show GG _ _ _ _ _ _ _ T54 (mkF m 35 #[.val (.int p0), .val (.int p1), .val (.int p2), .val (.int p3), .val (.int (4 : Int32)), .val (.ref bq51), .val (.ref bq52), .unset, .unset] [(.ref ob54), (.ref ob53), (.ref ob53)])
    refine own_go (fun _ => XS.dup X54.here hx rfl (hb hby at_35) rfl rfl) ?_
    show GG _ _ _ _ _ _ _ T54 (mkF m 36 #[.val (.int p0), .val (.int p1), .val (.int p2), .val (.int p3), .val (.int (4 : Int32)), .val (.ref bq51), .val (.ref bq52), .unset, .unset] [(.ref ob54), (.ref ob54), (.ref ob53), (.ref ob53)])
    refine own_go (fun _ => XS.iconst X54.here hx rfl (hb hby at_36)) ?_
    show GG _ _ _ _ _ _ _ T54 (mkF m 37 #[.val (.int p0), .val (.int p1), .val (.int p2), .val (.int p3), .val (.int (4 : Int32)), .val (.ref bq51), .val (.ref bq52), .unset, .unset] [(.int (0 : Int32)), (.ref ob54), (.ref ob54), (.ref ob53), (.ref ob53)])
    refine own_go (fun _ => XS.iconst X54.here hx rfl (hb hby at_37)) ?_
    show GG _ _ _ _ _ _ _ T54 (mkF m 38 #[.val (.int p0), .val (.int p1), .val (.int p2), .val (.int p3), .val (.int (4 : Int32)), .val (.ref bq51), .val (.ref bq52), .unset, .unset] [(.int (0 : Int32)), (.int (0 : Int32)), (.ref ob54), (.ref ob54), (.ref ob53), (.ref ob53)])
    obtain ⟨T55, h55, X55, e55, W55, V55, st55⟩ := own_iastore X54 hx hZ e54 V_ob54 (by decide) (Nat.le_of_ble_eq_true rfl) (g := (mkF m 38 #[.val (.int p0), .val (.int p1), .val (.int p2), .val (.int p3), .val (.int (4 : Int32)), .val (.ref bq51), .val (.ref bq52), .unset, .unset] [(.int (0 : Int32)), (.int (0 : Int32)), (.ref ob54), (.ref ob54), (.ref ob53), (.ref ob53)])) rfl rfl (hb hby at_38)
    have K0 := K0.wr W55 (Or.inr sz_ob54)
    have Vq51 := Vq51.other W55 ne_bq51_ob54
    have Vq52 := Vq52.other W55 ne_bq52_ob54
    have E_ob53 := E_ob53.wr W55
    have F_starts_ob53 := F_starts_ob53.other W55 (Or.inl ne_ob53_ob54)
    have F_members_ob53 := F_members_ob53.other W55 (Or.inl ne_ob53_ob54)
    have E_ob54 := E_ob54.wr W55
    have V_ob54 : Arx Z h55 ob54 .int [(.int (0 : Int32)), (.int (0 : Int32))] := V55
    have N55 := Fr.snoc X55 N52 g_ob54
    refine own_go (fun _ => st55 _) ?_
    show GG _ _ _ _ _ _ _ T55 (mkF m 39 #[.val (.int p0), .val (.int p1), .val (.int p2), .val (.int p3), .val (.int (4 : Int32)), .val (.ref bq51), .val (.ref bq52), .unset, .unset] [(.ref ob54), (.ref ob53), (.ref ob53)])
    refine own_go (fun _ => XS.dup X55.here hx rfl (hb hby at_39) rfl rfl) ?_
    show GG _ _ _ _ _ _ _ T55 (mkF m 40 #[.val (.int p0), .val (.int p1), .val (.int p2), .val (.int p3), .val (.int (4 : Int32)), .val (.ref bq51), .val (.ref bq52), .unset, .unset] [(.ref ob54), (.ref ob54), (.ref ob53), (.ref ob53)])
    refine own_go (fun _ => XS.iconst X55.here hx rfl (hb hby at_40)) ?_
    show GG _ _ _ _ _ _ _ T55 (mkF m 41 #[.val (.int p0), .val (.int p1), .val (.int p2), .val (.int p3), .val (.int (4 : Int32)), .val (.ref bq51), .val (.ref bq52), .unset, .unset] [(.int (1 : Int32)), (.ref ob54), (.ref ob54), (.ref ob53), (.ref ob53)])
    refine own_go (fun _ => XS.iload X55.here hx rfl (hb hby at_41) rfl) ?_
    show GG _ _ _ _ _ _ _ T55 (mkF m 43 #[.val (.int p0), .val (.int p1), .val (.int p2), .val (.int p3), .val (.int (4 : Int32)), .val (.ref bq51), .val (.ref bq52), .unset, .unset] [(.int (4 : Int32)), (.int (1 : Int32)), (.ref ob54), (.ref ob54), (.ref ob53), (.ref ob53)])
    obtain ⟨T56, h56, X56, e56, W56, V56, st56⟩ := own_iastore X55 hx hZ e55 V_ob54 (by decide) (Nat.le_of_ble_eq_true rfl) (g := (mkF m 43 #[.val (.int p0), .val (.int p1), .val (.int p2), .val (.int p3), .val (.int (4 : Int32)), .val (.ref bq51), .val (.ref bq52), .unset, .unset] [(.int (4 : Int32)), (.int (1 : Int32)), (.ref ob54), (.ref ob54), (.ref ob53), (.ref ob53)])) rfl rfl (hb hby at_43)
    have K0 := K0.wr W56 (Or.inr sz_ob54)
    have Vq51 := Vq51.other W56 ne_bq51_ob54
    have Vq52 := Vq52.other W56 ne_bq52_ob54
    have E_ob53 := E_ob53.wr W56
    have F_starts_ob53 := F_starts_ob53.other W56 (Or.inl ne_ob53_ob54)
    have F_members_ob53 := F_members_ob53.other W56 (Or.inl ne_ob53_ob54)
    have E_ob54 := E_ob54.wr W56
    have V_ob54 : Arx Z h56 ob54 .int [(.int (0 : Int32)), (.int (4 : Int32))] := V56
    have N56 := Fr.snoc X56 N55 g_ob54
    refine own_go (fun _ => st56 _) ?_
    show GG _ _ _ _ _ _ _ T56 (mkF m 44 #[.val (.int p0), .val (.int p1), .val (.int p2), .val (.int p3), .val (.int (4 : Int32)), .val (.ref bq51), .val (.ref bq52), .unset, .unset] [(.ref ob54), (.ref ob53), (.ref ob53)])
    refine own_go (fun _ => XS.aload X56.here hx rfl (hb hby at_44) rfl rfl) ?_
    show GG _ _ _ _ _ _ _ T56 (mkF m 46 #[.val (.int p0), .val (.int p1), .val (.int p2), .val (.int p3), .val (.int (4 : Int32)), .val (.ref bq51), .val (.ref bq52), .unset, .unset] [(.ref bq51), (.ref ob54), (.ref ob53), (.ref ob53)])
    refine own_callI X56 hx hZ (y := (⟨"com/example/hadamint/hadamint/Groups", "<init>", "([I[I)V"⟩ : MethodName)) 1 rfl hown (hw _ (List.mem_of_getElem? (i := 9) rfl)) (hw _ (List.mem_of_getElem? (i := 10) rfl)) (hw _ (List.mem_of_getElem? (i := 8) rfl)) (hw _ (List.mem_of_getElem? (i := 11) rfl)) (by decide) (a := ob53) (argsL := [(.ref ob54), (.ref bq51)]) (rest := [(.ref ob53)]) (rm2 l Z a0 hw [] ob53 ob54 bq51 h56 n0 (Nat.le_trans Z0 K0.1) E_ob53 F_starts_ob53 F_members_ob53 g_ob53) (by decide) (by decide) (by decide) (by decide) (g := (mkF m 46 #[.val (.int p0), .val (.int p1), .val (.int p2), .val (.int p3), .val (.int (4 : Int32)), .val (.ref bq51), .val (.ref bq52), .unset, .unset] [(.ref bq51), (.ref ob54), (.ref ob53), (.ref ob53)])) rfl (by rw [hml]; rfl) (lenOf pd___I_I_V_495 rfl) rfl (by show 2 * 0 + _ ≤ _; exact Nat.le_of_eq rfl) (hb hby at_46) e56 ?_
    rintro v57 T57 L57 X57 ⟨rfl, N57q, Kq57, Eq57, Fq57⟩
    have N57 := Fr.app N56 N57q
    have K0 := K0.trans Kq57 (allS (Or.inr sz_ob53) all0)
    have Vq51 := Vq51.keep Kq57 (ninS ne_bq51_ob53 nin0)
    have Vq52 := Vq52.keep Kq57 (ninS ne_bq52_ob53 nin0)
    have V_ob54 := V_ob54.keep Kq57 (ninS (Ne.symm ne_ob53_ob54) nin0)
    have E_ob54 := E_ob54.keep Kq57
    show GG _ _ _ _ _ _ _ T57 (mkF m 49 #[.val (.int p0), .val (.int p1), .val (.int p2), .val (.int p3), .val (.int (4 : Int32)), .val (.ref bq51), .val (.ref bq52), .unset, .unset] [(.ref ob53)])
    refine own_go (fun _ => XS.astore X57.here hx rfl (hb hby at_49) rfl rfl (l' := #[.val (.int p0), .val (.int p1), .val (.int p2), .val (.int p3), .val (.int (4 : Int32)), .val (.ref bq51), .val (.ref bq52), .val (.ref ob53), .unset]) rfl) ?_
    show GG _ _ _ _ _ _ _ T57 (mkF m 51 #[.val (.int p0), .val (.int p1), .val (.int p2), .val (.int p3), .val (.int (4 : Int32)), .val (.ref bq51), .val (.ref bq52), .val (.ref ob53), .unset] [])
    refine own_go (fun _ => XS.aload X57.here hx rfl (hb hby at_51) rfl rfl) ?_
    show GG _ _ _ _ _ _ _ T57 (mkF m 53 #[.val (.int p0), .val (.int p1), .val (.int p2), .val (.int p3), .val (.int (4 : Int32)), .val (.ref bq51), .val (.ref bq52), .val (.ref ob53), .unset] [(.ref ob53)])
    refine own_callV X57 hx hZ (y := (⟨"com/example/hadamint/hadamint/Groups", "positions", "()[I"⟩ : MethodName)) (z := (⟨"com/example/hadamint/hadamint/Groups", "positions", "()[I"⟩ : MethodName)) 0 hown (hw _ (List.mem_of_getElem? (i := 24) rfl)) (hw _ (List.mem_of_getElem? (i := 25) rfl)) (notFace_of_selects (args := #[]) (mvT hZ (hw _ (List.mem_of_getElem? (i := 27) rfl)))) (hw _ (List.mem_of_getElem? (i := 27) rfl)) (hw _ (List.mem_of_getElem? (i := 26) rfl)) (hw _ (List.mem_of_getElem? (i := 8) rfl)) (hw _ (List.mem_of_getElem? (i := 28) rfl)) (by decide) (a := ob53) (argsL := []) (rest := []) (rm5 l Z a0 hw [] ob53 bq51 (bl 4 p1 p2 p3) T57.heap n0 (Nat.le_trans Z0 K0.1) Fq57 Vq51 hG (by rw [hbl]; decide)) (by decide) (by decide) (by decide) (by decide) Eq57 (g := (mkF m 53 #[.val (.int p0), .val (.int p1), .val (.int p2), .val (.int p3), .val (.int (4 : Int32)), .val (.ref bq51), .val (.ref bq52), .val (.ref ob53), .unset] [(.ref ob53)])) rfl (by rw [hml]; rfl) (lenOf pd____I_245 rfl) rfl (by show 2 * 0 + _ ≤ _; exact Nat.le_of_eq rfl) (hb hby at_53) rfl ?_
    rintro v58 T58 L58 X58 ⟨bq58, rfl, N58q, szq58, Kq58, Po58, Vq58, hpl58, hp58⟩
    have N58 := Fr.app N57 N58q
    have K0 := K0.trans Kq58 all0
    have Vq51 := Vq51.keep Kq58 nin0
    have Vq52 := Vq52.keep Kq58 nin0
    have V_ob54 := V_ob54.keep Kq58 nin0
    have E_ob54 := E_ob54.keep Kq58
    have Eq57 := Eq57.keep Kq58
    have Fq57 := Fq57.keep Kq58 nin0
    show GG _ _ _ _ _ _ _ T58 (mkF m 56 #[.val (.int p0), .val (.int p1), .val (.int p2), .val (.int p3), .val (.int (4 : Int32)), .val (.ref bq51), .val (.ref bq52), .val (.ref ob53), .unset] [(.ref bq58)])
    refine own_go (fun _ => XS.astore X58.here hx rfl (hb hby at_56) rfl rfl (l' := #[.val (.int p0), .val (.int p1), .val (.int p2), .val (.int p3), .val (.int (4 : Int32)), .val (.ref bq51), .val (.ref bq52), .val (.ref ob53), .val (.ref bq58)]) rfl) ?_
    show GG _ _ _ _ _ _ _ T58 (mkF m 58 #[.val (.int p0), .val (.int p1), .val (.int p2), .val (.int p3), .val (.int (4 : Int32)), .val (.ref bq51), .val (.ref bq52), .val (.ref ob53), .val (.ref bq58)] [])
    refine own_go (fun _ => XS.aload X58.here hx rfl (hb hby at_58) rfl rfl) ?_
    show GG _ _ _ _ _ _ _ T58 (mkF m 60 #[.val (.int p0), .val (.int p1), .val (.int p2), .val (.int p3), .val (.int (4 : Int32)), .val (.ref bq51), .val (.ref bq52), .val (.ref ob53), .val (.ref bq58)] [(.ref bq58)])
    refine own_go (fun _ => own_len X58 hx hZ rfl Vq58 (g := (mkF m 60 #[.val (.int p0), .val (.int p1), .val (.int p2), .val (.int p3), .val (.int (4 : Int32)), .val (.ref bq51), .val (.ref bq52), .val (.ref ob53), .val (.ref bq58)] [(.ref bq58)])) rfl rfl (hb hby at_60) _) ?_
    show GG _ _ _ _ _ _ _ T58 (mkF m 61 #[.val (.int p0), .val (.int p1), .val (.int p2), .val (.int p3), .val (.int (4 : Int32)), .val (.ref bq51), .val (.ref bq52), .val (.ref ob53), .val (.ref bq58)] [(.int (Int32.ofNat (Po58.map Value.int).length))])
    refine own_go (fun _ => XS.iload X58.here hx rfl (hb hby at_61) rfl) ?_
    show GG _ _ _ _ _ _ _ T58 (mkF m 63 #[.val (.int p0), .val (.int p1), .val (.int p2), .val (.int p3), .val (.int (4 : Int32)), .val (.ref bq51), .val (.ref bq52), .val (.ref ob53), .val (.ref bq58)] [(.int (4 : Int32)), (.int (Int32.ofNat (Po58.map Value.int).length))])
    have hc63 : (Int32.ofNat (Po58.map Value.int).length) = (4 : Int32) := by rw [List.length_map, hpl58, hbl]; rfl
    refine own_go (fun _ => XS.icmpYes X58.here hx rfl (pc0 := 63) (pc' := 68) rfl (hb hby at_63) rfl (teq hc63).1 (by decide) (by decide)) ?_
    show GG _ _ _ _ _ _ _ T58 (mkF m 68 #[.val (.int p0), .val (.int p1), .val (.int p2), .val (.int p3), .val (.int (4 : Int32)), .val (.ref bq51), .val (.ref bq52), .val (.ref ob53), .val (.ref bq58)] [])
    refine own_go (fun _ => XS.aload X58.here hx rfl (hb hby at_68) rfl rfl) ?_
    show GG _ _ _ _ _ _ _ T58 (mkF m 70 #[.val (.int p0), .val (.int p1), .val (.int p2), .val (.int p3), .val (.int (4 : Int32)), .val (.ref bq51), .val (.ref bq52), .val (.ref ob53), .val (.ref bq58)] [(.ref bq51)])
    refine own_go (fun _ => XS.aload X58.here hx rfl (hb hby at_70) rfl rfl) ?_
    show GG _ _ _ _ _ _ _ T58 (mkF m 72 #[.val (.int p0), .val (.int p1), .val (.int p2), .val (.int p3), .val (.int (4 : Int32)), .val (.ref bq51), .val (.ref bq52), .val (.ref ob53), .val (.ref bq58)] [(.ref bq52), (.ref bq51)])
    refine own_go (fun _ => XS.aload X58.here hx rfl (hb hby at_72) rfl rfl) ?_
    show GG _ _ _ _ _ _ _ T58 (mkF m 74 #[.val (.int p0), .val (.int p1), .val (.int p2), .val (.int p3), .val (.int (4 : Int32)), .val (.ref bq51), .val (.ref bq52), .val (.ref ob53), .val (.ref bq58)] [(.ref bq58), (.ref bq52), (.ref bq51)])
    refine own_go (fun _ => XS.iload X58.here hx rfl (hb hby at_74) rfl) ?_
    show GG _ _ _ _ _ _ _ T58 (mkF m 76 #[.val (.int p0), .val (.int p1), .val (.int p2), .val (.int p3), .val (.int (4 : Int32)), .val (.ref bq51), .val (.ref bq52), .val (.ref ob53), .val (.ref bq58)] [(.int (4 : Int32)), (.ref bq58), (.ref bq52), (.ref bq51)])
    refine own_go (fun _ => XS.iconst X58.here hx rfl (hb hby at_76)) ?_
    show GG _ _ _ _ _ _ _ T58 (mkF m 77 #[.val (.int p0), .val (.int p1), .val (.int p2), .val (.int p3), .val (.int (4 : Int32)), .val (.ref bq51), .val (.ref bq52), .val (.ref ob53), .val (.ref bq58)] [(.int (0 : Int32)), (.int (4 : Int32)), (.ref bq58), (.ref bq52), (.ref bq51)])
    refine own_callS X58 hx hZ (y := (⟨"com/example/hadamint/hadamint/GroupsPositionsPinLaw", "at", "([I[I[III)Z"⟩ : MethodName)) 0 hown (hw _ (List.mem_of_getElem? (i := 29) rfl)) (hw _ (List.mem_of_getElem? (i := 30) rfl)) (hw _ (List.mem_of_getElem? (i := 3) rfl)) (hw _ (List.mem_of_getElem? (i := 31) rfl)) (by decide) (argsL := [(.ref bq51), (.ref bq52), (.ref bq58), (.int (4 : Int32)), (.int (0 : Int32))]) (rest := []) (rm6 l Z a0 hw [] bq51 bq52 bq58 (4 : Int32) (0 : Int32) (bl 4 p1 p2 p3) Po58 0 T58.heap n0 (Nat.le_trans Z0 K0.1) Vq51 Vq52 Vq58 (by rw [hbl]; decide) (by decide) hG hpl58 hp58) (by decide) (by decide) (by decide) (by decide) (g := (mkF m 77 #[.val (.int p0), .val (.int p1), .val (.int p2), .val (.int p3), .val (.int (4 : Int32)), .val (.ref bq51), .val (.ref bq52), .val (.ref ob53), .val (.ref bq58)] [(.int (0 : Int32)), (.int (4 : Int32)), (.ref bq58), (.ref bq52), (.ref bq51)])) rfl (by rw [hml]; rfl) (lenOf pd___I_I_III_Z_809 rfl) rfl (by show 2 * 0 + _ ≤ _; exact Nat.le_of_eq rfl) (hb hby at_77) rfl ?_
    rintro v59 T59 L59 X59 ⟨rfl, N59q, hh59⟩
    have N59 := Fr.app N58 N59q
    show GG _ _ _ _ _ _ _ T59 (mkF m 80 #[.val (.int p0), .val (.int p1), .val (.int p2), .val (.int p3), .val (.int (4 : Int32)), .val (.ref bq51), .val (.ref bq52), .val (.ref ob53), .val (.ref bq58)] [(.int (1 : Int32))])
    have hc80 : ¬ ((1 : Int32) = (0 : Int32)) := by decide
    refine own_go (fun _ => XS.ifNo X59.here hx rfl (hb hby at_80) rfl ((if0 _ _).trans (feq hc80).1)) ?_
    show GG _ _ _ _ _ _ _ T59 (mkF m 83 #[.val (.int p0), .val (.int p1), .val (.int p2), .val (.int p3), .val (.int (4 : Int32)), .val (.ref bq51), .val (.ref bq52), .val (.ref ob53), .val (.ref bq58)] [])
    refine own_go (fun _ => XS.aload X59.here hx rfl (hb hby at_83) rfl rfl) ?_
    show GG _ _ _ _ _ _ _ T59 (mkF m 85 #[.val (.int p0), .val (.int p1), .val (.int p2), .val (.int p3), .val (.int (4 : Int32)), .val (.ref bq51), .val (.ref bq52), .val (.ref ob53), .val (.ref bq58)] [(.ref bq51)])
    refine own_go (fun _ => XS.aload X59.here hx rfl (hb hby at_85) rfl rfl) ?_
    show GG _ _ _ _ _ _ _ T59 (mkF m 87 #[.val (.int p0), .val (.int p1), .val (.int p2), .val (.int p3), .val (.int (4 : Int32)), .val (.ref bq51), .val (.ref bq52), .val (.ref ob53), .val (.ref bq58)] [(.ref bq52), (.ref bq51)])
    refine own_go (fun _ => XS.aload X59.here hx rfl (hb hby at_87) rfl rfl) ?_
    show GG _ _ _ _ _ _ _ T59 (mkF m 89 #[.val (.int p0), .val (.int p1), .val (.int p2), .val (.int p3), .val (.int (4 : Int32)), .val (.ref bq51), .val (.ref bq52), .val (.ref ob53), .val (.ref bq58)] [(.ref bq58), (.ref bq52), (.ref bq51)])
    refine own_go (fun _ => XS.iload X59.here hx rfl (hb hby at_89) rfl) ?_
    show GG _ _ _ _ _ _ _ T59 (mkF m 91 #[.val (.int p0), .val (.int p1), .val (.int p2), .val (.int p3), .val (.int (4 : Int32)), .val (.ref bq51), .val (.ref bq52), .val (.ref ob53), .val (.ref bq58)] [(.int (4 : Int32)), (.ref bq58), (.ref bq52), (.ref bq51)])
    refine own_go (fun _ => XS.iconst X59.here hx rfl (hb hby at_91)) ?_
    show GG _ _ _ _ _ _ _ T59 (mkF m 92 #[.val (.int p0), .val (.int p1), .val (.int p2), .val (.int p3), .val (.int (4 : Int32)), .val (.ref bq51), .val (.ref bq52), .val (.ref ob53), .val (.ref bq58)] [(.int (1 : Int32)), (.int (4 : Int32)), (.ref bq58), (.ref bq52), (.ref bq51)])
    refine own_callS X59 hx hZ (y := (⟨"com/example/hadamint/hadamint/GroupsPositionsPinLaw", "at", "([I[I[III)Z"⟩ : MethodName)) 0 hown (hw _ (List.mem_of_getElem? (i := 29) rfl)) (hw _ (List.mem_of_getElem? (i := 30) rfl)) (hw _ (List.mem_of_getElem? (i := 3) rfl)) (hw _ (List.mem_of_getElem? (i := 31) rfl)) (by decide) (argsL := [(.ref bq51), (.ref bq52), (.ref bq58), (.int (4 : Int32)), (.int (1 : Int32))]) (rest := []) (rm6 l Z a0 hw [] bq51 bq52 bq58 (4 : Int32) (1 : Int32) (bl 4 p1 p2 p3) Po58 1 T58.heap n0 (Nat.le_trans Z0 K0.1) Vq51 Vq52 Vq58 (by rw [hbl]; decide) (by decide) hG hpl58 hp58) (by decide) (by decide) (by decide) (by decide) (g := (mkF m 92 #[.val (.int p0), .val (.int p1), .val (.int p2), .val (.int p3), .val (.int (4 : Int32)), .val (.ref bq51), .val (.ref bq52), .val (.ref ob53), .val (.ref bq58)] [(.int (1 : Int32)), (.int (4 : Int32)), (.ref bq58), (.ref bq52), (.ref bq51)])) rfl (by rw [hml]; rfl) (lenOf pd___I_I_III_Z_809 rfl) rfl (by show 2 * 0 + _ ≤ _; exact Nat.le_of_eq rfl) (hb hby at_92) hh59 ?_
    rintro v60 T60 L60 X60 ⟨rfl, N60q, hh60⟩
    have N60 := Fr.app N59 N60q
    show GG _ _ _ _ _ _ _ T60 (mkF m 95 #[.val (.int p0), .val (.int p1), .val (.int p2), .val (.int p3), .val (.int (4 : Int32)), .val (.ref bq51), .val (.ref bq52), .val (.ref ob53), .val (.ref bq58)] [(.int (1 : Int32))])
    have hc95 : ¬ ((1 : Int32) = (0 : Int32)) := by decide
    refine own_go (fun _ => XS.ifNo X60.here hx rfl (hb hby at_95) rfl ((if0 _ _).trans (feq hc95).1)) ?_
    show GG _ _ _ _ _ _ _ T60 (mkF m 98 #[.val (.int p0), .val (.int p1), .val (.int p2), .val (.int p3), .val (.int (4 : Int32)), .val (.ref bq51), .val (.ref bq52), .val (.ref ob53), .val (.ref bq58)] [])
    refine own_go (fun _ => XS.aload X60.here hx rfl (hb hby at_98) rfl rfl) ?_
    show GG _ _ _ _ _ _ _ T60 (mkF m 100 #[.val (.int p0), .val (.int p1), .val (.int p2), .val (.int p3), .val (.int (4 : Int32)), .val (.ref bq51), .val (.ref bq52), .val (.ref ob53), .val (.ref bq58)] [(.ref bq51)])
    refine own_go (fun _ => XS.aload X60.here hx rfl (hb hby at_100) rfl rfl) ?_
    show GG _ _ _ _ _ _ _ T60 (mkF m 102 #[.val (.int p0), .val (.int p1), .val (.int p2), .val (.int p3), .val (.int (4 : Int32)), .val (.ref bq51), .val (.ref bq52), .val (.ref ob53), .val (.ref bq58)] [(.ref bq52), (.ref bq51)])
    refine own_go (fun _ => XS.aload X60.here hx rfl (hb hby at_102) rfl rfl) ?_
    show GG _ _ _ _ _ _ _ T60 (mkF m 104 #[.val (.int p0), .val (.int p1), .val (.int p2), .val (.int p3), .val (.int (4 : Int32)), .val (.ref bq51), .val (.ref bq52), .val (.ref ob53), .val (.ref bq58)] [(.ref bq58), (.ref bq52), (.ref bq51)])
    refine own_go (fun _ => XS.iload X60.here hx rfl (hb hby at_104) rfl) ?_
    show GG _ _ _ _ _ _ _ T60 (mkF m 106 #[.val (.int p0), .val (.int p1), .val (.int p2), .val (.int p3), .val (.int (4 : Int32)), .val (.ref bq51), .val (.ref bq52), .val (.ref ob53), .val (.ref bq58)] [(.int (4 : Int32)), (.ref bq58), (.ref bq52), (.ref bq51)])
    refine own_go (fun _ => XS.iconst X60.here hx rfl (hb hby at_106)) ?_
    show GG _ _ _ _ _ _ _ T60 (mkF m 107 #[.val (.int p0), .val (.int p1), .val (.int p2), .val (.int p3), .val (.int (4 : Int32)), .val (.ref bq51), .val (.ref bq52), .val (.ref ob53), .val (.ref bq58)] [(.int (2 : Int32)), (.int (4 : Int32)), (.ref bq58), (.ref bq52), (.ref bq51)])
    refine own_callS X60 hx hZ (y := (⟨"com/example/hadamint/hadamint/GroupsPositionsPinLaw", "at", "([I[I[III)Z"⟩ : MethodName)) 0 hown (hw _ (List.mem_of_getElem? (i := 29) rfl)) (hw _ (List.mem_of_getElem? (i := 30) rfl)) (hw _ (List.mem_of_getElem? (i := 3) rfl)) (hw _ (List.mem_of_getElem? (i := 31) rfl)) (by decide) (argsL := [(.ref bq51), (.ref bq52), (.ref bq58), (.int (4 : Int32)), (.int (2 : Int32))]) (rest := []) (rm6 l Z a0 hw [] bq51 bq52 bq58 (4 : Int32) (2 : Int32) (bl 4 p1 p2 p3) Po58 2 T58.heap n0 (Nat.le_trans Z0 K0.1) Vq51 Vq52 Vq58 (by rw [hbl]; decide) (by decide) hG hpl58 hp58) (by decide) (by decide) (by decide) (by decide) (g := (mkF m 107 #[.val (.int p0), .val (.int p1), .val (.int p2), .val (.int p3), .val (.int (4 : Int32)), .val (.ref bq51), .val (.ref bq52), .val (.ref ob53), .val (.ref bq58)] [(.int (2 : Int32)), (.int (4 : Int32)), (.ref bq58), (.ref bq52), (.ref bq51)])) rfl (by rw [hml]; rfl) (lenOf pd___I_I_III_Z_809 rfl) rfl (by show 2 * 0 + _ ≤ _; exact Nat.le_of_eq rfl) (hb hby at_107) hh60 ?_
    rintro v61 T61 L61 X61 ⟨rfl, N61q, hh61⟩
    have N61 := Fr.app N60 N61q
    show GG _ _ _ _ _ _ _ T61 (mkF m 110 #[.val (.int p0), .val (.int p1), .val (.int p2), .val (.int p3), .val (.int (4 : Int32)), .val (.ref bq51), .val (.ref bq52), .val (.ref ob53), .val (.ref bq58)] [(.int (1 : Int32))])
    have hc110 : ¬ ((1 : Int32) = (0 : Int32)) := by decide
    refine own_go (fun _ => XS.ifNo X61.here hx rfl (hb hby at_110) rfl ((if0 _ _).trans (feq hc110).1)) ?_
    show GG _ _ _ _ _ _ _ T61 (mkF m 113 #[.val (.int p0), .val (.int p1), .val (.int p2), .val (.int p3), .val (.int (4 : Int32)), .val (.ref bq51), .val (.ref bq52), .val (.ref ob53), .val (.ref bq58)] [])
    refine own_go (fun _ => XS.aload X61.here hx rfl (hb hby at_113) rfl rfl) ?_
    show GG _ _ _ _ _ _ _ T61 (mkF m 115 #[.val (.int p0), .val (.int p1), .val (.int p2), .val (.int p3), .val (.int (4 : Int32)), .val (.ref bq51), .val (.ref bq52), .val (.ref ob53), .val (.ref bq58)] [(.ref bq51)])
    refine own_go (fun _ => XS.aload X61.here hx rfl (hb hby at_115) rfl rfl) ?_
    show GG _ _ _ _ _ _ _ T61 (mkF m 117 #[.val (.int p0), .val (.int p1), .val (.int p2), .val (.int p3), .val (.int (4 : Int32)), .val (.ref bq51), .val (.ref bq52), .val (.ref ob53), .val (.ref bq58)] [(.ref bq52), (.ref bq51)])
    refine own_go (fun _ => XS.aload X61.here hx rfl (hb hby at_117) rfl rfl) ?_
    show GG _ _ _ _ _ _ _ T61 (mkF m 119 #[.val (.int p0), .val (.int p1), .val (.int p2), .val (.int p3), .val (.int (4 : Int32)), .val (.ref bq51), .val (.ref bq52), .val (.ref ob53), .val (.ref bq58)] [(.ref bq58), (.ref bq52), (.ref bq51)])
    refine own_go (fun _ => XS.iload X61.here hx rfl (hb hby at_119) rfl) ?_
    show GG _ _ _ _ _ _ _ T61 (mkF m 121 #[.val (.int p0), .val (.int p1), .val (.int p2), .val (.int p3), .val (.int (4 : Int32)), .val (.ref bq51), .val (.ref bq52), .val (.ref ob53), .val (.ref bq58)] [(.int (4 : Int32)), (.ref bq58), (.ref bq52), (.ref bq51)])
    refine own_go (fun _ => XS.iconst X61.here hx rfl (hb hby at_121)) ?_
    show GG _ _ _ _ _ _ _ T61 (mkF m 122 #[.val (.int p0), .val (.int p1), .val (.int p2), .val (.int p3), .val (.int (4 : Int32)), .val (.ref bq51), .val (.ref bq52), .val (.ref ob53), .val (.ref bq58)] [(.int (3 : Int32)), (.int (4 : Int32)), (.ref bq58), (.ref bq52), (.ref bq51)])
    refine own_callS X61 hx hZ (y := (⟨"com/example/hadamint/hadamint/GroupsPositionsPinLaw", "at", "([I[I[III)Z"⟩ : MethodName)) 0 hown (hw _ (List.mem_of_getElem? (i := 29) rfl)) (hw _ (List.mem_of_getElem? (i := 30) rfl)) (hw _ (List.mem_of_getElem? (i := 3) rfl)) (hw _ (List.mem_of_getElem? (i := 31) rfl)) (by decide) (argsL := [(.ref bq51), (.ref bq52), (.ref bq58), (.int (4 : Int32)), (.int (3 : Int32))]) (rest := []) (rm6 l Z a0 hw [] bq51 bq52 bq58 (4 : Int32) (3 : Int32) (bl 4 p1 p2 p3) Po58 3 T58.heap n0 (Nat.le_trans Z0 K0.1) Vq51 Vq52 Vq58 (by rw [hbl]; decide) (by decide) hG hpl58 hp58) (by decide) (by decide) (by decide) (by decide) (g := (mkF m 122 #[.val (.int p0), .val (.int p1), .val (.int p2), .val (.int p3), .val (.int (4 : Int32)), .val (.ref bq51), .val (.ref bq52), .val (.ref ob53), .val (.ref bq58)] [(.int (3 : Int32)), (.int (4 : Int32)), (.ref bq58), (.ref bq52), (.ref bq51)])) rfl (by rw [hml]; rfl) (lenOf pd___I_I_III_Z_809 rfl) rfl (by show 2 * 0 + _ ≤ _; exact Nat.le_of_eq rfl) (hb hby at_122) hh61 ?_
    rintro v62 T62 L62 X62 ⟨rfl, N62q, hh62⟩
    have N62 := Fr.app N61 N62q
    show GG _ _ _ _ _ _ _ T62 (mkF m 125 #[.val (.int p0), .val (.int p1), .val (.int p2), .val (.int p3), .val (.int (4 : Int32)), .val (.ref bq51), .val (.ref bq52), .val (.ref ob53), .val (.ref bq58)] [(.int (1 : Int32))])
    have hc125 : ¬ ((1 : Int32) = (0 : Int32)) := by decide
    refine own_go (fun _ => XS.ifNo X62.here hx rfl (hb hby at_125) rfl ((if0 _ _).trans (feq hc125).1)) ?_
    show GG _ _ _ _ _ _ _ T62 (mkF m 128 #[.val (.int p0), .val (.int p1), .val (.int p2), .val (.int p3), .val (.int (4 : Int32)), .val (.ref bq51), .val (.ref bq52), .val (.ref ob53), .val (.ref bq58)] [])
    refine own_go (fun _ => XS.iconst X62.here hx rfl (hb hby at_128)) ?_
    show GG _ _ _ _ _ _ _ T62 (mkF m 129 #[.val (.int p0), .val (.int p1), .val (.int p2), .val (.int p3), .val (.int (4 : Int32)), .val (.ref bq51), .val (.ref bq52), .val (.ref ob53), .val (.ref bq58)] [(.int (1 : Int32))])
    refine own_go (fun _ => XS.goto X62.here hx rfl (pc0 := 129) (pc' := 133) rfl (hb hby at_129) (by decide) (by decide)) ?_
    show GG _ _ _ _ _ _ _ T62 (mkF m 133 #[.val (.int p0), .val (.int p1), .val (.int p2), .val (.int p3), .val (.int (4 : Int32)), .val (.ref bq51), .val (.ref bq52), .val (.ref ob53), .val (.ref bq58)] [(.int (1 : Int32))])
    refine own_ret X62 hx hlk (t := .boolean) (w := (.int (1 : Int32))) Bd.returns rfl (Or.inl ⟨rfl, by simp, _, rfl⟩) (hb hby at_133) (by decide) (by decide) ?_
    show Q0 Z p0 p1 p2 p3 h0 n0 (some (.int (1 : Int32))) T62.heap _
    rw [hh62]
    exact ⟨rfl, N62⟩
set_option maxRecDepth 65536 in
set_option maxHeartbeats 40000000 in
theorem comes_1 {Post : Tables → Env → Array Value → State → Outcome → State → Prop} (hpost : ∀ tb e args s v u, (limb_1_1.after args s (.returned v) u = true ∧ limb_1_2.after args s (.returned v) u = true ∧ True) → FrameEnd s (.returned v) u (Jvm.fieldLocs frame_1_writes args s ++ Jvm.arrayLocs frame_1_arrays args s ++ Jvm.staticLocs frame_1_statics s) 24 128 → Post tb e args s (.returned v) u) :
    ArmFor flags0 classFile x code maxLocals ret World_1 tables_1 room_1 Calls_1 rest_1 Pre_1 Post := by
  intro l hfl _ _ p e ha hc hk s m args below hf hA hF happ hP
  obtain ⟨hcalls, hrest, hpre⟩ := hP
  obtain ⟨-, -, -, hnamed, -, -, -, hat⟩ := (Spec.applies_iff hf).mp happ
  obtain ⟨hg, hn⟩ := and_e (Cond.before_iff.mp (show (Jvm.Cond.and given_1 narrow_1).before args s = true from hpre))
  obtain ⟨g1, g2⟩ := and_e hg
  obtain ⟨g3, g4⟩ := and_e g2
  obtain ⟨g5, g6⟩ := and_e g4
  obtain ⟨g7, g8⟩ := and_e g6
  obtain ⟨w0, w1, w2, w3, rfl⟩ : ∃ w0 w1 w2 w3 : Value, args = #[w0, w1, w2, w3] := by
    have hs : args.size = 4 := by simpa [Cond.value, given_1] using g1
    obtain ⟨L⟩ := args
    match L, hs with
    | [w0, w1, w2, w3], _ => exact ⟨w0, w1, w2, w3, rfl⟩
  have hw := fun d (hd : d ∈ tables_1) => atoms_spec (ws := Jvm.Cond.code x code maxLocals ret :: tables_1) hat d (List.mem_cons_of_mem _ hd)
  have hfit : Fit s := fun {y c} hc i hi => by
    obtain ⟨ha, rfl⟩ := Array.getElem?_eq_some_iff.mp hc
    have q := List.all_eq_true.mp ((Array.all_eq_true_iff_forall_mem.mp hF) _ (Array.getElem_mem ha)) i (List.mem_range.mpr hi)
    simpa [Array.getElem?_eq_getElem hi] using q
  obtain ⟨i0, ei0⟩ := is_v g3
  obtain rfl : w0 = (.int i0) := Option.some.inj ei0
  obtain ⟨i1, ei1⟩ := is_v g5
  obtain rfl : w1 = (.int i1) := Option.some.inj ei1
  obtain ⟨i2, ei2⟩ := is_v g7
  obtain rfl : w2 = (.int i2) := Option.some.inj ei2
  obtain ⟨i3, ei3⟩ := is_v g8
  obtain rfl : w3 = (.int i3) := Option.some.inj ei3
  obtain ⟨n, o, h1, h2, h3, _, L, rfl, ⟨rfl, N⟩, hq⟩ := rm0 l s _ hw tables_1 i0 i1 i2 i3 s.heap s.heap.size (Nat.le_refl _)  p e ha hc hk s m _ below hf ((Spec.applies_iff_loose hf).mp happ).1 ⟨rfl, State.Warmed39.refl s, rfl⟩ trivial
  refine ⟨n, _, h1, h2, h3, hpost _ _ _ _ _ _ ⟨Cond.after_iff.mpr rfl, Cond.after_iff.mpr (eq_i res_at (Term.int_eval (1)) rfl), trivial⟩ ⟨hq.1, hq.2.1, (hq.2.2.sift fun y hy => Or.inr (N y hy)).mono (by decide) (by decide)⟩⟩
theorem main_1_1 : Claimed_1_1 := comes_1 fun _ _ _ _ _ _ h hF => ⟨h.1, hF⟩
theorem main_1_2 : Claimed_1_2 := comes_1 fun _ _ _ _ _ _ h hF => ⟨h.2.1, hF⟩
end Jvm.Pilot.@@N@@
namespace Jvm.Pilot.@@N@@
open Jvm Jvm.ClassFile Sem Op Lib Jvm.Free Jvm.Stand Jvm.Pilot.@@N@@.Jvm.D
/-! MADE BY PROGRAM (witnessworld.py) out of the Statement's table words and the real class files: 10 classes; the members and pool entries that the words name. The judged class is class 1, her method 4. -/
namespace start1
open Jvm.ClassFile
def u (s : String) : CpInfo := .utf8 (stringToUtf16 s)
/-- a pool by its gaps: so many unusable entries, then the entry; so many at the end -/
def gap : Nat → List CpInfo → List CpInfo
  | 0, r => r
  | n + 1, r => .unusable :: gap n r
def poolList (es : List (Nat × CpInfo)) (last : Nat) : List CpInfo := es.foldr (fun e r => gap e.1 (e.2 :: r)) (gap last [])
def pool (es : List (Nat × CpInfo)) (last : Nat) : Array CpInfo := ⟨poolList es last⟩
def fileOf (pool : Array CpInfo) (this : Nat) (attrs : Array Attribute := #[]) (ms : Array MethodInfo := #[]) (fl : Nat := 33) (sup : Nat := 0) (ifs : Array Nat := #[]) (fds : Array FieldInfo := #[]) : ClassFile where
  minorVersion := 0
  majorVersion := 65
  constantPool := pool
  accessFlags := fl
  thisClass := this
  superClass := sup
  interfaces := ifs
  fields := fds
  methods := ms
  attributes := attrs
def plain (name : String) (sup : Option ClassId) : Class where
  name := name
  kind := .ordinary
  loader := none
  accessFlags := 33
  super := sup
  interfaces := #[]
  cf := none
  fields := #[]
  methods := #[]
  instanceTypes := #[]
  staticTypes := #[]
  resolved := #[]
  callSites := []
  init := .initialized
  statics := none
  mirror := none

def pool0 : Array CpInfo := pool [(5, u "<init>"), (0, u "()V"), (1, .class_ 10), (1, u "java/lang/Object")] 113

def k0c0 : Code := { maxStack := 0, maxLocals := 1, code := object_method_1_code, exceptionTable := #[], attributes := #[] }
def k0m0 : Method := { name := "<init>", desc := "()V", sig := { parameters := [], returnType := none }, accessFlags := 1, code := some k0c0 }
/-- java/lang/Object -/
def k0 : Class := { plain "java/lang/Object" none with
  accessFlags := 33
  interfaces := #[]
  cf := some (fileOf pool0 8 #[] #[{ accessFlags := 1, nameIndex := 5, descriptorIndex := 6, attributes := #[] }] 33 0 #[] #[])
  fields := #[]
  methods := #[k0m0]
  instanceTypes := #[]
  staticTypes := #[]
  resolved := Array.replicate 124 none
  statics := none }

def pool1 : Array CpInfo := pool [(2, .class_ 4), (1, u "java/lang/Object"), (0, u "<init>"), (0, u "()V"), (0, .integer 2147483647), (0, .methodref 9 10), (0, .class_ 11), (0, .nameAndType 12 13), (0, u "com/example/hadamint/hadamint/GroupsPositionsPinLaw"), (0, u "swap"), (0, u "([III)V"), (0, .methodref 9 15), (0, .nameAndType 16 17), (0, u "build"), (0, u "(IIII)[I"), (0, .class_ 19), (0, u "com/example/hadamint/hadamint/Groups"), (0, .methodref 18 21), (0, .nameAndType 5 22), (0, u "([I[I)V"), (0, .methodref 18 24), (0, .nameAndType 25 26), (0, u "positions"), (0, u "()[I"), (0, .methodref 9 28), (0, .nameAndType 29 30), (0, u "at"), (0, u "([I[I[III)Z"), (5, u "law"), (0, u "(IIII)Z")] 2

def k1m0 : Method := { name := "<init>", desc := "()V", sig := { parameters := [], returnType := none }, accessFlags := 1, code := none }
def k1c1 : Code := { maxStack := 4, maxLocals := 4, code := method_2_code, exceptionTable := #[], attributes := #[] }
def k1m1 : Method := { name := "swap", desc := "([III)V", sig := { parameters := [(.array .int), .int, .int], returnType := none }, accessFlags := 10, code := some k1c1 }
def k1c2 : Code := { maxStack := 5, maxLocals := 5, code := method_3_code, exceptionTable := #[], attributes := #[] }
def k1m2 : Method := { name := "build", desc := "(IIII)[I", sig := { parameters := [.int, .int, .int, .int], returnType := some (.array .int) }, accessFlags := 10, code := some k1c2 }
def k1c3 : Code := { maxStack := 3, maxLocals := 5, code := method_4_code, exceptionTable := #[], attributes := #[] }
def k1m3 : Method := { name := "at", desc := "([I[I[III)Z", sig := { parameters := [(.array .int), (.array .int), (.array .int), .int, .int], returnType := some .boolean }, accessFlags := 10, code := some k1c3 }
def k1c4 : Code := { maxStack := 6, maxLocals := 9, code := code, exceptionTable := #[], attributes := #[] }
def k1m4 : Method := { name := "law", desc := "(IIII)Z", sig := { parameters := [.int, .int, .int, .int], returnType := some .boolean }, accessFlags := 9, code := some k1c4 }
/-- com/example/hadamint/hadamint/GroupsPositionsPinLaw -/
def k1 : Class := { plain "com/example/hadamint/hadamint/GroupsPositionsPinLaw" (some 0) with
  accessFlags := 49
  interfaces := #[]
  cf := some (fileOf pool1 9 #[] #[{ accessFlags := 1, nameIndex := 5, descriptorIndex := 6, attributes := #[] }, { accessFlags := 10, nameIndex := 12, descriptorIndex := 13, attributes := #[] }, { accessFlags := 10, nameIndex := 16, descriptorIndex := 17, attributes := #[] }, { accessFlags := 10, nameIndex := 29, descriptorIndex := 30, attributes := #[] }, { accessFlags := 9, nameIndex := 36, descriptorIndex := 37, attributes := #[] }] 49 2 #[] #[])
  fields := #[]
  methods := #[k1m0, k1m1, k1m2, k1m3, k1m4]
  instanceTypes := #[]
  staticTypes := #[]
  resolved := Array.replicate 40 none
  statics := none }

def pool2 : Array CpInfo := pool [(1, .methodref 2 3), (0, .class_ 4), (0, .nameAndType 5 6), (0, u "java/lang/Object"), (0, u "<init>"), (0, u "()V"), (0, .class_ 8), (0, u "java/lang/Record")] 13

def k2c0 : Code := { maxStack := 1, maxLocals := 1, code := jdk_30_method_1_code, exceptionTable := #[], attributes := #[] }
def k2m0 : Method := { name := "<init>", desc := "()V", sig := { parameters := [], returnType := none }, accessFlags := 4, code := some k2c0 }
/-- java/lang/Record -/
def k2 : Class := { plain "java/lang/Record" (some 0) with
  accessFlags := 1057
  interfaces := #[]
  cf := some (fileOf pool2 7 #[] #[{ accessFlags := 4, nameIndex := 5, descriptorIndex := 6, attributes := #[] }] 1057 2 #[] #[])
  fields := #[]
  methods := #[k2m0]
  instanceTypes := #[]
  staticTypes := #[]
  resolved := Array.replicate 22 none
  statics := none }

def pool3 : Array CpInfo := pool [(1, .methodref 2 3), (0, .class_ 4), (0, .nameAndType 5 6), (0, u "java/lang/Record"), (0, u "<init>"), (0, u "()V"), (0, .fieldref 8 9), (0, .class_ 10), (0, .nameAndType 11 12), (0, u "com/example/hadamint/hadamint/Groups"), (0, u "starts"), (0, u "[I"), (0, .fieldref 8 14), (0, .nameAndType 15 12), (0, u "members"), (7, u "([I[I)V"), (18, u "positions"), (0, u "()[I")] 24

def k3c0 : Code := { maxStack := 2, maxLocals := 3, code := prog_5_method_1_code, exceptionTable := #[], attributes := #[] }
def k3m0 : Method := { name := "<init>", desc := "([I[I)V", sig := { parameters := [(.array .int), (.array .int)], returnType := none }, accessFlags := 0, code := some k3c0 }
def k3c1 : Code := { maxStack := 3, maxLocals := 3, code := prog_5_method_3_code, exceptionTable := #[], attributes := #[] }
def k3m1 : Method := { name := "positions", desc := "()[I", sig := { parameters := [], returnType := some (.array .int) }, accessFlags := 0, code := some k3c1 }
/-- com/example/hadamint/hadamint/Groups -/
def k3 : Class := { plain "com/example/hadamint/hadamint/Groups" (some 2) with
  accessFlags := 48
  interfaces := #[]
  cf := some (fileOf pool3 8 #[] #[{ accessFlags := 0, nameIndex := 5, descriptorIndex := 23, attributes := #[] }, { accessFlags := 0, nameIndex := 42, descriptorIndex := 43, attributes := #[] }] 48 2 #[] #[{ accessFlags := 18, nameIndex := 11, descriptorIndex := 12, attributes := #[] }, { accessFlags := 18, nameIndex := 15, descriptorIndex := 12, attributes := #[] }])
  fields := #[{ name := "starts", type := (.array .int), accessFlags := 18, slot := 0, constantValue := 0 }, { name := "members", type := (.array .int), accessFlags := 18, slot := 1, constantValue := 0 }]
  methods := #[k3m0, k3m1]
  instanceTypes := #[(.array .int), (.array .int)]
  staticTypes := #[]
  resolved := Array.replicate 68 none
  statics := none }

def pool4 : Array CpInfo := pool [(1, u "java/lang/Cloneable"), (0, .class_ 1), (0, u "java/lang/Object"), (0, .class_ 3)] 3

/-- java/lang/Cloneable -/
def k4 : Class := { plain "java/lang/Cloneable" (some 0) with
  accessFlags := 1537
  interfaces := #[]
  cf := some (fileOf pool4 2 #[] #[] 1537 4 #[] #[])
  fields := #[]
  methods := #[]
  instanceTypes := #[]
  staticTypes := #[]
  resolved := Array.replicate 8 none
  statics := none }

def pool5 : Array CpInfo := pool [(1, u "java/io/Serializable"), (0, .class_ 1), (0, u "java/lang/Object"), (0, .class_ 3)] 3

/-- java/io/Serializable -/
def k5 : Class := { plain "java/io/Serializable" (some 0) with
  accessFlags := 1537
  interfaces := #[]
  cf := some (fileOf pool5 2 #[] #[] 1537 4 #[] #[])
  fields := #[]
  methods := #[]
  instanceTypes := #[]
  staticTypes := #[]
  resolved := Array.replicate 8 none
  statics := none }

/-- the primitive byte -/
def k6 : Class := { plain "byte" none with kind := .primitive 'B', accessFlags := 0x411 }
/-- [B -/
def k7 : Class := { plain "[B" (some 0) with kind := .array 6 .byte, interfaces := #[4, 5], accessFlags := 1041 }

/-- the primitive int -/
def k8 : Class := { plain "int" none with kind := .primitive 'I', accessFlags := 0x411 }
/-- [I -/
def k9 : Class := { plain "[I" (some 0) with kind := .array 8 .int, interfaces := #[4, 5], accessFlags := 1041 }

def heap : Heap := #[]
def classes : Array Class := #[k0, k1, k2, k3, k4, k5, k6, k7, k8, k9]
def interned : List (Array UInt16 × Addr) := []
def slotsUsed : Nat := 0
def theMethod : MethodId := ⟨1, 4⟩
def args0 : Array Value := #[.int 3, .int 7, .int 8, .int 9]
def aboutOver (below : List Frame) : State where
  vm := { classes := classes, interned := interned.toArray }
  heap := heap
  slotsUsed := slotsUsed
  threads := #[{ frames := .invoking theMethod args0 :: below }]
def below0 : List Frame := [.native { method := ⟨0, 0⟩, args := #[] }]
def about1 : State := aboutOver below0
def p0 : Program := .bare "" "" ""
def e0 : Env := launch0.env 0 0 0
theorem w_frames : about1.frames = Frame.invoking theMethod args0 :: below0 := rfl
set_option maxRecDepth 65536 in
theorem w_args : argsFit about1.vm theMethod args0 = true := by decide +kernel
set_option maxRecDepth 65536 in
theorem w_heap : heapFits about1 = true := by decide +kernel
set_option maxRecDepth 65536 in
theorem w_runnable : about1.curStatus? = some .runnable := by decide +kernel
set_option maxRecDepth 65536 in
theorem w_alone : about1.alone = true := by decide +kernel
set_option maxRecDepth 65536 in
theorem w_named : about1.methodNamed? x = some theMethod := by decide +kernel
set_option maxRecDepth 65536 in
theorem w_hears : about1.hears theMethod below0 = true := by decide +kernel
set_option maxRecDepth 65536 in
theorem w_ripe : about1.ripe theMethod args0 below0 = true := by decide +kernel
theorem w_running : about1.status = .running := rfl
set_option maxRecDepth 65536 in
theorem w_room : about1.hasRoom e0.platform room_1 = true :=
  launch0.hasRoom_least _ room_1 (by decide +kernel) (by decide +kernel) (by decide +kernel) (by decide +kernel) (by decide +kernel) (by decide +kernel)
theorem allAtoms_all (ts : List Jvm.Cond) (a : Array Jvm.Value) (st : Jvm.State) : (allAtoms ts).before a st = ts.all (fun c => c.before a st) := by
  induction ts with
  | nil => rfl
  | cons c t ih =>
    show (Jvm.Cond.and c (allAtoms t)).before a st = _
    rw [Jvm.Cond.before_and, ih, List.all_cons]
def words1 : List Jvm.Cond := Jvm.Cond.code x code maxLocals ret :: tables_1
/-- a 'code' word, met by the world's own term for the bytes: nothing is compared byte by byte -/
theorem code_word {y : MethodName} {bytes : ByteArray} {mx : Nat} {rt : Option FieldType} {a : Array Value} {s : State} {m : MethodId} {meth : Method} {c : Code} (h1 : s.methodNamed? y = some m) (h2 : s.vm.method? m = some meth) (h3 : meth.code = some c) (h4 : c.code = bytes)
    (h5 : (c.maxLocals == mx && c.exceptionTable.isEmpty && decide (c.maxStack ≤ mostOperands) && decide (meth.sig.returnType = rt) && !meth.locks && decide (parseMethodDescriptor y.desc = some meth.sig)) = true) : (Jvm.Cond.code y bytes mx rt).before a s = true := by
  simp only [Bool.and_eq_true, beq_iff_eq, Bool.not_eq_true', decide_eq_true_eq] at h5
  obtain ⟨⟨⟨⟨⟨g1, g2⟩, g3⟩, g4⟩, g5⟩, g6⟩ := h5
  simp [Cond.before, Cond.holds, Cond.value, h1, h2, h3, h4, g1, g2, g3, g4, g5, g6]
def isCode : Jvm.Cond → Bool
  | .code _ _ _ _ => true
  | _ => false
theorem all_split {L : List Jvm.Cond} {P : Jvm.Cond → Bool} (h1 : L.all (fun c => isCode c || P c) = true) (h2 : ∀ c ∈ L.filter isCode, P c = true) : L.all P = true := by
  refine List.all_eq_true.mpr fun c hc => ?_
  have h := List.all_eq_true.mp h1 c hc
  rcases Bool.eq_false_or_eq_true (isCode c) with hi | hi
  · exact h2 c (List.mem_filter.mpr ⟨hc, hi⟩)
  · simpa [hi] using h
set_option maxRecDepth 65536 in
theorem w_c0 : (Jvm.Cond.code x code maxLocals ret).before args0 about1 = true := code_word (m := ⟨1, 4⟩) (meth := k1m4) (c := k1c4) (by decide +kernel) rfl rfl rfl (by decide +kernel)
set_option maxRecDepth 65536 in
theorem w_c1 : (Jvm.Cond.code ({ cls := "com/example/hadamint/hadamint/GroupsPositionsPinLaw", name := "build", desc := "(IIII)[I" } : Jvm.MethodName) method_3_code (5 : Nat) (Option.some (Jvm.ClassFile.FieldType.array Jvm.ClassFile.FieldType.int))).before args0 about1 = true := code_word (m := ⟨1, 2⟩) (meth := k1m2) (c := k1c2) (by decide +kernel) rfl rfl rfl (by decide +kernel)
set_option maxRecDepth 65536 in
theorem w_c2 : (Jvm.Cond.code ({ cls := "com/example/hadamint/hadamint/Groups", name := "<init>", desc := "([I[I)V" } : Jvm.MethodName) prog_5_method_1_code (3 : Nat) (Option.none : Option Jvm.ClassFile.FieldType)).before args0 about1 = true := code_word (m := ⟨3, 0⟩) (meth := k3m0) (c := k3c0) (by decide +kernel) rfl rfl rfl (by decide +kernel)
set_option maxRecDepth 65536 in
theorem w_c3 : (Jvm.Cond.code ({ cls := "java/lang/Record", name := "<init>", desc := "()V" } : Jvm.MethodName) jdk_30_method_1_code (1 : Nat) (Option.none : Option Jvm.ClassFile.FieldType)).before args0 about1 = true := code_word (m := ⟨2, 0⟩) (meth := k2m0) (c := k2c0) (by decide +kernel) rfl rfl rfl (by decide +kernel)
set_option maxRecDepth 65536 in
theorem w_c4 : (Jvm.Cond.code ({ cls := "java/lang/Object", name := "<init>", desc := "()V" } : Jvm.MethodName) object_method_1_code (1 : Nat) (Option.none : Option Jvm.ClassFile.FieldType)).before args0 about1 = true := code_word (m := ⟨0, 0⟩) (meth := k0m0) (c := k0c0) (by decide +kernel) rfl rfl rfl (by decide +kernel)
set_option maxRecDepth 65536 in
theorem w_c5 : (Jvm.Cond.code ({ cls := "com/example/hadamint/hadamint/Groups", name := "positions", desc := "()[I" } : Jvm.MethodName) prog_5_method_3_code (3 : Nat) (Option.some (Jvm.ClassFile.FieldType.array Jvm.ClassFile.FieldType.int))).before args0 about1 = true := code_word (m := ⟨3, 1⟩) (meth := k3m1) (c := k3c1) (by decide +kernel) rfl rfl rfl (by decide +kernel)
set_option maxRecDepth 65536 in
theorem w_c6 : (Jvm.Cond.code ({ cls := "com/example/hadamint/hadamint/GroupsPositionsPinLaw", name := "at", desc := "([I[I[III)Z" } : Jvm.MethodName) method_4_code (5 : Nat) (Option.some Jvm.ClassFile.FieldType.boolean)).before args0 about1 = true := code_word (m := ⟨1, 3⟩) (meth := k1m3) (c := k1c3) (by decide +kernel) rfl rfl rfl (by decide +kernel)
set_option maxRecDepth 65536 in
theorem w_c7 : (Jvm.Cond.code ({ cls := "com/example/hadamint/hadamint/GroupsPositionsPinLaw", name := "swap", desc := "([III)V" } : Jvm.MethodName) method_2_code (4 : Nat) (Option.none : Option Jvm.ClassFile.FieldType)).before args0 about1 = true := code_word (m := ⟨1, 1⟩) (meth := k1m1) (c := k1c1) (by decide +kernel) rfl rfl rfl (by decide +kernel)
def codes1 : List Jvm.Cond := [Jvm.Cond.code x code maxLocals ret, Jvm.Cond.code ({ cls := "com/example/hadamint/hadamint/GroupsPositionsPinLaw", name := "build", desc := "(IIII)[I" } : Jvm.MethodName) method_3_code (5 : Nat) (Option.some (Jvm.ClassFile.FieldType.array Jvm.ClassFile.FieldType.int)), Jvm.Cond.code ({ cls := "com/example/hadamint/hadamint/Groups", name := "<init>", desc := "([I[I)V" } : Jvm.MethodName) prog_5_method_1_code (3 : Nat) (Option.none : Option Jvm.ClassFile.FieldType), Jvm.Cond.code ({ cls := "java/lang/Record", name := "<init>", desc := "()V" } : Jvm.MethodName) jdk_30_method_1_code (1 : Nat) (Option.none : Option Jvm.ClassFile.FieldType), Jvm.Cond.code ({ cls := "java/lang/Object", name := "<init>", desc := "()V" } : Jvm.MethodName) object_method_1_code (1 : Nat) (Option.none : Option Jvm.ClassFile.FieldType), Jvm.Cond.code ({ cls := "com/example/hadamint/hadamint/Groups", name := "positions", desc := "()[I" } : Jvm.MethodName) prog_5_method_3_code (3 : Nat) (Option.some (Jvm.ClassFile.FieldType.array Jvm.ClassFile.FieldType.int)), Jvm.Cond.code ({ cls := "com/example/hadamint/hadamint/GroupsPositionsPinLaw", name := "at", desc := "([I[I[III)Z" } : Jvm.MethodName) method_4_code (5 : Nat) (Option.some Jvm.ClassFile.FieldType.boolean), Jvm.Cond.code ({ cls := "com/example/hadamint/hadamint/GroupsPositionsPinLaw", name := "swap", desc := "([III)V" } : Jvm.MethodName) method_2_code (4 : Nat) (Option.none : Option Jvm.ClassFile.FieldType)]
set_option maxRecDepth 65536 in
theorem codes_eq : words1.filter isCode = codes1 := rfl
theorem w_codes : ∀ c ∈ words1.filter isCode, c.before args0 about1 = true := by
  rw [codes_eq]
  intro c hc
  simp only [codes1, List.mem_cons, List.not_mem_nil, or_false] at hc
  rcases hc with rfl | rfl | rfl | rfl | rfl | rfl | rfl | rfl
  · exact w_c0
  · exact w_c1
  · exact w_c2
  · exact w_c3
  · exact w_c4
  · exact w_c5
  · exact w_c6
  · exact w_c7
set_option maxRecDepth 65536 in
theorem w_t1 : (words1.take 24).all (fun c => isCode c || c.before args0 about1) = true := by decide +kernel
set_option maxRecDepth 65536 in
theorem w_t2 : (words1.drop 24).all (fun c => isCode c || c.before args0 about1) = true := by decide +kernel
theorem w_tables : (allAtoms (Jvm.Cond.code x code maxLocals ret :: tables_1)).before args0 about1 = true := by
  rw [allAtoms_all]
  show words1.all (fun c => c.before args0 about1) = true
  refine all_split ?_ w_codes
  rw [← List.take_append_drop 24 words1, List.all_append, w_t1, w_t2]
  rfl
set_option maxRecDepth 65536 in
theorem w_case : (Jvm.Cond.and given_1 narrow_1).before args0 about1 = true := by decide +kernel
theorem w_applies : (headSpec (Jvm.Cond.code x code maxLocals ret :: tables_1) room_1).applies x e0.platform about1 = true :=
  (Spec.applies_iff w_frames).mpr ⟨w_running, w_runnable, w_alone, w_named, w_hears, w_ripe, w_room, w_tables⟩
theorem atStart : AtStart classFile x code maxLocals ret World_1 tables_1 room_1 Calls_1 rest_1 Pre_1 launch0 p0 e0 about1 theMethod args0 below0 :=
  ⟨lists_1, trivial, launch0.admits_env _ _ _, launch0.least_env, fairChoices_fair.cas, fairChoices_fair.clock, w_frames, w_args, w_heap, w_applies, trivial, trivial, w_case⟩
end start1
theorem witness_1 : WitnessClaimed_1 := ⟨start1.p0, start1.e0, start1.about1, start1.theMethod, start1.args0, start1.below0, start1.atStart⟩
end Jvm.Pilot.@@N@@
