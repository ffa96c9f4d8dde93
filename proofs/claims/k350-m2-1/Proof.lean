import JvmDerived
import JvmDerived.Pilot.@@N@@Statement
import JvmDerived.Pilot.@@N@@Code
set_option linter.unusedVariables false
set_option linter.unusedSimpArgs false
namespace Jvm.Pilot.@@N@@
open Jvm Jvm.ClassFile Sem Op Lib Jvm.Free Jvm.Stand Jvm.LawKit Jvm.RoadKit Bundle Jvm.Pilot.@@N@@.Jvm.D
section Own
variable {p : Program} {l : Launch} {e : Env} {R : Room} {s : State} {m : MethodId} {args : Array Value} {below : List Frame} {meth : Method} {c : Code} {T : State} {locs : List Loc} {cells slots : Nat} {Z : State} {a0 : Array Value} {h h' : Heap} {rc rs : Nat} {Q Qc : Option Value → Heap → List Loc → Prop}
/-- from here the run comes to its end, and leaves what Q says -/
def GG (p : Program) (e : Env) (below : List Frame) (s : State) (rc rs : Nat) (Q : Option Value → Heap → List Loc → Prop) (T : State) (g : JFrame) : Prop :=
  ∃ s₂ o, Steps p.tables e below (T.setTop g) s₂ ∧ s₂.status = .running ∧ Ended s₂ below o ∧ ∃ v L, o = .returned v ∧ Q v s₂.heap L ∧ FrameEnd s o s₂ L rc rs
theorem own_go {T' : State} {g g' : JFrame} (st : ∀ t, Steps p.tables e below (T'.setTop g') t → Steps p.tables e below (T.setTop g) t) (k : GG p e below s rc rs Q T' g') : GG p e below s rc rs Q T g := by
  obtain ⟨s₂, o, h1, h2⟩ := k
  exact ⟨s₂, o, st _ h1, h2⟩
theorem own_in {g g' : JFrame} (q : g = g') (k : GG p e below s rc rs Q T g') : GG p e below s rc rs Q T g := q ▸ k
theorem own_if {g1 g2 : JFrame} {P : Prop} [Decidable P] (k1 : P → GG p e below s rc rs Q T g1) (k2 : ¬ P → GG p e below s rc rs Q T g2) : GG p e below s rc rs Q T (if P then g1 else g2) := by
  by_cases q : P
  · rw [if_pos q]; exact k1 q
  · rw [if_neg q]; exact k2 q
theorem own_join {g g' : JFrame} (k1 : GG p e below s rc rs Q T g' → GG p e below s rc rs Q T g) (k2 : GG p e below s rc rs Q T g') : GG p e below s rc rs Q T g := k1 k2
abbrev own_CT (l : Launch) (Z : State) (y : MethodName) (bytes : ByteArray) (maxL : Nat) (ret : Option FieldType) (ws : List Jvm.Cond) (rm : Room) (as : Array Value) (h : Heap) (Qc : Option Value → Heap → List Loc → Prop) : Prop :=
  MetFree l y (head1 (Jvm.Cond.code y bytes maxL ret :: ws) rm) (fun a U => a = as ∧ Z.Warmed39 U.vm ∧ U.heap = h) (fun _ _ _ _ _ => True) (fun _ U o U' => ∃ v L, o = .returned v ∧ Qc v U'.heap L ∧ FrameEnd U o U' L rm.cells rm.slots)
theorem own_callS (X : Stand p l e R s m args below meth c T locs cells slots) (hx : p.tables.exec = Jvm.exec) (hZ : Z.Warmed39 s.vm) {own : String} {index : Nat} {y : MethodName} {bytes : ByteArray} {maxL : Nat} {ret : Option FieldType} {rm : Room} (W : Nat)
    (hown : s.vm.findClass own = some m.cls) (w1 : (Jvm.Cond.methodLink own index y).before a0 Z = true) (w2 : (Jvm.Cond.static y).before a0 Z = true) (w3 : (Jvm.Cond.initialized y.cls).before a0 Z = true) (w4 : (Jvm.Cond.code y bytes maxL ret).before a0 Z = true)
    (hy : y.cls ≠ "java/lang/invoke/MethodHandle" ∧ y.cls ≠ "java/lang/invoke/VarHandle") {argsL rest : List Value} (hM : own_CT l Z y bytes maxL ret [] rm argsL.toArray h Qc)
    (hf : rm.frames + 1 ≤ R.frames) (hl : W + (maxL + 11) + rm.locals ≤ R.locals) (hc : cells + rm.cells ≤ R.cells) (hs : slots + rm.slots ≤ R.slots)
    {g : JFrame} (hg : g.method = m) (hsize : g.locals.size = c.maxLocals) (hlen : ∀ sig, parseMethodDescriptor y.desc = some sig → argsL.length = sig.parameters.length) (hstack : g.stack = argsL.reverse ++ rest) (hW : 2 * g.monitorRoom + (rest.map fun v => v.category).sum ≤ W)
    (hdg : decode c.code g.pc = .ok (.invokestatic index, 3)) (eT : T.heap = h)
    (k : ∀ (v : Option Value) (T' : State) (L : List Loc), Stand p l e R s m args below meth c T' (locs ++ L) (cells + rm.cells) (slots + rm.slots) → Qc v T'.heap L → GG p e below s rc rs Q T' { g with pc := g.pc + 3, stack := v.toList ++ rest }) : GG p e below s rc rs Q T g := by
  obtain ⟨v, vm₁, ⟨T', L', k', n'⟩, -, X', ⟨L, hQ, q1, q2, q3⟩, st⟩ := Jvm.LawKit.callS X hx hown (mvT hZ w1) (mvT hZ w2) (mvT hZ w3) (mvT hZ w4) hy (backOf (W := W) hM hZ w4 w3 hf hl) hg hsize hlen hstack hW hdg (fun _ _ => ⟨rfl, eT, hc, hs⟩)
  dsimp only [Pt.U, Pt.locs, Pt.cells, Pt.slots] at X' q1 q2 q3 st hQ
  subst q1 q2 q3
  exact own_go st (k v T' L X' hQ)
theorem own_callI (X : Stand p l e R s m args below meth c T locs cells slots) (hx : p.tables.exec = Jvm.exec) (hZ : Z.Warmed39 s.vm) {own : String} {index : Nat} {y : MethodName} {bytes : ByteArray} {maxL : Nat} {rm : Room} (W : Nat) (hy1 : y.name = "<init>")
    (hown : s.vm.findClass own = some m.cls) (w1 : (Jvm.Cond.methodLink own index y).before a0 Z = true) (w2 : (Jvm.Cond.instanceMethod y).before a0 Z = true) (w3 : (Jvm.Cond.initialized y.cls).before a0 Z = true) (w4 : (Jvm.Cond.code y bytes maxL none).before a0 Z = true)
    (hy : y.cls ≠ "java/lang/invoke/MethodHandle" ∧ y.cls ≠ "java/lang/invoke/VarHandle") {a : Addr} {argsL rest : List Value} (hM : own_CT l Z y bytes maxL none [] rm (.ref a :: argsL).toArray h Qc)
    (hf : rm.frames + 1 ≤ R.frames) (hl : W + (maxL + 11) + rm.locals ≤ R.locals) (hc : cells + rm.cells ≤ R.cells) (hs : slots + rm.slots ≤ R.slots)
    {g : JFrame} (hg : g.method = m) (hsize : g.locals.size = c.maxLocals) (hlen : ∀ sig, parseMethodDescriptor y.desc = some sig → argsL.length = sig.parameters.length) (hstack : g.stack = argsL.reverse ++ .ref a :: rest) (hW : 2 * g.monitorRoom + (rest.map fun v => v.category).sum ≤ W)
    (hdg : decode c.code g.pc = .ok (.invokespecial index, 3)) (eT : T.heap = h)
    (k : ∀ (v : Option Value) (T' : State) (L : List Loc), Stand p l e R s m args below meth c T' (locs ++ L) (cells + rm.cells) (slots + rm.slots) → Qc v T'.heap L → GG p e below s rc rs Q T' { g with pc := g.pc + 3, stack := v.toList ++ rest }) : GG p e below s rc rs Q T g := by
  obtain ⟨v, vm₁, ⟨T', L', k', n'⟩, -, X', ⟨L, hQ, q1, q2, q3⟩, st⟩ := X.specialBack hx hy1 hown (mvT hZ w1) (mvT hZ w2) (mvT hZ w4) hy (backOf (W := W) hM hZ w4 w3 hf hl) hg hsize (Steps.refl _) hlen hstack hW hdg (fun _ _ => ⟨rfl, eT, hc, hs⟩)
  dsimp only [Pt.U, Pt.locs, Pt.cells, Pt.slots] at X' q1 q2 q3 st hQ
  subst q1 q2 q3
  exact own_go (fun _ => st.trans) (k v T' L X' hQ)
theorem own_callV (X : Stand p l e R s m args below meth c T locs cells slots) (hx : p.tables.exec = Jvm.exec) (hZ : Z.Warmed39 s.vm) {own C : String} {index : Nat} {y z : MethodName} {bytes : ByteArray} {maxL : Nat} {ret : Option FieldType} {rm : Room} (W : Nat)
    (hown : s.vm.findClass own = some m.cls) (w1 : (Jvm.Cond.methodLink own index y).before a0 Z = true) (w2 : (Jvm.Cond.declares y).before a0 Z = true) (hnf : NotFace s y) (w5 : (Jvm.Cond.selects C y z).before a0 Z = true) (w6 : (Jvm.Cond.instanceMethod z).before a0 Z = true) (w3 : (Jvm.Cond.initialized z.cls).before a0 Z = true) (w4 : (Jvm.Cond.code z bytes maxL ret).before a0 Z = true)
    (hy : y.cls ≠ "java/lang/invoke/MethodHandle" ∧ y.cls ≠ "java/lang/invoke/VarHandle") {a : Addr} {argsL rest : List Value} (hM : own_CT l Z z bytes maxL ret [] rm (.ref a :: argsL).toArray h Qc)
    (hf : rm.frames + 1 ≤ R.frames) (hl : W + (maxL + 11) + rm.locals ≤ R.locals) (hc : cells + rm.cells ≤ R.cells) (hs : slots + rm.slots ≤ R.slots) (E : Exa Z h a C)
    {g : JFrame} (hg : g.method = m) (hsize : g.locals.size = c.maxLocals) (hlen : ∀ sig, parseMethodDescriptor y.desc = some sig → argsL.length = sig.parameters.length) (hstack : g.stack = argsL.reverse ++ .ref a :: rest) (hW : 2 * g.monitorRoom + (rest.map fun v => v.category).sum ≤ W)
    (hdg : decode c.code g.pc = .ok (.invokevirtual index, 3)) (eT : T.heap = h)
    (k : ∀ (v : Option Value) (T' : State) (L : List Loc), Stand p l e R s m args below meth c T' (locs ++ L) (cells + rm.cells) (slots + rm.slots) → Qc v T'.heap L → GG p e below s rc rs Q T' { g with pc := g.pc + 3, stack := v.toList ++ rest }) : GG p e below s rc rs Q T g := by
  obtain ⟨cq, kq, qa, qb, qc⟩ := isOf hZ eT E
  obtain ⟨v, vm₁, ⟨T', L', k', n'⟩, -, X', ⟨L, hQ, q1, q2, q3⟩, st⟩ := X.virtualBack hx hown (mvT hZ w1) (mvT hZ w2) hnf (mvT hZ w5) (mvT hZ w6) hy (backOf (W := W) hM hZ w4 w3 hf hl) qa qc hg hsize (Steps.refl _) hlen hstack hW hdg (fun _ _ => ⟨rfl, eT, hc, hs⟩)
  dsimp only [Pt.U, Pt.locs, Pt.cells, Pt.slots] at X' q1 q2 q3 st hQ
  subst q1 q2 q3
  exact own_go (fun _ => st.trans) (k v T' L X' hQ)
theorem own_callP (X : Stand p l e R s m args below meth c T locs cells slots) (hx : p.tables.exec = Jvm.exec) (hZ : Z.Warmed39 s.vm) {own C : String} {index : Nat} {y : MethodName} {bytes : ByteArray} {maxL : Nat} {ret : Option FieldType} {rm : Room} (W : Nat)
    (hown : s.vm.findClass own = some m.cls) (w1 : (Jvm.Cond.methodLink own index y).before a0 Z = true) (w2 : (Jvm.Cond.instanceMethod y).before a0 Z = true) {kk : Nat} (w5 : (Jvm.Cond.instantiable y.cls kk).before a0 Z = true) (w6 : (Jvm.Cond.privateMethod y).before a0 Z = true) (w3 : (Jvm.Cond.initialized y.cls).before a0 Z = true) (w4 : (Jvm.Cond.code y bytes maxL ret).before a0 Z = true)
    (hy : y.cls ≠ "java/lang/invoke/MethodHandle" ∧ y.cls ≠ "java/lang/invoke/VarHandle") {a : Addr} {argsL rest : List Value} (hM : own_CT l Z y bytes maxL ret [] rm (.ref a :: argsL).toArray h Qc)
    (hf : rm.frames + 1 ≤ R.frames) (hl : W + (maxL + 11) + rm.locals ≤ R.locals) (hc : cells + rm.cells ≤ R.cells) (hs : slots + rm.slots ≤ R.slots) (E : Exa Z h a C)
    {g : JFrame} (hg : g.method = m) (hsize : g.locals.size = c.maxLocals) (hlen : ∀ sig, parseMethodDescriptor y.desc = some sig → argsL.length = sig.parameters.length) (hstack : g.stack = argsL.reverse ++ .ref a :: rest) (hW : 2 * g.monitorRoom + (rest.map fun v => v.category).sum ≤ W)
    (hdg : decode c.code g.pc = .ok (.invokevirtual index, 3)) (eT : T.heap = h)
    (k : ∀ (v : Option Value) (T' : State) (L : List Loc), Stand p l e R s m args below meth c T' (locs ++ L) (cells + rm.cells) (slots + rm.slots) → Qc v T'.heap L → GG p e below s rc rs Q T' { g with pc := g.pc + 3, stack := v.toList ++ rest }) : GG p e below s rc rs Q T g := by
  obtain ⟨cq, q, q'⟩ := E.cell
  have hpr : s.PrivateAt y := Cond.privateMethod_at (mvP hZ w6 (args := #[]))
  obtain ⟨c1, k1, i1, i2, -, i4, -⟩ := Cond.instantiable_spec (show (Jvm.Cond.instantiable y.cls kk).before args s = true from mv hZ w5)
  have hsel : (Jvm.Cond.selects y.cls y y).before args s = true := selects_self_of_private i1 i2 (Bool.or_eq_false_iff.mp i4).1 hpr (mvT hZ w2) hy
  obtain ⟨v, vm₁, ⟨T', L', k', n'⟩, -, X', ⟨L, hQ, q1, q2, q3⟩, st⟩ := X.privateBack hx hown (mvT hZ w1) (mvT hZ w2) hsel hpr (mvT hZ w4) hy (backOf (W := W) hM hZ w4 w3 hf hl) hg hsize (Steps.refl _) (by rw [eT]; exact q) q' hlen hstack hW hdg (fun _ _ => ⟨rfl, eT, hc, hs⟩)
  dsimp only [Pt.U, Pt.locs, Pt.cells, Pt.slots] at X' q1 q2 q3 st hQ
  subst q1 q2 q3
  exact own_go (fun _ => st.trans) (k v T' L X' hQ)
theorem own_ret (X : Stand p l e R s m args below meth c T locs cells slots) (hx : p.tables.exec = Jvm.exec) (hlk : meth.locks = false) {t : FieldType} {w : Value} {i : Instr} {pc : Nat} {Ls : Array Slot} {rest : List Value} (hret : meth.sig.returnType = some t) (hn : narrow t w = w)
    (hi : (i = .ireturn ∧ (t = .int ∨ t = .boolean ∨ t = .byte ∨ t = .char ∨ t = .short) ∧ ∃ z, w = .int z) ∨ (i = .lreturn ∧ t = .long ∧ ∃ z, w = .long z) ∨ (i = .dreturn ∧ t = .double ∧ ∃ z, w = .double z) ∨ (i = .freturn ∧ t = .float ∧ ∃ z, w = .float z) ∨ (i = .areturn ∧ t.isReference = true ∧ w.isRef = true))
    (hd : decode c.code pc = .ok (i, 1)) (hc : cells ≤ rc) (hs : slots ≤ rs) (hQ : Q (some w) T.heap locs) : GG p e below s rc rs Q T (mkF m pc Ls (w :: rest)) := by
  obtain ⟨fs, hr, hrun, hended, hW, hsame⟩ := X.leave (v := some w) (fun h => by rw [hret] at h; cases h) hlk
  exact ⟨_, _, retOut X hx hret hn hi hd hr, hrun, hended, _, _, rfl, hQ, ⟨_, rfl⟩, hW, hsame.mono hc hs⟩
theorem own_retV (X : Stand p l e R s m args below meth c T locs cells slots) (hx : p.tables.exec = Jvm.exec) (hlk : meth.locks = false) {pc : Nat} {Ls : Array Slot} (hret : meth.sig.returnType = none)
    (hd : decode c.code pc = .ok (.return_, 1)) (hc : cells ≤ rc) (hs : slots ≤ rs) (hQ : Q none T.heap locs) : GG p e below s rc rs Q T (mkF m pc Ls []) := by
  obtain ⟨fs, hr, hrun, hended, hW, hsame⟩ := X.leave (v := none) (fun _ => rfl) hlk
  exact ⟨_, _, X.returnOut hx hret hd hr, hrun, hended, _, _, rfl, hQ, ⟨_, rfl⟩, hW, hsame.mono hc hs⟩
theorem own_nZ {P : Prop} [Decidable P] : narrow .boolean (.int (if P then 1 else 0)) = .int (if P then 1 else 0) := by split <;> rfl
/-- an array of values, all of them named -/
def Arx (Z : State) (h : Heap) (a : Addr) (ty : FieldType) (vs : List Value) : Prop := vs.length < 2 ^ 31 ∧ ∃ k dv, Arv Z h a k ty (Int32.ofNat vs.length) vs dv
variable {a b : Addr} {ty : FieldType} {vs : List Value}
theorem own_ofNat {n : Nat} (q : n < 2 ^ 31) : (Int32.ofNat n).toInt = n := Int32.toInt_ofNat_of_lt q
theorem own_clamp {n : Nat} (q : n < 2 ^ 31) : (Int32.ofNat n).toNatClampNeg = n := by simp only [Int32.toNatClampNeg, own_ofNat q]; rfl
theorem Arx.lt (V : Arx Z h a ty vs) : a < h.size := by obtain ⟨_, k, dv, V⟩ := V; exact V.lt
theorem Arx.ext (V : Arx Z h a ty vs) (E : Ext h h') : Arx Z h' a ty vs := by obtain ⟨q, k, dv, V⟩ := V; exact ⟨q, k, dv, V.ext E⟩
theorem Arx.other {sl : Nat} {v : Value} (V : Arx Z h b ty vs) (W : Wr h h' a sl v) (n : b ≠ a) : Arx Z h' b ty vs := by obtain ⟨q, k, dv, V⟩ := V; exact ⟨q, k, dv, V.other W n⟩
theorem Arx.keep {ws : List Addr} (V : Arx Z h a ty vs) (K : Keep h h' ws) (n : a ∉ ws) : Arx Z h' a ty vs := by obtain ⟨q, k, dv, V⟩ := V; exact ⟨q, k, dv, V.keep K n⟩
theorem Arx.open {j : Int32} {v : Value} (V : Arx Z h a ty vs) (h0 : ¬ j < 0) (hv : vs[j.toNatClampNeg]? = some v) : ∃ cl, Arr Z h a cl ty ∧ ¬ (j < 0 ∨ cl.slots.size ≤ j.toNatClampNeg) ∧ cl.slots[j.toNatClampNeg]? = some v := by
  obtain ⟨q, k, dv, cl, A, -, S, -, H, -⟩ := V
  rw [own_clamp q] at S
  have hl := (List.getElem?_eq_some_iff.mp hv).1
  have e := H j.toNatClampNeg (by rw [S]; exact hl)
  rw [List.getD_eq_getElem?_getD, hv] at e
  exact ⟨cl, A, fun q' => q'.elim h0 (by rw [S]; exact Nat.not_le.mpr hl), e⟩
theorem own_len (X : Stand p l e R s m args below meth c T locs cells slots) (hx : p.tables.exec = Jvm.exec) (hZ : Z.Warmed39 s.vm) (eT : T.heap = h) (V : Arx Z h a ty vs) {g : JFrame} (hg : g.method = m) {rest : List Value} (hs : g.stack = .ref a :: rest) (hd : decode c.code g.pc = .ok (.arraylength, 1)) :
    ∀ t, Steps p.tables e below (T.setTop { g with pc := g.pc + 1, stack := .int (Int32.ofNat vs.length) :: rest }) t → Steps p.tables e below (T.setTop g) t := fun t k => by
  obtain ⟨q, k', dv, cl, A, -, S, N, -⟩ := V
  refine X.arraylength hx (by rw [eT]; exact A.1) (State.isArrayOf_alike hZ.alike A.2.1) hg hs hd _ ?_
  rw [len_of S N]; exact k
theorem own_iaload (X : Stand p l e R s m args below meth c T locs cells slots) (hx : p.tables.exec = Jvm.exec) (hZ : Z.Warmed39 s.vm) (eT : T.heap = h) (V : Arx Z h a .int vs) {j : Int32} {v : Value} (h0 : ¬ j < 0) (hv : vs[j.toNatClampNeg]? = some v) {g : JFrame} (hg : g.method = m) {rest : List Value} (hs : g.stack = .int j :: .ref a :: rest) (hd : decode c.code g.pc = .ok (.iaload, 1)) :
    ∀ t, Steps p.tables e below (T.setTop { g with pc := g.pc + 1, stack := v :: rest }) t → Steps p.tables e below (T.setTop g) t := fun t k => by
  obtain ⟨cl, A, h1, h2⟩ := V.open h0 hv
  exact X.iaload hx (by rw [eT]; exact A.1) (State.isArrayOf_alike hZ.alike A.2.1) A.2.2 h1 h2 hg hs hd _ k
theorem own_laload (X : Stand p l e R s m args below meth c T locs cells slots) (hx : p.tables.exec = Jvm.exec) (hZ : Z.Warmed39 s.vm) (eT : T.heap = h) (V : Arx Z h a .long vs) {j : Int32} {v : Value} (h0 : ¬ j < 0) (hv : vs[j.toNatClampNeg]? = some v) {g : JFrame} (hg : g.method = m) {rest : List Value} (hs : g.stack = .int j :: .ref a :: rest) (hd : decode c.code g.pc = .ok (.laload, 1)) :
    ∀ t, Steps p.tables e below (T.setTop { g with pc := g.pc + 1, stack := v :: rest }) t → Steps p.tables e below (T.setTop g) t := fun t k => by
  obtain ⟨cl, A, h1, h2⟩ := V.open h0 hv
  exact X.laload hx (by rw [eT]; exact A.1) (State.isArrayOf_alike hZ.alike A.2.1) A.2.2 h1 h2 hg hs hd _ k
theorem own_caload (X : Stand p l e R s m args below meth c T locs cells slots) (hx : p.tables.exec = Jvm.exec) (hZ : Z.Warmed39 s.vm) (eT : T.heap = h) (V : Arx Z h a .char vs) {j : Int32} {v : Value} (h0 : ¬ j < 0) (hv : vs[j.toNatClampNeg]? = some v) {g : JFrame} (hg : g.method = m) {rest : List Value} (hs : g.stack = .int j :: .ref a :: rest) (hd : decode c.code g.pc = .ok (.caload, 1)) :
    ∀ t, Steps p.tables e below (T.setTop { g with pc := g.pc + 1, stack := v :: rest }) t → Steps p.tables e below (T.setTop g) t := fun t k => by
  obtain ⟨cl, A, h1, h2⟩ := V.open h0 hv
  exact X.caload hx (by rw [eT]; exact A.1) (State.isArrayOf_alike hZ.alike A.2.1) A.2.2 h1 h2 hg hs hd _ k
theorem own_baload (X : Stand p l e R s m args below meth c T locs cells slots) (hx : p.tables.exec = Jvm.exec) (hZ : Z.Warmed39 s.vm) (eT : T.heap = h) (V : Arx Z h a .byte vs) {j : Int32} {v : Value} (h0 : ¬ j < 0) (hv : vs[j.toNatClampNeg]? = some v) {g : JFrame} (hg : g.method = m) {rest : List Value} (hs : g.stack = .int j :: .ref a :: rest) (hd : decode c.code g.pc = .ok (.baload, 1)) :
    ∀ t, Steps p.tables e below (T.setTop { g with pc := g.pc + 1, stack := v :: rest }) t → Steps p.tables e below (T.setTop g) t := fun t k => by
  obtain ⟨cl, A, h1, h2⟩ := V.open h0 hv
  exact X.baloadBytes hx (by rw [eT]; exact A.1) (State.isArrayOf_alike hZ.alike A.2.1) A.2.2 h1 h2 hg hs hd _ k
theorem own_aaload (X : Stand p l e R s m args below meth c T locs cells slots) (hx : p.tables.exec = Jvm.exec) (hZ : Z.Warmed39 s.vm) (eT : T.heap = h) (V : Arx Z h a ty vs) (ht : ty.isReference = true) {j : Int32} {v : Value} (h0 : ¬ j < 0) (hv : vs[j.toNatClampNeg]? = some v) {g : JFrame} (hg : g.method = m) {rest : List Value} (hs : g.stack = .int j :: .ref a :: rest) (hd : decode c.code g.pc = .ok (.aaload, 1)) :
    ∀ t, Steps p.tables e below (T.setTop { g with pc := g.pc + 1, stack := v :: rest }) t → Steps p.tables e below (T.setTop g) t := fun t k => by
  obtain ⟨cl, A, h1, h2⟩ := V.open h0 hv
  exact X.aaload hx (by rw [eT]; exact A.1) (State.isArrayOf_alike hZ.alike A.2.1) ht A.2.2 h1 h2 hg hs hd _ k
theorem Arx.put {j : Int32} {v : Value} (V : Arx Z h a ty vs) (h0 : ¬ j < 0) (hj : j.toNatClampNeg < vs.length) (hv : fits ty v = true) : ∃ cl, Arr Z h a cl ty ∧ ¬ (j < 0 ∨ cl.slots.size ≤ j.toNatClampNeg) ∧ ∀ {h' : Heap}, Wr h h' a j.toNatClampNeg v → Arx Z h' a ty (vs.set j.toNatClampNeg v) := by
  obtain ⟨q, k, dv, cl, A, q1, S, N, H, G⟩ := V
  refine ⟨cl, A, fun q' => q'.elim h0 ?_, fun W => ⟨by rw [List.length_set]; exact q, k, dv, ?_⟩⟩
  · rw [S, own_clamp q]; exact Nat.not_le.mpr hj
  · rw [List.length_set]; exact Arv.set A q1 S N H G hv W _ rfl hj
theorem own_iastore (X : Stand p l e R s m args below meth c T locs cells slots) (hx : p.tables.exec = Jvm.exec) (hZ : Z.Warmed39 s.vm) (eT : T.heap = h) (V : Arx Z h a .int vs) {j x : Int32} (h0 : ¬ j < 0) (hj : j.toNatClampNeg < vs.length) {g : JFrame} (hg : g.method = m) {rest : List Value} (hs : g.stack = .int x :: .int j :: .ref a :: rest) (hd : decode c.code g.pc = .ok (.iastore, 1)) :
    ∃ T' h', Stand p l e R s m args below meth c T' (locs ++ [⟨a, j.toNatClampNeg⟩]) cells slots ∧ T'.heap = h' ∧ Wr h h' a j.toNatClampNeg (.int x) ∧ Arx Z h' a .int (vs.set j.toNatClampNeg (.int x)) ∧ ∀ t, Steps p.tables e below (T'.setTop { g with pc := g.pc + 1, stack := rest }) t → Steps p.tables e below (T.setTop g) t := by
  obtain ⟨cl, A, h1, h2⟩ := V.put (v := .int x) h0 hj rfl
  obtain ⟨T', h', X', e', W, st⟩ := stI X hx hZ eT A h1 hg hs hd
  exact ⟨T', h', X', e', W, h2 W, st⟩
theorem own_lastore (X : Stand p l e R s m args below meth c T locs cells slots) (hx : p.tables.exec = Jvm.exec) (hZ : Z.Warmed39 s.vm) (eT : T.heap = h) (V : Arx Z h a .long vs) {j : Int32} {x : Int64} (h0 : ¬ j < 0) (hj : j.toNatClampNeg < vs.length) {g : JFrame} (hg : g.method = m) {rest : List Value} (hs : g.stack = .long x :: .int j :: .ref a :: rest) (hd : decode c.code g.pc = .ok (.lastore, 1)) :
    ∃ T' h', Stand p l e R s m args below meth c T' (locs ++ [⟨a, j.toNatClampNeg⟩]) cells slots ∧ T'.heap = h' ∧ Wr h h' a j.toNatClampNeg (.long x) ∧ Arx Z h' a .long (vs.set j.toNatClampNeg (.long x)) ∧ ∀ t, Steps p.tables e below (T'.setTop { g with pc := g.pc + 1, stack := rest }) t → Steps p.tables e below (T.setTop g) t := by
  obtain ⟨cl, A, h1, h2⟩ := V.put (v := .long x) h0 hj rfl
  obtain ⟨T', h', X', e', W, st⟩ := stJ X hx hZ eT A h1 hg hs hd
  exact ⟨T', h', X', e', W, h2 W, st⟩
theorem own_castore (X : Stand p l e R s m args below meth c T locs cells slots) (hx : p.tables.exec = Jvm.exec) (hZ : Z.Warmed39 s.vm) (eT : T.heap = h) (V : Arx Z h a .char vs) {j x : Int32} (h0 : ¬ j < 0) (hj : j.toNatClampNeg < vs.length) {g : JFrame} (hg : g.method = m) {rest : List Value} (hs : g.stack = .int x :: .int j :: .ref a :: rest) (hd : decode c.code g.pc = .ok (.castore, 1)) :
    ∃ T' h', Stand p l e R s m args below meth c T' (locs ++ [⟨a, j.toNatClampNeg⟩]) cells slots ∧ T'.heap = h' ∧ Wr h h' a j.toNatClampNeg (.int (nar .char x)) ∧ Arx Z h' a .char (vs.set j.toNatClampNeg (.int (nar .char x))) ∧ ∀ t, Steps p.tables e below (T'.setTop { g with pc := g.pc + 1, stack := rest }) t → Steps p.tables e below (T.setTop g) t := by
  obtain ⟨cl, A, h1, h2⟩ := V.put (v := .int (nar .char x)) h0 hj (fits_nar_char _)
  obtain ⟨T', h', X', e', W, st⟩ := stC X hx hZ eT A h1 hg hs hd
  exact ⟨T', h', X', e', W, h2 W, st⟩
theorem own_bastore (X : Stand p l e R s m args below meth c T locs cells slots) (hx : p.tables.exec = Jvm.exec) (hZ : Z.Warmed39 s.vm) (eT : T.heap = h) (V : Arx Z h a .byte vs) {j x : Int32} (h0 : ¬ j < 0) (hj : j.toNatClampNeg < vs.length) {g : JFrame} (hg : g.method = m) {rest : List Value} (hs : g.stack = .int x :: .int j :: .ref a :: rest) (hd : decode c.code g.pc = .ok (.bastore, 1)) :
    ∃ T' h', Stand p l e R s m args below meth c T' (locs ++ [⟨a, j.toNatClampNeg⟩]) cells slots ∧ T'.heap = h' ∧ Wr h h' a j.toNatClampNeg (.int (nar .byte x)) ∧ Arx Z h' a .byte (vs.set j.toNatClampNeg (.int (nar .byte x))) ∧ ∀ t, Steps p.tables e below (T'.setTop { g with pc := g.pc + 1, stack := rest }) t → Steps p.tables e below (T.setTop g) t := by
  obtain ⟨cl, A, h1, h2⟩ := V.put (v := .int (nar .byte x)) h0 hj (fits_nar_byte _)
  obtain ⟨T', h', X', e', W, st⟩ := stB X hx hZ eT A h1 hg hs hd
  exact ⟨T', h', X', e', W, h2 W, st⟩
theorem own_newarr (X : Stand p l e R s m args below meth c T locs cells slots) (hx : p.tables.exec = Jvm.exec) (hZ : Z.Warmed39 s.vm) {aty : ArrayType} (w : (Jvm.Cond.arrayClass (newarray.typeOf aty)).before a0 Z = true) (eT : T.heap = h) {g : JFrame} (hg : g.method = m) (hd : decode c.code g.pc = .ok (.newarray aty, 2)) {n : Int32} {rest : List Value} (hs : g.stack = .int n :: rest)
    (hn : ¬ n < 0) {cap : Nat} (hcap : n.toNatClampNeg ≤ cap) (hb : cap * 8 ≤ 536870912) (hc : cells + 1 ≤ R.cells) (hl : slots + cap ≤ R.slots) {ad : String} (had : "[" ++ (newarray.typeOf aty).toString = ad) :
    ∃ T' h' a, a = h.size ∧ Stand p l e R s m args below meth c T' locs (cells + 1) (slots + cap) ∧ T'.heap = h' ∧ Ext h h' ∧ Arx Z h' a (newarray.typeOf aty) (List.replicate n.toNatClampNeg (defaultValue (newarray.typeOf aty))) ∧ Exa Z h' a ad ∧
      ∀ t, Steps p.tables e below (T'.setTop { g with pc := g.pc + 2, stack := .ref a :: rest }) t → Steps p.tables e below (T.setTop g) t := by
  obtain ⟨T', h', cA, X', e', E, A, Ex, st⟩ := newPE X hx hZ w eT hg hd hs hn hcap hb hc hl had
  have b := back32 hn
  refine ⟨T', h', _, rfl, X', e', E, ⟨by rw [List.length_replicate]; exact b.2, cA, defaultValue (newarray.typeOf aty), ?_⟩, Ex, st⟩
  rw [List.length_replicate, show Int32.ofNat n.toNatClampNeg = n from b.1]
  exact (Arv.new A hn).pad (pad_rep [] _ _)
theorem own_clone (X : Stand p l e R s m args below meth c T locs cells slots) (hx : p.tables.exec = Jvm.exec) (hZ : Z.Warmed39 s.vm) {own ad : String} {index : Nat} (hown : s.vm.findClass own = some m.cls)
    (w1 : (Jvm.Cond.methodLink own index ⟨ad, "clone", "()Ljava/lang/Object;"⟩).before a0 Z = true) (w2 : (Jvm.Cond.sameMethod ad "java/lang/Object" "clone" "()Ljava/lang/Object;").before a0 Z = true) (w3 : (Jvm.Cond.native ⟨"java/lang/Object", "clone", "()Ljava/lang/Object;"⟩).before a0 Z = true)
    (w4 : (Jvm.Cond.instanceMethod ⟨"java/lang/Object", "clone", "()Ljava/lang/Object;"⟩).before a0 Z = true) (w5 : (Jvm.Cond.selects ad ⟨ad, "clone", "()Ljava/lang/Object;"⟩ ⟨"java/lang/Object", "clone", "()Ljava/lang/Object;"⟩).before a0 Z = true) (w6 : (Jvm.Cond.castable ad "java/lang/Cloneable").before a0 Z = true)
    (eT : T.heap = h) (V : Arx Z h a ty vs) (E : Exa Z h a ad) {g : JFrame} (hg : g.method = m) (hsize : g.locals.size = c.maxLocals) {rest : List Value} (hst : g.stack = .ref a :: rest) (hd : decode c.code g.pc = .ok (.invokevirtual index, 3))
    (hf : 1 ≤ R.frames) {W cap : Nat} (hW : 2 * g.monitorRoom + (rest.map fun v => v.category).sum ≤ W) (hl : W + 14 ≤ R.locals) (hcap : vs.length ≤ cap) (hc : cells + 1 ≤ R.cells) (hsl : slots + cap ≤ R.slots) :
    ∃ T' h' b, b = h.size ∧ Stand p l e R s m args below meth c T' locs (cells + 1) (slots + cap) ∧ T'.heap = h' ∧ Ext h h' ∧ Arx Z h' b ty vs ∧ Exa Z h' b ad ∧
      ∀ t, Steps p.tables e below (T'.setTop { g with pc := g.pc + 3, stack := .ref b :: rest }) t → Steps p.tables e below (T.setTop g) t := by
  obtain ⟨q, k, dv, V⟩ := V
  obtain ⟨T', h', X', e', ex, V', E', st⟩ := cloneH X hx hZ hown w1 w2 w3 w4 w5 w6 eT V.arh E hg hsize hst hd hf hW hl (by rw [own_clamp q]; exact hcap) hc hsl
  exact ⟨T', h', _, rfl, X', e', ex, ⟨q, k, dv, V'⟩, E', st⟩
end Own
section OwnF
variable {p : Program} {l : Launch} {e : Env} {R : Room} {s : State} {m : MethodId} {args : Array Value} {below : List Frame} {meth : Method} {c : Code} {T : State} {locs : List Loc} {cells slots : Nat} {Z : State} {a0 : Array Value} {h h' : Heap} {a b : Addr} {ty : FieldType} {vs : List Value}
theorem own_daload (X : Stand p l e R s m args below meth c T locs cells slots) (hx : p.tables.exec = Jvm.exec) (hZ : Z.Warmed39 s.vm) (eT : T.heap = h) (V : Arx Z h a .double vs) {j : Int32} {v : Value} (h0 : ¬ j < 0) (hv : vs[j.toNatClampNeg]? = some v) {g : JFrame} (hg : g.method = m) {rest : List Value} (hs : g.stack = .int j :: .ref a :: rest) (hd : decode c.code g.pc = .ok (.daload, 1)) :
    ∀ t, Steps p.tables e below (T.setTop { g with pc := g.pc + 1, stack := v :: rest }) t → Steps p.tables e below (T.setTop g) t := fun t k => by
  obtain ⟨cl, A, h1, h2⟩ := V.open h0 hv
  exact X.daload hx (by rw [eT]; exact A.1) (State.isArrayOf_alike hZ.alike A.2.1) A.2.2 h1 h2 hg hs hd _ k
theorem own_faload (X : Stand p l e R s m args below meth c T locs cells slots) (hx : p.tables.exec = Jvm.exec) (hZ : Z.Warmed39 s.vm) (eT : T.heap = h) (V : Arx Z h a .float vs) {j : Int32} {v : Value} (h0 : ¬ j < 0) (hv : vs[j.toNatClampNeg]? = some v) {g : JFrame} (hg : g.method = m) {rest : List Value} (hs : g.stack = .int j :: .ref a :: rest) (hd : decode c.code g.pc = .ok (.faload, 1)) :
    ∀ t, Steps p.tables e below (T.setTop { g with pc := g.pc + 1, stack := v :: rest }) t → Steps p.tables e below (T.setTop g) t := fun t k => by
  obtain ⟨cl, A, h1, h2⟩ := V.open h0 hv
  exact X.faload hx (by rw [eT]; exact A.1) (State.isArrayOf_alike hZ.alike A.2.1) A.2.2 h1 h2 hg hs hd _ k
theorem own_dastore (X : Stand p l e R s m args below meth c T locs cells slots) (hx : p.tables.exec = Jvm.exec) (hZ : Z.Warmed39 s.vm) (eT : T.heap = h) (V : Arx Z h a .double vs) {j : Int32} {x : UInt64} (h0 : ¬ j < 0) (hj : j.toNatClampNeg < vs.length) {g : JFrame} (hg : g.method = m) {rest : List Value} (hs : g.stack = .double x :: .int j :: .ref a :: rest) (hd : decode c.code g.pc = .ok (.dastore, 1)) :
    ∃ T' h', Stand p l e R s m args below meth c T' (locs ++ [⟨a, j.toNatClampNeg⟩]) cells slots ∧ T'.heap = h' ∧ Wr h h' a j.toNatClampNeg (.double x) ∧ Arx Z h' a .double (vs.set j.toNatClampNeg (.double x)) ∧ ∀ t, Steps p.tables e below (T'.setTop { g with pc := g.pc + 1, stack := rest }) t → Steps p.tables e below (T.setTop g) t := by
  obtain ⟨cl, A, h1, h2⟩ := V.put (v := .double x) h0 hj rfl
  obtain ⟨T', h', X', e', W, st⟩ := stD X hx hZ eT A h1 hg hs hd
  exact ⟨T', h', X', e', W, h2 W, st⟩
theorem own_fastore (X : Stand p l e R s m args below meth c T locs cells slots) (hx : p.tables.exec = Jvm.exec) (hZ : Z.Warmed39 s.vm) (eT : T.heap = h) (V : Arx Z h a .float vs) {j : Int32} {x : UInt32} (h0 : ¬ j < 0) (hj : j.toNatClampNeg < vs.length) {g : JFrame} (hg : g.method = m) {rest : List Value} (hs : g.stack = .float x :: .int j :: .ref a :: rest) (hd : decode c.code g.pc = .ok (.fastore, 1)) :
    ∃ T' h', Stand p l e R s m args below meth c T' (locs ++ [⟨a, j.toNatClampNeg⟩]) cells slots ∧ T'.heap = h' ∧ Wr h h' a j.toNatClampNeg (.float x) ∧ Arx Z h' a .float (vs.set j.toNatClampNeg (.float x)) ∧ ∀ t, Steps p.tables e below (T'.setTop { g with pc := g.pc + 1, stack := rest }) t → Steps p.tables e below (T.setTop g) t := by
  obtain ⟨cl, A, h1, h2⟩ := V.put (v := .float x) h0 hj rfl
  obtain ⟨T', h', X', e', W, st⟩ := stF X hx hZ eT A h1 hg hs hd
  exact ⟨T', h', X', e', W, h2 W, st⟩
theorem own_i2dn (x : Int32) : Jvm.Free.Fl.NoNaN64 (FP.i2d x) := nn_w (i2d_w x)
theorem own_i2fn (x : Int32) : Jvm.Free.Fl.NoNaN32 (FP.i2f x) := nn_w32 (i2f_w x)
end OwnF
theorem own_nat {i : Int32} {n : Nat} (h : i.toInt = n) : i.toNatClampNeg = n := by simp only [Int32.toNatClampNeg, h]; rfl
theorem own_nn {i : Int32} (h : 0 ≤ i.toInt) : ¬ i < 0 := fun q => absurd (Int32.lt_iff_toInt_lt.mp q) (by show ¬ i.toInt < 0; omega)
theorem own_cl {i : Int32} (h0 : 0 ≤ i.toInt) (h1 : i.toInt < 4096) : i.toNatClampNeg < 4096 := by simp only [Int32.toNatClampNeg]; omega
theorem own_cne {i j : Int32} (h0 : 0 ≤ i.toInt) (h1 : 0 ≤ j.toInt) (q : ¬ (i = j)) : i.toNatClampNeg ≠ j.toNatClampNeg := fun z => q (by rw [← Int32.toInt_inj]; simp only [Int32.toNatClampNeg] at z; omega)
theorem own_df {x : UInt32} (h : Jvm.Free.Fl.Fin32 x) : FP.d2f (FP.f2d x) = x := Jvm.FP.V.d2f_f2d (Jvm.Free.Fl.noNaN32_no.mp h.noNaN)
theorem own_nn0 : Jvm.Free.Fl.NoNaN64 FP.dconst0 := by show FP.dconst0 &&& 0x7fffffffffffffff ≤ 0x7ff0000000000000; decide +kernel
theorem own_absn {x : UInt64} (h : Jvm.Free.Fl.NoNaN64 x) : Jvm.Free.Fl.NoNaN64 (x &&& 0x7fffffffffffffff) := by
  show (x &&& 0x7fffffffffffffff) &&& 0x7fffffffffffffff ≤ 0x7ff0000000000000
  rw [UInt64.and_assoc, UInt64.and_self]; exact h
theorem own_fin {x y : Int32} (hx : x ≠ 0) : Jvm.Free.Fl.Fin32 (FP.fdiv (FP.i2f y) (FP.i2f x)) := by
  have b := Jvm.FP.Core.i2f_big (Jvm.FP.Core.int32_ne hx)
  have q := Jvm.FP.Core.fdiv_mag (K := 160) (L := 127) (Jvm.FP.Core.i2f_mag y) b.1 b.2 (by decide) (by decide)
  rw [Jvm.Free.Fl.fin32_iff]
  exact Nat.lt_of_lt_of_le q (by decide)
theorem own_shl {z x : Int32} (h : (1 : Int32) <<< (z &&& 31) = x) (h0 : 0 ≤ z.toInt) (h1 : z.toInt ≤ 30) : x ≠ 0 := by
  have key : ∀ n : Fin 31, (1 : Int32) <<< (Int32.ofNat n.val &&& 31) ≠ 0 := by decide +kernel
  have e : z = Int32.ofNat z.toInt.toNat := by rw [← Int32.toInt_inj, Int32.toInt_ofNat_of_lt (by omega)]; omega
  have q := key ⟨z.toInt.toNat, by omega⟩
  rw [← e] at q
  rw [← h]; exact q
theorem own_set {α : Type} {ns fs : List α} {n : Nat} {y : α} (hl : n < ns.length) (hx : fs[n]? = some y) (hns : ∀ j, j < n → ns[j]? = fs[j]?) : ∀ j, j < n + 1 → (ns.set n y)[j]? = fs[j]? := by
  intro j hj
  rw [List.getElem?_set]
  by_cases q : n = j
  · subst q; rw [if_pos rfl, if_pos hl, hx]
  · rw [if_neg q]; exact hns j (by omega)
theorem own_all {α : Type} {ns fs : List α} {n : Nat} (h1 : ns.length = n) (h2 : fs.length = n) (hns : ∀ j, j < n → ns[j]? = fs[j]?) : ns = fs := List.ext_getElem? fun j => by
  by_cases q : j < n
  · exact hns j q
  · rw [List.getElem?_eq_none (by omega), List.getElem?_eq_none (by omega)]
def own_G (i j : Int32) (va vb : UInt32) : List UInt32 := ((List.replicate 4096 (0 : UInt32)).set i.toNatClampNeg va).set j.toNatClampNeg vb
theorem own_Gl (i j : Int32) (va vb : UInt32) : (own_G i j va vb).length = 4096 := by show (List.set _ _ _).length = _; rw [List.length_set, List.length_set, List.length_replicate]
theorem own_Gf {i j : Int32} {va vb : UInt32} (ha : Jvm.Free.Fl.Fin32 va) (hb : Jvm.Free.Fl.Fin32 vb) : ∀ x ∈ own_G i j va vb, Jvm.Free.Fl.Fin32 x := by
  intro x hx
  rcases List.mem_or_eq_of_mem_set hx with q | rfl
  · rcases List.mem_or_eq_of_mem_set q with q | rfl
    · rw [List.eq_of_mem_replicate q, Jvm.Free.Fl.fin32_iff]; decide
    · exact ha
  · exact hb
theorem own_Gj {i j : Int32} {va vb : UInt32} (h0 : 0 ≤ j.toInt) (h1 : j.toInt < 4096) : (own_G i j va vb)[j.toNatClampNeg]? = some vb := by
  show (List.set _ _ _)[_]? = _
  rw [List.getElem?_set_self (by rw [List.length_set, List.length_replicate]; exact own_cl h0 h1)]
theorem own_Gk {i j k : Int32} {va vb : UInt32} (hi : 0 ≤ i.toInt ∧ i.toInt < 4096) (hj : 0 ≤ j.toInt ∧ j.toInt < 4096) (hk : 0 ≤ k.toInt ∧ k.toInt < 4096) : (own_G i j va vb)[k.toNatClampNeg]? = some (if k = j then vb else (if k = i then va else FP.fconst0)) := by
  by_cases q : k = j
  · subst q; rw [if_pos rfl]; exact own_Gj hj.1 hj.2
  · rw [if_neg q]
    show (List.set _ _ _)[_]? = _
    rw [List.getElem?_set_ne (own_cne hj.1 hk.1 (fun z => q z.symm))]
    by_cases r : k = i
    · subst r; rw [if_pos rfl, List.getElem?_set_self (by rw [List.length_replicate]; exact own_cl hk.1 hk.2)]
    · rw [if_neg r, List.getElem?_set_ne (own_cne hi.1 hk.1 (fun z => r z.symm)), List.getElem?_replicate, if_pos (own_cl hk.1 hk.2)]; rfl
theorem own_Gi {i j : Int32} {va vb : UInt32} (hi : 0 ≤ i.toInt ∧ i.toInt < 4096) (hj : 0 ≤ j.toInt ∧ j.toInt < 4096) : (own_G i j va vb)[i.toNatClampNeg]? = some (if i = j then vb else va) := by
  rw [own_Gk hi hj hi, if_pos rfl]
theorem own_and {args : Array Value} {s : State} {a b : Jvm.Cond} (ha : a.before args s = true) (hb : b.before args s = true) : (Jvm.Cond.and a b).before args s = true := by rw [Cond.before_and, ha, hb]; rfl
theorem own_callB {p : Program} {l : Launch} {e : Env} {R : Room} {s : State} {m : MethodId} {args : Array Value} {below : List Frame} {meth : Method} {c : Code} {T : State} {locs : List Loc} {cells slots : Nat} {Z : State} {a0 : Array Value} {h : Heap} {rc rs : Nat} {Q : Option Value → Heap → List Loc → Prop}
    (X : Stand p l e R s m args below meth c T locs cells slots) (hx : p.tables.exec = Jvm.exec) (hZ : Z.Warmed39 s.vm) {own : String} {index : Nat} {y : MethodName} {bytes : ByteArray} {maxL : Nat} {ret : Option FieldType} (W : Nat)
    (hown : s.vm.findClass own = some m.cls) (w1 : (Jvm.Cond.methodLink own index y).before a0 Z = true) (w2 : (Jvm.Cond.static y).before a0 Z = true) (w3 : (Jvm.Cond.initialized y.cls).before a0 Z = true) (w4 : (Jvm.Cond.code y bytes maxL ret).before a0 Z = true)
    (hy : y.cls ≠ "java/lang/invoke/MethodHandle" ∧ y.cls ≠ "java/lang/invoke/VarHandle") {argsL rest : List Value} {r : Value} {PP : Array Value → Prop} {Post : Pt → Array Value → Option Value → Pt → Prop}
    (hK : Back l R p e below s args y 3 W (fun A a' => A.cells ≤ R.cells ∧ A.slots ≤ R.slots ∧ PP a') Post) (hPP : PP argsL.toArray) (hpost : ∀ A v B, Post A argsL.toArray v B → v = some r ∧ B.U.heap = A.U.heap ∧ B.locs = A.locs ∧ B.cells = A.cells ∧ B.slots = A.slots)
    (hc : cells ≤ R.cells) (hs : slots ≤ R.slots) {g : JFrame} (hg : g.method = m) (hsize : g.locals.size = c.maxLocals) (hlen : ∀ sig, parseMethodDescriptor y.desc = some sig → argsL.length = sig.parameters.length) (hstack : g.stack = argsL.reverse ++ rest) (hW : 2 * g.monitorRoom + (rest.map fun v => v.category).sum ≤ W)
    (hdg : decode c.code g.pc = .ok (.invokestatic index, 3)) (eT : T.heap = h)
    (k : ∀ T', Stand p l e R s m args below meth c T' locs cells slots → T'.heap = h → GG p e below s rc rs Q T' { g with pc := g.pc + 3, stack := r :: rest }) : GG p e below s rc rs Q T g := by
  obtain ⟨v, vm₁, ⟨T', L', k', n'⟩, -, X', hP, st⟩ := Jvm.LawKit.callS X hx hown (mvT hZ w1) (mvT hZ w2) (mvT hZ w3) (mvT hZ w4) hy hK hg hsize hlen hstack hW hdg (fun _ _ => ⟨hc, hs, hPP⟩)
  obtain ⟨rfl, q1, q2, q3, q4⟩ := hpost _ _ _ hP
  dsimp only [Pt.U, Pt.locs, Pt.cells, Pt.slots] at X' q1 q2 q3 q4 st
  subst q2 q3 q4
  exact own_go st (k T' X' (q1.trans eT))
theorem own_tab {Z s : State} {a0 args : Array Value} (hZ : Z.Warmed39 s.vm) (hw : ∀ d ∈ tables_1, d.before a0 Z = true) : Jvm.Free.Fl.OfFloat.IsFinite.tab.before args s = true := (own_and (mvT hZ (hw _ (List.mem_of_getElem? (i := 17) rfl))) (own_and (mvT hZ (hw _ (List.mem_of_getElem? (i := 18) rfl))) (own_and (mvT hZ (hw _ (List.mem_of_getElem? (i := 19) rfl))) (own_and (mvT hZ (hw _ (List.mem_of_getElem? (i := 20) rfl))) (own_and (mvT hZ (hw _ (List.mem_of_getElem? (i := 21) rfl))) (mvT hZ (hw _ (List.mem_of_getElem? (i := 22) rfl))))))))
theorem d7_0 : decode jdk_29_method_65_code 0 = .ok (.iload_n 0, 1) := by decide +kernel
theorem d7_1 : decode jdk_29_method_65_code 1 = .ok (.iload_n 1, 1) := by decide +kernel
theorem d7_2 : decode jdk_29_method_65_code 2 = .ok (.if_icmp .lt 7, 3) := by decide +kernel
theorem d7_9 : decode jdk_29_method_65_code 9 = .ok (.iload_n 1, 1) := by decide +kernel
theorem d7_10 : decode jdk_29_method_65_code 10 = .ok (.ireturn, 1) := by decide +kernel
theorem ef_7 (m : MethodId) (x0 : Int32) (x1 : Int32) : entryFrame m #[(.int x0), (.int x1)] 2 = mkF m 0 #[.val (.int x0), .val (.int x1)] [] := by first | (simp [entryFrame, mkF, argsToLocals, Value.category]; done) | rfl
def Q7 (Z : State)  (h0 : Heap) (n0 : Nat) (v : Option Value) (h : Heap) (L : List Loc) : Prop := v = some (.int (0 : Int32)) ∧ Fr n0 L ∧ h = h0
set_option maxRecDepth 65536 in
set_option maxHeartbeats 40000000 in
theorem rm7 (l : Launch) (Z : State) (a0 : Array Value) (hw : ∀ d ∈ tables_1, d.before a0 Z = true) (ws : List Jvm.Cond)  (h0 : Heap) (n0 : Nat) (Z0 : n0 ≤ h0.size)  :
    own_CT l Z (⟨"java/lang/Math", "max", "(II)I"⟩ : MethodName) jdk_29_method_65_code 2 (some .int) ws ({ frames := 0, cells := 0, slots := 0, locals := 0 } : Room) #[(.int (-4 : Int32)), (.int (0 : Int32))] h0 (Q7 Z  h0 n0) := by
  refine MetFree.of_bodySF (Jvm.Free.JP.mathPlain rfl (by decide +kernel)) hisR ?_
  intro p e s m args below meth c s₁ Bd hml0 hP hK
  obtain ⟨rfl, hZ, hh⟩ := hP
  have hx := Bd.exec
  have hby := Bd.bytes
  have hml : c.maxLocals = 2 := hml0
  have hown : s.vm.findClass "java/lang/Math" = some m.cls := findClass_of_methodNamed Bd.named
  have hnm := (name_of_methodNamed Bd.named Bd.method).1
  have hlk : meth.locks = false := BodyLoose.notSynchronized Bd
  have X0 : Stand p l e ({ frames := 0, cells := 0, slots := 0, locals := 0 } : Room) s m #[(.int (-4 : Int32)), (.int (0 : Int32))] below meth c s₁ [] 0 0 := Stand.of_body Bd
  have e0 : s₁.heap = h0 := by rw [← hh, Bd.state]; rfl
  have N0 := Fr.nil n0
  show GG p e below s ({ frames := 0, cells := 0, slots := 0, locals := 0 } : Room).cells ({ frames := 0, cells := 0, slots := 0, locals := 0 } : Room).slots (Q7 Z  h0 n0) s₁ (entryFrame m #[(.int (-4 : Int32)), (.int (0 : Int32))] 2)
  refine own_in (ef_7 m (-4 : Int32) (0 : Int32)) ?_
  show GG _ _ _ _ _ _ _ s₁ (mkF m 0 #[.val (.int (-4 : Int32)), .val (.int (0 : Int32))] [])
  refine own_go (fun _ => XS.iloadN X0.here hx rfl (hb hby d7_0) rfl) ?_
  show GG _ _ _ _ _ _ _ s₁ (mkF m 1 #[.val (.int (-4 : Int32)), .val (.int (0 : Int32))] [(.int (-4 : Int32))])
  refine own_go (fun _ => XS.iloadN X0.here hx rfl (hb hby d7_1) rfl) ?_
  show GG _ _ _ _ _ _ _ s₁ (mkF m 2 #[.val (.int (-4 : Int32)), .val (.int (0 : Int32))] [(.int (0 : Int32)), (.int (-4 : Int32))])
  have hc2 : (-4 : Int32) < (0 : Int32) := by decide
  refine own_go (fun _ => XS.icmpYes X0.here hx rfl (pc0 := 2) (pc' := 9) rfl (hb hby d7_2) rfl (tlt hc2).1 (by decide) (by decide)) ?_
  show GG _ _ _ _ _ _ _ s₁ (mkF m 9 #[.val (.int (-4 : Int32)), .val (.int (0 : Int32))] [])
  refine own_go (fun _ => XS.iloadN X0.here hx rfl (hb hby d7_9) rfl) ?_
  show GG _ _ _ _ _ _ _ s₁ (mkF m 10 #[.val (.int (-4 : Int32)), .val (.int (0 : Int32))] [(.int (0 : Int32))])
  refine own_ret X0 hx hlk (t := .int) (w := (.int (0 : Int32))) Bd.returns rfl (Or.inl ⟨rfl, by simp, _, rfl⟩) (hb hby d7_10) (by decide) (by decide) ?_
  show Q7 Z  h0 n0 (some (.int (0 : Int32))) s₁.heap _
  rw [e0]
  exact ⟨rfl, N0, rfl⟩
theorem pd__II_I_300 : parseMethodDescriptor "(II)I" = some ⟨[.int, .int], some .int⟩ := by decide +kernel
theorem pd__F_Z_241 : parseMethodDescriptor "(F)Z" = some ⟨[.float], some .boolean⟩ := by decide +kernel
theorem pd__D_D_217 : parseMethodDescriptor "(D)D" = some ⟨[.double], some .double⟩ := by decide +kernel
theorem pd__DD_D_285 : parseMethodDescriptor "(DD)D" = some ⟨[.double, .double], some .double⟩ := by decide +kernel
theorem d1_0 : decode prog_22_method_1_code 0 = .ok (.aload_n 0, 1) := by decide +kernel
theorem d1_1 : decode prog_22_method_1_code 1 = .ok (.invokespecial 5, 3) := by decide +kernel
theorem d1_4 : decode prog_22_method_1_code 4 = .ok (.aload_n 1, 1) := by decide +kernel
theorem d1_5 : decode prog_22_method_1_code 5 = .ok (.arraylength, 1) := by decide +kernel
theorem d1_6 : decode prog_22_method_1_code 6 = .ok (.sipush 4096, 3) := by decide +kernel
theorem d1_9 : decode prog_22_method_1_code 9 = .ok (.if_icmp .eq 18, 3) := by decide +kernel
theorem d1_27 : decode prog_22_method_1_code 27 = .ok (.aload_n 0, 1) := by decide +kernel
theorem d1_28 : decode prog_22_method_1_code 28 = .ok (.sipush 4096, 3) := by decide +kernel
theorem d1_31 : decode prog_22_method_1_code 31 = .ok (.newarray .double, 2) := by decide +kernel
theorem d1_33 : decode prog_22_method_1_code 33 = .ok (.putfield 20, 3) := by decide +kernel
theorem d1_36 : decode prog_22_method_1_code 36 = .ok (.dconst 0, 1) := by decide +kernel
theorem d1_37 : decode prog_22_method_1_code 37 = .ok (.dstore_n 3, 1) := by decide +kernel
theorem d1_38 : decode prog_22_method_1_code 38 = .ok (.iconst 0, 1) := by decide +kernel
theorem d1_39 : decode prog_22_method_1_code 39 = .ok (.istore 5, 2) := by decide +kernel
theorem d1_41 : decode prog_22_method_1_code 41 = .ok (.iload 5, 2) := by decide +kernel
theorem d1_43 : decode prog_22_method_1_code 43 = .ok (.sipush 4096, 3) := by decide +kernel
theorem d1_46 : decode prog_22_method_1_code 46 = .ok (.if_icmp .ge 63, 3) := by decide +kernel
theorem d1_49 : decode prog_22_method_1_code 49 = .ok (.aload_n 1, 1) := by decide +kernel
theorem d1_50 : decode prog_22_method_1_code 50 = .ok (.iload 5, 2) := by decide +kernel
theorem d1_52 : decode prog_22_method_1_code 52 = .ok (.faload, 1) := by decide +kernel
theorem d1_53 : decode prog_22_method_1_code 53 = .ok (.invokestatic 24, 3) := by decide +kernel
theorem d1_56 : decode prog_22_method_1_code 56 = .ok (.ifCond .ne 20, 3) := by decide +kernel
theorem d1_76 : decode prog_22_method_1_code 76 = .ok (.aload_n 0, 1) := by decide +kernel
theorem d1_77 : decode prog_22_method_1_code 77 = .ok (.getfield 20, 3) := by decide +kernel
theorem d1_80 : decode prog_22_method_1_code 80 = .ok (.iload 5, 2) := by decide +kernel
theorem d1_82 : decode prog_22_method_1_code 82 = .ok (.aload_n 1, 1) := by decide +kernel
theorem d1_83 : decode prog_22_method_1_code 83 = .ok (.iload 5, 2) := by decide +kernel
theorem d1_85 : decode prog_22_method_1_code 85 = .ok (.faload, 1) := by decide +kernel
theorem d1_86 : decode prog_22_method_1_code 86 = .ok (.f2d, 1) := by decide +kernel
theorem d1_87 : decode prog_22_method_1_code 87 = .ok (.dastore, 1) := by decide +kernel
theorem d1_88 : decode prog_22_method_1_code 88 = .ok (.dload_n 3, 1) := by decide +kernel
theorem d1_89 : decode prog_22_method_1_code 89 = .ok (.aload_n 0, 1) := by decide +kernel
theorem d1_90 : decode prog_22_method_1_code 90 = .ok (.getfield 20, 3) := by decide +kernel
theorem d1_93 : decode prog_22_method_1_code 93 = .ok (.iload 5, 2) := by decide +kernel
theorem d1_95 : decode prog_22_method_1_code 95 = .ok (.daload, 1) := by decide +kernel
theorem d1_96 : decode prog_22_method_1_code 96 = .ok (.invokestatic 33, 3) := by decide +kernel
theorem d1_99 : decode prog_22_method_1_code 99 = .ok (.invokestatic 39, 3) := by decide +kernel
theorem d1_102 : decode prog_22_method_1_code 102 = .ok (.dstore_n 3, 1) := by decide +kernel
theorem d1_103 : decode prog_22_method_1_code 103 = .ok (.iinc 5 1, 3) := by decide +kernel
theorem d1_106 : decode prog_22_method_1_code 106 = .ok (.goto (-65), 3) := by decide +kernel
theorem d1_109 : decode prog_22_method_1_code 109 = .ok (.lconst 0, 1) := by decide +kernel
theorem d1_110 : decode prog_22_method_1_code 110 = .ok (.lstore 5, 2) := by decide +kernel
theorem d1_112 : decode prog_22_method_1_code 112 = .ok (.aload_n 2, 1) := by decide +kernel
theorem d1_113 : decode prog_22_method_1_code 113 = .ok (.astore 7, 2) := by decide +kernel
theorem d1_115 : decode prog_22_method_1_code 115 = .ok (.aload 7, 2) := by decide +kernel
theorem d1_117 : decode prog_22_method_1_code 117 = .ok (.arraylength, 1) := by decide +kernel
theorem d1_118 : decode prog_22_method_1_code 118 = .ok (.istore 8, 2) := by decide +kernel
theorem d1_120 : decode prog_22_method_1_code 120 = .ok (.iconst 0, 1) := by decide +kernel
theorem d1_121 : decode prog_22_method_1_code 121 = .ok (.istore 9, 2) := by decide +kernel
theorem d1_123 : decode prog_22_method_1_code 123 = .ok (.iload 9, 2) := by decide +kernel
theorem d1_125 : decode prog_22_method_1_code 125 = .ok (.iload 8, 2) := by decide +kernel
theorem d1_127 : decode prog_22_method_1_code 127 = .ok (.if_icmp .ge 52, 3) := by decide +kernel
theorem d1_130 : decode prog_22_method_1_code 130 = .ok (.aload 7, 2) := by decide +kernel
theorem d1_132 : decode prog_22_method_1_code 132 = .ok (.iload 9, 2) := by decide +kernel
theorem d1_134 : decode prog_22_method_1_code 134 = .ok (.iaload, 1) := by decide +kernel
theorem d1_135 : decode prog_22_method_1_code 135 = .ok (.istore 10, 2) := by decide +kernel
theorem d1_137 : decode prog_22_method_1_code 137 = .ok (.iload 10, 2) := by decide +kernel
theorem d1_139 : decode prog_22_method_1_code 139 = .ok (.iconst 1, 1) := by decide +kernel
theorem d1_140 : decode prog_22_method_1_code 140 = .ok (.if_icmp .lt 10, 3) := by decide +kernel
theorem d1_143 : decode prog_22_method_1_code 143 = .ok (.iload 10, 2) := by decide +kernel
theorem d1_145 : decode prog_22_method_1_code 145 = .ok (.bipush 8, 2) := by decide +kernel
theorem d1_147 : decode prog_22_method_1_code 147 = .ok (.if_icmp .le 18, 3) := by decide +kernel
theorem d1_165 : decode prog_22_method_1_code 165 = .ok (.lload 5, 2) := by decide +kernel
theorem d1_167 : decode prog_22_method_1_code 167 = .ok (.iload 10, 2) := by decide +kernel
theorem d1_169 : decode prog_22_method_1_code 169 = .ok (.i2l, 1) := by decide +kernel
theorem d1_170 : decode prog_22_method_1_code 170 = .ok (.ladd, 1) := by decide +kernel
theorem d1_171 : decode prog_22_method_1_code 171 = .ok (.lstore 5, 2) := by decide +kernel
theorem d1_173 : decode prog_22_method_1_code 173 = .ok (.iinc 9 1, 3) := by decide +kernel
theorem d1_176 : decode prog_22_method_1_code 176 = .ok (.goto (-53), 3) := by decide +kernel
theorem d1_179 : decode prog_22_method_1_code 179 = .ok (.lload 5, 2) := by decide +kernel
theorem d1_181 : decode prog_22_method_1_code 181 = .ok (.ldc2_w 46, 3) := by decide +kernel
theorem d1_184 : decode prog_22_method_1_code 184 = .ok (.lrem, 1) := by decide +kernel
theorem d1_185 : decode prog_22_method_1_code 185 = .ok (.lconst 0, 1) := by decide +kernel
theorem d1_186 : decode prog_22_method_1_code 186 = .ok (.lcmp, 1) := by decide +kernel
theorem d1_187 : decode prog_22_method_1_code 187 = .ok (.ifCond .eq 18, 3) := by decide +kernel
theorem d1_205 : decode prog_22_method_1_code 205 = .ok (.aload_n 0, 1) := by decide +kernel
theorem d1_206 : decode prog_22_method_1_code 206 = .ok (.dload_n 3, 1) := by decide +kernel
theorem d1_207 : decode prog_22_method_1_code 207 = .ok (.putfield 51, 3) := by decide +kernel
theorem d1_210 : decode prog_22_method_1_code 210 = .ok (.aload_n 0, 1) := by decide +kernel
theorem d1_211 : decode prog_22_method_1_code 211 = .ok (.aload_n 2, 1) := by decide +kernel
theorem d1_212 : decode prog_22_method_1_code 212 = .ok (.invokevirtual 55, 3) := by decide +kernel
theorem d1_215 : decode prog_22_method_1_code 215 = .ok (.checkcast 56, 3) := by decide +kernel
theorem d1_218 : decode prog_22_method_1_code 218 = .ok (.putfield 61, 3) := by decide +kernel
theorem d1_221 : decode prog_22_method_1_code 221 = .ok (.aload_n 0, 1) := by decide +kernel
theorem d1_222 : decode prog_22_method_1_code 222 = .ok (.lload 5, 2) := by decide +kernel
theorem d1_224 : decode prog_22_method_1_code 224 = .ok (.ldc2_w 46, 3) := by decide +kernel
theorem d1_227 : decode prog_22_method_1_code 227 = .ok (.ldiv, 1) := by decide +kernel
theorem d1_228 : decode prog_22_method_1_code 228 = .ok (.l2i, 1) := by decide +kernel
theorem d1_229 : decode prog_22_method_1_code 229 = .ok (.putfield 64, 3) := by decide +kernel
theorem d1_232 : decode prog_22_method_1_code 232 = .ok (.aload_n 0, 1) := by decide +kernel
theorem d1_233 : decode prog_22_method_1_code 233 = .ok (.aload_n 2, 1) := by decide +kernel
theorem d1_234 : decode prog_22_method_1_code 234 = .ok (.arraylength, 1) := by decide +kernel
theorem d1_235 : decode prog_22_method_1_code 235 = .ok (.newarray .int, 2) := by decide +kernel
theorem d1_237 : decode prog_22_method_1_code 237 = .ok (.putfield 68, 3) := by decide +kernel
theorem d1_240 : decode prog_22_method_1_code 240 = .ok (.iconst 0, 1) := by decide +kernel
theorem d1_241 : decode prog_22_method_1_code 241 = .ok (.istore 7, 2) := by decide +kernel
theorem d1_243 : decode prog_22_method_1_code 243 = .ok (.iconst 0, 1) := by decide +kernel
theorem d1_244 : decode prog_22_method_1_code 244 = .ok (.istore 8, 2) := by decide +kernel
theorem d1_246 : decode prog_22_method_1_code 246 = .ok (.iload 8, 2) := by decide +kernel
theorem d1_248 : decode prog_22_method_1_code 248 = .ok (.aload_n 2, 1) := by decide +kernel
theorem d1_249 : decode prog_22_method_1_code 249 = .ok (.arraylength, 1) := by decide +kernel
theorem d1_250 : decode prog_22_method_1_code 250 = .ok (.if_icmp .ge 60, 3) := by decide +kernel
theorem d1_253 : decode prog_22_method_1_code 253 = .ok (.iload 7, 2) := by decide +kernel
theorem d1_255 : decode prog_22_method_1_code 255 = .ok (.aload_n 2, 1) := by decide +kernel
theorem d1_256 : decode prog_22_method_1_code 256 = .ok (.iload 8, 2) := by decide +kernel
theorem d1_258 : decode prog_22_method_1_code 258 = .ok (.iaload, 1) := by decide +kernel
theorem d1_259 : decode prog_22_method_1_code 259 = .ok (.iadd, 1) := by decide +kernel
theorem d1_260 : decode prog_22_method_1_code 260 = .ok (.istore 7, 2) := by decide +kernel
theorem d1_262 : decode prog_22_method_1_code 262 = .ok (.iload 7, 2) := by decide +kernel
theorem d1_264 : decode prog_22_method_1_code 264 = .ok (.bipush 12, 2) := by decide +kernel
theorem d1_266 : decode prog_22_method_1_code 266 = .ok (.isub, 1) := by decide +kernel
theorem d1_267 : decode prog_22_method_1_code 267 = .ok (.iconst 0, 1) := by decide +kernel
theorem d1_268 : decode prog_22_method_1_code 268 = .ok (.invokestatic 71, 3) := by decide +kernel
theorem d1_271 : decode prog_22_method_1_code 271 = .ok (.bipush 8, 2) := by decide +kernel
theorem d1_273 : decode prog_22_method_1_code 273 = .ok (.idiv, 1) := by decide +kernel
theorem d1_274 : decode prog_22_method_1_code 274 = .ok (.istore 9, 2) := by decide +kernel
theorem d1_276 : decode prog_22_method_1_code 276 = .ok (.bipush 64, 2) := by decide +kernel
theorem d1_278 : decode prog_22_method_1_code 278 = .ok (.iload 7, 2) := by decide +kernel
theorem d1_280 : decode prog_22_method_1_code 280 = .ok (.iload 9, 2) := by decide +kernel
theorem d1_282 : decode prog_22_method_1_code 282 = .ok (.bipush 8, 2) := by decide +kernel
theorem d1_284 : decode prog_22_method_1_code 284 = .ok (.imul, 1) := by decide +kernel
theorem d1_285 : decode prog_22_method_1_code 285 = .ok (.isub, 1) := by decide +kernel
theorem d1_286 : decode prog_22_method_1_code 286 = .ok (.isub, 1) := by decide +kernel
theorem d1_287 : decode prog_22_method_1_code 287 = .ok (.istore 10, 2) := by decide +kernel
theorem d1_289 : decode prog_22_method_1_code 289 = .ok (.aload_n 0, 1) := by decide +kernel
theorem d1_290 : decode prog_22_method_1_code 290 = .ok (.getfield 68, 3) := by decide +kernel
theorem d1_293 : decode prog_22_method_1_code 293 = .ok (.iload 8, 2) := by decide +kernel
theorem d1_295 : decode prog_22_method_1_code 295 = .ok (.iload 9, 2) := by decide +kernel
theorem d1_297 : decode prog_22_method_1_code 297 = .ok (.bipush 6, 2) := by decide +kernel
theorem d1_299 : decode prog_22_method_1_code 299 = .ok (.ishl, 1) := by decide +kernel
theorem d1_300 : decode prog_22_method_1_code 300 = .ok (.iload 10, 2) := by decide +kernel
theorem d1_302 : decode prog_22_method_1_code 302 = .ok (.ior, 1) := by decide +kernel
theorem d1_303 : decode prog_22_method_1_code 303 = .ok (.iastore, 1) := by decide +kernel
theorem d1_304 : decode prog_22_method_1_code 304 = .ok (.iinc 8 1, 3) := by decide +kernel
theorem d1_307 : decode prog_22_method_1_code 307 = .ok (.goto (-61), 3) := by decide +kernel
theorem d1_310 : decode prog_22_method_1_code 310 = .ok (.return_, 1) := by decide +kernel
theorem pn_com_example_hadamint_hadamint_Trellis : plainName "com/example/hadamint/hadamint/Trellis" = true := by first | (simp [plainName, overriddenIn]; done) | decide +kernel
theorem ef_1 (m : MethodId) (x0 : Addr) (x1 : Addr) (x2 : Addr) : entryFrame m #[(.ref x0), (.ref x1), (.ref x2)] 11 = mkF m 0 #[.val (.ref x0), .val (.ref x1), .val (.ref x2), .unset, .unset, .unset, .unset, .unset, .unset, .unset, .unset] [] := by first | (simp [entryFrame, mkF, argsToLocals, Value.category]; done) | rfl
def Q1 (Z : State) (ob : Addr) (a1 : Addr) (b1 : Addr) (fs : List UInt32) (h0 : Heap) (n0 : Nat) (v : Option Value) (h : Heap) (L : List Loc) : Prop := ∃ d, v = none ∧ Fr n0 L ∧ Keep h0 h [ob] ∧ Exa Z h ob "com/example/hadamint/hadamint/Trellis" ∧ Fld Z h ob "com/example/hadamint/hadamint/Trellis" "numbers" "[D" (.ref d) ∧ Arx Z h d .double ((fs.map FP.f2d).map Value.double) ∧ ob ≠ d
set_option maxRecDepth 65536 in
set_option maxHeartbeats 40000000 in
theorem rm1 (l : Launch) (Z : State) (a0 : Array Value) (hw : ∀ d ∈ tables_1, d.before a0 Z = true) (ws : List Jvm.Cond) (ob : Addr) (a1 : Addr) (b1 : Addr) (fs : List UInt32) (h0 : Heap) (n0 : Nat) (Z0 : n0 ≤ h0.size) (E_ob : Exa Z h0 ob "com/example/hadamint/hadamint/Trellis") (F_numbers : Fld Z h0 ob "com/example/hadamint/hadamint/Trellis" "numbers" "[D" .null) (F_widest : Fld Z h0 ob "com/example/hadamint/hadamint/Trellis" "widest" "D" (.double (0 : UInt64))) (F_bits : Fld Z h0 ob "com/example/hadamint/hadamint/Trellis" "bits" "[I" .null) (F_stride : Fld Z h0 ob "com/example/hadamint/hadamint/Trellis" "stride" "I" (.int (0 : Int32))) (F_places : Fld Z h0 ob "com/example/hadamint/hadamint/Trellis" "places" "[I" .null) (g_ob : n0 ≤ ob) (V_a : Arx Z h0 a1 .float (fs.map Value.float)) (V_b : Arx Z h0 b1 .int [(.int (8 : Int32))]) (E_b : Exa Z h0 b1 "[I") (hfl : fs.length = 4096) (hfin : ∀ x ∈ fs, Jvm.Free.Fl.Fin32 x) (no_a : ob ≠ a1) (no_b : ob ≠ b1) :
    own_CT l Z (⟨"com/example/hadamint/hadamint/Trellis", "<init>", "([F[I)V"⟩ : MethodName) prog_22_method_1_code 11 none ws ({ frames := 2, cells := 3, slots := 4098, locals := 24 } : Room) #[(.ref ob), (.ref a1), (.ref b1)] h0 (Q1 Z ob a1 b1 fs h0 n0) := by
  refine MetFree.of_bodySF (plainFor_of_name pn_com_example_hadamint_hadamint_Trellis) hisR ?_
  intro p e s m args below meth c s₁ Bd hml0 hP hK
  obtain ⟨rfl, hZ, hh⟩ := hP
  have hx := Bd.exec
  have hby := Bd.bytes
  have hml : c.maxLocals = 11 := hml0
  have hown : s.vm.findClass "com/example/hadamint/hadamint/Trellis" = some m.cls := findClass_of_methodNamed Bd.named
  have hnm := (name_of_methodNamed Bd.named Bd.method).1
  have hlk : meth.locks = false := BodyLoose.notSynchronized Bd
  have X0 : Stand p l e ({ frames := 2, cells := 3, slots := 4098, locals := 24 } : Room) s m #[(.ref ob), (.ref a1), (.ref b1)] below meth c s₁ [] 0 0 := Stand.of_body Bd
  have e0 : s₁.heap = h0 := by rw [← hh, Bd.state]; rfl
  have N0 := Fr.nil n0
  show GG p e below s ({ frames := 2, cells := 3, slots := 4098, locals := 24 } : Room).cells ({ frames := 2, cells := 3, slots := 4098, locals := 24 } : Room).slots (Q1 Z ob a1 b1 fs h0 n0) s₁ (entryFrame m #[(.ref ob), (.ref a1), (.ref b1)] 11)
  refine own_in (ef_1 m ob a1 b1) ?_
  have K0 := Keep.refl h0 [ob]
  show GG _ _ _ _ _ _ _ s₁ (mkF m 0 #[.val (.ref ob), .val (.ref a1), .val (.ref b1), .unset, .unset, .unset, .unset, .unset, .unset, .unset, .unset] [])
  refine own_go (fun _ => XS.aloadN X0.here hx rfl (hb hby d1_0) rfl rfl) ?_
  show GG _ _ _ _ _ _ _ s₁ (mkF m 1 #[.val (.ref ob), .val (.ref a1), .val (.ref b1), .unset, .unset, .unset, .unset, .unset, .unset, .unset, .unset] [(.ref ob)])
  obtain ⟨T1, X1, e1, st1⟩ := initO X0 hx hZ hown (hw _ (List.mem_of_getElem? (i := 8) rfl)) (hw _ (List.mem_of_getElem? (i := 9) rfl)) (hw _ (List.mem_of_getElem? (i := 10) rfl)) e0 (g := (mkF m 1 #[.val (.ref ob), .val (.ref a1), .val (.ref b1), .unset, .unset, .unset, .unset, .unset, .unset, .unset, .unset] [(.ref ob)])) rfl (by rw [hml]; rfl) rfl (hb hby d1_1) (by decide) (W := 0) (by show 2 * 0 + _ ≤ _; exact Nat.le_of_eq rfl) (by decide)
  refine own_go (fun _ => st1 _) ?_
  show GG _ _ _ _ _ _ _ T1 (mkF m 4 #[.val (.ref ob), .val (.ref a1), .val (.ref b1), .unset, .unset, .unset, .unset, .unset, .unset, .unset, .unset] [])
  refine own_go (fun _ => XS.aloadN X1.here hx rfl (hb hby d1_4) rfl rfl) ?_
  show GG _ _ _ _ _ _ _ T1 (mkF m 5 #[.val (.ref ob), .val (.ref a1), .val (.ref b1), .unset, .unset, .unset, .unset, .unset, .unset, .unset, .unset] [(.ref a1)])
  refine own_go (fun _ => own_len X1 hx hZ e1 V_a (g := (mkF m 5 #[.val (.ref ob), .val (.ref a1), .val (.ref b1), .unset, .unset, .unset, .unset, .unset, .unset, .unset, .unset] [(.ref a1)])) rfl rfl (hb hby d1_5) _) ?_
  show GG _ _ _ _ _ _ _ T1 (mkF m 6 #[.val (.ref ob), .val (.ref a1), .val (.ref b1), .unset, .unset, .unset, .unset, .unset, .unset, .unset, .unset] [(.int (Int32.ofNat (fs.map Value.float).length))])
  refine own_go (fun _ => XS.sipush X1.here hx rfl (hb hby d1_6)) ?_
  show GG _ _ _ _ _ _ _ T1 (mkF m 9 #[.val (.ref ob), .val (.ref a1), .val (.ref b1), .unset, .unset, .unset, .unset, .unset, .unset, .unset, .unset] [(.int (4096 : Int32)), (.int (Int32.ofNat (fs.map Value.float).length))])
  have hc9 : (Int32.ofNat (fs.map Value.float).length) = (4096 : Int32) := by rw [List.length_map, hfl]; rfl
  refine own_go (fun _ => XS.icmpYes X1.here hx rfl (pc0 := 9) (pc' := 27) rfl (hb hby d1_9) rfl (teq hc9).1 (by decide) (by decide)) ?_
  show GG _ _ _ _ _ _ _ T1 (mkF m 27 #[.val (.ref ob), .val (.ref a1), .val (.ref b1), .unset, .unset, .unset, .unset, .unset, .unset, .unset, .unset] [])
  refine own_go (fun _ => XS.aloadN X1.here hx rfl (hb hby d1_27) rfl rfl) ?_
  show GG _ _ _ _ _ _ _ T1 (mkF m 28 #[.val (.ref ob), .val (.ref a1), .val (.ref b1), .unset, .unset, .unset, .unset, .unset, .unset, .unset, .unset] [(.ref ob)])
  refine own_go (fun _ => XS.sipush X1.here hx rfl (hb hby d1_28)) ?_
  show GG _ _ _ _ _ _ _ T1 (mkF m 31 #[.val (.ref ob), .val (.ref a1), .val (.ref b1), .unset, .unset, .unset, .unset, .unset, .unset, .unset, .unset] [(.int (4096 : Int32)), (.ref ob)])
  obtain ⟨T2, h2, ob2, g2, X2, e2, E2, V_ob2, E_ob2, st2⟩ := own_newarr X1 hx hZ (hw _ (List.mem_of_getElem? (i := 11) rfl)) e1 (g := (mkF m 31 #[.val (.ref ob), .val (.ref a1), .val (.ref b1), .unset, .unset, .unset, .unset, .unset, .unset, .unset, .unset] [(.int (4096 : Int32)), (.ref ob)])) rfl (hb hby d1_31) rfl (by decide) (cap := 4096) (by decide) (by decide) (by decide) (by decide) (ad := "[D") (by decide)
  have ne_ob_ob2 : ob ≠ ob2 := Nat.ne_of_lt (Nat.lt_of_lt_of_le E_ob.lt (Nat.le_of_eq g2.symm))
  have ne_a1_ob2 : a1 ≠ ob2 := Nat.ne_of_lt (Nat.lt_of_lt_of_le V_a.lt (Nat.le_of_eq g2.symm))
  have ne_b1_ob2 : b1 ≠ ob2 := Nat.ne_of_lt (Nat.lt_of_lt_of_le V_b.lt (Nat.le_of_eq g2.symm))
  have sz_ob2 : h0.size ≤ ob2 := Nat.le_trans K0.1 (Nat.le_of_eq g2.symm)
  have g_ob2 : n0 ≤ ob2 := Nat.le_trans Z0 sz_ob2
  have E_ob := E_ob.ext E2
  have F_numbers := F_numbers.ext E2
  have F_widest := F_widest.ext E2
  have F_bits := F_bits.ext E2
  have F_stride := F_stride.ext E2
  have F_places := F_places.ext E2
  have V_a := V_a.ext E2
  have V_b := V_b.ext E2
  have E_b := E_b.ext E2
  have K0 := K0.ext E2
  have V_ob2 : Arx Z h2 ob2 .double (List.replicate 4096 (.double (0 : UInt64))) := V_ob2
  refine own_go (fun _ => st2 _) ?_
  show GG _ _ _ _ _ _ _ T2 (mkF m 33 #[.val (.ref ob), .val (.ref a1), .val (.ref b1), .unset, .unset, .unset, .unset, .unset, .unset, .unset, .unset] [(.ref ob2), (.ref ob)])
  have V_ob2 : Arx Z h2 ob2 .double ((List.replicate 4096 (0 : UInt64)).map Value.double) := by rw [List.map_replicate]; exact V_ob2
  obtain ⟨T3, h3, X3, e3, W3, st3⟩ := putF X2 hx hZ hown (host := "") (Or.inl (hw _ (List.mem_of_getElem? (i := 12) rfl))) Via.refl e2 F_numbers E_ob (Or.inr ⟨(hw _ (List.mem_of_getElem? (i := 13) rfl)), rfl, hnm⟩) (hw _ (List.mem_of_getElem? (i := 2) rfl)) (ty := (.array .double)) (by decide) rfl rfl (g := (mkF m 33 #[.val (.ref ob), .val (.ref a1), .val (.ref b1), .unset, .unset, .unset, .unset, .unset, .unset, .unset, .unset] [(.ref ob2), (.ref ob)])) rfl rfl (hb hby d1_33)
  have E_ob := E_ob.wr W3
  have F_widest := F_widest.other W3 (Or.inr (slot_ne (Or.inr (hw _ (List.mem_of_getElem? (i := 31) rfl))) (Or.inr (hw _ (List.mem_of_getElem? (i := 13) rfl))) (by decide) (t := .double) (t' := (.array .double)) (by decide) (by decide)))
  have F_bits := F_bits.other W3 (Or.inr (slot_ne (Or.inr (hw _ (List.mem_of_getElem? (i := 42) rfl))) (Or.inr (hw _ (List.mem_of_getElem? (i := 13) rfl))) (by decide) (t := (.array .int)) (t' := (.array .double)) (by decide) (by decide)))
  have F_stride := F_stride.other W3 (Or.inr (slot_ne (Or.inr (hw _ (List.mem_of_getElem? (i := 44) rfl))) (Or.inr (hw _ (List.mem_of_getElem? (i := 13) rfl))) (by decide) (t := .int) (t' := (.array .double)) (by decide) (by decide)))
  have F_places := F_places.other W3 (Or.inr (slot_ne (Or.inr (hw _ (List.mem_of_getElem? (i := 46) rfl))) (Or.inr (hw _ (List.mem_of_getElem? (i := 13) rfl))) (by decide) (t := (.array .int)) (t' := (.array .double)) (by decide) (by decide)))
  have V_a := V_a.other W3 (Ne.symm no_a)
  have V_b := V_b.other W3 (Ne.symm no_b)
  have E_b := E_b.wr W3
  have K0 := K0.wr W3 (Or.inl (List.mem_of_getElem? (i := 0) rfl))
  have V_ob2 := V_ob2.other W3 (Ne.symm ne_ob_ob2)
  have E_ob2 := E_ob2.wr W3
  have F_numbers := F_numbers.same W3
  have N3 := Fr.snoc X3 N0 g_ob
  refine own_go (fun _ => st3 _) ?_
  show GG _ _ _ _ _ _ _ T3 (mkF m 36 #[.val (.ref ob), .val (.ref a1), .val (.ref b1), .unset, .unset, .unset, .unset, .unset, .unset, .unset, .unset] [])
  refine own_go (fun _ => XS.dconst0 X3.here hx rfl (hb hby d1_36) rfl) ?_
  show GG _ _ _ _ _ _ _ T3 (mkF m 37 #[.val (.ref ob), .val (.ref a1), .val (.ref b1), .unset, .unset, .unset, .unset, .unset, .unset, .unset, .unset] [(.double FP.dconst0)])
  refine own_go (fun _ => XS.dstoreN X3.here hx rfl (hb hby d1_37) rfl (l' := #[.val (.ref ob), .val (.ref a1), .val (.ref b1), .val (.double FP.dconst0), .second, .unset, .unset, .unset, .unset, .unset, .unset]) rfl) ?_
  show GG _ _ _ _ _ _ _ T3 (mkF m 38 #[.val (.ref ob), .val (.ref a1), .val (.ref b1), .val (.double FP.dconst0), .second, .unset, .unset, .unset, .unset, .unset, .unset] [])
  refine own_go (fun _ => XS.iconst X3.here hx rfl (hb hby d1_38)) ?_
  show GG _ _ _ _ _ _ _ T3 (mkF m 39 #[.val (.ref ob), .val (.ref a1), .val (.ref b1), .val (.double FP.dconst0), .second, .unset, .unset, .unset, .unset, .unset, .unset] [(.int (0 : Int32))])
  refine own_go (fun _ => XS.istore X3.here hx rfl (hb hby d1_39) rfl (l' := #[.val (.ref ob), .val (.ref a1), .val (.ref b1), .val (.double FP.dconst0), .second, .val (.int (0 : Int32)), .unset, .unset, .unset, .unset, .unset]) rfl) ?_
  show GG _ _ _ _ _ _ _ T3 (mkF m 41 #[.val (.ref ob), .val (.ref a1), .val (.ref b1), .val (.double FP.dconst0), .second, .val (.int (0 : Int32)), .unset, .unset, .unset, .unset, .unset] [])
  have loop4 : ∀ (k : Nat) (iN : Nat) (i : Int32) (dw : UInt64) (ns : List UInt64) (TL : State) (hL : Heap) (lL : List Loc) (XL : Stand p l e ({ frames := 2, cells := 3, slots := 4098, locals := 24 } : Room) s m #[(.ref ob), (.ref a1), (.ref b1)] below meth c TL lL 1 4096) (eL : TL.heap = hL) (NL : Fr n0 lL) (hi : i.toInt = iN) (hk : iN + k = 4096) (hnn : Jvm.Free.Fl.NoNaN64 dw) (hnl : ns.length = 4096) (hns : ∀ j, j < iN → ns[j]? = (fs.map FP.f2d)[j]?) (E_ob : Exa Z hL ob "com/example/hadamint/hadamint/Trellis") (F_numbers : Fld Z hL ob "com/example/hadamint/hadamint/Trellis" "numbers" "[D" (.ref ob2)) (F_widest : Fld Z hL ob "com/example/hadamint/hadamint/Trellis" "widest" "D" (.double (0 : UInt64))) (F_bits : Fld Z hL ob "com/example/hadamint/hadamint/Trellis" "bits" "[I" .null) (F_stride : Fld Z hL ob "com/example/hadamint/hadamint/Trellis" "stride" "I" (.int (0 : Int32))) (F_places : Fld Z hL ob "com/example/hadamint/hadamint/Trellis" "places" "[I" .null) (V_a : Arx Z hL a1 .float (fs.map Value.float)) (V_b : Arx Z hL b1 .int [(.int (8 : Int32))]) (E_b : Exa Z hL b1 "[I") (V_ob2 : Arx Z hL ob2 .double (ns.map Value.double)) (K0 : Keep h0 hL [ob]), GG p e below s 3 4098 (Q1 Z ob a1 b1 fs h0 n0) TL (mkF m 41 #[.val (.ref ob), .val (.ref a1), .val (.ref b1), .val (.double dw), .second, .val (.int i), .unset, .unset, .unset, .unset, .unset] []) := by
    intro k
    induction k with
    | zero =>
      intro iN i dw ns TL hL lL XL eL NL hi hk hnn hnl hns E_ob F_numbers F_widest F_bits F_stride F_places V_a V_b E_b V_ob2 K0
      have ri := rng32 i
      show GG _ _ _ _ _ _ _ TL (mkF m 41 #[.val (.ref ob), .val (.ref a1), .val (.ref b1), .val (.double dw), .second, .val (.int i), .unset, .unset, .unset, .unset, .unset] [])
      refine own_go (fun _ => XS.iload XL.here hx rfl (hb hby d1_41) rfl) ?_
      show GG _ _ _ _ _ _ _ TL (mkF m 43 #[.val (.ref ob), .val (.ref a1), .val (.ref b1), .val (.double dw), .second, .val (.int i), .unset, .unset, .unset, .unset, .unset] [(.int i)])
      refine own_go (fun _ => XS.sipush XL.here hx rfl (hb hby d1_43)) ?_
      show GG _ _ _ _ _ _ _ TL (mkF m 46 #[.val (.ref ob), .val (.ref a1), .val (.ref b1), .val (.double dw), .second, .val (.int i), .unset, .unset, .unset, .unset, .unset] [(.int (4096 : Int32)), (.int i)])
      have hc46 : ¬ (i < (4096 : Int32)) := (fun q => absurd (Int32.lt_iff_toInt_lt.mp q) ((by show ¬ (i.toInt < 4096); omega : ¬ (i.toInt < 4096))))
      refine own_go (fun _ => XS.icmpYes XL.here hx rfl (pc0 := 46) (pc' := 109) rfl (hb hby d1_46) rfl (flt hc46).2.1 (by decide) (by decide)) ?_
      show GG _ _ _ _ _ _ _ TL (mkF m 109 #[.val (.ref ob), .val (.ref a1), .val (.ref b1), .val (.double dw), .second, .val (.int i), .unset, .unset, .unset, .unset, .unset] [])
      obtain rfl : iN = 4096 := by omega
      obtain rfl : ns = fs.map FP.f2d := own_all hnl (by rw [List.length_map]; exact hfl) hns
      show GG _ _ _ _ _ _ _ TL (mkF m 109 #[.val (.ref ob), .val (.ref a1), .val (.ref b1), .val (.double dw), .second, .val (.int i), .unset, .unset, .unset, .unset, .unset] [])
      refine own_go (fun _ => XS.lconst XL.here hx rfl (hb hby d1_109)) ?_
      show GG _ _ _ _ _ _ _ TL (mkF m 110 #[.val (.ref ob), .val (.ref a1), .val (.ref b1), .val (.double dw), .second, .val (.int i), .unset, .unset, .unset, .unset, .unset] [(.long (0 : Int64))])
      refine own_go (fun _ => XS.lstore XL.here hx rfl (hb hby d1_110) rfl (l' := #[.val (.ref ob), .val (.ref a1), .val (.ref b1), .val (.double dw), .second, .val (.long (0 : Int64)), .second, .unset, .unset, .unset, .unset]) rfl) ?_
      show GG _ _ _ _ _ _ _ TL (mkF m 112 #[.val (.ref ob), .val (.ref a1), .val (.ref b1), .val (.double dw), .second, .val (.long (0 : Int64)), .second, .unset, .unset, .unset, .unset] [])
      refine own_go (fun _ => XS.aloadN XL.here hx rfl (hb hby d1_112) rfl rfl) ?_
      show GG _ _ _ _ _ _ _ TL (mkF m 113 #[.val (.ref ob), .val (.ref a1), .val (.ref b1), .val (.double dw), .second, .val (.long (0 : Int64)), .second, .unset, .unset, .unset, .unset] [(.ref b1)])
      refine own_go (fun _ => XS.astore XL.here hx rfl (hb hby d1_113) rfl rfl (l' := #[.val (.ref ob), .val (.ref a1), .val (.ref b1), .val (.double dw), .second, .val (.long (0 : Int64)), .second, .val (.ref b1), .unset, .unset, .unset]) rfl) ?_
      show GG _ _ _ _ _ _ _ TL (mkF m 115 #[.val (.ref ob), .val (.ref a1), .val (.ref b1), .val (.double dw), .second, .val (.long (0 : Int64)), .second, .val (.ref b1), .unset, .unset, .unset] [])
      refine own_go (fun _ => XS.aload XL.here hx rfl (hb hby d1_115) rfl rfl) ?_
      show GG _ _ _ _ _ _ _ TL (mkF m 117 #[.val (.ref ob), .val (.ref a1), .val (.ref b1), .val (.double dw), .second, .val (.long (0 : Int64)), .second, .val (.ref b1), .unset, .unset, .unset] [(.ref b1)])
      refine own_go (fun _ => own_len XL hx hZ eL V_b (g := (mkF m 117 #[.val (.ref ob), .val (.ref a1), .val (.ref b1), .val (.double dw), .second, .val (.long (0 : Int64)), .second, .val (.ref b1), .unset, .unset, .unset] [(.ref b1)])) rfl rfl (hb hby d1_117) _) ?_
      show GG _ _ _ _ _ _ _ TL (mkF m 118 #[.val (.ref ob), .val (.ref a1), .val (.ref b1), .val (.double dw), .second, .val (.long (0 : Int64)), .second, .val (.ref b1), .unset, .unset, .unset] [(.int (1 : Int32))])
      refine own_go (fun _ => XS.istore XL.here hx rfl (hb hby d1_118) rfl (l' := #[.val (.ref ob), .val (.ref a1), .val (.ref b1), .val (.double dw), .second, .val (.long (0 : Int64)), .second, .val (.ref b1), .val (.int (1 : Int32)), .unset, .unset]) rfl) ?_
      show GG _ _ _ _ _ _ _ TL (mkF m 120 #[.val (.ref ob), .val (.ref a1), .val (.ref b1), .val (.double dw), .second, .val (.long (0 : Int64)), .second, .val (.ref b1), .val (.int (1 : Int32)), .unset, .unset] [])
      refine own_go (fun _ => XS.iconst XL.here hx rfl (hb hby d1_120)) ?_
      show GG _ _ _ _ _ _ _ TL (mkF m 121 #[.val (.ref ob), .val (.ref a1), .val (.ref b1), .val (.double dw), .second, .val (.long (0 : Int64)), .second, .val (.ref b1), .val (.int (1 : Int32)), .unset, .unset] [(.int (0 : Int32))])
      refine own_go (fun _ => XS.istore XL.here hx rfl (hb hby d1_121) rfl (l' := #[.val (.ref ob), .val (.ref a1), .val (.ref b1), .val (.double dw), .second, .val (.long (0 : Int64)), .second, .val (.ref b1), .val (.int (1 : Int32)), .val (.int (0 : Int32)), .unset]) rfl) ?_
      show GG _ _ _ _ _ _ _ TL (mkF m 123 #[.val (.ref ob), .val (.ref a1), .val (.ref b1), .val (.double dw), .second, .val (.long (0 : Int64)), .second, .val (.ref b1), .val (.int (1 : Int32)), .val (.int (0 : Int32)), .unset] [])
      refine own_go (fun _ => XS.iload XL.here hx rfl (hb hby d1_123) rfl) ?_
      show GG _ _ _ _ _ _ _ TL (mkF m 125 #[.val (.ref ob), .val (.ref a1), .val (.ref b1), .val (.double dw), .second, .val (.long (0 : Int64)), .second, .val (.ref b1), .val (.int (1 : Int32)), .val (.int (0 : Int32)), .unset] [(.int (0 : Int32))])
      refine own_go (fun _ => XS.iload XL.here hx rfl (hb hby d1_125) rfl) ?_
      show GG _ _ _ _ _ _ _ TL (mkF m 127 #[.val (.ref ob), .val (.ref a1), .val (.ref b1), .val (.double dw), .second, .val (.long (0 : Int64)), .second, .val (.ref b1), .val (.int (1 : Int32)), .val (.int (0 : Int32)), .unset] [(.int (1 : Int32)), (.int (0 : Int32))])
      have hc127 : (0 : Int32) < (1 : Int32) := by decide
      refine own_go (fun _ => XS.icmpNo XL.here hx rfl (hb hby d1_127) rfl (tlt hc127).2.1) ?_
      show GG _ _ _ _ _ _ _ TL (mkF m 130 #[.val (.ref ob), .val (.ref a1), .val (.ref b1), .val (.double dw), .second, .val (.long (0 : Int64)), .second, .val (.ref b1), .val (.int (1 : Int32)), .val (.int (0 : Int32)), .unset] [])
      refine own_go (fun _ => XS.aload XL.here hx rfl (hb hby d1_130) rfl rfl) ?_
      show GG _ _ _ _ _ _ _ TL (mkF m 132 #[.val (.ref ob), .val (.ref a1), .val (.ref b1), .val (.double dw), .second, .val (.long (0 : Int64)), .second, .val (.ref b1), .val (.int (1 : Int32)), .val (.int (0 : Int32)), .unset] [(.ref b1)])
      refine own_go (fun _ => XS.iload XL.here hx rfl (hb hby d1_132) rfl) ?_
      show GG _ _ _ _ _ _ _ TL (mkF m 134 #[.val (.ref ob), .val (.ref a1), .val (.ref b1), .val (.double dw), .second, .val (.long (0 : Int64)), .second, .val (.ref b1), .val (.int (1 : Int32)), .val (.int (0 : Int32)), .unset] [(.int (0 : Int32)), (.ref b1)])
      refine own_go (fun _ => own_iaload XL hx hZ eL V_b (j := (0 : Int32)) (v := (.int (8 : Int32))) (by decide) rfl (g := (mkF m 134 #[.val (.ref ob), .val (.ref a1), .val (.ref b1), .val (.double dw), .second, .val (.long (0 : Int64)), .second, .val (.ref b1), .val (.int (1 : Int32)), .val (.int (0 : Int32)), .unset] [(.int (0 : Int32)), (.ref b1)])) rfl rfl (hb hby d1_134) _) ?_
      show GG _ _ _ _ _ _ _ TL (mkF m 135 #[.val (.ref ob), .val (.ref a1), .val (.ref b1), .val (.double dw), .second, .val (.long (0 : Int64)), .second, .val (.ref b1), .val (.int (1 : Int32)), .val (.int (0 : Int32)), .unset] [(.int (8 : Int32))])
      refine own_go (fun _ => XS.istore XL.here hx rfl (hb hby d1_135) rfl (l' := #[.val (.ref ob), .val (.ref a1), .val (.ref b1), .val (.double dw), .second, .val (.long (0 : Int64)), .second, .val (.ref b1), .val (.int (1 : Int32)), .val (.int (0 : Int32)), .val (.int (8 : Int32))]) rfl) ?_
      show GG _ _ _ _ _ _ _ TL (mkF m 137 #[.val (.ref ob), .val (.ref a1), .val (.ref b1), .val (.double dw), .second, .val (.long (0 : Int64)), .second, .val (.ref b1), .val (.int (1 : Int32)), .val (.int (0 : Int32)), .val (.int (8 : Int32))] [])
      refine own_go (fun _ => XS.iload XL.here hx rfl (hb hby d1_137) rfl) ?_
      show GG _ _ _ _ _ _ _ TL (mkF m 139 #[.val (.ref ob), .val (.ref a1), .val (.ref b1), .val (.double dw), .second, .val (.long (0 : Int64)), .second, .val (.ref b1), .val (.int (1 : Int32)), .val (.int (0 : Int32)), .val (.int (8 : Int32))] [(.int (8 : Int32))])
      refine own_go (fun _ => XS.iconst XL.here hx rfl (hb hby d1_139)) ?_
      show GG _ _ _ _ _ _ _ TL (mkF m 140 #[.val (.ref ob), .val (.ref a1), .val (.ref b1), .val (.double dw), .second, .val (.long (0 : Int64)), .second, .val (.ref b1), .val (.int (1 : Int32)), .val (.int (0 : Int32)), .val (.int (8 : Int32))] [(.int (1 : Int32)), (.int (8 : Int32))])
      have hc140 : ¬ ((8 : Int32) < (1 : Int32)) := by decide
      refine own_go (fun _ => XS.icmpNo XL.here hx rfl (hb hby d1_140) rfl (flt hc140).1) ?_
      show GG _ _ _ _ _ _ _ TL (mkF m 143 #[.val (.ref ob), .val (.ref a1), .val (.ref b1), .val (.double dw), .second, .val (.long (0 : Int64)), .second, .val (.ref b1), .val (.int (1 : Int32)), .val (.int (0 : Int32)), .val (.int (8 : Int32))] [])
      refine own_go (fun _ => XS.iload XL.here hx rfl (hb hby d1_143) rfl) ?_
      show GG _ _ _ _ _ _ _ TL (mkF m 145 #[.val (.ref ob), .val (.ref a1), .val (.ref b1), .val (.double dw), .second, .val (.long (0 : Int64)), .second, .val (.ref b1), .val (.int (1 : Int32)), .val (.int (0 : Int32)), .val (.int (8 : Int32))] [(.int (8 : Int32))])
      refine own_go (fun _ => XS.bipush XL.here hx rfl (hb hby d1_145)) ?_
      show GG _ _ _ _ _ _ _ TL (mkF m 147 #[.val (.ref ob), .val (.ref a1), .val (.ref b1), .val (.double dw), .second, .val (.long (0 : Int64)), .second, .val (.ref b1), .val (.int (1 : Int32)), .val (.int (0 : Int32)), .val (.int (8 : Int32))] [(.int (8 : Int32)), (.int (8 : Int32))])
      have hc147 : ¬ ((8 : Int32) < (8 : Int32)) := by decide
      refine own_go (fun _ => XS.icmpYes XL.here hx rfl (pc0 := 147) (pc' := 165) rfl (hb hby d1_147) rfl (flt hc147).2.2.2 (by decide) (by decide)) ?_
      show GG _ _ _ _ _ _ _ TL (mkF m 165 #[.val (.ref ob), .val (.ref a1), .val (.ref b1), .val (.double dw), .second, .val (.long (0 : Int64)), .second, .val (.ref b1), .val (.int (1 : Int32)), .val (.int (0 : Int32)), .val (.int (8 : Int32))] [])
      refine own_go (fun _ => XS.lload XL.here hx rfl (hb hby d1_165) rfl) ?_
      show GG _ _ _ _ _ _ _ TL (mkF m 167 #[.val (.ref ob), .val (.ref a1), .val (.ref b1), .val (.double dw), .second, .val (.long (0 : Int64)), .second, .val (.ref b1), .val (.int (1 : Int32)), .val (.int (0 : Int32)), .val (.int (8 : Int32))] [(.long (0 : Int64))])
      refine own_go (fun _ => XS.iload XL.here hx rfl (hb hby d1_167) rfl) ?_
      show GG _ _ _ _ _ _ _ TL (mkF m 169 #[.val (.ref ob), .val (.ref a1), .val (.ref b1), .val (.double dw), .second, .val (.long (0 : Int64)), .second, .val (.ref b1), .val (.int (1 : Int32)), .val (.int (0 : Int32)), .val (.int (8 : Int32))] [(.int (8 : Int32)), (.long (0 : Int64))])
      refine own_go (fun _ => XS.i2l XL.here hx rfl (hb hby d1_169) rfl) ?_
      show GG _ _ _ _ _ _ _ TL (mkF m 170 #[.val (.ref ob), .val (.ref a1), .val (.ref b1), .val (.double dw), .second, .val (.long (0 : Int64)), .second, .val (.ref b1), .val (.int (1 : Int32)), .val (.int (0 : Int32)), .val (.int (8 : Int32))] [(.long (8 : Int64)), (.long (0 : Int64))])
      refine own_go (fun _ => XS.ladd XL.here hx rfl (hb hby d1_170) rfl) ?_
      show GG _ _ _ _ _ _ _ TL (mkF m 171 #[.val (.ref ob), .val (.ref a1), .val (.ref b1), .val (.double dw), .second, .val (.long (0 : Int64)), .second, .val (.ref b1), .val (.int (1 : Int32)), .val (.int (0 : Int32)), .val (.int (8 : Int32))] [(.long (8 : Int64))])
      refine own_go (fun _ => XS.lstore XL.here hx rfl (hb hby d1_171) rfl (l' := #[.val (.ref ob), .val (.ref a1), .val (.ref b1), .val (.double dw), .second, .val (.long (8 : Int64)), .second, .val (.ref b1), .val (.int (1 : Int32)), .val (.int (0 : Int32)), .val (.int (8 : Int32))]) rfl) ?_
      show GG _ _ _ _ _ _ _ TL (mkF m 173 #[.val (.ref ob), .val (.ref a1), .val (.ref b1), .val (.double dw), .second, .val (.long (8 : Int64)), .second, .val (.ref b1), .val (.int (1 : Int32)), .val (.int (0 : Int32)), .val (.int (8 : Int32))] [])
      refine own_go (fun _ => XS.iinc XL.here hx rfl (hb hby d1_173) rfl (l' := #[.val (.ref ob), .val (.ref a1), .val (.ref b1), .val (.double dw), .second, .val (.long (8 : Int64)), .second, .val (.ref b1), .val (.int (1 : Int32)), .val (.int (1 : Int32)), .val (.int (8 : Int32))]) rfl) ?_
      show GG _ _ _ _ _ _ _ TL (mkF m 176 #[.val (.ref ob), .val (.ref a1), .val (.ref b1), .val (.double dw), .second, .val (.long (8 : Int64)), .second, .val (.ref b1), .val (.int (1 : Int32)), .val (.int (1 : Int32)), .val (.int (8 : Int32))] [])
      refine own_go (fun _ => XS.goto XL.here hx rfl (pc0 := 176) (pc' := 123) rfl (hb hby d1_176) (by decide) (by decide)) ?_
      show GG _ _ _ _ _ _ _ TL (mkF m 123 #[.val (.ref ob), .val (.ref a1), .val (.ref b1), .val (.double dw), .second, .val (.long (8 : Int64)), .second, .val (.ref b1), .val (.int (1 : Int32)), .val (.int (1 : Int32)), .val (.int (8 : Int32))] [])
      refine own_go (fun _ => XS.iload XL.here hx rfl (hb hby d1_123) rfl) ?_
      show GG _ _ _ _ _ _ _ TL (mkF m 125 #[.val (.ref ob), .val (.ref a1), .val (.ref b1), .val (.double dw), .second, .val (.long (8 : Int64)), .second, .val (.ref b1), .val (.int (1 : Int32)), .val (.int (1 : Int32)), .val (.int (8 : Int32))] [(.int (1 : Int32))])
      refine own_go (fun _ => XS.iload XL.here hx rfl (hb hby d1_125) rfl) ?_
      show GG _ _ _ _ _ _ _ TL (mkF m 127 #[.val (.ref ob), .val (.ref a1), .val (.ref b1), .val (.double dw), .second, .val (.long (8 : Int64)), .second, .val (.ref b1), .val (.int (1 : Int32)), .val (.int (1 : Int32)), .val (.int (8 : Int32))] [(.int (1 : Int32)), (.int (1 : Int32))])
      have hc127 : ¬ ((1 : Int32) < (1 : Int32)) := by decide
      refine own_go (fun _ => XS.icmpYes XL.here hx rfl (pc0 := 127) (pc' := 179) rfl (hb hby d1_127) rfl (flt hc127).2.1 (by decide) (by decide)) ?_
      show GG _ _ _ _ _ _ _ TL (mkF m 179 #[.val (.ref ob), .val (.ref a1), .val (.ref b1), .val (.double dw), .second, .val (.long (8 : Int64)), .second, .val (.ref b1), .val (.int (1 : Int32)), .val (.int (1 : Int32)), .val (.int (8 : Int32))] [])
      refine own_go (fun _ => XS.lload XL.here hx rfl (hb hby d1_179) rfl) ?_
      show GG _ _ _ _ _ _ _ TL (mkF m 181 #[.val (.ref ob), .val (.ref a1), .val (.ref b1), .val (.double dw), .second, .val (.long (8 : Int64)), .second, .val (.ref b1), .val (.int (1 : Int32)), .val (.int (1 : Int32)), .val (.int (8 : Int32))] [(.long (8 : Int64))])
      refine own_go (fun _ => XL.ldc2Long hx hown (mvT hZ (hw _ (List.mem_of_getElem? (i := 29) rfl))) (g := (mkF m 181 #[.val (.ref ob), .val (.ref a1), .val (.ref b1), .val (.double dw), .second, .val (.long (8 : Int64)), .second, .val (.ref b1), .val (.int (1 : Int32)), .val (.int (1 : Int32)), .val (.int (8 : Int32))] [(.long (8 : Int64))])) rfl (hb hby d1_181) _) ?_
      show GG _ _ _ _ _ _ _ TL (mkF m 184 #[.val (.ref ob), .val (.ref a1), .val (.ref b1), .val (.double dw), .second, .val (.long (8 : Int64)), .second, .val (.ref b1), .val (.int (1 : Int32)), .val (.int (1 : Int32)), .val (.int (8 : Int32))] [(.long (8 : Int64)), (.long (8 : Int64))])
      refine own_go (fun _ => XS.lrem XL.here hx rfl (hb hby d1_184) rfl (by decide)) ?_
      show GG _ _ _ _ _ _ _ TL (mkF m 185 #[.val (.ref ob), .val (.ref a1), .val (.ref b1), .val (.double dw), .second, .val (.long (8 : Int64)), .second, .val (.ref b1), .val (.int (1 : Int32)), .val (.int (1 : Int32)), .val (.int (8 : Int32))] [(.long ((8 : Int64) - ((8 : Int64) / (8 : Int64)) * (8 : Int64)))])
      refine own_go (fun _ => XS.lconst XL.here hx rfl (hb hby d1_185)) ?_
      show GG _ _ _ _ _ _ _ TL (mkF m 186 #[.val (.ref ob), .val (.ref a1), .val (.ref b1), .val (.double dw), .second, .val (.long (8 : Int64)), .second, .val (.ref b1), .val (.int (1 : Int32)), .val (.int (1 : Int32)), .val (.int (8 : Int32))] [(.long (0 : Int64)), (.long ((8 : Int64) - ((8 : Int64) / (8 : Int64)) * (8 : Int64)))])
      refine own_go (fun _ => XS.lcmp XL.here hx rfl (hb hby d1_186) rfl) ?_
      show GG _ _ _ _ _ _ _ TL (mkF m 187 #[.val (.ref ob), .val (.ref a1), .val (.ref b1), .val (.double dw), .second, .val (.long (8 : Int64)), .second, .val (.ref b1), .val (.int (1 : Int32)), .val (.int (1 : Int32)), .val (.int (8 : Int32))] [(.int (lcmpW ((8 : Int64) - ((8 : Int64) / (8 : Int64)) * (8 : Int64)) (0 : Int64)))])
      have hc187 : ((8 : Int64) - ((8 : Int64) / (8 : Int64)) * (8 : Int64)) = (0 : Int64) := by decide
      refine own_go (fun _ => XS.ifYes XL.here hx rfl (pc0 := 187) (pc' := 205) rfl (hb hby d1_187) rfl ((if0 _ _).trans (teq ((lw_eq _ _).mpr hc187)).1) (by decide) (by decide)) ?_
      show GG _ _ _ _ _ _ _ TL (mkF m 205 #[.val (.ref ob), .val (.ref a1), .val (.ref b1), .val (.double dw), .second, .val (.long (8 : Int64)), .second, .val (.ref b1), .val (.int (1 : Int32)), .val (.int (1 : Int32)), .val (.int (8 : Int32))] [])
      refine own_go (fun _ => XS.aloadN XL.here hx rfl (hb hby d1_205) rfl rfl) ?_
      show GG _ _ _ _ _ _ _ TL (mkF m 206 #[.val (.ref ob), .val (.ref a1), .val (.ref b1), .val (.double dw), .second, .val (.long (8 : Int64)), .second, .val (.ref b1), .val (.int (1 : Int32)), .val (.int (1 : Int32)), .val (.int (8 : Int32))] [(.ref ob)])
      refine own_go (fun _ => XS.dloadN XL.here hx rfl (hb hby d1_206) rfl) ?_
      show GG _ _ _ _ _ _ _ TL (mkF m 207 #[.val (.ref ob), .val (.ref a1), .val (.ref b1), .val (.double dw), .second, .val (.long (8 : Int64)), .second, .val (.ref b1), .val (.int (1 : Int32)), .val (.int (1 : Int32)), .val (.int (8 : Int32))] [(.double dw), (.ref ob)])
      obtain ⟨T5, h5, X5, e5, W5, st5⟩ := putF XL hx hZ hown (host := "") (Or.inl (hw _ (List.mem_of_getElem? (i := 30) rfl))) Via.refl eL F_widest E_ob (Or.inr ⟨(hw _ (List.mem_of_getElem? (i := 31) rfl)), rfl, hnm⟩) (hw _ (List.mem_of_getElem? (i := 2) rfl)) (ty := .double) (by decide) rfl rfl (g := (mkF m 207 #[.val (.ref ob), .val (.ref a1), .val (.ref b1), .val (.double dw), .second, .val (.long (8 : Int64)), .second, .val (.ref b1), .val (.int (1 : Int32)), .val (.int (1 : Int32)), .val (.int (8 : Int32))] [(.double dw), (.ref ob)])) rfl rfl (hb hby d1_207)
      have E_ob := E_ob.wr W5
      have F_numbers := F_numbers.other W5 (Or.inr (slot_ne (Or.inr (hw _ (List.mem_of_getElem? (i := 13) rfl))) (Or.inr (hw _ (List.mem_of_getElem? (i := 31) rfl))) (by decide) (t := (.array .double)) (t' := .double) (by decide) (by decide)))
      have F_bits := F_bits.other W5 (Or.inr (slot_ne (Or.inr (hw _ (List.mem_of_getElem? (i := 42) rfl))) (Or.inr (hw _ (List.mem_of_getElem? (i := 31) rfl))) (by decide) (t := (.array .int)) (t' := .double) (by decide) (by decide)))
      have F_stride := F_stride.other W5 (Or.inr (slot_ne (Or.inr (hw _ (List.mem_of_getElem? (i := 44) rfl))) (Or.inr (hw _ (List.mem_of_getElem? (i := 31) rfl))) (by decide) (t := .int) (t' := .double) (by decide) (by decide)))
      have F_places := F_places.other W5 (Or.inr (slot_ne (Or.inr (hw _ (List.mem_of_getElem? (i := 46) rfl))) (Or.inr (hw _ (List.mem_of_getElem? (i := 31) rfl))) (by decide) (t := (.array .int)) (t' := .double) (by decide) (by decide)))
      have V_a := V_a.other W5 (Ne.symm no_a)
      have V_b := V_b.other W5 (Ne.symm no_b)
      have E_b := E_b.wr W5
      have V_ob2 := V_ob2.other W5 (Ne.symm ne_ob_ob2)
      have K0 := K0.wr W5 (Or.inl (List.mem_of_getElem? (i := 0) rfl))
      have F_widest := F_widest.same W5
      have N5 := Fr.snoc X5 NL g_ob
      refine own_go (fun _ => st5 _) ?_
      show GG _ _ _ _ _ _ _ T5 (mkF m 210 #[.val (.ref ob), .val (.ref a1), .val (.ref b1), .val (.double dw), .second, .val (.long (8 : Int64)), .second, .val (.ref b1), .val (.int (1 : Int32)), .val (.int (1 : Int32)), .val (.int (8 : Int32))] [])
      refine own_go (fun _ => XS.aloadN X5.here hx rfl (hb hby d1_210) rfl rfl) ?_
      show GG _ _ _ _ _ _ _ T5 (mkF m 211 #[.val (.ref ob), .val (.ref a1), .val (.ref b1), .val (.double dw), .second, .val (.long (8 : Int64)), .second, .val (.ref b1), .val (.int (1 : Int32)), .val (.int (1 : Int32)), .val (.int (8 : Int32))] [(.ref ob)])
      refine own_go (fun _ => XS.aloadN X5.here hx rfl (hb hby d1_211) rfl rfl) ?_
      show GG _ _ _ _ _ _ _ T5 (mkF m 212 #[.val (.ref ob), .val (.ref a1), .val (.ref b1), .val (.double dw), .second, .val (.long (8 : Int64)), .second, .val (.ref b1), .val (.int (1 : Int32)), .val (.int (1 : Int32)), .val (.int (8 : Int32))] [(.ref b1), (.ref ob)])
      obtain ⟨T6, h6, ob6, g6, X6, e6, E6, V_ob6, E_ob6, st6⟩ := own_clone X5 hx hZ hown (hw _ (List.mem_of_getElem? (i := 32) rfl)) (hw _ (List.mem_of_getElem? (i := 33) rfl)) (hw _ (List.mem_of_getElem? (i := 37) rfl)) (hw _ (List.mem_of_getElem? (i := 35) rfl)) (hw _ (List.mem_of_getElem? (i := 36) rfl)) (hw _ (List.mem_of_getElem? (i := 38) rfl)) e5 V_b E_b (g := (mkF m 212 #[.val (.ref ob), .val (.ref a1), .val (.ref b1), .val (.double dw), .second, .val (.long (8 : Int64)), .second, .val (.ref b1), .val (.int (1 : Int32)), .val (.int (1 : Int32)), .val (.int (8 : Int32))] [(.ref b1), (.ref ob)])) rfl (by rw [hml]; rfl) rfl (hb hby d1_212) (by decide) (W := 1) (cap := 1) (by show 2 * 0 + _ ≤ _; exact Nat.le_of_eq rfl) (by decide) (Nat.le_of_ble_eq_true rfl) (by decide) (by decide)
      have ne_ob_ob6 : ob ≠ ob6 := Nat.ne_of_lt (Nat.lt_of_lt_of_le E_ob.lt (Nat.le_of_eq g6.symm))
      have ne_a1_ob6 : a1 ≠ ob6 := Nat.ne_of_lt (Nat.lt_of_lt_of_le V_a.lt (Nat.le_of_eq g6.symm))
      have ne_b1_ob6 : b1 ≠ ob6 := Nat.ne_of_lt (Nat.lt_of_lt_of_le V_b.lt (Nat.le_of_eq g6.symm))
      have ne_ob2_ob6 : ob2 ≠ ob6 := Nat.ne_of_lt (Nat.lt_of_lt_of_le V_ob2.lt (Nat.le_of_eq g6.symm))
      have sz_ob6 : h0.size ≤ ob6 := Nat.le_trans K0.1 (Nat.le_of_eq g6.symm)
      have g_ob6 : n0 ≤ ob6 := Nat.le_trans Z0 sz_ob6
      have E_ob := E_ob.ext E6
      have F_numbers := F_numbers.ext E6
      have F_widest := F_widest.ext E6
      have F_bits := F_bits.ext E6
      have F_stride := F_stride.ext E6
      have F_places := F_places.ext E6
      have V_a := V_a.ext E6
      have V_b := V_b.ext E6
      have E_b := E_b.ext E6
      have V_ob2 := V_ob2.ext E6
      have K0 := K0.ext E6
      refine own_go (fun _ => st6 _) ?_
      show GG _ _ _ _ _ _ _ T6 (mkF m 215 #[.val (.ref ob), .val (.ref a1), .val (.ref b1), .val (.double dw), .second, .val (.long (8 : Int64)), .second, .val (.ref b1), .val (.int (1 : Int32)), .val (.int (1 : Int32)), .val (.int (8 : Int32))] [(.ref ob6), (.ref ob)])
      obtain ⟨T7, X7, e7, st7⟩ := castY X6 hx hZ hown (hw _ (List.mem_of_getElem? (i := 39) rfl)) e6 (Ins.self E_ob6) (g := (mkF m 215 #[.val (.ref ob), .val (.ref a1), .val (.ref b1), .val (.double dw), .second, .val (.long (8 : Int64)), .second, .val (.ref b1), .val (.int (1 : Int32)), .val (.int (1 : Int32)), .val (.int (8 : Int32))] [(.ref ob6), (.ref ob)])) rfl rfl (hb hby d1_215)
      refine own_go (fun _ => st7 _) ?_
      show GG _ _ _ _ _ _ _ T7 (mkF m 218 #[.val (.ref ob), .val (.ref a1), .val (.ref b1), .val (.double dw), .second, .val (.long (8 : Int64)), .second, .val (.ref b1), .val (.int (1 : Int32)), .val (.int (1 : Int32)), .val (.int (8 : Int32))] [(.ref ob6), (.ref ob)])
      obtain ⟨T8, h8, X8, e8, W8, st8⟩ := putF X7 hx hZ hown (host := "") (Or.inl (hw _ (List.mem_of_getElem? (i := 41) rfl))) Via.refl e7 F_bits E_ob (Or.inr ⟨(hw _ (List.mem_of_getElem? (i := 42) rfl)), rfl, hnm⟩) (hw _ (List.mem_of_getElem? (i := 2) rfl)) (ty := (.array .int)) (by decide) rfl rfl (g := (mkF m 218 #[.val (.ref ob), .val (.ref a1), .val (.ref b1), .val (.double dw), .second, .val (.long (8 : Int64)), .second, .val (.ref b1), .val (.int (1 : Int32)), .val (.int (1 : Int32)), .val (.int (8 : Int32))] [(.ref ob6), (.ref ob)])) rfl rfl (hb hby d1_218)
      have E_ob := E_ob.wr W8
      have F_numbers := F_numbers.other W8 (Or.inr (slot_ne (Or.inr (hw _ (List.mem_of_getElem? (i := 13) rfl))) (Or.inr (hw _ (List.mem_of_getElem? (i := 42) rfl))) (by decide) (t := (.array .double)) (t' := (.array .int)) (by decide) (by decide)))
      have F_widest := F_widest.other W8 (Or.inr (slot_ne (Or.inr (hw _ (List.mem_of_getElem? (i := 31) rfl))) (Or.inr (hw _ (List.mem_of_getElem? (i := 42) rfl))) (by decide) (t := .double) (t' := (.array .int)) (by decide) (by decide)))
      have F_stride := F_stride.other W8 (Or.inr (slot_ne (Or.inr (hw _ (List.mem_of_getElem? (i := 44) rfl))) (Or.inr (hw _ (List.mem_of_getElem? (i := 42) rfl))) (by decide) (t := .int) (t' := (.array .int)) (by decide) (by decide)))
      have F_places := F_places.other W8 (Or.inr (slot_ne (Or.inr (hw _ (List.mem_of_getElem? (i := 46) rfl))) (Or.inr (hw _ (List.mem_of_getElem? (i := 42) rfl))) (by decide) (t := (.array .int)) (t' := (.array .int)) (by decide) (by decide)))
      have V_a := V_a.other W8 (Ne.symm no_a)
      have V_b := V_b.other W8 (Ne.symm no_b)
      have E_b := E_b.wr W8
      have V_ob2 := V_ob2.other W8 (Ne.symm ne_ob_ob2)
      have K0 := K0.wr W8 (Or.inl (List.mem_of_getElem? (i := 0) rfl))
      have V_ob6 := V_ob6.other W8 (Ne.symm ne_ob_ob6)
      have E_ob6 := E_ob6.wr W8
      have F_bits := F_bits.same W8
      have N8 := Fr.snoc X8 N5 g_ob
      refine own_go (fun _ => st8 _) ?_
      show GG _ _ _ _ _ _ _ T8 (mkF m 221 #[.val (.ref ob), .val (.ref a1), .val (.ref b1), .val (.double dw), .second, .val (.long (8 : Int64)), .second, .val (.ref b1), .val (.int (1 : Int32)), .val (.int (1 : Int32)), .val (.int (8 : Int32))] [])
      refine own_go (fun _ => XS.aloadN X8.here hx rfl (hb hby d1_221) rfl rfl) ?_
      show GG _ _ _ _ _ _ _ T8 (mkF m 222 #[.val (.ref ob), .val (.ref a1), .val (.ref b1), .val (.double dw), .second, .val (.long (8 : Int64)), .second, .val (.ref b1), .val (.int (1 : Int32)), .val (.int (1 : Int32)), .val (.int (8 : Int32))] [(.ref ob)])
      refine own_go (fun _ => XS.lload X8.here hx rfl (hb hby d1_222) rfl) ?_
      show GG _ _ _ _ _ _ _ T8 (mkF m 224 #[.val (.ref ob), .val (.ref a1), .val (.ref b1), .val (.double dw), .second, .val (.long (8 : Int64)), .second, .val (.ref b1), .val (.int (1 : Int32)), .val (.int (1 : Int32)), .val (.int (8 : Int32))] [(.long (8 : Int64)), (.ref ob)])
      refine own_go (fun _ => X8.ldc2Long hx hown (mvT hZ (hw _ (List.mem_of_getElem? (i := 29) rfl))) (g := (mkF m 224 #[.val (.ref ob), .val (.ref a1), .val (.ref b1), .val (.double dw), .second, .val (.long (8 : Int64)), .second, .val (.ref b1), .val (.int (1 : Int32)), .val (.int (1 : Int32)), .val (.int (8 : Int32))] [(.long (8 : Int64)), (.ref ob)])) rfl (hb hby d1_224) _) ?_
      show GG _ _ _ _ _ _ _ T8 (mkF m 227 #[.val (.ref ob), .val (.ref a1), .val (.ref b1), .val (.double dw), .second, .val (.long (8 : Int64)), .second, .val (.ref b1), .val (.int (1 : Int32)), .val (.int (1 : Int32)), .val (.int (8 : Int32))] [(.long (8 : Int64)), (.long (8 : Int64)), (.ref ob)])
      refine own_go (fun _ => XS.ldiv X8.here hx rfl (hb hby d1_227) rfl (by decide)) ?_
      show GG _ _ _ _ _ _ _ T8 (mkF m 228 #[.val (.ref ob), .val (.ref a1), .val (.ref b1), .val (.double dw), .second, .val (.long (8 : Int64)), .second, .val (.ref b1), .val (.int (1 : Int32)), .val (.int (1 : Int32)), .val (.int (8 : Int32))] [(.long ((8 : Int64) / (8 : Int64))), (.ref ob)])
      refine own_go (fun _ => XS.l2i X8.here hx rfl (hb hby d1_228) rfl) ?_
      show GG _ _ _ _ _ _ _ T8 (mkF m 229 #[.val (.ref ob), .val (.ref a1), .val (.ref b1), .val (.double dw), .second, .val (.long (8 : Int64)), .second, .val (.ref b1), .val (.int (1 : Int32)), .val (.int (1 : Int32)), .val (.int (8 : Int32))] [(.int (((8 : Int64) / (8 : Int64)).toInt32)), (.ref ob)])
      obtain ⟨T9, h9, X9, e9, W9, st9⟩ := putF X8 hx hZ hown (host := "") (Or.inl (hw _ (List.mem_of_getElem? (i := 43) rfl))) Via.refl e8 F_stride E_ob (Or.inr ⟨(hw _ (List.mem_of_getElem? (i := 44) rfl)), rfl, hnm⟩) (hw _ (List.mem_of_getElem? (i := 2) rfl)) (ty := .int) (by decide) rfl rfl (g := (mkF m 229 #[.val (.ref ob), .val (.ref a1), .val (.ref b1), .val (.double dw), .second, .val (.long (8 : Int64)), .second, .val (.ref b1), .val (.int (1 : Int32)), .val (.int (1 : Int32)), .val (.int (8 : Int32))] [(.int (((8 : Int64) / (8 : Int64)).toInt32)), (.ref ob)])) rfl rfl (hb hby d1_229)
      have E_ob := E_ob.wr W9
      have F_numbers := F_numbers.other W9 (Or.inr (slot_ne (Or.inr (hw _ (List.mem_of_getElem? (i := 13) rfl))) (Or.inr (hw _ (List.mem_of_getElem? (i := 44) rfl))) (by decide) (t := (.array .double)) (t' := .int) (by decide) (by decide)))
      have F_widest := F_widest.other W9 (Or.inr (slot_ne (Or.inr (hw _ (List.mem_of_getElem? (i := 31) rfl))) (Or.inr (hw _ (List.mem_of_getElem? (i := 44) rfl))) (by decide) (t := .double) (t' := .int) (by decide) (by decide)))
      have F_bits := F_bits.other W9 (Or.inr (slot_ne (Or.inr (hw _ (List.mem_of_getElem? (i := 42) rfl))) (Or.inr (hw _ (List.mem_of_getElem? (i := 44) rfl))) (by decide) (t := (.array .int)) (t' := .int) (by decide) (by decide)))
      have F_places := F_places.other W9 (Or.inr (slot_ne (Or.inr (hw _ (List.mem_of_getElem? (i := 46) rfl))) (Or.inr (hw _ (List.mem_of_getElem? (i := 44) rfl))) (by decide) (t := (.array .int)) (t' := .int) (by decide) (by decide)))
      have V_a := V_a.other W9 (Ne.symm no_a)
      have V_b := V_b.other W9 (Ne.symm no_b)
      have E_b := E_b.wr W9
      have V_ob2 := V_ob2.other W9 (Ne.symm ne_ob_ob2)
      have K0 := K0.wr W9 (Or.inl (List.mem_of_getElem? (i := 0) rfl))
      have V_ob6 := V_ob6.other W9 (Ne.symm ne_ob_ob6)
      have E_ob6 := E_ob6.wr W9
      have F_stride := F_stride.same W9
      have N9 := Fr.snoc X9 N8 g_ob
      refine own_go (fun _ => st9 _) ?_
      show GG _ _ _ _ _ _ _ T9 (mkF m 232 #[.val (.ref ob), .val (.ref a1), .val (.ref b1), .val (.double dw), .second, .val (.long (8 : Int64)), .second, .val (.ref b1), .val (.int (1 : Int32)), .val (.int (1 : Int32)), .val (.int (8 : Int32))] [])
      refine own_go (fun _ => XS.aloadN X9.here hx rfl (hb hby d1_232) rfl rfl) ?_
      show GG _ _ _ _ _ _ _ T9 (mkF m 233 #[.val (.ref ob), .val (.ref a1), .val (.ref b1), .val (.double dw), .second, .val (.long (8 : Int64)), .second, .val (.ref b1), .val (.int (1 : Int32)), .val (.int (1 : Int32)), .val (.int (8 : Int32))] [(.ref ob)])
      refine own_go (fun _ => XS.aloadN X9.here hx rfl (hb hby d1_233) rfl rfl) ?_
      show GG _ _ _ _ _ _ _ T9 (mkF m 234 #[.val (.ref ob), .val (.ref a1), .val (.ref b1), .val (.double dw), .second, .val (.long (8 : Int64)), .second, .val (.ref b1), .val (.int (1 : Int32)), .val (.int (1 : Int32)), .val (.int (8 : Int32))] [(.ref b1), (.ref ob)])
      refine own_go (fun _ => own_len X9 hx hZ e9 V_b (g := (mkF m 234 #[.val (.ref ob), .val (.ref a1), .val (.ref b1), .val (.double dw), .second, .val (.long (8 : Int64)), .second, .val (.ref b1), .val (.int (1 : Int32)), .val (.int (1 : Int32)), .val (.int (8 : Int32))] [(.ref b1), (.ref ob)])) rfl rfl (hb hby d1_234) _) ?_
      show GG _ _ _ _ _ _ _ T9 (mkF m 235 #[.val (.ref ob), .val (.ref a1), .val (.ref b1), .val (.double dw), .second, .val (.long (8 : Int64)), .second, .val (.ref b1), .val (.int (1 : Int32)), .val (.int (1 : Int32)), .val (.int (8 : Int32))] [(.int (1 : Int32)), (.ref ob)])
      obtain ⟨T10, h10, ob10, g10, X10, e10, E10, V_ob10, E_ob10, st10⟩ := own_newarr X9 hx hZ (hw _ (List.mem_of_getElem? (i := 4) rfl)) e9 (g := (mkF m 235 #[.val (.ref ob), .val (.ref a1), .val (.ref b1), .val (.double dw), .second, .val (.long (8 : Int64)), .second, .val (.ref b1), .val (.int (1 : Int32)), .val (.int (1 : Int32)), .val (.int (8 : Int32))] [(.int (1 : Int32)), (.ref ob)])) rfl (hb hby d1_235) rfl (by decide) (cap := 1) (by decide) (by decide) (by decide) (by decide) (ad := "[I") (by decide)
      have ne_ob_ob10 : ob ≠ ob10 := Nat.ne_of_lt (Nat.lt_of_lt_of_le E_ob.lt (Nat.le_of_eq g10.symm))
      have ne_a1_ob10 : a1 ≠ ob10 := Nat.ne_of_lt (Nat.lt_of_lt_of_le V_a.lt (Nat.le_of_eq g10.symm))
      have ne_b1_ob10 : b1 ≠ ob10 := Nat.ne_of_lt (Nat.lt_of_lt_of_le V_b.lt (Nat.le_of_eq g10.symm))
      have ne_ob2_ob10 : ob2 ≠ ob10 := Nat.ne_of_lt (Nat.lt_of_lt_of_le V_ob2.lt (Nat.le_of_eq g10.symm))
      have ne_ob6_ob10 : ob6 ≠ ob10 := Nat.ne_of_lt (Nat.lt_of_lt_of_le V_ob6.lt (Nat.le_of_eq g10.symm))
      have sz_ob10 : h0.size ≤ ob10 := Nat.le_trans K0.1 (Nat.le_of_eq g10.symm)
      have g_ob10 : n0 ≤ ob10 := Nat.le_trans Z0 sz_ob10
      have E_ob := E_ob.ext E10
      have F_numbers := F_numbers.ext E10
      have F_widest := F_widest.ext E10
      have F_bits := F_bits.ext E10
      have F_stride := F_stride.ext E10
      have F_places := F_places.ext E10
      have V_a := V_a.ext E10
      have V_b := V_b.ext E10
      have E_b := E_b.ext E10
      have V_ob2 := V_ob2.ext E10
      have K0 := K0.ext E10
      have V_ob6 := V_ob6.ext E10
      have E_ob6 := E_ob6.ext E10
      have V_ob10 : Arx Z h10 ob10 .int [(.int (0 : Int32))] := V_ob10
      refine own_go (fun _ => st10 _) ?_
      show GG _ _ _ _ _ _ _ T10 (mkF m 237 #[.val (.ref ob), .val (.ref a1), .val (.ref b1), .val (.double dw), .second, .val (.long (8 : Int64)), .second, .val (.ref b1), .val (.int (1 : Int32)), .val (.int (1 : Int32)), .val (.int (8 : Int32))] [(.ref ob10), (.ref ob)])
      obtain ⟨T11, h11, X11, e11, W11, st11⟩ := putF X10 hx hZ hown (host := "") (Or.inl (hw _ (List.mem_of_getElem? (i := 45) rfl))) Via.refl e10 F_places E_ob (Or.inr ⟨(hw _ (List.mem_of_getElem? (i := 46) rfl)), rfl, hnm⟩) (hw _ (List.mem_of_getElem? (i := 2) rfl)) (ty := (.array .int)) (by decide) rfl rfl (g := (mkF m 237 #[.val (.ref ob), .val (.ref a1), .val (.ref b1), .val (.double dw), .second, .val (.long (8 : Int64)), .second, .val (.ref b1), .val (.int (1 : Int32)), .val (.int (1 : Int32)), .val (.int (8 : Int32))] [(.ref ob10), (.ref ob)])) rfl rfl (hb hby d1_237)
      have E_ob := E_ob.wr W11
      have F_numbers := F_numbers.other W11 (Or.inr (slot_ne (Or.inr (hw _ (List.mem_of_getElem? (i := 13) rfl))) (Or.inr (hw _ (List.mem_of_getElem? (i := 46) rfl))) (by decide) (t := (.array .double)) (t' := (.array .int)) (by decide) (by decide)))
      have F_widest := F_widest.other W11 (Or.inr (slot_ne (Or.inr (hw _ (List.mem_of_getElem? (i := 31) rfl))) (Or.inr (hw _ (List.mem_of_getElem? (i := 46) rfl))) (by decide) (t := .double) (t' := (.array .int)) (by decide) (by decide)))
      have F_bits := F_bits.other W11 (Or.inr (slot_ne (Or.inr (hw _ (List.mem_of_getElem? (i := 42) rfl))) (Or.inr (hw _ (List.mem_of_getElem? (i := 46) rfl))) (by decide) (t := (.array .int)) (t' := (.array .int)) (by decide) (by decide)))
      have F_stride := F_stride.other W11 (Or.inr (slot_ne (Or.inr (hw _ (List.mem_of_getElem? (i := 44) rfl))) (Or.inr (hw _ (List.mem_of_getElem? (i := 46) rfl))) (by decide) (t := .int) (t' := (.array .int)) (by decide) (by decide)))
      have V_a := V_a.other W11 (Ne.symm no_a)
      have V_b := V_b.other W11 (Ne.symm no_b)
      have E_b := E_b.wr W11
      have V_ob2 := V_ob2.other W11 (Ne.symm ne_ob_ob2)
      have K0 := K0.wr W11 (Or.inl (List.mem_of_getElem? (i := 0) rfl))
      have V_ob6 := V_ob6.other W11 (Ne.symm ne_ob_ob6)
      have E_ob6 := E_ob6.wr W11
      have V_ob10 := V_ob10.other W11 (Ne.symm ne_ob_ob10)
      have E_ob10 := E_ob10.wr W11
      have F_places := F_places.same W11
      have N11 := Fr.snoc X11 N9 g_ob
      refine own_go (fun _ => st11 _) ?_
      show GG _ _ _ _ _ _ _ T11 (mkF m 240 #[.val (.ref ob), .val (.ref a1), .val (.ref b1), .val (.double dw), .second, .val (.long (8 : Int64)), .second, .val (.ref b1), .val (.int (1 : Int32)), .val (.int (1 : Int32)), .val (.int (8 : Int32))] [])
      refine own_go (fun _ => XS.iconst X11.here hx rfl (hb hby d1_240)) ?_
      show GG _ _ _ _ _ _ _ T11 (mkF m 241 #[.val (.ref ob), .val (.ref a1), .val (.ref b1), .val (.double dw), .second, .val (.long (8 : Int64)), .second, .val (.ref b1), .val (.int (1 : Int32)), .val (.int (1 : Int32)), .val (.int (8 : Int32))] [(.int (0 : Int32))])
      refine own_go (fun _ => XS.istore X11.here hx rfl (hb hby d1_241) rfl (l' := #[.val (.ref ob), .val (.ref a1), .val (.ref b1), .val (.double dw), .second, .val (.long (8 : Int64)), .second, .val (.int (0 : Int32)), .val (.int (1 : Int32)), .val (.int (1 : Int32)), .val (.int (8 : Int32))]) rfl) ?_
      show GG _ _ _ _ _ _ _ T11 (mkF m 243 #[.val (.ref ob), .val (.ref a1), .val (.ref b1), .val (.double dw), .second, .val (.long (8 : Int64)), .second, .val (.int (0 : Int32)), .val (.int (1 : Int32)), .val (.int (1 : Int32)), .val (.int (8 : Int32))] [])
      refine own_go (fun _ => XS.iconst X11.here hx rfl (hb hby d1_243)) ?_
      show GG _ _ _ _ _ _ _ T11 (mkF m 244 #[.val (.ref ob), .val (.ref a1), .val (.ref b1), .val (.double dw), .second, .val (.long (8 : Int64)), .second, .val (.int (0 : Int32)), .val (.int (1 : Int32)), .val (.int (1 : Int32)), .val (.int (8 : Int32))] [(.int (0 : Int32))])
      refine own_go (fun _ => XS.istore X11.here hx rfl (hb hby d1_244) rfl (l' := #[.val (.ref ob), .val (.ref a1), .val (.ref b1), .val (.double dw), .second, .val (.long (8 : Int64)), .second, .val (.int (0 : Int32)), .val (.int (0 : Int32)), .val (.int (1 : Int32)), .val (.int (8 : Int32))]) rfl) ?_
      show GG _ _ _ _ _ _ _ T11 (mkF m 246 #[.val (.ref ob), .val (.ref a1), .val (.ref b1), .val (.double dw), .second, .val (.long (8 : Int64)), .second, .val (.int (0 : Int32)), .val (.int (0 : Int32)), .val (.int (1 : Int32)), .val (.int (8 : Int32))] [])
      refine own_go (fun _ => XS.iload X11.here hx rfl (hb hby d1_246) rfl) ?_
      show GG _ _ _ _ _ _ _ T11 (mkF m 248 #[.val (.ref ob), .val (.ref a1), .val (.ref b1), .val (.double dw), .second, .val (.long (8 : Int64)), .second, .val (.int (0 : Int32)), .val (.int (0 : Int32)), .val (.int (1 : Int32)), .val (.int (8 : Int32))] [(.int (0 : Int32))])
      refine own_go (fun _ => XS.aloadN X11.here hx rfl (hb hby d1_248) rfl rfl) ?_
      show GG _ _ _ _ _ _ _ T11 (mkF m 249 #[.val (.ref ob), .val (.ref a1), .val (.ref b1), .val (.double dw), .second, .val (.long (8 : Int64)), .second, .val (.int (0 : Int32)), .val (.int (0 : Int32)), .val (.int (1 : Int32)), .val (.int (8 : Int32))] [(.ref b1), (.int (0 : Int32))])
      refine own_go (fun _ => own_len X11 hx hZ e11 V_b (g := (mkF m 249 #[.val (.ref ob), .val (.ref a1), .val (.ref b1), .val (.double dw), .second, .val (.long (8 : Int64)), .second, .val (.int (0 : Int32)), .val (.int (0 : Int32)), .val (.int (1 : Int32)), .val (.int (8 : Int32))] [(.ref b1), (.int (0 : Int32))])) rfl rfl (hb hby d1_249) _) ?_
      show GG _ _ _ _ _ _ _ T11 (mkF m 250 #[.val (.ref ob), .val (.ref a1), .val (.ref b1), .val (.double dw), .second, .val (.long (8 : Int64)), .second, .val (.int (0 : Int32)), .val (.int (0 : Int32)), .val (.int (1 : Int32)), .val (.int (8 : Int32))] [(.int (1 : Int32)), (.int (0 : Int32))])
      have hc250 : (0 : Int32) < (1 : Int32) := by decide
      refine own_go (fun _ => XS.icmpNo X11.here hx rfl (hb hby d1_250) rfl (tlt hc250).2.1) ?_
      show GG _ _ _ _ _ _ _ T11 (mkF m 253 #[.val (.ref ob), .val (.ref a1), .val (.ref b1), .val (.double dw), .second, .val (.long (8 : Int64)), .second, .val (.int (0 : Int32)), .val (.int (0 : Int32)), .val (.int (1 : Int32)), .val (.int (8 : Int32))] [])
      refine own_go (fun _ => XS.iload X11.here hx rfl (hb hby d1_253) rfl) ?_
      show GG _ _ _ _ _ _ _ T11 (mkF m 255 #[.val (.ref ob), .val (.ref a1), .val (.ref b1), .val (.double dw), .second, .val (.long (8 : Int64)), .second, .val (.int (0 : Int32)), .val (.int (0 : Int32)), .val (.int (1 : Int32)), .val (.int (8 : Int32))] [(.int (0 : Int32))])
      refine own_go (fun _ => XS.aloadN X11.here hx rfl (hb hby d1_255) rfl rfl) ?_
      show GG _ _ _ _ _ _ _ T11 (mkF m 256 #[.val (.ref ob), .val (.ref a1), .val (.ref b1), .val (.double dw), .second, .val (.long (8 : Int64)), .second, .val (.int (0 : Int32)), .val (.int (0 : Int32)), .val (.int (1 : Int32)), .val (.int (8 : Int32))] [(.ref b1), (.int (0 : Int32))])
      refine own_go (fun _ => XS.iload X11.here hx rfl (hb hby d1_256) rfl) ?_
      show GG _ _ _ _ _ _ _ T11 (mkF m 258 #[.val (.ref ob), .val (.ref a1), .val (.ref b1), .val (.double dw), .second, .val (.long (8 : Int64)), .second, .val (.int (0 : Int32)), .val (.int (0 : Int32)), .val (.int (1 : Int32)), .val (.int (8 : Int32))] [(.int (0 : Int32)), (.ref b1), (.int (0 : Int32))])
      refine own_go (fun _ => own_iaload X11 hx hZ e11 V_b (j := (0 : Int32)) (v := (.int (8 : Int32))) (by decide) rfl (g := (mkF m 258 #[.val (.ref ob), .val (.ref a1), .val (.ref b1), .val (.double dw), .second, .val (.long (8 : Int64)), .second, .val (.int (0 : Int32)), .val (.int (0 : Int32)), .val (.int (1 : Int32)), .val (.int (8 : Int32))] [(.int (0 : Int32)), (.ref b1), (.int (0 : Int32))])) rfl rfl (hb hby d1_258) _) ?_
      show GG _ _ _ _ _ _ _ T11 (mkF m 259 #[.val (.ref ob), .val (.ref a1), .val (.ref b1), .val (.double dw), .second, .val (.long (8 : Int64)), .second, .val (.int (0 : Int32)), .val (.int (0 : Int32)), .val (.int (1 : Int32)), .val (.int (8 : Int32))] [(.int (8 : Int32)), (.int (0 : Int32))])
      refine own_go (fun _ => XS.iadd X11.here hx rfl (hb hby d1_259) rfl) ?_
      show GG _ _ _ _ _ _ _ T11 (mkF m 260 #[.val (.ref ob), .val (.ref a1), .val (.ref b1), .val (.double dw), .second, .val (.long (8 : Int64)), .second, .val (.int (0 : Int32)), .val (.int (0 : Int32)), .val (.int (1 : Int32)), .val (.int (8 : Int32))] [(.int (8 : Int32))])
      refine own_go (fun _ => XS.istore X11.here hx rfl (hb hby d1_260) rfl (l' := #[.val (.ref ob), .val (.ref a1), .val (.ref b1), .val (.double dw), .second, .val (.long (8 : Int64)), .second, .val (.int (8 : Int32)), .val (.int (0 : Int32)), .val (.int (1 : Int32)), .val (.int (8 : Int32))]) rfl) ?_
      show GG _ _ _ _ _ _ _ T11 (mkF m 262 #[.val (.ref ob), .val (.ref a1), .val (.ref b1), .val (.double dw), .second, .val (.long (8 : Int64)), .second, .val (.int (8 : Int32)), .val (.int (0 : Int32)), .val (.int (1 : Int32)), .val (.int (8 : Int32))] [])
      refine own_go (fun _ => XS.iload X11.here hx rfl (hb hby d1_262) rfl) ?_
      show GG _ _ _ _ _ _ _ T11 (mkF m 264 #[.val (.ref ob), .val (.ref a1), .val (.ref b1), .val (.double dw), .second, .val (.long (8 : Int64)), .second, .val (.int (8 : Int32)), .val (.int (0 : Int32)), .val (.int (1 : Int32)), .val (.int (8 : Int32))] [(.int (8 : Int32))])
      refine own_go (fun _ => XS.bipush X11.here hx rfl (hb hby d1_264)) ?_
      show GG _ _ _ _ _ _ _ T11 (mkF m 266 #[.val (.ref ob), .val (.ref a1), .val (.ref b1), .val (.double dw), .second, .val (.long (8 : Int64)), .second, .val (.int (8 : Int32)), .val (.int (0 : Int32)), .val (.int (1 : Int32)), .val (.int (8 : Int32))] [(.int (12 : Int32)), (.int (8 : Int32))])
      refine own_go (fun _ => XS.isub X11.here hx rfl (hb hby d1_266) rfl) ?_
      show GG _ _ _ _ _ _ _ T11 (mkF m 267 #[.val (.ref ob), .val (.ref a1), .val (.ref b1), .val (.double dw), .second, .val (.long (8 : Int64)), .second, .val (.int (8 : Int32)), .val (.int (0 : Int32)), .val (.int (1 : Int32)), .val (.int (8 : Int32))] [(.int (-4 : Int32))])
      refine own_go (fun _ => XS.iconst X11.here hx rfl (hb hby d1_267)) ?_
      show GG _ _ _ _ _ _ _ T11 (mkF m 268 #[.val (.ref ob), .val (.ref a1), .val (.ref b1), .val (.double dw), .second, .val (.long (8 : Int64)), .second, .val (.int (8 : Int32)), .val (.int (0 : Int32)), .val (.int (1 : Int32)), .val (.int (8 : Int32))] [(.int (0 : Int32)), (.int (-4 : Int32))])
      refine own_callS X11 hx hZ (y := (⟨"java/lang/Math", "max", "(II)I"⟩ : MethodName)) 0 hown (hw _ (List.mem_of_getElem? (i := 47) rfl)) (hw _ (List.mem_of_getElem? (i := 48) rfl)) (hw _ (List.mem_of_getElem? (i := 20) rfl)) (hw _ (List.mem_of_getElem? (i := 49) rfl)) (by decide) (argsL := [(.int (-4 : Int32)), (.int (0 : Int32))]) (rest := []) (rm7 l Z a0 hw [] h11 n0 (Nat.le_trans Z0 K0.1)) (by decide) (by decide) (by decide) (by decide) (g := (mkF m 268 #[.val (.ref ob), .val (.ref a1), .val (.ref b1), .val (.double dw), .second, .val (.long (8 : Int64)), .second, .val (.int (8 : Int32)), .val (.int (0 : Int32)), .val (.int (1 : Int32)), .val (.int (8 : Int32))] [(.int (0 : Int32)), (.int (-4 : Int32))])) rfl (by rw [hml]; rfl) (lenOf pd__II_I_300 rfl) rfl (by show 2 * 0 + _ ≤ _; exact Nat.le_of_eq rfl) (hb hby d1_268) e11 ?_
      rintro v12 T12 L12 X12 ⟨rfl, N12q, hh12⟩
      have N12 := Fr.app N11 N12q
      show GG _ _ _ _ _ _ _ T12 (mkF m 271 #[.val (.ref ob), .val (.ref a1), .val (.ref b1), .val (.double dw), .second, .val (.long (8 : Int64)), .second, .val (.int (8 : Int32)), .val (.int (0 : Int32)), .val (.int (1 : Int32)), .val (.int (8 : Int32))] [(.int (0 : Int32))])
      refine own_go (fun _ => XS.bipush X12.here hx rfl (hb hby d1_271)) ?_
      show GG _ _ _ _ _ _ _ T12 (mkF m 273 #[.val (.ref ob), .val (.ref a1), .val (.ref b1), .val (.double dw), .second, .val (.long (8 : Int64)), .second, .val (.int (8 : Int32)), .val (.int (0 : Int32)), .val (.int (1 : Int32)), .val (.int (8 : Int32))] [(.int (8 : Int32)), (.int (0 : Int32))])
      refine own_go (fun _ => XS.idiv X12.here hx rfl (hb hby d1_273) rfl (by decide)) ?_
      show GG _ _ _ _ _ _ _ T12 (mkF m 274 #[.val (.ref ob), .val (.ref a1), .val (.ref b1), .val (.double dw), .second, .val (.long (8 : Int64)), .second, .val (.int (8 : Int32)), .val (.int (0 : Int32)), .val (.int (1 : Int32)), .val (.int (8 : Int32))] [(.int ((0 : Int32) / (8 : Int32)))])
      refine own_go (fun _ => XS.istore X12.here hx rfl (hb hby d1_274) rfl (l' := #[.val (.ref ob), .val (.ref a1), .val (.ref b1), .val (.double dw), .second, .val (.long (8 : Int64)), .second, .val (.int (8 : Int32)), .val (.int (0 : Int32)), .val (.int ((0 : Int32) / (8 : Int32))), .val (.int (8 : Int32))]) rfl) ?_
      show GG _ _ _ _ _ _ _ T12 (mkF m 276 #[.val (.ref ob), .val (.ref a1), .val (.ref b1), .val (.double dw), .second, .val (.long (8 : Int64)), .second, .val (.int (8 : Int32)), .val (.int (0 : Int32)), .val (.int ((0 : Int32) / (8 : Int32))), .val (.int (8 : Int32))] [])
      refine own_go (fun _ => XS.bipush X12.here hx rfl (hb hby d1_276)) ?_
      show GG _ _ _ _ _ _ _ T12 (mkF m 278 #[.val (.ref ob), .val (.ref a1), .val (.ref b1), .val (.double dw), .second, .val (.long (8 : Int64)), .second, .val (.int (8 : Int32)), .val (.int (0 : Int32)), .val (.int ((0 : Int32) / (8 : Int32))), .val (.int (8 : Int32))] [(.int (64 : Int32))])
      refine own_go (fun _ => XS.iload X12.here hx rfl (hb hby d1_278) rfl) ?_
      show GG _ _ _ _ _ _ _ T12 (mkF m 280 #[.val (.ref ob), .val (.ref a1), .val (.ref b1), .val (.double dw), .second, .val (.long (8 : Int64)), .second, .val (.int (8 : Int32)), .val (.int (0 : Int32)), .val (.int ((0 : Int32) / (8 : Int32))), .val (.int (8 : Int32))] [(.int (8 : Int32)), (.int (64 : Int32))])
      refine own_go (fun _ => XS.iload X12.here hx rfl (hb hby d1_280) rfl) ?_
      show GG _ _ _ _ _ _ _ T12 (mkF m 282 #[.val (.ref ob), .val (.ref a1), .val (.ref b1), .val (.double dw), .second, .val (.long (8 : Int64)), .second, .val (.int (8 : Int32)), .val (.int (0 : Int32)), .val (.int ((0 : Int32) / (8 : Int32))), .val (.int (8 : Int32))] [(.int ((0 : Int32) / (8 : Int32))), (.int (8 : Int32)), (.int (64 : Int32))])
      refine own_go (fun _ => XS.bipush X12.here hx rfl (hb hby d1_282)) ?_
      show GG _ _ _ _ _ _ _ T12 (mkF m 284 #[.val (.ref ob), .val (.ref a1), .val (.ref b1), .val (.double dw), .second, .val (.long (8 : Int64)), .second, .val (.int (8 : Int32)), .val (.int (0 : Int32)), .val (.int ((0 : Int32) / (8 : Int32))), .val (.int (8 : Int32))] [(.int (8 : Int32)), (.int ((0 : Int32) / (8 : Int32))), (.int (8 : Int32)), (.int (64 : Int32))])
      refine own_go (fun _ => XS.imul X12.here hx rfl (hb hby d1_284) rfl) ?_
      show GG _ _ _ _ _ _ _ T12 (mkF m 285 #[.val (.ref ob), .val (.ref a1), .val (.ref b1), .val (.double dw), .second, .val (.long (8 : Int64)), .second, .val (.int (8 : Int32)), .val (.int (0 : Int32)), .val (.int ((0 : Int32) / (8 : Int32))), .val (.int (8 : Int32))] [(.int (((0 : Int32) / (8 : Int32)) * (8 : Int32))), (.int (8 : Int32)), (.int (64 : Int32))])
      refine own_go (fun _ => XS.isub X12.here hx rfl (hb hby d1_285) rfl) ?_
      show GG _ _ _ _ _ _ _ T12 (mkF m 286 #[.val (.ref ob), .val (.ref a1), .val (.ref b1), .val (.double dw), .second, .val (.long (8 : Int64)), .second, .val (.int (8 : Int32)), .val (.int (0 : Int32)), .val (.int ((0 : Int32) / (8 : Int32))), .val (.int (8 : Int32))] [(.int ((8 : Int32) - (((0 : Int32) / (8 : Int32)) * (8 : Int32)))), (.int (64 : Int32))])
      refine own_go (fun _ => XS.isub X12.here hx rfl (hb hby d1_286) rfl) ?_
      show GG _ _ _ _ _ _ _ T12 (mkF m 287 #[.val (.ref ob), .val (.ref a1), .val (.ref b1), .val (.double dw), .second, .val (.long (8 : Int64)), .second, .val (.int (8 : Int32)), .val (.int (0 : Int32)), .val (.int ((0 : Int32) / (8 : Int32))), .val (.int (8 : Int32))] [(.int ((64 : Int32) - ((8 : Int32) - (((0 : Int32) / (8 : Int32)) * (8 : Int32)))))])
      refine own_go (fun _ => XS.istore X12.here hx rfl (hb hby d1_287) rfl (l' := #[.val (.ref ob), .val (.ref a1), .val (.ref b1), .val (.double dw), .second, .val (.long (8 : Int64)), .second, .val (.int (8 : Int32)), .val (.int (0 : Int32)), .val (.int ((0 : Int32) / (8 : Int32))), .val (.int ((64 : Int32) - ((8 : Int32) - (((0 : Int32) / (8 : Int32)) * (8 : Int32)))))]) rfl) ?_
      show GG _ _ _ _ _ _ _ T12 (mkF m 289 #[.val (.ref ob), .val (.ref a1), .val (.ref b1), .val (.double dw), .second, .val (.long (8 : Int64)), .second, .val (.int (8 : Int32)), .val (.int (0 : Int32)), .val (.int ((0 : Int32) / (8 : Int32))), .val (.int ((64 : Int32) - ((8 : Int32) - (((0 : Int32) / (8 : Int32)) * (8 : Int32)))))] [])
      refine own_go (fun _ => XS.aloadN X12.here hx rfl (hb hby d1_289) rfl rfl) ?_
      show GG _ _ _ _ _ _ _ T12 (mkF m 290 #[.val (.ref ob), .val (.ref a1), .val (.ref b1), .val (.double dw), .second, .val (.long (8 : Int64)), .second, .val (.int (8 : Int32)), .val (.int (0 : Int32)), .val (.int ((0 : Int32) / (8 : Int32))), .val (.int ((64 : Int32) - ((8 : Int32) - (((0 : Int32) / (8 : Int32)) * (8 : Int32)))))] [(.ref ob)])
      obtain ⟨T13, X13, e13, st13⟩ := getF X12 hx hZ hown (host := "") (Or.inl (hw _ (List.mem_of_getElem? (i := 45) rfl))) Via.refl hh12 F_places (g := (mkF m 290 #[.val (.ref ob), .val (.ref a1), .val (.ref b1), .val (.double dw), .second, .val (.long (8 : Int64)), .second, .val (.int (8 : Int32)), .val (.int (0 : Int32)), .val (.int ((0 : Int32) / (8 : Int32))), .val (.int ((64 : Int32) - ((8 : Int32) - (((0 : Int32) / (8 : Int32)) * (8 : Int32)))))] [(.ref ob)])) rfl rfl (hb hby d1_290)
      refine own_go (fun _ => st13 _) ?_
      show GG _ _ _ _ _ _ _ T13 (mkF m 293 #[.val (.ref ob), .val (.ref a1), .val (.ref b1), .val (.double dw), .second, .val (.long (8 : Int64)), .second, .val (.int (8 : Int32)), .val (.int (0 : Int32)), .val (.int ((0 : Int32) / (8 : Int32))), .val (.int ((64 : Int32) - ((8 : Int32) - (((0 : Int32) / (8 : Int32)) * (8 : Int32)))))] [(.ref ob10)])
      refine own_go (fun _ => XS.iload X13.here hx rfl (hb hby d1_293) rfl) ?_
      show GG _ _ _ _ _ _ _ T13 (mkF m 295 #[.val (.ref ob), .val (.ref a1), .val (.ref b1), .val (.double dw), .second, .val (.long (8 : Int64)), .second, .val (.int (8 : Int32)), .val (.int (0 : Int32)), .val (.int ((0 : Int32) / (8 : Int32))), .val (.int ((64 : Int32) - ((8 : Int32) - (((0 : Int32) / (8 : Int32)) * (8 : Int32)))))] [(.int (0 : Int32)), (.ref ob10)])
      refine own_go (fun _ => XS.iload X13.here hx rfl (hb hby d1_295) rfl) ?_
      show GG _ _ _ _ _ _ _ T13 (mkF m 297 #[.val (.ref ob), .val (.ref a1), .val (.ref b1), .val (.double dw), .second, .val (.long (8 : Int64)), .second, .val (.int (8 : Int32)), .val (.int (0 : Int32)), .val (.int ((0 : Int32) / (8 : Int32))), .val (.int ((64 : Int32) - ((8 : Int32) - (((0 : Int32) / (8 : Int32)) * (8 : Int32)))))] [(.int ((0 : Int32) / (8 : Int32))), (.int (0 : Int32)), (.ref ob10)])
      refine own_go (fun _ => XS.bipush X13.here hx rfl (hb hby d1_297)) ?_
      show GG _ _ _ _ _ _ _ T13 (mkF m 299 #[.val (.ref ob), .val (.ref a1), .val (.ref b1), .val (.double dw), .second, .val (.long (8 : Int64)), .second, .val (.int (8 : Int32)), .val (.int (0 : Int32)), .val (.int ((0 : Int32) / (8 : Int32))), .val (.int ((64 : Int32) - ((8 : Int32) - (((0 : Int32) / (8 : Int32)) * (8 : Int32)))))] [(.int (6 : Int32)), (.int ((0 : Int32) / (8 : Int32))), (.int (0 : Int32)), (.ref ob10)])
      refine own_go (fun _ => XS.ishl X13.here hx rfl (hb hby d1_299) rfl) ?_
      show GG _ _ _ _ _ _ _ T13 (mkF m 300 #[.val (.ref ob), .val (.ref a1), .val (.ref b1), .val (.double dw), .second, .val (.long (8 : Int64)), .second, .val (.int (8 : Int32)), .val (.int (0 : Int32)), .val (.int ((0 : Int32) / (8 : Int32))), .val (.int ((64 : Int32) - ((8 : Int32) - (((0 : Int32) / (8 : Int32)) * (8 : Int32)))))] [(.int (((0 : Int32) / (8 : Int32)) <<< ((6 : Int32) &&& 31))), (.int (0 : Int32)), (.ref ob10)])
      refine own_go (fun _ => XS.iload X13.here hx rfl (hb hby d1_300) rfl) ?_
      show GG _ _ _ _ _ _ _ T13 (mkF m 302 #[.val (.ref ob), .val (.ref a1), .val (.ref b1), .val (.double dw), .second, .val (.long (8 : Int64)), .second, .val (.int (8 : Int32)), .val (.int (0 : Int32)), .val (.int ((0 : Int32) / (8 : Int32))), .val (.int ((64 : Int32) - ((8 : Int32) - (((0 : Int32) / (8 : Int32)) * (8 : Int32)))))] [(.int ((64 : Int32) - ((8 : Int32) - (((0 : Int32) / (8 : Int32)) * (8 : Int32))))), (.int (((0 : Int32) / (8 : Int32)) <<< ((6 : Int32) &&& 31))), (.int (0 : Int32)), (.ref ob10)])
      refine own_go (fun _ => XS.ior X13.here hx rfl (hb hby d1_302) rfl) ?_
      show GG _ _ _ _ _ _ _ T13 (mkF m 303 #[.val (.ref ob), .val (.ref a1), .val (.ref b1), .val (.double dw), .second, .val (.long (8 : Int64)), .second, .val (.int (8 : Int32)), .val (.int (0 : Int32)), .val (.int ((0 : Int32) / (8 : Int32))), .val (.int ((64 : Int32) - ((8 : Int32) - (((0 : Int32) / (8 : Int32)) * (8 : Int32)))))] [(.int ((((0 : Int32) / (8 : Int32)) <<< ((6 : Int32) &&& 31)) ||| ((64 : Int32) - ((8 : Int32) - (((0 : Int32) / (8 : Int32)) * (8 : Int32)))))), (.int (0 : Int32)), (.ref ob10)])
      obtain ⟨T14, h14, X14, e14, W14, V14, st14⟩ := own_iastore X13 hx hZ e13 V_ob10 (by decide) (Nat.le_of_ble_eq_true rfl) (g := (mkF m 303 #[.val (.ref ob), .val (.ref a1), .val (.ref b1), .val (.double dw), .second, .val (.long (8 : Int64)), .second, .val (.int (8 : Int32)), .val (.int (0 : Int32)), .val (.int ((0 : Int32) / (8 : Int32))), .val (.int ((64 : Int32) - ((8 : Int32) - (((0 : Int32) / (8 : Int32)) * (8 : Int32)))))] [(.int ((((0 : Int32) / (8 : Int32)) <<< ((6 : Int32) &&& 31)) ||| ((64 : Int32) - ((8 : Int32) - (((0 : Int32) / (8 : Int32)) * (8 : Int32)))))), (.int (0 : Int32)), (.ref ob10)])) rfl rfl (hb hby d1_303)
      have E_ob := E_ob.wr W14
      have F_numbers := F_numbers.other W14 (Or.inl ne_ob_ob10)
      have F_widest := F_widest.other W14 (Or.inl ne_ob_ob10)
      have F_bits := F_bits.other W14 (Or.inl ne_ob_ob10)
      have F_stride := F_stride.other W14 (Or.inl ne_ob_ob10)
      have F_places := F_places.other W14 (Or.inl ne_ob_ob10)
      have V_a := V_a.other W14 ne_a1_ob10
      have V_b := V_b.other W14 ne_b1_ob10
      have E_b := E_b.wr W14
      have V_ob2 := V_ob2.other W14 ne_ob2_ob10
      have K0 := K0.wr W14 (Or.inr sz_ob10)
      have V_ob6 := V_ob6.other W14 ne_ob6_ob10
      have E_ob6 := E_ob6.wr W14
      have E_ob10 := E_ob10.wr W14
      have V_ob10 : Arx Z h14 ob10 .int [(.int ((((0 : Int32) / (8 : Int32)) <<< ((6 : Int32) &&& 31)) ||| ((64 : Int32) - ((8 : Int32) - (((0 : Int32) / (8 : Int32)) * (8 : Int32))))))] := V14
      have N14 := Fr.snoc X14 N12 g_ob10
      refine own_go (fun _ => st14 _) ?_
      show GG _ _ _ _ _ _ _ T14 (mkF m 304 #[.val (.ref ob), .val (.ref a1), .val (.ref b1), .val (.double dw), .second, .val (.long (8 : Int64)), .second, .val (.int (8 : Int32)), .val (.int (0 : Int32)), .val (.int ((0 : Int32) / (8 : Int32))), .val (.int ((64 : Int32) - ((8 : Int32) - (((0 : Int32) / (8 : Int32)) * (8 : Int32)))))] [])
      refine own_go (fun _ => XS.iinc X14.here hx rfl (hb hby d1_304) rfl (l' := #[.val (.ref ob), .val (.ref a1), .val (.ref b1), .val (.double dw), .second, .val (.long (8 : Int64)), .second, .val (.int (8 : Int32)), .val (.int (1 : Int32)), .val (.int ((0 : Int32) / (8 : Int32))), .val (.int ((64 : Int32) - ((8 : Int32) - (((0 : Int32) / (8 : Int32)) * (8 : Int32)))))]) rfl) ?_
      show GG _ _ _ _ _ _ _ T14 (mkF m 307 #[.val (.ref ob), .val (.ref a1), .val (.ref b1), .val (.double dw), .second, .val (.long (8 : Int64)), .second, .val (.int (8 : Int32)), .val (.int (1 : Int32)), .val (.int ((0 : Int32) / (8 : Int32))), .val (.int ((64 : Int32) - ((8 : Int32) - (((0 : Int32) / (8 : Int32)) * (8 : Int32)))))] [])
      refine own_go (fun _ => XS.goto X14.here hx rfl (pc0 := 307) (pc' := 246) rfl (hb hby d1_307) (by decide) (by decide)) ?_
      show GG _ _ _ _ _ _ _ T14 (mkF m 246 #[.val (.ref ob), .val (.ref a1), .val (.ref b1), .val (.double dw), .second, .val (.long (8 : Int64)), .second, .val (.int (8 : Int32)), .val (.int (1 : Int32)), .val (.int ((0 : Int32) / (8 : Int32))), .val (.int ((64 : Int32) - ((8 : Int32) - (((0 : Int32) / (8 : Int32)) * (8 : Int32)))))] [])
      refine own_go (fun _ => XS.iload X14.here hx rfl (hb hby d1_246) rfl) ?_
      show GG _ _ _ _ _ _ _ T14 (mkF m 248 #[.val (.ref ob), .val (.ref a1), .val (.ref b1), .val (.double dw), .second, .val (.long (8 : Int64)), .second, .val (.int (8 : Int32)), .val (.int (1 : Int32)), .val (.int ((0 : Int32) / (8 : Int32))), .val (.int ((64 : Int32) - ((8 : Int32) - (((0 : Int32) / (8 : Int32)) * (8 : Int32)))))] [(.int (1 : Int32))])
      refine own_go (fun _ => XS.aloadN X14.here hx rfl (hb hby d1_248) rfl rfl) ?_
      show GG _ _ _ _ _ _ _ T14 (mkF m 249 #[.val (.ref ob), .val (.ref a1), .val (.ref b1), .val (.double dw), .second, .val (.long (8 : Int64)), .second, .val (.int (8 : Int32)), .val (.int (1 : Int32)), .val (.int ((0 : Int32) / (8 : Int32))), .val (.int ((64 : Int32) - ((8 : Int32) - (((0 : Int32) / (8 : Int32)) * (8 : Int32)))))] [(.ref b1), (.int (1 : Int32))])
      refine own_go (fun _ => own_len X14 hx hZ e14 V_b (g := (mkF m 249 #[.val (.ref ob), .val (.ref a1), .val (.ref b1), .val (.double dw), .second, .val (.long (8 : Int64)), .second, .val (.int (8 : Int32)), .val (.int (1 : Int32)), .val (.int ((0 : Int32) / (8 : Int32))), .val (.int ((64 : Int32) - ((8 : Int32) - (((0 : Int32) / (8 : Int32)) * (8 : Int32)))))] [(.ref b1), (.int (1 : Int32))])) rfl rfl (hb hby d1_249) _) ?_
      show GG _ _ _ _ _ _ _ T14 (mkF m 250 #[.val (.ref ob), .val (.ref a1), .val (.ref b1), .val (.double dw), .second, .val (.long (8 : Int64)), .second, .val (.int (8 : Int32)), .val (.int (1 : Int32)), .val (.int ((0 : Int32) / (8 : Int32))), .val (.int ((64 : Int32) - ((8 : Int32) - (((0 : Int32) / (8 : Int32)) * (8 : Int32)))))] [(.int (1 : Int32)), (.int (1 : Int32))])
      have hc250 : ¬ ((1 : Int32) < (1 : Int32)) := by decide
      refine own_go (fun _ => XS.icmpYes X14.here hx rfl (pc0 := 250) (pc' := 310) rfl (hb hby d1_250) rfl (flt hc250).2.1 (by decide) (by decide)) ?_
      show GG _ _ _ _ _ _ _ T14 (mkF m 310 #[.val (.ref ob), .val (.ref a1), .val (.ref b1), .val (.double dw), .second, .val (.long (8 : Int64)), .second, .val (.int (8 : Int32)), .val (.int (1 : Int32)), .val (.int ((0 : Int32) / (8 : Int32))), .val (.int ((64 : Int32) - ((8 : Int32) - (((0 : Int32) / (8 : Int32)) * (8 : Int32)))))] [])
      refine own_retV X14 hx hlk Bd.returns (hb hby d1_310) (by decide) (by decide) ?_
      show Q1 Z ob a1 b1 fs h0 n0 (none) T14.heap _
      rw [e14]
      exact ⟨ob2, rfl, N14, K0, E_ob, F_numbers, V_ob2, ne_ob_ob2⟩
    | succ k ih =>
      intro iN i dw ns TL hL lL XL eL NL hi hk hnn hnl hns E_ob F_numbers F_widest F_bits F_stride F_places V_a V_b E_b V_ob2 K0
      have ri := rng32 i
      have hlt : iN < 4096 := by omega
      obtain ⟨xt, hxt⟩ : ∃ x, fs[iN]? = some x := ⟨_, List.getElem?_eq_getElem (by omega)⟩
      have hF := hfin xt (List.mem_of_getElem? hxt)
      have hn64 : Jvm.Free.Fl.NoNaN64 (FP.f2d xt) := (Jvm.Free.Fl.f2d_fin hF).noNaN
      show GG _ _ _ _ _ _ _ TL (mkF m 41 #[.val (.ref ob), .val (.ref a1), .val (.ref b1), .val (.double dw), .second, .val (.int i), .unset, .unset, .unset, .unset, .unset] [])
      refine own_go (fun _ => XS.iload XL.here hx rfl (hb hby d1_41) rfl) ?_
      show GG _ _ _ _ _ _ _ TL (mkF m 43 #[.val (.ref ob), .val (.ref a1), .val (.ref b1), .val (.double dw), .second, .val (.int i), .unset, .unset, .unset, .unset, .unset] [(.int i)])
      refine own_go (fun _ => XS.sipush XL.here hx rfl (hb hby d1_43)) ?_
      show GG _ _ _ _ _ _ _ TL (mkF m 46 #[.val (.ref ob), .val (.ref a1), .val (.ref b1), .val (.double dw), .second, .val (.int i), .unset, .unset, .unset, .unset, .unset] [(.int (4096 : Int32)), (.int i)])
      have hc46 : i < (4096 : Int32) := (Int32.lt_iff_toInt_lt.mpr ((by show (i.toInt < 4096); omega : (i.toInt < 4096))))
      refine own_go (fun _ => XS.icmpNo XL.here hx rfl (hb hby d1_46) rfl (tlt hc46).2.1) ?_
      show GG _ _ _ _ _ _ _ TL (mkF m 49 #[.val (.ref ob), .val (.ref a1), .val (.ref b1), .val (.double dw), .second, .val (.int i), .unset, .unset, .unset, .unset, .unset] [])
      refine own_go (fun _ => XS.aloadN XL.here hx rfl (hb hby d1_49) rfl rfl) ?_
      show GG _ _ _ _ _ _ _ TL (mkF m 50 #[.val (.ref ob), .val (.ref a1), .val (.ref b1), .val (.double dw), .second, .val (.int i), .unset, .unset, .unset, .unset, .unset] [(.ref a1)])
      refine own_go (fun _ => XS.iload XL.here hx rfl (hb hby d1_50) rfl) ?_
      show GG _ _ _ _ _ _ _ TL (mkF m 52 #[.val (.ref ob), .val (.ref a1), .val (.ref b1), .val (.double dw), .second, .val (.int i), .unset, .unset, .unset, .unset, .unset] [(.int i), (.ref a1)])
      refine own_go (fun _ => own_faload XL hx hZ eL V_a (j := i) (v := (.float xt)) (own_nn (by omega)) (by rw [own_nat hi, List.getElem?_map, hxt]; rfl) (g := (mkF m 52 #[.val (.ref ob), .val (.ref a1), .val (.ref b1), .val (.double dw), .second, .val (.int i), .unset, .unset, .unset, .unset, .unset] [(.int i), (.ref a1)])) rfl rfl (hb hby d1_52) _) ?_
      show GG _ _ _ _ _ _ _ TL (mkF m 53 #[.val (.ref ob), .val (.ref a1), .val (.ref b1), .val (.double dw), .second, .val (.int i), .unset, .unset, .unset, .unset, .unset] [(.float xt)])
      refine own_callB XL hx hZ (y := (⟨"java/lang/Float", "isFinite", "(F)Z"⟩ : MethodName)) 0 hown (hw _ (List.mem_of_getElem? (i := 14) rfl)) (hw _ (List.mem_of_getElem? (i := 15) rfl)) (hw _ (List.mem_of_getElem? (i := 16) rfl)) (hw _ (List.mem_of_getElem? (i := 17) rfl)) (by decide) (argsL := [(.float xt)]) (rest := []) (r := (.int (1 : Int32))) (PP := fun a => ∃ g : UInt32, a = #[.float g] ∧ Jvm.Free.Fl.NoNaN32 g) (Jvm.Free.Fl.OfFloat.IsFinite.pays (W := 0) (by decide) (by decide) (own_tab hZ hw) (mvT hZ (hw _ (List.mem_of_getElem? (i := 16) rfl)))) ⟨_, rfl, hF.noNaN⟩ (fun A v B hh => ⟨(hh.2 xt ⟨rfl, hF.noNaN⟩).trans (by rw [if_pos ((Jvm.Free.Fl.le_maxF_iff hF.noNaN).mpr hF)]), hh.1⟩) (by decide) (by decide) (g := (mkF m 53 #[.val (.ref ob), .val (.ref a1), .val (.ref b1), .val (.double dw), .second, .val (.int i), .unset, .unset, .unset, .unset, .unset] [(.float xt)])) rfl (by rw [hml]; rfl) (lenOf pd__F_Z_241 rfl) rfl (by show 2 * 0 + _ ≤ _; exact Nat.le_of_eq rfl) (hb hby d1_53) eL ?_
      rintro T15 X15 e15
      show GG _ _ _ _ _ _ _ T15 (mkF m 56 #[.val (.ref ob), .val (.ref a1), .val (.ref b1), .val (.double dw), .second, .val (.int i), .unset, .unset, .unset, .unset, .unset] [(.int (1 : Int32))])
      have hc56 : ¬ ((1 : Int32) = (0 : Int32)) := by decide
      refine own_go (fun _ => XS.ifYes X15.here hx rfl (pc0 := 56) (pc' := 76) rfl (hb hby d1_56) rfl ((if0 _ _).trans (feq hc56).2) (by decide) (by decide)) ?_
      show GG _ _ _ _ _ _ _ T15 (mkF m 76 #[.val (.ref ob), .val (.ref a1), .val (.ref b1), .val (.double dw), .second, .val (.int i), .unset, .unset, .unset, .unset, .unset] [])
      refine own_go (fun _ => XS.aloadN X15.here hx rfl (hb hby d1_76) rfl rfl) ?_
      show GG _ _ _ _ _ _ _ T15 (mkF m 77 #[.val (.ref ob), .val (.ref a1), .val (.ref b1), .val (.double dw), .second, .val (.int i), .unset, .unset, .unset, .unset, .unset] [(.ref ob)])
      obtain ⟨T16, X16, e16, st16⟩ := getF X15 hx hZ hown (host := "") (Or.inl (hw _ (List.mem_of_getElem? (i := 12) rfl))) Via.refl e15 F_numbers (g := (mkF m 77 #[.val (.ref ob), .val (.ref a1), .val (.ref b1), .val (.double dw), .second, .val (.int i), .unset, .unset, .unset, .unset, .unset] [(.ref ob)])) rfl rfl (hb hby d1_77)
      refine own_go (fun _ => st16 _) ?_
      show GG _ _ _ _ _ _ _ T16 (mkF m 80 #[.val (.ref ob), .val (.ref a1), .val (.ref b1), .val (.double dw), .second, .val (.int i), .unset, .unset, .unset, .unset, .unset] [(.ref ob2)])
      refine own_go (fun _ => XS.iload X16.here hx rfl (hb hby d1_80) rfl) ?_
      show GG _ _ _ _ _ _ _ T16 (mkF m 82 #[.val (.ref ob), .val (.ref a1), .val (.ref b1), .val (.double dw), .second, .val (.int i), .unset, .unset, .unset, .unset, .unset] [(.int i), (.ref ob2)])
      refine own_go (fun _ => XS.aloadN X16.here hx rfl (hb hby d1_82) rfl rfl) ?_
      show GG _ _ _ _ _ _ _ T16 (mkF m 83 #[.val (.ref ob), .val (.ref a1), .val (.ref b1), .val (.double dw), .second, .val (.int i), .unset, .unset, .unset, .unset, .unset] [(.ref a1), (.int i), (.ref ob2)])
      refine own_go (fun _ => XS.iload X16.here hx rfl (hb hby d1_83) rfl) ?_
      show GG _ _ _ _ _ _ _ T16 (mkF m 85 #[.val (.ref ob), .val (.ref a1), .val (.ref b1), .val (.double dw), .second, .val (.int i), .unset, .unset, .unset, .unset, .unset] [(.int i), (.ref a1), (.int i), (.ref ob2)])
      refine own_go (fun _ => own_faload X16 hx hZ e16 V_a (j := i) (v := (.float xt)) (own_nn (by omega)) (by rw [own_nat hi, List.getElem?_map, hxt]; rfl) (g := (mkF m 85 #[.val (.ref ob), .val (.ref a1), .val (.ref b1), .val (.double dw), .second, .val (.int i), .unset, .unset, .unset, .unset, .unset] [(.int i), (.ref a1), (.int i), (.ref ob2)])) rfl rfl (hb hby d1_85) _) ?_
      show GG _ _ _ _ _ _ _ T16 (mkF m 86 #[.val (.ref ob), .val (.ref a1), .val (.ref b1), .val (.double dw), .second, .val (.int i), .unset, .unset, .unset, .unset, .unset] [(.float xt), (.int i), (.ref ob2)])
      refine own_go (fun _ => XS.f2dS X16.here hx rfl (hb hby d1_86) rfl hn64 rfl) ?_
      show GG _ _ _ _ _ _ _ T16 (mkF m 87 #[.val (.ref ob), .val (.ref a1), .val (.ref b1), .val (.double dw), .second, .val (.int i), .unset, .unset, .unset, .unset, .unset] [(.double (FP.f2d xt)), (.int i), (.ref ob2)])
      obtain ⟨T17, h17, X17, e17, W17, V17, st17⟩ := own_dastore X16 hx hZ e16 V_ob2 (own_nn (by omega)) (by rw [own_nat hi, List.length_map]; omega) (g := (mkF m 87 #[.val (.ref ob), .val (.ref a1), .val (.ref b1), .val (.double dw), .second, .val (.int i), .unset, .unset, .unset, .unset, .unset] [(.double (FP.f2d xt)), (.int i), (.ref ob2)])) rfl rfl (hb hby d1_87)
      have E_ob := E_ob.wr W17
      have F_numbers := F_numbers.other W17 (Or.inl ne_ob_ob2)
      have F_widest := F_widest.other W17 (Or.inl ne_ob_ob2)
      have F_bits := F_bits.other W17 (Or.inl ne_ob_ob2)
      have F_stride := F_stride.other W17 (Or.inl ne_ob_ob2)
      have F_places := F_places.other W17 (Or.inl ne_ob_ob2)
      have V_a := V_a.other W17 ne_a1_ob2
      have V_b := V_b.other W17 ne_b1_ob2
      have E_b := E_b.wr W17
      have K0 := K0.wr W17 (Or.inr sz_ob2)
      have V_ob2 : Arx Z h17 ob2 .double ((ns.set iN (FP.f2d xt)).map Value.double) := (by rw [List.map_set]; rw [own_nat hi] at V17; exact V17)
      have N17 := Fr.snoc X17 NL g_ob2
      refine own_go (fun _ => st17 _) ?_
      show GG _ _ _ _ _ _ _ T17 (mkF m 88 #[.val (.ref ob), .val (.ref a1), .val (.ref b1), .val (.double dw), .second, .val (.int i), .unset, .unset, .unset, .unset, .unset] [])
      refine own_go (fun _ => XS.dloadN X17.here hx rfl (hb hby d1_88) rfl) ?_
      show GG _ _ _ _ _ _ _ T17 (mkF m 89 #[.val (.ref ob), .val (.ref a1), .val (.ref b1), .val (.double dw), .second, .val (.int i), .unset, .unset, .unset, .unset, .unset] [(.double dw)])
      refine own_go (fun _ => XS.aloadN X17.here hx rfl (hb hby d1_89) rfl rfl) ?_
      show GG _ _ _ _ _ _ _ T17 (mkF m 90 #[.val (.ref ob), .val (.ref a1), .val (.ref b1), .val (.double dw), .second, .val (.int i), .unset, .unset, .unset, .unset, .unset] [(.ref ob), (.double dw)])
      obtain ⟨T18, X18, e18, st18⟩ := getF X17 hx hZ hown (host := "") (Or.inl (hw _ (List.mem_of_getElem? (i := 12) rfl))) Via.refl e17 F_numbers (g := (mkF m 90 #[.val (.ref ob), .val (.ref a1), .val (.ref b1), .val (.double dw), .second, .val (.int i), .unset, .unset, .unset, .unset, .unset] [(.ref ob), (.double dw)])) rfl rfl (hb hby d1_90)
      refine own_go (fun _ => st18 _) ?_
      show GG _ _ _ _ _ _ _ T18 (mkF m 93 #[.val (.ref ob), .val (.ref a1), .val (.ref b1), .val (.double dw), .second, .val (.int i), .unset, .unset, .unset, .unset, .unset] [(.ref ob2), (.double dw)])
      refine own_go (fun _ => XS.iload X18.here hx rfl (hb hby d1_93) rfl) ?_
      show GG _ _ _ _ _ _ _ T18 (mkF m 95 #[.val (.ref ob), .val (.ref a1), .val (.ref b1), .val (.double dw), .second, .val (.int i), .unset, .unset, .unset, .unset, .unset] [(.int i), (.ref ob2), (.double dw)])
      refine own_go (fun _ => own_daload X18 hx hZ e18 V_ob2 (j := i) (v := (.double (FP.f2d xt))) (own_nn (by omega)) (by rw [own_nat hi, List.getElem?_map, List.getElem?_set_self (by omega)]; rfl) (g := (mkF m 95 #[.val (.ref ob), .val (.ref a1), .val (.ref b1), .val (.double dw), .second, .val (.int i), .unset, .unset, .unset, .unset, .unset] [(.int i), (.ref ob2), (.double dw)])) rfl rfl (hb hby d1_95) _) ?_
      show GG _ _ _ _ _ _ _ T18 (mkF m 96 #[.val (.ref ob), .val (.ref a1), .val (.ref b1), .val (.double dw), .second, .val (.int i), .unset, .unset, .unset, .unset, .unset] [(.double (FP.f2d xt)), (.double dw)])
      refine own_callB X18 hx hZ (y := (⟨"java/lang/Math", "abs", "(D)D"⟩ : MethodName)) 2 hown (hw _ (List.mem_of_getElem? (i := 23) rfl)) (hw _ (List.mem_of_getElem? (i := 24) rfl)) (hw _ (List.mem_of_getElem? (i := 20) rfl)) (hw _ (List.mem_of_getElem? (i := 25) rfl)) (by decide) (argsL := [(.double (FP.f2d xt))]) (rest := [(.double dw)]) (r := (.double ((FP.f2d xt) &&& 0x7fffffffffffffff))) (PP := fun a' => a' = #[.double (FP.f2d xt)] ∧ Jvm.Free.Fl.NoNaN64 (FP.f2d xt)) (Jvm.Free.Fl.Abs.absD_pays (W := 2) (FP.f2d xt) (mvT hZ (hw _ (List.mem_of_getElem? (i := 25) rfl))) (by decide) (by decide)) ⟨rfl, hn64⟩ (fun A v B hh => ⟨hh.1, by rw [hh.2]; exact ⟨rfl, rfl, rfl, rfl⟩⟩) (by decide) (by decide) (g := (mkF m 96 #[.val (.ref ob), .val (.ref a1), .val (.ref b1), .val (.double dw), .second, .val (.int i), .unset, .unset, .unset, .unset, .unset] [(.double (FP.f2d xt)), (.double dw)])) rfl (by rw [hml]; rfl) (lenOf pd__D_D_217 rfl) rfl (by show 2 * 0 + _ ≤ _; exact Nat.le_of_eq rfl) (hb hby d1_96) e18 ?_
      rintro T19 X19 e19
      show GG _ _ _ _ _ _ _ T19 (mkF m 99 #[.val (.ref ob), .val (.ref a1), .val (.ref b1), .val (.double dw), .second, .val (.int i), .unset, .unset, .unset, .unset, .unset] [(.double ((FP.f2d xt) &&& 0x7fffffffffffffff)), (.double dw)])
      refine own_callB X19 hx hZ (y := (⟨"java/lang/Math", "max", "(DD)D"⟩ : MethodName)) 0 hown (hw _ (List.mem_of_getElem? (i := 26) rfl)) (hw _ (List.mem_of_getElem? (i := 27) rfl)) (hw _ (List.mem_of_getElem? (i := 20) rfl)) (hw _ (List.mem_of_getElem? (i := 28) rfl)) (by decide) (argsL := [(.double dw), (.double ((FP.f2d xt) &&& 0x7fffffffffffffff))]) (rest := []) (r := (.double (Jvm.Native.java_lang_Math.nans.pick64 true dw ((FP.f2d xt) &&& 0x7fffffffffffffff)))) (PP := fun a' => a' = #[.double dw, .double ((FP.f2d xt) &&& 0x7fffffffffffffff)] ∧ Jvm.Free.Fl.NoNaN64 dw ∧ Jvm.Free.Fl.NoNaN64 ((FP.f2d xt) &&& 0x7fffffffffffffff)) (Jvm.Free.Fl.Abs.maxD_pays (W := 0) dw ((FP.f2d xt) &&& 0x7fffffffffffffff) (mvT hZ (hw _ (List.mem_of_getElem? (i := 28) rfl))) (by decide) (by decide)) ⟨rfl, hnn, own_absn hn64⟩ (fun A v B hh => ⟨hh.1, by rw [hh.2]; exact ⟨rfl, rfl, rfl, rfl⟩⟩) (by decide) (by decide) (g := (mkF m 99 #[.val (.ref ob), .val (.ref a1), .val (.ref b1), .val (.double dw), .second, .val (.int i), .unset, .unset, .unset, .unset, .unset] [(.double ((FP.f2d xt) &&& 0x7fffffffffffffff)), (.double dw)])) rfl (by rw [hml]; rfl) (lenOf pd__DD_D_285 rfl) rfl (by show 2 * 0 + _ ≤ _; exact Nat.le_of_eq rfl) (hb hby d1_99) e19 ?_
      rintro T20 X20 e20
      show GG _ _ _ _ _ _ _ T20 (mkF m 102 #[.val (.ref ob), .val (.ref a1), .val (.ref b1), .val (.double dw), .second, .val (.int i), .unset, .unset, .unset, .unset, .unset] [(.double (Jvm.Native.java_lang_Math.nans.pick64 true dw ((FP.f2d xt) &&& 0x7fffffffffffffff)))])
      refine own_go (fun _ => XS.dstoreN X20.here hx rfl (hb hby d1_102) rfl (l' := #[.val (.ref ob), .val (.ref a1), .val (.ref b1), .val (.double (Jvm.Native.java_lang_Math.nans.pick64 true dw ((FP.f2d xt) &&& 0x7fffffffffffffff))), .second, .val (.int i), .unset, .unset, .unset, .unset, .unset]) rfl) ?_
      show GG _ _ _ _ _ _ _ T20 (mkF m 103 #[.val (.ref ob), .val (.ref a1), .val (.ref b1), .val (.double (Jvm.Native.java_lang_Math.nans.pick64 true dw ((FP.f2d xt) &&& 0x7fffffffffffffff))), .second, .val (.int i), .unset, .unset, .unset, .unset, .unset] [])
      refine own_go (fun _ => XS.iinc X20.here hx rfl (hb hby d1_103) rfl (l' := #[.val (.ref ob), .val (.ref a1), .val (.ref b1), .val (.double (Jvm.Native.java_lang_Math.nans.pick64 true dw ((FP.f2d xt) &&& 0x7fffffffffffffff))), .second, .val (.int (i + (1 : Int32))), .unset, .unset, .unset, .unset, .unset]) rfl) ?_
      show GG _ _ _ _ _ _ _ T20 (mkF m 106 #[.val (.ref ob), .val (.ref a1), .val (.ref b1), .val (.double (Jvm.Native.java_lang_Math.nans.pick64 true dw ((FP.f2d xt) &&& 0x7fffffffffffffff))), .second, .val (.int (i + (1 : Int32))), .unset, .unset, .unset, .unset, .unset] [])
      have cx21 := c_iadd i (1 : Int32)
      simp only [show ((1 : Int32)).toInt = 1 from by decide] at cx21
      generalize hx21 : (i + (1 : Int32)) = x21 at cx21 ⊢
      have rx21 := rng32 x21
      refine own_go (fun _ => XS.goto X20.here hx rfl (pc0 := 106) (pc' := 41) rfl (hb hby d1_106) (by decide) (by decide)) ?_
      show GG _ _ _ _ _ _ _ T20 (mkF m 41 #[.val (.ref ob), .val (.ref a1), .val (.ref b1), .val (.double (Jvm.Native.java_lang_Math.nans.pick64 true dw ((FP.f2d xt) &&& 0x7fffffffffffffff))), .second, .val (.int x21), .unset, .unset, .unset, .unset, .unset] [])
      exact ih (iN + 1) x21 (Jvm.Native.java_lang_Math.nans.pick64 true dw ((FP.f2d xt) &&& 0x7fffffffffffffff)) (ns.set iN (FP.f2d xt)) T20 h17 _ X20 e20 N17 (by omega) (by omega) (Jvm.Free.Fl.pick64_noNaN hnn (own_absn hn64)) (by rw [List.length_set]; exact hnl) (own_set (by omega) (by rw [List.getElem?_map, hxt]; rfl) hns) E_ob F_numbers F_widest F_bits F_stride F_places V_a V_b E_b V_ob2 K0
  exact loop4 4096 0 (0 : Int32) FP.dconst0 (List.replicate 4096 0) T3 h3 _ X3 e3 N3 (by decide) (by decide) own_nn0 (List.length_replicate) (fun j hj => absurd hj (Nat.not_lt_zero _)) E_ob F_numbers F_widest F_bits F_stride F_places V_a V_b E_b V_ob2 K0
theorem d8_0 : decode prog_22_method_3_code 0 = .ok (.sipush 4096, 3) := by decide +kernel
theorem d8_3 : decode prog_22_method_3_code 3 = .ok (.newarray .float, 2) := by decide +kernel
theorem d8_5 : decode prog_22_method_3_code 5 = .ok (.astore_n 1, 1) := by decide +kernel
theorem d8_6 : decode prog_22_method_3_code 6 = .ok (.iconst 0, 1) := by decide +kernel
theorem d8_7 : decode prog_22_method_3_code 7 = .ok (.istore_n 2, 1) := by decide +kernel
theorem d8_8 : decode prog_22_method_3_code 8 = .ok (.iload_n 2, 1) := by decide +kernel
theorem d8_9 : decode prog_22_method_3_code 9 = .ok (.sipush 4096, 3) := by decide +kernel
theorem d8_12 : decode prog_22_method_3_code 12 = .ok (.if_icmp .ge 19, 3) := by decide +kernel
theorem d8_15 : decode prog_22_method_3_code 15 = .ok (.aload_n 1, 1) := by decide +kernel
theorem d8_16 : decode prog_22_method_3_code 16 = .ok (.iload_n 2, 1) := by decide +kernel
theorem d8_17 : decode prog_22_method_3_code 17 = .ok (.aload_n 0, 1) := by decide +kernel
theorem d8_18 : decode prog_22_method_3_code 18 = .ok (.getfield 20, 3) := by decide +kernel
theorem d8_21 : decode prog_22_method_3_code 21 = .ok (.iload_n 2, 1) := by decide +kernel
theorem d8_22 : decode prog_22_method_3_code 22 = .ok (.daload, 1) := by decide +kernel
theorem d8_23 : decode prog_22_method_3_code 23 = .ok (.d2f, 1) := by decide +kernel
theorem d8_24 : decode prog_22_method_3_code 24 = .ok (.fastore, 1) := by decide +kernel
theorem d8_25 : decode prog_22_method_3_code 25 = .ok (.iinc 2 1, 3) := by decide +kernel
theorem d8_28 : decode prog_22_method_3_code 28 = .ok (.goto (-20), 3) := by decide +kernel
theorem d8_31 : decode prog_22_method_3_code 31 = .ok (.aload_n 1, 1) := by decide +kernel
theorem d8_32 : decode prog_22_method_3_code 32 = .ok (.areturn, 1) := by decide +kernel
theorem ef_8 (m : MethodId) (x0 : Addr) : entryFrame m #[(.ref x0)] 3 = mkF m 0 #[.val (.ref x0), .unset, .unset] [] := by first | (simp [entryFrame, mkF, argsToLocals, Value.category]; done) | rfl
def Q8 (Z : State) (a1 : Addr) (d1 : Addr) (fs : List UInt32) (h0 : Heap) (n0 : Nat) (v : Option Value) (h : Heap) (L : List Loc) : Prop := ∃ b, v = some (.ref b) ∧ Fr n0 L ∧ h0.size ≤ b ∧ Keep h0 h [] ∧ Arx Z h b .float (fs.map Value.float)
set_option maxRecDepth 65536 in
set_option maxHeartbeats 40000000 in
theorem rm8 (l : Launch) (Z : State) (a0 : Array Value) (hw : ∀ d ∈ tables_1, d.before a0 Z = true) (ws : List Jvm.Cond) (a1 : Addr) (d1 : Addr) (fs : List UInt32) (h0 : Heap) (n0 : Nat) (Z0 : n0 ≤ h0.size) (F_n : Fld Z h0 a1 "com/example/hadamint/hadamint/Trellis" "numbers" "[D" (.ref d1)) (V_d : Arx Z h0 d1 .double ((fs.map FP.f2d).map Value.double)) (hfl : fs.length = 4096) (hfin : ∀ x ∈ fs, Jvm.Free.Fl.Fin32 x) :
    own_CT l Z (⟨"com/example/hadamint/hadamint/Trellis", "table", "()[F"⟩ : MethodName) prog_22_method_3_code 3 (some (.array .float)) ws ({ frames := 0, cells := 1, slots := 4096, locals := 0 } : Room) #[(.ref a1)] h0 (Q8 Z a1 d1 fs h0 n0) := by
  refine MetFree.of_bodySF (plainFor_of_name pn_com_example_hadamint_hadamint_Trellis) hisR ?_
  intro p e s m args below meth c s₁ Bd hml0 hP hK
  obtain ⟨rfl, hZ, hh⟩ := hP
  have hx := Bd.exec
  have hby := Bd.bytes
  have hml : c.maxLocals = 3 := hml0
  have hown : s.vm.findClass "com/example/hadamint/hadamint/Trellis" = some m.cls := findClass_of_methodNamed Bd.named
  have hnm := (name_of_methodNamed Bd.named Bd.method).1
  have hlk : meth.locks = false := BodyLoose.notSynchronized Bd
  have X0 : Stand p l e ({ frames := 0, cells := 1, slots := 4096, locals := 0 } : Room) s m #[(.ref a1)] below meth c s₁ [] 0 0 := Stand.of_body Bd
  have e0 : s₁.heap = h0 := by rw [← hh, Bd.state]; rfl
  have N0 := Fr.nil n0
  show GG p e below s ({ frames := 0, cells := 1, slots := 4096, locals := 0 } : Room).cells ({ frames := 0, cells := 1, slots := 4096, locals := 0 } : Room).slots (Q8 Z a1 d1 fs h0 n0) s₁ (entryFrame m #[(.ref a1)] 3)
  refine own_in (ef_8 m a1) ?_
  show GG _ _ _ _ _ _ _ s₁ (mkF m 0 #[.val (.ref a1), .unset, .unset] [])
  refine own_go (fun _ => XS.sipush X0.here hx rfl (hb hby d8_0)) ?_
  show GG _ _ _ _ _ _ _ s₁ (mkF m 3 #[.val (.ref a1), .unset, .unset] [(.int (4096 : Int32))])
  have K0 := Keep.refl h0 []
  obtain ⟨T1, h1, ob1, g1, X1, e1, E1, V_ob1, E_ob1, st1⟩ := own_newarr X0 hx hZ (hw _ (List.mem_of_getElem? (i := 0) rfl)) e0 (g := (mkF m 3 #[.val (.ref a1), .unset, .unset] [(.int (4096 : Int32))])) rfl (hb hby d8_3) rfl (by decide) (cap := 4096) (by decide) (by decide) (by decide) (by decide) (ad := "[F") (by decide)
  have ne_a1_ob1 : a1 ≠ ob1 := Nat.ne_of_lt (Nat.lt_of_lt_of_le F_n.lt (Nat.le_of_eq g1.symm))
  have ne_d1_ob1 : d1 ≠ ob1 := Nat.ne_of_lt (Nat.lt_of_lt_of_le V_d.lt (Nat.le_of_eq g1.symm))
  have sz_ob1 : h0.size ≤ ob1 := Nat.le_trans K0.1 (Nat.le_of_eq g1.symm)
  have g_ob1 : n0 ≤ ob1 := Nat.le_trans Z0 sz_ob1
  have F_n := F_n.ext E1
  have V_d := V_d.ext E1
  have K0 := K0.ext E1
  have V_ob1 : Arx Z h1 ob1 .float (List.replicate 4096 (.float (0 : UInt32))) := V_ob1
  refine own_go (fun _ => st1 _) ?_
  show GG _ _ _ _ _ _ _ T1 (mkF m 5 #[.val (.ref a1), .unset, .unset] [(.ref ob1)])
  have V_ob1 : Arx Z h1 ob1 .float ((List.replicate 4096 (0 : UInt32)).map Value.float) := by rw [List.map_replicate]; exact V_ob1
  refine own_go (fun _ => XS.astoreN X1.here hx rfl (hb hby d8_5) rfl rfl (l' := #[.val (.ref a1), .val (.ref ob1), .unset]) rfl) ?_
  show GG _ _ _ _ _ _ _ T1 (mkF m 6 #[.val (.ref a1), .val (.ref ob1), .unset] [])
  refine own_go (fun _ => XS.iconst X1.here hx rfl (hb hby d8_6)) ?_
  show GG _ _ _ _ _ _ _ T1 (mkF m 7 #[.val (.ref a1), .val (.ref ob1), .unset] [(.int (0 : Int32))])
  refine own_go (fun _ => XS.istoreN X1.here hx rfl (hb hby d8_7) rfl (l' := #[.val (.ref a1), .val (.ref ob1), .val (.int (0 : Int32))]) rfl) ?_
  show GG _ _ _ _ _ _ _ T1 (mkF m 8 #[.val (.ref a1), .val (.ref ob1), .val (.int (0 : Int32))] [])
  have loop2 : ∀ (k : Nat) (iN : Nat) (i : Int32) (os : List UInt32) (TL : State) (hL : Heap) (lL : List Loc) (XL : Stand p l e ({ frames := 0, cells := 1, slots := 4096, locals := 0 } : Room) s m #[(.ref a1)] below meth c TL lL 1 4096) (eL : TL.heap = hL) (NL : Fr n0 lL) (hi : i.toInt = iN) (hk : iN + k = 4096) (hol : os.length = 4096) (hos : ∀ j, j < iN → os[j]? = fs[j]?) (F_n : Fld Z hL a1 "com/example/hadamint/hadamint/Trellis" "numbers" "[D" (.ref d1)) (V_d : Arx Z hL d1 .double ((fs.map FP.f2d).map Value.double)) (V_ob1 : Arx Z hL ob1 .float (os.map Value.float)) (K0 : Keep h0 hL []), GG p e below s 1 4096 (Q8 Z a1 d1 fs h0 n0) TL (mkF m 8 #[.val (.ref a1), .val (.ref ob1), .val (.int i)] []) := by
    intro k
    induction k with
    | zero =>
      intro iN i os TL hL lL XL eL NL hi hk hol hos F_n V_d V_ob1 K0
      have ri := rng32 i
      show GG _ _ _ _ _ _ _ TL (mkF m 8 #[.val (.ref a1), .val (.ref ob1), .val (.int i)] [])
      refine own_go (fun _ => XS.iloadN XL.here hx rfl (hb hby d8_8) rfl) ?_
      show GG _ _ _ _ _ _ _ TL (mkF m 9 #[.val (.ref a1), .val (.ref ob1), .val (.int i)] [(.int i)])
      refine own_go (fun _ => XS.sipush XL.here hx rfl (hb hby d8_9)) ?_
      show GG _ _ _ _ _ _ _ TL (mkF m 12 #[.val (.ref a1), .val (.ref ob1), .val (.int i)] [(.int (4096 : Int32)), (.int i)])
      have hc12 : ¬ (i < (4096 : Int32)) := (fun q => absurd (Int32.lt_iff_toInt_lt.mp q) ((by show ¬ (i.toInt < 4096); omega : ¬ (i.toInt < 4096))))
      refine own_go (fun _ => XS.icmpYes XL.here hx rfl (pc0 := 12) (pc' := 31) rfl (hb hby d8_12) rfl (flt hc12).2.1 (by decide) (by decide)) ?_
      show GG _ _ _ _ _ _ _ TL (mkF m 31 #[.val (.ref a1), .val (.ref ob1), .val (.int i)] [])
      refine own_go (fun _ => XS.aloadN XL.here hx rfl (hb hby d8_31) rfl rfl) ?_
      show GG _ _ _ _ _ _ _ TL (mkF m 32 #[.val (.ref a1), .val (.ref ob1), .val (.int i)] [(.ref ob1)])
      refine own_ret XL hx hlk (t := (.array .float)) (w := (.ref ob1)) Bd.returns rfl (Or.inr (Or.inr (Or.inr (Or.inr ⟨rfl, rfl, rfl⟩)))) (hb hby d8_32) (by decide) (by decide) ?_
      show Q8 Z a1 d1 fs h0 n0 (some (.ref ob1)) TL.heap _
      rw [eL]
      obtain rfl : iN = 4096 := by omega
      obtain rfl : os = fs := own_all hol hfl hos
      exact ⟨_, rfl, NL, sz_ob1, K0, V_ob1⟩
    | succ k ih =>
      intro iN i os TL hL lL XL eL NL hi hk hol hos F_n V_d V_ob1 K0
      have ri := rng32 i
      have hlt : iN < 4096 := by omega
      obtain ⟨xt, hxt⟩ : ∃ x, fs[iN]? = some x := ⟨_, List.getElem?_eq_getElem (by omega)⟩
      have hF := hfin xt (List.mem_of_getElem? hxt)
      show GG _ _ _ _ _ _ _ TL (mkF m 8 #[.val (.ref a1), .val (.ref ob1), .val (.int i)] [])
      refine own_go (fun _ => XS.iloadN XL.here hx rfl (hb hby d8_8) rfl) ?_
      show GG _ _ _ _ _ _ _ TL (mkF m 9 #[.val (.ref a1), .val (.ref ob1), .val (.int i)] [(.int i)])
      refine own_go (fun _ => XS.sipush XL.here hx rfl (hb hby d8_9)) ?_
      show GG _ _ _ _ _ _ _ TL (mkF m 12 #[.val (.ref a1), .val (.ref ob1), .val (.int i)] [(.int (4096 : Int32)), (.int i)])
      have hc12 : i < (4096 : Int32) := (Int32.lt_iff_toInt_lt.mpr ((by show (i.toInt < 4096); omega : (i.toInt < 4096))))
      refine own_go (fun _ => XS.icmpNo XL.here hx rfl (hb hby d8_12) rfl (tlt hc12).2.1) ?_
      show GG _ _ _ _ _ _ _ TL (mkF m 15 #[.val (.ref a1), .val (.ref ob1), .val (.int i)] [])
      refine own_go (fun _ => XS.aloadN XL.here hx rfl (hb hby d8_15) rfl rfl) ?_
      show GG _ _ _ _ _ _ _ TL (mkF m 16 #[.val (.ref a1), .val (.ref ob1), .val (.int i)] [(.ref ob1)])
      refine own_go (fun _ => XS.iloadN XL.here hx rfl (hb hby d8_16) rfl) ?_
      show GG _ _ _ _ _ _ _ TL (mkF m 17 #[.val (.ref a1), .val (.ref ob1), .val (.int i)] [(.int i), (.ref ob1)])
      refine own_go (fun _ => XS.aloadN XL.here hx rfl (hb hby d8_17) rfl rfl) ?_
      show GG _ _ _ _ _ _ _ TL (mkF m 18 #[.val (.ref a1), .val (.ref ob1), .val (.int i)] [(.ref a1), (.int i), (.ref ob1)])
      obtain ⟨T3, X3, e3, st3⟩ := getF XL hx hZ hown (host := "") (Or.inl (hw _ (List.mem_of_getElem? (i := 12) rfl))) Via.refl eL F_n (g := (mkF m 18 #[.val (.ref a1), .val (.ref ob1), .val (.int i)] [(.ref a1), (.int i), (.ref ob1)])) rfl rfl (hb hby d8_18)
      refine own_go (fun _ => st3 _) ?_
      show GG _ _ _ _ _ _ _ T3 (mkF m 21 #[.val (.ref a1), .val (.ref ob1), .val (.int i)] [(.ref d1), (.int i), (.ref ob1)])
      refine own_go (fun _ => XS.iloadN X3.here hx rfl (hb hby d8_21) rfl) ?_
      show GG _ _ _ _ _ _ _ T3 (mkF m 22 #[.val (.ref a1), .val (.ref ob1), .val (.int i)] [(.int i), (.ref d1), (.int i), (.ref ob1)])
      refine own_go (fun _ => own_daload X3 hx hZ e3 V_d (j := i) (v := (.double (FP.f2d xt))) (own_nn (by omega)) (by rw [own_nat hi, List.getElem?_map, List.getElem?_map, hxt]; rfl) (g := (mkF m 22 #[.val (.ref a1), .val (.ref ob1), .val (.int i)] [(.int i), (.ref d1), (.int i), (.ref ob1)])) rfl rfl (hb hby d8_22) _) ?_
      show GG _ _ _ _ _ _ _ T3 (mkF m 23 #[.val (.ref a1), .val (.ref ob1), .val (.int i)] [(.double (FP.f2d xt)), (.int i), (.ref ob1)])
      refine own_go (fun _ => XS.d2fS X3.here hx rfl (hb hby d8_23) rfl (by rw [own_df hF]; exact hF.noNaN) rfl) ?_
      show GG _ _ _ _ _ _ _ T3 (mkF m 24 #[.val (.ref a1), .val (.ref ob1), .val (.int i)] [(.float (FP.d2f (FP.f2d xt))), (.int i), (.ref ob1)])
      rw [own_df hF]
      show GG _ _ _ _ _ _ _ T3 (mkF m 24 #[.val (.ref a1), .val (.ref ob1), .val (.int i)] [(.float xt), (.int i), (.ref ob1)])
      obtain ⟨T4, h4, X4, e4, W4, V4, st4⟩ := own_fastore X3 hx hZ e3 V_ob1 (own_nn (by omega)) (by rw [own_nat hi, List.length_map]; omega) (g := (mkF m 24 #[.val (.ref a1), .val (.ref ob1), .val (.int i)] [(.float xt), (.int i), (.ref ob1)])) rfl rfl (hb hby d8_24)
      have F_n := F_n.other W4 (Or.inl ne_a1_ob1)
      have V_d := V_d.other W4 ne_d1_ob1
      have K0 := K0.wr W4 (Or.inr sz_ob1)
      have V_ob1 : Arx Z h4 ob1 .float ((os.set iN xt).map Value.float) := (by rw [List.map_set]; rw [own_nat hi] at V4; exact V4)
      have N4 := Fr.snoc X4 NL g_ob1
      refine own_go (fun _ => st4 _) ?_
      show GG _ _ _ _ _ _ _ T4 (mkF m 25 #[.val (.ref a1), .val (.ref ob1), .val (.int i)] [])
      refine own_go (fun _ => XS.iinc X4.here hx rfl (hb hby d8_25) rfl (l' := #[.val (.ref a1), .val (.ref ob1), .val (.int (i + (1 : Int32)))]) rfl) ?_
      show GG _ _ _ _ _ _ _ T4 (mkF m 28 #[.val (.ref a1), .val (.ref ob1), .val (.int (i + (1 : Int32)))] [])
      have cx5 := c_iadd i (1 : Int32)
      simp only [show ((1 : Int32)).toInt = 1 from by decide] at cx5
      generalize hx5 : (i + (1 : Int32)) = x5 at cx5 ⊢
      have rx5 := rng32 x5
      refine own_go (fun _ => XS.goto X4.here hx rfl (pc0 := 28) (pc' := 8) rfl (hb hby d8_28) (by decide) (by decide)) ?_
      show GG _ _ _ _ _ _ _ T4 (mkF m 8 #[.val (.ref a1), .val (.ref ob1), .val (.int x5)] [])
      exact ih (iN + 1) x5 (os.set iN xt) T4 h4 _ X4 e4 N4 (by omega) (by omega) (by rw [List.length_set]; exact hol) (own_set (by omega) hxt hos) F_n V_d V_ob1 K0
  exact loop2 4096 0 (0 : Int32) (List.replicate 4096 0) T1 h1 _ X1 e1 N0 (by decide) (by decide) (List.length_replicate) (fun j hj => absurd hj (Nat.not_lt_zero _)) F_n V_d V_ob1 K0
theorem pd___F_I_V_492 : parseMethodDescriptor "([F[I)V" = some ⟨[(.array .float), (.array .int)], none⟩ := by decide +kernel
theorem pd____F_242 : parseMethodDescriptor "()[F" = some ⟨[], some (.array .float)⟩ := by decide +kernel
theorem pn_com_example_hadamint_hadamint_TrellisTablePinLaw : plainName "com/example/hadamint/hadamint/TrellisTablePinLaw" = true := by first | (simp [plainName, overriddenIn]; done) | decide +kernel
theorem ef_0 (m : MethodId) (x0 : Int32) (x1 : Int32) (x2 : Int32) (x3 : Int32) (x4 : Int32) (x5 : Int32) : entryFrame m #[(.int x0), (.int x1), (.int x2), (.int x3), (.int x4), (.int x5)] maxLocals = mkF m 0 #[.val (.int x0), .val (.int x1), .val (.int x2), .val (.int x3), .val (.int x4), .val (.int x5), .unset, .unset, .unset, .unset, .unset, .unset, .unset, .unset, .unset, .unset, .unset, .unset] [] := by first | (simp [entryFrame, mkF, argsToLocals, Value.category, maxLocals]; done) | rfl
def Q0 (Z : State) (p0 : Int32) (p1 : Int32) (p2 : Int32) (p3 : Int32) (p4 : Int32) (p5 : Int32) (h0 : Heap) (n0 : Nat) (v : Option Value) (h : Heap) (L : List Loc) : Prop := v = some (.int 1) ∧ Fr n0 L
set_option maxRecDepth 65536 in
set_option maxHeartbeats 40000000 in
theorem rm0 (l : Launch) (Z : State) (a0 : Array Value) (hw : ∀ d ∈ tables_1, d.before a0 Z = true) (ws : List Jvm.Cond) (p0 : Int32) (p1 : Int32) (p2 : Int32) (p3 : Int32) (p4 : Int32) (p5 : Int32) (h0 : Heap) (n0 : Nat) (Z0 : n0 ≤ h0.size)  :
    own_CT l Z x code maxLocals ret ws room_1 #[(.int p0), (.int p1), (.int p2), (.int p3), (.int p4), (.int p5)] h0 (Q0 Z p0 p1 p2 p3 p4 p5 h0 n0) := by
  refine MetFree.of_bodySF (plainFor_of_name pn_com_example_hadamint_hadamint_TrellisTablePinLaw) hisR ?_
  intro p e s m args below meth c s₁ Bd hml0 hP hK
  obtain ⟨rfl, hZ, hh⟩ := hP
  have hx := Bd.exec
  have hby := Bd.bytes
  have hml : c.maxLocals = 18 := hml0
  have hown : s.vm.findClass "com/example/hadamint/hadamint/TrellisTablePinLaw" = some m.cls := findClass_of_methodNamed Bd.named
  have hnm := (name_of_methodNamed Bd.named Bd.method).1
  have hlk : meth.locks = false := BodyLoose.notSynchronized Bd
  have X0 : Stand p l e room_1 s m #[(.int p0), (.int p1), (.int p2), (.int p3), (.int p4), (.int p5)] below meth c s₁ [] 0 0 := Stand.of_body Bd
  have e0 : s₁.heap = h0 := by rw [← hh, Bd.state]; rfl
  have N0 := Fr.nil n0
  show GG p e below s room_1.cells room_1.slots (Q0 Z p0 p1 p2 p3 p4 p5 h0 n0) s₁ (entryFrame m #[(.int p0), (.int p1), (.int p2), (.int p3), (.int p4), (.int p5)] maxLocals)
  refine own_in (ef_0 m p0 p1 p2 p3 p4 p5) ?_
  have K0 := Keep.refl h0 []
  have c30 : (30 : Int32).toInt = 30 := by decide
  show GG _ _ _ _ _ _ _ s₁ (mkF m 0 #[.val (.int p0), .val (.int p1), .val (.int p2), .val (.int p3), .val (.int p4), .val (.int p5), .unset, .unset, .unset, .unset, .unset, .unset, .unset, .unset, .unset, .unset, .unset, .unset] [])
  refine own_go (fun _ => XS.iloadN X0.here hx rfl (hb hby at_0) rfl) ?_
  show GG _ _ _ _ _ _ _ s₁ (mkF m 1 #[.val (.int p0), .val (.int p1), .val (.int p2), .val (.int p3), .val (.int p4), .val (.int p5), .unset, .unset, .unset, .unset, .unset, .unset, .unset, .unset, .unset, .unset, .unset, .unset] [(.int p0)])
  refine own_go (fun _ => XS.sipush X0.here hx rfl (hb hby at_1)) ?_
  show GG _ _ _ _ _ _ _ s₁ (mkF m 4 #[.val (.int p0), .val (.int p1), .val (.int p2), .val (.int p3), .val (.int p4), .val (.int p5), .unset, .unset, .unset, .unset, .unset, .unset, .unset, .unset, .unset, .unset, .unset, .unset] [(.int (4095 : Int32)), (.int p0)])
  refine own_go (fun _ => XS.iand X0.here hx rfl (hb hby at_4) rfl) ?_
  show GG _ _ _ _ _ _ _ s₁ (mkF m 5 #[.val (.int p0), .val (.int p1), .val (.int p2), .val (.int p3), .val (.int p4), .val (.int p5), .unset, .unset, .unset, .unset, .unset, .unset, .unset, .unset, .unset, .unset, .unset, .unset] [(.int (p0 &&& (4095 : Int32)))])
  have cx1 := c_mask p0 (4095 : Int32) 12 (by decide) (by decide)
  generalize hx1 : (p0 &&& (4095 : Int32)) = x1 at cx1 ⊢
  have rx1 := rng32 x1
  refine own_go (fun _ => XS.istore X0.here hx rfl (hb hby at_5) rfl (l' := #[.val (.int p0), .val (.int p1), .val (.int p2), .val (.int p3), .val (.int p4), .val (.int p5), .val (.int x1), .unset, .unset, .unset, .unset, .unset, .unset, .unset, .unset, .unset, .unset, .unset]) rfl) ?_
  show GG _ _ _ _ _ _ _ s₁ (mkF m 7 #[.val (.int p0), .val (.int p1), .val (.int p2), .val (.int p3), .val (.int p4), .val (.int p5), .val (.int x1), .unset, .unset, .unset, .unset, .unset, .unset, .unset, .unset, .unset, .unset, .unset] [])
  refine own_go (fun _ => XS.iloadN X0.here hx rfl (hb hby at_7) rfl) ?_
  show GG _ _ _ _ _ _ _ s₁ (mkF m 8 #[.val (.int p0), .val (.int p1), .val (.int p2), .val (.int p3), .val (.int p4), .val (.int p5), .val (.int x1), .unset, .unset, .unset, .unset, .unset, .unset, .unset, .unset, .unset, .unset, .unset] [(.int p1)])
  refine own_go (fun _ => XS.sipush X0.here hx rfl (hb hby at_8)) ?_
  show GG _ _ _ _ _ _ _ s₁ (mkF m 11 #[.val (.int p0), .val (.int p1), .val (.int p2), .val (.int p3), .val (.int p4), .val (.int p5), .val (.int x1), .unset, .unset, .unset, .unset, .unset, .unset, .unset, .unset, .unset, .unset, .unset] [(.int (4095 : Int32)), (.int p1)])
  refine own_go (fun _ => XS.iand X0.here hx rfl (hb hby at_11) rfl) ?_
  show GG _ _ _ _ _ _ _ s₁ (mkF m 12 #[.val (.int p0), .val (.int p1), .val (.int p2), .val (.int p3), .val (.int p4), .val (.int p5), .val (.int x1), .unset, .unset, .unset, .unset, .unset, .unset, .unset, .unset, .unset, .unset, .unset] [(.int (p1 &&& (4095 : Int32)))])
  have cx2 := c_mask p1 (4095 : Int32) 12 (by decide) (by decide)
  generalize hx2 : (p1 &&& (4095 : Int32)) = x2 at cx2 ⊢
  have rx2 := rng32 x2
  refine own_go (fun _ => XS.istore X0.here hx rfl (hb hby at_12) rfl (l' := #[.val (.int p0), .val (.int p1), .val (.int p2), .val (.int p3), .val (.int p4), .val (.int p5), .val (.int x1), .val (.int x2), .unset, .unset, .unset, .unset, .unset, .unset, .unset, .unset, .unset, .unset]) rfl) ?_
  show GG _ _ _ _ _ _ _ s₁ (mkF m 14 #[.val (.int p0), .val (.int p1), .val (.int p2), .val (.int p3), .val (.int p4), .val (.int p5), .val (.int x1), .val (.int x2), .unset, .unset, .unset, .unset, .unset, .unset, .unset, .unset, .unset, .unset] [])
  refine own_go (fun _ => XS.iloadN X0.here hx rfl (hb hby at_14) rfl) ?_
  show GG _ _ _ _ _ _ _ s₁ (mkF m 15 #[.val (.int p0), .val (.int p1), .val (.int p2), .val (.int p3), .val (.int p4), .val (.int p5), .val (.int x1), .val (.int x2), .unset, .unset, .unset, .unset, .unset, .unset, .unset, .unset, .unset, .unset] [(.int p2)])
  refine own_go (fun _ => XS.sipush X0.here hx rfl (hb hby at_15)) ?_
  show GG _ _ _ _ _ _ _ s₁ (mkF m 18 #[.val (.int p0), .val (.int p1), .val (.int p2), .val (.int p3), .val (.int p4), .val (.int p5), .val (.int x1), .val (.int x2), .unset, .unset, .unset, .unset, .unset, .unset, .unset, .unset, .unset, .unset] [(.int (4095 : Int32)), (.int p2)])
  refine own_go (fun _ => XS.iand X0.here hx rfl (hb hby at_18) rfl) ?_
  show GG _ _ _ _ _ _ _ s₁ (mkF m 19 #[.val (.int p0), .val (.int p1), .val (.int p2), .val (.int p3), .val (.int p4), .val (.int p5), .val (.int x1), .val (.int x2), .unset, .unset, .unset, .unset, .unset, .unset, .unset, .unset, .unset, .unset] [(.int (p2 &&& (4095 : Int32)))])
  have cx3 := c_mask p2 (4095 : Int32) 12 (by decide) (by decide)
  generalize hx3 : (p2 &&& (4095 : Int32)) = x3 at cx3 ⊢
  have rx3 := rng32 x3
  refine own_go (fun _ => XS.istore X0.here hx rfl (hb hby at_19) rfl (l' := #[.val (.int p0), .val (.int p1), .val (.int p2), .val (.int p3), .val (.int p4), .val (.int p5), .val (.int x1), .val (.int x2), .val (.int x3), .unset, .unset, .unset, .unset, .unset, .unset, .unset, .unset, .unset]) rfl) ?_
  show GG _ _ _ _ _ _ _ s₁ (mkF m 21 #[.val (.int p0), .val (.int p1), .val (.int p2), .val (.int p3), .val (.int p4), .val (.int p5), .val (.int x1), .val (.int x2), .val (.int x3), .unset, .unset, .unset, .unset, .unset, .unset, .unset, .unset, .unset] [])
  refine own_go (fun _ => XS.iloadN X0.here hx rfl (hb hby at_21) rfl) ?_
  show GG _ _ _ _ _ _ _ s₁ (mkF m 22 #[.val (.int p0), .val (.int p1), .val (.int p2), .val (.int p3), .val (.int p4), .val (.int p5), .val (.int x1), .val (.int x2), .val (.int x3), .unset, .unset, .unset, .unset, .unset, .unset, .unset, .unset, .unset] [(.int p3)])
  refine own_go (fun _ => XS.i2fS X0.here hx rfl (hb hby at_22) rfl rfl) ?_
  show GG _ _ _ _ _ _ _ s₁ (mkF m 23 #[.val (.int p0), .val (.int p1), .val (.int p2), .val (.int p3), .val (.int p4), .val (.int p5), .val (.int x1), .val (.int x2), .val (.int x3), .unset, .unset, .unset, .unset, .unset, .unset, .unset, .unset, .unset] [(.float (FP.i2f p3))])
  refine own_go (fun _ => XS.fstore X0.here hx rfl (hb hby at_23) rfl (l' := #[.val (.int p0), .val (.int p1), .val (.int p2), .val (.int p3), .val (.int p4), .val (.int p5), .val (.int x1), .val (.int x2), .val (.int x3), .val (.float (FP.i2f p3)), .unset, .unset, .unset, .unset, .unset, .unset, .unset, .unset]) rfl) ?_
  show GG _ _ _ _ _ _ _ s₁ (mkF m 25 #[.val (.int p0), .val (.int p1), .val (.int p2), .val (.int p3), .val (.int p4), .val (.int p5), .val (.int x1), .val (.int x2), .val (.int x3), .val (.float (FP.i2f p3)), .unset, .unset, .unset, .unset, .unset, .unset, .unset, .unset] [])
  generalize hx4 : (FP.i2f p3) = x4
  refine own_go (fun _ => XS.iload X0.here hx rfl (hb hby at_25) rfl) ?_
  show GG _ _ _ _ _ _ _ s₁ (mkF m 27 #[.val (.int p0), .val (.int p1), .val (.int p2), .val (.int p3), .val (.int p4), .val (.int p5), .val (.int x1), .val (.int x2), .val (.int x3), .val (.float x4), .unset, .unset, .unset, .unset, .unset, .unset, .unset, .unset] [(.int p4)])
  refine own_go (fun _ => XS.i2fS X0.here hx rfl (hb hby at_27) rfl rfl) ?_
  show GG _ _ _ _ _ _ _ s₁ (mkF m 28 #[.val (.int p0), .val (.int p1), .val (.int p2), .val (.int p3), .val (.int p4), .val (.int p5), .val (.int x1), .val (.int x2), .val (.int x3), .val (.float x4), .unset, .unset, .unset, .unset, .unset, .unset, .unset, .unset] [(.float (FP.i2f p4))])
  refine own_go (fun _ => XS.iconst X0.here hx rfl (hb hby at_28)) ?_
  show GG _ _ _ _ _ _ _ s₁ (mkF m 29 #[.val (.int p0), .val (.int p1), .val (.int p2), .val (.int p3), .val (.int p4), .val (.int p5), .val (.int x1), .val (.int x2), .val (.int x3), .val (.float x4), .unset, .unset, .unset, .unset, .unset, .unset, .unset, .unset] [(.int (1 : Int32)), (.float (FP.i2f p4))])
  refine own_go (fun _ => XS.iload X0.here hx rfl (hb hby at_29) rfl) ?_
  show GG _ _ _ _ _ _ _ s₁ (mkF m 31 #[.val (.int p0), .val (.int p1), .val (.int p2), .val (.int p3), .val (.int p4), .val (.int p5), .val (.int x1), .val (.int x2), .val (.int x3), .val (.float x4), .unset, .unset, .unset, .unset, .unset, .unset, .unset, .unset] [(.int p5), (.int (1 : Int32)), (.float (FP.i2f p4))])
  refine own_go (fun _ => XS.bipush X0.here hx rfl (hb hby at_31)) ?_
  show GG _ _ _ _ _ _ _ s₁ (mkF m 33 #[.val (.int p0), .val (.int p1), .val (.int p2), .val (.int p3), .val (.int p4), .val (.int p5), .val (.int x1), .val (.int x2), .val (.int x3), .val (.float x4), .unset, .unset, .unset, .unset, .unset, .unset, .unset, .unset] [(.int (30 : Int32)), (.int p5), (.int (1 : Int32)), (.float (FP.i2f p4))])
  refine own_go (fun _ => XS.iand X0.here hx rfl (hb hby at_33) rfl) ?_
  show GG _ _ _ _ _ _ _ s₁ (mkF m 34 #[.val (.int p0), .val (.int p1), .val (.int p2), .val (.int p3), .val (.int p4), .val (.int p5), .val (.int x1), .val (.int x2), .val (.int x3), .val (.float x4), .unset, .unset, .unset, .unset, .unset, .unset, .unset, .unset] [(.int (p5 &&& (30 : Int32))), (.int (1 : Int32)), (.float (FP.i2f p4))])
  have cx5 := c_and p5 (30 : Int32) (by decide)
  generalize hx5 : (p5 &&& (30 : Int32)) = x5 at cx5 ⊢
  have rx5 := rng32 x5
  refine own_go (fun _ => XS.ishl X0.here hx rfl (hb hby at_34) rfl) ?_
  show GG _ _ _ _ _ _ _ s₁ (mkF m 35 #[.val (.int p0), .val (.int p1), .val (.int p2), .val (.int p3), .val (.int p4), .val (.int p5), .val (.int x1), .val (.int x2), .val (.int x3), .val (.float x4), .unset, .unset, .unset, .unset, .unset, .unset, .unset, .unset] [(.int ((1 : Int32) <<< (x5 &&& 31))), (.float (FP.i2f p4))])
  generalize hx6 : ((1 : Int32) <<< (x5 &&& 31)) = x6
  have rx6 := rng32 x6
  refine own_go (fun _ => XS.i2fS X0.here hx rfl (hb hby at_35) rfl rfl) ?_
  show GG _ _ _ _ _ _ _ s₁ (mkF m 36 #[.val (.int p0), .val (.int p1), .val (.int p2), .val (.int p3), .val (.int p4), .val (.int p5), .val (.int x1), .val (.int x2), .val (.int x3), .val (.float x4), .unset, .unset, .unset, .unset, .unset, .unset, .unset, .unset] [(.float (FP.i2f x6)), (.float (FP.i2f p4))])
  refine own_go (fun _ => XS.fdivS X0.here hx rfl (hb hby at_36) rfl (own_fin (own_shl hx6 (by omega) (by omega))).noNaN rfl) ?_
  show GG _ _ _ _ _ _ _ s₁ (mkF m 37 #[.val (.int p0), .val (.int p1), .val (.int p2), .val (.int p3), .val (.int p4), .val (.int p5), .val (.int x1), .val (.int x2), .val (.int x3), .val (.float x4), .unset, .unset, .unset, .unset, .unset, .unset, .unset, .unset] [(.float (FP.fdiv (FP.i2f p4) (FP.i2f x6)))])
  refine own_go (fun _ => XS.fstore X0.here hx rfl (hb hby at_37) rfl (l' := #[.val (.int p0), .val (.int p1), .val (.int p2), .val (.int p3), .val (.int p4), .val (.int p5), .val (.int x1), .val (.int x2), .val (.int x3), .val (.float x4), .val (.float (FP.fdiv (FP.i2f p4) (FP.i2f x6))), .unset, .unset, .unset, .unset, .unset, .unset, .unset]) rfl) ?_
  show GG _ _ _ _ _ _ _ s₁ (mkF m 39 #[.val (.int p0), .val (.int p1), .val (.int p2), .val (.int p3), .val (.int p4), .val (.int p5), .val (.int x1), .val (.int x2), .val (.int x3), .val (.float x4), .val (.float (FP.fdiv (FP.i2f p4) (FP.i2f x6))), .unset, .unset, .unset, .unset, .unset, .unset, .unset] [])
  generalize hx7 : (FP.fdiv (FP.i2f p4) (FP.i2f x6)) = x7
  have hFa : Jvm.Free.Fl.Fin32 x4 := by rw [← hx4]; exact Jvm.Free.Fl.i2f_fin _
  have hFb : Jvm.Free.Fl.Fin32 x7 := by rw [← hx7]; exact own_fin (own_shl hx6 (by omega) (by omega))
  have bx1 : 0 ≤ x1.toInt ∧ x1.toInt < 4096 := ⟨by omega, by omega⟩
  have bx2 : 0 ≤ x2.toInt ∧ x2.toInt < 4096 := ⟨by omega, by omega⟩
  have bx3 : 0 ≤ x3.toInt ∧ x3.toInt < 4096 := ⟨by omega, by omega⟩
  clear rx5 cx5 rx6
  refine own_go (fun _ => XS.sipush X0.here hx rfl (hb hby at_39)) ?_
  show GG _ _ _ _ _ _ _ s₁ (mkF m 42 #[.val (.int p0), .val (.int p1), .val (.int p2), .val (.int p3), .val (.int p4), .val (.int p5), .val (.int x1), .val (.int x2), .val (.int x3), .val (.float x4), .val (.float x7), .unset, .unset, .unset, .unset, .unset, .unset, .unset] [(.int (4096 : Int32))])
  obtain ⟨T8, h8, ob8, g8, X8, e8, E8, V_ob8, E_ob8, st8⟩ := own_newarr X0 hx hZ (hw _ (List.mem_of_getElem? (i := 0) rfl)) e0 (g := (mkF m 42 #[.val (.int p0), .val (.int p1), .val (.int p2), .val (.int p3), .val (.int p4), .val (.int p5), .val (.int x1), .val (.int x2), .val (.int x3), .val (.float x4), .val (.float x7), .unset, .unset, .unset, .unset, .unset, .unset, .unset] [(.int (4096 : Int32))])) rfl (hb hby at_42) rfl (by decide) (cap := 4096) (by decide) (by decide) (by decide) (by decide) (ad := "[F") (by decide)
  have sz_ob8 : h0.size ≤ ob8 := Nat.le_trans K0.1 (Nat.le_of_eq g8.symm)
  have g_ob8 : n0 ≤ ob8 := Nat.le_trans Z0 sz_ob8
  have K0 := K0.ext E8
  have V_ob8 : Arx Z h8 ob8 .float (List.replicate 4096 (.float (0 : UInt32))) := V_ob8
  refine own_go (fun _ => st8 _) ?_
  show GG _ _ _ _ _ _ _ T8 (mkF m 44 #[.val (.int p0), .val (.int p1), .val (.int p2), .val (.int p3), .val (.int p4), .val (.int p5), .val (.int x1), .val (.int x2), .val (.int x3), .val (.float x4), .val (.float x7), .unset, .unset, .unset, .unset, .unset, .unset, .unset] [(.ref ob8)])
  have V_ob8 : Arx Z h8 ob8 .float ((List.replicate 4096 (0 : UInt32)).map Value.float) := by rw [List.map_replicate]; exact V_ob8
  refine own_go (fun _ => XS.astore X8.here hx rfl (hb hby at_44) rfl rfl (l' := #[.val (.int p0), .val (.int p1), .val (.int p2), .val (.int p3), .val (.int p4), .val (.int p5), .val (.int x1), .val (.int x2), .val (.int x3), .val (.float x4), .val (.float x7), .val (.ref ob8), .unset, .unset, .unset, .unset, .unset, .unset]) rfl) ?_
  show GG _ _ _ _ _ _ _ T8 (mkF m 46 #[.val (.int p0), .val (.int p1), .val (.int p2), .val (.int p3), .val (.int p4), .val (.int p5), .val (.int x1), .val (.int x2), .val (.int x3), .val (.float x4), .val (.float x7), .val (.ref ob8), .unset, .unset, .unset, .unset, .unset, .unset] [])
  refine own_go (fun _ => XS.aload X8.here hx rfl (hb hby at_46) rfl rfl) ?_
  show GG _ _ _ _ _ _ _ T8 (mkF m 48 #[.val (.int p0), .val (.int p1), .val (.int p2), .val (.int p3), .val (.int p4), .val (.int p5), .val (.int x1), .val (.int x2), .val (.int x3), .val (.float x4), .val (.float x7), .val (.ref ob8), .unset, .unset, .unset, .unset, .unset, .unset] [(.ref ob8)])
  refine own_go (fun _ => XS.iload X8.here hx rfl (hb hby at_48) rfl) ?_
  show GG _ _ _ _ _ _ _ T8 (mkF m 50 #[.val (.int p0), .val (.int p1), .val (.int p2), .val (.int p3), .val (.int p4), .val (.int p5), .val (.int x1), .val (.int x2), .val (.int x3), .val (.float x4), .val (.float x7), .val (.ref ob8), .unset, .unset, .unset, .unset, .unset, .unset] [(.int x1), (.ref ob8)])
  refine own_go (fun _ => XS.fload X8.here hx rfl (hb hby at_50) rfl) ?_
  show GG _ _ _ _ _ _ _ T8 (mkF m 52 #[.val (.int p0), .val (.int p1), .val (.int p2), .val (.int p3), .val (.int p4), .val (.int p5), .val (.int x1), .val (.int x2), .val (.int x3), .val (.float x4), .val (.float x7), .val (.ref ob8), .unset, .unset, .unset, .unset, .unset, .unset] [(.float x4), (.int x1), (.ref ob8)])
  obtain ⟨T9, h9, X9, e9, W9, V9, st9⟩ := own_fastore X8 hx hZ e8 V_ob8 (own_nn bx1.1) (by rw [List.length_map, List.length_replicate]; exact own_cl bx1.1 bx1.2) (g := (mkF m 52 #[.val (.int p0), .val (.int p1), .val (.int p2), .val (.int p3), .val (.int p4), .val (.int p5), .val (.int x1), .val (.int x2), .val (.int x3), .val (.float x4), .val (.float x7), .val (.ref ob8), .unset, .unset, .unset, .unset, .unset, .unset] [(.float x4), (.int x1), (.ref ob8)])) rfl rfl (hb hby at_52)
  have K0 := K0.wr W9 (Or.inr sz_ob8)
  have E_ob8 := E_ob8.wr W9
  have V_ob8 : Arx Z h9 ob8 .float (((List.replicate 4096 (0 : UInt32)).set x1.toNatClampNeg x4).map Value.float) := (by rw [List.map_set]; exact V9)
  have N9 := Fr.snoc X9 N0 g_ob8
  refine own_go (fun _ => st9 _) ?_
  show GG _ _ _ _ _ _ _ T9 (mkF m 53 #[.val (.int p0), .val (.int p1), .val (.int p2), .val (.int p3), .val (.int p4), .val (.int p5), .val (.int x1), .val (.int x2), .val (.int x3), .val (.float x4), .val (.float x7), .val (.ref ob8), .unset, .unset, .unset, .unset, .unset, .unset] [])
  refine own_go (fun _ => XS.aload X9.here hx rfl (hb hby at_53) rfl rfl) ?_
  show GG _ _ _ _ _ _ _ T9 (mkF m 55 #[.val (.int p0), .val (.int p1), .val (.int p2), .val (.int p3), .val (.int p4), .val (.int p5), .val (.int x1), .val (.int x2), .val (.int x3), .val (.float x4), .val (.float x7), .val (.ref ob8), .unset, .unset, .unset, .unset, .unset, .unset] [(.ref ob8)])
  refine own_go (fun _ => XS.iload X9.here hx rfl (hb hby at_55) rfl) ?_
  show GG _ _ _ _ _ _ _ T9 (mkF m 57 #[.val (.int p0), .val (.int p1), .val (.int p2), .val (.int p3), .val (.int p4), .val (.int p5), .val (.int x1), .val (.int x2), .val (.int x3), .val (.float x4), .val (.float x7), .val (.ref ob8), .unset, .unset, .unset, .unset, .unset, .unset] [(.int x2), (.ref ob8)])
  refine own_go (fun _ => XS.fload X9.here hx rfl (hb hby at_57) rfl) ?_
  show GG _ _ _ _ _ _ _ T9 (mkF m 59 #[.val (.int p0), .val (.int p1), .val (.int p2), .val (.int p3), .val (.int p4), .val (.int p5), .val (.int x1), .val (.int x2), .val (.int x3), .val (.float x4), .val (.float x7), .val (.ref ob8), .unset, .unset, .unset, .unset, .unset, .unset] [(.float x7), (.int x2), (.ref ob8)])
  obtain ⟨T10, h10, X10, e10, W10, V10, st10⟩ := own_fastore X9 hx hZ e9 V_ob8 (own_nn bx2.1) (by rw [List.length_map, List.length_set, List.length_replicate]; exact own_cl bx2.1 bx2.2) (g := (mkF m 59 #[.val (.int p0), .val (.int p1), .val (.int p2), .val (.int p3), .val (.int p4), .val (.int p5), .val (.int x1), .val (.int x2), .val (.int x3), .val (.float x4), .val (.float x7), .val (.ref ob8), .unset, .unset, .unset, .unset, .unset, .unset] [(.float x7), (.int x2), (.ref ob8)])) rfl rfl (hb hby at_59)
  have K0 := K0.wr W10 (Or.inr sz_ob8)
  have E_ob8 := E_ob8.wr W10
  have V_ob8 : Arx Z h10 ob8 .float ((own_G x1 x2 x4 x7).map Value.float) := (by rw [own_G, List.map_set]; exact V10)
  have N10 := Fr.snoc X10 N9 g_ob8
  refine own_go (fun _ => st10 _) ?_
  show GG _ _ _ _ _ _ _ T10 (mkF m 60 #[.val (.int p0), .val (.int p1), .val (.int p2), .val (.int p3), .val (.int p4), .val (.int p5), .val (.int x1), .val (.int x2), .val (.int x3), .val (.float x4), .val (.float x7), .val (.ref ob8), .unset, .unset, .unset, .unset, .unset, .unset] [])
  obtain ⟨T11, h11, X11, e11, E11, A11, D11, -, st11⟩ := newO X10 hx hZ hown (hw _ (List.mem_of_getElem? (i := 1) rfl)) (hw _ (List.mem_of_getElem? (i := 2) rfl)) (hw _ (List.mem_of_getElem? (i := 3) rfl)) e10 (g := (mkF m 60 #[.val (.int p0), .val (.int p1), .val (.int p2), .val (.int p3), .val (.int p4), .val (.int p5), .val (.int x1), .val (.int x2), .val (.int x3), .val (.float x4), .val (.float x7), .val (.ref ob8), .unset, .unset, .unset, .unset, .unset, .unset] [])) rfl (hb hby at_60) (by decide) (by decide)
  obtain ⟨ob11, g11⟩ : ∃ z, z = h10.size := ⟨_, rfl⟩
  rw [← g11] at A11 D11 st11
  have ne_ob8_ob11 : ob8 ≠ ob11 := Nat.ne_of_lt (Nat.lt_of_lt_of_le V_ob8.lt (Nat.le_of_eq g11.symm))
  have sz_ob11 : h0.size ≤ ob11 := Nat.le_trans K0.1 (Nat.le_of_eq g11.symm)
  have g_ob11 : n0 ≤ ob11 := Nat.le_trans Z0 sz_ob11
  have K0 := K0.ext E11
  have V_ob8 := V_ob8.ext E11
  have E_ob8 := E_ob8.ext E11
  have E_ob11 := A11
  have F_numbers_ob11 : Fld Z h11 ob11 "com/example/hadamint/hadamint/Trellis" "numbers" "[D" .null := D11 (Or.inr (hw _ (List.mem_of_getElem? (i := 13) rfl))) (ty := (.array .double)) (by decide)
  have F_widest_ob11 : Fld Z h11 ob11 "com/example/hadamint/hadamint/Trellis" "widest" "D" (.double (0 : UInt64)) := D11 (Or.inr (hw _ (List.mem_of_getElem? (i := 31) rfl))) (ty := .double) (by decide)
  have F_bits_ob11 : Fld Z h11 ob11 "com/example/hadamint/hadamint/Trellis" "bits" "[I" .null := D11 (Or.inr (hw _ (List.mem_of_getElem? (i := 42) rfl))) (ty := (.array .int)) (by decide)
  have F_stride_ob11 : Fld Z h11 ob11 "com/example/hadamint/hadamint/Trellis" "stride" "I" (.int (0 : Int32)) := D11 (Or.inr (hw _ (List.mem_of_getElem? (i := 44) rfl))) (ty := .int) (by decide)
  have F_places_ob11 : Fld Z h11 ob11 "com/example/hadamint/hadamint/Trellis" "places" "[I" .null := D11 (Or.inr (hw _ (List.mem_of_getElem? (i := 46) rfl))) (ty := (.array .int)) (by decide)
  refine own_go (fun _ => st11 _) ?_
  show GG _ _ _ _ _ _ _ T11 (mkF m 63 #[.val (.int p0), .val (.int p1), .val (.int p2), .val (.int p3), .val (.int p4), .val (.int p5), .val (.int x1), .val (.int x2), .val (.int x3), .val (.float x4), .val (.float x7), .val (.ref ob8), .unset, .unset, .unset, .unset, .unset, .unset] [(.ref ob11)])
  refine own_go (fun _ => XS.dup X11.here hx rfl (hb hby at_63) rfl rfl) ?_
  show GG _ _ _ _ _ _ _ T11 (mkF m 64 #[.val (.int p0), .val (.int p1), .val (.int p2), .val (.int p3), .val (.int p4), .val (.int p5), .val (.int x1), .val (.int x2), .val (.int x3), .val (.float x4), .val (.float x7), .val (.ref ob8), .unset, .unset, .unset, .unset, .unset, .unset] [(.ref ob11), (.ref ob11)])
  refine own_go (fun _ => XS.aload X11.here hx rfl (hb hby at_64) rfl rfl) ?_
  show GG _ _ _ _ _ _ _ T11 (mkF m 66 #[.val (.int p0), .val (.int p1), .val (.int p2), .val (.int p3), .val (.int p4), .val (.int p5), .val (.int x1), .val (.int x2), .val (.int x3), .val (.float x4), .val (.float x7), .val (.ref ob8), .unset, .unset, .unset, .unset, .unset, .unset] [(.ref ob8), (.ref ob11), (.ref ob11)])
  refine own_go (fun _ => XS.iconst X11.here hx rfl (hb hby at_66)) ?_
  show GG _ _ _ _ _ _ _ T11 (mkF m 67 #[.val (.int p0), .val (.int p1), .val (.int p2), .val (.int p3), .val (.int p4), .val (.int p5), .val (.int x1), .val (.int x2), .val (.int x3), .val (.float x4), .val (.float x7), .val (.ref ob8), .unset, .unset, .unset, .unset, .unset, .unset] [(.int (1 : Int32)), (.ref ob8), (.ref ob11), (.ref ob11)])
  obtain ⟨T12, h12, ob12, g12, X12, e12, E12, V_ob12, E_ob12, st12⟩ := own_newarr X11 hx hZ (hw _ (List.mem_of_getElem? (i := 4) rfl)) e11 (g := (mkF m 67 #[.val (.int p0), .val (.int p1), .val (.int p2), .val (.int p3), .val (.int p4), .val (.int p5), .val (.int x1), .val (.int x2), .val (.int x3), .val (.float x4), .val (.float x7), .val (.ref ob8), .unset, .unset, .unset, .unset, .unset, .unset] [(.int (1 : Int32)), (.ref ob8), (.ref ob11), (.ref ob11)])) rfl (hb hby at_67) rfl (by decide) (cap := 1) (by decide) (by decide) (by decide) (by decide) (ad := "[I") (by decide)
  have ne_ob8_ob12 : ob8 ≠ ob12 := Nat.ne_of_lt (Nat.lt_of_lt_of_le V_ob8.lt (Nat.le_of_eq g12.symm))
  have ne_ob11_ob12 : ob11 ≠ ob12 := Nat.ne_of_lt (Nat.lt_of_lt_of_le E_ob11.lt (Nat.le_of_eq g12.symm))
  have sz_ob12 : h0.size ≤ ob12 := Nat.le_trans K0.1 (Nat.le_of_eq g12.symm)
  have g_ob12 : n0 ≤ ob12 := Nat.le_trans Z0 sz_ob12
  have K0 := K0.ext E12
  have V_ob8 := V_ob8.ext E12
  have E_ob8 := E_ob8.ext E12
  have E_ob11 := E_ob11.ext E12
  have F_numbers_ob11 := F_numbers_ob11.ext E12
  have F_widest_ob11 := F_widest_ob11.ext E12
  have F_bits_ob11 := F_bits_ob11.ext E12
  have F_stride_ob11 := F_stride_ob11.ext E12
  have F_places_ob11 := F_places_ob11.ext E12
  have V_ob12 : Arx Z h12 ob12 .int [(.int (0 : Int32))] := V_ob12
  refine own_go (fun _ => st12 _) ?_
  show GG _ _ _ _ _ _ _ T12 (mkF m 69 #[.val (.int p0), .val (.int p1), .val (.int p2), .val (.int p3), .val (.int p4), .val (.int p5), .val (.int x1), .val (.int x2), .val (.int x3), .val (.float x4), .val (.float x7), .val (.ref ob8), .unset, .unset, .unset, .unset, .unset, .unset] [(.ref ob12), (.ref ob8), (.ref ob11), (.ref ob11)])
  refine own_go (fun _ => XS.dup X12.here hx rfl (hb hby at_69) rfl rfl) ?_
  show GG _ _ _ _ _ _ _ T12 (mkF m 70 #[.val (.int p0), .val (.int p1), .val (.int p2), .val (.int p3), .val (.int p4), .val (.int p5), .val (.int x1), .val (.int x2), .val (.int x3), .val (.float x4), .val (.float x7), .val (.ref ob8), .unset, .unset, .unset, .unset, .unset, .unset] [(.ref ob12), (.ref ob12), (.ref ob8), (.ref ob11), (.ref ob11)])
  refine own_go (fun _ => XS.iconst X12.here hx rfl (hb hby at_70)) ?_
  show GG _ _ _ _ _ _ _ T12 (mkF m 71 #[.val (.int p0), .val (.int p1), .val (.int p2), .val (.int p3), .val (.int p4), .val (.int p5), .val (.int x1), .val (.int x2), .val (.int x3), .val (.float x4), .val (.float x7), .val (.ref ob8), .unset, .unset, .unset, .unset, .unset, .unset] [(.int (0 : Int32)), (.ref ob12), (.ref ob12), (.ref ob8), (.ref ob11), (.ref ob11)])
  refine own_go (fun _ => XS.bipush X12.here hx rfl (hb hby at_71)) ?_
  show GG _ _ _ _ _ _ _ T12 (mkF m 73 #[.val (.int p0), .val (.int p1), .val (.int p2), .val (.int p3), .val (.int p4), .val (.int p5), .val (.int x1), .val (.int x2), .val (.int x3), .val (.float x4), .val (.float x7), .val (.ref ob8), .unset, .unset, .unset, .unset, .unset, .unset] [(.int (8 : Int32)), (.int (0 : Int32)), (.ref ob12), (.ref ob12), (.ref ob8), (.ref ob11), (.ref ob11)])
  obtain ⟨T13, h13, X13, e13, W13, V13, st13⟩ := own_iastore X12 hx hZ e12 V_ob12 (by decide) (Nat.le_of_ble_eq_true rfl) (g := (mkF m 73 #[.val (.int p0), .val (.int p1), .val (.int p2), .val (.int p3), .val (.int p4), .val (.int p5), .val (.int x1), .val (.int x2), .val (.int x3), .val (.float x4), .val (.float x7), .val (.ref ob8), .unset, .unset, .unset, .unset, .unset, .unset] [(.int (8 : Int32)), (.int (0 : Int32)), (.ref ob12), (.ref ob12), (.ref ob8), (.ref ob11), (.ref ob11)])) rfl rfl (hb hby at_73)
  have K0 := K0.wr W13 (Or.inr sz_ob12)
  have V_ob8 := V_ob8.other W13 ne_ob8_ob12
  have E_ob8 := E_ob8.wr W13
  have E_ob11 := E_ob11.wr W13
  have F_numbers_ob11 := F_numbers_ob11.other W13 (Or.inl ne_ob11_ob12)
  have F_widest_ob11 := F_widest_ob11.other W13 (Or.inl ne_ob11_ob12)
  have F_bits_ob11 := F_bits_ob11.other W13 (Or.inl ne_ob11_ob12)
  have F_stride_ob11 := F_stride_ob11.other W13 (Or.inl ne_ob11_ob12)
  have F_places_ob11 := F_places_ob11.other W13 (Or.inl ne_ob11_ob12)
  have E_ob12 := E_ob12.wr W13
  have V_ob12 : Arx Z h13 ob12 .int [(.int (8 : Int32))] := V13
  have N13 := Fr.snoc X13 N10 g_ob12
  refine own_go (fun _ => st13 _) ?_
  show GG _ _ _ _ _ _ _ T13 (mkF m 74 #[.val (.int p0), .val (.int p1), .val (.int p2), .val (.int p3), .val (.int p4), .val (.int p5), .val (.int x1), .val (.int x2), .val (.int x3), .val (.float x4), .val (.float x7), .val (.ref ob8), .unset, .unset, .unset, .unset, .unset, .unset] [(.ref ob12), (.ref ob8), (.ref ob11), (.ref ob11)])
  refine own_callI X13 hx hZ (y := (⟨"com/example/hadamint/hadamint/Trellis", "<init>", "([F[I)V"⟩ : MethodName)) 1 rfl hown (hw _ (List.mem_of_getElem? (i := 5) rfl)) (hw _ (List.mem_of_getElem? (i := 6) rfl)) (hw _ (List.mem_of_getElem? (i := 3) rfl)) (hw _ (List.mem_of_getElem? (i := 7) rfl)) (by decide) (a := ob11) (argsL := [(.ref ob8), (.ref ob12)]) (rest := [(.ref ob11)]) (rm1 l Z a0 hw [] ob11 ob8 ob12 (own_G x1 x2 x4 x7) h13 n0 (Nat.le_trans Z0 K0.1) E_ob11 F_numbers_ob11 F_widest_ob11 F_bits_ob11 F_stride_ob11 F_places_ob11 g_ob11 V_ob8 V_ob12 E_ob12 (own_Gl _ _ _ _) (own_Gf hFa hFb) (Ne.symm ne_ob8_ob11) ne_ob11_ob12) (by decide) (by decide) (by decide) (by decide) (g := (mkF m 74 #[.val (.int p0), .val (.int p1), .val (.int p2), .val (.int p3), .val (.int p4), .val (.int p5), .val (.int x1), .val (.int x2), .val (.int x3), .val (.float x4), .val (.float x7), .val (.ref ob8), .unset, .unset, .unset, .unset, .unset, .unset] [(.ref ob12), (.ref ob8), (.ref ob11), (.ref ob11)])) rfl (by rw [hml]; rfl) (lenOf pd___F_I_V_492 rfl) rfl (by show 2 * 0 + _ ≤ _; exact Nat.le_of_eq rfl) (hb hby at_74) e13 ?_
  rintro v14 T14 L14 X14 ⟨dq14, rfl, N14q, Kq14, Eq14, Fq14, Vq14, nq14⟩
  have N14 := Fr.app N13 N14q
  have sd14 : ob11 ≠ dq14 := nq14
  have K0 := K0.trans Kq14 (allS (Or.inr sz_ob11) all0)
  show GG _ _ _ _ _ _ _ T14 (mkF m 77 #[.val (.int p0), .val (.int p1), .val (.int p2), .val (.int p3), .val (.int p4), .val (.int p5), .val (.int x1), .val (.int x2), .val (.int x3), .val (.float x4), .val (.float x7), .val (.ref ob8), .unset, .unset, .unset, .unset, .unset, .unset] [(.ref ob11)])
  refine own_go (fun _ => XS.astore X14.here hx rfl (hb hby at_77) rfl rfl (l' := #[.val (.int p0), .val (.int p1), .val (.int p2), .val (.int p3), .val (.int p4), .val (.int p5), .val (.int x1), .val (.int x2), .val (.int x3), .val (.float x4), .val (.float x7), .val (.ref ob8), .val (.ref ob11), .unset, .unset, .unset, .unset, .unset]) rfl) ?_
  show GG _ _ _ _ _ _ _ T14 (mkF m 79 #[.val (.int p0), .val (.int p1), .val (.int p2), .val (.int p3), .val (.int p4), .val (.int p5), .val (.int x1), .val (.int x2), .val (.int x3), .val (.float x4), .val (.float x7), .val (.ref ob8), .val (.ref ob11), .unset, .unset, .unset, .unset, .unset] [])
  refine own_go (fun _ => XS.aload X14.here hx rfl (hb hby at_79) rfl rfl) ?_
  show GG _ _ _ _ _ _ _ T14 (mkF m 81 #[.val (.int p0), .val (.int p1), .val (.int p2), .val (.int p3), .val (.int p4), .val (.int p5), .val (.int x1), .val (.int x2), .val (.int x3), .val (.float x4), .val (.float x7), .val (.ref ob8), .val (.ref ob11), .unset, .unset, .unset, .unset, .unset] [(.ref ob11)])
  refine own_callV X14 hx hZ (y := (⟨"com/example/hadamint/hadamint/Trellis", "table", "()[F"⟩ : MethodName)) (z := (⟨"com/example/hadamint/hadamint/Trellis", "table", "()[F"⟩ : MethodName)) 0 hown (hw _ (List.mem_of_getElem? (i := 50) rfl)) (hw _ (List.mem_of_getElem? (i := 51) rfl)) (notFace_of_selects (args := #[]) (mvT hZ (hw _ (List.mem_of_getElem? (i := 53) rfl)))) (hw _ (List.mem_of_getElem? (i := 53) rfl)) (hw _ (List.mem_of_getElem? (i := 52) rfl)) (hw _ (List.mem_of_getElem? (i := 3) rfl)) (hw _ (List.mem_of_getElem? (i := 54) rfl)) (by decide) (a := ob11) (argsL := []) (rest := []) (rm8 l Z a0 hw [] ob11 dq14 (own_G x1 x2 x4 x7) T14.heap n0 (Nat.le_trans Z0 K0.1) Fq14 Vq14 (own_Gl _ _ _ _) (own_Gf hFa hFb)) (by decide) (by decide) (by decide) (by decide) Eq14 (g := (mkF m 81 #[.val (.int p0), .val (.int p1), .val (.int p2), .val (.int p3), .val (.int p4), .val (.int p5), .val (.int x1), .val (.int x2), .val (.int x3), .val (.float x4), .val (.float x7), .val (.ref ob8), .val (.ref ob11), .unset, .unset, .unset, .unset, .unset] [(.ref ob11)])) rfl (by rw [hml]; rfl) (lenOf pd____F_242 rfl) rfl (by show 2 * 0 + _ ≤ _; exact Nat.le_of_eq rfl) (hb hby at_81) rfl ?_
  rintro v15 T15 L15 X15 ⟨bq15, rfl, N15q, szq15, Kq15, Vq15⟩
  have N15 := Fr.app N14 N15q
  have ne_ob11_bq15 : ob11 ≠ bq15 := Nat.ne_of_lt (Nat.lt_of_lt_of_le Fq14.lt szq15)
  have ne_dq14_bq15 : dq14 ≠ bq15 := Nat.ne_of_lt (Nat.lt_of_lt_of_le Vq14.lt szq15)
  have sz_bq15 : h0.size ≤ bq15 := Nat.le_trans K0.1 szq15
  have g_bq15 : n0 ≤ bq15 := Nat.le_trans Z0 sz_bq15
  have K0 := K0.trans Kq15 all0
  have Eq14 := Eq14.keep Kq15
  have Fq14 := Fq14.keep Kq15 nin0
  have Vq14 := Vq14.keep Kq15 nin0
  show GG _ _ _ _ _ _ _ T15 (mkF m 84 #[.val (.int p0), .val (.int p1), .val (.int p2), .val (.int p3), .val (.int p4), .val (.int p5), .val (.int x1), .val (.int x2), .val (.int x3), .val (.float x4), .val (.float x7), .val (.ref ob8), .val (.ref ob11), .unset, .unset, .unset, .unset, .unset] [(.ref bq15)])
  refine own_go (fun _ => XS.astore X15.here hx rfl (hb hby at_84) rfl rfl (l' := #[.val (.int p0), .val (.int p1), .val (.int p2), .val (.int p3), .val (.int p4), .val (.int p5), .val (.int x1), .val (.int x2), .val (.int x3), .val (.float x4), .val (.float x7), .val (.ref ob8), .val (.ref ob11), .val (.ref bq15), .unset, .unset, .unset, .unset]) rfl) ?_
  show GG _ _ _ _ _ _ _ T15 (mkF m 86 #[.val (.int p0), .val (.int p1), .val (.int p2), .val (.int p3), .val (.int p4), .val (.int p5), .val (.int x1), .val (.int x2), .val (.int x3), .val (.float x4), .val (.float x7), .val (.ref ob8), .val (.ref ob11), .val (.ref bq15), .unset, .unset, .unset, .unset] [])
  refine own_go (fun _ => XS.aload X15.here hx rfl (hb hby at_86) rfl rfl) ?_
  show GG _ _ _ _ _ _ _ T15 (mkF m 88 #[.val (.int p0), .val (.int p1), .val (.int p2), .val (.int p3), .val (.int p4), .val (.int p5), .val (.int x1), .val (.int x2), .val (.int x3), .val (.float x4), .val (.float x7), .val (.ref ob8), .val (.ref ob11), .val (.ref bq15), .unset, .unset, .unset, .unset] [(.ref bq15)])
  refine own_go (fun _ => own_len X15 hx hZ rfl Vq15 (g := (mkF m 88 #[.val (.int p0), .val (.int p1), .val (.int p2), .val (.int p3), .val (.int p4), .val (.int p5), .val (.int x1), .val (.int x2), .val (.int x3), .val (.float x4), .val (.float x7), .val (.ref ob8), .val (.ref ob11), .val (.ref bq15), .unset, .unset, .unset, .unset] [(.ref bq15)])) rfl rfl (hb hby at_88) _) ?_
  show GG _ _ _ _ _ _ _ T15 (mkF m 89 #[.val (.int p0), .val (.int p1), .val (.int p2), .val (.int p3), .val (.int p4), .val (.int p5), .val (.int x1), .val (.int x2), .val (.int x3), .val (.float x4), .val (.float x7), .val (.ref ob8), .val (.ref ob11), .val (.ref bq15), .unset, .unset, .unset, .unset] [(.int (Int32.ofNat ((own_G x1 x2 x4 x7).map Value.float).length))])
  refine own_go (fun _ => XS.sipush X15.here hx rfl (hb hby at_89)) ?_
  show GG _ _ _ _ _ _ _ T15 (mkF m 92 #[.val (.int p0), .val (.int p1), .val (.int p2), .val (.int p3), .val (.int p4), .val (.int p5), .val (.int x1), .val (.int x2), .val (.int x3), .val (.float x4), .val (.float x7), .val (.ref ob8), .val (.ref ob11), .val (.ref bq15), .unset, .unset, .unset, .unset] [(.int (4096 : Int32)), (.int (Int32.ofNat ((own_G x1 x2 x4 x7).map Value.float).length))])
  have hc92 : (Int32.ofNat ((own_G x1 x2 x4 x7).map Value.float).length) = (4096 : Int32) := by rw [List.length_map, own_Gl]; rfl
  refine own_go (fun _ => XS.icmpYes X15.here hx rfl (pc0 := 92) (pc' := 97) rfl (hb hby at_92) rfl (teq hc92).1 (by decide) (by decide)) ?_
  show GG _ _ _ _ _ _ _ T15 (mkF m 97 #[.val (.int p0), .val (.int p1), .val (.int p2), .val (.int p3), .val (.int p4), .val (.int p5), .val (.int x1), .val (.int x2), .val (.int x3), .val (.float x4), .val (.float x7), .val (.ref ob8), .val (.ref ob11), .val (.ref bq15), .unset, .unset, .unset, .unset] [])
  refine own_go (fun _ => XS.iload X15.here hx rfl (hb hby at_97) rfl) ?_
  show GG _ _ _ _ _ _ _ T15 (mkF m 99 #[.val (.int p0), .val (.int p1), .val (.int p2), .val (.int p3), .val (.int p4), .val (.int p5), .val (.int x1), .val (.int x2), .val (.int x3), .val (.float x4), .val (.float x7), .val (.ref ob8), .val (.ref ob11), .val (.ref bq15), .unset, .unset, .unset, .unset] [(.int x1)])
  refine own_go (fun _ => XS.iload X15.here hx rfl (hb hby at_99) rfl) ?_
  show GG _ _ _ _ _ _ _ T15 (mkF m 101 #[.val (.int p0), .val (.int p1), .val (.int p2), .val (.int p3), .val (.int p4), .val (.int p5), .val (.int x1), .val (.int x2), .val (.int x3), .val (.float x4), .val (.float x7), .val (.ref ob8), .val (.ref ob11), .val (.ref bq15), .unset, .unset, .unset, .unset] [(.int x2), (.int x1)])
  refine own_join (g' := (mkF m 111 #[.val (.int p0), .val (.int p1), .val (.int p2), .val (.int p3), .val (.int p4), .val (.int p5), .val (.int x1), .val (.int x2), .val (.int x3), .val (.float x4), .val (.float x7), .val (.ref ob8), .val (.ref ob11), .val (.ref bq15), .unset, .unset, .unset, .unset] [(.float (if x1 = x2 then x7 else x4))])) (fun J101 => ?_) ?_
  · by_cases hc101 : x1 = x2
    · skip
      refine own_go (fun _ => XS.icmpNo X15.here hx rfl (hb hby at_101) rfl (teq hc101).2) ?_
      show GG _ _ _ _ _ _ _ T15 (mkF m 104 #[.val (.int p0), .val (.int p1), .val (.int p2), .val (.int p3), .val (.int p4), .val (.int p5), .val (.int x1), .val (.int x2), .val (.int x3), .val (.float x4), .val (.float x7), .val (.ref ob8), .val (.ref ob11), .val (.ref bq15), .unset, .unset, .unset, .unset] [])
      refine own_go (fun _ => XS.fload X15.here hx rfl (hb hby at_104) rfl) ?_
      show GG _ _ _ _ _ _ _ T15 (mkF m 106 #[.val (.int p0), .val (.int p1), .val (.int p2), .val (.int p3), .val (.int p4), .val (.int p5), .val (.int x1), .val (.int x2), .val (.int x3), .val (.float x4), .val (.float x7), .val (.ref ob8), .val (.ref ob11), .val (.ref bq15), .unset, .unset, .unset, .unset] [(.float x7)])
      refine own_go (fun _ => XS.goto X15.here hx rfl (pc0 := 106) (pc' := 111) rfl (hb hby at_106) (by decide) (by decide)) ?_
      show GG _ _ _ _ _ _ _ T15 (mkF m 111 #[.val (.int p0), .val (.int p1), .val (.int p2), .val (.int p3), .val (.int p4), .val (.int p5), .val (.int x1), .val (.int x2), .val (.int x3), .val (.float x4), .val (.float x7), .val (.ref ob8), .val (.ref ob11), .val (.ref bq15), .unset, .unset, .unset, .unset] [(.float x7)])
      simp only [if_pos hc101] at J101
      exact J101
    · skip
      refine own_go (fun _ => XS.icmpYes X15.here hx rfl (pc0 := 101) (pc' := 109) rfl (hb hby at_101) rfl (feq hc101).2 (by decide) (by decide)) ?_
      show GG _ _ _ _ _ _ _ T15 (mkF m 109 #[.val (.int p0), .val (.int p1), .val (.int p2), .val (.int p3), .val (.int p4), .val (.int p5), .val (.int x1), .val (.int x2), .val (.int x3), .val (.float x4), .val (.float x7), .val (.ref ob8), .val (.ref ob11), .val (.ref bq15), .unset, .unset, .unset, .unset] [])
      refine own_go (fun _ => XS.fload X15.here hx rfl (hb hby at_109) rfl) ?_
      show GG _ _ _ _ _ _ _ T15 (mkF m 111 #[.val (.int p0), .val (.int p1), .val (.int p2), .val (.int p3), .val (.int p4), .val (.int p5), .val (.int x1), .val (.int x2), .val (.int x3), .val (.float x4), .val (.float x7), .val (.ref ob8), .val (.ref ob11), .val (.ref bq15), .unset, .unset, .unset, .unset] [(.float x4)])
      simp only [if_neg hc101] at J101
      exact J101
  show GG _ _ _ _ _ _ _ T15 (mkF m 111 #[.val (.int p0), .val (.int p1), .val (.int p2), .val (.int p3), .val (.int p4), .val (.int p5), .val (.int x1), .val (.int x2), .val (.int x3), .val (.float x4), .val (.float x7), .val (.ref ob8), .val (.ref ob11), .val (.ref bq15), .unset, .unset, .unset, .unset] [(.float (if x1 = x2 then x7 else x4))])
  generalize hx16 : (if x1 = x2 then x7 else x4) = x16
  refine own_go (fun _ => XS.fstore X15.here hx rfl (hb hby at_111) rfl (l' := #[.val (.int p0), .val (.int p1), .val (.int p2), .val (.int p3), .val (.int p4), .val (.int p5), .val (.int x1), .val (.int x2), .val (.int x3), .val (.float x4), .val (.float x7), .val (.ref ob8), .val (.ref ob11), .val (.ref bq15), .val (.float x16), .unset, .unset, .unset]) rfl) ?_
  show GG _ _ _ _ _ _ _ T15 (mkF m 113 #[.val (.int p0), .val (.int p1), .val (.int p2), .val (.int p3), .val (.int p4), .val (.int p5), .val (.int x1), .val (.int x2), .val (.int x3), .val (.float x4), .val (.float x7), .val (.ref ob8), .val (.ref ob11), .val (.ref bq15), .val (.float x16), .unset, .unset, .unset] [])
  refine own_go (fun _ => XS.iload X15.here hx rfl (hb hby at_113) rfl) ?_
  show GG _ _ _ _ _ _ _ T15 (mkF m 115 #[.val (.int p0), .val (.int p1), .val (.int p2), .val (.int p3), .val (.int p4), .val (.int p5), .val (.int x1), .val (.int x2), .val (.int x3), .val (.float x4), .val (.float x7), .val (.ref ob8), .val (.ref ob11), .val (.ref bq15), .val (.float x16), .unset, .unset, .unset] [(.int x3)])
  refine own_go (fun _ => XS.iload X15.here hx rfl (hb hby at_115) rfl) ?_
  show GG _ _ _ _ _ _ _ T15 (mkF m 117 #[.val (.int p0), .val (.int p1), .val (.int p2), .val (.int p3), .val (.int p4), .val (.int p5), .val (.int x1), .val (.int x2), .val (.int x3), .val (.float x4), .val (.float x7), .val (.ref ob8), .val (.ref ob11), .val (.ref bq15), .val (.float x16), .unset, .unset, .unset] [(.int x2), (.int x3)])
  refine own_join (g' := (mkF m 138 #[.val (.int p0), .val (.int p1), .val (.int p2), .val (.int p3), .val (.int p4), .val (.int p5), .val (.int x1), .val (.int x2), .val (.int x3), .val (.float x4), .val (.float x7), .val (.ref ob8), .val (.ref ob11), .val (.ref bq15), .val (.float x16), .unset, .unset, .unset] [(.float (if x3 = x2 then x7 else (if x3 = x1 then x4 else FP.fconst0)))])) (fun J117 => ?_) ?_
  · by_cases hc117 : x3 = x2
    · skip
      refine own_go (fun _ => XS.icmpNo X15.here hx rfl (hb hby at_117) rfl (teq hc117).2) ?_
      show GG _ _ _ _ _ _ _ T15 (mkF m 120 #[.val (.int p0), .val (.int p1), .val (.int p2), .val (.int p3), .val (.int p4), .val (.int p5), .val (.int x1), .val (.int x2), .val (.int x3), .val (.float x4), .val (.float x7), .val (.ref ob8), .val (.ref ob11), .val (.ref bq15), .val (.float x16), .unset, .unset, .unset] [])
      refine own_go (fun _ => XS.fload X15.here hx rfl (hb hby at_120) rfl) ?_
      show GG _ _ _ _ _ _ _ T15 (mkF m 122 #[.val (.int p0), .val (.int p1), .val (.int p2), .val (.int p3), .val (.int p4), .val (.int p5), .val (.int x1), .val (.int x2), .val (.int x3), .val (.float x4), .val (.float x7), .val (.ref ob8), .val (.ref ob11), .val (.ref bq15), .val (.float x16), .unset, .unset, .unset] [(.float x7)])
      refine own_go (fun _ => XS.goto X15.here hx rfl (pc0 := 122) (pc' := 138) rfl (hb hby at_122) (by decide) (by decide)) ?_
      show GG _ _ _ _ _ _ _ T15 (mkF m 138 #[.val (.int p0), .val (.int p1), .val (.int p2), .val (.int p3), .val (.int p4), .val (.int p5), .val (.int x1), .val (.int x2), .val (.int x3), .val (.float x4), .val (.float x7), .val (.ref ob8), .val (.ref ob11), .val (.ref bq15), .val (.float x16), .unset, .unset, .unset] [(.float x7)])
      simp only [if_pos hc117] at J117
      exact J117
    · skip
      refine own_go (fun _ => XS.icmpYes X15.here hx rfl (pc0 := 117) (pc' := 125) rfl (hb hby at_117) rfl (feq hc117).2 (by decide) (by decide)) ?_
      show GG _ _ _ _ _ _ _ T15 (mkF m 125 #[.val (.int p0), .val (.int p1), .val (.int p2), .val (.int p3), .val (.int p4), .val (.int p5), .val (.int x1), .val (.int x2), .val (.int x3), .val (.float x4), .val (.float x7), .val (.ref ob8), .val (.ref ob11), .val (.ref bq15), .val (.float x16), .unset, .unset, .unset] [])
      refine own_go (fun _ => XS.iload X15.here hx rfl (hb hby at_125) rfl) ?_
      show GG _ _ _ _ _ _ _ T15 (mkF m 127 #[.val (.int p0), .val (.int p1), .val (.int p2), .val (.int p3), .val (.int p4), .val (.int p5), .val (.int x1), .val (.int x2), .val (.int x3), .val (.float x4), .val (.float x7), .val (.ref ob8), .val (.ref ob11), .val (.ref bq15), .val (.float x16), .unset, .unset, .unset] [(.int x3)])
      refine own_go (fun _ => XS.iload X15.here hx rfl (hb hby at_127) rfl) ?_
      show GG _ _ _ _ _ _ _ T15 (mkF m 129 #[.val (.int p0), .val (.int p1), .val (.int p2), .val (.int p3), .val (.int p4), .val (.int p5), .val (.int x1), .val (.int x2), .val (.int x3), .val (.float x4), .val (.float x7), .val (.ref ob8), .val (.ref ob11), .val (.ref bq15), .val (.float x16), .unset, .unset, .unset] [(.int x1), (.int x3)])
      refine own_join (g' := (mkF m 138 #[.val (.int p0), .val (.int p1), .val (.int p2), .val (.int p3), .val (.int p4), .val (.int p5), .val (.int x1), .val (.int x2), .val (.int x3), .val (.float x4), .val (.float x7), .val (.ref ob8), .val (.ref ob11), .val (.ref bq15), .val (.float x16), .unset, .unset, .unset] [(.float (if x3 = x1 then x4 else FP.fconst0))])) (fun J129 => ?_) ?_
      · by_cases hc129 : x3 = x1
        · skip
          refine own_go (fun _ => XS.icmpNo X15.here hx rfl (hb hby at_129) rfl (teq hc129).2) ?_
          show GG _ _ _ _ _ _ _ T15 (mkF m 132 #[.val (.int p0), .val (.int p1), .val (.int p2), .val (.int p3), .val (.int p4), .val (.int p5), .val (.int x1), .val (.int x2), .val (.int x3), .val (.float x4), .val (.float x7), .val (.ref ob8), .val (.ref ob11), .val (.ref bq15), .val (.float x16), .unset, .unset, .unset] [])
          refine own_go (fun _ => XS.fload X15.here hx rfl (hb hby at_132) rfl) ?_
          show GG _ _ _ _ _ _ _ T15 (mkF m 134 #[.val (.int p0), .val (.int p1), .val (.int p2), .val (.int p3), .val (.int p4), .val (.int p5), .val (.int x1), .val (.int x2), .val (.int x3), .val (.float x4), .val (.float x7), .val (.ref ob8), .val (.ref ob11), .val (.ref bq15), .val (.float x16), .unset, .unset, .unset] [(.float x4)])
          refine own_go (fun _ => XS.goto X15.here hx rfl (pc0 := 134) (pc' := 138) rfl (hb hby at_134) (by decide) (by decide)) ?_
          show GG _ _ _ _ _ _ _ T15 (mkF m 138 #[.val (.int p0), .val (.int p1), .val (.int p2), .val (.int p3), .val (.int p4), .val (.int p5), .val (.int x1), .val (.int x2), .val (.int x3), .val (.float x4), .val (.float x7), .val (.ref ob8), .val (.ref ob11), .val (.ref bq15), .val (.float x16), .unset, .unset, .unset] [(.float x4)])
          simp only [if_pos hc129] at J129
          exact J129
        · skip
          refine own_go (fun _ => XS.icmpYes X15.here hx rfl (pc0 := 129) (pc' := 137) rfl (hb hby at_129) rfl (feq hc129).2 (by decide) (by decide)) ?_
          show GG _ _ _ _ _ _ _ T15 (mkF m 137 #[.val (.int p0), .val (.int p1), .val (.int p2), .val (.int p3), .val (.int p4), .val (.int p5), .val (.int x1), .val (.int x2), .val (.int x3), .val (.float x4), .val (.float x7), .val (.ref ob8), .val (.ref ob11), .val (.ref bq15), .val (.float x16), .unset, .unset, .unset] [])
          refine own_go (fun _ => XS.fconst0 X15.here hx rfl (hb hby at_137) rfl) ?_
          show GG _ _ _ _ _ _ _ T15 (mkF m 138 #[.val (.int p0), .val (.int p1), .val (.int p2), .val (.int p3), .val (.int p4), .val (.int p5), .val (.int x1), .val (.int x2), .val (.int x3), .val (.float x4), .val (.float x7), .val (.ref ob8), .val (.ref ob11), .val (.ref bq15), .val (.float x16), .unset, .unset, .unset] [(.float FP.fconst0)])
          simp only [if_neg hc129] at J129
          exact J129
      show GG _ _ _ _ _ _ _ T15 (mkF m 138 #[.val (.int p0), .val (.int p1), .val (.int p2), .val (.int p3), .val (.int p4), .val (.int p5), .val (.int x1), .val (.int x2), .val (.int x3), .val (.float x4), .val (.float x7), .val (.ref ob8), .val (.ref ob11), .val (.ref bq15), .val (.float x16), .unset, .unset, .unset] [(.float (if x3 = x1 then x4 else FP.fconst0))])
      simp only [if_neg hc117] at J117
      exact J117
  show GG _ _ _ _ _ _ _ T15 (mkF m 138 #[.val (.int p0), .val (.int p1), .val (.int p2), .val (.int p3), .val (.int p4), .val (.int p5), .val (.int x1), .val (.int x2), .val (.int x3), .val (.float x4), .val (.float x7), .val (.ref ob8), .val (.ref ob11), .val (.ref bq15), .val (.float x16), .unset, .unset, .unset] [(.float (if x3 = x2 then x7 else (if x3 = x1 then x4 else FP.fconst0)))])
  generalize hx17 : (if x3 = x2 then x7 else (if x3 = x1 then x4 else FP.fconst0)) = x17
  refine own_go (fun _ => XS.fstore X15.here hx rfl (hb hby at_138) rfl (l' := #[.val (.int p0), .val (.int p1), .val (.int p2), .val (.int p3), .val (.int p4), .val (.int p5), .val (.int x1), .val (.int x2), .val (.int x3), .val (.float x4), .val (.float x7), .val (.ref ob8), .val (.ref ob11), .val (.ref bq15), .val (.float x16), .val (.float x17), .unset, .unset]) rfl) ?_
  show GG _ _ _ _ _ _ _ T15 (mkF m 140 #[.val (.int p0), .val (.int p1), .val (.int p2), .val (.int p3), .val (.int p4), .val (.int p5), .val (.int x1), .val (.int x2), .val (.int x3), .val (.float x4), .val (.float x7), .val (.ref ob8), .val (.ref ob11), .val (.ref bq15), .val (.float x16), .val (.float x17), .unset, .unset] [])
  have hnI : Jvm.Free.Fl.NoNaN32 x16 := by rw [← hx16]; split <;> first | exact hFb.noNaN | exact hFa.noNaN
  have hnK : Jvm.Free.Fl.NoNaN32 x17 := by have q := (own_Gf hFa hFb _ (List.mem_of_getElem? (own_Gk bx1 bx2 bx3))).noNaN; rw [hx17] at q; exact q
  refine own_go (fun _ => XS.aload X15.here hx rfl (hb hby at_140) rfl rfl) ?_
  show GG _ _ _ _ _ _ _ T15 (mkF m 142 #[.val (.int p0), .val (.int p1), .val (.int p2), .val (.int p3), .val (.int p4), .val (.int p5), .val (.int x1), .val (.int x2), .val (.int x3), .val (.float x4), .val (.float x7), .val (.ref ob8), .val (.ref ob11), .val (.ref bq15), .val (.float x16), .val (.float x17), .unset, .unset] [(.ref bq15)])
  refine own_go (fun _ => XS.iload X15.here hx rfl (hb hby at_142) rfl) ?_
  show GG _ _ _ _ _ _ _ T15 (mkF m 144 #[.val (.int p0), .val (.int p1), .val (.int p2), .val (.int p3), .val (.int p4), .val (.int p5), .val (.int x1), .val (.int x2), .val (.int x3), .val (.float x4), .val (.float x7), .val (.ref ob8), .val (.ref ob11), .val (.ref bq15), .val (.float x16), .val (.float x17), .unset, .unset] [(.int x1), (.ref bq15)])
  refine own_go (fun _ => own_faload X15 hx hZ rfl Vq15 (j := x1) (v := (.float x16)) (own_nn bx1.1) (by rw [List.getElem?_map, own_Gi bx1 bx2, hx16]; rfl) (g := (mkF m 144 #[.val (.int p0), .val (.int p1), .val (.int p2), .val (.int p3), .val (.int p4), .val (.int p5), .val (.int x1), .val (.int x2), .val (.int x3), .val (.float x4), .val (.float x7), .val (.ref ob8), .val (.ref ob11), .val (.ref bq15), .val (.float x16), .val (.float x17), .unset, .unset] [(.int x1), (.ref bq15)])) rfl rfl (hb hby at_144) _) ?_
  show GG _ _ _ _ _ _ _ T15 (mkF m 145 #[.val (.int p0), .val (.int p1), .val (.int p2), .val (.int p3), .val (.int p4), .val (.int p5), .val (.int x1), .val (.int x2), .val (.int x3), .val (.float x4), .val (.float x7), .val (.ref ob8), .val (.ref ob11), .val (.ref bq15), .val (.float x16), .val (.float x17), .unset, .unset] [(.float x16)])
  refine own_go (fun _ => XS.fload X15.here hx rfl (hb hby at_145) rfl) ?_
  show GG _ _ _ _ _ _ _ T15 (mkF m 147 #[.val (.int p0), .val (.int p1), .val (.int p2), .val (.int p3), .val (.int p4), .val (.int p5), .val (.int x1), .val (.int x2), .val (.int x3), .val (.float x4), .val (.float x7), .val (.ref ob8), .val (.ref ob11), .val (.ref bq15), .val (.float x16), .val (.float x17), .unset, .unset] [(.float x16), (.float x16)])
  refine own_go (fun _ => XS.fcmpS X15.here hx rfl (hb hby at_147) (v := (0 : Int32)) rfl (fcmpV_self hnI _)) ?_
  show GG _ _ _ _ _ _ _ T15 (mkF m 148 #[.val (.int p0), .val (.int p1), .val (.int p2), .val (.int p3), .val (.int p4), .val (.int p5), .val (.int x1), .val (.int x2), .val (.int x3), .val (.float x4), .val (.float x7), .val (.ref ob8), .val (.ref ob11), .val (.ref bq15), .val (.float x16), .val (.float x17), .unset, .unset] [(.int (0 : Int32))])
  have hc148 : (0 : Int32) = (0 : Int32) := by decide
  refine own_go (fun _ => XS.ifNo X15.here hx rfl (hb hby at_148) rfl ((if0 _ _).trans (teq hc148).2)) ?_
  show GG _ _ _ _ _ _ _ T15 (mkF m 151 #[.val (.int p0), .val (.int p1), .val (.int p2), .val (.int p3), .val (.int p4), .val (.int p5), .val (.int x1), .val (.int x2), .val (.int x3), .val (.float x4), .val (.float x7), .val (.ref ob8), .val (.ref ob11), .val (.ref bq15), .val (.float x16), .val (.float x17), .unset, .unset] [])
  refine own_go (fun _ => XS.aload X15.here hx rfl (hb hby at_151) rfl rfl) ?_
  show GG _ _ _ _ _ _ _ T15 (mkF m 153 #[.val (.int p0), .val (.int p1), .val (.int p2), .val (.int p3), .val (.int p4), .val (.int p5), .val (.int x1), .val (.int x2), .val (.int x3), .val (.float x4), .val (.float x7), .val (.ref ob8), .val (.ref ob11), .val (.ref bq15), .val (.float x16), .val (.float x17), .unset, .unset] [(.ref bq15)])
  refine own_go (fun _ => XS.iload X15.here hx rfl (hb hby at_153) rfl) ?_
  show GG _ _ _ _ _ _ _ T15 (mkF m 155 #[.val (.int p0), .val (.int p1), .val (.int p2), .val (.int p3), .val (.int p4), .val (.int p5), .val (.int x1), .val (.int x2), .val (.int x3), .val (.float x4), .val (.float x7), .val (.ref ob8), .val (.ref ob11), .val (.ref bq15), .val (.float x16), .val (.float x17), .unset, .unset] [(.int x2), (.ref bq15)])
  refine own_go (fun _ => own_faload X15 hx hZ rfl Vq15 (j := x2) (v := (.float x7)) (own_nn bx2.1) (by rw [List.getElem?_map, own_Gj bx2.1 bx2.2]; rfl) (g := (mkF m 155 #[.val (.int p0), .val (.int p1), .val (.int p2), .val (.int p3), .val (.int p4), .val (.int p5), .val (.int x1), .val (.int x2), .val (.int x3), .val (.float x4), .val (.float x7), .val (.ref ob8), .val (.ref ob11), .val (.ref bq15), .val (.float x16), .val (.float x17), .unset, .unset] [(.int x2), (.ref bq15)])) rfl rfl (hb hby at_155) _) ?_
  show GG _ _ _ _ _ _ _ T15 (mkF m 156 #[.val (.int p0), .val (.int p1), .val (.int p2), .val (.int p3), .val (.int p4), .val (.int p5), .val (.int x1), .val (.int x2), .val (.int x3), .val (.float x4), .val (.float x7), .val (.ref ob8), .val (.ref ob11), .val (.ref bq15), .val (.float x16), .val (.float x17), .unset, .unset] [(.float x7)])
  refine own_go (fun _ => XS.fload X15.here hx rfl (hb hby at_156) rfl) ?_
  show GG _ _ _ _ _ _ _ T15 (mkF m 158 #[.val (.int p0), .val (.int p1), .val (.int p2), .val (.int p3), .val (.int p4), .val (.int p5), .val (.int x1), .val (.int x2), .val (.int x3), .val (.float x4), .val (.float x7), .val (.ref ob8), .val (.ref ob11), .val (.ref bq15), .val (.float x16), .val (.float x17), .unset, .unset] [(.float x7), (.float x7)])
  refine own_go (fun _ => XS.fcmpS X15.here hx rfl (hb hby at_158) (v := (0 : Int32)) rfl (fcmpV_self hFb.noNaN _)) ?_
  show GG _ _ _ _ _ _ _ T15 (mkF m 159 #[.val (.int p0), .val (.int p1), .val (.int p2), .val (.int p3), .val (.int p4), .val (.int p5), .val (.int x1), .val (.int x2), .val (.int x3), .val (.float x4), .val (.float x7), .val (.ref ob8), .val (.ref ob11), .val (.ref bq15), .val (.float x16), .val (.float x17), .unset, .unset] [(.int (0 : Int32))])
  have hc159 : (0 : Int32) = (0 : Int32) := by decide
  refine own_go (fun _ => XS.ifNo X15.here hx rfl (hb hby at_159) rfl ((if0 _ _).trans (teq hc159).2)) ?_
  show GG _ _ _ _ _ _ _ T15 (mkF m 162 #[.val (.int p0), .val (.int p1), .val (.int p2), .val (.int p3), .val (.int p4), .val (.int p5), .val (.int x1), .val (.int x2), .val (.int x3), .val (.float x4), .val (.float x7), .val (.ref ob8), .val (.ref ob11), .val (.ref bq15), .val (.float x16), .val (.float x17), .unset, .unset] [])
  refine own_go (fun _ => XS.aload X15.here hx rfl (hb hby at_162) rfl rfl) ?_
  show GG _ _ _ _ _ _ _ T15 (mkF m 164 #[.val (.int p0), .val (.int p1), .val (.int p2), .val (.int p3), .val (.int p4), .val (.int p5), .val (.int x1), .val (.int x2), .val (.int x3), .val (.float x4), .val (.float x7), .val (.ref ob8), .val (.ref ob11), .val (.ref bq15), .val (.float x16), .val (.float x17), .unset, .unset] [(.ref bq15)])
  refine own_go (fun _ => XS.iload X15.here hx rfl (hb hby at_164) rfl) ?_
  show GG _ _ _ _ _ _ _ T15 (mkF m 166 #[.val (.int p0), .val (.int p1), .val (.int p2), .val (.int p3), .val (.int p4), .val (.int p5), .val (.int x1), .val (.int x2), .val (.int x3), .val (.float x4), .val (.float x7), .val (.ref ob8), .val (.ref ob11), .val (.ref bq15), .val (.float x16), .val (.float x17), .unset, .unset] [(.int x3), (.ref bq15)])
  refine own_go (fun _ => own_faload X15 hx hZ rfl Vq15 (j := x3) (v := (.float x17)) (own_nn bx3.1) (by rw [List.getElem?_map, own_Gk bx1 bx2 bx3, hx17]; rfl) (g := (mkF m 166 #[.val (.int p0), .val (.int p1), .val (.int p2), .val (.int p3), .val (.int p4), .val (.int p5), .val (.int x1), .val (.int x2), .val (.int x3), .val (.float x4), .val (.float x7), .val (.ref ob8), .val (.ref ob11), .val (.ref bq15), .val (.float x16), .val (.float x17), .unset, .unset] [(.int x3), (.ref bq15)])) rfl rfl (hb hby at_166) _) ?_
  show GG _ _ _ _ _ _ _ T15 (mkF m 167 #[.val (.int p0), .val (.int p1), .val (.int p2), .val (.int p3), .val (.int p4), .val (.int p5), .val (.int x1), .val (.int x2), .val (.int x3), .val (.float x4), .val (.float x7), .val (.ref ob8), .val (.ref ob11), .val (.ref bq15), .val (.float x16), .val (.float x17), .unset, .unset] [(.float x17)])
  refine own_go (fun _ => XS.fload X15.here hx rfl (hb hby at_167) rfl) ?_
  show GG _ _ _ _ _ _ _ T15 (mkF m 169 #[.val (.int p0), .val (.int p1), .val (.int p2), .val (.int p3), .val (.int p4), .val (.int p5), .val (.int x1), .val (.int x2), .val (.int x3), .val (.float x4), .val (.float x7), .val (.ref ob8), .val (.ref ob11), .val (.ref bq15), .val (.float x16), .val (.float x17), .unset, .unset] [(.float x17), (.float x17)])
  refine own_go (fun _ => XS.fcmpS X15.here hx rfl (hb hby at_169) (v := (0 : Int32)) rfl (fcmpV_self hnK _)) ?_
  show GG _ _ _ _ _ _ _ T15 (mkF m 170 #[.val (.int p0), .val (.int p1), .val (.int p2), .val (.int p3), .val (.int p4), .val (.int p5), .val (.int x1), .val (.int x2), .val (.int x3), .val (.float x4), .val (.float x7), .val (.ref ob8), .val (.ref ob11), .val (.ref bq15), .val (.float x16), .val (.float x17), .unset, .unset] [(.int (0 : Int32))])
  have hc170 : (0 : Int32) = (0 : Int32) := by decide
  refine own_go (fun _ => XS.ifNo X15.here hx rfl (hb hby at_170) rfl ((if0 _ _).trans (teq hc170).2)) ?_
  show GG _ _ _ _ _ _ _ T15 (mkF m 173 #[.val (.int p0), .val (.int p1), .val (.int p2), .val (.int p3), .val (.int p4), .val (.int p5), .val (.int x1), .val (.int x2), .val (.int x3), .val (.float x4), .val (.float x7), .val (.ref ob8), .val (.ref ob11), .val (.ref bq15), .val (.float x16), .val (.float x17), .unset, .unset] [])
  refine own_go (fun _ => XS.iconst X15.here hx rfl (hb hby at_173)) ?_
  show GG _ _ _ _ _ _ _ T15 (mkF m 174 #[.val (.int p0), .val (.int p1), .val (.int p2), .val (.int p3), .val (.int p4), .val (.int p5), .val (.int x1), .val (.int x2), .val (.int x3), .val (.float x4), .val (.float x7), .val (.ref ob8), .val (.ref ob11), .val (.ref bq15), .val (.float x16), .val (.float x17), .unset, .unset] [(.int (1 : Int32))])
  refine own_go (fun _ => XS.goto X15.here hx rfl (pc0 := 174) (pc' := 178) rfl (hb hby at_174) (by decide) (by decide)) ?_
  show GG _ _ _ _ _ _ _ T15 (mkF m 178 #[.val (.int p0), .val (.int p1), .val (.int p2), .val (.int p3), .val (.int p4), .val (.int p5), .val (.int x1), .val (.int x2), .val (.int x3), .val (.float x4), .val (.float x7), .val (.ref ob8), .val (.ref ob11), .val (.ref bq15), .val (.float x16), .val (.float x17), .unset, .unset] [(.int (1 : Int32))])
  refine own_go (fun _ => XS.istore X15.here hx rfl (hb hby at_178) rfl (l' := #[.val (.int p0), .val (.int p1), .val (.int p2), .val (.int p3), .val (.int p4), .val (.int p5), .val (.int x1), .val (.int x2), .val (.int x3), .val (.float x4), .val (.float x7), .val (.ref ob8), .val (.ref ob11), .val (.ref bq15), .val (.float x16), .val (.float x17), .val (.int (1 : Int32)), .unset]) rfl) ?_
  show GG _ _ _ _ _ _ _ T15 (mkF m 180 #[.val (.int p0), .val (.int p1), .val (.int p2), .val (.int p3), .val (.int p4), .val (.int p5), .val (.int x1), .val (.int x2), .val (.int x3), .val (.float x4), .val (.float x7), .val (.ref ob8), .val (.ref ob11), .val (.ref bq15), .val (.float x16), .val (.float x17), .val (.int (1 : Int32)), .unset] [])
  refine own_go (fun _ => XS.aload X15.here hx rfl (hb hby at_180) rfl rfl) ?_
  show GG _ _ _ _ _ _ _ T15 (mkF m 182 #[.val (.int p0), .val (.int p1), .val (.int p2), .val (.int p3), .val (.int p4), .val (.int p5), .val (.int x1), .val (.int x2), .val (.int x3), .val (.float x4), .val (.float x7), .val (.ref ob8), .val (.ref ob11), .val (.ref bq15), .val (.float x16), .val (.float x17), .val (.int (1 : Int32)), .unset] [(.ref bq15)])
  refine own_go (fun _ => XS.iload X15.here hx rfl (hb hby at_182) rfl) ?_
  show GG _ _ _ _ _ _ _ T15 (mkF m 184 #[.val (.int p0), .val (.int p1), .val (.int p2), .val (.int p3), .val (.int p4), .val (.int p5), .val (.int x1), .val (.int x2), .val (.int x3), .val (.float x4), .val (.float x7), .val (.ref ob8), .val (.ref ob11), .val (.ref bq15), .val (.float x16), .val (.float x17), .val (.int (1 : Int32)), .unset] [(.int x3), (.ref bq15)])
  refine own_go (fun _ => XS.fload X15.here hx rfl (hb hby at_184) rfl) ?_
  show GG _ _ _ _ _ _ _ T15 (mkF m 186 #[.val (.int p0), .val (.int p1), .val (.int p2), .val (.int p3), .val (.int p4), .val (.int p5), .val (.int x1), .val (.int x2), .val (.int x3), .val (.float x4), .val (.float x7), .val (.ref ob8), .val (.ref ob11), .val (.ref bq15), .val (.float x16), .val (.float x17), .val (.int (1 : Int32)), .unset] [(.float x17), (.int x3), (.ref bq15)])
  refine own_go (fun _ => XS.fconst0 X15.here hx rfl (hb hby at_186) rfl) ?_
  show GG _ _ _ _ _ _ _ T15 (mkF m 187 #[.val (.int p0), .val (.int p1), .val (.int p2), .val (.int p3), .val (.int p4), .val (.int p5), .val (.int x1), .val (.int x2), .val (.int x3), .val (.float x4), .val (.float x7), .val (.ref ob8), .val (.ref ob11), .val (.ref bq15), .val (.float x16), .val (.float x17), .val (.int (1 : Int32)), .unset] [(.float FP.fconst0), (.float x17), (.int x3), (.ref bq15)])
  refine own_go (fun _ => XS.fcmpS X15.here hx rfl (hb hby at_187) (v := (cmpValue (FP.fcmp x17 FP.fconst0) .l)) rfl rfl) ?_
  show GG _ _ _ _ _ _ _ T15 (mkF m 188 #[.val (.int p0), .val (.int p1), .val (.int p2), .val (.int p3), .val (.int p4), .val (.int p5), .val (.int x1), .val (.int x2), .val (.int x3), .val (.float x4), .val (.float x7), .val (.ref ob8), .val (.ref ob11), .val (.ref bq15), .val (.float x16), .val (.float x17), .val (.int (1 : Int32)), .unset] [(.int (cmpValue (FP.fcmp x17 FP.fconst0) .l)), (.int x3), (.ref bq15)])
  refine own_join (g' := (mkF m 196 #[.val (.int p0), .val (.int p1), .val (.int p2), .val (.int p3), .val (.int p4), .val (.int p5), .val (.int x1), .val (.int x2), .val (.int x3), .val (.float x4), .val (.float x7), .val (.ref ob8), .val (.ref ob11), .val (.ref bq15), .val (.float x16), .val (.float x17), .val (.int (1 : Int32)), .unset] [(.float (if (cmpValue (FP.fcmp x17 FP.fconst0) .l) = (0 : Int32) then FP.fconst1 else FP.fconst0)), (.int x3), (.ref bq15)])) (fun J188 => ?_) ?_
  · by_cases hc188 : (cmpValue (FP.fcmp x17 FP.fconst0) .l) = (0 : Int32)
    · skip
      refine own_go (fun _ => XS.ifNo X15.here hx rfl (hb hby at_188) rfl ((if0 _ _).trans (teq hc188).2)) ?_
      show GG _ _ _ _ _ _ _ T15 (mkF m 191 #[.val (.int p0), .val (.int p1), .val (.int p2), .val (.int p3), .val (.int p4), .val (.int p5), .val (.int x1), .val (.int x2), .val (.int x3), .val (.float x4), .val (.float x7), .val (.ref ob8), .val (.ref ob11), .val (.ref bq15), .val (.float x16), .val (.float x17), .val (.int (1 : Int32)), .unset] [(.int x3), (.ref bq15)])
      refine own_go (fun _ => XS.fconst1 X15.here hx rfl (hb hby at_191) rfl) ?_
      show GG _ _ _ _ _ _ _ T15 (mkF m 192 #[.val (.int p0), .val (.int p1), .val (.int p2), .val (.int p3), .val (.int p4), .val (.int p5), .val (.int x1), .val (.int x2), .val (.int x3), .val (.float x4), .val (.float x7), .val (.ref ob8), .val (.ref ob11), .val (.ref bq15), .val (.float x16), .val (.float x17), .val (.int (1 : Int32)), .unset] [(.float FP.fconst1), (.int x3), (.ref bq15)])
      refine own_go (fun _ => XS.goto X15.here hx rfl (pc0 := 192) (pc' := 196) rfl (hb hby at_192) (by decide) (by decide)) ?_
      show GG _ _ _ _ _ _ _ T15 (mkF m 196 #[.val (.int p0), .val (.int p1), .val (.int p2), .val (.int p3), .val (.int p4), .val (.int p5), .val (.int x1), .val (.int x2), .val (.int x3), .val (.float x4), .val (.float x7), .val (.ref ob8), .val (.ref ob11), .val (.ref bq15), .val (.float x16), .val (.float x17), .val (.int (1 : Int32)), .unset] [(.float FP.fconst1), (.int x3), (.ref bq15)])
      simp only [if_pos hc188] at J188
      exact J188
    · skip
      refine own_go (fun _ => XS.ifYes X15.here hx rfl (pc0 := 188) (pc' := 195) rfl (hb hby at_188) rfl ((if0 _ _).trans (feq hc188).2) (by decide) (by decide)) ?_
      show GG _ _ _ _ _ _ _ T15 (mkF m 195 #[.val (.int p0), .val (.int p1), .val (.int p2), .val (.int p3), .val (.int p4), .val (.int p5), .val (.int x1), .val (.int x2), .val (.int x3), .val (.float x4), .val (.float x7), .val (.ref ob8), .val (.ref ob11), .val (.ref bq15), .val (.float x16), .val (.float x17), .val (.int (1 : Int32)), .unset] [(.int x3), (.ref bq15)])
      refine own_go (fun _ => XS.fconst0 X15.here hx rfl (hb hby at_195) rfl) ?_
      show GG _ _ _ _ _ _ _ T15 (mkF m 196 #[.val (.int p0), .val (.int p1), .val (.int p2), .val (.int p3), .val (.int p4), .val (.int p5), .val (.int x1), .val (.int x2), .val (.int x3), .val (.float x4), .val (.float x7), .val (.ref ob8), .val (.ref ob11), .val (.ref bq15), .val (.float x16), .val (.float x17), .val (.int (1 : Int32)), .unset] [(.float FP.fconst0), (.int x3), (.ref bq15)])
      simp only [if_neg hc188] at J188
      exact J188
  show GG _ _ _ _ _ _ _ T15 (mkF m 196 #[.val (.int p0), .val (.int p1), .val (.int p2), .val (.int p3), .val (.int p4), .val (.int p5), .val (.int x1), .val (.int x2), .val (.int x3), .val (.float x4), .val (.float x7), .val (.ref ob8), .val (.ref ob11), .val (.ref bq15), .val (.float x16), .val (.float x17), .val (.int (1 : Int32)), .unset] [(.float (if (cmpValue (FP.fcmp x17 FP.fconst0) .l) = (0 : Int32) then FP.fconst1 else FP.fconst0)), (.int x3), (.ref bq15)])
  generalize hx18 : (if (cmpValue (FP.fcmp x17 FP.fconst0) .l) = (0 : Int32) then FP.fconst1 else FP.fconst0) = x18
  obtain ⟨T19, h19, X19, e19, W19, V19, st19⟩ := own_fastore X15 hx hZ rfl Vq15 (own_nn bx3.1) (by rw [List.length_map, own_Gl]; exact own_cl bx3.1 bx3.2) (g := (mkF m 196 #[.val (.int p0), .val (.int p1), .val (.int p2), .val (.int p3), .val (.int p4), .val (.int p5), .val (.int x1), .val (.int x2), .val (.int x3), .val (.float x4), .val (.float x7), .val (.ref ob8), .val (.ref ob11), .val (.ref bq15), .val (.float x16), .val (.float x17), .val (.int (1 : Int32)), .unset] [(.float x18), (.int x3), (.ref bq15)])) rfl rfl (hb hby at_196)
  have K0 := K0.wr W19 (Or.inr sz_bq15)
  have Eq14 := Eq14.wr W19
  have Fq14 := Fq14.other W19 (Or.inl ne_ob11_bq15)
  have Vq14 := Vq14.other W19 ne_dq14_bq15
  have Vq15 : Arx Z h19 bq15 .float (((own_G x1 x2 x4 x7).set x3.toNatClampNeg x18).map Value.float) := (by rw [List.map_set]; exact V19)
  have N19 := Fr.snoc X19 N15 g_bq15
  refine own_go (fun _ => st19 _) ?_
  show GG _ _ _ _ _ _ _ T19 (mkF m 197 #[.val (.int p0), .val (.int p1), .val (.int p2), .val (.int p3), .val (.int p4), .val (.int p5), .val (.int x1), .val (.int x2), .val (.int x3), .val (.float x4), .val (.float x7), .val (.ref ob8), .val (.ref ob11), .val (.ref bq15), .val (.float x16), .val (.float x17), .val (.int (1 : Int32)), .unset] [])
  refine own_go (fun _ => XS.aload X19.here hx rfl (hb hby at_197) rfl rfl) ?_
  show GG _ _ _ _ _ _ _ T19 (mkF m 199 #[.val (.int p0), .val (.int p1), .val (.int p2), .val (.int p3), .val (.int p4), .val (.int p5), .val (.int x1), .val (.int x2), .val (.int x3), .val (.float x4), .val (.float x7), .val (.ref ob8), .val (.ref ob11), .val (.ref bq15), .val (.float x16), .val (.float x17), .val (.int (1 : Int32)), .unset] [(.ref ob11)])
  refine own_callV X19 hx hZ (y := (⟨"com/example/hadamint/hadamint/Trellis", "table", "()[F"⟩ : MethodName)) (z := (⟨"com/example/hadamint/hadamint/Trellis", "table", "()[F"⟩ : MethodName)) 0 hown (hw _ (List.mem_of_getElem? (i := 50) rfl)) (hw _ (List.mem_of_getElem? (i := 51) rfl)) (notFace_of_selects (args := #[]) (mvT hZ (hw _ (List.mem_of_getElem? (i := 53) rfl)))) (hw _ (List.mem_of_getElem? (i := 53) rfl)) (hw _ (List.mem_of_getElem? (i := 52) rfl)) (hw _ (List.mem_of_getElem? (i := 3) rfl)) (hw _ (List.mem_of_getElem? (i := 54) rfl)) (by decide) (a := ob11) (argsL := []) (rest := []) (rm8 l Z a0 hw [] ob11 dq14 (own_G x1 x2 x4 x7) h19 n0 (Nat.le_trans Z0 K0.1) Fq14 Vq14 (own_Gl _ _ _ _) (own_Gf hFa hFb)) (by decide) (by decide) (by decide) (by decide) Eq14 (g := (mkF m 199 #[.val (.int p0), .val (.int p1), .val (.int p2), .val (.int p3), .val (.int p4), .val (.int p5), .val (.int x1), .val (.int x2), .val (.int x3), .val (.float x4), .val (.float x7), .val (.ref ob8), .val (.ref ob11), .val (.ref bq15), .val (.float x16), .val (.float x17), .val (.int (1 : Int32)), .unset] [(.ref ob11)])) rfl (by rw [hml]; rfl) (lenOf pd____F_242 rfl) rfl (by show 2 * 0 + _ ≤ _; exact Nat.le_of_eq rfl) (hb hby at_199) e19 ?_
  rintro v20 T20 L20 X20 ⟨bq20, rfl, N20q, szq20, Kq20, Vq20⟩
  have N20 := Fr.app N19 N20q
  have ne_ob11_bq20 : ob11 ≠ bq20 := Nat.ne_of_lt (Nat.lt_of_lt_of_le Fq14.lt szq20)
  have ne_dq14_bq20 : dq14 ≠ bq20 := Nat.ne_of_lt (Nat.lt_of_lt_of_le Vq14.lt szq20)
  have sz_bq20 : h0.size ≤ bq20 := Nat.le_trans K0.1 szq20
  have g_bq20 : n0 ≤ bq20 := Nat.le_trans Z0 sz_bq20
  have K0 := K0.trans Kq20 all0
  have Eq14 := Eq14.keep Kq20
  have Fq14 := Fq14.keep Kq20 nin0
  have Vq14 := Vq14.keep Kq20 nin0
  show GG _ _ _ _ _ _ _ T20 (mkF m 202 #[.val (.int p0), .val (.int p1), .val (.int p2), .val (.int p3), .val (.int p4), .val (.int p5), .val (.int x1), .val (.int x2), .val (.int x3), .val (.float x4), .val (.float x7), .val (.ref ob8), .val (.ref ob11), .val (.ref bq15), .val (.float x16), .val (.float x17), .val (.int (1 : Int32)), .unset] [(.ref bq20)])
  refine own_go (fun _ => XS.astore X20.here hx rfl (hb hby at_202) rfl rfl (l' := #[.val (.int p0), .val (.int p1), .val (.int p2), .val (.int p3), .val (.int p4), .val (.int p5), .val (.int x1), .val (.int x2), .val (.int x3), .val (.float x4), .val (.float x7), .val (.ref ob8), .val (.ref ob11), .val (.ref bq15), .val (.float x16), .val (.float x17), .val (.int (1 : Int32)), .val (.ref bq20)]) rfl) ?_
  show GG _ _ _ _ _ _ _ T20 (mkF m 204 #[.val (.int p0), .val (.int p1), .val (.int p2), .val (.int p3), .val (.int p4), .val (.int p5), .val (.int x1), .val (.int x2), .val (.int x3), .val (.float x4), .val (.float x7), .val (.ref ob8), .val (.ref ob11), .val (.ref bq15), .val (.float x16), .val (.float x17), .val (.int (1 : Int32)), .val (.ref bq20)] [])
  refine own_go (fun _ => XS.aload X20.here hx rfl (hb hby at_204) rfl rfl) ?_
  show GG _ _ _ _ _ _ _ T20 (mkF m 206 #[.val (.int p0), .val (.int p1), .val (.int p2), .val (.int p3), .val (.int p4), .val (.int p5), .val (.int x1), .val (.int x2), .val (.int x3), .val (.float x4), .val (.float x7), .val (.ref ob8), .val (.ref ob11), .val (.ref bq15), .val (.float x16), .val (.float x17), .val (.int (1 : Int32)), .val (.ref bq20)] [(.ref bq20)])
  refine own_go (fun _ => own_len X20 hx hZ rfl Vq20 (g := (mkF m 206 #[.val (.int p0), .val (.int p1), .val (.int p2), .val (.int p3), .val (.int p4), .val (.int p5), .val (.int x1), .val (.int x2), .val (.int x3), .val (.float x4), .val (.float x7), .val (.ref ob8), .val (.ref ob11), .val (.ref bq15), .val (.float x16), .val (.float x17), .val (.int (1 : Int32)), .val (.ref bq20)] [(.ref bq20)])) rfl rfl (hb hby at_206) _) ?_
  show GG _ _ _ _ _ _ _ T20 (mkF m 207 #[.val (.int p0), .val (.int p1), .val (.int p2), .val (.int p3), .val (.int p4), .val (.int p5), .val (.int x1), .val (.int x2), .val (.int x3), .val (.float x4), .val (.float x7), .val (.ref ob8), .val (.ref ob11), .val (.ref bq15), .val (.float x16), .val (.float x17), .val (.int (1 : Int32)), .val (.ref bq20)] [(.int (Int32.ofNat ((own_G x1 x2 x4 x7).map Value.float).length))])
  refine own_go (fun _ => XS.sipush X20.here hx rfl (hb hby at_207)) ?_
  show GG _ _ _ _ _ _ _ T20 (mkF m 210 #[.val (.int p0), .val (.int p1), .val (.int p2), .val (.int p3), .val (.int p4), .val (.int p5), .val (.int x1), .val (.int x2), .val (.int x3), .val (.float x4), .val (.float x7), .val (.ref ob8), .val (.ref ob11), .val (.ref bq15), .val (.float x16), .val (.float x17), .val (.int (1 : Int32)), .val (.ref bq20)] [(.int (4096 : Int32)), (.int (Int32.ofNat ((own_G x1 x2 x4 x7).map Value.float).length))])
  have hc210 : (Int32.ofNat ((own_G x1 x2 x4 x7).map Value.float).length) = (4096 : Int32) := by rw [List.length_map, own_Gl]; rfl
  refine own_go (fun _ => XS.icmpYes X20.here hx rfl (pc0 := 210) (pc' := 215) rfl (hb hby at_210) rfl (teq hc210).1 (by decide) (by decide)) ?_
  show GG _ _ _ _ _ _ _ T20 (mkF m 215 #[.val (.int p0), .val (.int p1), .val (.int p2), .val (.int p3), .val (.int p4), .val (.int p5), .val (.int x1), .val (.int x2), .val (.int x3), .val (.float x4), .val (.float x7), .val (.ref ob8), .val (.ref ob11), .val (.ref bq15), .val (.float x16), .val (.float x17), .val (.int (1 : Int32)), .val (.ref bq20)] [])
  refine own_go (fun _ => XS.iload X20.here hx rfl (hb hby at_215) rfl) ?_
  show GG _ _ _ _ _ _ _ T20 (mkF m 217 #[.val (.int p0), .val (.int p1), .val (.int p2), .val (.int p3), .val (.int p4), .val (.int p5), .val (.int x1), .val (.int x2), .val (.int x3), .val (.float x4), .val (.float x7), .val (.ref ob8), .val (.ref ob11), .val (.ref bq15), .val (.float x16), .val (.float x17), .val (.int (1 : Int32)), .val (.ref bq20)] [(.int (1 : Int32))])
  have hc217 : ¬ ((1 : Int32) = (0 : Int32)) := by decide
  refine own_go (fun _ => XS.ifNo X20.here hx rfl (hb hby at_217) rfl ((if0 _ _).trans (feq hc217).1)) ?_
  show GG _ _ _ _ _ _ _ T20 (mkF m 220 #[.val (.int p0), .val (.int p1), .val (.int p2), .val (.int p3), .val (.int p4), .val (.int p5), .val (.int x1), .val (.int x2), .val (.int x3), .val (.float x4), .val (.float x7), .val (.ref ob8), .val (.ref ob11), .val (.ref bq15), .val (.float x16), .val (.float x17), .val (.int (1 : Int32)), .val (.ref bq20)] [])
  refine own_go (fun _ => XS.aload X20.here hx rfl (hb hby at_220) rfl rfl) ?_
  show GG _ _ _ _ _ _ _ T20 (mkF m 222 #[.val (.int p0), .val (.int p1), .val (.int p2), .val (.int p3), .val (.int p4), .val (.int p5), .val (.int x1), .val (.int x2), .val (.int x3), .val (.float x4), .val (.float x7), .val (.ref ob8), .val (.ref ob11), .val (.ref bq15), .val (.float x16), .val (.float x17), .val (.int (1 : Int32)), .val (.ref bq20)] [(.ref bq20)])
  refine own_go (fun _ => XS.iload X20.here hx rfl (hb hby at_222) rfl) ?_
  show GG _ _ _ _ _ _ _ T20 (mkF m 224 #[.val (.int p0), .val (.int p1), .val (.int p2), .val (.int p3), .val (.int p4), .val (.int p5), .val (.int x1), .val (.int x2), .val (.int x3), .val (.float x4), .val (.float x7), .val (.ref ob8), .val (.ref ob11), .val (.ref bq15), .val (.float x16), .val (.float x17), .val (.int (1 : Int32)), .val (.ref bq20)] [(.int x3), (.ref bq20)])
  refine own_go (fun _ => own_faload X20 hx hZ rfl Vq20 (j := x3) (v := (.float x17)) (own_nn bx3.1) (by rw [List.getElem?_map, own_Gk bx1 bx2 bx3, hx17]; rfl) (g := (mkF m 224 #[.val (.int p0), .val (.int p1), .val (.int p2), .val (.int p3), .val (.int p4), .val (.int p5), .val (.int x1), .val (.int x2), .val (.int x3), .val (.float x4), .val (.float x7), .val (.ref ob8), .val (.ref ob11), .val (.ref bq15), .val (.float x16), .val (.float x17), .val (.int (1 : Int32)), .val (.ref bq20)] [(.int x3), (.ref bq20)])) rfl rfl (hb hby at_224) _) ?_
  show GG _ _ _ _ _ _ _ T20 (mkF m 225 #[.val (.int p0), .val (.int p1), .val (.int p2), .val (.int p3), .val (.int p4), .val (.int p5), .val (.int x1), .val (.int x2), .val (.int x3), .val (.float x4), .val (.float x7), .val (.ref ob8), .val (.ref ob11), .val (.ref bq15), .val (.float x16), .val (.float x17), .val (.int (1 : Int32)), .val (.ref bq20)] [(.float x17)])
  refine own_go (fun _ => XS.fload X20.here hx rfl (hb hby at_225) rfl) ?_
  show GG _ _ _ _ _ _ _ T20 (mkF m 227 #[.val (.int p0), .val (.int p1), .val (.int p2), .val (.int p3), .val (.int p4), .val (.int p5), .val (.int x1), .val (.int x2), .val (.int x3), .val (.float x4), .val (.float x7), .val (.ref ob8), .val (.ref ob11), .val (.ref bq15), .val (.float x16), .val (.float x17), .val (.int (1 : Int32)), .val (.ref bq20)] [(.float x17), (.float x17)])
  refine own_go (fun _ => XS.fcmpS X20.here hx rfl (hb hby at_227) (v := (0 : Int32)) rfl (fcmpV_self hnK _)) ?_
  show GG _ _ _ _ _ _ _ T20 (mkF m 228 #[.val (.int p0), .val (.int p1), .val (.int p2), .val (.int p3), .val (.int p4), .val (.int p5), .val (.int x1), .val (.int x2), .val (.int x3), .val (.float x4), .val (.float x7), .val (.ref ob8), .val (.ref ob11), .val (.ref bq15), .val (.float x16), .val (.float x17), .val (.int (1 : Int32)), .val (.ref bq20)] [(.int (0 : Int32))])
  have hc228 : (0 : Int32) = (0 : Int32) := by decide
  refine own_go (fun _ => XS.ifNo X20.here hx rfl (hb hby at_228) rfl ((if0 _ _).trans (teq hc228).2)) ?_
  show GG _ _ _ _ _ _ _ T20 (mkF m 231 #[.val (.int p0), .val (.int p1), .val (.int p2), .val (.int p3), .val (.int p4), .val (.int p5), .val (.int x1), .val (.int x2), .val (.int x3), .val (.float x4), .val (.float x7), .val (.ref ob8), .val (.ref ob11), .val (.ref bq15), .val (.float x16), .val (.float x17), .val (.int (1 : Int32)), .val (.ref bq20)] [])
  refine own_go (fun _ => XS.aload X20.here hx rfl (hb hby at_231) rfl rfl) ?_
  show GG _ _ _ _ _ _ _ T20 (mkF m 233 #[.val (.int p0), .val (.int p1), .val (.int p2), .val (.int p3), .val (.int p4), .val (.int p5), .val (.int x1), .val (.int x2), .val (.int x3), .val (.float x4), .val (.float x7), .val (.ref ob8), .val (.ref ob11), .val (.ref bq15), .val (.float x16), .val (.float x17), .val (.int (1 : Int32)), .val (.ref bq20)] [(.ref bq20)])
  refine own_go (fun _ => XS.iload X20.here hx rfl (hb hby at_233) rfl) ?_
  show GG _ _ _ _ _ _ _ T20 (mkF m 235 #[.val (.int p0), .val (.int p1), .val (.int p2), .val (.int p3), .val (.int p4), .val (.int p5), .val (.int x1), .val (.int x2), .val (.int x3), .val (.float x4), .val (.float x7), .val (.ref ob8), .val (.ref ob11), .val (.ref bq15), .val (.float x16), .val (.float x17), .val (.int (1 : Int32)), .val (.ref bq20)] [(.int x1), (.ref bq20)])
  refine own_go (fun _ => own_faload X20 hx hZ rfl Vq20 (j := x1) (v := (.float x16)) (own_nn bx1.1) (by rw [List.getElem?_map, own_Gi bx1 bx2, hx16]; rfl) (g := (mkF m 235 #[.val (.int p0), .val (.int p1), .val (.int p2), .val (.int p3), .val (.int p4), .val (.int p5), .val (.int x1), .val (.int x2), .val (.int x3), .val (.float x4), .val (.float x7), .val (.ref ob8), .val (.ref ob11), .val (.ref bq15), .val (.float x16), .val (.float x17), .val (.int (1 : Int32)), .val (.ref bq20)] [(.int x1), (.ref bq20)])) rfl rfl (hb hby at_235) _) ?_
  show GG _ _ _ _ _ _ _ T20 (mkF m 236 #[.val (.int p0), .val (.int p1), .val (.int p2), .val (.int p3), .val (.int p4), .val (.int p5), .val (.int x1), .val (.int x2), .val (.int x3), .val (.float x4), .val (.float x7), .val (.ref ob8), .val (.ref ob11), .val (.ref bq15), .val (.float x16), .val (.float x17), .val (.int (1 : Int32)), .val (.ref bq20)] [(.float x16)])
  refine own_go (fun _ => XS.fload X20.here hx rfl (hb hby at_236) rfl) ?_
  show GG _ _ _ _ _ _ _ T20 (mkF m 238 #[.val (.int p0), .val (.int p1), .val (.int p2), .val (.int p3), .val (.int p4), .val (.int p5), .val (.int x1), .val (.int x2), .val (.int x3), .val (.float x4), .val (.float x7), .val (.ref ob8), .val (.ref ob11), .val (.ref bq15), .val (.float x16), .val (.float x17), .val (.int (1 : Int32)), .val (.ref bq20)] [(.float x16), (.float x16)])
  refine own_go (fun _ => XS.fcmpS X20.here hx rfl (hb hby at_238) (v := (0 : Int32)) rfl (fcmpV_self hnI _)) ?_
  show GG _ _ _ _ _ _ _ T20 (mkF m 239 #[.val (.int p0), .val (.int p1), .val (.int p2), .val (.int p3), .val (.int p4), .val (.int p5), .val (.int x1), .val (.int x2), .val (.int x3), .val (.float x4), .val (.float x7), .val (.ref ob8), .val (.ref ob11), .val (.ref bq15), .val (.float x16), .val (.float x17), .val (.int (1 : Int32)), .val (.ref bq20)] [(.int (0 : Int32))])
  have hc239 : (0 : Int32) = (0 : Int32) := by decide
  refine own_go (fun _ => XS.ifNo X20.here hx rfl (hb hby at_239) rfl ((if0 _ _).trans (teq hc239).2)) ?_
  show GG _ _ _ _ _ _ _ T20 (mkF m 242 #[.val (.int p0), .val (.int p1), .val (.int p2), .val (.int p3), .val (.int p4), .val (.int p5), .val (.int x1), .val (.int x2), .val (.int x3), .val (.float x4), .val (.float x7), .val (.ref ob8), .val (.ref ob11), .val (.ref bq15), .val (.float x16), .val (.float x17), .val (.int (1 : Int32)), .val (.ref bq20)] [])
  refine own_go (fun _ => XS.aload X20.here hx rfl (hb hby at_242) rfl rfl) ?_
  show GG _ _ _ _ _ _ _ T20 (mkF m 244 #[.val (.int p0), .val (.int p1), .val (.int p2), .val (.int p3), .val (.int p4), .val (.int p5), .val (.int x1), .val (.int x2), .val (.int x3), .val (.float x4), .val (.float x7), .val (.ref ob8), .val (.ref ob11), .val (.ref bq15), .val (.float x16), .val (.float x17), .val (.int (1 : Int32)), .val (.ref bq20)] [(.ref bq20)])
  refine own_go (fun _ => XS.iload X20.here hx rfl (hb hby at_244) rfl) ?_
  show GG _ _ _ _ _ _ _ T20 (mkF m 246 #[.val (.int p0), .val (.int p1), .val (.int p2), .val (.int p3), .val (.int p4), .val (.int p5), .val (.int x1), .val (.int x2), .val (.int x3), .val (.float x4), .val (.float x7), .val (.ref ob8), .val (.ref ob11), .val (.ref bq15), .val (.float x16), .val (.float x17), .val (.int (1 : Int32)), .val (.ref bq20)] [(.int x2), (.ref bq20)])
  refine own_go (fun _ => own_faload X20 hx hZ rfl Vq20 (j := x2) (v := (.float x7)) (own_nn bx2.1) (by rw [List.getElem?_map, own_Gj bx2.1 bx2.2]; rfl) (g := (mkF m 246 #[.val (.int p0), .val (.int p1), .val (.int p2), .val (.int p3), .val (.int p4), .val (.int p5), .val (.int x1), .val (.int x2), .val (.int x3), .val (.float x4), .val (.float x7), .val (.ref ob8), .val (.ref ob11), .val (.ref bq15), .val (.float x16), .val (.float x17), .val (.int (1 : Int32)), .val (.ref bq20)] [(.int x2), (.ref bq20)])) rfl rfl (hb hby at_246) _) ?_
  show GG _ _ _ _ _ _ _ T20 (mkF m 247 #[.val (.int p0), .val (.int p1), .val (.int p2), .val (.int p3), .val (.int p4), .val (.int p5), .val (.int x1), .val (.int x2), .val (.int x3), .val (.float x4), .val (.float x7), .val (.ref ob8), .val (.ref ob11), .val (.ref bq15), .val (.float x16), .val (.float x17), .val (.int (1 : Int32)), .val (.ref bq20)] [(.float x7)])
  refine own_go (fun _ => XS.fload X20.here hx rfl (hb hby at_247) rfl) ?_
  show GG _ _ _ _ _ _ _ T20 (mkF m 249 #[.val (.int p0), .val (.int p1), .val (.int p2), .val (.int p3), .val (.int p4), .val (.int p5), .val (.int x1), .val (.int x2), .val (.int x3), .val (.float x4), .val (.float x7), .val (.ref ob8), .val (.ref ob11), .val (.ref bq15), .val (.float x16), .val (.float x17), .val (.int (1 : Int32)), .val (.ref bq20)] [(.float x7), (.float x7)])
  refine own_go (fun _ => XS.fcmpS X20.here hx rfl (hb hby at_249) (v := (0 : Int32)) rfl (fcmpV_self hFb.noNaN _)) ?_
  show GG _ _ _ _ _ _ _ T20 (mkF m 250 #[.val (.int p0), .val (.int p1), .val (.int p2), .val (.int p3), .val (.int p4), .val (.int p5), .val (.int x1), .val (.int x2), .val (.int x3), .val (.float x4), .val (.float x7), .val (.ref ob8), .val (.ref ob11), .val (.ref bq15), .val (.float x16), .val (.float x17), .val (.int (1 : Int32)), .val (.ref bq20)] [(.int (0 : Int32))])
  have hc250 : (0 : Int32) = (0 : Int32) := by decide
  refine own_go (fun _ => XS.ifNo X20.here hx rfl (hb hby at_250) rfl ((if0 _ _).trans (teq hc250).2)) ?_
  show GG _ _ _ _ _ _ _ T20 (mkF m 253 #[.val (.int p0), .val (.int p1), .val (.int p2), .val (.int p3), .val (.int p4), .val (.int p5), .val (.int x1), .val (.int x2), .val (.int x3), .val (.float x4), .val (.float x7), .val (.ref ob8), .val (.ref ob11), .val (.ref bq15), .val (.float x16), .val (.float x17), .val (.int (1 : Int32)), .val (.ref bq20)] [])
  refine own_go (fun _ => XS.iconst X20.here hx rfl (hb hby at_253)) ?_
  show GG _ _ _ _ _ _ _ T20 (mkF m 254 #[.val (.int p0), .val (.int p1), .val (.int p2), .val (.int p3), .val (.int p4), .val (.int p5), .val (.int x1), .val (.int x2), .val (.int x3), .val (.float x4), .val (.float x7), .val (.ref ob8), .val (.ref ob11), .val (.ref bq15), .val (.float x16), .val (.float x17), .val (.int (1 : Int32)), .val (.ref bq20)] [(.int (1 : Int32))])
  refine own_go (fun _ => XS.goto X20.here hx rfl (pc0 := 254) (pc' := 258) rfl (hb hby at_254) (by decide) (by decide)) ?_
  show GG _ _ _ _ _ _ _ T20 (mkF m 258 #[.val (.int p0), .val (.int p1), .val (.int p2), .val (.int p3), .val (.int p4), .val (.int p5), .val (.int x1), .val (.int x2), .val (.int x3), .val (.float x4), .val (.float x7), .val (.ref ob8), .val (.ref ob11), .val (.ref bq15), .val (.float x16), .val (.float x17), .val (.int (1 : Int32)), .val (.ref bq20)] [(.int (1 : Int32))])
  refine own_ret X20 hx hlk (t := .boolean) (w := (.int (1 : Int32))) Bd.returns rfl (Or.inl ⟨rfl, by simp, _, rfl⟩) (hb hby at_258) (by decide) (by decide) ?_
  show Q0 Z p0 p1 p2 p3 p4 p5 h0 n0 (some (.int (1 : Int32))) T20.heap _
  exact ⟨rfl, N20⟩
set_option maxRecDepth 65536 in
set_option maxHeartbeats 40000000 in
theorem comes_1 {Post : Tables → Env → Array Value → State → Outcome → State → Prop} (hpost : ∀ tb e args s v u, (limb_1_1.after args s (.returned v) u = true ∧ limb_1_2.after args s (.returned v) u = true ∧ True) → FrameEnd s (.returned v) u (Jvm.fieldLocs frame_1_writes args s ++ Jvm.arrayLocs frame_1_arrays args s ++ Jvm.staticLocs frame_1_statics s) 24 32896 → Post tb e args s (.returned v) u) :
    ArmFor flags0 classFile x code maxLocals ret World_1 tables_1 room_1 Calls_1 rest_1 Pre_1 Post := by
  intro l hfl _ _ p e ha hc hk s m args below hf hA hF happ hP
  obtain ⟨hcalls, hrest, hpre⟩ := hP
  obtain ⟨-, -, -, hnamed, -, -, -, hat⟩ := (Spec.applies_iff hf).mp happ
  obtain ⟨hg, hn⟩ := and_e (Cond.before_iff.mp (show (Jvm.Cond.and given_1 narrow_1).before args s = true from hpre))
  obtain ⟨g1, g2⟩ := and_e hg
  obtain ⟨g3, g4⟩ := and_e g2
  obtain ⟨g5, g6⟩ := and_e g4
  obtain ⟨g7, g8⟩ := and_e g6
  obtain ⟨g9, g10⟩ := and_e g8
  obtain ⟨g11, g12⟩ := and_e g10
  obtain ⟨w0, w1, w2, w3, w4, w5, rfl⟩ : ∃ w0 w1 w2 w3 w4 w5 : Value, args = #[w0, w1, w2, w3, w4, w5] := by
    have hs : args.size = 6 := by simpa [Cond.value, given_1] using g1
    obtain ⟨L⟩ := args
    match L, hs with
    | [w0, w1, w2, w3, w4, w5], _ => exact ⟨w0, w1, w2, w3, w4, w5, rfl⟩
  have hw := fun d (hd : d ∈ tables_1) => atoms_spec (ws := Jvm.Cond.code x code maxLocals ret :: tables_1) hat d (List.mem_cons_of_mem _ hd)
  have hfit : Fit s := fun {y c} hc i hi => by
    obtain ⟨ha, rfl⟩ := Array.getElem?_eq_some_iff.mp hc
    have q := List.all_eq_true.mp ((Array.all_eq_true_iff_forall_mem.mp hF) _ (Array.getElem_mem ha)) i (List.mem_range.mpr hi)
    simpa [Array.getElem?_eq_getElem hi] using q
  obtain ⟨i0, ei0⟩ := is_v g3
  obtain rfl : w0 = (.int i0) := Option.some.inj ei0
  obtain ⟨i1, ei1⟩ := is_v g5
  obtain rfl : w1 = (.int i1) := Option.some.inj ei1
  obtain ⟨i2, ei2⟩ := is_v g7
  obtain rfl : w2 = (.int i2) := Option.some.inj ei2
  obtain ⟨i3, ei3⟩ := is_v g9
  obtain rfl : w3 = (.int i3) := Option.some.inj ei3
  obtain ⟨i4, ei4⟩ := is_v g11
  obtain rfl : w4 = (.int i4) := Option.some.inj ei4
  obtain ⟨i5, ei5⟩ := is_v g12
  obtain rfl : w5 = (.int i5) := Option.some.inj ei5
  obtain ⟨n, o, h1, h2, h3, _, L, rfl, ⟨rfl, N⟩, hq⟩ := rm0 l s _ hw tables_1 i0 i1 i2 i3 i4 i5 s.heap s.heap.size (Nat.le_refl _)  p e ha hc hk s m _ below hf ((Spec.applies_iff_loose hf).mp happ).1 ⟨rfl, State.Warmed39.refl s, rfl⟩ trivial
  refine ⟨n, _, h1, h2, h3, hpost _ _ _ _ _ _ ⟨Cond.after_iff.mpr rfl, Cond.after_iff.mpr (eq_i res_at (Term.int_eval (1)) rfl), trivial⟩ ⟨hq.1, hq.2.1, (hq.2.2.sift fun y hy => Or.inr (N y hy)).mono (by decide) (by decide)⟩⟩
theorem main_1_1 : Claimed_1_1 := comes_1 fun _ _ _ _ _ _ h hF => ⟨h.1, hF⟩
theorem main_1_2 : Claimed_1_2 := comes_1 fun _ _ _ _ _ _ h hF => ⟨h.2.1, hF⟩
end Jvm.Pilot.@@N@@
namespace Jvm.Pilot.@@N@@
open Jvm Jvm.ClassFile Sem Op Lib Jvm.Free Jvm.Stand Jvm.Pilot.@@N@@.Jvm.D
/-! MADE BY PROGRAM (witnessworld.py) out of the Statement's table words and the real class files: 15 classes; the members and pool entries that the words name. The judged class is class 1, her method 1. -/
namespace start1
open Jvm.ClassFile
def u (s : String) : CpInfo := .utf8 (stringToUtf16 s)
/-- a pool by its gaps: so many unusable entries, then the entry; so many at the end -/
def gap : Nat → List CpInfo → List CpInfo
  | 0, r => r
  | n + 1, r => .unusable :: gap n r
def poolList (es : List (Nat × CpInfo)) (last : Nat) : List CpInfo := es.foldr (fun e r => gap e.1 (e.2 :: r)) (gap last [])
def pool (es : List (Nat × CpInfo)) (last : Nat) : Array CpInfo := ⟨poolList es last⟩
def fileOf (pool : Array CpInfo) (this : Nat) (attrs : Array Attribute := #[]) (ms : Array MethodInfo := #[]) (fl : Nat := 33) (sup : Nat := 0) (ifs : Array Nat := #[]) (fds : Array FieldInfo := #[]) : ClassFile where
  minorVersion := 0
  majorVersion := 65
  constantPool := pool
  accessFlags := fl
  thisClass := this
  superClass := sup
  interfaces := ifs
  fields := fds
  methods := ms
  attributes := attrs
def plain (name : String) (sup : Option ClassId) : Class where
  name := name
  kind := .ordinary
  loader := none
  accessFlags := 33
  super := sup
  interfaces := #[]
  cf := none
  fields := #[]
  methods := #[]
  instanceTypes := #[]
  staticTypes := #[]
  resolved := #[]
  callSites := []
  init := .initialized
  statics := none
  mirror := none

def pool0 : Array CpInfo := pool [(5, u "<init>"), (0, u "()V"), (1, .class_ 10), (1, u "java/lang/Object"), (85, u "clone"), (0, u "()Ljava/lang/Object;")] 26

def k0c0 : Code := { maxStack := 0, maxLocals := 1, code := object_method_1_code, exceptionTable := #[], attributes := #[] }
def k0m0 : Method := { name := "<init>", desc := "()V", sig := { parameters := [], returnType := none }, accessFlags := 1, code := some k0c0 }
def k0m1 : Method := { name := "clone", desc := "()Ljava/lang/Object;", sig := { parameters := [], returnType := some (.object "java/lang/Object") }, accessFlags := 260, code := none }
/-- java/lang/Object -/
def k0 : Class := { plain "java/lang/Object" none with
  accessFlags := 33
  interfaces := #[]
  cf := some (fileOf pool0 8 #[] #[{ accessFlags := 1, nameIndex := 5, descriptorIndex := 6, attributes := #[] }, { accessFlags := 260, nameIndex := 96, descriptorIndex := 97, attributes := #[] }] 33 0 #[] #[])
  fields := #[]
  methods := #[k0m0, k0m1]
  instanceTypes := #[]
  staticTypes := #[]
  resolved := Array.replicate 124 none
  statics := none }

def pool1 : Array CpInfo := pool [(2, .class_ 4), (1, u "java/lang/Object"), (0, u "<init>"), (0, u "()V"), (0, .class_ 8), (0, u "com/example/hadamint/hadamint/Trellis"), (0, .methodref 7 10), (0, .nameAndType 5 11), (0, u "([F[I)V"), (0, .methodref 7 13), (0, .nameAndType 14 15), (0, u "table"), (0, u "()[F"), (0, .class_ 17), (0, u "com/example/hadamint/hadamint/TrellisTablePinLaw"), (2, u "law"), (0, u "(IIIIII)Z")] 5

def k1m0 : Method := { name := "<init>", desc := "()V", sig := { parameters := [], returnType := none }, accessFlags := 1, code := none }
def k1c1 : Code := { maxStack := 7, maxLocals := 18, code := code, exceptionTable := #[], attributes := #[] }
def k1m1 : Method := { name := "law", desc := "(IIIIII)Z", sig := { parameters := [.int, .int, .int, .int, .int, .int], returnType := some .boolean }, accessFlags := 9, code := some k1c1 }
/-- com/example/hadamint/hadamint/TrellisTablePinLaw -/
def k1 : Class := { plain "com/example/hadamint/hadamint/TrellisTablePinLaw" (some 0) with
  accessFlags := 49
  interfaces := #[]
  cf := some (fileOf pool1 16 #[] #[{ accessFlags := 1, nameIndex := 5, descriptorIndex := 6, attributes := #[] }, { accessFlags := 9, nameIndex := 20, descriptorIndex := 21, attributes := #[] }] 49 2 #[] #[])
  fields := #[]
  methods := #[k1m0, k1m1]
  instanceTypes := #[]
  staticTypes := #[]
  resolved := Array.replicate 27 none
  statics := none }

def pool2 : Array CpInfo := pool [(1, .class_ 2), (0, u "com/example/hadamint/hadamint/Trellis"), (2, .methodref 6 7), (0, .class_ 8), (0, .nameAndType 9 10), (0, u "java/lang/Object"), (0, u "<init>"), (0, u "()V"), (9, .fieldref 1 21), (0, .nameAndType 22 23), (0, u "numbers"), (0, u "[D"), (0, .methodref 25 26), (0, .class_ 27), (0, .nameAndType 28 29), (0, u "java/lang/Float"), (0, u "isFinite"), (0, u "(F)Z"), (3, .methodref 34 35), (0, .class_ 36), (0, .nameAndType 37 38), (0, u "java/lang/Math"), (0, u "abs"), (0, u "(D)D"), (0, .methodref 34 40), (0, .nameAndType 41 42), (0, u "max"), (0, u "(DD)D"), (3, .long 8), (4, .fieldref 1 52), (0, .nameAndType 53 54), (0, u "widest"), (0, u "D"), (0, .methodref 56 57), (0, .class_ 58), (0, .nameAndType 59 60), (0, u "[I"), (0, u "clone"), (0, u "()Ljava/lang/Object;"), (0, .fieldref 1 62), (0, .nameAndType 63 58), (0, u "bits"), (0, .fieldref 1 65), (0, .nameAndType 66 67), (0, u "stride"), (0, u "I"), (0, .fieldref 1 69), (0, .nameAndType 70 58), (0, u "places"), (0, .methodref 34 72), (0, .nameAndType 41 73), (0, u "(II)I"), (21, u "WORDS"), (0, u "Ljava/lang/invoke/VarHandle;"), (12, .class_ 110), (0, u "com/example/hadamint/hadamint/Trellis$Coder"), (17, u "WINDOW"), (2, u "WINDOWS"), (1, u "MOST_BITS"), (1, u "LOW_BITS"), (0, u "J"), (2, u "PADDING"), (1, u "SHIFT_BITS"), (1, u "([F[I)V"), (5, u "table"), (1, u "()[F")] 31

def k2c0 : Code := { maxStack := 5, maxLocals := 11, code := prog_22_method_1_code, exceptionTable := #[], attributes := #[] }
def k2m0 : Method := { name := "<init>", desc := "([F[I)V", sig := { parameters := [(.array .float), (.array .int)], returnType := none }, accessFlags := 0, code := some k2c0 }
def k2c1 : Code := { maxStack := 4, maxLocals := 3, code := prog_22_method_3_code, exceptionTable := #[], attributes := #[] }
def k2m1 : Method := { name := "table", desc := "()[F", sig := { parameters := [], returnType := some (.array .float) }, accessFlags := 0, code := some k2c1 }
/-- com/example/hadamint/hadamint/Trellis -/
def k2 : Class := { plain "com/example/hadamint/hadamint/Trellis" (some 0) with
  accessFlags := 48
  interfaces := #[]
  cf := some (fileOf pool2 1 #[.nestMembers #[109]] #[{ accessFlags := 0, nameIndex := 9, descriptorIndex := 143, attributes := #[] }, { accessFlags := 0, nameIndex := 149, descriptorIndex := 151, attributes := #[] }] 48 6 #[] #[{ accessFlags := 24, nameIndex := 128, descriptorIndex := 67, attributes := #[] }, { accessFlags := 24, nameIndex := 131, descriptorIndex := 67, attributes := #[] }, { accessFlags := 24, nameIndex := 133, descriptorIndex := 67, attributes := #[] }, { accessFlags := 26, nameIndex := 135, descriptorIndex := 136, attributes := #[] }, { accessFlags := 24, nameIndex := 139, descriptorIndex := 67, attributes := #[] }, { accessFlags := 26, nameIndex := 141, descriptorIndex := 67, attributes := #[] }, { accessFlags := 26, nameIndex := 95, descriptorIndex := 96, attributes := #[] }, { accessFlags := 16, nameIndex := 22, descriptorIndex := 23, attributes := #[] }, { accessFlags := 16, nameIndex := 53, descriptorIndex := 54, attributes := #[] }, { accessFlags := 18, nameIndex := 63, descriptorIndex := 58, attributes := #[] }, { accessFlags := 16, nameIndex := 70, descriptorIndex := 58, attributes := #[] }, { accessFlags := 18, nameIndex := 66, descriptorIndex := 67, attributes := #[] }])
  fields := #[{ name := "WINDOW", type := .int, accessFlags := 24, slot := 0, constantValue := 0 }, { name := "WINDOWS", type := .int, accessFlags := 24, slot := 1, constantValue := 0 }, { name := "MOST_BITS", type := .int, accessFlags := 24, slot := 2, constantValue := 0 }, { name := "LOW_BITS", type := .long, accessFlags := 26, slot := 3, constantValue := 0 }, { name := "PADDING", type := .int, accessFlags := 24, slot := 4, constantValue := 0 }, { name := "SHIFT_BITS", type := .int, accessFlags := 26, slot := 5, constantValue := 0 }, { name := "WORDS", type := (.object "java/lang/invoke/VarHandle"), accessFlags := 26, slot := 6, constantValue := 0 }, { name := "numbers", type := (.array .double), accessFlags := 16, slot := 0, constantValue := 0 }, { name := "widest", type := .double, accessFlags := 16, slot := 1, constantValue := 0 }, { name := "bits", type := (.array .int), accessFlags := 18, slot := 2, constantValue := 0 }, { name := "places", type := (.array .int), accessFlags := 16, slot := 3, constantValue := 0 }, { name := "stride", type := .int, accessFlags := 18, slot := 4, constantValue := 0 }]
  methods := #[k2m0, k2m1]
  instanceTypes := #[(.array .double), .double, (.array .int), (.array .int), .int]
  staticTypes := #[.int, .int, .int, .long, .int, .int, (.object "java/lang/invoke/VarHandle")]
  resolved := Array.replicate 183 none
  statics := none }

def pool3 : Array CpInfo := pool [(1, .class_ 2), (0, u "java/io/Serializable"), (0, .class_ 4), (0, u "java/lang/Object")] 2

/-- java/io/Serializable -/
def k3 : Class := { plain "java/io/Serializable" (some 0) with
  accessFlags := 1537
  interfaces := #[]
  cf := some (fileOf pool3 1 #[] #[] 1537 3 #[] #[])
  fields := #[]
  methods := #[]
  instanceTypes := #[]
  staticTypes := #[]
  resolved := Array.replicate 7 none
  statics := none }

def pool4 : Array CpInfo := pool [(2, .class_ 4), (1, u "java/lang/Object"), (0, u "<init>"), (0, u "()V"), (1, .class_ 10), (1, u "java/lang/Number"), (2, .class_ 14), (0, u "java/io/Serializable"), (0, u "serialVersionUID"), (0, u "J")] 20

def k4m0 : Method := { name := "<init>", desc := "()V", sig := { parameters := [], returnType := none }, accessFlags := 1, code := none }
/-- java/lang/Number -/
def k4 : Class := { plain "java/lang/Number" (some 0) with
  accessFlags := 1057
  interfaces := #[3]
  cf := some (fileOf pool4 8 #[] #[{ accessFlags := 1, nameIndex := 5, descriptorIndex := 6, attributes := #[] }] 1057 2 #[13] #[{ accessFlags := 26, nameIndex := 15, descriptorIndex := 16, attributes := #[] }])
  fields := #[{ name := "serialVersionUID", type := .long, accessFlags := 26, slot := 0, constantValue := 0 }]
  methods := #[k4m0]
  instanceTypes := #[]
  staticTypes := #[.long]
  resolved := Array.replicate 37 none
  statics := none }

def pool5 : Array CpInfo := pool [(1, .class_ 2), (0, u "java/lang/Comparable"), (0, .class_ 4), (0, u "java/lang/Object")] 7

/-- java/lang/Comparable -/
def k5 : Class := { plain "java/lang/Comparable" (some 0) with
  accessFlags := 1537
  interfaces := #[]
  cf := some (fileOf pool5 1 #[] #[] 1537 3 #[] #[])
  fields := #[]
  methods := #[]
  instanceTypes := #[]
  staticTypes := #[]
  resolved := Array.replicate 12 none
  statics := none }

def pool6 : Array CpInfo := pool [(1, .class_ 2), (0, u "java/lang/constant/Constable"), (0, .class_ 4), (0, u "java/lang/Object")] 6

/-- java/lang/constant/Constable -/
def k6 : Class := { plain "java/lang/constant/Constable" (some 0) with
  accessFlags := 1537
  interfaces := #[]
  cf := some (fileOf pool6 1 #[] #[] 1537 3 #[] #[])
  fields := #[]
  methods := #[]
  instanceTypes := #[]
  staticTypes := #[]
  resolved := Array.replicate 11 none
  statics := none }

def pool7 : Array CpInfo := pool [(1, .class_ 2), (0, u "java/lang/constant/ConstantDesc"), (0, .class_ 4), (0, u "java/lang/Object")] 32

/-- java/lang/constant/ConstantDesc -/
def k7 : Class := { plain "java/lang/constant/ConstantDesc" (some 0) with
  accessFlags := 1537
  interfaces := #[]
  cf := some (fileOf pool7 1 #[] #[] 1537 3 #[] #[])
  fields := #[]
  methods := #[]
  instanceTypes := #[]
  staticTypes := #[]
  resolved := Array.replicate 37 none
  statics := none }

def pool8 : Array CpInfo := pool [(1, .class_ 2), (0, u "java/lang/Float"), (8, .methodref 12 13), (0, .class_ 14), (0, .nameAndType 15 16), (0, u "java/lang/Math"), (0, u "abs"), (0, u "(F)F"), (32, .float 2139095039), (1, .class_ 53), (1, u "java/lang/Number"), (3, u "value"), (0, u "F"), (3, u "(F)Z"), (28, u "$assertionsDisabled"), (0, u "Z"), (52, u "TYPE"), (0, u "Ljava/lang/Class;"), (0, .class_ 148), (0, u "java/lang/Comparable"), (0, .class_ 150), (0, u "java/lang/constant/Constable"), (0, .class_ 152), (0, u "java/lang/constant/ConstantDesc"), (0, u "POSITIVE_INFINITY"), (1, u "NEGATIVE_INFINITY"), (1, u "NaN"), (1, u "MAX_VALUE"), (0, u "MIN_NORMAL"), (0, u "MIN_VALUE"), (1, u "SIZE"), (0, u "I"), (1, u "PRECISION"), (1, u "MAX_EXPONENT"), (1, u "MIN_EXPONENT"), (1, u "BYTES"), (3, u "serialVersionUID"), (0, u "J"), (18, u "isFinite")] 82

def k8c0 : Code := { maxStack := 2, maxLocals := 1, code := jdk_118_method_8_code, exceptionTable := #[], attributes := #[] }
def k8m0 : Method := { name := "isFinite", desc := "(F)Z", sig := { parameters := [.float], returnType := some .boolean }, accessFlags := 9, code := some k8c0 }
/-- java/lang/Float -/
def k8 : Class := { plain "java/lang/Float" (some 4) with
  accessFlags := 49
  interfaces := #[5, 6, 7]
  cf := some (fileOf pool8 1 #[] #[{ accessFlags := 9, nameIndex := 196, descriptorIndex := 62, attributes := #[] }] 49 51 #[147, 149, 151] #[{ accessFlags := 25, nameIndex := 153, descriptorIndex := 58, attributes := #[] }, { accessFlags := 25, nameIndex := 155, descriptorIndex := 58, attributes := #[] }, { accessFlags := 25, nameIndex := 157, descriptorIndex := 58, attributes := #[] }, { accessFlags := 25, nameIndex := 159, descriptorIndex := 58, attributes := #[] }, { accessFlags := 25, nameIndex := 160, descriptorIndex := 58, attributes := #[] }, { accessFlags := 25, nameIndex := 161, descriptorIndex := 58, attributes := #[] }, { accessFlags := 25, nameIndex := 163, descriptorIndex := 164, attributes := #[] }, { accessFlags := 25, nameIndex := 166, descriptorIndex := 164, attributes := #[] }, { accessFlags := 25, nameIndex := 168, descriptorIndex := 164, attributes := #[] }, { accessFlags := 25, nameIndex := 170, descriptorIndex := 164, attributes := #[] }, { accessFlags := 25, nameIndex := 172, descriptorIndex := 164, attributes := #[] }, { accessFlags := 25, nameIndex := 145, descriptorIndex := 146, attributes := #[] }, { accessFlags := 18, nameIndex := 57, descriptorIndex := 58, attributes := #[] }, { accessFlags := 26, nameIndex := 176, descriptorIndex := 177, attributes := #[] }, { accessFlags := 4120, nameIndex := 91, descriptorIndex := 92, attributes := #[] }])
  fields := #[{ name := "POSITIVE_INFINITY", type := .float, accessFlags := 25, slot := 0, constantValue := 0 }, { name := "NEGATIVE_INFINITY", type := .float, accessFlags := 25, slot := 1, constantValue := 0 }, { name := "NaN", type := .float, accessFlags := 25, slot := 2, constantValue := 0 }, { name := "MAX_VALUE", type := .float, accessFlags := 25, slot := 3, constantValue := 0 }, { name := "MIN_NORMAL", type := .float, accessFlags := 25, slot := 4, constantValue := 0 }, { name := "MIN_VALUE", type := .float, accessFlags := 25, slot := 5, constantValue := 0 }, { name := "SIZE", type := .int, accessFlags := 25, slot := 6, constantValue := 0 }, { name := "PRECISION", type := .int, accessFlags := 25, slot := 7, constantValue := 0 }, { name := "MAX_EXPONENT", type := .int, accessFlags := 25, slot := 8, constantValue := 0 }, { name := "MIN_EXPONENT", type := .int, accessFlags := 25, slot := 9, constantValue := 0 }, { name := "BYTES", type := .int, accessFlags := 25, slot := 10, constantValue := 0 }, { name := "TYPE", type := (.object "java/lang/Class"), accessFlags := 25, slot := 11, constantValue := 0 }, { name := "value", type := .float, accessFlags := 18, slot := 0, constantValue := 0 }, { name := "serialVersionUID", type := .long, accessFlags := 26, slot := 12, constantValue := 0 }, { name := "$assertionsDisabled", type := .boolean, accessFlags := 4120, slot := 13, constantValue := 0 }]
  methods := #[k8m0]
  instanceTypes := #[.float]
  staticTypes := #[.float, .float, .float, .float, .float, .float, .int, .int, .int, .int, .int, (.object "java/lang/Class"), .long, .boolean]
  resolved := Array.replicate 279 none
  statics := none }

def pool9 : Array CpInfo := pool [(1, .class_ 2), (0, u "java/lang/Math"), (1, .class_ 6), (1, u "java/lang/Object"), (0, u "<init>"), (0, u "()V"), (5, u "(D)D"), (37, u "(DD)D"), (45, .class_ 100), (1, u "java/lang/Math$RandomNumberGeneratorHolder"), (23, u "abs"), (47, u "negativeZeroFloatBits"), (0, u "J"), (2, u "negativeZeroDoubleBits"), (21, u "max"), (46, u "$assertionsDisabled"), (0, u "Z"), (47, u "(F)F"), (40, u "(II)I"), (2, u "twoToTheDoubleScaleDown"), (0, u "D"), (4, u "twoToTheDoubleScaleUp"), (9, u "E"), (3, u "PI"), (2, u "TAU"), (2, u "DEGREES_TO_RADIANS"), (0, u "RADIANS_TO_DEGREES")] 94

def k9m0 : Method := { name := "<init>", desc := "()V", sig := { parameters := [], returnType := none }, accessFlags := 2, code := none }
def k9c1 : Code := { maxStack := 2, maxLocals := 1, code := jdk_29_method_63_code, exceptionTable := #[], attributes := #[] }
def k9m1 : Method := { name := "abs", desc := "(F)F", sig := { parameters := [.float], returnType := some .float }, accessFlags := 9, code := some k9c1 }
def k9c2 : Code := { maxStack := 4, maxLocals := 2, code := jdk_29_method_64_code, exceptionTable := #[], attributes := #[] }
def k9m2 : Method := { name := "abs", desc := "(D)D", sig := { parameters := [.double], returnType := some .double }, accessFlags := 9, code := some k9c2 }
def k9c3 : Code := { maxStack := 2, maxLocals := 2, code := jdk_29_method_65_code, exceptionTable := #[], attributes := #[] }
def k9m3 : Method := { name := "max", desc := "(II)I", sig := { parameters := [.int, .int], returnType := some .int }, accessFlags := 9, code := some k9c3 }
def k9c4 : Code := { maxStack := 4, maxLocals := 4, code := jdk_29_method_68_code, exceptionTable := #[], attributes := #[] }
def k9m4 : Method := { name := "max", desc := "(DD)D", sig := { parameters := [.double, .double], returnType := some .double }, accessFlags := 9, code := some k9c4 }
/-- java/lang/Math -/
def k9 : Class := { plain "java/lang/Math" (some 0) with
  accessFlags := 49
  interfaces := #[]
  cf := some (fileOf pool9 1 #[.nestMembers #[98]] #[{ accessFlags := 2, nameIndex := 7, descriptorIndex := 8, attributes := #[] }, { accessFlags := 9, nameIndex := 124, descriptorIndex := 294, attributes := #[] }, { accessFlags := 9, nameIndex := 124, descriptorIndex := 14, attributes := #[] }, { accessFlags := 9, nameIndex := 198, descriptorIndex := 335, attributes := #[] }, { accessFlags := 9, nameIndex := 198, descriptorIndex := 52, attributes := #[] }] 49 4 #[] #[{ accessFlags := 25, nameIndex := 354, descriptorIndex := 339, attributes := #[] }, { accessFlags := 25, nameIndex := 358, descriptorIndex := 339, attributes := #[] }, { accessFlags := 25, nameIndex := 361, descriptorIndex := 339, attributes := #[] }, { accessFlags := 26, nameIndex := 364, descriptorIndex := 339, attributes := #[] }, { accessFlags := 26, nameIndex := 365, descriptorIndex := 339, attributes := #[] }, { accessFlags := 26, nameIndex := 172, descriptorIndex := 173, attributes := #[] }, { accessFlags := 26, nameIndex := 176, descriptorIndex := 173, attributes := #[] }, { accessFlags := 8, nameIndex := 344, descriptorIndex := 339, attributes := #[] }, { accessFlags := 8, nameIndex := 338, descriptorIndex := 339, attributes := #[] }, { accessFlags := 4120, nameIndex := 245, descriptorIndex := 246, attributes := #[] }])
  fields := #[{ name := "E", type := .double, accessFlags := 25, slot := 0, constantValue := 0 }, { name := "PI", type := .double, accessFlags := 25, slot := 1, constantValue := 0 }, { name := "TAU", type := .double, accessFlags := 25, slot := 2, constantValue := 0 }, { name := "DEGREES_TO_RADIANS", type := .double, accessFlags := 26, slot := 3, constantValue := 0 }, { name := "RADIANS_TO_DEGREES", type := .double, accessFlags := 26, slot := 4, constantValue := 0 }, { name := "negativeZeroFloatBits", type := .long, accessFlags := 26, slot := 5, constantValue := 0 }, { name := "negativeZeroDoubleBits", type := .long, accessFlags := 26, slot := 6, constantValue := 0 }, { name := "twoToTheDoubleScaleUp", type := .double, accessFlags := 8, slot := 7, constantValue := 0 }, { name := "twoToTheDoubleScaleDown", type := .double, accessFlags := 8, slot := 8, constantValue := 0 }, { name := "$assertionsDisabled", type := .boolean, accessFlags := 4120, slot := 9, constantValue := 0 }]
  methods := #[k9m0, k9m1, k9m2, k9m3, k9m4]
  instanceTypes := #[]
  staticTypes := #[.double, .double, .double, .double, .double, .long, .long, .double, .double, .boolean]
  resolved := Array.replicate 460 none
  statics := none }

def pool10 : Array CpInfo := pool [(1, .class_ 2), (0, u "java/lang/Cloneable"), (0, .class_ 4), (0, u "java/lang/Object")] 2

/-- java/lang/Cloneable -/
def k10 : Class := { plain "java/lang/Cloneable" (some 0) with
  accessFlags := 1537
  interfaces := #[]
  cf := some (fileOf pool10 1 #[] #[] 1537 3 #[] #[])
  fields := #[]
  methods := #[]
  instanceTypes := #[]
  staticTypes := #[]
  resolved := Array.replicate 7 none
  statics := none }

/-- the primitive byte -/
def k11 : Class := { plain "byte" none with kind := .primitive 'B', accessFlags := 0x411 }
/-- [B -/
def k12 : Class := { plain "[B" (some 0) with kind := .array 11 .byte, interfaces := #[10, 3], accessFlags := 1041 }

/-- the primitive int -/
def k13 : Class := { plain "int" none with kind := .primitive 'I', accessFlags := 0x411 }
/-- [I -/
def k14 : Class := { plain "[I" (some 0) with kind := .array 13 .int, interfaces := #[10, 3], accessFlags := 1041 }

def k15 : Class := { plain "float" none with kind := .primitive 'F', accessFlags := 0x411 }
def k16 : Class := { plain "[F" (some 0) with kind := .array 15 .float, interfaces := #[10, 3], accessFlags := 1041 }
def k17 : Class := { plain "double" none with kind := .primitive 'D', accessFlags := 0x411 }
def k18 : Class := { plain "[D" (some 0) with kind := .array 17 .double, interfaces := #[10, 3], accessFlags := 1041 }
def heap : Heap := #[]
def classes : Array Class := #[k0, k1, k2, k3, k4, k5, k6, k7, k8, k9, k10, k11, k12, k13, k14, k15, k16, k17, k18]
def interned : List (Array UInt16 × Addr) := []
def slotsUsed : Nat := 0
def theMethod : MethodId := ⟨1, 1⟩
def args0 : Array Value := #[.int 5, .int 6, .int 7, .int 8, .int 9, .int 3]
def aboutOver (below : List Frame) : State where
  vm := { classes := classes, interned := interned.toArray }
  heap := heap
  slotsUsed := slotsUsed
  threads := #[{ frames := .invoking theMethod args0 :: below }]
def below0 : List Frame := [.native { method := ⟨0, 0⟩, args := #[] }]
def about1 : State := aboutOver below0
def p0 : Program := .bare "" "" ""
def e0 : Env := launch0.env 0 0 0
theorem w_frames : about1.frames = Frame.invoking theMethod args0 :: below0 := rfl
set_option maxRecDepth 65536 in
theorem w_args : argsFit about1.vm theMethod args0 = true := by decide +kernel
set_option maxRecDepth 65536 in
theorem w_heap : heapFits about1 = true := by decide +kernel
set_option maxRecDepth 65536 in
theorem w_runnable : about1.curStatus? = some .runnable := by decide +kernel
set_option maxRecDepth 65536 in
theorem w_alone : about1.alone = true := by decide +kernel
set_option maxRecDepth 65536 in
theorem w_named : about1.methodNamed? x = some theMethod := by decide +kernel
set_option maxRecDepth 65536 in
theorem w_hears : about1.hears theMethod below0 = true := by decide +kernel
set_option maxRecDepth 65536 in
theorem w_ripe : about1.ripe theMethod args0 below0 = true := by decide +kernel
theorem w_running : about1.status = .running := rfl
set_option maxRecDepth 65536 in
theorem w_room : about1.hasRoom e0.platform room_1 = true :=
  launch0.hasRoom_least _ room_1 (by decide +kernel) (by decide +kernel) (by decide +kernel) (by decide +kernel) (by decide +kernel) (by decide +kernel)
theorem allAtoms_all (ts : List Jvm.Cond) (a : Array Jvm.Value) (st : Jvm.State) : (allAtoms ts).before a st = ts.all (fun c => c.before a st) := by
  induction ts with
  | nil => rfl
  | cons c t ih =>
    show (Jvm.Cond.and c (allAtoms t)).before a st = _
    rw [Jvm.Cond.before_and, ih, List.all_cons]
def words1 : List Jvm.Cond := Jvm.Cond.code x code maxLocals ret :: tables_1
/-- a 'code' word, met by the world's own term for the bytes: nothing is compared byte by byte -/
theorem code_word {y : MethodName} {bytes : ByteArray} {mx : Nat} {rt : Option FieldType} {a : Array Value} {s : State} {m : MethodId} {meth : Method} {c : Code} (h1 : s.methodNamed? y = some m) (h2 : s.vm.method? m = some meth) (h3 : meth.code = some c) (h4 : c.code = bytes)
    (h5 : (c.maxLocals == mx && c.exceptionTable.isEmpty && decide (c.maxStack ≤ mostOperands) && decide (meth.sig.returnType = rt) && !meth.locks && decide (parseMethodDescriptor y.desc = some meth.sig)) = true) : (Jvm.Cond.code y bytes mx rt).before a s = true := by
  simp only [Bool.and_eq_true, beq_iff_eq, Bool.not_eq_true', decide_eq_true_eq] at h5
  obtain ⟨⟨⟨⟨⟨g1, g2⟩, g3⟩, g4⟩, g5⟩, g6⟩ := h5
  simp [Cond.before, Cond.holds, Cond.value, h1, h2, h3, h4, g1, g2, g3, g4, g5, g6]
def isCode : Jvm.Cond → Bool
  | .code _ _ _ _ => true
  | _ => false
theorem all_split {L : List Jvm.Cond} {P : Jvm.Cond → Bool} (h1 : L.all (fun c => isCode c || P c) = true) (h2 : ∀ c ∈ L.filter isCode, P c = true) : L.all P = true := by
  refine List.all_eq_true.mpr fun c hc => ?_
  have h := List.all_eq_true.mp h1 c hc
  rcases Bool.eq_false_or_eq_true (isCode c) with hi | hi
  · exact h2 c (List.mem_filter.mpr ⟨hc, hi⟩)
  · simpa [hi] using h
set_option maxRecDepth 65536 in
theorem w_c0 : (Jvm.Cond.code x code maxLocals ret).before args0 about1 = true := code_word (m := ⟨1, 1⟩) (meth := k1m1) (c := k1c1) (by decide +kernel) rfl rfl rfl (by decide +kernel)
set_option maxRecDepth 65536 in
theorem w_c1 : (Jvm.Cond.code ({ cls := "com/example/hadamint/hadamint/Trellis", name := "<init>", desc := "([F[I)V" } : Jvm.MethodName) prog_22_method_1_code (11 : Nat) (Option.none : Option Jvm.ClassFile.FieldType)).before args0 about1 = true := code_word (m := ⟨2, 0⟩) (meth := k2m0) (c := k2c0) (by decide +kernel) rfl rfl rfl (by decide +kernel)
set_option maxRecDepth 65536 in
theorem w_c2 : (Jvm.Cond.code ({ cls := "java/lang/Object", name := "<init>", desc := "()V" } : Jvm.MethodName) object_method_1_code (1 : Nat) (Option.none : Option Jvm.ClassFile.FieldType)).before args0 about1 = true := code_word (m := ⟨0, 0⟩) (meth := k0m0) (c := k0c0) (by decide +kernel) rfl rfl rfl (by decide +kernel)
set_option maxRecDepth 65536 in
theorem w_c3 : (Jvm.Cond.code ({ cls := "java/lang/Float", name := "isFinite", desc := "(F)Z" } : Jvm.MethodName) jdk_118_method_8_code (1 : Nat) (Option.some Jvm.ClassFile.FieldType.boolean)).before args0 about1 = true := code_word (m := ⟨8, 0⟩) (meth := k8m0) (c := k8c0) (by decide +kernel) rfl rfl rfl (by decide +kernel)
set_option maxRecDepth 65536 in
theorem w_c4 : (Jvm.Cond.code ({ cls := "java/lang/Math", name := "abs", desc := "(F)F" } : Jvm.MethodName) jdk_29_method_63_code (1 : Nat) (Option.some Jvm.ClassFile.FieldType.float)).before args0 about1 = true := code_word (m := ⟨9, 1⟩) (meth := k9m1) (c := k9c1) (by decide +kernel) rfl rfl rfl (by decide +kernel)
set_option maxRecDepth 65536 in
theorem w_c5 : (Jvm.Cond.code ({ cls := "java/lang/Math", name := "abs", desc := "(D)D" } : Jvm.MethodName) jdk_29_method_64_code (2 : Nat) (Option.some Jvm.ClassFile.FieldType.double)).before args0 about1 = true := code_word (m := ⟨9, 2⟩) (meth := k9m2) (c := k9c2) (by decide +kernel) rfl rfl rfl (by decide +kernel)
set_option maxRecDepth 65536 in
theorem w_c6 : (Jvm.Cond.code ({ cls := "java/lang/Math", name := "max", desc := "(DD)D" } : Jvm.MethodName) jdk_29_method_68_code (4 : Nat) (Option.some Jvm.ClassFile.FieldType.double)).before args0 about1 = true := code_word (m := ⟨9, 4⟩) (meth := k9m4) (c := k9c4) (by decide +kernel) rfl rfl rfl (by decide +kernel)
set_option maxRecDepth 65536 in
theorem w_c7 : (Jvm.Cond.code ({ cls := "java/lang/Math", name := "max", desc := "(II)I" } : Jvm.MethodName) jdk_29_method_65_code (2 : Nat) (Option.some Jvm.ClassFile.FieldType.int)).before args0 about1 = true := code_word (m := ⟨9, 3⟩) (meth := k9m3) (c := k9c3) (by decide +kernel) rfl rfl rfl (by decide +kernel)
set_option maxRecDepth 65536 in
theorem w_c8 : (Jvm.Cond.code ({ cls := "com/example/hadamint/hadamint/Trellis", name := "table", desc := "()[F" } : Jvm.MethodName) prog_22_method_3_code (3 : Nat) (Option.some (Jvm.ClassFile.FieldType.array Jvm.ClassFile.FieldType.float))).before args0 about1 = true := code_word (m := ⟨2, 1⟩) (meth := k2m1) (c := k2c1) (by decide +kernel) rfl rfl rfl (by decide +kernel)
def codes1 : List Jvm.Cond := [Jvm.Cond.code x code maxLocals ret, Jvm.Cond.code ({ cls := "com/example/hadamint/hadamint/Trellis", name := "<init>", desc := "([F[I)V" } : Jvm.MethodName) prog_22_method_1_code (11 : Nat) (Option.none : Option Jvm.ClassFile.FieldType), Jvm.Cond.code ({ cls := "java/lang/Object", name := "<init>", desc := "()V" } : Jvm.MethodName) object_method_1_code (1 : Nat) (Option.none : Option Jvm.ClassFile.FieldType), Jvm.Cond.code ({ cls := "java/lang/Float", name := "isFinite", desc := "(F)Z" } : Jvm.MethodName) jdk_118_method_8_code (1 : Nat) (Option.some Jvm.ClassFile.FieldType.boolean), Jvm.Cond.code ({ cls := "java/lang/Math", name := "abs", desc := "(F)F" } : Jvm.MethodName) jdk_29_method_63_code (1 : Nat) (Option.some Jvm.ClassFile.FieldType.float), Jvm.Cond.code ({ cls := "java/lang/Math", name := "abs", desc := "(D)D" } : Jvm.MethodName) jdk_29_method_64_code (2 : Nat) (Option.some Jvm.ClassFile.FieldType.double), Jvm.Cond.code ({ cls := "java/lang/Math", name := "max", desc := "(DD)D" } : Jvm.MethodName) jdk_29_method_68_code (4 : Nat) (Option.some Jvm.ClassFile.FieldType.double), Jvm.Cond.code ({ cls := "java/lang/Math", name := "max", desc := "(II)I" } : Jvm.MethodName) jdk_29_method_65_code (2 : Nat) (Option.some Jvm.ClassFile.FieldType.int), Jvm.Cond.code ({ cls := "com/example/hadamint/hadamint/Trellis", name := "table", desc := "()[F" } : Jvm.MethodName) prog_22_method_3_code (3 : Nat) (Option.some (Jvm.ClassFile.FieldType.array Jvm.ClassFile.FieldType.float))]
set_option maxRecDepth 65536 in
theorem codes_eq : words1.filter isCode = codes1 := rfl
theorem w_codes : ∀ c ∈ words1.filter isCode, c.before args0 about1 = true := by
  rw [codes_eq]
  intro c hc
  simp only [codes1, List.mem_cons, List.not_mem_nil, or_false] at hc
  rcases hc with rfl | rfl | rfl | rfl | rfl | rfl | rfl | rfl | rfl
  · exact w_c0
  · exact w_c1
  · exact w_c2
  · exact w_c3
  · exact w_c4
  · exact w_c5
  · exact w_c6
  · exact w_c7
  · exact w_c8
set_option maxRecDepth 65536 in
theorem w_t1 : (words1.take 24).all (fun c => isCode c || c.before args0 about1) = true := by decide +kernel
set_option maxRecDepth 65536 in
theorem w_t2 : ((words1.drop 24).take 24).all (fun c => isCode c || c.before args0 about1) = true := by decide +kernel
set_option maxRecDepth 65536 in
theorem w_t3 : ((words1.drop 24).drop 24).all (fun c => isCode c || c.before args0 about1) = true := by decide +kernel
theorem w_tables : (allAtoms (Jvm.Cond.code x code maxLocals ret :: tables_1)).before args0 about1 = true := by
  rw [allAtoms_all]
  show words1.all (fun c => c.before args0 about1) = true
  refine all_split ?_ w_codes
  rw [← List.take_append_drop 24 words1, List.all_append, w_t1, ← List.take_append_drop 24 (words1.drop 24), List.all_append, w_t2, w_t3]
  rfl
set_option maxRecDepth 65536 in
theorem w_case : (Jvm.Cond.and given_1 narrow_1).before args0 about1 = true := by decide +kernel
theorem w_applies : (headSpec (Jvm.Cond.code x code maxLocals ret :: tables_1) room_1).applies x e0.platform about1 = true :=
  (Spec.applies_iff w_frames).mpr ⟨w_running, w_runnable, w_alone, w_named, w_hears, w_ripe, w_room, w_tables⟩
theorem atStart : AtStart classFile x code maxLocals ret World_1 tables_1 room_1 Calls_1 rest_1 Pre_1 launch0 p0 e0 about1 theMethod args0 below0 :=
  ⟨lists_1, trivial, launch0.admits_env _ _ _, launch0.least_env, fairChoices_fair.cas, fairChoices_fair.clock, w_frames, w_args, w_heap, w_applies, trivial, trivial, w_case⟩
end start1
theorem witness_1 : WitnessClaimed_1 := ⟨start1.p0, start1.e0, start1.about1, start1.theMethod, start1.args0, start1.below0, start1.atStart⟩
end Jvm.Pilot.@@N@@
