import JvmDerived
import JvmDerived.Pilot.@@N@@Statement
import JvmDerived.Pilot.@@N@@Code
set_option linter.unusedVariables false
set_option linter.unusedSimpArgs false
namespace Jvm.Pilot.@@N@@
open Jvm Jvm.ClassFile Sem Op Lib Jvm.Free Jvm.Stand Jvm.LawKit Jvm.RoadKit Bundle Jvm.Pilot.@@N@@.Jvm.D
section Own
variable {p : Program} {l : Launch} {e : Env} {R : Room} {s : State} {m : MethodId} {args : Array Value} {below : List Frame} {meth : Method} {c : Code} {T : State} {locs : List Loc} {cells slots : Nat} {Z : State} {a0 : Array Value} {h h' : Heap} {rc rs : Nat} {Q Qc : Option Value → Heap → List Loc → Prop}
/-- from here the run comes to its end, and leaves what Q says -/
def GG (p : Program) (e : Env) (below : List Frame) (s : State) (rc rs : Nat) (Q : Option Value → Heap → List Loc → Prop) (T : State) (g : JFrame) : Prop :=
  ∃ s₂ o, Steps p.tables e below (T.setTop g) s₂ ∧ s₂.status = .running ∧ Ended s₂ below o ∧ ∃ v L, o = .returned v ∧ Q v s₂.heap L ∧ FrameEnd s o s₂ L rc rs
theorem own_go {T' : State} {g g' : JFrame} (st : ∀ t, Steps p.tables e below (T'.setTop g') t → Steps p.tables e below (T.setTop g) t) (k : GG p e below s rc rs Q T' g') : GG p e below s rc rs Q T g := by
  obtain ⟨s₂, o, h1, h2⟩ := k
  exact ⟨s₂, o, st _ h1, h2⟩
theorem own_in {g g' : JFrame} (q : g = g') (k : GG p e below s rc rs Q T g') : GG p e below s rc rs Q T g := q ▸ k
theorem own_if {g1 g2 : JFrame} {P : Prop} [Decidable P] (k1 : P → GG p e below s rc rs Q T g1) (k2 : ¬ P → GG p e below s rc rs Q T g2) : GG p e below s rc rs Q T (if P then g1 else g2) := by
  by_cases q : P
  · rw [if_pos q]; exact k1 q
  · rw [if_neg q]; exact k2 q
theorem own_join {g g' : JFrame} (k1 : GG p e below s rc rs Q T g' → GG p e below s rc rs Q T g) (k2 : GG p e below s rc rs Q T g') : GG p e below s rc rs Q T g := k1 k2
abbrev own_CT (l : Launch) (Z : State) (y : MethodName) (bytes : ByteArray) (maxL : Nat) (ret : Option FieldType) (ws : List Jvm.Cond) (rm : Room) (as : Array Value) (h : Heap) (Qc : Option Value → Heap → List Loc → Prop) : Prop :=
  MetFree l y (head1 (Jvm.Cond.code y bytes maxL ret :: ws) rm) (fun a U => a = as ∧ Z.Warmed39 U.vm ∧ U.heap = h) (fun _ _ _ _ _ => True) (fun _ U o U' => ∃ v L, o = .returned v ∧ Qc v U'.heap L ∧ FrameEnd U o U' L rm.cells rm.slots)
theorem own_callS (X : Stand p l e R s m args below meth c T locs cells slots) (hx : p.tables.exec = Jvm.exec) (hZ : Z.Warmed39 s.vm) {own : String} {index : Nat} {y : MethodName} {bytes : ByteArray} {maxL : Nat} {ret : Option FieldType} {rm : Room} (W : Nat)
    (hown : s.vm.findClass own = some m.cls) (w1 : (Jvm.Cond.methodLink own index y).before a0 Z = true) (w2 : (Jvm.Cond.static y).before a0 Z = true) (w3 : (Jvm.Cond.initialized y.cls).before a0 Z = true) (w4 : (Jvm.Cond.code y bytes maxL ret).before a0 Z = true)
    (hy : y.cls ≠ "java/lang/invoke/MethodHandle" ∧ y.cls ≠ "java/lang/invoke/VarHandle") {argsL rest : List Value} (hM : own_CT l Z y bytes maxL ret [] rm argsL.toArray h Qc)
    (hf : rm.frames + 1 ≤ R.frames) (hl : W + (maxL + 11) + rm.locals ≤ R.locals) (hc : cells + rm.cells ≤ R.cells) (hs : slots + rm.slots ≤ R.slots)
    {g : JFrame} (hg : g.method = m) (hsize : g.locals.size = c.maxLocals) (hlen : ∀ sig, parseMethodDescriptor y.desc = some sig → argsL.length = sig.parameters.length) (hstack : g.stack = argsL.reverse ++ rest) (hW : 2 * g.monitorRoom + (rest.map fun v => v.category).sum ≤ W)
    (hdg : decode c.code g.pc = .ok (.invokestatic index, 3)) (eT : T.heap = h)
    (k : ∀ (v : Option Value) (T' : State) (L : List Loc), Stand p l e R s m args below meth c T' (locs ++ L) (cells + rm.cells) (slots + rm.slots) → Qc v T'.heap L → GG p e below s rc rs Q T' { g with pc := g.pc + 3, stack := v.toList ++ rest }) : GG p e below s rc rs Q T g := by
  obtain ⟨v, vm₁, ⟨T', L', k', n'⟩, -, X', ⟨L, hQ, q1, q2, q3⟩, st⟩ := Jvm.LawKit.callS X hx hown (mvT hZ w1) (mvT hZ w2) (mvT hZ w3) (mvT hZ w4) hy (backOf (W := W) hM hZ w4 w3 hf hl) hg hsize hlen hstack hW hdg (fun _ _ => ⟨rfl, eT, hc, hs⟩)
  dsimp only [Pt.U, Pt.locs, Pt.cells, Pt.slots] at X' q1 q2 q3 st hQ
  subst q1 q2 q3
  exact own_go st (k v T' L X' hQ)
theorem own_callI (X : Stand p l e R s m args below meth c T locs cells slots) (hx : p.tables.exec = Jvm.exec) (hZ : Z.Warmed39 s.vm) {own : String} {index : Nat} {y : MethodName} {bytes : ByteArray} {maxL : Nat} {rm : Room} (W : Nat) (hy1 : y.name = "<init>")
    (hown : s.vm.findClass own = some m.cls) (w1 : (Jvm.Cond.methodLink own index y).before a0 Z = true) (w2 : (Jvm.Cond.instanceMethod y).before a0 Z = true) (w3 : (Jvm.Cond.initialized y.cls).before a0 Z = true) (w4 : (Jvm.Cond.code y bytes maxL none).before a0 Z = true)
    (hy : y.cls ≠ "java/lang/invoke/MethodHandle" ∧ y.cls ≠ "java/lang/invoke/VarHandle") {a : Addr} {argsL rest : List Value} (hM : own_CT l Z y bytes maxL none [] rm (.ref a :: argsL).toArray h Qc)
    (hf : rm.frames + 1 ≤ R.frames) (hl : W + (maxL + 11) + rm.locals ≤ R.locals) (hc : cells + rm.cells ≤ R.cells) (hs : slots + rm.slots ≤ R.slots)
    {g : JFrame} (hg : g.method = m) (hsize : g.locals.size = c.maxLocals) (hlen : ∀ sig, parseMethodDescriptor y.desc = some sig → argsL.length = sig.parameters.length) (hstack : g.stack = argsL.reverse ++ .ref a :: rest) (hW : 2 * g.monitorRoom + (rest.map fun v => v.category).sum ≤ W)
    (hdg : decode c.code g.pc = .ok (.invokespecial index, 3)) (eT : T.heap = h)
    (k : ∀ (v : Option Value) (T' : State) (L : List Loc), Stand p l e R s m args below meth c T' (locs ++ L) (cells + rm.cells) (slots + rm.slots) → Qc v T'.heap L → GG p e below s rc rs Q T' { g with pc := g.pc + 3, stack := v.toList ++ rest }) : GG p e below s rc rs Q T g := by
  obtain ⟨v, vm₁, ⟨T', L', k', n'⟩, -, X', ⟨L, hQ, q1, q2, q3⟩, st⟩ := X.specialBack hx hy1 hown (mvT hZ w1) (mvT hZ w2) (mvT hZ w4) hy (backOf (W := W) hM hZ w4 w3 hf hl) hg hsize (Steps.refl _) hlen hstack hW hdg (fun _ _ => ⟨rfl, eT, hc, hs⟩)
  dsimp only [Pt.U, Pt.locs, Pt.cells, Pt.slots] at X' q1 q2 q3 st hQ
  subst q1 q2 q3
  exact own_go (fun _ => st.trans) (k v T' L X' hQ)
theorem own_callV (X : Stand p l e R s m args below meth c T locs cells slots) (hx : p.tables.exec = Jvm.exec) (hZ : Z.Warmed39 s.vm) {own C : String} {index : Nat} {y z : MethodName} {bytes : ByteArray} {maxL : Nat} {ret : Option FieldType} {rm : Room} (W : Nat)
    (hown : s.vm.findClass own = some m.cls) (w1 : (Jvm.Cond.methodLink own index y).before a0 Z = true) (w2 : (Jvm.Cond.declares y).before a0 Z = true) (hnf : NotFace s y) (w5 : (Jvm.Cond.selects C y z).before a0 Z = true) (w6 : (Jvm.Cond.instanceMethod z).before a0 Z = true) (w3 : (Jvm.Cond.initialized z.cls).before a0 Z = true) (w4 : (Jvm.Cond.code z bytes maxL ret).before a0 Z = true)
    (hy : y.cls ≠ "java/lang/invoke/MethodHandle" ∧ y.cls ≠ "java/lang/invoke/VarHandle") {a : Addr} {argsL rest : List Value} (hM : own_CT l Z z bytes maxL ret [] rm (.ref a :: argsL).toArray h Qc)
    (hf : rm.frames + 1 ≤ R.frames) (hl : W + (maxL + 11) + rm.locals ≤ R.locals) (hc : cells + rm.cells ≤ R.cells) (hs : slots + rm.slots ≤ R.slots) (E : Exa Z h a C)
    {g : JFrame} (hg : g.method = m) (hsize : g.locals.size = c.maxLocals) (hlen : ∀ sig, parseMethodDescriptor y.desc = some sig → argsL.length = sig.parameters.length) (hstack : g.stack = argsL.reverse ++ .ref a :: rest) (hW : 2 * g.monitorRoom + (rest.map fun v => v.category).sum ≤ W)
    (hdg : decode c.code g.pc = .ok (.invokevirtual index, 3)) (eT : T.heap = h)
    (k : ∀ (v : Option Value) (T' : State) (L : List Loc), Stand p l e R s m args below meth c T' (locs ++ L) (cells + rm.cells) (slots + rm.slots) → Qc v T'.heap L → GG p e below s rc rs Q T' { g with pc := g.pc + 3, stack := v.toList ++ rest }) : GG p e below s rc rs Q T g := by
  obtain ⟨cq, kq, qa, qb, qc⟩ := isOf hZ eT E
  obtain ⟨v, vm₁, ⟨T', L', k', n'⟩, -, X', ⟨L, hQ, q1, q2, q3⟩, st⟩ := X.virtualBack hx hown (mvT hZ w1) (mvT hZ w2) hnf (mvT hZ w5) (mvT hZ w6) hy (backOf (W := W) hM hZ w4 w3 hf hl) qa qc hg hsize (Steps.refl _) hlen hstack hW hdg (fun _ _ => ⟨rfl, eT, hc, hs⟩)
  dsimp only [Pt.U, Pt.locs, Pt.cells, Pt.slots] at X' q1 q2 q3 st hQ
  subst q1 q2 q3
  exact own_go (fun _ => st.trans) (k v T' L X' hQ)
theorem own_callP (X : Stand p l e R s m args below meth c T locs cells slots) (hx : p.tables.exec = Jvm.exec) (hZ : Z.Warmed39 s.vm) {own C : String} {index : Nat} {y : MethodName} {bytes : ByteArray} {maxL : Nat} {ret : Option FieldType} {rm : Room} (W : Nat)
    (hown : s.vm.findClass own = some m.cls) (w1 : (Jvm.Cond.methodLink own index y).before a0 Z = true) (w2 : (Jvm.Cond.instanceMethod y).before a0 Z = true) {kk : Nat} (w5 : (Jvm.Cond.instantiable y.cls kk).before a0 Z = true) (w6 : (Jvm.Cond.privateMethod y).before a0 Z = true) (w3 : (Jvm.Cond.initialized y.cls).before a0 Z = true) (w4 : (Jvm.Cond.code y bytes maxL ret).before a0 Z = true)
    (hy : y.cls ≠ "java/lang/invoke/MethodHandle" ∧ y.cls ≠ "java/lang/invoke/VarHandle") {a : Addr} {argsL rest : List Value} (hM : own_CT l Z y bytes maxL ret [] rm (.ref a :: argsL).toArray h Qc)
    (hf : rm.frames + 1 ≤ R.frames) (hl : W + (maxL + 11) + rm.locals ≤ R.locals) (hc : cells + rm.cells ≤ R.cells) (hs : slots + rm.slots ≤ R.slots) (E : Exa Z h a C)
    {g : JFrame} (hg : g.method = m) (hsize : g.locals.size = c.maxLocals) (hlen : ∀ sig, parseMethodDescriptor y.desc = some sig → argsL.length = sig.parameters.length) (hstack : g.stack = argsL.reverse ++ .ref a :: rest) (hW : 2 * g.monitorRoom + (rest.map fun v => v.category).sum ≤ W)
    (hdg : decode c.code g.pc = .ok (.invokevirtual index, 3)) (eT : T.heap = h)
    (k : ∀ (v : Option Value) (T' : State) (L : List Loc), Stand p l e R s m args below meth c T' (locs ++ L) (cells + rm.cells) (slots + rm.slots) → Qc v T'.heap L → GG p e below s rc rs Q T' { g with pc := g.pc + 3, stack := v.toList ++ rest }) : GG p e below s rc rs Q T g := by
  obtain ⟨cq, q, q'⟩ := E.cell
  have hpr : s.PrivateAt y := Cond.privateMethod_at (mvP hZ w6 (args := #[]))
  obtain ⟨c1, k1, i1, i2, -, i4, -⟩ := Cond.instantiable_spec (show (Jvm.Cond.instantiable y.cls kk).before args s = true from mv hZ w5)
  have hsel : (Jvm.Cond.selects y.cls y y).before args s = true := selects_self_of_private i1 i2 (Bool.or_eq_false_iff.mp i4).1 hpr (mvT hZ w2) hy
  obtain ⟨v, vm₁, ⟨T', L', k', n'⟩, -, X', ⟨L, hQ, q1, q2, q3⟩, st⟩ := X.privateBack hx hown (mvT hZ w1) (mvT hZ w2) hsel hpr (mvT hZ w4) hy (backOf (W := W) hM hZ w4 w3 hf hl) hg hsize (Steps.refl _) (by rw [eT]; exact q) q' hlen hstack hW hdg (fun _ _ => ⟨rfl, eT, hc, hs⟩)
  dsimp only [Pt.U, Pt.locs, Pt.cells, Pt.slots] at X' q1 q2 q3 st hQ
  subst q1 q2 q3
  exact own_go (fun _ => st.trans) (k v T' L X' hQ)
theorem own_ret (X : Stand p l e R s m args below meth c T locs cells slots) (hx : p.tables.exec = Jvm.exec) (hlk : meth.locks = false) {t : FieldType} {w : Value} {i : Instr} {pc : Nat} {Ls : Array Slot} {rest : List Value} (hret : meth.sig.returnType = some t) (hn : narrow t w = w)
    (hi : (i = .ireturn ∧ (t = .int ∨ t = .boolean ∨ t = .byte ∨ t = .char ∨ t = .short) ∧ ∃ z, w = .int z) ∨ (i = .lreturn ∧ t = .long ∧ ∃ z, w = .long z) ∨ (i = .dreturn ∧ t = .double ∧ ∃ z, w = .double z) ∨ (i = .freturn ∧ t = .float ∧ ∃ z, w = .float z) ∨ (i = .areturn ∧ t.isReference = true ∧ w.isRef = true))
    (hd : decode c.code pc = .ok (i, 1)) (hc : cells ≤ rc) (hs : slots ≤ rs) (hQ : Q (some w) T.heap locs) : GG p e below s rc rs Q T (mkF m pc Ls (w :: rest)) := by
  obtain ⟨fs, hr, hrun, hended, hW, hsame⟩ := X.leave (v := some w) (fun h => by rw [hret] at h; cases h) hlk
  exact ⟨_, _, retOut X hx hret hn hi hd hr, hrun, hended, _, _, rfl, hQ, ⟨_, rfl⟩, hW, hsame.mono hc hs⟩
theorem own_retV (X : Stand p l e R s m args below meth c T locs cells slots) (hx : p.tables.exec = Jvm.exec) (hlk : meth.locks = false) {pc : Nat} {Ls : Array Slot} (hret : meth.sig.returnType = none)
    (hd : decode c.code pc = .ok (.return_, 1)) (hc : cells ≤ rc) (hs : slots ≤ rs) (hQ : Q none T.heap locs) : GG p e below s rc rs Q T (mkF m pc Ls []) := by
  obtain ⟨fs, hr, hrun, hended, hW, hsame⟩ := X.leave (v := none) (fun _ => rfl) hlk
  exact ⟨_, _, X.returnOut hx hret hd hr, hrun, hended, _, _, rfl, hQ, ⟨_, rfl⟩, hW, hsame.mono hc hs⟩
theorem own_nZ {P : Prop} [Decidable P] : narrow .boolean (.int (if P then 1 else 0)) = .int (if P then 1 else 0) := by split <;> rfl
/-- an array of values, all of them named -/
def Arx (Z : State) (h : Heap) (a : Addr) (ty : FieldType) (vs : List Value) : Prop := vs.length < 2 ^ 31 ∧ ∃ k dv, Arv Z h a k ty (Int32.ofNat vs.length) vs dv
variable {a b : Addr} {ty : FieldType} {vs : List Value}
theorem own_ofNat {n : Nat} (q : n < 2 ^ 31) : (Int32.ofNat n).toInt = n := Int32.toInt_ofNat_of_lt q
theorem own_clamp {n : Nat} (q : n < 2 ^ 31) : (Int32.ofNat n).toNatClampNeg = n := by simp only [Int32.toNatClampNeg, own_ofNat q]; rfl
theorem Arx.lt (V : Arx Z h a ty vs) : a < h.size := by obtain ⟨_, k, dv, V⟩ := V; exact V.lt
theorem Arx.ext (V : Arx Z h a ty vs) (E : Ext h h') : Arx Z h' a ty vs := by obtain ⟨q, k, dv, V⟩ := V; exact ⟨q, k, dv, V.ext E⟩
theorem Arx.other {sl : Nat} {v : Value} (V : Arx Z h b ty vs) (W : Wr h h' a sl v) (n : b ≠ a) : Arx Z h' b ty vs := by obtain ⟨q, k, dv, V⟩ := V; exact ⟨q, k, dv, V.other W n⟩
theorem Arx.keep {ws : List Addr} (V : Arx Z h a ty vs) (K : Keep h h' ws) (n : a ∉ ws) : Arx Z h' a ty vs := by obtain ⟨q, k, dv, V⟩ := V; exact ⟨q, k, dv, V.keep K n⟩
theorem Arx.open {j : Int32} {v : Value} (V : Arx Z h a ty vs) (h0 : ¬ j < 0) (hv : vs[j.toNatClampNeg]? = some v) : ∃ cl, Arr Z h a cl ty ∧ ¬ (j < 0 ∨ cl.slots.size ≤ j.toNatClampNeg) ∧ cl.slots[j.toNatClampNeg]? = some v := by
  obtain ⟨q, k, dv, cl, A, -, S, -, H, -⟩ := V
  rw [own_clamp q] at S
  have hl := (List.getElem?_eq_some_iff.mp hv).1
  have e := H j.toNatClampNeg (by rw [S]; exact hl)
  rw [List.getD_eq_getElem?_getD, hv] at e
  exact ⟨cl, A, fun q' => q'.elim h0 (by rw [S]; exact Nat.not_le.mpr hl), e⟩
theorem own_len (X : Stand p l e R s m args below meth c T locs cells slots) (hx : p.tables.exec = Jvm.exec) (hZ : Z.Warmed39 s.vm) (eT : T.heap = h) (V : Arx Z h a ty vs) {g : JFrame} (hg : g.method = m) {rest : List Value} (hs : g.stack = .ref a :: rest) (hd : decode c.code g.pc = .ok (.arraylength, 1)) :
    ∀ t, Steps p.tables e below (T.setTop { g with pc := g.pc + 1, stack := .int (Int32.ofNat vs.length) :: rest }) t → Steps p.tables e below (T.setTop g) t := fun t k => by
  obtain ⟨q, k', dv, cl, A, -, S, N, -⟩ := V
  refine X.arraylength hx (by rw [eT]; exact A.1) (State.isArrayOf_alike hZ.alike A.2.1) hg hs hd _ ?_
  rw [len_of S N]; exact k
theorem own_iaload (X : Stand p l e R s m args below meth c T locs cells slots) (hx : p.tables.exec = Jvm.exec) (hZ : Z.Warmed39 s.vm) (eT : T.heap = h) (V : Arx Z h a .int vs) {j : Int32} {v : Value} (h0 : ¬ j < 0) (hv : vs[j.toNatClampNeg]? = some v) {g : JFrame} (hg : g.method = m) {rest : List Value} (hs : g.stack = .int j :: .ref a :: rest) (hd : decode c.code g.pc = .ok (.iaload, 1)) :
    ∀ t, Steps p.tables e below (T.setTop { g with pc := g.pc + 1, stack := v :: rest }) t → Steps p.tables e below (T.setTop g) t := fun t k => by
  obtain ⟨cl, A, h1, h2⟩ := V.open h0 hv
  exact X.iaload hx (by rw [eT]; exact A.1) (State.isArrayOf_alike hZ.alike A.2.1) A.2.2 h1 h2 hg hs hd _ k
theorem own_laload (X : Stand p l e R s m args below meth c T locs cells slots) (hx : p.tables.exec = Jvm.exec) (hZ : Z.Warmed39 s.vm) (eT : T.heap = h) (V : Arx Z h a .long vs) {j : Int32} {v : Value} (h0 : ¬ j < 0) (hv : vs[j.toNatClampNeg]? = some v) {g : JFrame} (hg : g.method = m) {rest : List Value} (hs : g.stack = .int j :: .ref a :: rest) (hd : decode c.code g.pc = .ok (.laload, 1)) :
    ∀ t, Steps p.tables e below (T.setTop { g with pc := g.pc + 1, stack := v :: rest }) t → Steps p.tables e below (T.setTop g) t := fun t k => by
  obtain ⟨cl, A, h1, h2⟩ := V.open h0 hv
  exact X.laload hx (by rw [eT]; exact A.1) (State.isArrayOf_alike hZ.alike A.2.1) A.2.2 h1 h2 hg hs hd _ k
theorem own_caload (X : Stand p l e R s m args below meth c T locs cells slots) (hx : p.tables.exec = Jvm.exec) (hZ : Z.Warmed39 s.vm) (eT : T.heap = h) (V : Arx Z h a .char vs) {j : Int32} {v : Value} (h0 : ¬ j < 0) (hv : vs[j.toNatClampNeg]? = some v) {g : JFrame} (hg : g.method = m) {rest : List Value} (hs : g.stack = .int j :: .ref a :: rest) (hd : decode c.code g.pc = .ok (.caload, 1)) :
    ∀ t, Steps p.tables e below (T.setTop { g with pc := g.pc + 1, stack := v :: rest }) t → Steps p.tables e below (T.setTop g) t := fun t k => by
  obtain ⟨cl, A, h1, h2⟩ := V.open h0 hv
  exact X.caload hx (by rw [eT]; exact A.1) (State.isArrayOf_alike hZ.alike A.2.1) A.2.2 h1 h2 hg hs hd _ k
theorem own_baload (X : Stand p l e R s m args below meth c T locs cells slots) (hx : p.tables.exec = Jvm.exec) (hZ : Z.Warmed39 s.vm) (eT : T.heap = h) (V : Arx Z h a .byte vs) {j : Int32} {v : Value} (h0 : ¬ j < 0) (hv : vs[j.toNatClampNeg]? = some v) {g : JFrame} (hg : g.method = m) {rest : List Value} (hs : g.stack = .int j :: .ref a :: rest) (hd : decode c.code g.pc = .ok (.baload, 1)) :
    ∀ t, Steps p.tables e below (T.setTop { g with pc := g.pc + 1, stack := v :: rest }) t → Steps p.tables e below (T.setTop g) t := fun t k => by
  obtain ⟨cl, A, h1, h2⟩ := V.open h0 hv
  exact X.baloadBytes hx (by rw [eT]; exact A.1) (State.isArrayOf_alike hZ.alike A.2.1) A.2.2 h1 h2 hg hs hd _ k
theorem own_aaload (X : Stand p l e R s m args below meth c T locs cells slots) (hx : p.tables.exec = Jvm.exec) (hZ : Z.Warmed39 s.vm) (eT : T.heap = h) (V : Arx Z h a ty vs) (ht : ty.isReference = true) {j : Int32} {v : Value} (h0 : ¬ j < 0) (hv : vs[j.toNatClampNeg]? = some v) {g : JFrame} (hg : g.method = m) {rest : List Value} (hs : g.stack = .int j :: .ref a :: rest) (hd : decode c.code g.pc = .ok (.aaload, 1)) :
    ∀ t, Steps p.tables e below (T.setTop { g with pc := g.pc + 1, stack := v :: rest }) t → Steps p.tables e below (T.setTop g) t := fun t k => by
  obtain ⟨cl, A, h1, h2⟩ := V.open h0 hv
  exact X.aaload hx (by rw [eT]; exact A.1) (State.isArrayOf_alike hZ.alike A.2.1) ht A.2.2 h1 h2 hg hs hd _ k
theorem Arx.put {j : Int32} {v : Value} (V : Arx Z h a ty vs) (h0 : ¬ j < 0) (hj : j.toNatClampNeg < vs.length) (hv : fits ty v = true) : ∃ cl, Arr Z h a cl ty ∧ ¬ (j < 0 ∨ cl.slots.size ≤ j.toNatClampNeg) ∧ ∀ {h' : Heap}, Wr h h' a j.toNatClampNeg v → Arx Z h' a ty (vs.set j.toNatClampNeg v) := by
  obtain ⟨q, k, dv, cl, A, q1, S, N, H, G⟩ := V
  refine ⟨cl, A, fun q' => q'.elim h0 ?_, fun W => ⟨by rw [List.length_set]; exact q, k, dv, ?_⟩⟩
  · rw [S, own_clamp q]; exact Nat.not_le.mpr hj
  · rw [List.length_set]; exact Arv.set A q1 S N H G hv W _ rfl hj
theorem own_iastore (X : Stand p l e R s m args below meth c T locs cells slots) (hx : p.tables.exec = Jvm.exec) (hZ : Z.Warmed39 s.vm) (eT : T.heap = h) (V : Arx Z h a .int vs) {j x : Int32} (h0 : ¬ j < 0) (hj : j.toNatClampNeg < vs.length) {g : JFrame} (hg : g.method = m) {rest : List Value} (hs : g.stack = .int x :: .int j :: .ref a :: rest) (hd : decode c.code g.pc = .ok (.iastore, 1)) :
    ∃ T' h', Stand p l e R s m args below meth c T' (locs ++ [⟨a, j.toNatClampNeg⟩]) cells slots ∧ T'.heap = h' ∧ Wr h h' a j.toNatClampNeg (.int x) ∧ Arx Z h' a .int (vs.set j.toNatClampNeg (.int x)) ∧ ∀ t, Steps p.tables e below (T'.setTop { g with pc := g.pc + 1, stack := rest }) t → Steps p.tables e below (T.setTop g) t := by
  obtain ⟨cl, A, h1, h2⟩ := V.put (v := .int x) h0 hj rfl
  obtain ⟨T', h', X', e', W, st⟩ := stI X hx hZ eT A h1 hg hs hd
  exact ⟨T', h', X', e', W, h2 W, st⟩
theorem own_lastore (X : Stand p l e R s m args below meth c T locs cells slots) (hx : p.tables.exec = Jvm.exec) (hZ : Z.Warmed39 s.vm) (eT : T.heap = h) (V : Arx Z h a .long vs) {j : Int32} {x : Int64} (h0 : ¬ j < 0) (hj : j.toNatClampNeg < vs.length) {g : JFrame} (hg : g.method = m) {rest : List Value} (hs : g.stack = .long x :: .int j :: .ref a :: rest) (hd : decode c.code g.pc = .ok (.lastore, 1)) :
    ∃ T' h', Stand p l e R s m args below meth c T' (locs ++ [⟨a, j.toNatClampNeg⟩]) cells slots ∧ T'.heap = h' ∧ Wr h h' a j.toNatClampNeg (.long x) ∧ Arx Z h' a .long (vs.set j.toNatClampNeg (.long x)) ∧ ∀ t, Steps p.tables e below (T'.setTop { g with pc := g.pc + 1, stack := rest }) t → Steps p.tables e below (T.setTop g) t := by
  obtain ⟨cl, A, h1, h2⟩ := V.put (v := .long x) h0 hj rfl
  obtain ⟨T', h', X', e', W, st⟩ := stJ X hx hZ eT A h1 hg hs hd
  exact ⟨T', h', X', e', W, h2 W, st⟩
theorem own_castore (X : Stand p l e R s m args below meth c T locs cells slots) (hx : p.tables.exec = Jvm.exec) (hZ : Z.Warmed39 s.vm) (eT : T.heap = h) (V : Arx Z h a .char vs) {j x : Int32} (h0 : ¬ j < 0) (hj : j.toNatClampNeg < vs.length) {g : JFrame} (hg : g.method = m) {rest : List Value} (hs : g.stack = .int x :: .int j :: .ref a :: rest) (hd : decode c.code g.pc = .ok (.castore, 1)) :
    ∃ T' h', Stand p l e R s m args below meth c T' (locs ++ [⟨a, j.toNatClampNeg⟩]) cells slots ∧ T'.heap = h' ∧ Wr h h' a j.toNatClampNeg (.int (nar .char x)) ∧ Arx Z h' a .char (vs.set j.toNatClampNeg (.int (nar .char x))) ∧ ∀ t, Steps p.tables e below (T'.setTop { g with pc := g.pc + 1, stack := rest }) t → Steps p.tables e below (T.setTop g) t := by
  obtain ⟨cl, A, h1, h2⟩ := V.put (v := .int (nar .char x)) h0 hj (fits_nar_char _)
  obtain ⟨T', h', X', e', W, st⟩ := stC X hx hZ eT A h1 hg hs hd
  exact ⟨T', h', X', e', W, h2 W, st⟩
theorem own_bastore (X : Stand p l e R s m args below meth c T locs cells slots) (hx : p.tables.exec = Jvm.exec) (hZ : Z.Warmed39 s.vm) (eT : T.heap = h) (V : Arx Z h a .byte vs) {j x : Int32} (h0 : ¬ j < 0) (hj : j.toNatClampNeg < vs.length) {g : JFrame} (hg : g.method = m) {rest : List Value} (hs : g.stack = .int x :: .int j :: .ref a :: rest) (hd : decode c.code g.pc = .ok (.bastore, 1)) :
    ∃ T' h', Stand p l e R s m args below meth c T' (locs ++ [⟨a, j.toNatClampNeg⟩]) cells slots ∧ T'.heap = h' ∧ Wr h h' a j.toNatClampNeg (.int (nar .byte x)) ∧ Arx Z h' a .byte (vs.set j.toNatClampNeg (.int (nar .byte x))) ∧ ∀ t, Steps p.tables e below (T'.setTop { g with pc := g.pc + 1, stack := rest }) t → Steps p.tables e below (T.setTop g) t := by
  obtain ⟨cl, A, h1, h2⟩ := V.put (v := .int (nar .byte x)) h0 hj (fits_nar_byte _)
  obtain ⟨T', h', X', e', W, st⟩ := stB X hx hZ eT A h1 hg hs hd
  exact ⟨T', h', X', e', W, h2 W, st⟩
theorem own_newarr (X : Stand p l e R s m args below meth c T locs cells slots) (hx : p.tables.exec = Jvm.exec) (hZ : Z.Warmed39 s.vm) {aty : ArrayType} (w : (Jvm.Cond.arrayClass (newarray.typeOf aty)).before a0 Z = true) (eT : T.heap = h) {g : JFrame} (hg : g.method = m) (hd : decode c.code g.pc = .ok (.newarray aty, 2)) {n : Int32} {rest : List Value} (hs : g.stack = .int n :: rest)
    (hn : ¬ n < 0) {cap : Nat} (hcap : n.toNatClampNeg ≤ cap) (hb : cap * 8 ≤ 536870912) (hc : cells + 1 ≤ R.cells) (hl : slots + cap ≤ R.slots) {ad : String} (had : "[" ++ (newarray.typeOf aty).toString = ad) :
    ∃ T' h' a, a = h.size ∧ Stand p l e R s m args below meth c T' locs (cells + 1) (slots + cap) ∧ T'.heap = h' ∧ Ext h h' ∧ Arx Z h' a (newarray.typeOf aty) (List.replicate n.toNatClampNeg (defaultValue (newarray.typeOf aty))) ∧ Exa Z h' a ad ∧
      ∀ t, Steps p.tables e below (T'.setTop { g with pc := g.pc + 2, stack := .ref a :: rest }) t → Steps p.tables e below (T.setTop g) t := by
  obtain ⟨T', h', cA, X', e', E, A, Ex, st⟩ := newPE X hx hZ w eT hg hd hs hn hcap hb hc hl had
  have b := back32 hn
  refine ⟨T', h', _, rfl, X', e', E, ⟨by rw [List.length_replicate]; exact b.2, cA, defaultValue (newarray.typeOf aty), ?_⟩, Ex, st⟩
  rw [List.length_replicate, show Int32.ofNat n.toNatClampNeg = n from b.1]
  exact (Arv.new A hn).pad (pad_rep [] _ _)
theorem own_clone (X : Stand p l e R s m args below meth c T locs cells slots) (hx : p.tables.exec = Jvm.exec) (hZ : Z.Warmed39 s.vm) {own ad : String} {index : Nat} (hown : s.vm.findClass own = some m.cls)
    (w1 : (Jvm.Cond.methodLink own index ⟨ad, "clone", "()Ljava/lang/Object;"⟩).before a0 Z = true) (w2 : (Jvm.Cond.sameMethod ad "java/lang/Object" "clone" "()Ljava/lang/Object;").before a0 Z = true) (w3 : (Jvm.Cond.native ⟨"java/lang/Object", "clone", "()Ljava/lang/Object;"⟩).before a0 Z = true)
    (w4 : (Jvm.Cond.instanceMethod ⟨"java/lang/Object", "clone", "()Ljava/lang/Object;"⟩).before a0 Z = true) (w5 : (Jvm.Cond.selects ad ⟨ad, "clone", "()Ljava/lang/Object;"⟩ ⟨"java/lang/Object", "clone", "()Ljava/lang/Object;"⟩).before a0 Z = true) (w6 : (Jvm.Cond.castable ad "java/lang/Cloneable").before a0 Z = true)
    (eT : T.heap = h) (V : Arx Z h a ty vs) (E : Exa Z h a ad) {g : JFrame} (hg : g.method = m) (hsize : g.locals.size = c.maxLocals) {rest : List Value} (hst : g.stack = .ref a :: rest) (hd : decode c.code g.pc = .ok (.invokevirtual index, 3))
    (hf : 1 ≤ R.frames) {W cap : Nat} (hW : 2 * g.monitorRoom + (rest.map fun v => v.category).sum ≤ W) (hl : W + 14 ≤ R.locals) (hcap : vs.length ≤ cap) (hc : cells + 1 ≤ R.cells) (hsl : slots + cap ≤ R.slots) :
    ∃ T' h' b, b = h.size ∧ Stand p l e R s m args below meth c T' locs (cells + 1) (slots + cap) ∧ T'.heap = h' ∧ Ext h h' ∧ Arx Z h' b ty vs ∧ Exa Z h' b ad ∧
      ∀ t, Steps p.tables e below (T'.setTop { g with pc := g.pc + 3, stack := .ref b :: rest }) t → Steps p.tables e below (T.setTop g) t := by
  obtain ⟨q, k, dv, V⟩ := V
  obtain ⟨T', h', X', e', ex, V', E', st⟩ := cloneH X hx hZ hown w1 w2 w3 w4 w5 w6 eT V.arh E hg hsize hst hd hf hW hl (by rw [own_clamp q]; exact hcap) hc hsl
  exact ⟨T', h', _, rfl, X', e', ex, ⟨q, k, dv, V'⟩, E', st⟩
end Own
section OwnF
variable {p : Program} {l : Launch} {e : Env} {R : Room} {s : State} {m : MethodId} {args : Array Value} {below : List Frame} {meth : Method} {c : Code} {T : State} {locs : List Loc} {cells slots : Nat} {Z : State} {a0 : Array Value} {h h' : Heap} {a b : Addr} {ty : FieldType} {vs : List Value}
theorem own_daload (X : Stand p l e R s m args below meth c T locs cells slots) (hx : p.tables.exec = Jvm.exec) (hZ : Z.Warmed39 s.vm) (eT : T.heap = h) (V : Arx Z h a .double vs) {j : Int32} {v : Value} (h0 : ¬ j < 0) (hv : vs[j.toNatClampNeg]? = some v) {g : JFrame} (hg : g.method = m) {rest : List Value} (hs : g.stack = .int j :: .ref a :: rest) (hd : decode c.code g.pc = .ok (.daload, 1)) :
    ∀ t, Steps p.tables e below (T.setTop { g with pc := g.pc + 1, stack := v :: rest }) t → Steps p.tables e below (T.setTop g) t := fun t k => by
  obtain ⟨cl, A, h1, h2⟩ := V.open h0 hv
  exact X.daload hx (by rw [eT]; exact A.1) (State.isArrayOf_alike hZ.alike A.2.1) A.2.2 h1 h2 hg hs hd _ k
theorem own_faload (X : Stand p l e R s m args below meth c T locs cells slots) (hx : p.tables.exec = Jvm.exec) (hZ : Z.Warmed39 s.vm) (eT : T.heap = h) (V : Arx Z h a .float vs) {j : Int32} {v : Value} (h0 : ¬ j < 0) (hv : vs[j.toNatClampNeg]? = some v) {g : JFrame} (hg : g.method = m) {rest : List Value} (hs : g.stack = .int j :: .ref a :: rest) (hd : decode c.code g.pc = .ok (.faload, 1)) :
    ∀ t, Steps p.tables e below (T.setTop { g with pc := g.pc + 1, stack := v :: rest }) t → Steps p.tables e below (T.setTop g) t := fun t k => by
  obtain ⟨cl, A, h1, h2⟩ := V.open h0 hv
  exact X.faload hx (by rw [eT]; exact A.1) (State.isArrayOf_alike hZ.alike A.2.1) A.2.2 h1 h2 hg hs hd _ k
theorem own_dastore (X : Stand p l e R s m args below meth c T locs cells slots) (hx : p.tables.exec = Jvm.exec) (hZ : Z.Warmed39 s.vm) (eT : T.heap = h) (V : Arx Z h a .double vs) {j : Int32} {x : UInt64} (h0 : ¬ j < 0) (hj : j.toNatClampNeg < vs.length) {g : JFrame} (hg : g.method = m) {rest : List Value} (hs : g.stack = .double x :: .int j :: .ref a :: rest) (hd : decode c.code g.pc = .ok (.dastore, 1)) :
    ∃ T' h', Stand p l e R s m args below meth c T' (locs ++ [⟨a, j.toNatClampNeg⟩]) cells slots ∧ T'.heap = h' ∧ Wr h h' a j.toNatClampNeg (.double x) ∧ Arx Z h' a .double (vs.set j.toNatClampNeg (.double x)) ∧ ∀ t, Steps p.tables e below (T'.setTop { g with pc := g.pc + 1, stack := rest }) t → Steps p.tables e below (T.setTop g) t := by
  obtain ⟨cl, A, h1, h2⟩ := V.put (v := .double x) h0 hj rfl
  obtain ⟨T', h', X', e', W, st⟩ := stD X hx hZ eT A h1 hg hs hd
  exact ⟨T', h', X', e', W, h2 W, st⟩
theorem own_fastore (X : Stand p l e R s m args below meth c T locs cells slots) (hx : p.tables.exec = Jvm.exec) (hZ : Z.Warmed39 s.vm) (eT : T.heap = h) (V : Arx Z h a .float vs) {j : Int32} {x : UInt32} (h0 : ¬ j < 0) (hj : j.toNatClampNeg < vs.length) {g : JFrame} (hg : g.method = m) {rest : List Value} (hs : g.stack = .float x :: .int j :: .ref a :: rest) (hd : decode c.code g.pc = .ok (.fastore, 1)) :
    ∃ T' h', Stand p l e R s m args below meth c T' (locs ++ [⟨a, j.toNatClampNeg⟩]) cells slots ∧ T'.heap = h' ∧ Wr h h' a j.toNatClampNeg (.float x) ∧ Arx Z h' a .float (vs.set j.toNatClampNeg (.float x)) ∧ ∀ t, Steps p.tables e below (T'.setTop { g with pc := g.pc + 1, stack := rest }) t → Steps p.tables e below (T.setTop g) t := by
  obtain ⟨cl, A, h1, h2⟩ := V.put (v := .float x) h0 hj rfl
  obtain ⟨T', h', X', e', W, st⟩ := stF X hx hZ eT A h1 hg hs hd
  exact ⟨T', h', X', e', W, h2 W, st⟩
theorem own_i2dn (x : Int32) : Jvm.Free.Fl.NoNaN64 (FP.i2d x) := nn_w (i2d_w x)
theorem own_i2fn (x : Int32) : Jvm.Free.Fl.NoNaN32 (FP.i2f x) := nn_w32 (i2f_w x)
end OwnF
theorem own_s1 : ∀ k : Fin 32, ¬ ((1 : Int32) <<< (Int32.ofNat k.val)) = 0 := by decide +kernel
theorem own_s2 (y : Int32) : ¬ ((1 : Int32) <<< (y &&& 31)) = 0 := by
  have h := c_mask y 31 5 (by decide) (by decide)
  have e : y &&& 31 = Int32.ofNat (y &&& 31).toInt.toNat := by
    rw [← Int32.toInt_inj, own_ofNat (by omega)]; omega
  rw [e]
  exact own_s1 ⟨(y &&& 31).toInt.toNat, by omega⟩
theorem own_fd (p sc : Int32) (h : ¬ sc = 0) : Jvm.Free.Fl.NoNaN32 (FP.fdiv (FP.i2f p) (FP.i2f sc)) := Jvm.Free.Fl.fdiv_out (own_i2fn p) (by rw [i2f_w]; exact Jvm.Free.Fl.l2f_fin _) (Jvm.Free.Fl.i2f_nz h)
theorem d1_0 : decode prog_15_method_5_code 0 = .ok (.iload_n 1, 1) := by decide +kernel
theorem d1_1 : decode prog_15_method_5_code 1 = .ok (.newarray .double, 2) := by decide +kernel
theorem d1_3 : decode prog_15_method_5_code 3 = .ok (.astore_n 2, 1) := by decide +kernel
theorem d1_4 : decode prog_15_method_5_code 4 = .ok (.iconst 0, 1) := by decide +kernel
theorem d1_5 : decode prog_15_method_5_code 5 = .ok (.istore_n 3, 1) := by decide +kernel
theorem d1_6 : decode prog_15_method_5_code 6 = .ok (.iload_n 3, 1) := by decide +kernel
theorem d1_7 : decode prog_15_method_5_code 7 = .ok (.iload_n 1, 1) := by decide +kernel
theorem d1_8 : decode prog_15_method_5_code 8 = .ok (.if_icmp .ge 16, 3) := by decide +kernel
theorem d1_24 : decode prog_15_method_5_code 24 = .ok (.aload_n 2, 1) := by decide +kernel
theorem d1_25 : decode prog_15_method_5_code 25 = .ok (.areturn, 1) := by decide +kernel
theorem pn_com_example_hadamint_hadamint_Queries : plainName "com/example/hadamint/hadamint/Queries" = true := by first | (simp [plainName, overriddenIn]; done) | decide +kernel
theorem ef_1 (m : MethodId) (x0 : Addr) (x1 : Int32) : entryFrame m #[(.ref x0), (.int x1)] 4 = mkF m 0 #[.val (.ref x0), .val (.int x1), .unset, .unset] [] := by first | (simp [entryFrame, mkF, argsToLocals, Value.category]; done) | rfl
def Q1_0 (Z : State) (a1 : Addr) (f0 f1 f2 f3 : UInt32) (h0 : Heap) (n0 : Nat) (v : Option Value) (h : Heap) (L : List Loc) : Prop := ∃ b, v = some (.ref b) ∧ Fr n0 L ∧ h0.size ≤ b ∧ Keep h0 h [] ∧ Arx Z h b .double []
set_option maxRecDepth 65536 in
set_option maxHeartbeats 40000000 in
theorem rm1_0 (l : Launch) (Z : State) (a0 : Array Value) (hw : ∀ d ∈ tables_1, d.before a0 Z = true) (ws : List Jvm.Cond) (a1 : Addr) (f0 f1 f2 f3 : UInt32) (h0 : Heap) (n0 : Nat) (Z0 : n0 ≤ h0.size) (V_1 : Arx Z h0 a1 .float [(.float f0), (.float f1), (.float f2), (.float f3)]) (nn0 : Jvm.Free.Fl.NoNaN32 f0) (nn1 : Jvm.Free.Fl.NoNaN32 f1) (nn2 : Jvm.Free.Fl.NoNaN32 f2) (nn3 : Jvm.Free.Fl.NoNaN32 f3) :
    own_CT l Z (⟨"com/example/hadamint/hadamint/Queries", "widened", "([FI)[D"⟩ : MethodName) prog_15_method_5_code 4 (some (.array .double)) ws ({ frames := 0, cells := 1, slots := 0, locals := 0 } : Room) #[(.ref a1), (.int (0 : Int32))] h0 (Q1_0 Z a1 f0 f1 f2 f3 h0 n0) := by
  refine MetFree.of_bodySF (plainFor_of_name pn_com_example_hadamint_hadamint_Queries) hisR ?_
  intro p e s m args below meth c s₁ Bd hml0 hP hK
  obtain ⟨rfl, hZ, hh⟩ := hP
  have hx := Bd.exec
  have hby := Bd.bytes
  have hml : c.maxLocals = 4 := hml0
  have hown : s.vm.findClass "com/example/hadamint/hadamint/Queries" = some m.cls := findClass_of_methodNamed Bd.named
  have hnm := (name_of_methodNamed Bd.named Bd.method).1
  have hlk : meth.locks = false := BodyLoose.notSynchronized Bd
  have X0 : Stand p l e ({ frames := 0, cells := 1, slots := 0, locals := 0 } : Room) s m #[(.ref a1), (.int (0 : Int32))] below meth c s₁ [] 0 0 := Stand.of_body Bd
  have e0 : s₁.heap = h0 := by rw [← hh, Bd.state]; rfl
  have N0 := Fr.nil n0
  show GG p e below s ({ frames := 0, cells := 1, slots := 0, locals := 0 } : Room).cells ({ frames := 0, cells := 1, slots := 0, locals := 0 } : Room).slots (Q1_0 Z a1 f0 f1 f2 f3 h0 n0) s₁ (entryFrame m #[(.ref a1), (.int (0 : Int32))] 4)
  refine own_in (ef_1 m a1 (0 : Int32)) ?_
  show GG _ _ _ _ _ _ _ s₁ (mkF m 0 #[.val (.ref a1), .val (.int (0 : Int32)), .unset, .unset] [])
  refine own_go (fun _ => XS.iloadN X0.here hx rfl (hb hby d1_0) rfl) ?_
  show GG _ _ _ _ _ _ _ s₁ (mkF m 1 #[.val (.ref a1), .val (.int (0 : Int32)), .unset, .unset] [(.int (0 : Int32))])
  have K0 := Keep.refl h0 []
  obtain ⟨T1, h1, ob1, g1, X1, e1, E1, V_ob1, E_ob1, st1⟩ := own_newarr X0 hx hZ (hw _ (List.mem_of_getElem? (i := 6) rfl)) e0 (g := (mkF m 1 #[.val (.ref a1), .val (.int (0 : Int32)), .unset, .unset] [(.int (0 : Int32))])) rfl (hb hby d1_1) rfl (by decide) (cap := 0) (by decide) (by decide) (by decide) (by decide) (ad := "[D") (by decide)
  have ne_a1_ob1 : a1 ≠ ob1 := Nat.ne_of_lt (Nat.lt_of_lt_of_le V_1.lt (Nat.le_of_eq g1.symm))
  have sz_ob1 : h0.size ≤ ob1 := Nat.le_trans K0.1 (Nat.le_of_eq g1.symm)
  have g_ob1 : n0 ≤ ob1 := Nat.le_trans Z0 sz_ob1
  have V_1 := V_1.ext E1
  have K0 := K0.ext E1
  have V_ob1 : Arx Z h1 ob1 .double [] := V_ob1
  refine own_go (fun _ => st1 _) ?_
  show GG _ _ _ _ _ _ _ T1 (mkF m 3 #[.val (.ref a1), .val (.int (0 : Int32)), .unset, .unset] [(.ref ob1)])
  refine own_go (fun _ => XS.astoreN X1.here hx rfl (hb hby d1_3) rfl rfl (l' := #[.val (.ref a1), .val (.int (0 : Int32)), .val (.ref ob1), .unset]) rfl) ?_
  show GG _ _ _ _ _ _ _ T1 (mkF m 4 #[.val (.ref a1), .val (.int (0 : Int32)), .val (.ref ob1), .unset] [])
  refine own_go (fun _ => XS.iconst X1.here hx rfl (hb hby d1_4)) ?_
  show GG _ _ _ _ _ _ _ T1 (mkF m 5 #[.val (.ref a1), .val (.int (0 : Int32)), .val (.ref ob1), .unset] [(.int (0 : Int32))])
  refine own_go (fun _ => XS.istoreN X1.here hx rfl (hb hby d1_5) rfl (l' := #[.val (.ref a1), .val (.int (0 : Int32)), .val (.ref ob1), .val (.int (0 : Int32))]) rfl) ?_
  show GG _ _ _ _ _ _ _ T1 (mkF m 6 #[.val (.ref a1), .val (.int (0 : Int32)), .val (.ref ob1), .val (.int (0 : Int32))] [])
  refine own_go (fun _ => XS.iloadN X1.here hx rfl (hb hby d1_6) rfl) ?_
  show GG _ _ _ _ _ _ _ T1 (mkF m 7 #[.val (.ref a1), .val (.int (0 : Int32)), .val (.ref ob1), .val (.int (0 : Int32))] [(.int (0 : Int32))])
  refine own_go (fun _ => XS.iloadN X1.here hx rfl (hb hby d1_7) rfl) ?_
  show GG _ _ _ _ _ _ _ T1 (mkF m 8 #[.val (.ref a1), .val (.int (0 : Int32)), .val (.ref ob1), .val (.int (0 : Int32))] [(.int (0 : Int32)), (.int (0 : Int32))])
  have hc8 : ¬ ((0 : Int32) < (0 : Int32)) := by decide
  refine own_go (fun _ => XS.icmpYes X1.here hx rfl (pc0 := 8) (pc' := 24) rfl (hb hby d1_8) rfl (flt hc8).2.1 (by decide) (by decide)) ?_
  show GG _ _ _ _ _ _ _ T1 (mkF m 24 #[.val (.ref a1), .val (.int (0 : Int32)), .val (.ref ob1), .val (.int (0 : Int32))] [])
  refine own_go (fun _ => XS.aloadN X1.here hx rfl (hb hby d1_24) rfl rfl) ?_
  show GG _ _ _ _ _ _ _ T1 (mkF m 25 #[.val (.ref a1), .val (.int (0 : Int32)), .val (.ref ob1), .val (.int (0 : Int32))] [(.ref ob1)])
  refine own_ret X1 hx hlk (t := (.array .double)) (w := (.ref ob1)) Bd.returns rfl (Or.inr (Or.inr (Or.inr (Or.inr ⟨rfl, rfl, rfl⟩)))) (hb hby d1_25) (by decide) (by decide) ?_
  show Q1_0 Z a1 f0 f1 f2 f3 h0 n0 (some (.ref ob1)) T1.heap _
  rw [e1]
  exact ⟨_, rfl, N0, sz_ob1, K0, V_ob1⟩
theorem d1_11 : decode prog_15_method_5_code 11 = .ok (.aload_n 2, 1) := by decide +kernel
theorem d1_12 : decode prog_15_method_5_code 12 = .ok (.iload_n 3, 1) := by decide +kernel
theorem d1_13 : decode prog_15_method_5_code 13 = .ok (.aload_n 0, 1) := by decide +kernel
theorem d1_14 : decode prog_15_method_5_code 14 = .ok (.iload_n 3, 1) := by decide +kernel
theorem d1_15 : decode prog_15_method_5_code 15 = .ok (.faload, 1) := by decide +kernel
theorem d1_16 : decode prog_15_method_5_code 16 = .ok (.f2d, 1) := by decide +kernel
theorem d1_17 : decode prog_15_method_5_code 17 = .ok (.dastore, 1) := by decide +kernel
theorem d1_18 : decode prog_15_method_5_code 18 = .ok (.iinc 3 1, 3) := by decide +kernel
theorem d1_21 : decode prog_15_method_5_code 21 = .ok (.goto (-15), 3) := by decide +kernel
def Q1_1 (Z : State) (a1 : Addr) (f0 f1 f2 f3 : UInt32) (h0 : Heap) (n0 : Nat) (v : Option Value) (h : Heap) (L : List Loc) : Prop := ∃ b, v = some (.ref b) ∧ Fr n0 L ∧ h0.size ≤ b ∧ Keep h0 h [] ∧ Arx Z h b .double [(.double (FP.f2d f0))]
set_option maxRecDepth 65536 in
set_option maxHeartbeats 40000000 in
theorem rm1_1 (l : Launch) (Z : State) (a0 : Array Value) (hw : ∀ d ∈ tables_1, d.before a0 Z = true) (ws : List Jvm.Cond) (a1 : Addr) (f0 f1 f2 f3 : UInt32) (h0 : Heap) (n0 : Nat) (Z0 : n0 ≤ h0.size) (V_1 : Arx Z h0 a1 .float [(.float f0), (.float f1), (.float f2), (.float f3)]) (nn0 : Jvm.Free.Fl.NoNaN32 f0) (nn1 : Jvm.Free.Fl.NoNaN32 f1) (nn2 : Jvm.Free.Fl.NoNaN32 f2) (nn3 : Jvm.Free.Fl.NoNaN32 f3) :
    own_CT l Z (⟨"com/example/hadamint/hadamint/Queries", "widened", "([FI)[D"⟩ : MethodName) prog_15_method_5_code 4 (some (.array .double)) ws ({ frames := 0, cells := 1, slots := 1, locals := 0 } : Room) #[(.ref a1), (.int (1 : Int32))] h0 (Q1_1 Z a1 f0 f1 f2 f3 h0 n0) := by
  refine MetFree.of_bodySF (plainFor_of_name pn_com_example_hadamint_hadamint_Queries) hisR ?_
  intro p e s m args below meth c s₁ Bd hml0 hP hK
  obtain ⟨rfl, hZ, hh⟩ := hP
  have hx := Bd.exec
  have hby := Bd.bytes
  have hml : c.maxLocals = 4 := hml0
  have hown : s.vm.findClass "com/example/hadamint/hadamint/Queries" = some m.cls := findClass_of_methodNamed Bd.named
  have hnm := (name_of_methodNamed Bd.named Bd.method).1
  have hlk : meth.locks = false := BodyLoose.notSynchronized Bd
  have X0 : Stand p l e ({ frames := 0, cells := 1, slots := 1, locals := 0 } : Room) s m #[(.ref a1), (.int (1 : Int32))] below meth c s₁ [] 0 0 := Stand.of_body Bd
  have e0 : s₁.heap = h0 := by rw [← hh, Bd.state]; rfl
  have N0 := Fr.nil n0
  show GG p e below s ({ frames := 0, cells := 1, slots := 1, locals := 0 } : Room).cells ({ frames := 0, cells := 1, slots := 1, locals := 0 } : Room).slots (Q1_1 Z a1 f0 f1 f2 f3 h0 n0) s₁ (entryFrame m #[(.ref a1), (.int (1 : Int32))] 4)
  refine own_in (ef_1 m a1 (1 : Int32)) ?_
  show GG _ _ _ _ _ _ _ s₁ (mkF m 0 #[.val (.ref a1), .val (.int (1 : Int32)), .unset, .unset] [])
  refine own_go (fun _ => XS.iloadN X0.here hx rfl (hb hby d1_0) rfl) ?_
  show GG _ _ _ _ _ _ _ s₁ (mkF m 1 #[.val (.ref a1), .val (.int (1 : Int32)), .unset, .unset] [(.int (1 : Int32))])
  have K0 := Keep.refl h0 []
  obtain ⟨T1, h1, ob1, g1, X1, e1, E1, V_ob1, E_ob1, st1⟩ := own_newarr X0 hx hZ (hw _ (List.mem_of_getElem? (i := 6) rfl)) e0 (g := (mkF m 1 #[.val (.ref a1), .val (.int (1 : Int32)), .unset, .unset] [(.int (1 : Int32))])) rfl (hb hby d1_1) rfl (by decide) (cap := 1) (by decide) (by decide) (by decide) (by decide) (ad := "[D") (by decide)
  have ne_a1_ob1 : a1 ≠ ob1 := Nat.ne_of_lt (Nat.lt_of_lt_of_le V_1.lt (Nat.le_of_eq g1.symm))
  have sz_ob1 : h0.size ≤ ob1 := Nat.le_trans K0.1 (Nat.le_of_eq g1.symm)
  have g_ob1 : n0 ≤ ob1 := Nat.le_trans Z0 sz_ob1
  have V_1 := V_1.ext E1
  have K0 := K0.ext E1
  have V_ob1 : Arx Z h1 ob1 .double [(.double (0 : UInt64))] := V_ob1
  refine own_go (fun _ => st1 _) ?_
  show GG _ _ _ _ _ _ _ T1 (mkF m 3 #[.val (.ref a1), .val (.int (1 : Int32)), .unset, .unset] [(.ref ob1)])
  refine own_go (fun _ => XS.astoreN X1.here hx rfl (hb hby d1_3) rfl rfl (l' := #[.val (.ref a1), .val (.int (1 : Int32)), .val (.ref ob1), .unset]) rfl) ?_
  show GG _ _ _ _ _ _ _ T1 (mkF m 4 #[.val (.ref a1), .val (.int (1 : Int32)), .val (.ref ob1), .unset] [])
  refine own_go (fun _ => XS.iconst X1.here hx rfl (hb hby d1_4)) ?_
  show GG _ _ _ _ _ _ _ T1 (mkF m 5 #[.val (.ref a1), .val (.int (1 : Int32)), .val (.ref ob1), .unset] [(.int (0 : Int32))])
  refine own_go (fun _ => XS.istoreN X1.here hx rfl (hb hby d1_5) rfl (l' := #[.val (.ref a1), .val (.int (1 : Int32)), .val (.ref ob1), .val (.int (0 : Int32))]) rfl) ?_
  show GG _ _ _ _ _ _ _ T1 (mkF m 6 #[.val (.ref a1), .val (.int (1 : Int32)), .val (.ref ob1), .val (.int (0 : Int32))] [])
  refine own_go (fun _ => XS.iloadN X1.here hx rfl (hb hby d1_6) rfl) ?_
  show GG _ _ _ _ _ _ _ T1 (mkF m 7 #[.val (.ref a1), .val (.int (1 : Int32)), .val (.ref ob1), .val (.int (0 : Int32))] [(.int (0 : Int32))])
  refine own_go (fun _ => XS.iloadN X1.here hx rfl (hb hby d1_7) rfl) ?_
  show GG _ _ _ _ _ _ _ T1 (mkF m 8 #[.val (.ref a1), .val (.int (1 : Int32)), .val (.ref ob1), .val (.int (0 : Int32))] [(.int (1 : Int32)), (.int (0 : Int32))])
  have hc8 : (0 : Int32) < (1 : Int32) := by decide
  refine own_go (fun _ => XS.icmpNo X1.here hx rfl (hb hby d1_8) rfl (tlt hc8).2.1) ?_
  show GG _ _ _ _ _ _ _ T1 (mkF m 11 #[.val (.ref a1), .val (.int (1 : Int32)), .val (.ref ob1), .val (.int (0 : Int32))] [])
  refine own_go (fun _ => XS.aloadN X1.here hx rfl (hb hby d1_11) rfl rfl) ?_
  show GG _ _ _ _ _ _ _ T1 (mkF m 12 #[.val (.ref a1), .val (.int (1 : Int32)), .val (.ref ob1), .val (.int (0 : Int32))] [(.ref ob1)])
  refine own_go (fun _ => XS.iloadN X1.here hx rfl (hb hby d1_12) rfl) ?_
  show GG _ _ _ _ _ _ _ T1 (mkF m 13 #[.val (.ref a1), .val (.int (1 : Int32)), .val (.ref ob1), .val (.int (0 : Int32))] [(.int (0 : Int32)), (.ref ob1)])
  refine own_go (fun _ => XS.aloadN X1.here hx rfl (hb hby d1_13) rfl rfl) ?_
  show GG _ _ _ _ _ _ _ T1 (mkF m 14 #[.val (.ref a1), .val (.int (1 : Int32)), .val (.ref ob1), .val (.int (0 : Int32))] [(.ref a1), (.int (0 : Int32)), (.ref ob1)])
  refine own_go (fun _ => XS.iloadN X1.here hx rfl (hb hby d1_14) rfl) ?_
  show GG _ _ _ _ _ _ _ T1 (mkF m 15 #[.val (.ref a1), .val (.int (1 : Int32)), .val (.ref ob1), .val (.int (0 : Int32))] [(.int (0 : Int32)), (.ref a1), (.int (0 : Int32)), (.ref ob1)])
  refine own_go (fun _ => own_faload X1 hx hZ e1 V_1 (j := (0 : Int32)) (v := (.float f0)) (by decide) rfl (g := (mkF m 15 #[.val (.ref a1), .val (.int (1 : Int32)), .val (.ref ob1), .val (.int (0 : Int32))] [(.int (0 : Int32)), (.ref a1), (.int (0 : Int32)), (.ref ob1)])) rfl rfl (hb hby d1_15) _) ?_
  show GG _ _ _ _ _ _ _ T1 (mkF m 16 #[.val (.ref a1), .val (.int (1 : Int32)), .val (.ref ob1), .val (.int (0 : Int32))] [(.float f0), (.int (0 : Int32)), (.ref ob1)])
  refine own_go (fun _ => XS.f2dS X1.here hx rfl (hb hby d1_16) rfl (Jvm.Free.Fl.f2d_out nn0) rfl) ?_
  show GG _ _ _ _ _ _ _ T1 (mkF m 17 #[.val (.ref a1), .val (.int (1 : Int32)), .val (.ref ob1), .val (.int (0 : Int32))] [(.double (FP.f2d f0)), (.int (0 : Int32)), (.ref ob1)])
  obtain ⟨T2, h2, X2, e2, W2, V2, st2⟩ := own_dastore X1 hx hZ e1 V_ob1 (by decide) (Nat.le_of_ble_eq_true rfl) (g := (mkF m 17 #[.val (.ref a1), .val (.int (1 : Int32)), .val (.ref ob1), .val (.int (0 : Int32))] [(.double (FP.f2d f0)), (.int (0 : Int32)), (.ref ob1)])) rfl rfl (hb hby d1_17)
  have V_1 := V_1.other W2 ne_a1_ob1
  have K0 := K0.wr W2 (Or.inr sz_ob1)
  have E_ob1 := E_ob1.wr W2
  have V_ob1 : Arx Z h2 ob1 .double [(.double (FP.f2d f0))] := V2
  have N2 := Fr.snoc X2 N0 g_ob1
  refine own_go (fun _ => st2 _) ?_
  show GG _ _ _ _ _ _ _ T2 (mkF m 18 #[.val (.ref a1), .val (.int (1 : Int32)), .val (.ref ob1), .val (.int (0 : Int32))] [])
  refine own_go (fun _ => XS.iinc X2.here hx rfl (hb hby d1_18) rfl (l' := #[.val (.ref a1), .val (.int (1 : Int32)), .val (.ref ob1), .val (.int (1 : Int32))]) rfl) ?_
  show GG _ _ _ _ _ _ _ T2 (mkF m 21 #[.val (.ref a1), .val (.int (1 : Int32)), .val (.ref ob1), .val (.int (1 : Int32))] [])
  refine own_go (fun _ => XS.goto X2.here hx rfl (pc0 := 21) (pc' := 6) rfl (hb hby d1_21) (by decide) (by decide)) ?_
  show GG _ _ _ _ _ _ _ T2 (mkF m 6 #[.val (.ref a1), .val (.int (1 : Int32)), .val (.ref ob1), .val (.int (1 : Int32))] [])
  refine own_go (fun _ => XS.iloadN X2.here hx rfl (hb hby d1_6) rfl) ?_
  show GG _ _ _ _ _ _ _ T2 (mkF m 7 #[.val (.ref a1), .val (.int (1 : Int32)), .val (.ref ob1), .val (.int (1 : Int32))] [(.int (1 : Int32))])
  refine own_go (fun _ => XS.iloadN X2.here hx rfl (hb hby d1_7) rfl) ?_
  show GG _ _ _ _ _ _ _ T2 (mkF m 8 #[.val (.ref a1), .val (.int (1 : Int32)), .val (.ref ob1), .val (.int (1 : Int32))] [(.int (1 : Int32)), (.int (1 : Int32))])
  have hc8 : ¬ ((1 : Int32) < (1 : Int32)) := by decide
  refine own_go (fun _ => XS.icmpYes X2.here hx rfl (pc0 := 8) (pc' := 24) rfl (hb hby d1_8) rfl (flt hc8).2.1 (by decide) (by decide)) ?_
  show GG _ _ _ _ _ _ _ T2 (mkF m 24 #[.val (.ref a1), .val (.int (1 : Int32)), .val (.ref ob1), .val (.int (1 : Int32))] [])
  refine own_go (fun _ => XS.aloadN X2.here hx rfl (hb hby d1_24) rfl rfl) ?_
  show GG _ _ _ _ _ _ _ T2 (mkF m 25 #[.val (.ref a1), .val (.int (1 : Int32)), .val (.ref ob1), .val (.int (1 : Int32))] [(.ref ob1)])
  refine own_ret X2 hx hlk (t := (.array .double)) (w := (.ref ob1)) Bd.returns rfl (Or.inr (Or.inr (Or.inr (Or.inr ⟨rfl, rfl, rfl⟩)))) (hb hby d1_25) (by decide) (by decide) ?_
  show Q1_1 Z a1 f0 f1 f2 f3 h0 n0 (some (.ref ob1)) T2.heap _
  rw [e2]
  exact ⟨_, rfl, N2, sz_ob1, K0, V_ob1⟩
def Q1_2 (Z : State) (a1 : Addr) (f0 f1 f2 f3 : UInt32) (h0 : Heap) (n0 : Nat) (v : Option Value) (h : Heap) (L : List Loc) : Prop := ∃ b, v = some (.ref b) ∧ Fr n0 L ∧ h0.size ≤ b ∧ Keep h0 h [] ∧ Arx Z h b .double [(.double (FP.f2d f0)), (.double (FP.f2d f1))]
set_option maxRecDepth 65536 in
set_option maxHeartbeats 40000000 in
theorem rm1_2 (l : Launch) (Z : State) (a0 : Array Value) (hw : ∀ d ∈ tables_1, d.before a0 Z = true) (ws : List Jvm.Cond) (a1 : Addr) (f0 f1 f2 f3 : UInt32) (h0 : Heap) (n0 : Nat) (Z0 : n0 ≤ h0.size) (V_1 : Arx Z h0 a1 .float [(.float f0), (.float f1), (.float f2), (.float f3)]) (nn0 : Jvm.Free.Fl.NoNaN32 f0) (nn1 : Jvm.Free.Fl.NoNaN32 f1) (nn2 : Jvm.Free.Fl.NoNaN32 f2) (nn3 : Jvm.Free.Fl.NoNaN32 f3) :
    own_CT l Z (⟨"com/example/hadamint/hadamint/Queries", "widened", "([FI)[D"⟩ : MethodName) prog_15_method_5_code 4 (some (.array .double)) ws ({ frames := 0, cells := 1, slots := 2, locals := 0 } : Room) #[(.ref a1), (.int (2 : Int32))] h0 (Q1_2 Z a1 f0 f1 f2 f3 h0 n0) := by
  refine MetFree.of_bodySF (plainFor_of_name pn_com_example_hadamint_hadamint_Queries) hisR ?_
  intro p e s m args below meth c s₁ Bd hml0 hP hK
  obtain ⟨rfl, hZ, hh⟩ := hP
  have hx := Bd.exec
  have hby := Bd.bytes
  have hml : c.maxLocals = 4 := hml0
  have hown : s.vm.findClass "com/example/hadamint/hadamint/Queries" = some m.cls := findClass_of_methodNamed Bd.named
  have hnm := (name_of_methodNamed Bd.named Bd.method).1
  have hlk : meth.locks = false := BodyLoose.notSynchronized Bd
  have X0 : Stand p l e ({ frames := 0, cells := 1, slots := 2, locals := 0 } : Room) s m #[(.ref a1), (.int (2 : Int32))] below meth c s₁ [] 0 0 := Stand.of_body Bd
  have e0 : s₁.heap = h0 := by rw [← hh, Bd.state]; rfl
  have N0 := Fr.nil n0
  show GG p e below s ({ frames := 0, cells := 1, slots := 2, locals := 0 } : Room).cells ({ frames := 0, cells := 1, slots := 2, locals := 0 } : Room).slots (Q1_2 Z a1 f0 f1 f2 f3 h0 n0) s₁ (entryFrame m #[(.ref a1), (.int (2 : Int32))] 4)
  refine own_in (ef_1 m a1 (2 : Int32)) ?_
  show GG _ _ _ _ _ _ _ s₁ (mkF m 0 #[.val (.ref a1), .val (.int (2 : Int32)), .unset, .unset] [])
  refine own_go (fun _ => XS.iloadN X0.here hx rfl (hb hby d1_0) rfl) ?_
  show GG _ _ _ _ _ _ _ s₁ (mkF m 1 #[.val (.ref a1), .val (.int (2 : Int32)), .unset, .unset] [(.int (2 : Int32))])
  have K0 := Keep.refl h0 []
  obtain ⟨T1, h1, ob1, g1, X1, e1, E1, V_ob1, E_ob1, st1⟩ := own_newarr X0 hx hZ (hw _ (List.mem_of_getElem? (i := 6) rfl)) e0 (g := (mkF m 1 #[.val (.ref a1), .val (.int (2 : Int32)), .unset, .unset] [(.int (2 : Int32))])) rfl (hb hby d1_1) rfl (by decide) (cap := 2) (by decide) (by decide) (by decide) (by decide) (ad := "[D") (by decide)
  have ne_a1_ob1 : a1 ≠ ob1 := Nat.ne_of_lt (Nat.lt_of_lt_of_le V_1.lt (Nat.le_of_eq g1.symm))
  have sz_ob1 : h0.size ≤ ob1 := Nat.le_trans K0.1 (Nat.le_of_eq g1.symm)
  have g_ob1 : n0 ≤ ob1 := Nat.le_trans Z0 sz_ob1
  have V_1 := V_1.ext E1
  have K0 := K0.ext E1
  have V_ob1 : Arx Z h1 ob1 .double [(.double (0 : UInt64)), (.double (0 : UInt64))] := V_ob1
  refine own_go (fun _ => st1 _) ?_
  show GG _ _ _ _ _ _ _ T1 (mkF m 3 #[.val (.ref a1), .val (.int (2 : Int32)), .unset, .unset] [(.ref ob1)])
  refine own_go (fun _ => XS.astoreN X1.here hx rfl (hb hby d1_3) rfl rfl (l' := #[.val (.ref a1), .val (.int (2 : Int32)), .val (.ref ob1), .unset]) rfl) ?_
  show GG _ _ _ _ _ _ _ T1 (mkF m 4 #[.val (.ref a1), .val (.int (2 : Int32)), .val (.ref ob1), .unset] [])
  refine own_go (fun _ => XS.iconst X1.here hx rfl (hb hby d1_4)) ?_
  show GG _ _ _ _ _ _ _ T1 (mkF m 5 #[.val (.ref a1), .val (.int (2 : Int32)), .val (.ref ob1), .unset] [(.int (0 : Int32))])
  refine own_go (fun _ => XS.istoreN X1.here hx rfl (hb hby d1_5) rfl (l' := #[.val (.ref a1), .val (.int (2 : Int32)), .val (.ref ob1), .val (.int (0 : Int32))]) rfl) ?_
  show GG _ _ _ _ _ _ _ T1 (mkF m 6 #[.val (.ref a1), .val (.int (2 : Int32)), .val (.ref ob1), .val (.int (0 : Int32))] [])
  refine own_go (fun _ => XS.iloadN X1.here hx rfl (hb hby d1_6) rfl) ?_
  show GG _ _ _ _ _ _ _ T1 (mkF m 7 #[.val (.ref a1), .val (.int (2 : Int32)), .val (.ref ob1), .val (.int (0 : Int32))] [(.int (0 : Int32))])
  refine own_go (fun _ => XS.iloadN X1.here hx rfl (hb hby d1_7) rfl) ?_
  show GG _ _ _ _ _ _ _ T1 (mkF m 8 #[.val (.ref a1), .val (.int (2 : Int32)), .val (.ref ob1), .val (.int (0 : Int32))] [(.int (2 : Int32)), (.int (0 : Int32))])
  have hc8 : (0 : Int32) < (2 : Int32) := by decide
  refine own_go (fun _ => XS.icmpNo X1.here hx rfl (hb hby d1_8) rfl (tlt hc8).2.1) ?_
  show GG _ _ _ _ _ _ _ T1 (mkF m 11 #[.val (.ref a1), .val (.int (2 : Int32)), .val (.ref ob1), .val (.int (0 : Int32))] [])
  refine own_go (fun _ => XS.aloadN X1.here hx rfl (hb hby d1_11) rfl rfl) ?_
  show GG _ _ _ _ _ _ _ T1 (mkF m 12 #[.val (.ref a1), .val (.int (2 : Int32)), .val (.ref ob1), .val (.int (0 : Int32))] [(.ref ob1)])
  refine own_go (fun _ => XS.iloadN X1.here hx rfl (hb hby d1_12) rfl) ?_
  show GG _ _ _ _ _ _ _ T1 (mkF m 13 #[.val (.ref a1), .val (.int (2 : Int32)), .val (.ref ob1), .val (.int (0 : Int32))] [(.int (0 : Int32)), (.ref ob1)])
  refine own_go (fun _ => XS.aloadN X1.here hx rfl (hb hby d1_13) rfl rfl) ?_
  show GG _ _ _ _ _ _ _ T1 (mkF m 14 #[.val (.ref a1), .val (.int (2 : Int32)), .val (.ref ob1), .val (.int (0 : Int32))] [(.ref a1), (.int (0 : Int32)), (.ref ob1)])
  refine own_go (fun _ => XS.iloadN X1.here hx rfl (hb hby d1_14) rfl) ?_
  show GG _ _ _ _ _ _ _ T1 (mkF m 15 #[.val (.ref a1), .val (.int (2 : Int32)), .val (.ref ob1), .val (.int (0 : Int32))] [(.int (0 : Int32)), (.ref a1), (.int (0 : Int32)), (.ref ob1)])
  refine own_go (fun _ => own_faload X1 hx hZ e1 V_1 (j := (0 : Int32)) (v := (.float f0)) (by decide) rfl (g := (mkF m 15 #[.val (.ref a1), .val (.int (2 : Int32)), .val (.ref ob1), .val (.int (0 : Int32))] [(.int (0 : Int32)), (.ref a1), (.int (0 : Int32)), (.ref ob1)])) rfl rfl (hb hby d1_15) _) ?_
  show GG _ _ _ _ _ _ _ T1 (mkF m 16 #[.val (.ref a1), .val (.int (2 : Int32)), .val (.ref ob1), .val (.int (0 : Int32))] [(.float f0), (.int (0 : Int32)), (.ref ob1)])
  refine own_go (fun _ => XS.f2dS X1.here hx rfl (hb hby d1_16) rfl (Jvm.Free.Fl.f2d_out nn0) rfl) ?_
  show GG _ _ _ _ _ _ _ T1 (mkF m 17 #[.val (.ref a1), .val (.int (2 : Int32)), .val (.ref ob1), .val (.int (0 : Int32))] [(.double (FP.f2d f0)), (.int (0 : Int32)), (.ref ob1)])
  obtain ⟨T2, h2, X2, e2, W2, V2, st2⟩ := own_dastore X1 hx hZ e1 V_ob1 (by decide) (Nat.le_of_ble_eq_true rfl) (g := (mkF m 17 #[.val (.ref a1), .val (.int (2 : Int32)), .val (.ref ob1), .val (.int (0 : Int32))] [(.double (FP.f2d f0)), (.int (0 : Int32)), (.ref ob1)])) rfl rfl (hb hby d1_17)
  have V_1 := V_1.other W2 ne_a1_ob1
  have K0 := K0.wr W2 (Or.inr sz_ob1)
  have E_ob1 := E_ob1.wr W2
  have V_ob1 : Arx Z h2 ob1 .double [(.double (FP.f2d f0)), (.double (0 : UInt64))] := V2
  have N2 := Fr.snoc X2 N0 g_ob1
  refine own_go (fun _ => st2 _) ?_
  show GG _ _ _ _ _ _ _ T2 (mkF m 18 #[.val (.ref a1), .val (.int (2 : Int32)), .val (.ref ob1), .val (.int (0 : Int32))] [])
  refine own_go (fun _ => XS.iinc X2.here hx rfl (hb hby d1_18) rfl (l' := #[.val (.ref a1), .val (.int (2 : Int32)), .val (.ref ob1), .val (.int (1 : Int32))]) rfl) ?_
  show GG _ _ _ _ _ _ _ T2 (mkF m 21 #[.val (.ref a1), .val (.int (2 : Int32)), .val (.ref ob1), .val (.int (1 : Int32))] [])
  refine own_go (fun _ => XS.goto X2.here hx rfl (pc0 := 21) (pc' := 6) rfl (hb hby d1_21) (by decide) (by decide)) ?_
  show GG _ _ _ _ _ _ _ T2 (mkF m 6 #[.val (.ref a1), .val (.int (2 : Int32)), .val (.ref ob1), .val (.int (1 : Int32))] [])
  refine own_go (fun _ => XS.iloadN X2.here hx rfl (hb hby d1_6) rfl) ?_
  show GG _ _ _ _ _ _ _ T2 (mkF m 7 #[.val (.ref a1), .val (.int (2 : Int32)), .val (.ref ob1), .val (.int (1 : Int32))] [(.int (1 : Int32))])
  refine own_go (fun _ => XS.iloadN X2.here hx rfl (hb hby d1_7) rfl) ?_
  show GG _ _ _ _ _ _ _ T2 (mkF m 8 #[.val (.ref a1), .val (.int (2 : Int32)), .val (.ref ob1), .val (.int (1 : Int32))] [(.int (2 : Int32)), (.int (1 : Int32))])
  have hc8 : (1 : Int32) < (2 : Int32) := by decide
  refine own_go (fun _ => XS.icmpNo X2.here hx rfl (hb hby d1_8) rfl (tlt hc8).2.1) ?_
  show GG _ _ _ _ _ _ _ T2 (mkF m 11 #[.val (.ref a1), .val (.int (2 : Int32)), .val (.ref ob1), .val (.int (1 : Int32))] [])
  refine own_go (fun _ => XS.aloadN X2.here hx rfl (hb hby d1_11) rfl rfl) ?_
  show GG _ _ _ _ _ _ _ T2 (mkF m 12 #[.val (.ref a1), .val (.int (2 : Int32)), .val (.ref ob1), .val (.int (1 : Int32))] [(.ref ob1)])
  refine own_go (fun _ => XS.iloadN X2.here hx rfl (hb hby d1_12) rfl) ?_
  show GG _ _ _ _ _ _ _ T2 (mkF m 13 #[.val (.ref a1), .val (.int (2 : Int32)), .val (.ref ob1), .val (.int (1 : Int32))] [(.int (1 : Int32)), (.ref ob1)])
  refine own_go (fun _ => XS.aloadN X2.here hx rfl (hb hby d1_13) rfl rfl) ?_
  show GG _ _ _ _ _ _ _ T2 (mkF m 14 #[.val (.ref a1), .val (.int (2 : Int32)), .val (.ref ob1), .val (.int (1 : Int32))] [(.ref a1), (.int (1 : Int32)), (.ref ob1)])
  refine own_go (fun _ => XS.iloadN X2.here hx rfl (hb hby d1_14) rfl) ?_
  show GG _ _ _ _ _ _ _ T2 (mkF m 15 #[.val (.ref a1), .val (.int (2 : Int32)), .val (.ref ob1), .val (.int (1 : Int32))] [(.int (1 : Int32)), (.ref a1), (.int (1 : Int32)), (.ref ob1)])
  refine own_go (fun _ => own_faload X2 hx hZ e2 V_1 (j := (1 : Int32)) (v := (.float f1)) (by decide) rfl (g := (mkF m 15 #[.val (.ref a1), .val (.int (2 : Int32)), .val (.ref ob1), .val (.int (1 : Int32))] [(.int (1 : Int32)), (.ref a1), (.int (1 : Int32)), (.ref ob1)])) rfl rfl (hb hby d1_15) _) ?_
  show GG _ _ _ _ _ _ _ T2 (mkF m 16 #[.val (.ref a1), .val (.int (2 : Int32)), .val (.ref ob1), .val (.int (1 : Int32))] [(.float f1), (.int (1 : Int32)), (.ref ob1)])
  refine own_go (fun _ => XS.f2dS X2.here hx rfl (hb hby d1_16) rfl (Jvm.Free.Fl.f2d_out nn1) rfl) ?_
  show GG _ _ _ _ _ _ _ T2 (mkF m 17 #[.val (.ref a1), .val (.int (2 : Int32)), .val (.ref ob1), .val (.int (1 : Int32))] [(.double (FP.f2d f1)), (.int (1 : Int32)), (.ref ob1)])
  obtain ⟨T3, h3, X3, e3, W3, V3, st3⟩ := own_dastore X2 hx hZ e2 V_ob1 (by decide) (Nat.le_of_ble_eq_true rfl) (g := (mkF m 17 #[.val (.ref a1), .val (.int (2 : Int32)), .val (.ref ob1), .val (.int (1 : Int32))] [(.double (FP.f2d f1)), (.int (1 : Int32)), (.ref ob1)])) rfl rfl (hb hby d1_17)
  have V_1 := V_1.other W3 ne_a1_ob1
  have K0 := K0.wr W3 (Or.inr sz_ob1)
  have E_ob1 := E_ob1.wr W3
  have V_ob1 : Arx Z h3 ob1 .double [(.double (FP.f2d f0)), (.double (FP.f2d f1))] := V3
  have N3 := Fr.snoc X3 N2 g_ob1
  refine own_go (fun _ => st3 _) ?_
  show GG _ _ _ _ _ _ _ T3 (mkF m 18 #[.val (.ref a1), .val (.int (2 : Int32)), .val (.ref ob1), .val (.int (1 : Int32))] [])
  refine own_go (fun _ => XS.iinc X3.here hx rfl (hb hby d1_18) rfl (l' := #[.val (.ref a1), .val (.int (2 : Int32)), .val (.ref ob1), .val (.int (2 : Int32))]) rfl) ?_
  show GG _ _ _ _ _ _ _ T3 (mkF m 21 #[.val (.ref a1), .val (.int (2 : Int32)), .val (.ref ob1), .val (.int (2 : Int32))] [])
  refine own_go (fun _ => XS.goto X3.here hx rfl (pc0 := 21) (pc' := 6) rfl (hb hby d1_21) (by decide) (by decide)) ?_
  show GG _ _ _ _ _ _ _ T3 (mkF m 6 #[.val (.ref a1), .val (.int (2 : Int32)), .val (.ref ob1), .val (.int (2 : Int32))] [])
  refine own_go (fun _ => XS.iloadN X3.here hx rfl (hb hby d1_6) rfl) ?_
  show GG _ _ _ _ _ _ _ T3 (mkF m 7 #[.val (.ref a1), .val (.int (2 : Int32)), .val (.ref ob1), .val (.int (2 : Int32))] [(.int (2 : Int32))])
  refine own_go (fun _ => XS.iloadN X3.here hx rfl (hb hby d1_7) rfl) ?_
  show GG _ _ _ _ _ _ _ T3 (mkF m 8 #[.val (.ref a1), .val (.int (2 : Int32)), .val (.ref ob1), .val (.int (2 : Int32))] [(.int (2 : Int32)), (.int (2 : Int32))])
  have hc8 : ¬ ((2 : Int32) < (2 : Int32)) := by decide
  refine own_go (fun _ => XS.icmpYes X3.here hx rfl (pc0 := 8) (pc' := 24) rfl (hb hby d1_8) rfl (flt hc8).2.1 (by decide) (by decide)) ?_
  show GG _ _ _ _ _ _ _ T3 (mkF m 24 #[.val (.ref a1), .val (.int (2 : Int32)), .val (.ref ob1), .val (.int (2 : Int32))] [])
  refine own_go (fun _ => XS.aloadN X3.here hx rfl (hb hby d1_24) rfl rfl) ?_
  show GG _ _ _ _ _ _ _ T3 (mkF m 25 #[.val (.ref a1), .val (.int (2 : Int32)), .val (.ref ob1), .val (.int (2 : Int32))] [(.ref ob1)])
  refine own_ret X3 hx hlk (t := (.array .double)) (w := (.ref ob1)) Bd.returns rfl (Or.inr (Or.inr (Or.inr (Or.inr ⟨rfl, rfl, rfl⟩)))) (hb hby d1_25) (by decide) (by decide) ?_
  show Q1_2 Z a1 f0 f1 f2 f3 h0 n0 (some (.ref ob1)) T3.heap _
  rw [e3]
  exact ⟨_, rfl, N3, sz_ob1, K0, V_ob1⟩
def Q1_3 (Z : State) (a1 : Addr) (f0 f1 f2 f3 : UInt32) (h0 : Heap) (n0 : Nat) (v : Option Value) (h : Heap) (L : List Loc) : Prop := ∃ b, v = some (.ref b) ∧ Fr n0 L ∧ h0.size ≤ b ∧ Keep h0 h [] ∧ Arx Z h b .double [(.double (FP.f2d f0)), (.double (FP.f2d f1)), (.double (FP.f2d f2))]
set_option maxRecDepth 65536 in
set_option maxHeartbeats 40000000 in
theorem rm1_3 (l : Launch) (Z : State) (a0 : Array Value) (hw : ∀ d ∈ tables_1, d.before a0 Z = true) (ws : List Jvm.Cond) (a1 : Addr) (f0 f1 f2 f3 : UInt32) (h0 : Heap) (n0 : Nat) (Z0 : n0 ≤ h0.size) (V_1 : Arx Z h0 a1 .float [(.float f0), (.float f1), (.float f2), (.float f3)]) (nn0 : Jvm.Free.Fl.NoNaN32 f0) (nn1 : Jvm.Free.Fl.NoNaN32 f1) (nn2 : Jvm.Free.Fl.NoNaN32 f2) (nn3 : Jvm.Free.Fl.NoNaN32 f3) :
    own_CT l Z (⟨"com/example/hadamint/hadamint/Queries", "widened", "([FI)[D"⟩ : MethodName) prog_15_method_5_code 4 (some (.array .double)) ws ({ frames := 0, cells := 1, slots := 3, locals := 0 } : Room) #[(.ref a1), (.int (3 : Int32))] h0 (Q1_3 Z a1 f0 f1 f2 f3 h0 n0) := by
  refine MetFree.of_bodySF (plainFor_of_name pn_com_example_hadamint_hadamint_Queries) hisR ?_
  intro p e s m args below meth c s₁ Bd hml0 hP hK
  obtain ⟨rfl, hZ, hh⟩ := hP
  have hx := Bd.exec
  have hby := Bd.bytes
  have hml : c.maxLocals = 4 := hml0
  have hown : s.vm.findClass "com/example/hadamint/hadamint/Queries" = some m.cls := findClass_of_methodNamed Bd.named
  have hnm := (name_of_methodNamed Bd.named Bd.method).1
  have hlk : meth.locks = false := BodyLoose.notSynchronized Bd
  have X0 : Stand p l e ({ frames := 0, cells := 1, slots := 3, locals := 0 } : Room) s m #[(.ref a1), (.int (3 : Int32))] below meth c s₁ [] 0 0 := Stand.of_body Bd
  have e0 : s₁.heap = h0 := by rw [← hh, Bd.state]; rfl
  have N0 := Fr.nil n0
  show GG p e below s ({ frames := 0, cells := 1, slots := 3, locals := 0 } : Room).cells ({ frames := 0, cells := 1, slots := 3, locals := 0 } : Room).slots (Q1_3 Z a1 f0 f1 f2 f3 h0 n0) s₁ (entryFrame m #[(.ref a1), (.int (3 : Int32))] 4)
  refine own_in (ef_1 m a1 (3 : Int32)) ?_
  show GG _ _ _ _ _ _ _ s₁ (mkF m 0 #[.val (.ref a1), .val (.int (3 : Int32)), .unset, .unset] [])
  refine own_go (fun _ => XS.iloadN X0.here hx rfl (hb hby d1_0) rfl) ?_
  show GG _ _ _ _ _ _ _ s₁ (mkF m 1 #[.val (.ref a1), .val (.int (3 : Int32)), .unset, .unset] [(.int (3 : Int32))])
  have K0 := Keep.refl h0 []
  obtain ⟨T1, h1, ob1, g1, X1, e1, E1, V_ob1, E_ob1, st1⟩ := own_newarr X0 hx hZ (hw _ (List.mem_of_getElem? (i := 6) rfl)) e0 (g := (mkF m 1 #[.val (.ref a1), .val (.int (3 : Int32)), .unset, .unset] [(.int (3 : Int32))])) rfl (hb hby d1_1) rfl (by decide) (cap := 3) (by decide) (by decide) (by decide) (by decide) (ad := "[D") (by decide)
  have ne_a1_ob1 : a1 ≠ ob1 := Nat.ne_of_lt (Nat.lt_of_lt_of_le V_1.lt (Nat.le_of_eq g1.symm))
  have sz_ob1 : h0.size ≤ ob1 := Nat.le_trans K0.1 (Nat.le_of_eq g1.symm)
  have g_ob1 : n0 ≤ ob1 := Nat.le_trans Z0 sz_ob1
  have V_1 := V_1.ext E1
  have K0 := K0.ext E1
  have V_ob1 : Arx Z h1 ob1 .double [(.double (0 : UInt64)), (.double (0 : UInt64)), (.double (0 : UInt64))] := V_ob1
  refine own_go (fun _ => st1 _) ?_
  show GG _ _ _ _ _ _ _ T1 (mkF m 3 #[.val (.ref a1), .val (.int (3 : Int32)), .unset, .unset] [(.ref ob1)])
  refine own_go (fun _ => XS.astoreN X1.here hx rfl (hb hby d1_3) rfl rfl (l' := #[.val (.ref a1), .val (.int (3 : Int32)), .val (.ref ob1), .unset]) rfl) ?_
  show GG _ _ _ _ _ _ _ T1 (mkF m 4 #[.val (.ref a1), .val (.int (3 : Int32)), .val (.ref ob1), .unset] [])
  refine own_go (fun _ => XS.iconst X1.here hx rfl (hb hby d1_4)) ?_
  show GG _ _ _ _ _ _ _ T1 (mkF m 5 #[.val (.ref a1), .val (.int (3 : Int32)), .val (.ref ob1), .unset] [(.int (0 : Int32))])
  refine own_go (fun _ => XS.istoreN X1.here hx rfl (hb hby d1_5) rfl (l' := #[.val (.ref a1), .val (.int (3 : Int32)), .val (.ref ob1), .val (.int (0 : Int32))]) rfl) ?_
  show GG _ _ _ _ _ _ _ T1 (mkF m 6 #[.val (.ref a1), .val (.int (3 : Int32)), .val (.ref ob1), .val (.int (0 : Int32))] [])
  refine own_go (fun _ => XS.iloadN X1.here hx rfl (hb hby d1_6) rfl) ?_
  show GG _ _ _ _ _ _ _ T1 (mkF m 7 #[.val (.ref a1), .val (.int (3 : Int32)), .val (.ref ob1), .val (.int (0 : Int32))] [(.int (0 : Int32))])
  refine own_go (fun _ => XS.iloadN X1.here hx rfl (hb hby d1_7) rfl) ?_
  show GG _ _ _ _ _ _ _ T1 (mkF m 8 #[.val (.ref a1), .val (.int (3 : Int32)), .val (.ref ob1), .val (.int (0 : Int32))] [(.int (3 : Int32)), (.int (0 : Int32))])
  have hc8 : (0 : Int32) < (3 : Int32) := by decide
  refine own_go (fun _ => XS.icmpNo X1.here hx rfl (hb hby d1_8) rfl (tlt hc8).2.1) ?_
  show GG _ _ _ _ _ _ _ T1 (mkF m 11 #[.val (.ref a1), .val (.int (3 : Int32)), .val (.ref ob1), .val (.int (0 : Int32))] [])
  refine own_go (fun _ => XS.aloadN X1.here hx rfl (hb hby d1_11) rfl rfl) ?_
  show GG _ _ _ _ _ _ _ T1 (mkF m 12 #[.val (.ref a1), .val (.int (3 : Int32)), .val (.ref ob1), .val (.int (0 : Int32))] [(.ref ob1)])
  refine own_go (fun _ => XS.iloadN X1.here hx rfl (hb hby d1_12) rfl) ?_
  show GG _ _ _ _ _ _ _ T1 (mkF m 13 #[.val (.ref a1), .val (.int (3 : Int32)), .val (.ref ob1), .val (.int (0 : Int32))] [(.int (0 : Int32)), (.ref ob1)])
  refine own_go (fun _ => XS.aloadN X1.here hx rfl (hb hby d1_13) rfl rfl) ?_
  show GG _ _ _ _ _ _ _ T1 (mkF m 14 #[.val (.ref a1), .val (.int (3 : Int32)), .val (.ref ob1), .val (.int (0 : Int32))] [(.ref a1), (.int (0 : Int32)), (.ref ob1)])
  refine own_go (fun _ => XS.iloadN X1.here hx rfl (hb hby d1_14) rfl) ?_
  show GG _ _ _ _ _ _ _ T1 (mkF m 15 #[.val (.ref a1), .val (.int (3 : Int32)), .val (.ref ob1), .val (.int (0 : Int32))] [(.int (0 : Int32)), (.ref a1), (.int (0 : Int32)), (.ref ob1)])
  refine own_go (fun _ => own_faload X1 hx hZ e1 V_1 (j := (0 : Int32)) (v := (.float f0)) (by decide) rfl (g := (mkF m 15 #[.val (.ref a1), .val (.int (3 : Int32)), .val (.ref ob1), .val (.int (0 : Int32))] [(.int (0 : Int32)), (.ref a1), (.int (0 : Int32)), (.ref ob1)])) rfl rfl (hb hby d1_15) _) ?_
  show GG _ _ _ _ _ _ _ T1 (mkF m 16 #[.val (.ref a1), .val (.int (3 : Int32)), .val (.ref ob1), .val (.int (0 : Int32))] [(.float f0), (.int (0 : Int32)), (.ref ob1)])
  refine own_go (fun _ => XS.f2dS X1.here hx rfl (hb hby d1_16) rfl (Jvm.Free.Fl.f2d_out nn0) rfl) ?_
  show GG _ _ _ _ _ _ _ T1 (mkF m 17 #[.val (.ref a1), .val (.int (3 : Int32)), .val (.ref ob1), .val (.int (0 : Int32))] [(.double (FP.f2d f0)), (.int (0 : Int32)), (.ref ob1)])
  obtain ⟨T2, h2, X2, e2, W2, V2, st2⟩ := own_dastore X1 hx hZ e1 V_ob1 (by decide) (Nat.le_of_ble_eq_true rfl) (g := (mkF m 17 #[.val (.ref a1), .val (.int (3 : Int32)), .val (.ref ob1), .val (.int (0 : Int32))] [(.double (FP.f2d f0)), (.int (0 : Int32)), (.ref ob1)])) rfl rfl (hb hby d1_17)
  have V_1 := V_1.other W2 ne_a1_ob1
  have K0 := K0.wr W2 (Or.inr sz_ob1)
  have E_ob1 := E_ob1.wr W2
  have V_ob1 : Arx Z h2 ob1 .double [(.double (FP.f2d f0)), (.double (0 : UInt64)), (.double (0 : UInt64))] := V2
  have N2 := Fr.snoc X2 N0 g_ob1
  refine own_go (fun _ => st2 _) ?_
  show GG _ _ _ _ _ _ _ T2 (mkF m 18 #[.val (.ref a1), .val (.int (3 : Int32)), .val (.ref ob1), .val (.int (0 : Int32))] [])
  refine own_go (fun _ => XS.iinc X2.here hx rfl (hb hby d1_18) rfl (l' := #[.val (.ref a1), .val (.int (3 : Int32)), .val (.ref ob1), .val (.int (1 : Int32))]) rfl) ?_
  show GG _ _ _ _ _ _ _ T2 (mkF m 21 #[.val (.ref a1), .val (.int (3 : Int32)), .val (.ref ob1), .val (.int (1 : Int32))] [])
  refine own_go (fun _ => XS.goto X2.here hx rfl (pc0 := 21) (pc' := 6) rfl (hb hby d1_21) (by decide) (by decide)) ?_
  show GG _ _ _ _ _ _ _ T2 (mkF m 6 #[.val (.ref a1), .val (.int (3 : Int32)), .val (.ref ob1), .val (.int (1 : Int32))] [])
  refine own_go (fun _ => XS.iloadN X2.here hx rfl (hb hby d1_6) rfl) ?_
  show GG _ _ _ _ _ _ _ T2 (mkF m 7 #[.val (.ref a1), .val (.int (3 : Int32)), .val (.ref ob1), .val (.int (1 : Int32))] [(.int (1 : Int32))])
  refine own_go (fun _ => XS.iloadN X2.here hx rfl (hb hby d1_7) rfl) ?_
  show GG _ _ _ _ _ _ _ T2 (mkF m 8 #[.val (.ref a1), .val (.int (3 : Int32)), .val (.ref ob1), .val (.int (1 : Int32))] [(.int (3 : Int32)), (.int (1 : Int32))])
  have hc8 : (1 : Int32) < (3 : Int32) := by decide
  refine own_go (fun _ => XS.icmpNo X2.here hx rfl (hb hby d1_8) rfl (tlt hc8).2.1) ?_
  show GG _ _ _ _ _ _ _ T2 (mkF m 11 #[.val (.ref a1), .val (.int (3 : Int32)), .val (.ref ob1), .val (.int (1 : Int32))] [])
  refine own_go (fun _ => XS.aloadN X2.here hx rfl (hb hby d1_11) rfl rfl) ?_
  show GG _ _ _ _ _ _ _ T2 (mkF m 12 #[.val (.ref a1), .val (.int (3 : Int32)), .val (.ref ob1), .val (.int (1 : Int32))] [(.ref ob1)])
  refine own_go (fun _ => XS.iloadN X2.here hx rfl (hb hby d1_12) rfl) ?_
  show GG _ _ _ _ _ _ _ T2 (mkF m 13 #[.val (.ref a1), .val (.int (3 : Int32)), .val (.ref ob1), .val (.int (1 : Int32))] [(.int (1 : Int32)), (.ref ob1)])
  refine own_go (fun _ => XS.aloadN X2.here hx rfl (hb hby d1_13) rfl rfl) ?_
  show GG _ _ _ _ _ _ _ T2 (mkF m 14 #[.val (.ref a1), .val (.int (3 : Int32)), .val (.ref ob1), .val (.int (1 : Int32))] [(.ref a1), (.int (1 : Int32)), (.ref ob1)])
  refine own_go (fun _ => XS.iloadN X2.here hx rfl (hb hby d1_14) rfl) ?_
  show GG _ _ _ _ _ _ _ T2 (mkF m 15 #[.val (.ref a1), .val (.int (3 : Int32)), .val (.ref ob1), .val (.int (1 : Int32))] [(.int (1 : Int32)), (.ref a1), (.int (1 : Int32)), (.ref ob1)])
  refine own_go (fun _ => own_faload X2 hx hZ e2 V_1 (j := (1 : Int32)) (v := (.float f1)) (by decide) rfl (g := (mkF m 15 #[.val (.ref a1), .val (.int (3 : Int32)), .val (.ref ob1), .val (.int (1 : Int32))] [(.int (1 : Int32)), (.ref a1), (.int (1 : Int32)), (.ref ob1)])) rfl rfl (hb hby d1_15) _) ?_
  show GG _ _ _ _ _ _ _ T2 (mkF m 16 #[.val (.ref a1), .val (.int (3 : Int32)), .val (.ref ob1), .val (.int (1 : Int32))] [(.float f1), (.int (1 : Int32)), (.ref ob1)])
  refine own_go (fun _ => XS.f2dS X2.here hx rfl (hb hby d1_16) rfl (Jvm.Free.Fl.f2d_out nn1) rfl) ?_
  show GG _ _ _ _ _ _ _ T2 (mkF m 17 #[.val (.ref a1), .val (.int (3 : Int32)), .val (.ref ob1), .val (.int (1 : Int32))] [(.double (FP.f2d f1)), (.int (1 : Int32)), (.ref ob1)])
  obtain ⟨T3, h3, X3, e3, W3, V3, st3⟩ := own_dastore X2 hx hZ e2 V_ob1 (by decide) (Nat.le_of_ble_eq_true rfl) (g := (mkF m 17 #[.val (.ref a1), .val (.int (3 : Int32)), .val (.ref ob1), .val (.int (1 : Int32))] [(.double (FP.f2d f1)), (.int (1 : Int32)), (.ref ob1)])) rfl rfl (hb hby d1_17)
  have V_1 := V_1.other W3 ne_a1_ob1
  have K0 := K0.wr W3 (Or.inr sz_ob1)
  have E_ob1 := E_ob1.wr W3
  have V_ob1 : Arx Z h3 ob1 .double [(.double (FP.f2d f0)), (.double (FP.f2d f1)), (.double (0 : UInt64))] := V3
  have N3 := Fr.snoc X3 N2 g_ob1
  refine own_go (fun _ => st3 _) ?_
  show GG _ _ _ _ _ _ _ T3 (mkF m 18 #[.val (.ref a1), .val (.int (3 : Int32)), .val (.ref ob1), .val (.int (1 : Int32))] [])
  refine own_go (fun _ => XS.iinc X3.here hx rfl (hb hby d1_18) rfl (l' := #[.val (.ref a1), .val (.int (3 : Int32)), .val (.ref ob1), .val (.int (2 : Int32))]) rfl) ?_
  show GG _ _ _ _ _ _ _ T3 (mkF m 21 #[.val (.ref a1), .val (.int (3 : Int32)), .val (.ref ob1), .val (.int (2 : Int32))] [])
  refine own_go (fun _ => XS.goto X3.here hx rfl (pc0 := 21) (pc' := 6) rfl (hb hby d1_21) (by decide) (by decide)) ?_
  show GG _ _ _ _ _ _ _ T3 (mkF m 6 #[.val (.ref a1), .val (.int (3 : Int32)), .val (.ref ob1), .val (.int (2 : Int32))] [])
  refine own_go (fun _ => XS.iloadN X3.here hx rfl (hb hby d1_6) rfl) ?_
  show GG _ _ _ _ _ _ _ T3 (mkF m 7 #[.val (.ref a1), .val (.int (3 : Int32)), .val (.ref ob1), .val (.int (2 : Int32))] [(.int (2 : Int32))])
  refine own_go (fun _ => XS.iloadN X3.here hx rfl (hb hby d1_7) rfl) ?_
  show GG _ _ _ _ _ _ _ T3 (mkF m 8 #[.val (.ref a1), .val (.int (3 : Int32)), .val (.ref ob1), .val (.int (2 : Int32))] [(.int (3 : Int32)), (.int (2 : Int32))])
  have hc8 : (2 : Int32) < (3 : Int32) := by decide
  refine own_go (fun _ => XS.icmpNo X3.here hx rfl (hb hby d1_8) rfl (tlt hc8).2.1) ?_
  show GG _ _ _ _ _ _ _ T3 (mkF m 11 #[.val (.ref a1), .val (.int (3 : Int32)), .val (.ref ob1), .val (.int (2 : Int32))] [])
  refine own_go (fun _ => XS.aloadN X3.here hx rfl (hb hby d1_11) rfl rfl) ?_
  show GG _ _ _ _ _ _ _ T3 (mkF m 12 #[.val (.ref a1), .val (.int (3 : Int32)), .val (.ref ob1), .val (.int (2 : Int32))] [(.ref ob1)])
  refine own_go (fun _ => XS.iloadN X3.here hx rfl (hb hby d1_12) rfl) ?_
  show GG _ _ _ _ _ _ _ T3 (mkF m 13 #[.val (.ref a1), .val (.int (3 : Int32)), .val (.ref ob1), .val (.int (2 : Int32))] [(.int (2 : Int32)), (.ref ob1)])
  refine own_go (fun _ => XS.aloadN X3.here hx rfl (hb hby d1_13) rfl rfl) ?_
  show GG _ _ _ _ _ _ _ T3 (mkF m 14 #[.val (.ref a1), .val (.int (3 : Int32)), .val (.ref ob1), .val (.int (2 : Int32))] [(.ref a1), (.int (2 : Int32)), (.ref ob1)])
  refine own_go (fun _ => XS.iloadN X3.here hx rfl (hb hby d1_14) rfl) ?_
  show GG _ _ _ _ _ _ _ T3 (mkF m 15 #[.val (.ref a1), .val (.int (3 : Int32)), .val (.ref ob1), .val (.int (2 : Int32))] [(.int (2 : Int32)), (.ref a1), (.int (2 : Int32)), (.ref ob1)])
  refine own_go (fun _ => own_faload X3 hx hZ e3 V_1 (j := (2 : Int32)) (v := (.float f2)) (by decide) rfl (g := (mkF m 15 #[.val (.ref a1), .val (.int (3 : Int32)), .val (.ref ob1), .val (.int (2 : Int32))] [(.int (2 : Int32)), (.ref a1), (.int (2 : Int32)), (.ref ob1)])) rfl rfl (hb hby d1_15) _) ?_
  show GG _ _ _ _ _ _ _ T3 (mkF m 16 #[.val (.ref a1), .val (.int (3 : Int32)), .val (.ref ob1), .val (.int (2 : Int32))] [(.float f2), (.int (2 : Int32)), (.ref ob1)])
  refine own_go (fun _ => XS.f2dS X3.here hx rfl (hb hby d1_16) rfl (Jvm.Free.Fl.f2d_out nn2) rfl) ?_
  show GG _ _ _ _ _ _ _ T3 (mkF m 17 #[.val (.ref a1), .val (.int (3 : Int32)), .val (.ref ob1), .val (.int (2 : Int32))] [(.double (FP.f2d f2)), (.int (2 : Int32)), (.ref ob1)])
  obtain ⟨T4, h4, X4, e4, W4, V4, st4⟩ := own_dastore X3 hx hZ e3 V_ob1 (by decide) (Nat.le_of_ble_eq_true rfl) (g := (mkF m 17 #[.val (.ref a1), .val (.int (3 : Int32)), .val (.ref ob1), .val (.int (2 : Int32))] [(.double (FP.f2d f2)), (.int (2 : Int32)), (.ref ob1)])) rfl rfl (hb hby d1_17)
  have V_1 := V_1.other W4 ne_a1_ob1
  have K0 := K0.wr W4 (Or.inr sz_ob1)
  have E_ob1 := E_ob1.wr W4
  have V_ob1 : Arx Z h4 ob1 .double [(.double (FP.f2d f0)), (.double (FP.f2d f1)), (.double (FP.f2d f2))] := V4
  have N4 := Fr.snoc X4 N3 g_ob1
  refine own_go (fun _ => st4 _) ?_
  show GG _ _ _ _ _ _ _ T4 (mkF m 18 #[.val (.ref a1), .val (.int (3 : Int32)), .val (.ref ob1), .val (.int (2 : Int32))] [])
  refine own_go (fun _ => XS.iinc X4.here hx rfl (hb hby d1_18) rfl (l' := #[.val (.ref a1), .val (.int (3 : Int32)), .val (.ref ob1), .val (.int (3 : Int32))]) rfl) ?_
  show GG _ _ _ _ _ _ _ T4 (mkF m 21 #[.val (.ref a1), .val (.int (3 : Int32)), .val (.ref ob1), .val (.int (3 : Int32))] [])
  refine own_go (fun _ => XS.goto X4.here hx rfl (pc0 := 21) (pc' := 6) rfl (hb hby d1_21) (by decide) (by decide)) ?_
  show GG _ _ _ _ _ _ _ T4 (mkF m 6 #[.val (.ref a1), .val (.int (3 : Int32)), .val (.ref ob1), .val (.int (3 : Int32))] [])
  refine own_go (fun _ => XS.iloadN X4.here hx rfl (hb hby d1_6) rfl) ?_
  show GG _ _ _ _ _ _ _ T4 (mkF m 7 #[.val (.ref a1), .val (.int (3 : Int32)), .val (.ref ob1), .val (.int (3 : Int32))] [(.int (3 : Int32))])
  refine own_go (fun _ => XS.iloadN X4.here hx rfl (hb hby d1_7) rfl) ?_
  show GG _ _ _ _ _ _ _ T4 (mkF m 8 #[.val (.ref a1), .val (.int (3 : Int32)), .val (.ref ob1), .val (.int (3 : Int32))] [(.int (3 : Int32)), (.int (3 : Int32))])
  have hc8 : ¬ ((3 : Int32) < (3 : Int32)) := by decide
  refine own_go (fun _ => XS.icmpYes X4.here hx rfl (pc0 := 8) (pc' := 24) rfl (hb hby d1_8) rfl (flt hc8).2.1 (by decide) (by decide)) ?_
  show GG _ _ _ _ _ _ _ T4 (mkF m 24 #[.val (.ref a1), .val (.int (3 : Int32)), .val (.ref ob1), .val (.int (3 : Int32))] [])
  refine own_go (fun _ => XS.aloadN X4.here hx rfl (hb hby d1_24) rfl rfl) ?_
  show GG _ _ _ _ _ _ _ T4 (mkF m 25 #[.val (.ref a1), .val (.int (3 : Int32)), .val (.ref ob1), .val (.int (3 : Int32))] [(.ref ob1)])
  refine own_ret X4 hx hlk (t := (.array .double)) (w := (.ref ob1)) Bd.returns rfl (Or.inr (Or.inr (Or.inr (Or.inr ⟨rfl, rfl, rfl⟩)))) (hb hby d1_25) (by decide) (by decide) ?_
  show Q1_3 Z a1 f0 f1 f2 f3 h0 n0 (some (.ref ob1)) T4.heap _
  rw [e4]
  exact ⟨_, rfl, N4, sz_ob1, K0, V_ob1⟩
def Q1_4 (Z : State) (a1 : Addr) (f0 f1 f2 f3 : UInt32) (h0 : Heap) (n0 : Nat) (v : Option Value) (h : Heap) (L : List Loc) : Prop := ∃ b, v = some (.ref b) ∧ Fr n0 L ∧ h0.size ≤ b ∧ Keep h0 h [] ∧ Arx Z h b .double [(.double (FP.f2d f0)), (.double (FP.f2d f1)), (.double (FP.f2d f2)), (.double (FP.f2d f3))]
set_option maxRecDepth 65536 in
set_option maxHeartbeats 40000000 in
theorem rm1_4 (l : Launch) (Z : State) (a0 : Array Value) (hw : ∀ d ∈ tables_1, d.before a0 Z = true) (ws : List Jvm.Cond) (a1 : Addr) (f0 f1 f2 f3 : UInt32) (h0 : Heap) (n0 : Nat) (Z0 : n0 ≤ h0.size) (V_1 : Arx Z h0 a1 .float [(.float f0), (.float f1), (.float f2), (.float f3)]) (nn0 : Jvm.Free.Fl.NoNaN32 f0) (nn1 : Jvm.Free.Fl.NoNaN32 f1) (nn2 : Jvm.Free.Fl.NoNaN32 f2) (nn3 : Jvm.Free.Fl.NoNaN32 f3) :
    own_CT l Z (⟨"com/example/hadamint/hadamint/Queries", "widened", "([FI)[D"⟩ : MethodName) prog_15_method_5_code 4 (some (.array .double)) ws ({ frames := 0, cells := 1, slots := 4, locals := 0 } : Room) #[(.ref a1), (.int (4 : Int32))] h0 (Q1_4 Z a1 f0 f1 f2 f3 h0 n0) := by
  refine MetFree.of_bodySF (plainFor_of_name pn_com_example_hadamint_hadamint_Queries) hisR ?_
  intro p e s m args below meth c s₁ Bd hml0 hP hK
  obtain ⟨rfl, hZ, hh⟩ := hP
  have hx := Bd.exec
  have hby := Bd.bytes
  have hml : c.maxLocals = 4 := hml0
  have hown : s.vm.findClass "com/example/hadamint/hadamint/Queries" = some m.cls := findClass_of_methodNamed Bd.named
  have hnm := (name_of_methodNamed Bd.named Bd.method).1
  have hlk : meth.locks = false := BodyLoose.notSynchronized Bd
  have X0 : Stand p l e ({ frames := 0, cells := 1, slots := 4, locals := 0 } : Room) s m #[(.ref a1), (.int (4 : Int32))] below meth c s₁ [] 0 0 := Stand.of_body Bd
  have e0 : s₁.heap = h0 := by rw [← hh, Bd.state]; rfl
  have N0 := Fr.nil n0
  show GG p e below s ({ frames := 0, cells := 1, slots := 4, locals := 0 } : Room).cells ({ frames := 0, cells := 1, slots := 4, locals := 0 } : Room).slots (Q1_4 Z a1 f0 f1 f2 f3 h0 n0) s₁ (entryFrame m #[(.ref a1), (.int (4 : Int32))] 4)
  refine own_in (ef_1 m a1 (4 : Int32)) ?_
  show GG _ _ _ _ _ _ _ s₁ (mkF m 0 #[.val (.ref a1), .val (.int (4 : Int32)), .unset, .unset] [])
  refine own_go (fun _ => XS.iloadN X0.here hx rfl (hb hby d1_0) rfl) ?_
  show GG _ _ _ _ _ _ _ s₁ (mkF m 1 #[.val (.ref a1), .val (.int (4 : Int32)), .unset, .unset] [(.int (4 : Int32))])
  have K0 := Keep.refl h0 []
  obtain ⟨T1, h1, ob1, g1, X1, e1, E1, V_ob1, E_ob1, st1⟩ := own_newarr X0 hx hZ (hw _ (List.mem_of_getElem? (i := 6) rfl)) e0 (g := (mkF m 1 #[.val (.ref a1), .val (.int (4 : Int32)), .unset, .unset] [(.int (4 : Int32))])) rfl (hb hby d1_1) rfl (by decide) (cap := 4) (by decide) (by decide) (by decide) (by decide) (ad := "[D") (by decide)
  have ne_a1_ob1 : a1 ≠ ob1 := Nat.ne_of_lt (Nat.lt_of_lt_of_le V_1.lt (Nat.le_of_eq g1.symm))
  have sz_ob1 : h0.size ≤ ob1 := Nat.le_trans K0.1 (Nat.le_of_eq g1.symm)
  have g_ob1 : n0 ≤ ob1 := Nat.le_trans Z0 sz_ob1
  have V_1 := V_1.ext E1
  have K0 := K0.ext E1
  have V_ob1 : Arx Z h1 ob1 .double [(.double (0 : UInt64)), (.double (0 : UInt64)), (.double (0 : UInt64)), (.double (0 : UInt64))] := V_ob1
  refine own_go (fun _ => st1 _) ?_
  show GG _ _ _ _ _ _ _ T1 (mkF m 3 #[.val (.ref a1), .val (.int (4 : Int32)), .unset, .unset] [(.ref ob1)])
  refine own_go (fun _ => XS.astoreN X1.here hx rfl (hb hby d1_3) rfl rfl (l' := #[.val (.ref a1), .val (.int (4 : Int32)), .val (.ref ob1), .unset]) rfl) ?_
  show GG _ _ _ _ _ _ _ T1 (mkF m 4 #[.val (.ref a1), .val (.int (4 : Int32)), .val (.ref ob1), .unset] [])
  refine own_go (fun _ => XS.iconst X1.here hx rfl (hb hby d1_4)) ?_
  show GG _ _ _ _ _ _ _ T1 (mkF m 5 #[.val (.ref a1), .val (.int (4 : Int32)), .val (.ref ob1), .unset] [(.int (0 : Int32))])
  refine own_go (fun _ => XS.istoreN X1.here hx rfl (hb hby d1_5) rfl (l' := #[.val (.ref a1), .val (.int (4 : Int32)), .val (.ref ob1), .val (.int (0 : Int32))]) rfl) ?_
  show GG _ _ _ _ _ _ _ T1 (mkF m 6 #[.val (.ref a1), .val (.int (4 : Int32)), .val (.ref ob1), .val (.int (0 : Int32))] [])
  refine own_go (fun _ => XS.iloadN X1.here hx rfl (hb hby d1_6) rfl) ?_
  show GG _ _ _ _ _ _ _ T1 (mkF m 7 #[.val (.ref a1), .val (.int (4 : Int32)), .val (.ref ob1), .val (.int (0 : Int32))] [(.int (0 : Int32))])
  refine own_go (fun _ => XS.iloadN X1.here hx rfl (hb hby d1_7) rfl) ?_
  show GG _ _ _ _ _ _ _ T1 (mkF m 8 #[.val (.ref a1), .val (.int (4 : Int32)), .val (.ref ob1), .val (.int (0 : Int32))] [(.int (4 : Int32)), (.int (0 : Int32))])
  have hc8 : (0 : Int32) < (4 : Int32) := by decide
  refine own_go (fun _ => XS.icmpNo X1.here hx rfl (hb hby d1_8) rfl (tlt hc8).2.1) ?_
  show GG _ _ _ _ _ _ _ T1 (mkF m 11 #[.val (.ref a1), .val (.int (4 : Int32)), .val (.ref ob1), .val (.int (0 : Int32))] [])
  refine own_go (fun _ => XS.aloadN X1.here hx rfl (hb hby d1_11) rfl rfl) ?_
  show GG _ _ _ _ _ _ _ T1 (mkF m 12 #[.val (.ref a1), .val (.int (4 : Int32)), .val (.ref ob1), .val (.int (0 : Int32))] [(.ref ob1)])
  refine own_go (fun _ => XS.iloadN X1.here hx rfl (hb hby d1_12) rfl) ?_
  show GG _ _ _ _ _ _ _ T1 (mkF m 13 #[.val (.ref a1), .val (.int (4 : Int32)), .val (.ref ob1), .val (.int (0 : Int32))] [(.int (0 : Int32)), (.ref ob1)])
  refine own_go (fun _ => XS.aloadN X1.here hx rfl (hb hby d1_13) rfl rfl) ?_
  show GG _ _ _ _ _ _ _ T1 (mkF m 14 #[.val (.ref a1), .val (.int (4 : Int32)), .val (.ref ob1), .val (.int (0 : Int32))] [(.ref a1), (.int (0 : Int32)), (.ref ob1)])
  refine own_go (fun _ => XS.iloadN X1.here hx rfl (hb hby d1_14) rfl) ?_
  show GG _ _ _ _ _ _ _ T1 (mkF m 15 #[.val (.ref a1), .val (.int (4 : Int32)), .val (.ref ob1), .val (.int (0 : Int32))] [(.int (0 : Int32)), (.ref a1), (.int (0 : Int32)), (.ref ob1)])
  refine own_go (fun _ => own_faload X1 hx hZ e1 V_1 (j := (0 : Int32)) (v := (.float f0)) (by decide) rfl (g := (mkF m 15 #[.val (.ref a1), .val (.int (4 : Int32)), .val (.ref ob1), .val (.int (0 : Int32))] [(.int (0 : Int32)), (.ref a1), (.int (0 : Int32)), (.ref ob1)])) rfl rfl (hb hby d1_15) _) ?_
  show GG _ _ _ _ _ _ _ T1 (mkF m 16 #[.val (.ref a1), .val (.int (4 : Int32)), .val (.ref ob1), .val (.int (0 : Int32))] [(.float f0), (.int (0 : Int32)), (.ref ob1)])
  refine own_go (fun _ => XS.f2dS X1.here hx rfl (hb hby d1_16) rfl (Jvm.Free.Fl.f2d_out nn0) rfl) ?_
  show GG _ _ _ _ _ _ _ T1 (mkF m 17 #[.val (.ref a1), .val (.int (4 : Int32)), .val (.ref ob1), .val (.int (0 : Int32))] [(.double (FP.f2d f0)), (.int (0 : Int32)), (.ref ob1)])
  obtain ⟨T2, h2, X2, e2, W2, V2, st2⟩ := own_dastore X1 hx hZ e1 V_ob1 (by decide) (Nat.le_of_ble_eq_true rfl) (g := (mkF m 17 #[.val (.ref a1), .val (.int (4 : Int32)), .val (.ref ob1), .val (.int (0 : Int32))] [(.double (FP.f2d f0)), (.int (0 : Int32)), (.ref ob1)])) rfl rfl (hb hby d1_17)
  have V_1 := V_1.other W2 ne_a1_ob1
  have K0 := K0.wr W2 (Or.inr sz_ob1)
  have E_ob1 := E_ob1.wr W2
  have V_ob1 : Arx Z h2 ob1 .double [(.double (FP.f2d f0)), (.double (0 : UInt64)), (.double (0 : UInt64)), (.double (0 : UInt64))] := V2
  have N2 := Fr.snoc X2 N0 g_ob1
  refine own_go (fun _ => st2 _) ?_
  show GG _ _ _ _ _ _ _ T2 (mkF m 18 #[.val (.ref a1), .val (.int (4 : Int32)), .val (.ref ob1), .val (.int (0 : Int32))] [])
  refine own_go (fun _ => XS.iinc X2.here hx rfl (hb hby d1_18) rfl (l' := #[.val (.ref a1), .val (.int (4 : Int32)), .val (.ref ob1), .val (.int (1 : Int32))]) rfl) ?_
  show GG _ _ _ _ _ _ _ T2 (mkF m 21 #[.val (.ref a1), .val (.int (4 : Int32)), .val (.ref ob1), .val (.int (1 : Int32))] [])
  refine own_go (fun _ => XS.goto X2.here hx rfl (pc0 := 21) (pc' := 6) rfl (hb hby d1_21) (by decide) (by decide)) ?_
  show GG _ _ _ _ _ _ _ T2 (mkF m 6 #[.val (.ref a1), .val (.int (4 : Int32)), .val (.ref ob1), .val (.int (1 : Int32))] [])
  refine own_go (fun _ => XS.iloadN X2.here hx rfl (hb hby d1_6) rfl) ?_
  show GG _ _ _ _ _ _ _ T2 (mkF m 7 #[.val (.ref a1), .val (.int (4 : Int32)), .val (.ref ob1), .val (.int (1 : Int32))] [(.int (1 : Int32))])
  refine own_go (fun _ => XS.iloadN X2.here hx rfl (hb hby d1_7) rfl) ?_
  show GG _ _ _ _ _ _ _ T2 (mkF m 8 #[.val (.ref a1), .val (.int (4 : Int32)), .val (.ref ob1), .val (.int (1 : Int32))] [(.int (4 : Int32)), (.int (1 : Int32))])
  have hc8 : (1 : Int32) < (4 : Int32) := by decide
  refine own_go (fun _ => XS.icmpNo X2.here hx rfl (hb hby d1_8) rfl (tlt hc8).2.1) ?_
  show GG _ _ _ _ _ _ _ T2 (mkF m 11 #[.val (.ref a1), .val (.int (4 : Int32)), .val (.ref ob1), .val (.int (1 : Int32))] [])
  refine own_go (fun _ => XS.aloadN X2.here hx rfl (hb hby d1_11) rfl rfl) ?_
  show GG _ _ _ _ _ _ _ T2 (mkF m 12 #[.val (.ref a1), .val (.int (4 : Int32)), .val (.ref ob1), .val (.int (1 : Int32))] [(.ref ob1)])
  refine own_go (fun _ => XS.iloadN X2.here hx rfl (hb hby d1_12) rfl) ?_
  show GG _ _ _ _ _ _ _ T2 (mkF m 13 #[.val (.ref a1), .val (.int (4 : Int32)), .val (.ref ob1), .val (.int (1 : Int32))] [(.int (1 : Int32)), (.ref ob1)])
  refine own_go (fun _ => XS.aloadN X2.here hx rfl (hb hby d1_13) rfl rfl) ?_
  show GG _ _ _ _ _ _ _ T2 (mkF m 14 #[.val (.ref a1), .val (.int (4 : Int32)), .val (.ref ob1), .val (.int (1 : Int32))] [(.ref a1), (.int (1 : Int32)), (.ref ob1)])
  refine own_go (fun _ => XS.iloadN X2.here hx rfl (hb hby d1_14) rfl) ?_
  show GG _ _ _ _ _ _ _ T2 (mkF m 15 #[.val (.ref a1), .val (.int (4 : Int32)), .val (.ref ob1), .val (.int (1 : Int32))] [(.int (1 : Int32)), (.ref a1), (.int (1 : Int32)), (.ref ob1)])
  refine own_go (fun _ => own_faload X2 hx hZ e2 V_1 (j := (1 : Int32)) (v := (.float f1)) (by decide) rfl (g := (mkF m 15 #[.val (.ref a1), .val (.int (4 : Int32)), .val (.ref ob1), .val (.int (1 : Int32))] [(.int (1 : Int32)), (.ref a1), (.int (1 : Int32)), (.ref ob1)])) rfl rfl (hb hby d1_15) _) ?_
  show GG _ _ _ _ _ _ _ T2 (mkF m 16 #[.val (.ref a1), .val (.int (4 : Int32)), .val (.ref ob1), .val (.int (1 : Int32))] [(.float f1), (.int (1 : Int32)), (.ref ob1)])
  refine own_go (fun _ => XS.f2dS X2.here hx rfl (hb hby d1_16) rfl (Jvm.Free.Fl.f2d_out nn1) rfl) ?_
  show GG _ _ _ _ _ _ _ T2 (mkF m 17 #[.val (.ref a1), .val (.int (4 : Int32)), .val (.ref ob1), .val (.int (1 : Int32))] [(.double (FP.f2d f1)), (.int (1 : Int32)), (.ref ob1)])
  obtain ⟨T3, h3, X3, e3, W3, V3, st3⟩ := own_dastore X2 hx hZ e2 V_ob1 (by decide) (Nat.le_of_ble_eq_true rfl) (g := (mkF m 17 #[.val (.ref a1), .val (.int (4 : Int32)), .val (.ref ob1), .val (.int (1 : Int32))] [(.double (FP.f2d f1)), (.int (1 : Int32)), (.ref ob1)])) rfl rfl (hb hby d1_17)
  have V_1 := V_1.other W3 ne_a1_ob1
  have K0 := K0.wr W3 (Or.inr sz_ob1)
  have E_ob1 := E_ob1.wr W3
  have V_ob1 : Arx Z h3 ob1 .double [(.double (FP.f2d f0)), (.double (FP.f2d f1)), (.double (0 : UInt64)), (.double (0 : UInt64))] := V3
  have N3 := Fr.snoc X3 N2 g_ob1
  refine own_go (fun _ => st3 _) ?_
  show GG _ _ _ _ _ _ _ T3 (mkF m 18 #[.val (.ref a1), .val (.int (4 : Int32)), .val (.ref ob1), .val (.int (1 : Int32))] [])
  refine own_go (fun _ => XS.iinc X3.here hx rfl (hb hby d1_18) rfl (l' := #[.val (.ref a1), .val (.int (4 : Int32)), .val (.ref ob1), .val (.int (2 : Int32))]) rfl) ?_
  show GG _ _ _ _ _ _ _ T3 (mkF m 21 #[.val (.ref a1), .val (.int (4 : Int32)), .val (.ref ob1), .val (.int (2 : Int32))] [])
  refine own_go (fun _ => XS.goto X3.here hx rfl (pc0 := 21) (pc' := 6) rfl (hb hby d1_21) (by decide) (by decide)) ?_
  show GG _ _ _ _ _ _ _ T3 (mkF m 6 #[.val (.ref a1), .val (.int (4 : Int32)), .val (.ref ob1), .val (.int (2 : Int32))] [])
  refine own_go (fun _ => XS.iloadN X3.here hx rfl (hb hby d1_6) rfl) ?_
  show GG _ _ _ _ _ _ _ T3 (mkF m 7 #[.val (.ref a1), .val (.int (4 : Int32)), .val (.ref ob1), .val (.int (2 : Int32))] [(.int (2 : Int32))])
  refine own_go (fun _ => XS.iloadN X3.here hx rfl (hb hby d1_7) rfl) ?_
  show GG _ _ _ _ _ _ _ T3 (mkF m 8 #[.val (.ref a1), .val (.int (4 : Int32)), .val (.ref ob1), .val (.int (2 : Int32))] [(.int (4 : Int32)), (.int (2 : Int32))])
  have hc8 : (2 : Int32) < (4 : Int32) := by decide
  refine own_go (fun _ => XS.icmpNo X3.here hx rfl (hb hby d1_8) rfl (tlt hc8).2.1) ?_
  show GG _ _ _ _ _ _ _ T3 (mkF m 11 #[.val (.ref a1), .val (.int (4 : Int32)), .val (.ref ob1), .val (.int (2 : Int32))] [])
  refine own_go (fun _ => XS.aloadN X3.here hx rfl (hb hby d1_11) rfl rfl) ?_
  show GG _ _ _ _ _ _ _ T3 (mkF m 12 #[.val (.ref a1), .val (.int (4 : Int32)), .val (.ref ob1), .val (.int (2 : Int32))] [(.ref ob1)])
  refine own_go (fun _ => XS.iloadN X3.here hx rfl (hb hby d1_12) rfl) ?_
  show GG _ _ _ _ _ _ _ T3 (mkF m 13 #[.val (.ref a1), .val (.int (4 : Int32)), .val (.ref ob1), .val (.int (2 : Int32))] [(.int (2 : Int32)), (.ref ob1)])
  refine own_go (fun _ => XS.aloadN X3.here hx rfl (hb hby d1_13) rfl rfl) ?_
  show GG _ _ _ _ _ _ _ T3 (mkF m 14 #[.val (.ref a1), .val (.int (4 : Int32)), .val (.ref ob1), .val (.int (2 : Int32))] [(.ref a1), (.int (2 : Int32)), (.ref ob1)])
  refine own_go (fun _ => XS.iloadN X3.here hx rfl (hb hby d1_14) rfl) ?_
  show GG _ _ _ _ _ _ _ T3 (mkF m 15 #[.val (.ref a1), .val (.int (4 : Int32)), .val (.ref ob1), .val (.int (2 : Int32))] [(.int (2 : Int32)), (.ref a1), (.int (2 : Int32)), (.ref ob1)])
  refine own_go (fun _ => own_faload X3 hx hZ e3 V_1 (j := (2 : Int32)) (v := (.float f2)) (by decide) rfl (g := (mkF m 15 #[.val (.ref a1), .val (.int (4 : Int32)), .val (.ref ob1), .val (.int (2 : Int32))] [(.int (2 : Int32)), (.ref a1), (.int (2 : Int32)), (.ref ob1)])) rfl rfl (hb hby d1_15) _) ?_
  show GG _ _ _ _ _ _ _ T3 (mkF m 16 #[.val (.ref a1), .val (.int (4 : Int32)), .val (.ref ob1), .val (.int (2 : Int32))] [(.float f2), (.int (2 : Int32)), (.ref ob1)])
  refine own_go (fun _ => XS.f2dS X3.here hx rfl (hb hby d1_16) rfl (Jvm.Free.Fl.f2d_out nn2) rfl) ?_
  show GG _ _ _ _ _ _ _ T3 (mkF m 17 #[.val (.ref a1), .val (.int (4 : Int32)), .val (.ref ob1), .val (.int (2 : Int32))] [(.double (FP.f2d f2)), (.int (2 : Int32)), (.ref ob1)])
  obtain ⟨T4, h4, X4, e4, W4, V4, st4⟩ := own_dastore X3 hx hZ e3 V_ob1 (by decide) (Nat.le_of_ble_eq_true rfl) (g := (mkF m 17 #[.val (.ref a1), .val (.int (4 : Int32)), .val (.ref ob1), .val (.int (2 : Int32))] [(.double (FP.f2d f2)), (.int (2 : Int32)), (.ref ob1)])) rfl rfl (hb hby d1_17)
  have V_1 := V_1.other W4 ne_a1_ob1
  have K0 := K0.wr W4 (Or.inr sz_ob1)
  have E_ob1 := E_ob1.wr W4
  have V_ob1 : Arx Z h4 ob1 .double [(.double (FP.f2d f0)), (.double (FP.f2d f1)), (.double (FP.f2d f2)), (.double (0 : UInt64))] := V4
  have N4 := Fr.snoc X4 N3 g_ob1
  refine own_go (fun _ => st4 _) ?_
  show GG _ _ _ _ _ _ _ T4 (mkF m 18 #[.val (.ref a1), .val (.int (4 : Int32)), .val (.ref ob1), .val (.int (2 : Int32))] [])
  refine own_go (fun _ => XS.iinc X4.here hx rfl (hb hby d1_18) rfl (l' := #[.val (.ref a1), .val (.int (4 : Int32)), .val (.ref ob1), .val (.int (3 : Int32))]) rfl) ?_
  show GG _ _ _ _ _ _ _ T4 (mkF m 21 #[.val (.ref a1), .val (.int (4 : Int32)), .val (.ref ob1), .val (.int (3 : Int32))] [])
  refine own_go (fun _ => XS.goto X4.here hx rfl (pc0 := 21) (pc' := 6) rfl (hb hby d1_21) (by decide) (by decide)) ?_
  show GG _ _ _ _ _ _ _ T4 (mkF m 6 #[.val (.ref a1), .val (.int (4 : Int32)), .val (.ref ob1), .val (.int (3 : Int32))] [])
  refine own_go (fun _ => XS.iloadN X4.here hx rfl (hb hby d1_6) rfl) ?_
  show GG _ _ _ _ _ _ _ T4 (mkF m 7 #[.val (.ref a1), .val (.int (4 : Int32)), .val (.ref ob1), .val (.int (3 : Int32))] [(.int (3 : Int32))])
  refine own_go (fun _ => XS.iloadN X4.here hx rfl (hb hby d1_7) rfl) ?_
  show GG _ _ _ _ _ _ _ T4 (mkF m 8 #[.val (.ref a1), .val (.int (4 : Int32)), .val (.ref ob1), .val (.int (3 : Int32))] [(.int (4 : Int32)), (.int (3 : Int32))])
  have hc8 : (3 : Int32) < (4 : Int32) := by decide
  refine own_go (fun _ => XS.icmpNo X4.here hx rfl (hb hby d1_8) rfl (tlt hc8).2.1) ?_
  show GG _ _ _ _ _ _ _ T4 (mkF m 11 #[.val (.ref a1), .val (.int (4 : Int32)), .val (.ref ob1), .val (.int (3 : Int32))] [])
  refine own_go (fun _ => XS.aloadN X4.here hx rfl (hb hby d1_11) rfl rfl) ?_
  show GG _ _ _ _ _ _ _ T4 (mkF m 12 #[.val (.ref a1), .val (.int (4 : Int32)), .val (.ref ob1), .val (.int (3 : Int32))] [(.ref ob1)])
  refine own_go (fun _ => XS.iloadN X4.here hx rfl (hb hby d1_12) rfl) ?_
  show GG _ _ _ _ _ _ _ T4 (mkF m 13 #[.val (.ref a1), .val (.int (4 : Int32)), .val (.ref ob1), .val (.int (3 : Int32))] [(.int (3 : Int32)), (.ref ob1)])
  refine own_go (fun _ => XS.aloadN X4.here hx rfl (hb hby d1_13) rfl rfl) ?_
  show GG _ _ _ _ _ _ _ T4 (mkF m 14 #[.val (.ref a1), .val (.int (4 : Int32)), .val (.ref ob1), .val (.int (3 : Int32))] [(.ref a1), (.int (3 : Int32)), (.ref ob1)])
  refine own_go (fun _ => XS.iloadN X4.here hx rfl (hb hby d1_14) rfl) ?_
  show GG _ _ _ _ _ _ _ T4 (mkF m 15 #[.val (.ref a1), .val (.int (4 : Int32)), .val (.ref ob1), .val (.int (3 : Int32))] [(.int (3 : Int32)), (.ref a1), (.int (3 : Int32)), (.ref ob1)])
  refine own_go (fun _ => own_faload X4 hx hZ e4 V_1 (j := (3 : Int32)) (v := (.float f3)) (by decide) rfl (g := (mkF m 15 #[.val (.ref a1), .val (.int (4 : Int32)), .val (.ref ob1), .val (.int (3 : Int32))] [(.int (3 : Int32)), (.ref a1), (.int (3 : Int32)), (.ref ob1)])) rfl rfl (hb hby d1_15) _) ?_
  show GG _ _ _ _ _ _ _ T4 (mkF m 16 #[.val (.ref a1), .val (.int (4 : Int32)), .val (.ref ob1), .val (.int (3 : Int32))] [(.float f3), (.int (3 : Int32)), (.ref ob1)])
  refine own_go (fun _ => XS.f2dS X4.here hx rfl (hb hby d1_16) rfl (Jvm.Free.Fl.f2d_out nn3) rfl) ?_
  show GG _ _ _ _ _ _ _ T4 (mkF m 17 #[.val (.ref a1), .val (.int (4 : Int32)), .val (.ref ob1), .val (.int (3 : Int32))] [(.double (FP.f2d f3)), (.int (3 : Int32)), (.ref ob1)])
  obtain ⟨T5, h5, X5, e5, W5, V5, st5⟩ := own_dastore X4 hx hZ e4 V_ob1 (by decide) (Nat.le_of_ble_eq_true rfl) (g := (mkF m 17 #[.val (.ref a1), .val (.int (4 : Int32)), .val (.ref ob1), .val (.int (3 : Int32))] [(.double (FP.f2d f3)), (.int (3 : Int32)), (.ref ob1)])) rfl rfl (hb hby d1_17)
  have V_1 := V_1.other W5 ne_a1_ob1
  have K0 := K0.wr W5 (Or.inr sz_ob1)
  have E_ob1 := E_ob1.wr W5
  have V_ob1 : Arx Z h5 ob1 .double [(.double (FP.f2d f0)), (.double (FP.f2d f1)), (.double (FP.f2d f2)), (.double (FP.f2d f3))] := V5
  have N5 := Fr.snoc X5 N4 g_ob1
  refine own_go (fun _ => st5 _) ?_
  show GG _ _ _ _ _ _ _ T5 (mkF m 18 #[.val (.ref a1), .val (.int (4 : Int32)), .val (.ref ob1), .val (.int (3 : Int32))] [])
  refine own_go (fun _ => XS.iinc X5.here hx rfl (hb hby d1_18) rfl (l' := #[.val (.ref a1), .val (.int (4 : Int32)), .val (.ref ob1), .val (.int (4 : Int32))]) rfl) ?_
  show GG _ _ _ _ _ _ _ T5 (mkF m 21 #[.val (.ref a1), .val (.int (4 : Int32)), .val (.ref ob1), .val (.int (4 : Int32))] [])
  refine own_go (fun _ => XS.goto X5.here hx rfl (pc0 := 21) (pc' := 6) rfl (hb hby d1_21) (by decide) (by decide)) ?_
  show GG _ _ _ _ _ _ _ T5 (mkF m 6 #[.val (.ref a1), .val (.int (4 : Int32)), .val (.ref ob1), .val (.int (4 : Int32))] [])
  refine own_go (fun _ => XS.iloadN X5.here hx rfl (hb hby d1_6) rfl) ?_
  show GG _ _ _ _ _ _ _ T5 (mkF m 7 #[.val (.ref a1), .val (.int (4 : Int32)), .val (.ref ob1), .val (.int (4 : Int32))] [(.int (4 : Int32))])
  refine own_go (fun _ => XS.iloadN X5.here hx rfl (hb hby d1_7) rfl) ?_
  show GG _ _ _ _ _ _ _ T5 (mkF m 8 #[.val (.ref a1), .val (.int (4 : Int32)), .val (.ref ob1), .val (.int (4 : Int32))] [(.int (4 : Int32)), (.int (4 : Int32))])
  have hc8 : ¬ ((4 : Int32) < (4 : Int32)) := by decide
  refine own_go (fun _ => XS.icmpYes X5.here hx rfl (pc0 := 8) (pc' := 24) rfl (hb hby d1_8) rfl (flt hc8).2.1 (by decide) (by decide)) ?_
  show GG _ _ _ _ _ _ _ T5 (mkF m 24 #[.val (.ref a1), .val (.int (4 : Int32)), .val (.ref ob1), .val (.int (4 : Int32))] [])
  refine own_go (fun _ => XS.aloadN X5.here hx rfl (hb hby d1_24) rfl rfl) ?_
  show GG _ _ _ _ _ _ _ T5 (mkF m 25 #[.val (.ref a1), .val (.int (4 : Int32)), .val (.ref ob1), .val (.int (4 : Int32))] [(.ref ob1)])
  refine own_ret X5 hx hlk (t := (.array .double)) (w := (.ref ob1)) Bd.returns rfl (Or.inr (Or.inr (Or.inr (Or.inr ⟨rfl, rfl, rfl⟩)))) (hb hby d1_25) (by decide) (by decide) ?_
  show Q1_4 Z a1 f0 f1 f2 f3 h0 n0 (some (.ref ob1)) T5.heap _
  rw [e5]
  exact ⟨_, rfl, N5, sz_ob1, K0, V_ob1⟩
theorem pd___FI__D_474 : parseMethodDescriptor "([FI)[D" = some ⟨[(.array .float), .int], some (.array .double)⟩ := by decide +kernel
theorem pn_com_example_hadamint_hadamint_QueriesWidenedPinLaw : plainName "com/example/hadamint/hadamint/QueriesWidenedPinLaw" = true := by first | (simp [plainName, overriddenIn]; done) | decide +kernel
theorem ef_0 (m : MethodId) (x0 : Int32) (x1 : Int32) (x2 : Int32) (x3 : Int32) (x4 : Int32) : entryFrame m #[(.int x0), (.int x1), (.int x2), (.int x3), (.int x4)] maxLocals = mkF m 0 #[.val (.int x0), .val (.int x1), .val (.int x2), .val (.int x3), .val (.int x4), .unset, .unset, .unset, .unset, .unset, .unset, .unset, .unset, .unset, .unset, .unset, .unset, .unset] [] := by first | (simp [entryFrame, mkF, argsToLocals, Value.category, maxLocals]; done) | rfl
def Q0 (Z : State) (p0 : Int32) (p1 : Int32) (p2 : Int32) (p3 : Int32) (p4 : Int32) (h0 : Heap) (n0 : Nat) (v : Option Value) (h : Heap) (L : List Loc) : Prop := v = some (.int 1) ∧ Fr n0 L
set_option maxRecDepth 65536 in
set_option maxHeartbeats 40000000 in
theorem rm0 (l : Launch) (Z : State) (a0 : Array Value) (hw : ∀ d ∈ tables_1, d.before a0 Z = true) (ws : List Jvm.Cond) (p0 : Int32) (p1 : Int32) (p2 : Int32) (p3 : Int32) (p4 : Int32) (h0 : Heap) (n0 : Nat) (Z0 : n0 ≤ h0.size)  :
    own_CT l Z x code maxLocals ret ws room_1 #[(.int p0), (.int p1), (.int p2), (.int p3), (.int p4)] h0 (Q0 Z p0 p1 p2 p3 p4 h0 n0) := by
  refine MetFree.of_bodySF (plainFor_of_name pn_com_example_hadamint_hadamint_QueriesWidenedPinLaw) hisR ?_
  intro p e s m args below meth c s₁ Bd hml0 hP hK
  obtain ⟨rfl, hZ, hh⟩ := hP
  have hx := Bd.exec
  have hby := Bd.bytes
  have hml : c.maxLocals = 18 := hml0
  have hown : s.vm.findClass "com/example/hadamint/hadamint/QueriesWidenedPinLaw" = some m.cls := findClass_of_methodNamed Bd.named
  have hnm := (name_of_methodNamed Bd.named Bd.method).1
  have hlk : meth.locks = false := BodyLoose.notSynchronized Bd
  have X0 : Stand p l e room_1 s m #[(.int p0), (.int p1), (.int p2), (.int p3), (.int p4)] below meth c s₁ [] 0 0 := Stand.of_body Bd
  have e0 : s₁.heap = h0 := by rw [← hh, Bd.state]; rfl
  have N0 := Fr.nil n0
  show GG p e below s room_1.cells room_1.slots (Q0 Z p0 p1 p2 p3 p4 h0 n0) s₁ (entryFrame m #[(.int p0), (.int p1), (.int p2), (.int p3), (.int p4)] maxLocals)
  refine own_in (ef_0 m p0 p1 p2 p3 p4) ?_
  show GG _ _ _ _ _ _ _ s₁ (mkF m 0 #[.val (.int p0), .val (.int p1), .val (.int p2), .val (.int p3), .val (.int p4), .unset, .unset, .unset, .unset, .unset, .unset, .unset, .unset, .unset, .unset, .unset, .unset, .unset] [])
  refine own_go (fun _ => XS.iload X0.here hx rfl (hb hby at_0) rfl) ?_
  show GG _ _ _ _ _ _ _ s₁ (mkF m 2 #[.val (.int p0), .val (.int p1), .val (.int p2), .val (.int p3), .val (.int p4), .unset, .unset, .unset, .unset, .unset, .unset, .unset, .unset, .unset, .unset, .unset, .unset, .unset] [(.int p4)])
  refine own_go (fun _ => X0.ldcInt hx hown (mvT hZ (hw _ (List.mem_of_getElem? (i := 0) rfl))) (g := (mkF m 2 #[.val (.int p0), .val (.int p1), .val (.int p2), .val (.int p3), .val (.int p4), .unset, .unset, .unset, .unset, .unset, .unset, .unset, .unset, .unset, .unset, .unset, .unset, .unset] [(.int p4)])) rfl (hb hby at_2) _) ?_
  show GG _ _ _ _ _ _ _ s₁ (mkF m 4 #[.val (.int p0), .val (.int p1), .val (.int p2), .val (.int p3), .val (.int p4), .unset, .unset, .unset, .unset, .unset, .unset, .unset, .unset, .unset, .unset, .unset, .unset, .unset] [(.int (2147483647 : Int32)), (.int p4)])
  refine own_go (fun _ => XS.iand X0.here hx rfl (hb hby at_4) rfl) ?_
  show GG _ _ _ _ _ _ _ s₁ (mkF m 5 #[.val (.int p0), .val (.int p1), .val (.int p2), .val (.int p3), .val (.int p4), .unset, .unset, .unset, .unset, .unset, .unset, .unset, .unset, .unset, .unset, .unset, .unset, .unset] [(.int (p4 &&& (2147483647 : Int32)))])
  have cx1 := c_mask p4 (2147483647 : Int32) 31 (by decide) (by decide)
  generalize hx1 : (p4 &&& (2147483647 : Int32)) = x1 at cx1 ⊢
  have rx1 := rng32 x1
  refine own_go (fun _ => XS.iconst X0.here hx rfl (hb hby at_5)) ?_
  show GG _ _ _ _ _ _ _ s₁ (mkF m 6 #[.val (.int p0), .val (.int p1), .val (.int p2), .val (.int p3), .val (.int p4), .unset, .unset, .unset, .unset, .unset, .unset, .unset, .unset, .unset, .unset, .unset, .unset, .unset] [(.int (5 : Int32)), (.int x1)])
  refine own_go (fun _ => iremM X0 hx rfl (hb hby at_6) rfl (by decide)) ?_
  show GG _ _ _ _ _ _ _ s₁ (mkF m 7 #[.val (.int p0), .val (.int p1), .val (.int p2), .val (.int p3), .val (.int p4), .unset, .unset, .unset, .unset, .unset, .unset, .unset, .unset, .unset, .unset, .unset, .unset, .unset] [(.int (x1 % (5 : Int32)))])
  have cx2 := c_irem x1 (5 : Int32) 5 (by decide)
  generalize hx2 : (x1 % (5 : Int32)) = x2 at cx2 ⊢
  have rx2 := rng32 x2
  refine own_go (fun _ => XS.istore X0.here hx rfl (hb hby at_7) rfl (l' := #[.val (.int p0), .val (.int p1), .val (.int p2), .val (.int p3), .val (.int p4), .val (.int x2), .unset, .unset, .unset, .unset, .unset, .unset, .unset, .unset, .unset, .unset, .unset, .unset]) rfl) ?_
  show GG _ _ _ _ _ _ _ s₁ (mkF m 9 #[.val (.int p0), .val (.int p1), .val (.int p2), .val (.int p3), .val (.int p4), .val (.int x2), .unset, .unset, .unset, .unset, .unset, .unset, .unset, .unset, .unset, .unset, .unset, .unset] [])
  have hsel : x2 = 0 ∨ x2 = 1 ∨ x2 = 2 ∨ x2 = 3 ∨ x2 = 4 := by simp only [← Int32.toInt_inj, show (0 : Int32).toInt = 0 from by decide, show (1 : Int32).toInt = 1 from by decide, show (2 : Int32).toInt = 2 from by decide, show (3 : Int32).toInt = 3 from by decide, show (4 : Int32).toInt = 4 from by decide]; omega
  refine own_go (fun _ => XS.iconst X0.here hx rfl (hb hby at_9)) ?_
  show GG _ _ _ _ _ _ _ s₁ (mkF m 10 #[.val (.int p0), .val (.int p1), .val (.int p2), .val (.int p3), .val (.int p4), .val (.int x2), .unset, .unset, .unset, .unset, .unset, .unset, .unset, .unset, .unset, .unset, .unset, .unset] [(.int (1 : Int32))])
  refine own_go (fun _ => XS.iload X0.here hx rfl (hb hby at_10) rfl) ?_
  show GG _ _ _ _ _ _ _ s₁ (mkF m 12 #[.val (.int p0), .val (.int p1), .val (.int p2), .val (.int p3), .val (.int p4), .val (.int x2), .unset, .unset, .unset, .unset, .unset, .unset, .unset, .unset, .unset, .unset, .unset, .unset] [(.int p4), (.int (1 : Int32))])
  refine own_go (fun _ => XS.bipush X0.here hx rfl (hb hby at_12)) ?_
  show GG _ _ _ _ _ _ _ s₁ (mkF m 14 #[.val (.int p0), .val (.int p1), .val (.int p2), .val (.int p3), .val (.int p4), .val (.int x2), .unset, .unset, .unset, .unset, .unset, .unset, .unset, .unset, .unset, .unset, .unset, .unset] [(.int (8 : Int32)), (.int p4), (.int (1 : Int32))])
  refine own_go (fun _ => XS.iushr X0.here hx rfl (hb hby at_14) rfl) ?_
  show GG _ _ _ _ _ _ _ s₁ (mkF m 15 #[.val (.int p0), .val (.int p1), .val (.int p2), .val (.int p3), .val (.int p4), .val (.int x2), .unset, .unset, .unset, .unset, .unset, .unset, .unset, .unset, .unset, .unset, .unset, .unset] [(.int ((p4.toUInt32 >>> ((8 : Int32) &&& 31).toUInt32).toInt32)), (.int (1 : Int32))])
  refine own_go (fun _ => XS.bipush X0.here hx rfl (hb hby at_15)) ?_
  show GG _ _ _ _ _ _ _ s₁ (mkF m 17 #[.val (.int p0), .val (.int p1), .val (.int p2), .val (.int p3), .val (.int p4), .val (.int x2), .unset, .unset, .unset, .unset, .unset, .unset, .unset, .unset, .unset, .unset, .unset, .unset] [(.int (15 : Int32)), (.int ((p4.toUInt32 >>> ((8 : Int32) &&& 31).toUInt32).toInt32)), (.int (1 : Int32))])
  refine own_go (fun _ => XS.iand X0.here hx rfl (hb hby at_17) rfl) ?_
  show GG _ _ _ _ _ _ _ s₁ (mkF m 18 #[.val (.int p0), .val (.int p1), .val (.int p2), .val (.int p3), .val (.int p4), .val (.int x2), .unset, .unset, .unset, .unset, .unset, .unset, .unset, .unset, .unset, .unset, .unset, .unset] [(.int (((p4.toUInt32 >>> ((8 : Int32) &&& 31).toUInt32).toInt32) &&& (15 : Int32))), (.int (1 : Int32))])
  refine own_go (fun _ => XS.ishl X0.here hx rfl (hb hby at_18) rfl) ?_
  show GG _ _ _ _ _ _ _ s₁ (mkF m 19 #[.val (.int p0), .val (.int p1), .val (.int p2), .val (.int p3), .val (.int p4), .val (.int x2), .unset, .unset, .unset, .unset, .unset, .unset, .unset, .unset, .unset, .unset, .unset, .unset] [(.int ((1 : Int32) <<< ((((p4.toUInt32 >>> ((8 : Int32) &&& 31).toUInt32).toInt32) &&& (15 : Int32)) &&& 31)))])
  have hsc := own_s2 (((p4.toUInt32 >>> ((8 : Int32) &&& 31).toUInt32).toInt32) &&& (15 : Int32))
  generalize hscx : ((1 : Int32) <<< ((((p4.toUInt32 >>> ((8 : Int32) &&& 31).toUInt32).toInt32) &&& (15 : Int32)) &&& 31)) = sc at hsc ⊢
  refine own_go (fun _ => XS.i2fS X0.here hx rfl (hb hby at_19) rfl rfl) ?_
  show GG _ _ _ _ _ _ _ s₁ (mkF m 20 #[.val (.int p0), .val (.int p1), .val (.int p2), .val (.int p3), .val (.int p4), .val (.int x2), .unset, .unset, .unset, .unset, .unset, .unset, .unset, .unset, .unset, .unset, .unset, .unset] [(.float (FP.i2f sc))])
  refine own_go (fun _ => XS.fstore X0.here hx rfl (hb hby at_20) rfl (l' := #[.val (.int p0), .val (.int p1), .val (.int p2), .val (.int p3), .val (.int p4), .val (.int x2), .val (.float (FP.i2f sc)), .unset, .unset, .unset, .unset, .unset, .unset, .unset, .unset, .unset, .unset, .unset]) rfl) ?_
  show GG _ _ _ _ _ _ _ s₁ (mkF m 22 #[.val (.int p0), .val (.int p1), .val (.int p2), .val (.int p3), .val (.int p4), .val (.int x2), .val (.float (FP.i2f sc)), .unset, .unset, .unset, .unset, .unset, .unset, .unset, .unset, .unset, .unset, .unset] [])
  refine own_go (fun _ => XS.iloadN X0.here hx rfl (hb hby at_22) rfl) ?_
  show GG _ _ _ _ _ _ _ s₁ (mkF m 23 #[.val (.int p0), .val (.int p1), .val (.int p2), .val (.int p3), .val (.int p4), .val (.int x2), .val (.float (FP.i2f sc)), .unset, .unset, .unset, .unset, .unset, .unset, .unset, .unset, .unset, .unset, .unset] [(.int p0)])
  refine own_go (fun _ => XS.i2fS X0.here hx rfl (hb hby at_23) rfl rfl) ?_
  show GG _ _ _ _ _ _ _ s₁ (mkF m 24 #[.val (.int p0), .val (.int p1), .val (.int p2), .val (.int p3), .val (.int p4), .val (.int x2), .val (.float (FP.i2f sc)), .unset, .unset, .unset, .unset, .unset, .unset, .unset, .unset, .unset, .unset, .unset] [(.float (FP.i2f p0))])
  refine own_go (fun _ => XS.fload X0.here hx rfl (hb hby at_24) rfl) ?_
  show GG _ _ _ _ _ _ _ s₁ (mkF m 26 #[.val (.int p0), .val (.int p1), .val (.int p2), .val (.int p3), .val (.int p4), .val (.int x2), .val (.float (FP.i2f sc)), .unset, .unset, .unset, .unset, .unset, .unset, .unset, .unset, .unset, .unset, .unset] [(.float (FP.i2f sc)), (.float (FP.i2f p0))])
  refine own_go (fun _ => XS.fdivS X0.here hx rfl (hb hby at_26) rfl (own_fd p0 sc hsc) rfl) ?_
  show GG _ _ _ _ _ _ _ s₁ (mkF m 27 #[.val (.int p0), .val (.int p1), .val (.int p2), .val (.int p3), .val (.int p4), .val (.int x2), .val (.float (FP.i2f sc)), .unset, .unset, .unset, .unset, .unset, .unset, .unset, .unset, .unset, .unset, .unset] [(.float (FP.fdiv (FP.i2f p0) (FP.i2f sc)))])
  refine own_go (fun _ => XS.fstore X0.here hx rfl (hb hby at_27) rfl (l' := #[.val (.int p0), .val (.int p1), .val (.int p2), .val (.int p3), .val (.int p4), .val (.int x2), .val (.float (FP.i2f sc)), .val (.float (FP.fdiv (FP.i2f p0) (FP.i2f sc))), .unset, .unset, .unset, .unset, .unset, .unset, .unset, .unset, .unset, .unset]) rfl) ?_
  show GG _ _ _ _ _ _ _ s₁ (mkF m 29 #[.val (.int p0), .val (.int p1), .val (.int p2), .val (.int p3), .val (.int p4), .val (.int x2), .val (.float (FP.i2f sc)), .val (.float (FP.fdiv (FP.i2f p0) (FP.i2f sc))), .unset, .unset, .unset, .unset, .unset, .unset, .unset, .unset, .unset, .unset] [])
  refine own_go (fun _ => XS.iloadN X0.here hx rfl (hb hby at_29) rfl) ?_
  show GG _ _ _ _ _ _ _ s₁ (mkF m 30 #[.val (.int p0), .val (.int p1), .val (.int p2), .val (.int p3), .val (.int p4), .val (.int x2), .val (.float (FP.i2f sc)), .val (.float (FP.fdiv (FP.i2f p0) (FP.i2f sc))), .unset, .unset, .unset, .unset, .unset, .unset, .unset, .unset, .unset, .unset] [(.int p1)])
  refine own_go (fun _ => XS.i2fS X0.here hx rfl (hb hby at_30) rfl rfl) ?_
  show GG _ _ _ _ _ _ _ s₁ (mkF m 31 #[.val (.int p0), .val (.int p1), .val (.int p2), .val (.int p3), .val (.int p4), .val (.int x2), .val (.float (FP.i2f sc)), .val (.float (FP.fdiv (FP.i2f p0) (FP.i2f sc))), .unset, .unset, .unset, .unset, .unset, .unset, .unset, .unset, .unset, .unset] [(.float (FP.i2f p1))])
  refine own_go (fun _ => XS.fload X0.here hx rfl (hb hby at_31) rfl) ?_
  show GG _ _ _ _ _ _ _ s₁ (mkF m 33 #[.val (.int p0), .val (.int p1), .val (.int p2), .val (.int p3), .val (.int p4), .val (.int x2), .val (.float (FP.i2f sc)), .val (.float (FP.fdiv (FP.i2f p0) (FP.i2f sc))), .unset, .unset, .unset, .unset, .unset, .unset, .unset, .unset, .unset, .unset] [(.float (FP.i2f sc)), (.float (FP.i2f p1))])
  refine own_go (fun _ => XS.fdivS X0.here hx rfl (hb hby at_33) rfl (own_fd p1 sc hsc) rfl) ?_
  show GG _ _ _ _ _ _ _ s₁ (mkF m 34 #[.val (.int p0), .val (.int p1), .val (.int p2), .val (.int p3), .val (.int p4), .val (.int x2), .val (.float (FP.i2f sc)), .val (.float (FP.fdiv (FP.i2f p0) (FP.i2f sc))), .unset, .unset, .unset, .unset, .unset, .unset, .unset, .unset, .unset, .unset] [(.float (FP.fdiv (FP.i2f p1) (FP.i2f sc)))])
  refine own_go (fun _ => XS.fstore X0.here hx rfl (hb hby at_34) rfl (l' := #[.val (.int p0), .val (.int p1), .val (.int p2), .val (.int p3), .val (.int p4), .val (.int x2), .val (.float (FP.i2f sc)), .val (.float (FP.fdiv (FP.i2f p0) (FP.i2f sc))), .val (.float (FP.fdiv (FP.i2f p1) (FP.i2f sc))), .unset, .unset, .unset, .unset, .unset, .unset, .unset, .unset, .unset]) rfl) ?_
  show GG _ _ _ _ _ _ _ s₁ (mkF m 36 #[.val (.int p0), .val (.int p1), .val (.int p2), .val (.int p3), .val (.int p4), .val (.int x2), .val (.float (FP.i2f sc)), .val (.float (FP.fdiv (FP.i2f p0) (FP.i2f sc))), .val (.float (FP.fdiv (FP.i2f p1) (FP.i2f sc))), .unset, .unset, .unset, .unset, .unset, .unset, .unset, .unset, .unset] [])
  refine own_go (fun _ => XS.iloadN X0.here hx rfl (hb hby at_36) rfl) ?_
  show GG _ _ _ _ _ _ _ s₁ (mkF m 37 #[.val (.int p0), .val (.int p1), .val (.int p2), .val (.int p3), .val (.int p4), .val (.int x2), .val (.float (FP.i2f sc)), .val (.float (FP.fdiv (FP.i2f p0) (FP.i2f sc))), .val (.float (FP.fdiv (FP.i2f p1) (FP.i2f sc))), .unset, .unset, .unset, .unset, .unset, .unset, .unset, .unset, .unset] [(.int p2)])
  refine own_go (fun _ => XS.i2fS X0.here hx rfl (hb hby at_37) rfl rfl) ?_
  show GG _ _ _ _ _ _ _ s₁ (mkF m 38 #[.val (.int p0), .val (.int p1), .val (.int p2), .val (.int p3), .val (.int p4), .val (.int x2), .val (.float (FP.i2f sc)), .val (.float (FP.fdiv (FP.i2f p0) (FP.i2f sc))), .val (.float (FP.fdiv (FP.i2f p1) (FP.i2f sc))), .unset, .unset, .unset, .unset, .unset, .unset, .unset, .unset, .unset] [(.float (FP.i2f p2))])
  refine own_go (fun _ => XS.fload X0.here hx rfl (hb hby at_38) rfl) ?_
  show GG _ _ _ _ _ _ _ s₁ (mkF m 40 #[.val (.int p0), .val (.int p1), .val (.int p2), .val (.int p3), .val (.int p4), .val (.int x2), .val (.float (FP.i2f sc)), .val (.float (FP.fdiv (FP.i2f p0) (FP.i2f sc))), .val (.float (FP.fdiv (FP.i2f p1) (FP.i2f sc))), .unset, .unset, .unset, .unset, .unset, .unset, .unset, .unset, .unset] [(.float (FP.i2f sc)), (.float (FP.i2f p2))])
  refine own_go (fun _ => XS.fdivS X0.here hx rfl (hb hby at_40) rfl (own_fd p2 sc hsc) rfl) ?_
  show GG _ _ _ _ _ _ _ s₁ (mkF m 41 #[.val (.int p0), .val (.int p1), .val (.int p2), .val (.int p3), .val (.int p4), .val (.int x2), .val (.float (FP.i2f sc)), .val (.float (FP.fdiv (FP.i2f p0) (FP.i2f sc))), .val (.float (FP.fdiv (FP.i2f p1) (FP.i2f sc))), .unset, .unset, .unset, .unset, .unset, .unset, .unset, .unset, .unset] [(.float (FP.fdiv (FP.i2f p2) (FP.i2f sc)))])
  refine own_go (fun _ => XS.fstore X0.here hx rfl (hb hby at_41) rfl (l' := #[.val (.int p0), .val (.int p1), .val (.int p2), .val (.int p3), .val (.int p4), .val (.int x2), .val (.float (FP.i2f sc)), .val (.float (FP.fdiv (FP.i2f p0) (FP.i2f sc))), .val (.float (FP.fdiv (FP.i2f p1) (FP.i2f sc))), .val (.float (FP.fdiv (FP.i2f p2) (FP.i2f sc))), .unset, .unset, .unset, .unset, .unset, .unset, .unset, .unset]) rfl) ?_
  show GG _ _ _ _ _ _ _ s₁ (mkF m 43 #[.val (.int p0), .val (.int p1), .val (.int p2), .val (.int p3), .val (.int p4), .val (.int x2), .val (.float (FP.i2f sc)), .val (.float (FP.fdiv (FP.i2f p0) (FP.i2f sc))), .val (.float (FP.fdiv (FP.i2f p1) (FP.i2f sc))), .val (.float (FP.fdiv (FP.i2f p2) (FP.i2f sc))), .unset, .unset, .unset, .unset, .unset, .unset, .unset, .unset] [])
  refine own_go (fun _ => XS.iloadN X0.here hx rfl (hb hby at_43) rfl) ?_
  show GG _ _ _ _ _ _ _ s₁ (mkF m 44 #[.val (.int p0), .val (.int p1), .val (.int p2), .val (.int p3), .val (.int p4), .val (.int x2), .val (.float (FP.i2f sc)), .val (.float (FP.fdiv (FP.i2f p0) (FP.i2f sc))), .val (.float (FP.fdiv (FP.i2f p1) (FP.i2f sc))), .val (.float (FP.fdiv (FP.i2f p2) (FP.i2f sc))), .unset, .unset, .unset, .unset, .unset, .unset, .unset, .unset] [(.int p3)])
  refine own_go (fun _ => XS.i2fS X0.here hx rfl (hb hby at_44) rfl rfl) ?_
  show GG _ _ _ _ _ _ _ s₁ (mkF m 45 #[.val (.int p0), .val (.int p1), .val (.int p2), .val (.int p3), .val (.int p4), .val (.int x2), .val (.float (FP.i2f sc)), .val (.float (FP.fdiv (FP.i2f p0) (FP.i2f sc))), .val (.float (FP.fdiv (FP.i2f p1) (FP.i2f sc))), .val (.float (FP.fdiv (FP.i2f p2) (FP.i2f sc))), .unset, .unset, .unset, .unset, .unset, .unset, .unset, .unset] [(.float (FP.i2f p3))])
  refine own_go (fun _ => XS.fload X0.here hx rfl (hb hby at_45) rfl) ?_
  show GG _ _ _ _ _ _ _ s₁ (mkF m 47 #[.val (.int p0), .val (.int p1), .val (.int p2), .val (.int p3), .val (.int p4), .val (.int x2), .val (.float (FP.i2f sc)), .val (.float (FP.fdiv (FP.i2f p0) (FP.i2f sc))), .val (.float (FP.fdiv (FP.i2f p1) (FP.i2f sc))), .val (.float (FP.fdiv (FP.i2f p2) (FP.i2f sc))), .unset, .unset, .unset, .unset, .unset, .unset, .unset, .unset] [(.float (FP.i2f sc)), (.float (FP.i2f p3))])
  refine own_go (fun _ => XS.fdivS X0.here hx rfl (hb hby at_47) rfl (own_fd p3 sc hsc) rfl) ?_
  show GG _ _ _ _ _ _ _ s₁ (mkF m 48 #[.val (.int p0), .val (.int p1), .val (.int p2), .val (.int p3), .val (.int p4), .val (.int x2), .val (.float (FP.i2f sc)), .val (.float (FP.fdiv (FP.i2f p0) (FP.i2f sc))), .val (.float (FP.fdiv (FP.i2f p1) (FP.i2f sc))), .val (.float (FP.fdiv (FP.i2f p2) (FP.i2f sc))), .unset, .unset, .unset, .unset, .unset, .unset, .unset, .unset] [(.float (FP.fdiv (FP.i2f p3) (FP.i2f sc)))])
  refine own_go (fun _ => XS.fstore X0.here hx rfl (hb hby at_48) rfl (l' := #[.val (.int p0), .val (.int p1), .val (.int p2), .val (.int p3), .val (.int p4), .val (.int x2), .val (.float (FP.i2f sc)), .val (.float (FP.fdiv (FP.i2f p0) (FP.i2f sc))), .val (.float (FP.fdiv (FP.i2f p1) (FP.i2f sc))), .val (.float (FP.fdiv (FP.i2f p2) (FP.i2f sc))), .val (.float (FP.fdiv (FP.i2f p3) (FP.i2f sc))), .unset, .unset, .unset, .unset, .unset, .unset, .unset]) rfl) ?_
  show GG _ _ _ _ _ _ _ s₁ (mkF m 50 #[.val (.int p0), .val (.int p1), .val (.int p2), .val (.int p3), .val (.int p4), .val (.int x2), .val (.float (FP.i2f sc)), .val (.float (FP.fdiv (FP.i2f p0) (FP.i2f sc))), .val (.float (FP.fdiv (FP.i2f p1) (FP.i2f sc))), .val (.float (FP.fdiv (FP.i2f p2) (FP.i2f sc))), .val (.float (FP.fdiv (FP.i2f p3) (FP.i2f sc))), .unset, .unset, .unset, .unset, .unset, .unset, .unset] [])
  have nn0 := own_fd p0 sc hsc
  generalize hf0 : (FP.fdiv (FP.i2f p0) (FP.i2f sc)) = f0 at nn0 ⊢
  have nn1 := own_fd p1 sc hsc
  generalize hf1 : (FP.fdiv (FP.i2f p1) (FP.i2f sc)) = f1 at nn1 ⊢
  have nn2 := own_fd p2 sc hsc
  generalize hf2 : (FP.fdiv (FP.i2f p2) (FP.i2f sc)) = f2 at nn2 ⊢
  have nn3 := own_fd p3 sc hsc
  generalize hf3 : (FP.fdiv (FP.i2f p3) (FP.i2f sc)) = f3 at nn3 ⊢
  refine own_go (fun _ => XS.iconst X0.here hx rfl (hb hby at_50)) ?_
  show GG _ _ _ _ _ _ _ s₁ (mkF m 51 #[.val (.int p0), .val (.int p1), .val (.int p2), .val (.int p3), .val (.int p4), .val (.int x2), .val (.float (FP.i2f sc)), .val (.float f0), .val (.float f1), .val (.float f2), .val (.float f3), .unset, .unset, .unset, .unset, .unset, .unset, .unset] [(.int (4 : Int32))])
  have K0 := Keep.refl h0 []
  obtain ⟨T3, h3, ob3, g3, X3, e3, E3, V_ob3, E_ob3, st3⟩ := own_newarr X0 hx hZ (hw _ (List.mem_of_getElem? (i := 1) rfl)) e0 (g := (mkF m 51 #[.val (.int p0), .val (.int p1), .val (.int p2), .val (.int p3), .val (.int p4), .val (.int x2), .val (.float (FP.i2f sc)), .val (.float f0), .val (.float f1), .val (.float f2), .val (.float f3), .unset, .unset, .unset, .unset, .unset, .unset, .unset] [(.int (4 : Int32))])) rfl (hb hby at_51) rfl (by decide) (cap := 4) (by decide) (by decide) (by decide) (by decide) (ad := "[F") (by decide)
  have sz_ob3 : h0.size ≤ ob3 := Nat.le_trans K0.1 (Nat.le_of_eq g3.symm)
  have g_ob3 : n0 ≤ ob3 := Nat.le_trans Z0 sz_ob3
  have K0 := K0.ext E3
  have V_ob3 : Arx Z h3 ob3 .float [(.float (0 : UInt32)), (.float (0 : UInt32)), (.float (0 : UInt32)), (.float (0 : UInt32))] := V_ob3
  refine own_go (fun _ => st3 _) ?_
  show GG _ _ _ _ _ _ _ T3 (mkF m 53 #[.val (.int p0), .val (.int p1), .val (.int p2), .val (.int p3), .val (.int p4), .val (.int x2), .val (.float (FP.i2f sc)), .val (.float f0), .val (.float f1), .val (.float f2), .val (.float f3), .unset, .unset, .unset, .unset, .unset, .unset, .unset] [(.ref ob3)])
  refine own_go (fun _ => XS.dup X3.here hx rfl (hb hby at_53) rfl rfl) ?_
  show GG _ _ _ _ _ _ _ T3 (mkF m 54 #[.val (.int p0), .val (.int p1), .val (.int p2), .val (.int p3), .val (.int p4), .val (.int x2), .val (.float (FP.i2f sc)), .val (.float f0), .val (.float f1), .val (.float f2), .val (.float f3), .unset, .unset, .unset, .unset, .unset, .unset, .unset] [(.ref ob3), (.ref ob3)])
  refine own_go (fun _ => XS.iconst X3.here hx rfl (hb hby at_54)) ?_
  show GG _ _ _ _ _ _ _ T3 (mkF m 55 #[.val (.int p0), .val (.int p1), .val (.int p2), .val (.int p3), .val (.int p4), .val (.int x2), .val (.float (FP.i2f sc)), .val (.float f0), .val (.float f1), .val (.float f2), .val (.float f3), .unset, .unset, .unset, .unset, .unset, .unset, .unset] [(.int (0 : Int32)), (.ref ob3), (.ref ob3)])
  refine own_go (fun _ => XS.fload X3.here hx rfl (hb hby at_55) rfl) ?_
  show GG _ _ _ _ _ _ _ T3 (mkF m 57 #[.val (.int p0), .val (.int p1), .val (.int p2), .val (.int p3), .val (.int p4), .val (.int x2), .val (.float (FP.i2f sc)), .val (.float f0), .val (.float f1), .val (.float f2), .val (.float f3), .unset, .unset, .unset, .unset, .unset, .unset, .unset] [(.float f0), (.int (0 : Int32)), (.ref ob3), (.ref ob3)])
  obtain ⟨T4, h4, X4, e4, W4, V4, st4⟩ := own_fastore X3 hx hZ e3 V_ob3 (by decide) (Nat.le_of_ble_eq_true rfl) (g := (mkF m 57 #[.val (.int p0), .val (.int p1), .val (.int p2), .val (.int p3), .val (.int p4), .val (.int x2), .val (.float (FP.i2f sc)), .val (.float f0), .val (.float f1), .val (.float f2), .val (.float f3), .unset, .unset, .unset, .unset, .unset, .unset, .unset] [(.float f0), (.int (0 : Int32)), (.ref ob3), (.ref ob3)])) rfl rfl (hb hby at_57)
  have K0 := K0.wr W4 (Or.inr sz_ob3)
  have E_ob3 := E_ob3.wr W4
  have V_ob3 : Arx Z h4 ob3 .float [(.float f0), (.float (0 : UInt32)), (.float (0 : UInt32)), (.float (0 : UInt32))] := V4
  have N4 := Fr.snoc X4 N0 g_ob3
  refine own_go (fun _ => st4 _) ?_
  show GG _ _ _ _ _ _ _ T4 (mkF m 58 #[.val (.int p0), .val (.int p1), .val (.int p2), .val (.int p3), .val (.int p4), .val (.int x2), .val (.float (FP.i2f sc)), .val (.float f0), .val (.float f1), .val (.float f2), .val (.float f3), .unset, .unset, .unset, .unset, .unset, .unset, .unset] [(.ref ob3)])
  refine own_go (fun _ => XS.dup X4.here hx rfl (hb hby at_58) rfl rfl) ?_
  show GG _ _ _ _ _ _ _ T4 (mkF m 59 #[.val (.int p0), .val (.int p1), .val (.int p2), .val (.int p3), .val (.int p4), .val (.int x2), .val (.float (FP.i2f sc)), .val (.float f0), .val (.float f1), .val (.float f2), .val (.float f3), .unset, .unset, .unset, .unset, .unset, .unset, .unset] [(.ref ob3), (.ref ob3)])
  refine own_go (fun _ => XS.iconst X4.here hx rfl (hb hby at_59)) ?_
  show GG _ _ _ _ _ _ _ T4 (mkF m 60 #[.val (.int p0), .val (.int p1), .val (.int p2), .val (.int p3), .val (.int p4), .val (.int x2), .val (.float (FP.i2f sc)), .val (.float f0), .val (.float f1), .val (.float f2), .val (.float f3), .unset, .unset, .unset, .unset, .unset, .unset, .unset] [(.int (1 : Int32)), (.ref ob3), (.ref ob3)])
  refine own_go (fun _ => XS.fload X4.here hx rfl (hb hby at_60) rfl) ?_
  show GG _ _ _ _ _ _ _ T4 (mkF m 62 #[.val (.int p0), .val (.int p1), .val (.int p2), .val (.int p3), .val (.int p4), .val (.int x2), .val (.float (FP.i2f sc)), .val (.float f0), .val (.float f1), .val (.float f2), .val (.float f3), .unset, .unset, .unset, .unset, .unset, .unset, .unset] [(.float f1), (.int (1 : Int32)), (.ref ob3), (.ref ob3)])
  obtain ⟨T5, h5, X5, e5, W5, V5, st5⟩ := own_fastore X4 hx hZ e4 V_ob3 (by decide) (Nat.le_of_ble_eq_true rfl) (g := (mkF m 62 #[.val (.int p0), .val (.int p1), .val (.int p2), .val (.int p3), .val (.int p4), .val (.int x2), .val (.float (FP.i2f sc)), .val (.float f0), .val (.float f1), .val (.float f2), .val (.float f3), .unset, .unset, .unset, .unset, .unset, .unset, .unset] [(.float f1), (.int (1 : Int32)), (.ref ob3), (.ref ob3)])) rfl rfl (hb hby at_62)
  have K0 := K0.wr W5 (Or.inr sz_ob3)
  have E_ob3 := E_ob3.wr W5
  have V_ob3 : Arx Z h5 ob3 .float [(.float f0), (.float f1), (.float (0 : UInt32)), (.float (0 : UInt32))] := V5
  have N5 := Fr.snoc X5 N4 g_ob3
  refine own_go (fun _ => st5 _) ?_
  show GG _ _ _ _ _ _ _ T5 (mkF m 63 #[.val (.int p0), .val (.int p1), .val (.int p2), .val (.int p3), .val (.int p4), .val (.int x2), .val (.float (FP.i2f sc)), .val (.float f0), .val (.float f1), .val (.float f2), .val (.float f3), .unset, .unset, .unset, .unset, .unset, .unset, .unset] [(.ref ob3)])
  refine own_go (fun _ => XS.dup X5.here hx rfl (hb hby at_63) rfl rfl) ?_
  show GG _ _ _ _ _ _ _ T5 (mkF m 64 #[.val (.int p0), .val (.int p1), .val (.int p2), .val (.int p3), .val (.int p4), .val (.int x2), .val (.float (FP.i2f sc)), .val (.float f0), .val (.float f1), .val (.float f2), .val (.float f3), .unset, .unset, .unset, .unset, .unset, .unset, .unset] [(.ref ob3), (.ref ob3)])
  refine own_go (fun _ => XS.iconst X5.here hx rfl (hb hby at_64)) ?_
  show GG _ _ _ _ _ _ _ T5 (mkF m 65 #[.val (.int p0), .val (.int p1), .val (.int p2), .val (.int p3), .val (.int p4), .val (.int x2), .val (.float (FP.i2f sc)), .val (.float f0), .val (.float f1), .val (.float f2), .val (.float f3), .unset, .unset, .unset, .unset, .unset, .unset, .unset] [(.int (2 : Int32)), (.ref ob3), (.ref ob3)])
  refine own_go (fun _ => XS.fload X5.here hx rfl (hb hby at_65) rfl) ?_
  show GG _ _ _ _ _ _ _ T5 (mkF m 67 #[.val (.int p0), .val (.int p1), .val (.int p2), .val (.int p3), .val (.int p4), .val (.int x2), .val (.float (FP.i2f sc)), .val (.float f0), .val (.float f1), .val (.float f2), .val (.float f3), .unset, .unset, .unset, .unset, .unset, .unset, .unset] [(.float f2), (.int (2 : Int32)), (.ref ob3), (.ref ob3)])
  obtain ⟨T6, h6, X6, e6, W6, V6, st6⟩ := own_fastore X5 hx hZ e5 V_ob3 (by decide) (Nat.le_of_ble_eq_true rfl) (g := (mkF m 67 #[.val (.int p0), .val (.int p1), .val (.int p2), .val (.int p3), .val (.int p4), .val (.int x2), .val (.float (FP.i2f sc)), .val (.float f0), .val (.float f1), .val (.float f2), .val (.float f3), .unset, .unset, .unset, .unset, .unset, .unset, .unset] [(.float f2), (.int (2 : Int32)), (.ref ob3), (.ref ob3)])) rfl rfl (hb hby at_67)
  have K0 := K0.wr W6 (Or.inr sz_ob3)
  have E_ob3 := E_ob3.wr W6
  have V_ob3 : Arx Z h6 ob3 .float [(.float f0), (.float f1), (.float f2), (.float (0 : UInt32))] := V6
  have N6 := Fr.snoc X6 N5 g_ob3
  refine own_go (fun _ => st6 _) ?_
  show GG _ _ _ _ _ _ _ T6 (mkF m 68 #[.val (.int p0), .val (.int p1), .val (.int p2), .val (.int p3), .val (.int p4), .val (.int x2), .val (.float (FP.i2f sc)), .val (.float f0), .val (.float f1), .val (.float f2), .val (.float f3), .unset, .unset, .unset, .unset, .unset, .unset, .unset] [(.ref ob3)])
  refine own_go (fun _ => XS.dup X6.here hx rfl (hb hby at_68) rfl rfl) ?_
  show GG _ _ _ _ _ _ _ T6 (mkF m 69 #[.val (.int p0), .val (.int p1), .val (.int p2), .val (.int p3), .val (.int p4), .val (.int x2), .val (.float (FP.i2f sc)), .val (.float f0), .val (.float f1), .val (.float f2), .val (.float f3), .unset, .unset, .unset, .unset, .unset, .unset, .unset] [(.ref ob3), (.ref ob3)])
  refine own_go (fun _ => XS.iconst X6.here hx rfl (hb hby at_69)) ?_
  show GG _ _ _ _ _ _ _ T6 (mkF m 70 #[.val (.int p0), .val (.int p1), .val (.int p2), .val (.int p3), .val (.int p4), .val (.int x2), .val (.float (FP.i2f sc)), .val (.float f0), .val (.float f1), .val (.float f2), .val (.float f3), .unset, .unset, .unset, .unset, .unset, .unset, .unset] [(.int (3 : Int32)), (.ref ob3), (.ref ob3)])
  refine own_go (fun _ => XS.fload X6.here hx rfl (hb hby at_70) rfl) ?_
  show GG _ _ _ _ _ _ _ T6 (mkF m 72 #[.val (.int p0), .val (.int p1), .val (.int p2), .val (.int p3), .val (.int p4), .val (.int x2), .val (.float (FP.i2f sc)), .val (.float f0), .val (.float f1), .val (.float f2), .val (.float f3), .unset, .unset, .unset, .unset, .unset, .unset, .unset] [(.float f3), (.int (3 : Int32)), (.ref ob3), (.ref ob3)])
  obtain ⟨T7, h7, X7, e7, W7, V7, st7⟩ := own_fastore X6 hx hZ e6 V_ob3 (by decide) (Nat.le_of_ble_eq_true rfl) (g := (mkF m 72 #[.val (.int p0), .val (.int p1), .val (.int p2), .val (.int p3), .val (.int p4), .val (.int x2), .val (.float (FP.i2f sc)), .val (.float f0), .val (.float f1), .val (.float f2), .val (.float f3), .unset, .unset, .unset, .unset, .unset, .unset, .unset] [(.float f3), (.int (3 : Int32)), (.ref ob3), (.ref ob3)])) rfl rfl (hb hby at_72)
  have K0 := K0.wr W7 (Or.inr sz_ob3)
  have E_ob3 := E_ob3.wr W7
  have V_ob3 : Arx Z h7 ob3 .float [(.float f0), (.float f1), (.float f2), (.float f3)] := V7
  have N7 := Fr.snoc X7 N6 g_ob3
  refine own_go (fun _ => st7 _) ?_
  show GG _ _ _ _ _ _ _ T7 (mkF m 73 #[.val (.int p0), .val (.int p1), .val (.int p2), .val (.int p3), .val (.int p4), .val (.int x2), .val (.float (FP.i2f sc)), .val (.float f0), .val (.float f1), .val (.float f2), .val (.float f3), .unset, .unset, .unset, .unset, .unset, .unset, .unset] [(.ref ob3)])
  refine own_go (fun _ => XS.astore X7.here hx rfl (hb hby at_73) rfl rfl (l' := #[.val (.int p0), .val (.int p1), .val (.int p2), .val (.int p3), .val (.int p4), .val (.int x2), .val (.float (FP.i2f sc)), .val (.float f0), .val (.float f1), .val (.float f2), .val (.float f3), .val (.ref ob3), .unset, .unset, .unset, .unset, .unset, .unset]) rfl) ?_
  show GG _ _ _ _ _ _ _ T7 (mkF m 75 #[.val (.int p0), .val (.int p1), .val (.int p2), .val (.int p3), .val (.int p4), .val (.int x2), .val (.float (FP.i2f sc)), .val (.float f0), .val (.float f1), .val (.float f2), .val (.float f3), .val (.ref ob3), .unset, .unset, .unset, .unset, .unset, .unset] [])
  rcases hsel with hsel | hsel | hsel | hsel | hsel
  · skip
    subst hsel
    show GG _ _ _ _ _ _ _ T7 (mkF m 75 #[.val (.int p0), .val (.int p1), .val (.int p2), .val (.int p3), .val (.int p4), .val (.int (0 : Int32)), .val (.float (FP.i2f sc)), .val (.float f0), .val (.float f1), .val (.float f2), .val (.float f3), .val (.ref ob3), .unset, .unset, .unset, .unset, .unset, .unset] [])
    refine own_go (fun _ => XS.aload X7.here hx rfl (hb hby at_75) rfl rfl) ?_
    show GG _ _ _ _ _ _ _ T7 (mkF m 77 #[.val (.int p0), .val (.int p1), .val (.int p2), .val (.int p3), .val (.int p4), .val (.int (0 : Int32)), .val (.float (FP.i2f sc)), .val (.float f0), .val (.float f1), .val (.float f2), .val (.float f3), .val (.ref ob3), .unset, .unset, .unset, .unset, .unset, .unset] [(.ref ob3)])
    refine own_go (fun _ => XS.iload X7.here hx rfl (hb hby at_77) rfl) ?_
    show GG _ _ _ _ _ _ _ T7 (mkF m 79 #[.val (.int p0), .val (.int p1), .val (.int p2), .val (.int p3), .val (.int p4), .val (.int (0 : Int32)), .val (.float (FP.i2f sc)), .val (.float f0), .val (.float f1), .val (.float f2), .val (.float f3), .val (.ref ob3), .unset, .unset, .unset, .unset, .unset, .unset] [(.int (0 : Int32)), (.ref ob3)])
    refine own_callS X7 hx hZ (y := (⟨"com/example/hadamint/hadamint/Queries", "widened", "([FI)[D"⟩ : MethodName)) 0 hown (hw _ (List.mem_of_getElem? (i := 2) rfl)) (hw _ (List.mem_of_getElem? (i := 3) rfl)) (hw _ (List.mem_of_getElem? (i := 4) rfl)) (hw _ (List.mem_of_getElem? (i := 5) rfl)) (by decide) (argsL := [(.ref ob3), (.int (0 : Int32))]) (rest := []) (rm1_0 l Z a0 hw [] ob3 f0 f1 f2 f3 h7 n0 (Nat.le_trans Z0 K0.1) V_ob3 nn0 nn1 nn2 nn3) (by decide) (by decide) (by decide) (by decide) (g := (mkF m 79 #[.val (.int p0), .val (.int p1), .val (.int p2), .val (.int p3), .val (.int p4), .val (.int (0 : Int32)), .val (.float (FP.i2f sc)), .val (.float f0), .val (.float f1), .val (.float f2), .val (.float f3), .val (.ref ob3), .unset, .unset, .unset, .unset, .unset, .unset] [(.int (0 : Int32)), (.ref ob3)])) rfl (by rw [hml]; rfl) (lenOf pd___FI__D_474 rfl) rfl (by show 2 * 0 + _ ≤ _; exact Nat.le_of_eq rfl) (hb hby at_79) e7 ?_
    rintro v8 T8 L8 X8 ⟨bq8, rfl, N8q, szq8, Kq8, Vq8⟩
    have N8 := Fr.app N7 N8q
    have K0 := K0.trans Kq8 all0
    have V_ob3 := V_ob3.keep Kq8 nin0
    have E_ob3 := E_ob3.keep Kq8
    show GG _ _ _ _ _ _ _ T8 (mkF m 82 #[.val (.int p0), .val (.int p1), .val (.int p2), .val (.int p3), .val (.int p4), .val (.int (0 : Int32)), .val (.float (FP.i2f sc)), .val (.float f0), .val (.float f1), .val (.float f2), .val (.float f3), .val (.ref ob3), .unset, .unset, .unset, .unset, .unset, .unset] [(.ref bq8)])
    refine own_go (fun _ => XS.astore X8.here hx rfl (hb hby at_82) rfl rfl (l' := #[.val (.int p0), .val (.int p1), .val (.int p2), .val (.int p3), .val (.int p4), .val (.int (0 : Int32)), .val (.float (FP.i2f sc)), .val (.float f0), .val (.float f1), .val (.float f2), .val (.float f3), .val (.ref ob3), .val (.ref bq8), .unset, .unset, .unset, .unset, .unset]) rfl) ?_
    show GG _ _ _ _ _ _ _ T8 (mkF m 84 #[.val (.int p0), .val (.int p1), .val (.int p2), .val (.int p3), .val (.int p4), .val (.int (0 : Int32)), .val (.float (FP.i2f sc)), .val (.float f0), .val (.float f1), .val (.float f2), .val (.float f3), .val (.ref ob3), .val (.ref bq8), .unset, .unset, .unset, .unset, .unset] [])
    refine own_go (fun _ => XS.aload X8.here hx rfl (hb hby at_84) rfl rfl) ?_
    show GG _ _ _ _ _ _ _ T8 (mkF m 86 #[.val (.int p0), .val (.int p1), .val (.int p2), .val (.int p3), .val (.int p4), .val (.int (0 : Int32)), .val (.float (FP.i2f sc)), .val (.float f0), .val (.float f1), .val (.float f2), .val (.float f3), .val (.ref ob3), .val (.ref bq8), .unset, .unset, .unset, .unset, .unset] [(.ref bq8)])
    refine own_go (fun _ => XS.ifnullNo X8.here hx rfl (hb hby at_86) rfl) ?_
    show GG _ _ _ _ _ _ _ T8 (mkF m 89 #[.val (.int p0), .val (.int p1), .val (.int p2), .val (.int p3), .val (.int p4), .val (.int (0 : Int32)), .val (.float (FP.i2f sc)), .val (.float f0), .val (.float f1), .val (.float f2), .val (.float f3), .val (.ref ob3), .val (.ref bq8), .unset, .unset, .unset, .unset, .unset] [])
    refine own_go (fun _ => XS.aload X8.here hx rfl (hb hby at_89) rfl rfl) ?_
    show GG _ _ _ _ _ _ _ T8 (mkF m 91 #[.val (.int p0), .val (.int p1), .val (.int p2), .val (.int p3), .val (.int p4), .val (.int (0 : Int32)), .val (.float (FP.i2f sc)), .val (.float f0), .val (.float f1), .val (.float f2), .val (.float f3), .val (.ref ob3), .val (.ref bq8), .unset, .unset, .unset, .unset, .unset] [(.ref bq8)])
    refine own_go (fun _ => own_len X8 hx hZ rfl Vq8 (g := (mkF m 91 #[.val (.int p0), .val (.int p1), .val (.int p2), .val (.int p3), .val (.int p4), .val (.int (0 : Int32)), .val (.float (FP.i2f sc)), .val (.float f0), .val (.float f1), .val (.float f2), .val (.float f3), .val (.ref ob3), .val (.ref bq8), .unset, .unset, .unset, .unset, .unset] [(.ref bq8)])) rfl rfl (hb hby at_91) _) ?_
    show GG _ _ _ _ _ _ _ T8 (mkF m 92 #[.val (.int p0), .val (.int p1), .val (.int p2), .val (.int p3), .val (.int p4), .val (.int (0 : Int32)), .val (.float (FP.i2f sc)), .val (.float f0), .val (.float f1), .val (.float f2), .val (.float f3), .val (.ref ob3), .val (.ref bq8), .unset, .unset, .unset, .unset, .unset] [(.int (0 : Int32))])
    refine own_go (fun _ => XS.iload X8.here hx rfl (hb hby at_92) rfl) ?_
    show GG _ _ _ _ _ _ _ T8 (mkF m 94 #[.val (.int p0), .val (.int p1), .val (.int p2), .val (.int p3), .val (.int p4), .val (.int (0 : Int32)), .val (.float (FP.i2f sc)), .val (.float f0), .val (.float f1), .val (.float f2), .val (.float f3), .val (.ref ob3), .val (.ref bq8), .unset, .unset, .unset, .unset, .unset] [(.int (0 : Int32)), (.int (0 : Int32))])
    have hc94 : (0 : Int32) = (0 : Int32) := by decide
    refine own_go (fun _ => XS.icmpYes X8.here hx rfl (pc0 := 94) (pc' := 99) rfl (hb hby at_94) rfl (teq hc94).1 (by decide) (by decide)) ?_
    show GG _ _ _ _ _ _ _ T8 (mkF m 99 #[.val (.int p0), .val (.int p1), .val (.int p2), .val (.int p3), .val (.int p4), .val (.int (0 : Int32)), .val (.float (FP.i2f sc)), .val (.float f0), .val (.float f1), .val (.float f2), .val (.float f3), .val (.ref ob3), .val (.ref bq8), .unset, .unset, .unset, .unset, .unset] [])
    refine own_go (fun _ => XS.aload X8.here hx rfl (hb hby at_99) rfl rfl) ?_
    show GG _ _ _ _ _ _ _ T8 (mkF m 101 #[.val (.int p0), .val (.int p1), .val (.int p2), .val (.int p3), .val (.int p4), .val (.int (0 : Int32)), .val (.float (FP.i2f sc)), .val (.float f0), .val (.float f1), .val (.float f2), .val (.float f3), .val (.ref ob3), .val (.ref bq8), .unset, .unset, .unset, .unset, .unset] [(.ref ob3)])
    refine own_go (fun _ => own_len X8 hx hZ rfl V_ob3 (g := (mkF m 101 #[.val (.int p0), .val (.int p1), .val (.int p2), .val (.int p3), .val (.int p4), .val (.int (0 : Int32)), .val (.float (FP.i2f sc)), .val (.float f0), .val (.float f1), .val (.float f2), .val (.float f3), .val (.ref ob3), .val (.ref bq8), .unset, .unset, .unset, .unset, .unset] [(.ref ob3)])) rfl rfl (hb hby at_101) _) ?_
    show GG _ _ _ _ _ _ _ T8 (mkF m 102 #[.val (.int p0), .val (.int p1), .val (.int p2), .val (.int p3), .val (.int p4), .val (.int (0 : Int32)), .val (.float (FP.i2f sc)), .val (.float f0), .val (.float f1), .val (.float f2), .val (.float f3), .val (.ref ob3), .val (.ref bq8), .unset, .unset, .unset, .unset, .unset] [(.int (4 : Int32))])
    refine own_go (fun _ => XS.iconst X8.here hx rfl (hb hby at_102)) ?_
    show GG _ _ _ _ _ _ _ T8 (mkF m 103 #[.val (.int p0), .val (.int p1), .val (.int p2), .val (.int p3), .val (.int p4), .val (.int (0 : Int32)), .val (.float (FP.i2f sc)), .val (.float f0), .val (.float f1), .val (.float f2), .val (.float f3), .val (.ref ob3), .val (.ref bq8), .unset, .unset, .unset, .unset, .unset] [(.int (4 : Int32)), (.int (4 : Int32))])
    have hc103 : (4 : Int32) = (4 : Int32) := by decide
    refine own_go (fun _ => XS.icmpNo X8.here hx rfl (hb hby at_103) rfl (teq hc103).2) ?_
    show GG _ _ _ _ _ _ _ T8 (mkF m 106 #[.val (.int p0), .val (.int p1), .val (.int p2), .val (.int p3), .val (.int p4), .val (.int (0 : Int32)), .val (.float (FP.i2f sc)), .val (.float f0), .val (.float f1), .val (.float f2), .val (.float f3), .val (.ref ob3), .val (.ref bq8), .unset, .unset, .unset, .unset, .unset] [])
    refine own_go (fun _ => XS.aload X8.here hx rfl (hb hby at_106) rfl rfl) ?_
    show GG _ _ _ _ _ _ _ T8 (mkF m 108 #[.val (.int p0), .val (.int p1), .val (.int p2), .val (.int p3), .val (.int p4), .val (.int (0 : Int32)), .val (.float (FP.i2f sc)), .val (.float f0), .val (.float f1), .val (.float f2), .val (.float f3), .val (.ref ob3), .val (.ref bq8), .unset, .unset, .unset, .unset, .unset] [(.ref ob3)])
    refine own_go (fun _ => XS.iconst X8.here hx rfl (hb hby at_108)) ?_
    show GG _ _ _ _ _ _ _ T8 (mkF m 109 #[.val (.int p0), .val (.int p1), .val (.int p2), .val (.int p3), .val (.int p4), .val (.int (0 : Int32)), .val (.float (FP.i2f sc)), .val (.float f0), .val (.float f1), .val (.float f2), .val (.float f3), .val (.ref ob3), .val (.ref bq8), .unset, .unset, .unset, .unset, .unset] [(.int (0 : Int32)), (.ref ob3)])
    refine own_go (fun _ => own_faload X8 hx hZ rfl V_ob3 (j := (0 : Int32)) (v := (.float f0)) (by decide) rfl (g := (mkF m 109 #[.val (.int p0), .val (.int p1), .val (.int p2), .val (.int p3), .val (.int p4), .val (.int (0 : Int32)), .val (.float (FP.i2f sc)), .val (.float f0), .val (.float f1), .val (.float f2), .val (.float f3), .val (.ref ob3), .val (.ref bq8), .unset, .unset, .unset, .unset, .unset] [(.int (0 : Int32)), (.ref ob3)])) rfl rfl (hb hby at_109) _) ?_
    show GG _ _ _ _ _ _ _ T8 (mkF m 110 #[.val (.int p0), .val (.int p1), .val (.int p2), .val (.int p3), .val (.int p4), .val (.int (0 : Int32)), .val (.float (FP.i2f sc)), .val (.float f0), .val (.float f1), .val (.float f2), .val (.float f3), .val (.ref ob3), .val (.ref bq8), .unset, .unset, .unset, .unset, .unset] [(.float f0)])
    refine own_go (fun _ => XS.fload X8.here hx rfl (hb hby at_110) rfl) ?_
    show GG _ _ _ _ _ _ _ T8 (mkF m 112 #[.val (.int p0), .val (.int p1), .val (.int p2), .val (.int p3), .val (.int p4), .val (.int (0 : Int32)), .val (.float (FP.i2f sc)), .val (.float f0), .val (.float f1), .val (.float f2), .val (.float f3), .val (.ref ob3), .val (.ref bq8), .unset, .unset, .unset, .unset, .unset] [(.float f0), (.float f0)])
    refine own_go (fun _ => XS.fcmpS X8.here hx rfl (hb hby at_112) rfl (fcmpV_self nn0 _)) ?_
    show GG _ _ _ _ _ _ _ T8 (mkF m 113 #[.val (.int p0), .val (.int p1), .val (.int p2), .val (.int p3), .val (.int p4), .val (.int (0 : Int32)), .val (.float (FP.i2f sc)), .val (.float f0), .val (.float f1), .val (.float f2), .val (.float f3), .val (.ref ob3), .val (.ref bq8), .unset, .unset, .unset, .unset, .unset] [(.int (0 : Int32))])
    have hc113 : (0 : Int32) = (0 : Int32) := by decide
    refine own_go (fun _ => XS.ifNo X8.here hx rfl (hb hby at_113) rfl ((if0 _ _).trans (teq hc113).2)) ?_
    show GG _ _ _ _ _ _ _ T8 (mkF m 116 #[.val (.int p0), .val (.int p1), .val (.int p2), .val (.int p3), .val (.int p4), .val (.int (0 : Int32)), .val (.float (FP.i2f sc)), .val (.float f0), .val (.float f1), .val (.float f2), .val (.float f3), .val (.ref ob3), .val (.ref bq8), .unset, .unset, .unset, .unset, .unset] [])
    refine own_go (fun _ => XS.aload X8.here hx rfl (hb hby at_116) rfl rfl) ?_
    show GG _ _ _ _ _ _ _ T8 (mkF m 118 #[.val (.int p0), .val (.int p1), .val (.int p2), .val (.int p3), .val (.int p4), .val (.int (0 : Int32)), .val (.float (FP.i2f sc)), .val (.float f0), .val (.float f1), .val (.float f2), .val (.float f3), .val (.ref ob3), .val (.ref bq8), .unset, .unset, .unset, .unset, .unset] [(.ref ob3)])
    refine own_go (fun _ => XS.iconst X8.here hx rfl (hb hby at_118)) ?_
    show GG _ _ _ _ _ _ _ T8 (mkF m 119 #[.val (.int p0), .val (.int p1), .val (.int p2), .val (.int p3), .val (.int p4), .val (.int (0 : Int32)), .val (.float (FP.i2f sc)), .val (.float f0), .val (.float f1), .val (.float f2), .val (.float f3), .val (.ref ob3), .val (.ref bq8), .unset, .unset, .unset, .unset, .unset] [(.int (1 : Int32)), (.ref ob3)])
    refine own_go (fun _ => own_faload X8 hx hZ rfl V_ob3 (j := (1 : Int32)) (v := (.float f1)) (by decide) rfl (g := (mkF m 119 #[.val (.int p0), .val (.int p1), .val (.int p2), .val (.int p3), .val (.int p4), .val (.int (0 : Int32)), .val (.float (FP.i2f sc)), .val (.float f0), .val (.float f1), .val (.float f2), .val (.float f3), .val (.ref ob3), .val (.ref bq8), .unset, .unset, .unset, .unset, .unset] [(.int (1 : Int32)), (.ref ob3)])) rfl rfl (hb hby at_119) _) ?_
    show GG _ _ _ _ _ _ _ T8 (mkF m 120 #[.val (.int p0), .val (.int p1), .val (.int p2), .val (.int p3), .val (.int p4), .val (.int (0 : Int32)), .val (.float (FP.i2f sc)), .val (.float f0), .val (.float f1), .val (.float f2), .val (.float f3), .val (.ref ob3), .val (.ref bq8), .unset, .unset, .unset, .unset, .unset] [(.float f1)])
    refine own_go (fun _ => XS.fload X8.here hx rfl (hb hby at_120) rfl) ?_
    show GG _ _ _ _ _ _ _ T8 (mkF m 122 #[.val (.int p0), .val (.int p1), .val (.int p2), .val (.int p3), .val (.int p4), .val (.int (0 : Int32)), .val (.float (FP.i2f sc)), .val (.float f0), .val (.float f1), .val (.float f2), .val (.float f3), .val (.ref ob3), .val (.ref bq8), .unset, .unset, .unset, .unset, .unset] [(.float f1), (.float f1)])
    refine own_go (fun _ => XS.fcmpS X8.here hx rfl (hb hby at_122) rfl (fcmpV_self nn1 _)) ?_
    show GG _ _ _ _ _ _ _ T8 (mkF m 123 #[.val (.int p0), .val (.int p1), .val (.int p2), .val (.int p3), .val (.int p4), .val (.int (0 : Int32)), .val (.float (FP.i2f sc)), .val (.float f0), .val (.float f1), .val (.float f2), .val (.float f3), .val (.ref ob3), .val (.ref bq8), .unset, .unset, .unset, .unset, .unset] [(.int (0 : Int32))])
    have hc123 : (0 : Int32) = (0 : Int32) := by decide
    refine own_go (fun _ => XS.ifNo X8.here hx rfl (hb hby at_123) rfl ((if0 _ _).trans (teq hc123).2)) ?_
    show GG _ _ _ _ _ _ _ T8 (mkF m 126 #[.val (.int p0), .val (.int p1), .val (.int p2), .val (.int p3), .val (.int p4), .val (.int (0 : Int32)), .val (.float (FP.i2f sc)), .val (.float f0), .val (.float f1), .val (.float f2), .val (.float f3), .val (.ref ob3), .val (.ref bq8), .unset, .unset, .unset, .unset, .unset] [])
    refine own_go (fun _ => XS.aload X8.here hx rfl (hb hby at_126) rfl rfl) ?_
    show GG _ _ _ _ _ _ _ T8 (mkF m 128 #[.val (.int p0), .val (.int p1), .val (.int p2), .val (.int p3), .val (.int p4), .val (.int (0 : Int32)), .val (.float (FP.i2f sc)), .val (.float f0), .val (.float f1), .val (.float f2), .val (.float f3), .val (.ref ob3), .val (.ref bq8), .unset, .unset, .unset, .unset, .unset] [(.ref ob3)])
    refine own_go (fun _ => XS.iconst X8.here hx rfl (hb hby at_128)) ?_
    show GG _ _ _ _ _ _ _ T8 (mkF m 129 #[.val (.int p0), .val (.int p1), .val (.int p2), .val (.int p3), .val (.int p4), .val (.int (0 : Int32)), .val (.float (FP.i2f sc)), .val (.float f0), .val (.float f1), .val (.float f2), .val (.float f3), .val (.ref ob3), .val (.ref bq8), .unset, .unset, .unset, .unset, .unset] [(.int (2 : Int32)), (.ref ob3)])
    refine own_go (fun _ => own_faload X8 hx hZ rfl V_ob3 (j := (2 : Int32)) (v := (.float f2)) (by decide) rfl (g := (mkF m 129 #[.val (.int p0), .val (.int p1), .val (.int p2), .val (.int p3), .val (.int p4), .val (.int (0 : Int32)), .val (.float (FP.i2f sc)), .val (.float f0), .val (.float f1), .val (.float f2), .val (.float f3), .val (.ref ob3), .val (.ref bq8), .unset, .unset, .unset, .unset, .unset] [(.int (2 : Int32)), (.ref ob3)])) rfl rfl (hb hby at_129) _) ?_
    show GG _ _ _ _ _ _ _ T8 (mkF m 130 #[.val (.int p0), .val (.int p1), .val (.int p2), .val (.int p3), .val (.int p4), .val (.int (0 : Int32)), .val (.float (FP.i2f sc)), .val (.float f0), .val (.float f1), .val (.float f2), .val (.float f3), .val (.ref ob3), .val (.ref bq8), .unset, .unset, .unset, .unset, .unset] [(.float f2)])
    refine own_go (fun _ => XS.fload X8.here hx rfl (hb hby at_130) rfl) ?_
    show GG _ _ _ _ _ _ _ T8 (mkF m 132 #[.val (.int p0), .val (.int p1), .val (.int p2), .val (.int p3), .val (.int p4), .val (.int (0 : Int32)), .val (.float (FP.i2f sc)), .val (.float f0), .val (.float f1), .val (.float f2), .val (.float f3), .val (.ref ob3), .val (.ref bq8), .unset, .unset, .unset, .unset, .unset] [(.float f2), (.float f2)])
    refine own_go (fun _ => XS.fcmpS X8.here hx rfl (hb hby at_132) rfl (fcmpV_self nn2 _)) ?_
    show GG _ _ _ _ _ _ _ T8 (mkF m 133 #[.val (.int p0), .val (.int p1), .val (.int p2), .val (.int p3), .val (.int p4), .val (.int (0 : Int32)), .val (.float (FP.i2f sc)), .val (.float f0), .val (.float f1), .val (.float f2), .val (.float f3), .val (.ref ob3), .val (.ref bq8), .unset, .unset, .unset, .unset, .unset] [(.int (0 : Int32))])
    have hc133 : (0 : Int32) = (0 : Int32) := by decide
    refine own_go (fun _ => XS.ifNo X8.here hx rfl (hb hby at_133) rfl ((if0 _ _).trans (teq hc133).2)) ?_
    show GG _ _ _ _ _ _ _ T8 (mkF m 136 #[.val (.int p0), .val (.int p1), .val (.int p2), .val (.int p3), .val (.int p4), .val (.int (0 : Int32)), .val (.float (FP.i2f sc)), .val (.float f0), .val (.float f1), .val (.float f2), .val (.float f3), .val (.ref ob3), .val (.ref bq8), .unset, .unset, .unset, .unset, .unset] [])
    refine own_go (fun _ => XS.aload X8.here hx rfl (hb hby at_136) rfl rfl) ?_
    show GG _ _ _ _ _ _ _ T8 (mkF m 138 #[.val (.int p0), .val (.int p1), .val (.int p2), .val (.int p3), .val (.int p4), .val (.int (0 : Int32)), .val (.float (FP.i2f sc)), .val (.float f0), .val (.float f1), .val (.float f2), .val (.float f3), .val (.ref ob3), .val (.ref bq8), .unset, .unset, .unset, .unset, .unset] [(.ref ob3)])
    refine own_go (fun _ => XS.iconst X8.here hx rfl (hb hby at_138)) ?_
    show GG _ _ _ _ _ _ _ T8 (mkF m 139 #[.val (.int p0), .val (.int p1), .val (.int p2), .val (.int p3), .val (.int p4), .val (.int (0 : Int32)), .val (.float (FP.i2f sc)), .val (.float f0), .val (.float f1), .val (.float f2), .val (.float f3), .val (.ref ob3), .val (.ref bq8), .unset, .unset, .unset, .unset, .unset] [(.int (3 : Int32)), (.ref ob3)])
    refine own_go (fun _ => own_faload X8 hx hZ rfl V_ob3 (j := (3 : Int32)) (v := (.float f3)) (by decide) rfl (g := (mkF m 139 #[.val (.int p0), .val (.int p1), .val (.int p2), .val (.int p3), .val (.int p4), .val (.int (0 : Int32)), .val (.float (FP.i2f sc)), .val (.float f0), .val (.float f1), .val (.float f2), .val (.float f3), .val (.ref ob3), .val (.ref bq8), .unset, .unset, .unset, .unset, .unset] [(.int (3 : Int32)), (.ref ob3)])) rfl rfl (hb hby at_139) _) ?_
    show GG _ _ _ _ _ _ _ T8 (mkF m 140 #[.val (.int p0), .val (.int p1), .val (.int p2), .val (.int p3), .val (.int p4), .val (.int (0 : Int32)), .val (.float (FP.i2f sc)), .val (.float f0), .val (.float f1), .val (.float f2), .val (.float f3), .val (.ref ob3), .val (.ref bq8), .unset, .unset, .unset, .unset, .unset] [(.float f3)])
    refine own_go (fun _ => XS.fload X8.here hx rfl (hb hby at_140) rfl) ?_
    show GG _ _ _ _ _ _ _ T8 (mkF m 142 #[.val (.int p0), .val (.int p1), .val (.int p2), .val (.int p3), .val (.int p4), .val (.int (0 : Int32)), .val (.float (FP.i2f sc)), .val (.float f0), .val (.float f1), .val (.float f2), .val (.float f3), .val (.ref ob3), .val (.ref bq8), .unset, .unset, .unset, .unset, .unset] [(.float f3), (.float f3)])
    refine own_go (fun _ => XS.fcmpS X8.here hx rfl (hb hby at_142) rfl (fcmpV_self nn3 _)) ?_
    show GG _ _ _ _ _ _ _ T8 (mkF m 143 #[.val (.int p0), .val (.int p1), .val (.int p2), .val (.int p3), .val (.int p4), .val (.int (0 : Int32)), .val (.float (FP.i2f sc)), .val (.float f0), .val (.float f1), .val (.float f2), .val (.float f3), .val (.ref ob3), .val (.ref bq8), .unset, .unset, .unset, .unset, .unset] [(.int (0 : Int32))])
    have hc143 : (0 : Int32) = (0 : Int32) := by decide
    refine own_go (fun _ => XS.ifNo X8.here hx rfl (hb hby at_143) rfl ((if0 _ _).trans (teq hc143).2)) ?_
    show GG _ _ _ _ _ _ _ T8 (mkF m 146 #[.val (.int p0), .val (.int p1), .val (.int p2), .val (.int p3), .val (.int p4), .val (.int (0 : Int32)), .val (.float (FP.i2f sc)), .val (.float f0), .val (.float f1), .val (.float f2), .val (.float f3), .val (.ref ob3), .val (.ref bq8), .unset, .unset, .unset, .unset, .unset] [])
    refine own_go (fun _ => XS.iconst X8.here hx rfl (hb hby at_146)) ?_
    show GG _ _ _ _ _ _ _ T8 (mkF m 147 #[.val (.int p0), .val (.int p1), .val (.int p2), .val (.int p3), .val (.int p4), .val (.int (0 : Int32)), .val (.float (FP.i2f sc)), .val (.float f0), .val (.float f1), .val (.float f2), .val (.float f3), .val (.ref ob3), .val (.ref bq8), .unset, .unset, .unset, .unset, .unset] [(.int (1 : Int32))])
    refine own_go (fun _ => XS.goto X8.here hx rfl (pc0 := 147) (pc' := 151) rfl (hb hby at_147) (by decide) (by decide)) ?_
    show GG _ _ _ _ _ _ _ T8 (mkF m 151 #[.val (.int p0), .val (.int p1), .val (.int p2), .val (.int p3), .val (.int p4), .val (.int (0 : Int32)), .val (.float (FP.i2f sc)), .val (.float f0), .val (.float f1), .val (.float f2), .val (.float f3), .val (.ref ob3), .val (.ref bq8), .unset, .unset, .unset, .unset, .unset] [(.int (1 : Int32))])
    refine own_go (fun _ => XS.istore X8.here hx rfl (hb hby at_151) rfl (l' := #[.val (.int p0), .val (.int p1), .val (.int p2), .val (.int p3), .val (.int p4), .val (.int (0 : Int32)), .val (.float (FP.i2f sc)), .val (.float f0), .val (.float f1), .val (.float f2), .val (.float f3), .val (.ref ob3), .val (.ref bq8), .val (.int (1 : Int32)), .unset, .unset, .unset, .unset]) rfl) ?_
    show GG _ _ _ _ _ _ _ T8 (mkF m 153 #[.val (.int p0), .val (.int p1), .val (.int p2), .val (.int p3), .val (.int p4), .val (.int (0 : Int32)), .val (.float (FP.i2f sc)), .val (.float f0), .val (.float f1), .val (.float f2), .val (.float f3), .val (.ref ob3), .val (.ref bq8), .val (.int (1 : Int32)), .unset, .unset, .unset, .unset] [])
    refine own_go (fun _ => XS.iload X8.here hx rfl (hb hby at_153) rfl) ?_
    show GG _ _ _ _ _ _ _ T8 (mkF m 155 #[.val (.int p0), .val (.int p1), .val (.int p2), .val (.int p3), .val (.int p4), .val (.int (0 : Int32)), .val (.float (FP.i2f sc)), .val (.float f0), .val (.float f1), .val (.float f2), .val (.float f3), .val (.ref ob3), .val (.ref bq8), .val (.int (1 : Int32)), .unset, .unset, .unset, .unset] [(.int (0 : Int32))])
    refine own_go (fun _ => XS.iconst X8.here hx rfl (hb hby at_155)) ?_
    show GG _ _ _ _ _ _ _ T8 (mkF m 156 #[.val (.int p0), .val (.int p1), .val (.int p2), .val (.int p3), .val (.int p4), .val (.int (0 : Int32)), .val (.float (FP.i2f sc)), .val (.float f0), .val (.float f1), .val (.float f2), .val (.float f3), .val (.ref ob3), .val (.ref bq8), .val (.int (1 : Int32)), .unset, .unset, .unset, .unset] [(.int (1 : Int32)), (.int (0 : Int32))])
    have hc156 : (0 : Int32) < (1 : Int32) := by decide
    refine own_go (fun _ => XS.icmpYes X8.here hx rfl (pc0 := 156) (pc' := 170) rfl (hb hby at_156) rfl (tlt hc156).1 (by decide) (by decide)) ?_
    show GG _ _ _ _ _ _ _ T8 (mkF m 170 #[.val (.int p0), .val (.int p1), .val (.int p2), .val (.int p3), .val (.int p4), .val (.int (0 : Int32)), .val (.float (FP.i2f sc)), .val (.float f0), .val (.float f1), .val (.float f2), .val (.float f3), .val (.ref ob3), .val (.ref bq8), .val (.int (1 : Int32)), .unset, .unset, .unset, .unset] [])
    refine own_go (fun _ => XS.iconst X8.here hx rfl (hb hby at_170)) ?_
    show GG _ _ _ _ _ _ _ T8 (mkF m 171 #[.val (.int p0), .val (.int p1), .val (.int p2), .val (.int p3), .val (.int p4), .val (.int (0 : Int32)), .val (.float (FP.i2f sc)), .val (.float f0), .val (.float f1), .val (.float f2), .val (.float f3), .val (.ref ob3), .val (.ref bq8), .val (.int (1 : Int32)), .unset, .unset, .unset, .unset] [(.int (1 : Int32))])
    refine own_go (fun _ => XS.goto X8.here hx rfl (pc0 := 171) (pc' := 175) rfl (hb hby at_171) (by decide) (by decide)) ?_
    show GG _ _ _ _ _ _ _ T8 (mkF m 175 #[.val (.int p0), .val (.int p1), .val (.int p2), .val (.int p3), .val (.int p4), .val (.int (0 : Int32)), .val (.float (FP.i2f sc)), .val (.float f0), .val (.float f1), .val (.float f2), .val (.float f3), .val (.ref ob3), .val (.ref bq8), .val (.int (1 : Int32)), .unset, .unset, .unset, .unset] [(.int (1 : Int32))])
    refine own_go (fun _ => XS.istore X8.here hx rfl (hb hby at_175) rfl (l' := #[.val (.int p0), .val (.int p1), .val (.int p2), .val (.int p3), .val (.int p4), .val (.int (0 : Int32)), .val (.float (FP.i2f sc)), .val (.float f0), .val (.float f1), .val (.float f2), .val (.float f3), .val (.ref ob3), .val (.ref bq8), .val (.int (1 : Int32)), .val (.int (1 : Int32)), .unset, .unset, .unset]) rfl) ?_
    show GG _ _ _ _ _ _ _ T8 (mkF m 177 #[.val (.int p0), .val (.int p1), .val (.int p2), .val (.int p3), .val (.int p4), .val (.int (0 : Int32)), .val (.float (FP.i2f sc)), .val (.float f0), .val (.float f1), .val (.float f2), .val (.float f3), .val (.ref ob3), .val (.ref bq8), .val (.int (1 : Int32)), .val (.int (1 : Int32)), .unset, .unset, .unset] [])
    refine own_go (fun _ => XS.iload X8.here hx rfl (hb hby at_177) rfl) ?_
    show GG _ _ _ _ _ _ _ T8 (mkF m 179 #[.val (.int p0), .val (.int p1), .val (.int p2), .val (.int p3), .val (.int p4), .val (.int (0 : Int32)), .val (.float (FP.i2f sc)), .val (.float f0), .val (.float f1), .val (.float f2), .val (.float f3), .val (.ref ob3), .val (.ref bq8), .val (.int (1 : Int32)), .val (.int (1 : Int32)), .unset, .unset, .unset] [(.int (0 : Int32))])
    refine own_go (fun _ => XS.iconst X8.here hx rfl (hb hby at_179)) ?_
    show GG _ _ _ _ _ _ _ T8 (mkF m 180 #[.val (.int p0), .val (.int p1), .val (.int p2), .val (.int p3), .val (.int p4), .val (.int (0 : Int32)), .val (.float (FP.i2f sc)), .val (.float f0), .val (.float f1), .val (.float f2), .val (.float f3), .val (.ref ob3), .val (.ref bq8), .val (.int (1 : Int32)), .val (.int (1 : Int32)), .unset, .unset, .unset] [(.int (2 : Int32)), (.int (0 : Int32))])
    have hc180 : (0 : Int32) < (2 : Int32) := by decide
    refine own_go (fun _ => XS.icmpYes X8.here hx rfl (pc0 := 180) (pc' := 194) rfl (hb hby at_180) rfl (tlt hc180).1 (by decide) (by decide)) ?_
    show GG _ _ _ _ _ _ _ T8 (mkF m 194 #[.val (.int p0), .val (.int p1), .val (.int p2), .val (.int p3), .val (.int p4), .val (.int (0 : Int32)), .val (.float (FP.i2f sc)), .val (.float f0), .val (.float f1), .val (.float f2), .val (.float f3), .val (.ref ob3), .val (.ref bq8), .val (.int (1 : Int32)), .val (.int (1 : Int32)), .unset, .unset, .unset] [])
    refine own_go (fun _ => XS.iconst X8.here hx rfl (hb hby at_194)) ?_
    show GG _ _ _ _ _ _ _ T8 (mkF m 195 #[.val (.int p0), .val (.int p1), .val (.int p2), .val (.int p3), .val (.int p4), .val (.int (0 : Int32)), .val (.float (FP.i2f sc)), .val (.float f0), .val (.float f1), .val (.float f2), .val (.float f3), .val (.ref ob3), .val (.ref bq8), .val (.int (1 : Int32)), .val (.int (1 : Int32)), .unset, .unset, .unset] [(.int (1 : Int32))])
    refine own_go (fun _ => XS.goto X8.here hx rfl (pc0 := 195) (pc' := 199) rfl (hb hby at_195) (by decide) (by decide)) ?_
    show GG _ _ _ _ _ _ _ T8 (mkF m 199 #[.val (.int p0), .val (.int p1), .val (.int p2), .val (.int p3), .val (.int p4), .val (.int (0 : Int32)), .val (.float (FP.i2f sc)), .val (.float f0), .val (.float f1), .val (.float f2), .val (.float f3), .val (.ref ob3), .val (.ref bq8), .val (.int (1 : Int32)), .val (.int (1 : Int32)), .unset, .unset, .unset] [(.int (1 : Int32))])
    refine own_go (fun _ => XS.istore X8.here hx rfl (hb hby at_199) rfl (l' := #[.val (.int p0), .val (.int p1), .val (.int p2), .val (.int p3), .val (.int p4), .val (.int (0 : Int32)), .val (.float (FP.i2f sc)), .val (.float f0), .val (.float f1), .val (.float f2), .val (.float f3), .val (.ref ob3), .val (.ref bq8), .val (.int (1 : Int32)), .val (.int (1 : Int32)), .val (.int (1 : Int32)), .unset, .unset]) rfl) ?_
    show GG _ _ _ _ _ _ _ T8 (mkF m 201 #[.val (.int p0), .val (.int p1), .val (.int p2), .val (.int p3), .val (.int p4), .val (.int (0 : Int32)), .val (.float (FP.i2f sc)), .val (.float f0), .val (.float f1), .val (.float f2), .val (.float f3), .val (.ref ob3), .val (.ref bq8), .val (.int (1 : Int32)), .val (.int (1 : Int32)), .val (.int (1 : Int32)), .unset, .unset] [])
    refine own_go (fun _ => XS.iload X8.here hx rfl (hb hby at_201) rfl) ?_
    show GG _ _ _ _ _ _ _ T8 (mkF m 203 #[.val (.int p0), .val (.int p1), .val (.int p2), .val (.int p3), .val (.int p4), .val (.int (0 : Int32)), .val (.float (FP.i2f sc)), .val (.float f0), .val (.float f1), .val (.float f2), .val (.float f3), .val (.ref ob3), .val (.ref bq8), .val (.int (1 : Int32)), .val (.int (1 : Int32)), .val (.int (1 : Int32)), .unset, .unset] [(.int (0 : Int32))])
    refine own_go (fun _ => XS.iconst X8.here hx rfl (hb hby at_203)) ?_
    show GG _ _ _ _ _ _ _ T8 (mkF m 204 #[.val (.int p0), .val (.int p1), .val (.int p2), .val (.int p3), .val (.int p4), .val (.int (0 : Int32)), .val (.float (FP.i2f sc)), .val (.float f0), .val (.float f1), .val (.float f2), .val (.float f3), .val (.ref ob3), .val (.ref bq8), .val (.int (1 : Int32)), .val (.int (1 : Int32)), .val (.int (1 : Int32)), .unset, .unset] [(.int (3 : Int32)), (.int (0 : Int32))])
    have hc204 : (0 : Int32) < (3 : Int32) := by decide
    refine own_go (fun _ => XS.icmpYes X8.here hx rfl (pc0 := 204) (pc' := 218) rfl (hb hby at_204) rfl (tlt hc204).1 (by decide) (by decide)) ?_
    show GG _ _ _ _ _ _ _ T8 (mkF m 218 #[.val (.int p0), .val (.int p1), .val (.int p2), .val (.int p3), .val (.int p4), .val (.int (0 : Int32)), .val (.float (FP.i2f sc)), .val (.float f0), .val (.float f1), .val (.float f2), .val (.float f3), .val (.ref ob3), .val (.ref bq8), .val (.int (1 : Int32)), .val (.int (1 : Int32)), .val (.int (1 : Int32)), .unset, .unset] [])
    refine own_go (fun _ => XS.iconst X8.here hx rfl (hb hby at_218)) ?_
    show GG _ _ _ _ _ _ _ T8 (mkF m 219 #[.val (.int p0), .val (.int p1), .val (.int p2), .val (.int p3), .val (.int p4), .val (.int (0 : Int32)), .val (.float (FP.i2f sc)), .val (.float f0), .val (.float f1), .val (.float f2), .val (.float f3), .val (.ref ob3), .val (.ref bq8), .val (.int (1 : Int32)), .val (.int (1 : Int32)), .val (.int (1 : Int32)), .unset, .unset] [(.int (1 : Int32))])
    refine own_go (fun _ => XS.goto X8.here hx rfl (pc0 := 219) (pc' := 223) rfl (hb hby at_219) (by decide) (by decide)) ?_
    show GG _ _ _ _ _ _ _ T8 (mkF m 223 #[.val (.int p0), .val (.int p1), .val (.int p2), .val (.int p3), .val (.int p4), .val (.int (0 : Int32)), .val (.float (FP.i2f sc)), .val (.float f0), .val (.float f1), .val (.float f2), .val (.float f3), .val (.ref ob3), .val (.ref bq8), .val (.int (1 : Int32)), .val (.int (1 : Int32)), .val (.int (1 : Int32)), .unset, .unset] [(.int (1 : Int32))])
    refine own_go (fun _ => XS.istore X8.here hx rfl (hb hby at_223) rfl (l' := #[.val (.int p0), .val (.int p1), .val (.int p2), .val (.int p3), .val (.int p4), .val (.int (0 : Int32)), .val (.float (FP.i2f sc)), .val (.float f0), .val (.float f1), .val (.float f2), .val (.float f3), .val (.ref ob3), .val (.ref bq8), .val (.int (1 : Int32)), .val (.int (1 : Int32)), .val (.int (1 : Int32)), .val (.int (1 : Int32)), .unset]) rfl) ?_
    show GG _ _ _ _ _ _ _ T8 (mkF m 225 #[.val (.int p0), .val (.int p1), .val (.int p2), .val (.int p3), .val (.int p4), .val (.int (0 : Int32)), .val (.float (FP.i2f sc)), .val (.float f0), .val (.float f1), .val (.float f2), .val (.float f3), .val (.ref ob3), .val (.ref bq8), .val (.int (1 : Int32)), .val (.int (1 : Int32)), .val (.int (1 : Int32)), .val (.int (1 : Int32)), .unset] [])
    refine own_go (fun _ => XS.iload X8.here hx rfl (hb hby at_225) rfl) ?_
    show GG _ _ _ _ _ _ _ T8 (mkF m 227 #[.val (.int p0), .val (.int p1), .val (.int p2), .val (.int p3), .val (.int p4), .val (.int (0 : Int32)), .val (.float (FP.i2f sc)), .val (.float f0), .val (.float f1), .val (.float f2), .val (.float f3), .val (.ref ob3), .val (.ref bq8), .val (.int (1 : Int32)), .val (.int (1 : Int32)), .val (.int (1 : Int32)), .val (.int (1 : Int32)), .unset] [(.int (0 : Int32))])
    refine own_go (fun _ => XS.iconst X8.here hx rfl (hb hby at_227)) ?_
    show GG _ _ _ _ _ _ _ T8 (mkF m 228 #[.val (.int p0), .val (.int p1), .val (.int p2), .val (.int p3), .val (.int p4), .val (.int (0 : Int32)), .val (.float (FP.i2f sc)), .val (.float f0), .val (.float f1), .val (.float f2), .val (.float f3), .val (.ref ob3), .val (.ref bq8), .val (.int (1 : Int32)), .val (.int (1 : Int32)), .val (.int (1 : Int32)), .val (.int (1 : Int32)), .unset] [(.int (4 : Int32)), (.int (0 : Int32))])
    have hc228 : (0 : Int32) < (4 : Int32) := by decide
    refine own_go (fun _ => XS.icmpYes X8.here hx rfl (pc0 := 228) (pc' := 242) rfl (hb hby at_228) rfl (tlt hc228).1 (by decide) (by decide)) ?_
    show GG _ _ _ _ _ _ _ T8 (mkF m 242 #[.val (.int p0), .val (.int p1), .val (.int p2), .val (.int p3), .val (.int p4), .val (.int (0 : Int32)), .val (.float (FP.i2f sc)), .val (.float f0), .val (.float f1), .val (.float f2), .val (.float f3), .val (.ref ob3), .val (.ref bq8), .val (.int (1 : Int32)), .val (.int (1 : Int32)), .val (.int (1 : Int32)), .val (.int (1 : Int32)), .unset] [])
    refine own_go (fun _ => XS.iconst X8.here hx rfl (hb hby at_242)) ?_
    show GG _ _ _ _ _ _ _ T8 (mkF m 243 #[.val (.int p0), .val (.int p1), .val (.int p2), .val (.int p3), .val (.int p4), .val (.int (0 : Int32)), .val (.float (FP.i2f sc)), .val (.float f0), .val (.float f1), .val (.float f2), .val (.float f3), .val (.ref ob3), .val (.ref bq8), .val (.int (1 : Int32)), .val (.int (1 : Int32)), .val (.int (1 : Int32)), .val (.int (1 : Int32)), .unset] [(.int (1 : Int32))])
    refine own_go (fun _ => XS.goto X8.here hx rfl (pc0 := 243) (pc' := 247) rfl (hb hby at_243) (by decide) (by decide)) ?_
    show GG _ _ _ _ _ _ _ T8 (mkF m 247 #[.val (.int p0), .val (.int p1), .val (.int p2), .val (.int p3), .val (.int p4), .val (.int (0 : Int32)), .val (.float (FP.i2f sc)), .val (.float f0), .val (.float f1), .val (.float f2), .val (.float f3), .val (.ref ob3), .val (.ref bq8), .val (.int (1 : Int32)), .val (.int (1 : Int32)), .val (.int (1 : Int32)), .val (.int (1 : Int32)), .unset] [(.int (1 : Int32))])
    refine own_go (fun _ => XS.istore X8.here hx rfl (hb hby at_247) rfl (l' := #[.val (.int p0), .val (.int p1), .val (.int p2), .val (.int p3), .val (.int p4), .val (.int (0 : Int32)), .val (.float (FP.i2f sc)), .val (.float f0), .val (.float f1), .val (.float f2), .val (.float f3), .val (.ref ob3), .val (.ref bq8), .val (.int (1 : Int32)), .val (.int (1 : Int32)), .val (.int (1 : Int32)), .val (.int (1 : Int32)), .val (.int (1 : Int32))]) rfl) ?_
    show GG _ _ _ _ _ _ _ T8 (mkF m 249 #[.val (.int p0), .val (.int p1), .val (.int p2), .val (.int p3), .val (.int p4), .val (.int (0 : Int32)), .val (.float (FP.i2f sc)), .val (.float f0), .val (.float f1), .val (.float f2), .val (.float f3), .val (.ref ob3), .val (.ref bq8), .val (.int (1 : Int32)), .val (.int (1 : Int32)), .val (.int (1 : Int32)), .val (.int (1 : Int32)), .val (.int (1 : Int32))] [])
    refine own_go (fun _ => XS.iload X8.here hx rfl (hb hby at_249) rfl) ?_
    show GG _ _ _ _ _ _ _ T8 (mkF m 251 #[.val (.int p0), .val (.int p1), .val (.int p2), .val (.int p3), .val (.int p4), .val (.int (0 : Int32)), .val (.float (FP.i2f sc)), .val (.float f0), .val (.float f1), .val (.float f2), .val (.float f3), .val (.ref ob3), .val (.ref bq8), .val (.int (1 : Int32)), .val (.int (1 : Int32)), .val (.int (1 : Int32)), .val (.int (1 : Int32)), .val (.int (1 : Int32))] [(.int (1 : Int32))])
    have hc251 : ¬ ((1 : Int32) = (0 : Int32)) := by decide
    refine own_go (fun _ => XS.ifNo X8.here hx rfl (hb hby at_251) rfl ((if0 _ _).trans (feq hc251).1)) ?_
    show GG _ _ _ _ _ _ _ T8 (mkF m 254 #[.val (.int p0), .val (.int p1), .val (.int p2), .val (.int p3), .val (.int p4), .val (.int (0 : Int32)), .val (.float (FP.i2f sc)), .val (.float f0), .val (.float f1), .val (.float f2), .val (.float f3), .val (.ref ob3), .val (.ref bq8), .val (.int (1 : Int32)), .val (.int (1 : Int32)), .val (.int (1 : Int32)), .val (.int (1 : Int32)), .val (.int (1 : Int32))] [])
    refine own_go (fun _ => XS.iload X8.here hx rfl (hb hby at_254) rfl) ?_
    show GG _ _ _ _ _ _ _ T8 (mkF m 256 #[.val (.int p0), .val (.int p1), .val (.int p2), .val (.int p3), .val (.int p4), .val (.int (0 : Int32)), .val (.float (FP.i2f sc)), .val (.float f0), .val (.float f1), .val (.float f2), .val (.float f3), .val (.ref ob3), .val (.ref bq8), .val (.int (1 : Int32)), .val (.int (1 : Int32)), .val (.int (1 : Int32)), .val (.int (1 : Int32)), .val (.int (1 : Int32))] [(.int (1 : Int32))])
    have hc256 : ¬ ((1 : Int32) = (0 : Int32)) := by decide
    refine own_go (fun _ => XS.ifNo X8.here hx rfl (hb hby at_256) rfl ((if0 _ _).trans (feq hc256).1)) ?_
    show GG _ _ _ _ _ _ _ T8 (mkF m 259 #[.val (.int p0), .val (.int p1), .val (.int p2), .val (.int p3), .val (.int p4), .val (.int (0 : Int32)), .val (.float (FP.i2f sc)), .val (.float f0), .val (.float f1), .val (.float f2), .val (.float f3), .val (.ref ob3), .val (.ref bq8), .val (.int (1 : Int32)), .val (.int (1 : Int32)), .val (.int (1 : Int32)), .val (.int (1 : Int32)), .val (.int (1 : Int32))] [])
    refine own_go (fun _ => XS.iload X8.here hx rfl (hb hby at_259) rfl) ?_
    show GG _ _ _ _ _ _ _ T8 (mkF m 261 #[.val (.int p0), .val (.int p1), .val (.int p2), .val (.int p3), .val (.int p4), .val (.int (0 : Int32)), .val (.float (FP.i2f sc)), .val (.float f0), .val (.float f1), .val (.float f2), .val (.float f3), .val (.ref ob3), .val (.ref bq8), .val (.int (1 : Int32)), .val (.int (1 : Int32)), .val (.int (1 : Int32)), .val (.int (1 : Int32)), .val (.int (1 : Int32))] [(.int (1 : Int32))])
    have hc261 : ¬ ((1 : Int32) = (0 : Int32)) := by decide
    refine own_go (fun _ => XS.ifNo X8.here hx rfl (hb hby at_261) rfl ((if0 _ _).trans (feq hc261).1)) ?_
    show GG _ _ _ _ _ _ _ T8 (mkF m 264 #[.val (.int p0), .val (.int p1), .val (.int p2), .val (.int p3), .val (.int p4), .val (.int (0 : Int32)), .val (.float (FP.i2f sc)), .val (.float f0), .val (.float f1), .val (.float f2), .val (.float f3), .val (.ref ob3), .val (.ref bq8), .val (.int (1 : Int32)), .val (.int (1 : Int32)), .val (.int (1 : Int32)), .val (.int (1 : Int32)), .val (.int (1 : Int32))] [])
    refine own_go (fun _ => XS.iload X8.here hx rfl (hb hby at_264) rfl) ?_
    show GG _ _ _ _ _ _ _ T8 (mkF m 266 #[.val (.int p0), .val (.int p1), .val (.int p2), .val (.int p3), .val (.int p4), .val (.int (0 : Int32)), .val (.float (FP.i2f sc)), .val (.float f0), .val (.float f1), .val (.float f2), .val (.float f3), .val (.ref ob3), .val (.ref bq8), .val (.int (1 : Int32)), .val (.int (1 : Int32)), .val (.int (1 : Int32)), .val (.int (1 : Int32)), .val (.int (1 : Int32))] [(.int (1 : Int32))])
    have hc266 : ¬ ((1 : Int32) = (0 : Int32)) := by decide
    refine own_go (fun _ => XS.ifNo X8.here hx rfl (hb hby at_266) rfl ((if0 _ _).trans (feq hc266).1)) ?_
    show GG _ _ _ _ _ _ _ T8 (mkF m 269 #[.val (.int p0), .val (.int p1), .val (.int p2), .val (.int p3), .val (.int p4), .val (.int (0 : Int32)), .val (.float (FP.i2f sc)), .val (.float f0), .val (.float f1), .val (.float f2), .val (.float f3), .val (.ref ob3), .val (.ref bq8), .val (.int (1 : Int32)), .val (.int (1 : Int32)), .val (.int (1 : Int32)), .val (.int (1 : Int32)), .val (.int (1 : Int32))] [])
    refine own_go (fun _ => XS.iload X8.here hx rfl (hb hby at_269) rfl) ?_
    show GG _ _ _ _ _ _ _ T8 (mkF m 271 #[.val (.int p0), .val (.int p1), .val (.int p2), .val (.int p3), .val (.int p4), .val (.int (0 : Int32)), .val (.float (FP.i2f sc)), .val (.float f0), .val (.float f1), .val (.float f2), .val (.float f3), .val (.ref ob3), .val (.ref bq8), .val (.int (1 : Int32)), .val (.int (1 : Int32)), .val (.int (1 : Int32)), .val (.int (1 : Int32)), .val (.int (1 : Int32))] [(.int (1 : Int32))])
    have hc271 : ¬ ((1 : Int32) = (0 : Int32)) := by decide
    refine own_go (fun _ => XS.ifNo X8.here hx rfl (hb hby at_271) rfl ((if0 _ _).trans (feq hc271).1)) ?_
    show GG _ _ _ _ _ _ _ T8 (mkF m 274 #[.val (.int p0), .val (.int p1), .val (.int p2), .val (.int p3), .val (.int p4), .val (.int (0 : Int32)), .val (.float (FP.i2f sc)), .val (.float f0), .val (.float f1), .val (.float f2), .val (.float f3), .val (.ref ob3), .val (.ref bq8), .val (.int (1 : Int32)), .val (.int (1 : Int32)), .val (.int (1 : Int32)), .val (.int (1 : Int32)), .val (.int (1 : Int32))] [])
    refine own_go (fun _ => XS.iconst X8.here hx rfl (hb hby at_274)) ?_
    show GG _ _ _ _ _ _ _ T8 (mkF m 275 #[.val (.int p0), .val (.int p1), .val (.int p2), .val (.int p3), .val (.int p4), .val (.int (0 : Int32)), .val (.float (FP.i2f sc)), .val (.float f0), .val (.float f1), .val (.float f2), .val (.float f3), .val (.ref ob3), .val (.ref bq8), .val (.int (1 : Int32)), .val (.int (1 : Int32)), .val (.int (1 : Int32)), .val (.int (1 : Int32)), .val (.int (1 : Int32))] [(.int (1 : Int32))])
    refine own_go (fun _ => XS.goto X8.here hx rfl (pc0 := 275) (pc' := 279) rfl (hb hby at_275) (by decide) (by decide)) ?_
    show GG _ _ _ _ _ _ _ T8 (mkF m 279 #[.val (.int p0), .val (.int p1), .val (.int p2), .val (.int p3), .val (.int p4), .val (.int (0 : Int32)), .val (.float (FP.i2f sc)), .val (.float f0), .val (.float f1), .val (.float f2), .val (.float f3), .val (.ref ob3), .val (.ref bq8), .val (.int (1 : Int32)), .val (.int (1 : Int32)), .val (.int (1 : Int32)), .val (.int (1 : Int32)), .val (.int (1 : Int32))] [(.int (1 : Int32))])
    refine own_ret X8 hx hlk (t := .boolean) (w := (.int (1 : Int32))) Bd.returns rfl (Or.inl ⟨rfl, by simp, _, rfl⟩) (hb hby at_279) (by decide) (by decide) ?_
    show Q0 Z p0 p1 p2 p3 p4 h0 n0 (some (.int (1 : Int32))) T8.heap _
    exact ⟨rfl, N8⟩
  · skip
    subst hsel
    show GG _ _ _ _ _ _ _ T7 (mkF m 75 #[.val (.int p0), .val (.int p1), .val (.int p2), .val (.int p3), .val (.int p4), .val (.int (1 : Int32)), .val (.float (FP.i2f sc)), .val (.float f0), .val (.float f1), .val (.float f2), .val (.float f3), .val (.ref ob3), .unset, .unset, .unset, .unset, .unset, .unset] [])
    refine own_go (fun _ => XS.aload X7.here hx rfl (hb hby at_75) rfl rfl) ?_
    show GG _ _ _ _ _ _ _ T7 (mkF m 77 #[.val (.int p0), .val (.int p1), .val (.int p2), .val (.int p3), .val (.int p4), .val (.int (1 : Int32)), .val (.float (FP.i2f sc)), .val (.float f0), .val (.float f1), .val (.float f2), .val (.float f3), .val (.ref ob3), .unset, .unset, .unset, .unset, .unset, .unset] [(.ref ob3)])
    refine own_go (fun _ => XS.iload X7.here hx rfl (hb hby at_77) rfl) ?_
    show GG _ _ _ _ _ _ _ T7 (mkF m 79 #[.val (.int p0), .val (.int p1), .val (.int p2), .val (.int p3), .val (.int p4), .val (.int (1 : Int32)), .val (.float (FP.i2f sc)), .val (.float f0), .val (.float f1), .val (.float f2), .val (.float f3), .val (.ref ob3), .unset, .unset, .unset, .unset, .unset, .unset] [(.int (1 : Int32)), (.ref ob3)])
    refine own_callS X7 hx hZ (y := (⟨"com/example/hadamint/hadamint/Queries", "widened", "([FI)[D"⟩ : MethodName)) 0 hown (hw _ (List.mem_of_getElem? (i := 2) rfl)) (hw _ (List.mem_of_getElem? (i := 3) rfl)) (hw _ (List.mem_of_getElem? (i := 4) rfl)) (hw _ (List.mem_of_getElem? (i := 5) rfl)) (by decide) (argsL := [(.ref ob3), (.int (1 : Int32))]) (rest := []) (rm1_1 l Z a0 hw [] ob3 f0 f1 f2 f3 h7 n0 (Nat.le_trans Z0 K0.1) V_ob3 nn0 nn1 nn2 nn3) (by decide) (by decide) (by decide) (by decide) (g := (mkF m 79 #[.val (.int p0), .val (.int p1), .val (.int p2), .val (.int p3), .val (.int p4), .val (.int (1 : Int32)), .val (.float (FP.i2f sc)), .val (.float f0), .val (.float f1), .val (.float f2), .val (.float f3), .val (.ref ob3), .unset, .unset, .unset, .unset, .unset, .unset] [(.int (1 : Int32)), (.ref ob3)])) rfl (by rw [hml]; rfl) (lenOf pd___FI__D_474 rfl) rfl (by show 2 * 0 + _ ≤ _; exact Nat.le_of_eq rfl) (hb hby at_79) e7 ?_
    rintro v9 T9 L9 X9 ⟨bq9, rfl, N9q, szq9, Kq9, Vq9⟩
    have N9 := Fr.app N7 N9q
    have K0 := K0.trans Kq9 all0
    have V_ob3 := V_ob3.keep Kq9 nin0
    have E_ob3 := E_ob3.keep Kq9
    show GG _ _ _ _ _ _ _ T9 (mkF m 82 #[.val (.int p0), .val (.int p1), .val (.int p2), .val (.int p3), .val (.int p4), .val (.int (1 : Int32)), .val (.float (FP.i2f sc)), .val (.float f0), .val (.float f1), .val (.float f2), .val (.float f3), .val (.ref ob3), .unset, .unset, .unset, .unset, .unset, .unset] [(.ref bq9)])
    refine own_go (fun _ => XS.astore X9.here hx rfl (hb hby at_82) rfl rfl (l' := #[.val (.int p0), .val (.int p1), .val (.int p2), .val (.int p3), .val (.int p4), .val (.int (1 : Int32)), .val (.float (FP.i2f sc)), .val (.float f0), .val (.float f1), .val (.float f2), .val (.float f3), .val (.ref ob3), .val (.ref bq9), .unset, .unset, .unset, .unset, .unset]) rfl) ?_
    show GG _ _ _ _ _ _ _ T9 (mkF m 84 #[.val (.int p0), .val (.int p1), .val (.int p2), .val (.int p3), .val (.int p4), .val (.int (1 : Int32)), .val (.float (FP.i2f sc)), .val (.float f0), .val (.float f1), .val (.float f2), .val (.float f3), .val (.ref ob3), .val (.ref bq9), .unset, .unset, .unset, .unset, .unset] [])
    refine own_go (fun _ => XS.aload X9.here hx rfl (hb hby at_84) rfl rfl) ?_
    show GG _ _ _ _ _ _ _ T9 (mkF m 86 #[.val (.int p0), .val (.int p1), .val (.int p2), .val (.int p3), .val (.int p4), .val (.int (1 : Int32)), .val (.float (FP.i2f sc)), .val (.float f0), .val (.float f1), .val (.float f2), .val (.float f3), .val (.ref ob3), .val (.ref bq9), .unset, .unset, .unset, .unset, .unset] [(.ref bq9)])
    refine own_go (fun _ => XS.ifnullNo X9.here hx rfl (hb hby at_86) rfl) ?_
    show GG _ _ _ _ _ _ _ T9 (mkF m 89 #[.val (.int p0), .val (.int p1), .val (.int p2), .val (.int p3), .val (.int p4), .val (.int (1 : Int32)), .val (.float (FP.i2f sc)), .val (.float f0), .val (.float f1), .val (.float f2), .val (.float f3), .val (.ref ob3), .val (.ref bq9), .unset, .unset, .unset, .unset, .unset] [])
    refine own_go (fun _ => XS.aload X9.here hx rfl (hb hby at_89) rfl rfl) ?_
    show GG _ _ _ _ _ _ _ T9 (mkF m 91 #[.val (.int p0), .val (.int p1), .val (.int p2), .val (.int p3), .val (.int p4), .val (.int (1 : Int32)), .val (.float (FP.i2f sc)), .val (.float f0), .val (.float f1), .val (.float f2), .val (.float f3), .val (.ref ob3), .val (.ref bq9), .unset, .unset, .unset, .unset, .unset] [(.ref bq9)])
    refine own_go (fun _ => own_len X9 hx hZ rfl Vq9 (g := (mkF m 91 #[.val (.int p0), .val (.int p1), .val (.int p2), .val (.int p3), .val (.int p4), .val (.int (1 : Int32)), .val (.float (FP.i2f sc)), .val (.float f0), .val (.float f1), .val (.float f2), .val (.float f3), .val (.ref ob3), .val (.ref bq9), .unset, .unset, .unset, .unset, .unset] [(.ref bq9)])) rfl rfl (hb hby at_91) _) ?_
    show GG _ _ _ _ _ _ _ T9 (mkF m 92 #[.val (.int p0), .val (.int p1), .val (.int p2), .val (.int p3), .val (.int p4), .val (.int (1 : Int32)), .val (.float (FP.i2f sc)), .val (.float f0), .val (.float f1), .val (.float f2), .val (.float f3), .val (.ref ob3), .val (.ref bq9), .unset, .unset, .unset, .unset, .unset] [(.int (1 : Int32))])
    refine own_go (fun _ => XS.iload X9.here hx rfl (hb hby at_92) rfl) ?_
    show GG _ _ _ _ _ _ _ T9 (mkF m 94 #[.val (.int p0), .val (.int p1), .val (.int p2), .val (.int p3), .val (.int p4), .val (.int (1 : Int32)), .val (.float (FP.i2f sc)), .val (.float f0), .val (.float f1), .val (.float f2), .val (.float f3), .val (.ref ob3), .val (.ref bq9), .unset, .unset, .unset, .unset, .unset] [(.int (1 : Int32)), (.int (1 : Int32))])
    have hc94 : (1 : Int32) = (1 : Int32) := by decide
    refine own_go (fun _ => XS.icmpYes X9.here hx rfl (pc0 := 94) (pc' := 99) rfl (hb hby at_94) rfl (teq hc94).1 (by decide) (by decide)) ?_
    show GG _ _ _ _ _ _ _ T9 (mkF m 99 #[.val (.int p0), .val (.int p1), .val (.int p2), .val (.int p3), .val (.int p4), .val (.int (1 : Int32)), .val (.float (FP.i2f sc)), .val (.float f0), .val (.float f1), .val (.float f2), .val (.float f3), .val (.ref ob3), .val (.ref bq9), .unset, .unset, .unset, .unset, .unset] [])
    refine own_go (fun _ => XS.aload X9.here hx rfl (hb hby at_99) rfl rfl) ?_
    show GG _ _ _ _ _ _ _ T9 (mkF m 101 #[.val (.int p0), .val (.int p1), .val (.int p2), .val (.int p3), .val (.int p4), .val (.int (1 : Int32)), .val (.float (FP.i2f sc)), .val (.float f0), .val (.float f1), .val (.float f2), .val (.float f3), .val (.ref ob3), .val (.ref bq9), .unset, .unset, .unset, .unset, .unset] [(.ref ob3)])
    refine own_go (fun _ => own_len X9 hx hZ rfl V_ob3 (g := (mkF m 101 #[.val (.int p0), .val (.int p1), .val (.int p2), .val (.int p3), .val (.int p4), .val (.int (1 : Int32)), .val (.float (FP.i2f sc)), .val (.float f0), .val (.float f1), .val (.float f2), .val (.float f3), .val (.ref ob3), .val (.ref bq9), .unset, .unset, .unset, .unset, .unset] [(.ref ob3)])) rfl rfl (hb hby at_101) _) ?_
    show GG _ _ _ _ _ _ _ T9 (mkF m 102 #[.val (.int p0), .val (.int p1), .val (.int p2), .val (.int p3), .val (.int p4), .val (.int (1 : Int32)), .val (.float (FP.i2f sc)), .val (.float f0), .val (.float f1), .val (.float f2), .val (.float f3), .val (.ref ob3), .val (.ref bq9), .unset, .unset, .unset, .unset, .unset] [(.int (4 : Int32))])
    refine own_go (fun _ => XS.iconst X9.here hx rfl (hb hby at_102)) ?_
    show GG _ _ _ _ _ _ _ T9 (mkF m 103 #[.val (.int p0), .val (.int p1), .val (.int p2), .val (.int p3), .val (.int p4), .val (.int (1 : Int32)), .val (.float (FP.i2f sc)), .val (.float f0), .val (.float f1), .val (.float f2), .val (.float f3), .val (.ref ob3), .val (.ref bq9), .unset, .unset, .unset, .unset, .unset] [(.int (4 : Int32)), (.int (4 : Int32))])
    have hc103 : (4 : Int32) = (4 : Int32) := by decide
    refine own_go (fun _ => XS.icmpNo X9.here hx rfl (hb hby at_103) rfl (teq hc103).2) ?_
    show GG _ _ _ _ _ _ _ T9 (mkF m 106 #[.val (.int p0), .val (.int p1), .val (.int p2), .val (.int p3), .val (.int p4), .val (.int (1 : Int32)), .val (.float (FP.i2f sc)), .val (.float f0), .val (.float f1), .val (.float f2), .val (.float f3), .val (.ref ob3), .val (.ref bq9), .unset, .unset, .unset, .unset, .unset] [])
    refine own_go (fun _ => XS.aload X9.here hx rfl (hb hby at_106) rfl rfl) ?_
    show GG _ _ _ _ _ _ _ T9 (mkF m 108 #[.val (.int p0), .val (.int p1), .val (.int p2), .val (.int p3), .val (.int p4), .val (.int (1 : Int32)), .val (.float (FP.i2f sc)), .val (.float f0), .val (.float f1), .val (.float f2), .val (.float f3), .val (.ref ob3), .val (.ref bq9), .unset, .unset, .unset, .unset, .unset] [(.ref ob3)])
    refine own_go (fun _ => XS.iconst X9.here hx rfl (hb hby at_108)) ?_
    show GG _ _ _ _ _ _ _ T9 (mkF m 109 #[.val (.int p0), .val (.int p1), .val (.int p2), .val (.int p3), .val (.int p4), .val (.int (1 : Int32)), .val (.float (FP.i2f sc)), .val (.float f0), .val (.float f1), .val (.float f2), .val (.float f3), .val (.ref ob3), .val (.ref bq9), .unset, .unset, .unset, .unset, .unset] [(.int (0 : Int32)), (.ref ob3)])
    refine own_go (fun _ => own_faload X9 hx hZ rfl V_ob3 (j := (0 : Int32)) (v := (.float f0)) (by decide) rfl (g := (mkF m 109 #[.val (.int p0), .val (.int p1), .val (.int p2), .val (.int p3), .val (.int p4), .val (.int (1 : Int32)), .val (.float (FP.i2f sc)), .val (.float f0), .val (.float f1), .val (.float f2), .val (.float f3), .val (.ref ob3), .val (.ref bq9), .unset, .unset, .unset, .unset, .unset] [(.int (0 : Int32)), (.ref ob3)])) rfl rfl (hb hby at_109) _) ?_
    show GG _ _ _ _ _ _ _ T9 (mkF m 110 #[.val (.int p0), .val (.int p1), .val (.int p2), .val (.int p3), .val (.int p4), .val (.int (1 : Int32)), .val (.float (FP.i2f sc)), .val (.float f0), .val (.float f1), .val (.float f2), .val (.float f3), .val (.ref ob3), .val (.ref bq9), .unset, .unset, .unset, .unset, .unset] [(.float f0)])
    refine own_go (fun _ => XS.fload X9.here hx rfl (hb hby at_110) rfl) ?_
    show GG _ _ _ _ _ _ _ T9 (mkF m 112 #[.val (.int p0), .val (.int p1), .val (.int p2), .val (.int p3), .val (.int p4), .val (.int (1 : Int32)), .val (.float (FP.i2f sc)), .val (.float f0), .val (.float f1), .val (.float f2), .val (.float f3), .val (.ref ob3), .val (.ref bq9), .unset, .unset, .unset, .unset, .unset] [(.float f0), (.float f0)])
    refine own_go (fun _ => XS.fcmpS X9.here hx rfl (hb hby at_112) rfl (fcmpV_self nn0 _)) ?_
    show GG _ _ _ _ _ _ _ T9 (mkF m 113 #[.val (.int p0), .val (.int p1), .val (.int p2), .val (.int p3), .val (.int p4), .val (.int (1 : Int32)), .val (.float (FP.i2f sc)), .val (.float f0), .val (.float f1), .val (.float f2), .val (.float f3), .val (.ref ob3), .val (.ref bq9), .unset, .unset, .unset, .unset, .unset] [(.int (0 : Int32))])
    have hc113 : (0 : Int32) = (0 : Int32) := by decide
    refine own_go (fun _ => XS.ifNo X9.here hx rfl (hb hby at_113) rfl ((if0 _ _).trans (teq hc113).2)) ?_
    show GG _ _ _ _ _ _ _ T9 (mkF m 116 #[.val (.int p0), .val (.int p1), .val (.int p2), .val (.int p3), .val (.int p4), .val (.int (1 : Int32)), .val (.float (FP.i2f sc)), .val (.float f0), .val (.float f1), .val (.float f2), .val (.float f3), .val (.ref ob3), .val (.ref bq9), .unset, .unset, .unset, .unset, .unset] [])
    refine own_go (fun _ => XS.aload X9.here hx rfl (hb hby at_116) rfl rfl) ?_
    show GG _ _ _ _ _ _ _ T9 (mkF m 118 #[.val (.int p0), .val (.int p1), .val (.int p2), .val (.int p3), .val (.int p4), .val (.int (1 : Int32)), .val (.float (FP.i2f sc)), .val (.float f0), .val (.float f1), .val (.float f2), .val (.float f3), .val (.ref ob3), .val (.ref bq9), .unset, .unset, .unset, .unset, .unset] [(.ref ob3)])
    refine own_go (fun _ => XS.iconst X9.here hx rfl (hb hby at_118)) ?_
    show GG _ _ _ _ _ _ _ T9 (mkF m 119 #[.val (.int p0), .val (.int p1), .val (.int p2), .val (.int p3), .val (.int p4), .val (.int (1 : Int32)), .val (.float (FP.i2f sc)), .val (.float f0), .val (.float f1), .val (.float f2), .val (.float f3), .val (.ref ob3), .val (.ref bq9), .unset, .unset, .unset, .unset, .unset] [(.int (1 : Int32)), (.ref ob3)])
    refine own_go (fun _ => own_faload X9 hx hZ rfl V_ob3 (j := (1 : Int32)) (v := (.float f1)) (by decide) rfl (g := (mkF m 119 #[.val (.int p0), .val (.int p1), .val (.int p2), .val (.int p3), .val (.int p4), .val (.int (1 : Int32)), .val (.float (FP.i2f sc)), .val (.float f0), .val (.float f1), .val (.float f2), .val (.float f3), .val (.ref ob3), .val (.ref bq9), .unset, .unset, .unset, .unset, .unset] [(.int (1 : Int32)), (.ref ob3)])) rfl rfl (hb hby at_119) _) ?_
    show GG _ _ _ _ _ _ _ T9 (mkF m 120 #[.val (.int p0), .val (.int p1), .val (.int p2), .val (.int p3), .val (.int p4), .val (.int (1 : Int32)), .val (.float (FP.i2f sc)), .val (.float f0), .val (.float f1), .val (.float f2), .val (.float f3), .val (.ref ob3), .val (.ref bq9), .unset, .unset, .unset, .unset, .unset] [(.float f1)])
    refine own_go (fun _ => XS.fload X9.here hx rfl (hb hby at_120) rfl) ?_
    show GG _ _ _ _ _ _ _ T9 (mkF m 122 #[.val (.int p0), .val (.int p1), .val (.int p2), .val (.int p3), .val (.int p4), .val (.int (1 : Int32)), .val (.float (FP.i2f sc)), .val (.float f0), .val (.float f1), .val (.float f2), .val (.float f3), .val (.ref ob3), .val (.ref bq9), .unset, .unset, .unset, .unset, .unset] [(.float f1), (.float f1)])
    refine own_go (fun _ => XS.fcmpS X9.here hx rfl (hb hby at_122) rfl (fcmpV_self nn1 _)) ?_
    show GG _ _ _ _ _ _ _ T9 (mkF m 123 #[.val (.int p0), .val (.int p1), .val (.int p2), .val (.int p3), .val (.int p4), .val (.int (1 : Int32)), .val (.float (FP.i2f sc)), .val (.float f0), .val (.float f1), .val (.float f2), .val (.float f3), .val (.ref ob3), .val (.ref bq9), .unset, .unset, .unset, .unset, .unset] [(.int (0 : Int32))])
    have hc123 : (0 : Int32) = (0 : Int32) := by decide
    refine own_go (fun _ => XS.ifNo X9.here hx rfl (hb hby at_123) rfl ((if0 _ _).trans (teq hc123).2)) ?_
    show GG _ _ _ _ _ _ _ T9 (mkF m 126 #[.val (.int p0), .val (.int p1), .val (.int p2), .val (.int p3), .val (.int p4), .val (.int (1 : Int32)), .val (.float (FP.i2f sc)), .val (.float f0), .val (.float f1), .val (.float f2), .val (.float f3), .val (.ref ob3), .val (.ref bq9), .unset, .unset, .unset, .unset, .unset] [])
    refine own_go (fun _ => XS.aload X9.here hx rfl (hb hby at_126) rfl rfl) ?_
    show GG _ _ _ _ _ _ _ T9 (mkF m 128 #[.val (.int p0), .val (.int p1), .val (.int p2), .val (.int p3), .val (.int p4), .val (.int (1 : Int32)), .val (.float (FP.i2f sc)), .val (.float f0), .val (.float f1), .val (.float f2), .val (.float f3), .val (.ref ob3), .val (.ref bq9), .unset, .unset, .unset, .unset, .unset] [(.ref ob3)])
    refine own_go (fun _ => XS.iconst X9.here hx rfl (hb hby at_128)) ?_
    show GG _ _ _ _ _ _ _ T9 (mkF m 129 #[.val (.int p0), .val (.int p1), .val (.int p2), .val (.int p3), .val (.int p4), .val (.int (1 : Int32)), .val (.float (FP.i2f sc)), .val (.float f0), .val (.float f1), .val (.float f2), .val (.float f3), .val (.ref ob3), .val (.ref bq9), .unset, .unset, .unset, .unset, .unset] [(.int (2 : Int32)), (.ref ob3)])
    refine own_go (fun _ => own_faload X9 hx hZ rfl V_ob3 (j := (2 : Int32)) (v := (.float f2)) (by decide) rfl (g := (mkF m 129 #[.val (.int p0), .val (.int p1), .val (.int p2), .val (.int p3), .val (.int p4), .val (.int (1 : Int32)), .val (.float (FP.i2f sc)), .val (.float f0), .val (.float f1), .val (.float f2), .val (.float f3), .val (.ref ob3), .val (.ref bq9), .unset, .unset, .unset, .unset, .unset] [(.int (2 : Int32)), (.ref ob3)])) rfl rfl (hb hby at_129) _) ?_
    show GG _ _ _ _ _ _ _ T9 (mkF m 130 #[.val (.int p0), .val (.int p1), .val (.int p2), .val (.int p3), .val (.int p4), .val (.int (1 : Int32)), .val (.float (FP.i2f sc)), .val (.float f0), .val (.float f1), .val (.float f2), .val (.float f3), .val (.ref ob3), .val (.ref bq9), .unset, .unset, .unset, .unset, .unset] [(.float f2)])
    refine own_go (fun _ => XS.fload X9.here hx rfl (hb hby at_130) rfl) ?_
    show GG _ _ _ _ _ _ _ T9 (mkF m 132 #[.val (.int p0), .val (.int p1), .val (.int p2), .val (.int p3), .val (.int p4), .val (.int (1 : Int32)), .val (.float (FP.i2f sc)), .val (.float f0), .val (.float f1), .val (.float f2), .val (.float f3), .val (.ref ob3), .val (.ref bq9), .unset, .unset, .unset, .unset, .unset] [(.float f2), (.float f2)])
    refine own_go (fun _ => XS.fcmpS X9.here hx rfl (hb hby at_132) rfl (fcmpV_self nn2 _)) ?_
    show GG _ _ _ _ _ _ _ T9 (mkF m 133 #[.val (.int p0), .val (.int p1), .val (.int p2), .val (.int p3), .val (.int p4), .val (.int (1 : Int32)), .val (.float (FP.i2f sc)), .val (.float f0), .val (.float f1), .val (.float f2), .val (.float f3), .val (.ref ob3), .val (.ref bq9), .unset, .unset, .unset, .unset, .unset] [(.int (0 : Int32))])
    have hc133 : (0 : Int32) = (0 : Int32) := by decide
    refine own_go (fun _ => XS.ifNo X9.here hx rfl (hb hby at_133) rfl ((if0 _ _).trans (teq hc133).2)) ?_
    show GG _ _ _ _ _ _ _ T9 (mkF m 136 #[.val (.int p0), .val (.int p1), .val (.int p2), .val (.int p3), .val (.int p4), .val (.int (1 : Int32)), .val (.float (FP.i2f sc)), .val (.float f0), .val (.float f1), .val (.float f2), .val (.float f3), .val (.ref ob3), .val (.ref bq9), .unset, .unset, .unset, .unset, .unset] [])
    refine own_go (fun _ => XS.aload X9.here hx rfl (hb hby at_136) rfl rfl) ?_
    show GG _ _ _ _ _ _ _ T9 (mkF m 138 #[.val (.int p0), .val (.int p1), .val (.int p2), .val (.int p3), .val (.int p4), .val (.int (1 : Int32)), .val (.float (FP.i2f sc)), .val (.float f0), .val (.float f1), .val (.float f2), .val (.float f3), .val (.ref ob3), .val (.ref bq9), .unset, .unset, .unset, .unset, .unset] [(.ref ob3)])
    refine own_go (fun _ => XS.iconst X9.here hx rfl (hb hby at_138)) ?_
    show GG _ _ _ _ _ _ _ T9 (mkF m 139 #[.val (.int p0), .val (.int p1), .val (.int p2), .val (.int p3), .val (.int p4), .val (.int (1 : Int32)), .val (.float (FP.i2f sc)), .val (.float f0), .val (.float f1), .val (.float f2), .val (.float f3), .val (.ref ob3), .val (.ref bq9), .unset, .unset, .unset, .unset, .unset] [(.int (3 : Int32)), (.ref ob3)])
    refine own_go (fun _ => own_faload X9 hx hZ rfl V_ob3 (j := (3 : Int32)) (v := (.float f3)) (by decide) rfl (g := (mkF m 139 #[.val (.int p0), .val (.int p1), .val (.int p2), .val (.int p3), .val (.int p4), .val (.int (1 : Int32)), .val (.float (FP.i2f sc)), .val (.float f0), .val (.float f1), .val (.float f2), .val (.float f3), .val (.ref ob3), .val (.ref bq9), .unset, .unset, .unset, .unset, .unset] [(.int (3 : Int32)), (.ref ob3)])) rfl rfl (hb hby at_139) _) ?_
    show GG _ _ _ _ _ _ _ T9 (mkF m 140 #[.val (.int p0), .val (.int p1), .val (.int p2), .val (.int p3), .val (.int p4), .val (.int (1 : Int32)), .val (.float (FP.i2f sc)), .val (.float f0), .val (.float f1), .val (.float f2), .val (.float f3), .val (.ref ob3), .val (.ref bq9), .unset, .unset, .unset, .unset, .unset] [(.float f3)])
    refine own_go (fun _ => XS.fload X9.here hx rfl (hb hby at_140) rfl) ?_
    show GG _ _ _ _ _ _ _ T9 (mkF m 142 #[.val (.int p0), .val (.int p1), .val (.int p2), .val (.int p3), .val (.int p4), .val (.int (1 : Int32)), .val (.float (FP.i2f sc)), .val (.float f0), .val (.float f1), .val (.float f2), .val (.float f3), .val (.ref ob3), .val (.ref bq9), .unset, .unset, .unset, .unset, .unset] [(.float f3), (.float f3)])
    refine own_go (fun _ => XS.fcmpS X9.here hx rfl (hb hby at_142) rfl (fcmpV_self nn3 _)) ?_
    show GG _ _ _ _ _ _ _ T9 (mkF m 143 #[.val (.int p0), .val (.int p1), .val (.int p2), .val (.int p3), .val (.int p4), .val (.int (1 : Int32)), .val (.float (FP.i2f sc)), .val (.float f0), .val (.float f1), .val (.float f2), .val (.float f3), .val (.ref ob3), .val (.ref bq9), .unset, .unset, .unset, .unset, .unset] [(.int (0 : Int32))])
    have hc143 : (0 : Int32) = (0 : Int32) := by decide
    refine own_go (fun _ => XS.ifNo X9.here hx rfl (hb hby at_143) rfl ((if0 _ _).trans (teq hc143).2)) ?_
    show GG _ _ _ _ _ _ _ T9 (mkF m 146 #[.val (.int p0), .val (.int p1), .val (.int p2), .val (.int p3), .val (.int p4), .val (.int (1 : Int32)), .val (.float (FP.i2f sc)), .val (.float f0), .val (.float f1), .val (.float f2), .val (.float f3), .val (.ref ob3), .val (.ref bq9), .unset, .unset, .unset, .unset, .unset] [])
    refine own_go (fun _ => XS.iconst X9.here hx rfl (hb hby at_146)) ?_
    show GG _ _ _ _ _ _ _ T9 (mkF m 147 #[.val (.int p0), .val (.int p1), .val (.int p2), .val (.int p3), .val (.int p4), .val (.int (1 : Int32)), .val (.float (FP.i2f sc)), .val (.float f0), .val (.float f1), .val (.float f2), .val (.float f3), .val (.ref ob3), .val (.ref bq9), .unset, .unset, .unset, .unset, .unset] [(.int (1 : Int32))])
    refine own_go (fun _ => XS.goto X9.here hx rfl (pc0 := 147) (pc' := 151) rfl (hb hby at_147) (by decide) (by decide)) ?_
    show GG _ _ _ _ _ _ _ T9 (mkF m 151 #[.val (.int p0), .val (.int p1), .val (.int p2), .val (.int p3), .val (.int p4), .val (.int (1 : Int32)), .val (.float (FP.i2f sc)), .val (.float f0), .val (.float f1), .val (.float f2), .val (.float f3), .val (.ref ob3), .val (.ref bq9), .unset, .unset, .unset, .unset, .unset] [(.int (1 : Int32))])
    refine own_go (fun _ => XS.istore X9.here hx rfl (hb hby at_151) rfl (l' := #[.val (.int p0), .val (.int p1), .val (.int p2), .val (.int p3), .val (.int p4), .val (.int (1 : Int32)), .val (.float (FP.i2f sc)), .val (.float f0), .val (.float f1), .val (.float f2), .val (.float f3), .val (.ref ob3), .val (.ref bq9), .val (.int (1 : Int32)), .unset, .unset, .unset, .unset]) rfl) ?_
    show GG _ _ _ _ _ _ _ T9 (mkF m 153 #[.val (.int p0), .val (.int p1), .val (.int p2), .val (.int p3), .val (.int p4), .val (.int (1 : Int32)), .val (.float (FP.i2f sc)), .val (.float f0), .val (.float f1), .val (.float f2), .val (.float f3), .val (.ref ob3), .val (.ref bq9), .val (.int (1 : Int32)), .unset, .unset, .unset, .unset] [])
    refine own_go (fun _ => XS.iload X9.here hx rfl (hb hby at_153) rfl) ?_
    show GG _ _ _ _ _ _ _ T9 (mkF m 155 #[.val (.int p0), .val (.int p1), .val (.int p2), .val (.int p3), .val (.int p4), .val (.int (1 : Int32)), .val (.float (FP.i2f sc)), .val (.float f0), .val (.float f1), .val (.float f2), .val (.float f3), .val (.ref ob3), .val (.ref bq9), .val (.int (1 : Int32)), .unset, .unset, .unset, .unset] [(.int (1 : Int32))])
    refine own_go (fun _ => XS.iconst X9.here hx rfl (hb hby at_155)) ?_
    show GG _ _ _ _ _ _ _ T9 (mkF m 156 #[.val (.int p0), .val (.int p1), .val (.int p2), .val (.int p3), .val (.int p4), .val (.int (1 : Int32)), .val (.float (FP.i2f sc)), .val (.float f0), .val (.float f1), .val (.float f2), .val (.float f3), .val (.ref ob3), .val (.ref bq9), .val (.int (1 : Int32)), .unset, .unset, .unset, .unset] [(.int (1 : Int32)), (.int (1 : Int32))])
    have hc156 : ¬ ((1 : Int32) < (1 : Int32)) := by decide
    refine own_go (fun _ => XS.icmpNo X9.here hx rfl (hb hby at_156) rfl (flt hc156).1) ?_
    show GG _ _ _ _ _ _ _ T9 (mkF m 159 #[.val (.int p0), .val (.int p1), .val (.int p2), .val (.int p3), .val (.int p4), .val (.int (1 : Int32)), .val (.float (FP.i2f sc)), .val (.float f0), .val (.float f1), .val (.float f2), .val (.float f3), .val (.ref ob3), .val (.ref bq9), .val (.int (1 : Int32)), .unset, .unset, .unset, .unset] [])
    refine own_go (fun _ => XS.aload X9.here hx rfl (hb hby at_159) rfl rfl) ?_
    show GG _ _ _ _ _ _ _ T9 (mkF m 161 #[.val (.int p0), .val (.int p1), .val (.int p2), .val (.int p3), .val (.int p4), .val (.int (1 : Int32)), .val (.float (FP.i2f sc)), .val (.float f0), .val (.float f1), .val (.float f2), .val (.float f3), .val (.ref ob3), .val (.ref bq9), .val (.int (1 : Int32)), .unset, .unset, .unset, .unset] [(.ref bq9)])
    refine own_go (fun _ => XS.iconst X9.here hx rfl (hb hby at_161)) ?_
    show GG _ _ _ _ _ _ _ T9 (mkF m 162 #[.val (.int p0), .val (.int p1), .val (.int p2), .val (.int p3), .val (.int p4), .val (.int (1 : Int32)), .val (.float (FP.i2f sc)), .val (.float f0), .val (.float f1), .val (.float f2), .val (.float f3), .val (.ref ob3), .val (.ref bq9), .val (.int (1 : Int32)), .unset, .unset, .unset, .unset] [(.int (0 : Int32)), (.ref bq9)])
    refine own_go (fun _ => own_daload X9 hx hZ rfl Vq9 (j := (0 : Int32)) (v := (.double (FP.f2d f0))) (by decide) rfl (g := (mkF m 162 #[.val (.int p0), .val (.int p1), .val (.int p2), .val (.int p3), .val (.int p4), .val (.int (1 : Int32)), .val (.float (FP.i2f sc)), .val (.float f0), .val (.float f1), .val (.float f2), .val (.float f3), .val (.ref ob3), .val (.ref bq9), .val (.int (1 : Int32)), .unset, .unset, .unset, .unset] [(.int (0 : Int32)), (.ref bq9)])) rfl rfl (hb hby at_162) _) ?_
    show GG _ _ _ _ _ _ _ T9 (mkF m 163 #[.val (.int p0), .val (.int p1), .val (.int p2), .val (.int p3), .val (.int p4), .val (.int (1 : Int32)), .val (.float (FP.i2f sc)), .val (.float f0), .val (.float f1), .val (.float f2), .val (.float f3), .val (.ref ob3), .val (.ref bq9), .val (.int (1 : Int32)), .unset, .unset, .unset, .unset] [(.double (FP.f2d f0))])
    refine own_go (fun _ => XS.fload X9.here hx rfl (hb hby at_163) rfl) ?_
    show GG _ _ _ _ _ _ _ T9 (mkF m 165 #[.val (.int p0), .val (.int p1), .val (.int p2), .val (.int p3), .val (.int p4), .val (.int (1 : Int32)), .val (.float (FP.i2f sc)), .val (.float f0), .val (.float f1), .val (.float f2), .val (.float f3), .val (.ref ob3), .val (.ref bq9), .val (.int (1 : Int32)), .unset, .unset, .unset, .unset] [(.float f0), (.double (FP.f2d f0))])
    refine own_go (fun _ => XS.f2dS X9.here hx rfl (hb hby at_165) rfl (Jvm.Free.Fl.f2d_out nn0) rfl) ?_
    show GG _ _ _ _ _ _ _ T9 (mkF m 166 #[.val (.int p0), .val (.int p1), .val (.int p2), .val (.int p3), .val (.int p4), .val (.int (1 : Int32)), .val (.float (FP.i2f sc)), .val (.float f0), .val (.float f1), .val (.float f2), .val (.float f3), .val (.ref ob3), .val (.ref bq9), .val (.int (1 : Int32)), .unset, .unset, .unset, .unset] [(.double (FP.f2d f0)), (.double (FP.f2d f0))])
    refine own_go (fun _ => XS.dcmpS X9.here hx rfl (hb hby at_166) rfl (dcmpV_self (Jvm.Free.Fl.f2d_out nn0) _)) ?_
    show GG _ _ _ _ _ _ _ T9 (mkF m 167 #[.val (.int p0), .val (.int p1), .val (.int p2), .val (.int p3), .val (.int p4), .val (.int (1 : Int32)), .val (.float (FP.i2f sc)), .val (.float f0), .val (.float f1), .val (.float f2), .val (.float f3), .val (.ref ob3), .val (.ref bq9), .val (.int (1 : Int32)), .unset, .unset, .unset, .unset] [(.int (0 : Int32))])
    have hc167 : (0 : Int32) = (0 : Int32) := by decide
    refine own_go (fun _ => XS.ifNo X9.here hx rfl (hb hby at_167) rfl ((if0 _ _).trans (teq hc167).2)) ?_
    show GG _ _ _ _ _ _ _ T9 (mkF m 170 #[.val (.int p0), .val (.int p1), .val (.int p2), .val (.int p3), .val (.int p4), .val (.int (1 : Int32)), .val (.float (FP.i2f sc)), .val (.float f0), .val (.float f1), .val (.float f2), .val (.float f3), .val (.ref ob3), .val (.ref bq9), .val (.int (1 : Int32)), .unset, .unset, .unset, .unset] [])
    refine own_go (fun _ => XS.iconst X9.here hx rfl (hb hby at_170)) ?_
    show GG _ _ _ _ _ _ _ T9 (mkF m 171 #[.val (.int p0), .val (.int p1), .val (.int p2), .val (.int p3), .val (.int p4), .val (.int (1 : Int32)), .val (.float (FP.i2f sc)), .val (.float f0), .val (.float f1), .val (.float f2), .val (.float f3), .val (.ref ob3), .val (.ref bq9), .val (.int (1 : Int32)), .unset, .unset, .unset, .unset] [(.int (1 : Int32))])
    refine own_go (fun _ => XS.goto X9.here hx rfl (pc0 := 171) (pc' := 175) rfl (hb hby at_171) (by decide) (by decide)) ?_
    show GG _ _ _ _ _ _ _ T9 (mkF m 175 #[.val (.int p0), .val (.int p1), .val (.int p2), .val (.int p3), .val (.int p4), .val (.int (1 : Int32)), .val (.float (FP.i2f sc)), .val (.float f0), .val (.float f1), .val (.float f2), .val (.float f3), .val (.ref ob3), .val (.ref bq9), .val (.int (1 : Int32)), .unset, .unset, .unset, .unset] [(.int (1 : Int32))])
    refine own_go (fun _ => XS.istore X9.here hx rfl (hb hby at_175) rfl (l' := #[.val (.int p0), .val (.int p1), .val (.int p2), .val (.int p3), .val (.int p4), .val (.int (1 : Int32)), .val (.float (FP.i2f sc)), .val (.float f0), .val (.float f1), .val (.float f2), .val (.float f3), .val (.ref ob3), .val (.ref bq9), .val (.int (1 : Int32)), .val (.int (1 : Int32)), .unset, .unset, .unset]) rfl) ?_
    show GG _ _ _ _ _ _ _ T9 (mkF m 177 #[.val (.int p0), .val (.int p1), .val (.int p2), .val (.int p3), .val (.int p4), .val (.int (1 : Int32)), .val (.float (FP.i2f sc)), .val (.float f0), .val (.float f1), .val (.float f2), .val (.float f3), .val (.ref ob3), .val (.ref bq9), .val (.int (1 : Int32)), .val (.int (1 : Int32)), .unset, .unset, .unset] [])
    refine own_go (fun _ => XS.iload X9.here hx rfl (hb hby at_177) rfl) ?_
    show GG _ _ _ _ _ _ _ T9 (mkF m 179 #[.val (.int p0), .val (.int p1), .val (.int p2), .val (.int p3), .val (.int p4), .val (.int (1 : Int32)), .val (.float (FP.i2f sc)), .val (.float f0), .val (.float f1), .val (.float f2), .val (.float f3), .val (.ref ob3), .val (.ref bq9), .val (.int (1 : Int32)), .val (.int (1 : Int32)), .unset, .unset, .unset] [(.int (1 : Int32))])
    refine own_go (fun _ => XS.iconst X9.here hx rfl (hb hby at_179)) ?_
    show GG _ _ _ _ _ _ _ T9 (mkF m 180 #[.val (.int p0), .val (.int p1), .val (.int p2), .val (.int p3), .val (.int p4), .val (.int (1 : Int32)), .val (.float (FP.i2f sc)), .val (.float f0), .val (.float f1), .val (.float f2), .val (.float f3), .val (.ref ob3), .val (.ref bq9), .val (.int (1 : Int32)), .val (.int (1 : Int32)), .unset, .unset, .unset] [(.int (2 : Int32)), (.int (1 : Int32))])
    have hc180 : (1 : Int32) < (2 : Int32) := by decide
    refine own_go (fun _ => XS.icmpYes X9.here hx rfl (pc0 := 180) (pc' := 194) rfl (hb hby at_180) rfl (tlt hc180).1 (by decide) (by decide)) ?_
    show GG _ _ _ _ _ _ _ T9 (mkF m 194 #[.val (.int p0), .val (.int p1), .val (.int p2), .val (.int p3), .val (.int p4), .val (.int (1 : Int32)), .val (.float (FP.i2f sc)), .val (.float f0), .val (.float f1), .val (.float f2), .val (.float f3), .val (.ref ob3), .val (.ref bq9), .val (.int (1 : Int32)), .val (.int (1 : Int32)), .unset, .unset, .unset] [])
    refine own_go (fun _ => XS.iconst X9.here hx rfl (hb hby at_194)) ?_
    show GG _ _ _ _ _ _ _ T9 (mkF m 195 #[.val (.int p0), .val (.int p1), .val (.int p2), .val (.int p3), .val (.int p4), .val (.int (1 : Int32)), .val (.float (FP.i2f sc)), .val (.float f0), .val (.float f1), .val (.float f2), .val (.float f3), .val (.ref ob3), .val (.ref bq9), .val (.int (1 : Int32)), .val (.int (1 : Int32)), .unset, .unset, .unset] [(.int (1 : Int32))])
    refine own_go (fun _ => XS.goto X9.here hx rfl (pc0 := 195) (pc' := 199) rfl (hb hby at_195) (by decide) (by decide)) ?_
    show GG _ _ _ _ _ _ _ T9 (mkF m 199 #[.val (.int p0), .val (.int p1), .val (.int p2), .val (.int p3), .val (.int p4), .val (.int (1 : Int32)), .val (.float (FP.i2f sc)), .val (.float f0), .val (.float f1), .val (.float f2), .val (.float f3), .val (.ref ob3), .val (.ref bq9), .val (.int (1 : Int32)), .val (.int (1 : Int32)), .unset, .unset, .unset] [(.int (1 : Int32))])
    refine own_go (fun _ => XS.istore X9.here hx rfl (hb hby at_199) rfl (l' := #[.val (.int p0), .val (.int p1), .val (.int p2), .val (.int p3), .val (.int p4), .val (.int (1 : Int32)), .val (.float (FP.i2f sc)), .val (.float f0), .val (.float f1), .val (.float f2), .val (.float f3), .val (.ref ob3), .val (.ref bq9), .val (.int (1 : Int32)), .val (.int (1 : Int32)), .val (.int (1 : Int32)), .unset, .unset]) rfl) ?_
    show GG _ _ _ _ _ _ _ T9 (mkF m 201 #[.val (.int p0), .val (.int p1), .val (.int p2), .val (.int p3), .val (.int p4), .val (.int (1 : Int32)), .val (.float (FP.i2f sc)), .val (.float f0), .val (.float f1), .val (.float f2), .val (.float f3), .val (.ref ob3), .val (.ref bq9), .val (.int (1 : Int32)), .val (.int (1 : Int32)), .val (.int (1 : Int32)), .unset, .unset] [])
    refine own_go (fun _ => XS.iload X9.here hx rfl (hb hby at_201) rfl) ?_
    show GG _ _ _ _ _ _ _ T9 (mkF m 203 #[.val (.int p0), .val (.int p1), .val (.int p2), .val (.int p3), .val (.int p4), .val (.int (1 : Int32)), .val (.float (FP.i2f sc)), .val (.float f0), .val (.float f1), .val (.float f2), .val (.float f3), .val (.ref ob3), .val (.ref bq9), .val (.int (1 : Int32)), .val (.int (1 : Int32)), .val (.int (1 : Int32)), .unset, .unset] [(.int (1 : Int32))])
    refine own_go (fun _ => XS.iconst X9.here hx rfl (hb hby at_203)) ?_
    show GG _ _ _ _ _ _ _ T9 (mkF m 204 #[.val (.int p0), .val (.int p1), .val (.int p2), .val (.int p3), .val (.int p4), .val (.int (1 : Int32)), .val (.float (FP.i2f sc)), .val (.float f0), .val (.float f1), .val (.float f2), .val (.float f3), .val (.ref ob3), .val (.ref bq9), .val (.int (1 : Int32)), .val (.int (1 : Int32)), .val (.int (1 : Int32)), .unset, .unset] [(.int (3 : Int32)), (.int (1 : Int32))])
    have hc204 : (1 : Int32) < (3 : Int32) := by decide
    refine own_go (fun _ => XS.icmpYes X9.here hx rfl (pc0 := 204) (pc' := 218) rfl (hb hby at_204) rfl (tlt hc204).1 (by decide) (by decide)) ?_
    show GG _ _ _ _ _ _ _ T9 (mkF m 218 #[.val (.int p0), .val (.int p1), .val (.int p2), .val (.int p3), .val (.int p4), .val (.int (1 : Int32)), .val (.float (FP.i2f sc)), .val (.float f0), .val (.float f1), .val (.float f2), .val (.float f3), .val (.ref ob3), .val (.ref bq9), .val (.int (1 : Int32)), .val (.int (1 : Int32)), .val (.int (1 : Int32)), .unset, .unset] [])
    refine own_go (fun _ => XS.iconst X9.here hx rfl (hb hby at_218)) ?_
    show GG _ _ _ _ _ _ _ T9 (mkF m 219 #[.val (.int p0), .val (.int p1), .val (.int p2), .val (.int p3), .val (.int p4), .val (.int (1 : Int32)), .val (.float (FP.i2f sc)), .val (.float f0), .val (.float f1), .val (.float f2), .val (.float f3), .val (.ref ob3), .val (.ref bq9), .val (.int (1 : Int32)), .val (.int (1 : Int32)), .val (.int (1 : Int32)), .unset, .unset] [(.int (1 : Int32))])
    refine own_go (fun _ => XS.goto X9.here hx rfl (pc0 := 219) (pc' := 223) rfl (hb hby at_219) (by decide) (by decide)) ?_
    show GG _ _ _ _ _ _ _ T9 (mkF m 223 #[.val (.int p0), .val (.int p1), .val (.int p2), .val (.int p3), .val (.int p4), .val (.int (1 : Int32)), .val (.float (FP.i2f sc)), .val (.float f0), .val (.float f1), .val (.float f2), .val (.float f3), .val (.ref ob3), .val (.ref bq9), .val (.int (1 : Int32)), .val (.int (1 : Int32)), .val (.int (1 : Int32)), .unset, .unset] [(.int (1 : Int32))])
    refine own_go (fun _ => XS.istore X9.here hx rfl (hb hby at_223) rfl (l' := #[.val (.int p0), .val (.int p1), .val (.int p2), .val (.int p3), .val (.int p4), .val (.int (1 : Int32)), .val (.float (FP.i2f sc)), .val (.float f0), .val (.float f1), .val (.float f2), .val (.float f3), .val (.ref ob3), .val (.ref bq9), .val (.int (1 : Int32)), .val (.int (1 : Int32)), .val (.int (1 : Int32)), .val (.int (1 : Int32)), .unset]) rfl) ?_
    show GG _ _ _ _ _ _ _ T9 (mkF m 225 #[.val (.int p0), .val (.int p1), .val (.int p2), .val (.int p3), .val (.int p4), .val (.int (1 : Int32)), .val (.float (FP.i2f sc)), .val (.float f0), .val (.float f1), .val (.float f2), .val (.float f3), .val (.ref ob3), .val (.ref bq9), .val (.int (1 : Int32)), .val (.int (1 : Int32)), .val (.int (1 : Int32)), .val (.int (1 : Int32)), .unset] [])
    refine own_go (fun _ => XS.iload X9.here hx rfl (hb hby at_225) rfl) ?_
    show GG _ _ _ _ _ _ _ T9 (mkF m 227 #[.val (.int p0), .val (.int p1), .val (.int p2), .val (.int p3), .val (.int p4), .val (.int (1 : Int32)), .val (.float (FP.i2f sc)), .val (.float f0), .val (.float f1), .val (.float f2), .val (.float f3), .val (.ref ob3), .val (.ref bq9), .val (.int (1 : Int32)), .val (.int (1 : Int32)), .val (.int (1 : Int32)), .val (.int (1 : Int32)), .unset] [(.int (1 : Int32))])
    refine own_go (fun _ => XS.iconst X9.here hx rfl (hb hby at_227)) ?_
    show GG _ _ _ _ _ _ _ T9 (mkF m 228 #[.val (.int p0), .val (.int p1), .val (.int p2), .val (.int p3), .val (.int p4), .val (.int (1 : Int32)), .val (.float (FP.i2f sc)), .val (.float f0), .val (.float f1), .val (.float f2), .val (.float f3), .val (.ref ob3), .val (.ref bq9), .val (.int (1 : Int32)), .val (.int (1 : Int32)), .val (.int (1 : Int32)), .val (.int (1 : Int32)), .unset] [(.int (4 : Int32)), (.int (1 : Int32))])
    have hc228 : (1 : Int32) < (4 : Int32) := by decide
    refine own_go (fun _ => XS.icmpYes X9.here hx rfl (pc0 := 228) (pc' := 242) rfl (hb hby at_228) rfl (tlt hc228).1 (by decide) (by decide)) ?_
    show GG _ _ _ _ _ _ _ T9 (mkF m 242 #[.val (.int p0), .val (.int p1), .val (.int p2), .val (.int p3), .val (.int p4), .val (.int (1 : Int32)), .val (.float (FP.i2f sc)), .val (.float f0), .val (.float f1), .val (.float f2), .val (.float f3), .val (.ref ob3), .val (.ref bq9), .val (.int (1 : Int32)), .val (.int (1 : Int32)), .val (.int (1 : Int32)), .val (.int (1 : Int32)), .unset] [])
    refine own_go (fun _ => XS.iconst X9.here hx rfl (hb hby at_242)) ?_
    show GG _ _ _ _ _ _ _ T9 (mkF m 243 #[.val (.int p0), .val (.int p1), .val (.int p2), .val (.int p3), .val (.int p4), .val (.int (1 : Int32)), .val (.float (FP.i2f sc)), .val (.float f0), .val (.float f1), .val (.float f2), .val (.float f3), .val (.ref ob3), .val (.ref bq9), .val (.int (1 : Int32)), .val (.int (1 : Int32)), .val (.int (1 : Int32)), .val (.int (1 : Int32)), .unset] [(.int (1 : Int32))])
    refine own_go (fun _ => XS.goto X9.here hx rfl (pc0 := 243) (pc' := 247) rfl (hb hby at_243) (by decide) (by decide)) ?_
    show GG _ _ _ _ _ _ _ T9 (mkF m 247 #[.val (.int p0), .val (.int p1), .val (.int p2), .val (.int p3), .val (.int p4), .val (.int (1 : Int32)), .val (.float (FP.i2f sc)), .val (.float f0), .val (.float f1), .val (.float f2), .val (.float f3), .val (.ref ob3), .val (.ref bq9), .val (.int (1 : Int32)), .val (.int (1 : Int32)), .val (.int (1 : Int32)), .val (.int (1 : Int32)), .unset] [(.int (1 : Int32))])
    refine own_go (fun _ => XS.istore X9.here hx rfl (hb hby at_247) rfl (l' := #[.val (.int p0), .val (.int p1), .val (.int p2), .val (.int p3), .val (.int p4), .val (.int (1 : Int32)), .val (.float (FP.i2f sc)), .val (.float f0), .val (.float f1), .val (.float f2), .val (.float f3), .val (.ref ob3), .val (.ref bq9), .val (.int (1 : Int32)), .val (.int (1 : Int32)), .val (.int (1 : Int32)), .val (.int (1 : Int32)), .val (.int (1 : Int32))]) rfl) ?_
    show GG _ _ _ _ _ _ _ T9 (mkF m 249 #[.val (.int p0), .val (.int p1), .val (.int p2), .val (.int p3), .val (.int p4), .val (.int (1 : Int32)), .val (.float (FP.i2f sc)), .val (.float f0), .val (.float f1), .val (.float f2), .val (.float f3), .val (.ref ob3), .val (.ref bq9), .val (.int (1 : Int32)), .val (.int (1 : Int32)), .val (.int (1 : Int32)), .val (.int (1 : Int32)), .val (.int (1 : Int32))] [])
    refine own_go (fun _ => XS.iload X9.here hx rfl (hb hby at_249) rfl) ?_
    show GG _ _ _ _ _ _ _ T9 (mkF m 251 #[.val (.int p0), .val (.int p1), .val (.int p2), .val (.int p3), .val (.int p4), .val (.int (1 : Int32)), .val (.float (FP.i2f sc)), .val (.float f0), .val (.float f1), .val (.float f2), .val (.float f3), .val (.ref ob3), .val (.ref bq9), .val (.int (1 : Int32)), .val (.int (1 : Int32)), .val (.int (1 : Int32)), .val (.int (1 : Int32)), .val (.int (1 : Int32))] [(.int (1 : Int32))])
    have hc251 : ¬ ((1 : Int32) = (0 : Int32)) := by decide
    refine own_go (fun _ => XS.ifNo X9.here hx rfl (hb hby at_251) rfl ((if0 _ _).trans (feq hc251).1)) ?_
    show GG _ _ _ _ _ _ _ T9 (mkF m 254 #[.val (.int p0), .val (.int p1), .val (.int p2), .val (.int p3), .val (.int p4), .val (.int (1 : Int32)), .val (.float (FP.i2f sc)), .val (.float f0), .val (.float f1), .val (.float f2), .val (.float f3), .val (.ref ob3), .val (.ref bq9), .val (.int (1 : Int32)), .val (.int (1 : Int32)), .val (.int (1 : Int32)), .val (.int (1 : Int32)), .val (.int (1 : Int32))] [])
    refine own_go (fun _ => XS.iload X9.here hx rfl (hb hby at_254) rfl) ?_
    show GG _ _ _ _ _ _ _ T9 (mkF m 256 #[.val (.int p0), .val (.int p1), .val (.int p2), .val (.int p3), .val (.int p4), .val (.int (1 : Int32)), .val (.float (FP.i2f sc)), .val (.float f0), .val (.float f1), .val (.float f2), .val (.float f3), .val (.ref ob3), .val (.ref bq9), .val (.int (1 : Int32)), .val (.int (1 : Int32)), .val (.int (1 : Int32)), .val (.int (1 : Int32)), .val (.int (1 : Int32))] [(.int (1 : Int32))])
    have hc256 : ¬ ((1 : Int32) = (0 : Int32)) := by decide
    refine own_go (fun _ => XS.ifNo X9.here hx rfl (hb hby at_256) rfl ((if0 _ _).trans (feq hc256).1)) ?_
    show GG _ _ _ _ _ _ _ T9 (mkF m 259 #[.val (.int p0), .val (.int p1), .val (.int p2), .val (.int p3), .val (.int p4), .val (.int (1 : Int32)), .val (.float (FP.i2f sc)), .val (.float f0), .val (.float f1), .val (.float f2), .val (.float f3), .val (.ref ob3), .val (.ref bq9), .val (.int (1 : Int32)), .val (.int (1 : Int32)), .val (.int (1 : Int32)), .val (.int (1 : Int32)), .val (.int (1 : Int32))] [])
    refine own_go (fun _ => XS.iload X9.here hx rfl (hb hby at_259) rfl) ?_
    show GG _ _ _ _ _ _ _ T9 (mkF m 261 #[.val (.int p0), .val (.int p1), .val (.int p2), .val (.int p3), .val (.int p4), .val (.int (1 : Int32)), .val (.float (FP.i2f sc)), .val (.float f0), .val (.float f1), .val (.float f2), .val (.float f3), .val (.ref ob3), .val (.ref bq9), .val (.int (1 : Int32)), .val (.int (1 : Int32)), .val (.int (1 : Int32)), .val (.int (1 : Int32)), .val (.int (1 : Int32))] [(.int (1 : Int32))])
    have hc261 : ¬ ((1 : Int32) = (0 : Int32)) := by decide
    refine own_go (fun _ => XS.ifNo X9.here hx rfl (hb hby at_261) rfl ((if0 _ _).trans (feq hc261).1)) ?_
    show GG _ _ _ _ _ _ _ T9 (mkF m 264 #[.val (.int p0), .val (.int p1), .val (.int p2), .val (.int p3), .val (.int p4), .val (.int (1 : Int32)), .val (.float (FP.i2f sc)), .val (.float f0), .val (.float f1), .val (.float f2), .val (.float f3), .val (.ref ob3), .val (.ref bq9), .val (.int (1 : Int32)), .val (.int (1 : Int32)), .val (.int (1 : Int32)), .val (.int (1 : Int32)), .val (.int (1 : Int32))] [])
    refine own_go (fun _ => XS.iload X9.here hx rfl (hb hby at_264) rfl) ?_
    show GG _ _ _ _ _ _ _ T9 (mkF m 266 #[.val (.int p0), .val (.int p1), .val (.int p2), .val (.int p3), .val (.int p4), .val (.int (1 : Int32)), .val (.float (FP.i2f sc)), .val (.float f0), .val (.float f1), .val (.float f2), .val (.float f3), .val (.ref ob3), .val (.ref bq9), .val (.int (1 : Int32)), .val (.int (1 : Int32)), .val (.int (1 : Int32)), .val (.int (1 : Int32)), .val (.int (1 : Int32))] [(.int (1 : Int32))])
    have hc266 : ¬ ((1 : Int32) = (0 : Int32)) := by decide
    refine own_go (fun _ => XS.ifNo X9.here hx rfl (hb hby at_266) rfl ((if0 _ _).trans (feq hc266).1)) ?_
    show GG _ _ _ _ _ _ _ T9 (mkF m 269 #[.val (.int p0), .val (.int p1), .val (.int p2), .val (.int p3), .val (.int p4), .val (.int (1 : Int32)), .val (.float (FP.i2f sc)), .val (.float f0), .val (.float f1), .val (.float f2), .val (.float f3), .val (.ref ob3), .val (.ref bq9), .val (.int (1 : Int32)), .val (.int (1 : Int32)), .val (.int (1 : Int32)), .val (.int (1 : Int32)), .val (.int (1 : Int32))] [])
    refine own_go (fun _ => XS.iload X9.here hx rfl (hb hby at_269) rfl) ?_
    show GG _ _ _ _ _ _ _ T9 (mkF m 271 #[.val (.int p0), .val (.int p1), .val (.int p2), .val (.int p3), .val (.int p4), .val (.int (1 : Int32)), .val (.float (FP.i2f sc)), .val (.float f0), .val (.float f1), .val (.float f2), .val (.float f3), .val (.ref ob3), .val (.ref bq9), .val (.int (1 : Int32)), .val (.int (1 : Int32)), .val (.int (1 : Int32)), .val (.int (1 : Int32)), .val (.int (1 : Int32))] [(.int (1 : Int32))])
    have hc271 : ¬ ((1 : Int32) = (0 : Int32)) := by decide
    refine own_go (fun _ => XS.ifNo X9.here hx rfl (hb hby at_271) rfl ((if0 _ _).trans (feq hc271).1)) ?_
    show GG _ _ _ _ _ _ _ T9 (mkF m 274 #[.val (.int p0), .val (.int p1), .val (.int p2), .val (.int p3), .val (.int p4), .val (.int (1 : Int32)), .val (.float (FP.i2f sc)), .val (.float f0), .val (.float f1), .val (.float f2), .val (.float f3), .val (.ref ob3), .val (.ref bq9), .val (.int (1 : Int32)), .val (.int (1 : Int32)), .val (.int (1 : Int32)), .val (.int (1 : Int32)), .val (.int (1 : Int32))] [])
    refine own_go (fun _ => XS.iconst X9.here hx rfl (hb hby at_274)) ?_
    show GG _ _ _ _ _ _ _ T9 (mkF m 275 #[.val (.int p0), .val (.int p1), .val (.int p2), .val (.int p3), .val (.int p4), .val (.int (1 : Int32)), .val (.float (FP.i2f sc)), .val (.float f0), .val (.float f1), .val (.float f2), .val (.float f3), .val (.ref ob3), .val (.ref bq9), .val (.int (1 : Int32)), .val (.int (1 : Int32)), .val (.int (1 : Int32)), .val (.int (1 : Int32)), .val (.int (1 : Int32))] [(.int (1 : Int32))])
    refine own_go (fun _ => XS.goto X9.here hx rfl (pc0 := 275) (pc' := 279) rfl (hb hby at_275) (by decide) (by decide)) ?_
    show GG _ _ _ _ _ _ _ T9 (mkF m 279 #[.val (.int p0), .val (.int p1), .val (.int p2), .val (.int p3), .val (.int p4), .val (.int (1 : Int32)), .val (.float (FP.i2f sc)), .val (.float f0), .val (.float f1), .val (.float f2), .val (.float f3), .val (.ref ob3), .val (.ref bq9), .val (.int (1 : Int32)), .val (.int (1 : Int32)), .val (.int (1 : Int32)), .val (.int (1 : Int32)), .val (.int (1 : Int32))] [(.int (1 : Int32))])
    refine own_ret X9 hx hlk (t := .boolean) (w := (.int (1 : Int32))) Bd.returns rfl (Or.inl ⟨rfl, by simp, _, rfl⟩) (hb hby at_279) (by decide) (by decide) ?_
    show Q0 Z p0 p1 p2 p3 p4 h0 n0 (some (.int (1 : Int32))) T9.heap _
    exact ⟨rfl, N9⟩
  · skip
    subst hsel
    show GG _ _ _ _ _ _ _ T7 (mkF m 75 #[.val (.int p0), .val (.int p1), .val (.int p2), .val (.int p3), .val (.int p4), .val (.int (2 : Int32)), .val (.float (FP.i2f sc)), .val (.float f0), .val (.float f1), .val (.float f2), .val (.float f3), .val (.ref ob3), .unset, .unset, .unset, .unset, .unset, .unset] [])
    refine own_go (fun _ => XS.aload X7.here hx rfl (hb hby at_75) rfl rfl) ?_
    show GG _ _ _ _ _ _ _ T7 (mkF m 77 #[.val (.int p0), .val (.int p1), .val (.int p2), .val (.int p3), .val (.int p4), .val (.int (2 : Int32)), .val (.float (FP.i2f sc)), .val (.float f0), .val (.float f1), .val (.float f2), .val (.float f3), .val (.ref ob3), .unset, .unset, .unset, .unset, .unset, .unset] [(.ref ob3)])
    refine own_go (fun _ => XS.iload X7.here hx rfl (hb hby at_77) rfl) ?_
    show GG _ _ _ _ _ _ _ T7 (mkF m 79 #[.val (.int p0), .val (.int p1), .val (.int p2), .val (.int p3), .val (.int p4), .val (.int (2 : Int32)), .val (.float (FP.i2f sc)), .val (.float f0), .val (.float f1), .val (.float f2), .val (.float f3), .val (.ref ob3), .unset, .unset, .unset, .unset, .unset, .unset] [(.int (2 : Int32)), (.ref ob3)])
    refine own_callS X7 hx hZ (y := (⟨"com/example/hadamint/hadamint/Queries", "widened", "([FI)[D"⟩ : MethodName)) 0 hown (hw _ (List.mem_of_getElem? (i := 2) rfl)) (hw _ (List.mem_of_getElem? (i := 3) rfl)) (hw _ (List.mem_of_getElem? (i := 4) rfl)) (hw _ (List.mem_of_getElem? (i := 5) rfl)) (by decide) (argsL := [(.ref ob3), (.int (2 : Int32))]) (rest := []) (rm1_2 l Z a0 hw [] ob3 f0 f1 f2 f3 h7 n0 (Nat.le_trans Z0 K0.1) V_ob3 nn0 nn1 nn2 nn3) (by decide) (by decide) (by decide) (by decide) (g := (mkF m 79 #[.val (.int p0), .val (.int p1), .val (.int p2), .val (.int p3), .val (.int p4), .val (.int (2 : Int32)), .val (.float (FP.i2f sc)), .val (.float f0), .val (.float f1), .val (.float f2), .val (.float f3), .val (.ref ob3), .unset, .unset, .unset, .unset, .unset, .unset] [(.int (2 : Int32)), (.ref ob3)])) rfl (by rw [hml]; rfl) (lenOf pd___FI__D_474 rfl) rfl (by show 2 * 0 + _ ≤ _; exact Nat.le_of_eq rfl) (hb hby at_79) e7 ?_
    rintro v10 T10 L10 X10 ⟨bq10, rfl, N10q, szq10, Kq10, Vq10⟩
    have N10 := Fr.app N7 N10q
    have K0 := K0.trans Kq10 all0
    have V_ob3 := V_ob3.keep Kq10 nin0
    have E_ob3 := E_ob3.keep Kq10
    show GG _ _ _ _ _ _ _ T10 (mkF m 82 #[.val (.int p0), .val (.int p1), .val (.int p2), .val (.int p3), .val (.int p4), .val (.int (2 : Int32)), .val (.float (FP.i2f sc)), .val (.float f0), .val (.float f1), .val (.float f2), .val (.float f3), .val (.ref ob3), .unset, .unset, .unset, .unset, .unset, .unset] [(.ref bq10)])
    refine own_go (fun _ => XS.astore X10.here hx rfl (hb hby at_82) rfl rfl (l' := #[.val (.int p0), .val (.int p1), .val (.int p2), .val (.int p3), .val (.int p4), .val (.int (2 : Int32)), .val (.float (FP.i2f sc)), .val (.float f0), .val (.float f1), .val (.float f2), .val (.float f3), .val (.ref ob3), .val (.ref bq10), .unset, .unset, .unset, .unset, .unset]) rfl) ?_
    show GG _ _ _ _ _ _ _ T10 (mkF m 84 #[.val (.int p0), .val (.int p1), .val (.int p2), .val (.int p3), .val (.int p4), .val (.int (2 : Int32)), .val (.float (FP.i2f sc)), .val (.float f0), .val (.float f1), .val (.float f2), .val (.float f3), .val (.ref ob3), .val (.ref bq10), .unset, .unset, .unset, .unset, .unset] [])
    refine own_go (fun _ => XS.aload X10.here hx rfl (hb hby at_84) rfl rfl) ?_
    show GG _ _ _ _ _ _ _ T10 (mkF m 86 #[.val (.int p0), .val (.int p1), .val (.int p2), .val (.int p3), .val (.int p4), .val (.int (2 : Int32)), .val (.float (FP.i2f sc)), .val (.float f0), .val (.float f1), .val (.float f2), .val (.float f3), .val (.ref ob3), .val (.ref bq10), .unset, .unset, .unset, .unset, .unset] [(.ref bq10)])
    refine own_go (fun _ => XS.ifnullNo X10.here hx rfl (hb hby at_86) rfl) ?_
    show GG _ _ _ _ _ _ _ T10 (mkF m 89 #[.val (.int p0), .val (.int p1), .val (.int p2), .val (.int p3), .val (.int p4), .val (.int (2 : Int32)), .val (.float (FP.i2f sc)), .val (.float f0), .val (.float f1), .val (.float f2), .val (.float f3), .val (.ref ob3), .val (.ref bq10), .unset, .unset, .unset, .unset, .unset] [])
    refine own_go (fun _ => XS.aload X10.here hx rfl (hb hby at_89) rfl rfl) ?_
    show GG _ _ _ _ _ _ _ T10 (mkF m 91 #[.val (.int p0), .val (.int p1), .val (.int p2), .val (.int p3), .val (.int p4), .val (.int (2 : Int32)), .val (.float (FP.i2f sc)), .val (.float f0), .val (.float f1), .val (.float f2), .val (.float f3), .val (.ref ob3), .val (.ref bq10), .unset, .unset, .unset, .unset, .unset] [(.ref bq10)])
    refine own_go (fun _ => own_len X10 hx hZ rfl Vq10 (g := (mkF m 91 #[.val (.int p0), .val (.int p1), .val (.int p2), .val (.int p3), .val (.int p4), .val (.int (2 : Int32)), .val (.float (FP.i2f sc)), .val (.float f0), .val (.float f1), .val (.float f2), .val (.float f3), .val (.ref ob3), .val (.ref bq10), .unset, .unset, .unset, .unset, .unset] [(.ref bq10)])) rfl rfl (hb hby at_91) _) ?_
    show GG _ _ _ _ _ _ _ T10 (mkF m 92 #[.val (.int p0), .val (.int p1), .val (.int p2), .val (.int p3), .val (.int p4), .val (.int (2 : Int32)), .val (.float (FP.i2f sc)), .val (.float f0), .val (.float f1), .val (.float f2), .val (.float f3), .val (.ref ob3), .val (.ref bq10), .unset, .unset, .unset, .unset, .unset] [(.int (2 : Int32))])
    refine own_go (fun _ => XS.iload X10.here hx rfl (hb hby at_92) rfl) ?_
    show GG _ _ _ _ _ _ _ T10 (mkF m 94 #[.val (.int p0), .val (.int p1), .val (.int p2), .val (.int p3), .val (.int p4), .val (.int (2 : Int32)), .val (.float (FP.i2f sc)), .val (.float f0), .val (.float f1), .val (.float f2), .val (.float f3), .val (.ref ob3), .val (.ref bq10), .unset, .unset, .unset, .unset, .unset] [(.int (2 : Int32)), (.int (2 : Int32))])
    have hc94 : (2 : Int32) = (2 : Int32) := by decide
    refine own_go (fun _ => XS.icmpYes X10.here hx rfl (pc0 := 94) (pc' := 99) rfl (hb hby at_94) rfl (teq hc94).1 (by decide) (by decide)) ?_
    show GG _ _ _ _ _ _ _ T10 (mkF m 99 #[.val (.int p0), .val (.int p1), .val (.int p2), .val (.int p3), .val (.int p4), .val (.int (2 : Int32)), .val (.float (FP.i2f sc)), .val (.float f0), .val (.float f1), .val (.float f2), .val (.float f3), .val (.ref ob3), .val (.ref bq10), .unset, .unset, .unset, .unset, .unset] [])
    refine own_go (fun _ => XS.aload X10.here hx rfl (hb hby at_99) rfl rfl) ?_
    show GG _ _ _ _ _ _ _ T10 (mkF m 101 #[.val (.int p0), .val (.int p1), .val (.int p2), .val (.int p3), .val (.int p4), .val (.int (2 : Int32)), .val (.float (FP.i2f sc)), .val (.float f0), .val (.float f1), .val (.float f2), .val (.float f3), .val (.ref ob3), .val (.ref bq10), .unset, .unset, .unset, .unset, .unset] [(.ref ob3)])
    refine own_go (fun _ => own_len X10 hx hZ rfl V_ob3 (g := (mkF m 101 #[.val (.int p0), .val (.int p1), .val (.int p2), .val (.int p3), .val (.int p4), .val (.int (2 : Int32)), .val (.float (FP.i2f sc)), .val (.float f0), .val (.float f1), .val (.float f2), .val (.float f3), .val (.ref ob3), .val (.ref bq10), .unset, .unset, .unset, .unset, .unset] [(.ref ob3)])) rfl rfl (hb hby at_101) _) ?_
    show GG _ _ _ _ _ _ _ T10 (mkF m 102 #[.val (.int p0), .val (.int p1), .val (.int p2), .val (.int p3), .val (.int p4), .val (.int (2 : Int32)), .val (.float (FP.i2f sc)), .val (.float f0), .val (.float f1), .val (.float f2), .val (.float f3), .val (.ref ob3), .val (.ref bq10), .unset, .unset, .unset, .unset, .unset] [(.int (4 : Int32))])
    refine own_go (fun _ => XS.iconst X10.here hx rfl (hb hby at_102)) ?_
    show GG _ _ _ _ _ _ _ T10 (mkF m 103 #[.val (.int p0), .val (.int p1), .val (.int p2), .val (.int p3), .val (.int p4), .val (.int (2 : Int32)), .val (.float (FP.i2f sc)), .val (.float f0), .val (.float f1), .val (.float f2), .val (.float f3), .val (.ref ob3), .val (.ref bq10), .unset, .unset, .unset, .unset, .unset] [(.int (4 : Int32)), (.int (4 : Int32))])
    have hc103 : (4 : Int32) = (4 : Int32) := by decide
    refine own_go (fun _ => XS.icmpNo X10.here hx rfl (hb hby at_103) rfl (teq hc103).2) ?_
    show GG _ _ _ _ _ _ _ T10 (mkF m 106 #[.val (.int p0), .val (.int p1), .val (.int p2), .val (.int p3), .val (.int p4), .val (.int (2 : Int32)), .val (.float (FP.i2f sc)), .val (.float f0), .val (.float f1), .val (.float f2), .val (.float f3), .val (.ref ob3), .val (.ref bq10), .unset, .unset, .unset, .unset, .unset] [])
    refine own_go (fun _ => XS.aload X10.here hx rfl (hb hby at_106) rfl rfl) ?_
    show GG _ _ _ _ _ _ _ T10 (mkF m 108 #[.val (.int p0), .val (.int p1), .val (.int p2), .val (.int p3), .val (.int p4), .val (.int (2 : Int32)), .val (.float (FP.i2f sc)), .val (.float f0), .val (.float f1), .val (.float f2), .val (.float f3), .val (.ref ob3), .val (.ref bq10), .unset, .unset, .unset, .unset, .unset] [(.ref ob3)])
    refine own_go (fun _ => XS.iconst X10.here hx rfl (hb hby at_108)) ?_
    show GG _ _ _ _ _ _ _ T10 (mkF m 109 #[.val (.int p0), .val (.int p1), .val (.int p2), .val (.int p3), .val (.int p4), .val (.int (2 : Int32)), .val (.float (FP.i2f sc)), .val (.float f0), .val (.float f1), .val (.float f2), .val (.float f3), .val (.ref ob3), .val (.ref bq10), .unset, .unset, .unset, .unset, .unset] [(.int (0 : Int32)), (.ref ob3)])
    refine own_go (fun _ => own_faload X10 hx hZ rfl V_ob3 (j := (0 : Int32)) (v := (.float f0)) (by decide) rfl (g := (mkF m 109 #[.val (.int p0), .val (.int p1), .val (.int p2), .val (.int p3), .val (.int p4), .val (.int (2 : Int32)), .val (.float (FP.i2f sc)), .val (.float f0), .val (.float f1), .val (.float f2), .val (.float f3), .val (.ref ob3), .val (.ref bq10), .unset, .unset, .unset, .unset, .unset] [(.int (0 : Int32)), (.ref ob3)])) rfl rfl (hb hby at_109) _) ?_
    show GG _ _ _ _ _ _ _ T10 (mkF m 110 #[.val (.int p0), .val (.int p1), .val (.int p2), .val (.int p3), .val (.int p4), .val (.int (2 : Int32)), .val (.float (FP.i2f sc)), .val (.float f0), .val (.float f1), .val (.float f2), .val (.float f3), .val (.ref ob3), .val (.ref bq10), .unset, .unset, .unset, .unset, .unset] [(.float f0)])
    refine own_go (fun _ => XS.fload X10.here hx rfl (hb hby at_110) rfl) ?_
    show GG _ _ _ _ _ _ _ T10 (mkF m 112 #[.val (.int p0), .val (.int p1), .val (.int p2), .val (.int p3), .val (.int p4), .val (.int (2 : Int32)), .val (.float (FP.i2f sc)), .val (.float f0), .val (.float f1), .val (.float f2), .val (.float f3), .val (.ref ob3), .val (.ref bq10), .unset, .unset, .unset, .unset, .unset] [(.float f0), (.float f0)])
    refine own_go (fun _ => XS.fcmpS X10.here hx rfl (hb hby at_112) rfl (fcmpV_self nn0 _)) ?_
    show GG _ _ _ _ _ _ _ T10 (mkF m 113 #[.val (.int p0), .val (.int p1), .val (.int p2), .val (.int p3), .val (.int p4), .val (.int (2 : Int32)), .val (.float (FP.i2f sc)), .val (.float f0), .val (.float f1), .val (.float f2), .val (.float f3), .val (.ref ob3), .val (.ref bq10), .unset, .unset, .unset, .unset, .unset] [(.int (0 : Int32))])
    have hc113 : (0 : Int32) = (0 : Int32) := by decide
    refine own_go (fun _ => XS.ifNo X10.here hx rfl (hb hby at_113) rfl ((if0 _ _).trans (teq hc113).2)) ?_
    show GG _ _ _ _ _ _ _ T10 (mkF m 116 #[.val (.int p0), .val (.int p1), .val (.int p2), .val (.int p3), .val (.int p4), .val (.int (2 : Int32)), .val (.float (FP.i2f sc)), .val (.float f0), .val (.float f1), .val (.float f2), .val (.float f3), .val (.ref ob3), .val (.ref bq10), .unset, .unset, .unset, .unset, .unset] [])
    refine own_go (fun _ => XS.aload X10.here hx rfl (hb hby at_116) rfl rfl) ?_
    show GG _ _ _ _ _ _ _ T10 (mkF m 118 #[.val (.int p0), .val (.int p1), .val (.int p2), .val (.int p3), .val (.int p4), .val (.int (2 : Int32)), .val (.float (FP.i2f sc)), .val (.float f0), .val (.float f1), .val (.float f2), .val (.float f3), .val (.ref ob3), .val (.ref bq10), .unset, .unset, .unset, .unset, .unset] [(.ref ob3)])
    refine own_go (fun _ => XS.iconst X10.here hx rfl (hb hby at_118)) ?_
    show GG _ _ _ _ _ _ _ T10 (mkF m 119 #[.val (.int p0), .val (.int p1), .val (.int p2), .val (.int p3), .val (.int p4), .val (.int (2 : Int32)), .val (.float (FP.i2f sc)), .val (.float f0), .val (.float f1), .val (.float f2), .val (.float f3), .val (.ref ob3), .val (.ref bq10), .unset, .unset, .unset, .unset, .unset] [(.int (1 : Int32)), (.ref ob3)])
    refine own_go (fun _ => own_faload X10 hx hZ rfl V_ob3 (j := (1 : Int32)) (v := (.float f1)) (by decide) rfl (g := (mkF m 119 #[.val (.int p0), .val (.int p1), .val (.int p2), .val (.int p3), .val (.int p4), .val (.int (2 : Int32)), .val (.float (FP.i2f sc)), .val (.float f0), .val (.float f1), .val (.float f2), .val (.float f3), .val (.ref ob3), .val (.ref bq10), .unset, .unset, .unset, .unset, .unset] [(.int (1 : Int32)), (.ref ob3)])) rfl rfl (hb hby at_119) _) ?_
    show GG _ _ _ _ _ _ _ T10 (mkF m 120 #[.val (.int p0), .val (.int p1), .val (.int p2), .val (.int p3), .val (.int p4), .val (.int (2 : Int32)), .val (.float (FP.i2f sc)), .val (.float f0), .val (.float f1), .val (.float f2), .val (.float f3), .val (.ref ob3), .val (.ref bq10), .unset, .unset, .unset, .unset, .unset] [(.float f1)])
    refine own_go (fun _ => XS.fload X10.here hx rfl (hb hby at_120) rfl) ?_
    show GG _ _ _ _ _ _ _ T10 (mkF m 122 #[.val (.int p0), .val (.int p1), .val (.int p2), .val (.int p3), .val (.int p4), .val (.int (2 : Int32)), .val (.float (FP.i2f sc)), .val (.float f0), .val (.float f1), .val (.float f2), .val (.float f3), .val (.ref ob3), .val (.ref bq10), .unset, .unset, .unset, .unset, .unset] [(.float f1), (.float f1)])
    refine own_go (fun _ => XS.fcmpS X10.here hx rfl (hb hby at_122) rfl (fcmpV_self nn1 _)) ?_
    show GG _ _ _ _ _ _ _ T10 (mkF m 123 #[.val (.int p0), .val (.int p1), .val (.int p2), .val (.int p3), .val (.int p4), .val (.int (2 : Int32)), .val (.float (FP.i2f sc)), .val (.float f0), .val (.float f1), .val (.float f2), .val (.float f3), .val (.ref ob3), .val (.ref bq10), .unset, .unset, .unset, .unset, .unset] [(.int (0 : Int32))])
    have hc123 : (0 : Int32) = (0 : Int32) := by decide
    refine own_go (fun _ => XS.ifNo X10.here hx rfl (hb hby at_123) rfl ((if0 _ _).trans (teq hc123).2)) ?_
    show GG _ _ _ _ _ _ _ T10 (mkF m 126 #[.val (.int p0), .val (.int p1), .val (.int p2), .val (.int p3), .val (.int p4), .val (.int (2 : Int32)), .val (.float (FP.i2f sc)), .val (.float f0), .val (.float f1), .val (.float f2), .val (.float f3), .val (.ref ob3), .val (.ref bq10), .unset, .unset, .unset, .unset, .unset] [])
    refine own_go (fun _ => XS.aload X10.here hx rfl (hb hby at_126) rfl rfl) ?_
    show GG _ _ _ _ _ _ _ T10 (mkF m 128 #[.val (.int p0), .val (.int p1), .val (.int p2), .val (.int p3), .val (.int p4), .val (.int (2 : Int32)), .val (.float (FP.i2f sc)), .val (.float f0), .val (.float f1), .val (.float f2), .val (.float f3), .val (.ref ob3), .val (.ref bq10), .unset, .unset, .unset, .unset, .unset] [(.ref ob3)])
    refine own_go (fun _ => XS.iconst X10.here hx rfl (hb hby at_128)) ?_
    show GG _ _ _ _ _ _ _ T10 (mkF m 129 #[.val (.int p0), .val (.int p1), .val (.int p2), .val (.int p3), .val (.int p4), .val (.int (2 : Int32)), .val (.float (FP.i2f sc)), .val (.float f0), .val (.float f1), .val (.float f2), .val (.float f3), .val (.ref ob3), .val (.ref bq10), .unset, .unset, .unset, .unset, .unset] [(.int (2 : Int32)), (.ref ob3)])
    refine own_go (fun _ => own_faload X10 hx hZ rfl V_ob3 (j := (2 : Int32)) (v := (.float f2)) (by decide) rfl (g := (mkF m 129 #[.val (.int p0), .val (.int p1), .val (.int p2), .val (.int p3), .val (.int p4), .val (.int (2 : Int32)), .val (.float (FP.i2f sc)), .val (.float f0), .val (.float f1), .val (.float f2), .val (.float f3), .val (.ref ob3), .val (.ref bq10), .unset, .unset, .unset, .unset, .unset] [(.int (2 : Int32)), (.ref ob3)])) rfl rfl (hb hby at_129) _) ?_
    show GG _ _ _ _ _ _ _ T10 (mkF m 130 #[.val (.int p0), .val (.int p1), .val (.int p2), .val (.int p3), .val (.int p4), .val (.int (2 : Int32)), .val (.float (FP.i2f sc)), .val (.float f0), .val (.float f1), .val (.float f2), .val (.float f3), .val (.ref ob3), .val (.ref bq10), .unset, .unset, .unset, .unset, .unset] [(.float f2)])
    refine own_go (fun _ => XS.fload X10.here hx rfl (hb hby at_130) rfl) ?_
    show GG _ _ _ _ _ _ _ T10 (mkF m 132 #[.val (.int p0), .val (.int p1), .val (.int p2), .val (.int p3), .val (.int p4), .val (.int (2 : Int32)), .val (.float (FP.i2f sc)), .val (.float f0), .val (.float f1), .val (.float f2), .val (.float f3), .val (.ref ob3), .val (.ref bq10), .unset, .unset, .unset, .unset, .unset] [(.float f2), (.float f2)])
    refine own_go (fun _ => XS.fcmpS X10.here hx rfl (hb hby at_132) rfl (fcmpV_self nn2 _)) ?_
    show GG _ _ _ _ _ _ _ T10 (mkF m 133 #[.val (.int p0), .val (.int p1), .val (.int p2), .val (.int p3), .val (.int p4), .val (.int (2 : Int32)), .val (.float (FP.i2f sc)), .val (.float f0), .val (.float f1), .val (.float f2), .val (.float f3), .val (.ref ob3), .val (.ref bq10), .unset, .unset, .unset, .unset, .unset] [(.int (0 : Int32))])
    have hc133 : (0 : Int32) = (0 : Int32) := by decide
    refine own_go (fun _ => XS.ifNo X10.here hx rfl (hb hby at_133) rfl ((if0 _ _).trans (teq hc133).2)) ?_
    show GG _ _ _ _ _ _ _ T10 (mkF m 136 #[.val (.int p0), .val (.int p1), .val (.int p2), .val (.int p3), .val (.int p4), .val (.int (2 : Int32)), .val (.float (FP.i2f sc)), .val (.float f0), .val (.float f1), .val (.float f2), .val (.float f3), .val (.ref ob3), .val (.ref bq10), .unset, .unset, .unset, .unset, .unset] [])
    refine own_go (fun _ => XS.aload X10.here hx rfl (hb hby at_136) rfl rfl) ?_
    show GG _ _ _ _ _ _ _ T10 (mkF m 138 #[.val (.int p0), .val (.int p1), .val (.int p2), .val (.int p3), .val (.int p4), .val (.int (2 : Int32)), .val (.float (FP.i2f sc)), .val (.float f0), .val (.float f1), .val (.float f2), .val (.float f3), .val (.ref ob3), .val (.ref bq10), .unset, .unset, .unset, .unset, .unset] [(.ref ob3)])
    refine own_go (fun _ => XS.iconst X10.here hx rfl (hb hby at_138)) ?_
    show GG _ _ _ _ _ _ _ T10 (mkF m 139 #[.val (.int p0), .val (.int p1), .val (.int p2), .val (.int p3), .val (.int p4), .val (.int (2 : Int32)), .val (.float (FP.i2f sc)), .val (.float f0), .val (.float f1), .val (.float f2), .val (.float f3), .val (.ref ob3), .val (.ref bq10), .unset, .unset, .unset, .unset, .unset] [(.int (3 : Int32)), (.ref ob3)])
    refine own_go (fun _ => own_faload X10 hx hZ rfl V_ob3 (j := (3 : Int32)) (v := (.float f3)) (by decide) rfl (g := (mkF m 139 #[.val (.int p0), .val (.int p1), .val (.int p2), .val (.int p3), .val (.int p4), .val (.int (2 : Int32)), .val (.float (FP.i2f sc)), .val (.float f0), .val (.float f1), .val (.float f2), .val (.float f3), .val (.ref ob3), .val (.ref bq10), .unset, .unset, .unset, .unset, .unset] [(.int (3 : Int32)), (.ref ob3)])) rfl rfl (hb hby at_139) _) ?_
    show GG _ _ _ _ _ _ _ T10 (mkF m 140 #[.val (.int p0), .val (.int p1), .val (.int p2), .val (.int p3), .val (.int p4), .val (.int (2 : Int32)), .val (.float (FP.i2f sc)), .val (.float f0), .val (.float f1), .val (.float f2), .val (.float f3), .val (.ref ob3), .val (.ref bq10), .unset, .unset, .unset, .unset, .unset] [(.float f3)])
    refine own_go (fun _ => XS.fload X10.here hx rfl (hb hby at_140) rfl) ?_
    show GG _ _ _ _ _ _ _ T10 (mkF m 142 #[.val (.int p0), .val (.int p1), .val (.int p2), .val (.int p3), .val (.int p4), .val (.int (2 : Int32)), .val (.float (FP.i2f sc)), .val (.float f0), .val (.float f1), .val (.float f2), .val (.float f3), .val (.ref ob3), .val (.ref bq10), .unset, .unset, .unset, .unset, .unset] [(.float f3), (.float f3)])
    refine own_go (fun _ => XS.fcmpS X10.here hx rfl (hb hby at_142) rfl (fcmpV_self nn3 _)) ?_
    show GG _ _ _ _ _ _ _ T10 (mkF m 143 #[.val (.int p0), .val (.int p1), .val (.int p2), .val (.int p3), .val (.int p4), .val (.int (2 : Int32)), .val (.float (FP.i2f sc)), .val (.float f0), .val (.float f1), .val (.float f2), .val (.float f3), .val (.ref ob3), .val (.ref bq10), .unset, .unset, .unset, .unset, .unset] [(.int (0 : Int32))])
    have hc143 : (0 : Int32) = (0 : Int32) := by decide
    refine own_go (fun _ => XS.ifNo X10.here hx rfl (hb hby at_143) rfl ((if0 _ _).trans (teq hc143).2)) ?_
    show GG _ _ _ _ _ _ _ T10 (mkF m 146 #[.val (.int p0), .val (.int p1), .val (.int p2), .val (.int p3), .val (.int p4), .val (.int (2 : Int32)), .val (.float (FP.i2f sc)), .val (.float f0), .val (.float f1), .val (.float f2), .val (.float f3), .val (.ref ob3), .val (.ref bq10), .unset, .unset, .unset, .unset, .unset] [])
    refine own_go (fun _ => XS.iconst X10.here hx rfl (hb hby at_146)) ?_
    show GG _ _ _ _ _ _ _ T10 (mkF m 147 #[.val (.int p0), .val (.int p1), .val (.int p2), .val (.int p3), .val (.int p4), .val (.int (2 : Int32)), .val (.float (FP.i2f sc)), .val (.float f0), .val (.float f1), .val (.float f2), .val (.float f3), .val (.ref ob3), .val (.ref bq10), .unset, .unset, .unset, .unset, .unset] [(.int (1 : Int32))])
    refine own_go (fun _ => XS.goto X10.here hx rfl (pc0 := 147) (pc' := 151) rfl (hb hby at_147) (by decide) (by decide)) ?_
    show GG _ _ _ _ _ _ _ T10 (mkF m 151 #[.val (.int p0), .val (.int p1), .val (.int p2), .val (.int p3), .val (.int p4), .val (.int (2 : Int32)), .val (.float (FP.i2f sc)), .val (.float f0), .val (.float f1), .val (.float f2), .val (.float f3), .val (.ref ob3), .val (.ref bq10), .unset, .unset, .unset, .unset, .unset] [(.int (1 : Int32))])
    refine own_go (fun _ => XS.istore X10.here hx rfl (hb hby at_151) rfl (l' := #[.val (.int p0), .val (.int p1), .val (.int p2), .val (.int p3), .val (.int p4), .val (.int (2 : Int32)), .val (.float (FP.i2f sc)), .val (.float f0), .val (.float f1), .val (.float f2), .val (.float f3), .val (.ref ob3), .val (.ref bq10), .val (.int (1 : Int32)), .unset, .unset, .unset, .unset]) rfl) ?_
    show GG _ _ _ _ _ _ _ T10 (mkF m 153 #[.val (.int p0), .val (.int p1), .val (.int p2), .val (.int p3), .val (.int p4), .val (.int (2 : Int32)), .val (.float (FP.i2f sc)), .val (.float f0), .val (.float f1), .val (.float f2), .val (.float f3), .val (.ref ob3), .val (.ref bq10), .val (.int (1 : Int32)), .unset, .unset, .unset, .unset] [])
    refine own_go (fun _ => XS.iload X10.here hx rfl (hb hby at_153) rfl) ?_
    show GG _ _ _ _ _ _ _ T10 (mkF m 155 #[.val (.int p0), .val (.int p1), .val (.int p2), .val (.int p3), .val (.int p4), .val (.int (2 : Int32)), .val (.float (FP.i2f sc)), .val (.float f0), .val (.float f1), .val (.float f2), .val (.float f3), .val (.ref ob3), .val (.ref bq10), .val (.int (1 : Int32)), .unset, .unset, .unset, .unset] [(.int (2 : Int32))])
    refine own_go (fun _ => XS.iconst X10.here hx rfl (hb hby at_155)) ?_
    show GG _ _ _ _ _ _ _ T10 (mkF m 156 #[.val (.int p0), .val (.int p1), .val (.int p2), .val (.int p3), .val (.int p4), .val (.int (2 : Int32)), .val (.float (FP.i2f sc)), .val (.float f0), .val (.float f1), .val (.float f2), .val (.float f3), .val (.ref ob3), .val (.ref bq10), .val (.int (1 : Int32)), .unset, .unset, .unset, .unset] [(.int (1 : Int32)), (.int (2 : Int32))])
    have hc156 : ¬ ((2 : Int32) < (1 : Int32)) := by decide
    refine own_go (fun _ => XS.icmpNo X10.here hx rfl (hb hby at_156) rfl (flt hc156).1) ?_
    show GG _ _ _ _ _ _ _ T10 (mkF m 159 #[.val (.int p0), .val (.int p1), .val (.int p2), .val (.int p3), .val (.int p4), .val (.int (2 : Int32)), .val (.float (FP.i2f sc)), .val (.float f0), .val (.float f1), .val (.float f2), .val (.float f3), .val (.ref ob3), .val (.ref bq10), .val (.int (1 : Int32)), .unset, .unset, .unset, .unset] [])
    refine own_go (fun _ => XS.aload X10.here hx rfl (hb hby at_159) rfl rfl) ?_
    show GG _ _ _ _ _ _ _ T10 (mkF m 161 #[.val (.int p0), .val (.int p1), .val (.int p2), .val (.int p3), .val (.int p4), .val (.int (2 : Int32)), .val (.float (FP.i2f sc)), .val (.float f0), .val (.float f1), .val (.float f2), .val (.float f3), .val (.ref ob3), .val (.ref bq10), .val (.int (1 : Int32)), .unset, .unset, .unset, .unset] [(.ref bq10)])
    refine own_go (fun _ => XS.iconst X10.here hx rfl (hb hby at_161)) ?_
    show GG _ _ _ _ _ _ _ T10 (mkF m 162 #[.val (.int p0), .val (.int p1), .val (.int p2), .val (.int p3), .val (.int p4), .val (.int (2 : Int32)), .val (.float (FP.i2f sc)), .val (.float f0), .val (.float f1), .val (.float f2), .val (.float f3), .val (.ref ob3), .val (.ref bq10), .val (.int (1 : Int32)), .unset, .unset, .unset, .unset] [(.int (0 : Int32)), (.ref bq10)])
    refine own_go (fun _ => own_daload X10 hx hZ rfl Vq10 (j := (0 : Int32)) (v := (.double (FP.f2d f0))) (by decide) rfl (g := (mkF m 162 #[.val (.int p0), .val (.int p1), .val (.int p2), .val (.int p3), .val (.int p4), .val (.int (2 : Int32)), .val (.float (FP.i2f sc)), .val (.float f0), .val (.float f1), .val (.float f2), .val (.float f3), .val (.ref ob3), .val (.ref bq10), .val (.int (1 : Int32)), .unset, .unset, .unset, .unset] [(.int (0 : Int32)), (.ref bq10)])) rfl rfl (hb hby at_162) _) ?_
    show GG _ _ _ _ _ _ _ T10 (mkF m 163 #[.val (.int p0), .val (.int p1), .val (.int p2), .val (.int p3), .val (.int p4), .val (.int (2 : Int32)), .val (.float (FP.i2f sc)), .val (.float f0), .val (.float f1), .val (.float f2), .val (.float f3), .val (.ref ob3), .val (.ref bq10), .val (.int (1 : Int32)), .unset, .unset, .unset, .unset] [(.double (FP.f2d f0))])
    refine own_go (fun _ => XS.fload X10.here hx rfl (hb hby at_163) rfl) ?_
    show GG _ _ _ _ _ _ _ T10 (mkF m 165 #[.val (.int p0), .val (.int p1), .val (.int p2), .val (.int p3), .val (.int p4), .val (.int (2 : Int32)), .val (.float (FP.i2f sc)), .val (.float f0), .val (.float f1), .val (.float f2), .val (.float f3), .val (.ref ob3), .val (.ref bq10), .val (.int (1 : Int32)), .unset, .unset, .unset, .unset] [(.float f0), (.double (FP.f2d f0))])
    refine own_go (fun _ => XS.f2dS X10.here hx rfl (hb hby at_165) rfl (Jvm.Free.Fl.f2d_out nn0) rfl) ?_
    show GG _ _ _ _ _ _ _ T10 (mkF m 166 #[.val (.int p0), .val (.int p1), .val (.int p2), .val (.int p3), .val (.int p4), .val (.int (2 : Int32)), .val (.float (FP.i2f sc)), .val (.float f0), .val (.float f1), .val (.float f2), .val (.float f3), .val (.ref ob3), .val (.ref bq10), .val (.int (1 : Int32)), .unset, .unset, .unset, .unset] [(.double (FP.f2d f0)), (.double (FP.f2d f0))])
    refine own_go (fun _ => XS.dcmpS X10.here hx rfl (hb hby at_166) rfl (dcmpV_self (Jvm.Free.Fl.f2d_out nn0) _)) ?_
    show GG _ _ _ _ _ _ _ T10 (mkF m 167 #[.val (.int p0), .val (.int p1), .val (.int p2), .val (.int p3), .val (.int p4), .val (.int (2 : Int32)), .val (.float (FP.i2f sc)), .val (.float f0), .val (.float f1), .val (.float f2), .val (.float f3), .val (.ref ob3), .val (.ref bq10), .val (.int (1 : Int32)), .unset, .unset, .unset, .unset] [(.int (0 : Int32))])
    have hc167 : (0 : Int32) = (0 : Int32) := by decide
    refine own_go (fun _ => XS.ifNo X10.here hx rfl (hb hby at_167) rfl ((if0 _ _).trans (teq hc167).2)) ?_
    show GG _ _ _ _ _ _ _ T10 (mkF m 170 #[.val (.int p0), .val (.int p1), .val (.int p2), .val (.int p3), .val (.int p4), .val (.int (2 : Int32)), .val (.float (FP.i2f sc)), .val (.float f0), .val (.float f1), .val (.float f2), .val (.float f3), .val (.ref ob3), .val (.ref bq10), .val (.int (1 : Int32)), .unset, .unset, .unset, .unset] [])
    refine own_go (fun _ => XS.iconst X10.here hx rfl (hb hby at_170)) ?_
    show GG _ _ _ _ _ _ _ T10 (mkF m 171 #[.val (.int p0), .val (.int p1), .val (.int p2), .val (.int p3), .val (.int p4), .val (.int (2 : Int32)), .val (.float (FP.i2f sc)), .val (.float f0), .val (.float f1), .val (.float f2), .val (.float f3), .val (.ref ob3), .val (.ref bq10), .val (.int (1 : Int32)), .unset, .unset, .unset, .unset] [(.int (1 : Int32))])
    refine own_go (fun _ => XS.goto X10.here hx rfl (pc0 := 171) (pc' := 175) rfl (hb hby at_171) (by decide) (by decide)) ?_
    show GG _ _ _ _ _ _ _ T10 (mkF m 175 #[.val (.int p0), .val (.int p1), .val (.int p2), .val (.int p3), .val (.int p4), .val (.int (2 : Int32)), .val (.float (FP.i2f sc)), .val (.float f0), .val (.float f1), .val (.float f2), .val (.float f3), .val (.ref ob3), .val (.ref bq10), .val (.int (1 : Int32)), .unset, .unset, .unset, .unset] [(.int (1 : Int32))])
    refine own_go (fun _ => XS.istore X10.here hx rfl (hb hby at_175) rfl (l' := #[.val (.int p0), .val (.int p1), .val (.int p2), .val (.int p3), .val (.int p4), .val (.int (2 : Int32)), .val (.float (FP.i2f sc)), .val (.float f0), .val (.float f1), .val (.float f2), .val (.float f3), .val (.ref ob3), .val (.ref bq10), .val (.int (1 : Int32)), .val (.int (1 : Int32)), .unset, .unset, .unset]) rfl) ?_
    show GG _ _ _ _ _ _ _ T10 (mkF m 177 #[.val (.int p0), .val (.int p1), .val (.int p2), .val (.int p3), .val (.int p4), .val (.int (2 : Int32)), .val (.float (FP.i2f sc)), .val (.float f0), .val (.float f1), .val (.float f2), .val (.float f3), .val (.ref ob3), .val (.ref bq10), .val (.int (1 : Int32)), .val (.int (1 : Int32)), .unset, .unset, .unset] [])
    refine own_go (fun _ => XS.iload X10.here hx rfl (hb hby at_177) rfl) ?_
    show GG _ _ _ _ _ _ _ T10 (mkF m 179 #[.val (.int p0), .val (.int p1), .val (.int p2), .val (.int p3), .val (.int p4), .val (.int (2 : Int32)), .val (.float (FP.i2f sc)), .val (.float f0), .val (.float f1), .val (.float f2), .val (.float f3), .val (.ref ob3), .val (.ref bq10), .val (.int (1 : Int32)), .val (.int (1 : Int32)), .unset, .unset, .unset] [(.int (2 : Int32))])
    refine own_go (fun _ => XS.iconst X10.here hx rfl (hb hby at_179)) ?_
    show GG _ _ _ _ _ _ _ T10 (mkF m 180 #[.val (.int p0), .val (.int p1), .val (.int p2), .val (.int p3), .val (.int p4), .val (.int (2 : Int32)), .val (.float (FP.i2f sc)), .val (.float f0), .val (.float f1), .val (.float f2), .val (.float f3), .val (.ref ob3), .val (.ref bq10), .val (.int (1 : Int32)), .val (.int (1 : Int32)), .unset, .unset, .unset] [(.int (2 : Int32)), (.int (2 : Int32))])
    have hc180 : ¬ ((2 : Int32) < (2 : Int32)) := by decide
    refine own_go (fun _ => XS.icmpNo X10.here hx rfl (hb hby at_180) rfl (flt hc180).1) ?_
    show GG _ _ _ _ _ _ _ T10 (mkF m 183 #[.val (.int p0), .val (.int p1), .val (.int p2), .val (.int p3), .val (.int p4), .val (.int (2 : Int32)), .val (.float (FP.i2f sc)), .val (.float f0), .val (.float f1), .val (.float f2), .val (.float f3), .val (.ref ob3), .val (.ref bq10), .val (.int (1 : Int32)), .val (.int (1 : Int32)), .unset, .unset, .unset] [])
    refine own_go (fun _ => XS.aload X10.here hx rfl (hb hby at_183) rfl rfl) ?_
    show GG _ _ _ _ _ _ _ T10 (mkF m 185 #[.val (.int p0), .val (.int p1), .val (.int p2), .val (.int p3), .val (.int p4), .val (.int (2 : Int32)), .val (.float (FP.i2f sc)), .val (.float f0), .val (.float f1), .val (.float f2), .val (.float f3), .val (.ref ob3), .val (.ref bq10), .val (.int (1 : Int32)), .val (.int (1 : Int32)), .unset, .unset, .unset] [(.ref bq10)])
    refine own_go (fun _ => XS.iconst X10.here hx rfl (hb hby at_185)) ?_
    show GG _ _ _ _ _ _ _ T10 (mkF m 186 #[.val (.int p0), .val (.int p1), .val (.int p2), .val (.int p3), .val (.int p4), .val (.int (2 : Int32)), .val (.float (FP.i2f sc)), .val (.float f0), .val (.float f1), .val (.float f2), .val (.float f3), .val (.ref ob3), .val (.ref bq10), .val (.int (1 : Int32)), .val (.int (1 : Int32)), .unset, .unset, .unset] [(.int (1 : Int32)), (.ref bq10)])
    refine own_go (fun _ => own_daload X10 hx hZ rfl Vq10 (j := (1 : Int32)) (v := (.double (FP.f2d f1))) (by decide) rfl (g := (mkF m 186 #[.val (.int p0), .val (.int p1), .val (.int p2), .val (.int p3), .val (.int p4), .val (.int (2 : Int32)), .val (.float (FP.i2f sc)), .val (.float f0), .val (.float f1), .val (.float f2), .val (.float f3), .val (.ref ob3), .val (.ref bq10), .val (.int (1 : Int32)), .val (.int (1 : Int32)), .unset, .unset, .unset] [(.int (1 : Int32)), (.ref bq10)])) rfl rfl (hb hby at_186) _) ?_
    show GG _ _ _ _ _ _ _ T10 (mkF m 187 #[.val (.int p0), .val (.int p1), .val (.int p2), .val (.int p3), .val (.int p4), .val (.int (2 : Int32)), .val (.float (FP.i2f sc)), .val (.float f0), .val (.float f1), .val (.float f2), .val (.float f3), .val (.ref ob3), .val (.ref bq10), .val (.int (1 : Int32)), .val (.int (1 : Int32)), .unset, .unset, .unset] [(.double (FP.f2d f1))])
    refine own_go (fun _ => XS.fload X10.here hx rfl (hb hby at_187) rfl) ?_
    show GG _ _ _ _ _ _ _ T10 (mkF m 189 #[.val (.int p0), .val (.int p1), .val (.int p2), .val (.int p3), .val (.int p4), .val (.int (2 : Int32)), .val (.float (FP.i2f sc)), .val (.float f0), .val (.float f1), .val (.float f2), .val (.float f3), .val (.ref ob3), .val (.ref bq10), .val (.int (1 : Int32)), .val (.int (1 : Int32)), .unset, .unset, .unset] [(.float f1), (.double (FP.f2d f1))])
    refine own_go (fun _ => XS.f2dS X10.here hx rfl (hb hby at_189) rfl (Jvm.Free.Fl.f2d_out nn1) rfl) ?_
    show GG _ _ _ _ _ _ _ T10 (mkF m 190 #[.val (.int p0), .val (.int p1), .val (.int p2), .val (.int p3), .val (.int p4), .val (.int (2 : Int32)), .val (.float (FP.i2f sc)), .val (.float f0), .val (.float f1), .val (.float f2), .val (.float f3), .val (.ref ob3), .val (.ref bq10), .val (.int (1 : Int32)), .val (.int (1 : Int32)), .unset, .unset, .unset] [(.double (FP.f2d f1)), (.double (FP.f2d f1))])
    refine own_go (fun _ => XS.dcmpS X10.here hx rfl (hb hby at_190) rfl (dcmpV_self (Jvm.Free.Fl.f2d_out nn1) _)) ?_
    show GG _ _ _ _ _ _ _ T10 (mkF m 191 #[.val (.int p0), .val (.int p1), .val (.int p2), .val (.int p3), .val (.int p4), .val (.int (2 : Int32)), .val (.float (FP.i2f sc)), .val (.float f0), .val (.float f1), .val (.float f2), .val (.float f3), .val (.ref ob3), .val (.ref bq10), .val (.int (1 : Int32)), .val (.int (1 : Int32)), .unset, .unset, .unset] [(.int (0 : Int32))])
    have hc191 : (0 : Int32) = (0 : Int32) := by decide
    refine own_go (fun _ => XS.ifNo X10.here hx rfl (hb hby at_191) rfl ((if0 _ _).trans (teq hc191).2)) ?_
    show GG _ _ _ _ _ _ _ T10 (mkF m 194 #[.val (.int p0), .val (.int p1), .val (.int p2), .val (.int p3), .val (.int p4), .val (.int (2 : Int32)), .val (.float (FP.i2f sc)), .val (.float f0), .val (.float f1), .val (.float f2), .val (.float f3), .val (.ref ob3), .val (.ref bq10), .val (.int (1 : Int32)), .val (.int (1 : Int32)), .unset, .unset, .unset] [])
    refine own_go (fun _ => XS.iconst X10.here hx rfl (hb hby at_194)) ?_
    show GG _ _ _ _ _ _ _ T10 (mkF m 195 #[.val (.int p0), .val (.int p1), .val (.int p2), .val (.int p3), .val (.int p4), .val (.int (2 : Int32)), .val (.float (FP.i2f sc)), .val (.float f0), .val (.float f1), .val (.float f2), .val (.float f3), .val (.ref ob3), .val (.ref bq10), .val (.int (1 : Int32)), .val (.int (1 : Int32)), .unset, .unset, .unset] [(.int (1 : Int32))])
    refine own_go (fun _ => XS.goto X10.here hx rfl (pc0 := 195) (pc' := 199) rfl (hb hby at_195) (by decide) (by decide)) ?_
    show GG _ _ _ _ _ _ _ T10 (mkF m 199 #[.val (.int p0), .val (.int p1), .val (.int p2), .val (.int p3), .val (.int p4), .val (.int (2 : Int32)), .val (.float (FP.i2f sc)), .val (.float f0), .val (.float f1), .val (.float f2), .val (.float f3), .val (.ref ob3), .val (.ref bq10), .val (.int (1 : Int32)), .val (.int (1 : Int32)), .unset, .unset, .unset] [(.int (1 : Int32))])
    refine own_go (fun _ => XS.istore X10.here hx rfl (hb hby at_199) rfl (l' := #[.val (.int p0), .val (.int p1), .val (.int p2), .val (.int p3), .val (.int p4), .val (.int (2 : Int32)), .val (.float (FP.i2f sc)), .val (.float f0), .val (.float f1), .val (.float f2), .val (.float f3), .val (.ref ob3), .val (.ref bq10), .val (.int (1 : Int32)), .val (.int (1 : Int32)), .val (.int (1 : Int32)), .unset, .unset]) rfl) ?_
    show GG _ _ _ _ _ _ _ T10 (mkF m 201 #[.val (.int p0), .val (.int p1), .val (.int p2), .val (.int p3), .val (.int p4), .val (.int (2 : Int32)), .val (.float (FP.i2f sc)), .val (.float f0), .val (.float f1), .val (.float f2), .val (.float f3), .val (.ref ob3), .val (.ref bq10), .val (.int (1 : Int32)), .val (.int (1 : Int32)), .val (.int (1 : Int32)), .unset, .unset] [])
    refine own_go (fun _ => XS.iload X10.here hx rfl (hb hby at_201) rfl) ?_
    show GG _ _ _ _ _ _ _ T10 (mkF m 203 #[.val (.int p0), .val (.int p1), .val (.int p2), .val (.int p3), .val (.int p4), .val (.int (2 : Int32)), .val (.float (FP.i2f sc)), .val (.float f0), .val (.float f1), .val (.float f2), .val (.float f3), .val (.ref ob3), .val (.ref bq10), .val (.int (1 : Int32)), .val (.int (1 : Int32)), .val (.int (1 : Int32)), .unset, .unset] [(.int (2 : Int32))])
    refine own_go (fun _ => XS.iconst X10.here hx rfl (hb hby at_203)) ?_
    show GG _ _ _ _ _ _ _ T10 (mkF m 204 #[.val (.int p0), .val (.int p1), .val (.int p2), .val (.int p3), .val (.int p4), .val (.int (2 : Int32)), .val (.float (FP.i2f sc)), .val (.float f0), .val (.float f1), .val (.float f2), .val (.float f3), .val (.ref ob3), .val (.ref bq10), .val (.int (1 : Int32)), .val (.int (1 : Int32)), .val (.int (1 : Int32)), .unset, .unset] [(.int (3 : Int32)), (.int (2 : Int32))])
    have hc204 : (2 : Int32) < (3 : Int32) := by decide
    refine own_go (fun _ => XS.icmpYes X10.here hx rfl (pc0 := 204) (pc' := 218) rfl (hb hby at_204) rfl (tlt hc204).1 (by decide) (by decide)) ?_
    show GG _ _ _ _ _ _ _ T10 (mkF m 218 #[.val (.int p0), .val (.int p1), .val (.int p2), .val (.int p3), .val (.int p4), .val (.int (2 : Int32)), .val (.float (FP.i2f sc)), .val (.float f0), .val (.float f1), .val (.float f2), .val (.float f3), .val (.ref ob3), .val (.ref bq10), .val (.int (1 : Int32)), .val (.int (1 : Int32)), .val (.int (1 : Int32)), .unset, .unset] [])
    refine own_go (fun _ => XS.iconst X10.here hx rfl (hb hby at_218)) ?_
    show GG _ _ _ _ _ _ _ T10 (mkF m 219 #[.val (.int p0), .val (.int p1), .val (.int p2), .val (.int p3), .val (.int p4), .val (.int (2 : Int32)), .val (.float (FP.i2f sc)), .val (.float f0), .val (.float f1), .val (.float f2), .val (.float f3), .val (.ref ob3), .val (.ref bq10), .val (.int (1 : Int32)), .val (.int (1 : Int32)), .val (.int (1 : Int32)), .unset, .unset] [(.int (1 : Int32))])
    refine own_go (fun _ => XS.goto X10.here hx rfl (pc0 := 219) (pc' := 223) rfl (hb hby at_219) (by decide) (by decide)) ?_
    show GG _ _ _ _ _ _ _ T10 (mkF m 223 #[.val (.int p0), .val (.int p1), .val (.int p2), .val (.int p3), .val (.int p4), .val (.int (2 : Int32)), .val (.float (FP.i2f sc)), .val (.float f0), .val (.float f1), .val (.float f2), .val (.float f3), .val (.ref ob3), .val (.ref bq10), .val (.int (1 : Int32)), .val (.int (1 : Int32)), .val (.int (1 : Int32)), .unset, .unset] [(.int (1 : Int32))])
    refine own_go (fun _ => XS.istore X10.here hx rfl (hb hby at_223) rfl (l' := #[.val (.int p0), .val (.int p1), .val (.int p2), .val (.int p3), .val (.int p4), .val (.int (2 : Int32)), .val (.float (FP.i2f sc)), .val (.float f0), .val (.float f1), .val (.float f2), .val (.float f3), .val (.ref ob3), .val (.ref bq10), .val (.int (1 : Int32)), .val (.int (1 : Int32)), .val (.int (1 : Int32)), .val (.int (1 : Int32)), .unset]) rfl) ?_
    show GG _ _ _ _ _ _ _ T10 (mkF m 225 #[.val (.int p0), .val (.int p1), .val (.int p2), .val (.int p3), .val (.int p4), .val (.int (2 : Int32)), .val (.float (FP.i2f sc)), .val (.float f0), .val (.float f1), .val (.float f2), .val (.float f3), .val (.ref ob3), .val (.ref bq10), .val (.int (1 : Int32)), .val (.int (1 : Int32)), .val (.int (1 : Int32)), .val (.int (1 : Int32)), .unset] [])
    refine own_go (fun _ => XS.iload X10.here hx rfl (hb hby at_225) rfl) ?_
    show GG _ _ _ _ _ _ _ T10 (mkF m 227 #[.val (.int p0), .val (.int p1), .val (.int p2), .val (.int p3), .val (.int p4), .val (.int (2 : Int32)), .val (.float (FP.i2f sc)), .val (.float f0), .val (.float f1), .val (.float f2), .val (.float f3), .val (.ref ob3), .val (.ref bq10), .val (.int (1 : Int32)), .val (.int (1 : Int32)), .val (.int (1 : Int32)), .val (.int (1 : Int32)), .unset] [(.int (2 : Int32))])
    refine own_go (fun _ => XS.iconst X10.here hx rfl (hb hby at_227)) ?_
    show GG _ _ _ _ _ _ _ T10 (mkF m 228 #[.val (.int p0), .val (.int p1), .val (.int p2), .val (.int p3), .val (.int p4), .val (.int (2 : Int32)), .val (.float (FP.i2f sc)), .val (.float f0), .val (.float f1), .val (.float f2), .val (.float f3), .val (.ref ob3), .val (.ref bq10), .val (.int (1 : Int32)), .val (.int (1 : Int32)), .val (.int (1 : Int32)), .val (.int (1 : Int32)), .unset] [(.int (4 : Int32)), (.int (2 : Int32))])
    have hc228 : (2 : Int32) < (4 : Int32) := by decide
    refine own_go (fun _ => XS.icmpYes X10.here hx rfl (pc0 := 228) (pc' := 242) rfl (hb hby at_228) rfl (tlt hc228).1 (by decide) (by decide)) ?_
    show GG _ _ _ _ _ _ _ T10 (mkF m 242 #[.val (.int p0), .val (.int p1), .val (.int p2), .val (.int p3), .val (.int p4), .val (.int (2 : Int32)), .val (.float (FP.i2f sc)), .val (.float f0), .val (.float f1), .val (.float f2), .val (.float f3), .val (.ref ob3), .val (.ref bq10), .val (.int (1 : Int32)), .val (.int (1 : Int32)), .val (.int (1 : Int32)), .val (.int (1 : Int32)), .unset] [])
    refine own_go (fun _ => XS.iconst X10.here hx rfl (hb hby at_242)) ?_
    show GG _ _ _ _ _ _ _ T10 (mkF m 243 #[.val (.int p0), .val (.int p1), .val (.int p2), .val (.int p3), .val (.int p4), .val (.int (2 : Int32)), .val (.float (FP.i2f sc)), .val (.float f0), .val (.float f1), .val (.float f2), .val (.float f3), .val (.ref ob3), .val (.ref bq10), .val (.int (1 : Int32)), .val (.int (1 : Int32)), .val (.int (1 : Int32)), .val (.int (1 : Int32)), .unset] [(.int (1 : Int32))])
    refine own_go (fun _ => XS.goto X10.here hx rfl (pc0 := 243) (pc' := 247) rfl (hb hby at_243) (by decide) (by decide)) ?_
    show GG _ _ _ _ _ _ _ T10 (mkF m 247 #[.val (.int p0), .val (.int p1), .val (.int p2), .val (.int p3), .val (.int p4), .val (.int (2 : Int32)), .val (.float (FP.i2f sc)), .val (.float f0), .val (.float f1), .val (.float f2), .val (.float f3), .val (.ref ob3), .val (.ref bq10), .val (.int (1 : Int32)), .val (.int (1 : Int32)), .val (.int (1 : Int32)), .val (.int (1 : Int32)), .unset] [(.int (1 : Int32))])
    refine own_go (fun _ => XS.istore X10.here hx rfl (hb hby at_247) rfl (l' := #[.val (.int p0), .val (.int p1), .val (.int p2), .val (.int p3), .val (.int p4), .val (.int (2 : Int32)), .val (.float (FP.i2f sc)), .val (.float f0), .val (.float f1), .val (.float f2), .val (.float f3), .val (.ref ob3), .val (.ref bq10), .val (.int (1 : Int32)), .val (.int (1 : Int32)), .val (.int (1 : Int32)), .val (.int (1 : Int32)), .val (.int (1 : Int32))]) rfl) ?_
    show GG _ _ _ _ _ _ _ T10 (mkF m 249 #[.val (.int p0), .val (.int p1), .val (.int p2), .val (.int p3), .val (.int p4), .val (.int (2 : Int32)), .val (.float (FP.i2f sc)), .val (.float f0), .val (.float f1), .val (.float f2), .val (.float f3), .val (.ref ob3), .val (.ref bq10), .val (.int (1 : Int32)), .val (.int (1 : Int32)), .val (.int (1 : Int32)), .val (.int (1 : Int32)), .val (.int (1 : Int32))] [])
    refine own_go (fun _ => XS.iload X10.here hx rfl (hb hby at_249) rfl) ?_
    show GG _ _ _ _ _ _ _ T10 (mkF m 251 #[.val (.int p0), .val (.int p1), .val (.int p2), .val (.int p3), .val (.int p4), .val (.int (2 : Int32)), .val (.float (FP.i2f sc)), .val (.float f0), .val (.float f1), .val (.float f2), .val (.float f3), .val (.ref ob3), .val (.ref bq10), .val (.int (1 : Int32)), .val (.int (1 : Int32)), .val (.int (1 : Int32)), .val (.int (1 : Int32)), .val (.int (1 : Int32))] [(.int (1 : Int32))])
    have hc251 : ¬ ((1 : Int32) = (0 : Int32)) := by decide
    refine own_go (fun _ => XS.ifNo X10.here hx rfl (hb hby at_251) rfl ((if0 _ _).trans (feq hc251).1)) ?_
    show GG _ _ _ _ _ _ _ T10 (mkF m 254 #[.val (.int p0), .val (.int p1), .val (.int p2), .val (.int p3), .val (.int p4), .val (.int (2 : Int32)), .val (.float (FP.i2f sc)), .val (.float f0), .val (.float f1), .val (.float f2), .val (.float f3), .val (.ref ob3), .val (.ref bq10), .val (.int (1 : Int32)), .val (.int (1 : Int32)), .val (.int (1 : Int32)), .val (.int (1 : Int32)), .val (.int (1 : Int32))] [])
    refine own_go (fun _ => XS.iload X10.here hx rfl (hb hby at_254) rfl) ?_
    show GG _ _ _ _ _ _ _ T10 (mkF m 256 #[.val (.int p0), .val (.int p1), .val (.int p2), .val (.int p3), .val (.int p4), .val (.int (2 : Int32)), .val (.float (FP.i2f sc)), .val (.float f0), .val (.float f1), .val (.float f2), .val (.float f3), .val (.ref ob3), .val (.ref bq10), .val (.int (1 : Int32)), .val (.int (1 : Int32)), .val (.int (1 : Int32)), .val (.int (1 : Int32)), .val (.int (1 : Int32))] [(.int (1 : Int32))])
    have hc256 : ¬ ((1 : Int32) = (0 : Int32)) := by decide
    refine own_go (fun _ => XS.ifNo X10.here hx rfl (hb hby at_256) rfl ((if0 _ _).trans (feq hc256).1)) ?_
    show GG _ _ _ _ _ _ _ T10 (mkF m 259 #[.val (.int p0), .val (.int p1), .val (.int p2), .val (.int p3), .val (.int p4), .val (.int (2 : Int32)), .val (.float (FP.i2f sc)), .val (.float f0), .val (.float f1), .val (.float f2), .val (.float f3), .val (.ref ob3), .val (.ref bq10), .val (.int (1 : Int32)), .val (.int (1 : Int32)), .val (.int (1 : Int32)), .val (.int (1 : Int32)), .val (.int (1 : Int32))] [])
    refine own_go (fun _ => XS.iload X10.here hx rfl (hb hby at_259) rfl) ?_
    show GG _ _ _ _ _ _ _ T10 (mkF m 261 #[.val (.int p0), .val (.int p1), .val (.int p2), .val (.int p3), .val (.int p4), .val (.int (2 : Int32)), .val (.float (FP.i2f sc)), .val (.float f0), .val (.float f1), .val (.float f2), .val (.float f3), .val (.ref ob3), .val (.ref bq10), .val (.int (1 : Int32)), .val (.int (1 : Int32)), .val (.int (1 : Int32)), .val (.int (1 : Int32)), .val (.int (1 : Int32))] [(.int (1 : Int32))])
    have hc261 : ¬ ((1 : Int32) = (0 : Int32)) := by decide
    refine own_go (fun _ => XS.ifNo X10.here hx rfl (hb hby at_261) rfl ((if0 _ _).trans (feq hc261).1)) ?_
    show GG _ _ _ _ _ _ _ T10 (mkF m 264 #[.val (.int p0), .val (.int p1), .val (.int p2), .val (.int p3), .val (.int p4), .val (.int (2 : Int32)), .val (.float (FP.i2f sc)), .val (.float f0), .val (.float f1), .val (.float f2), .val (.float f3), .val (.ref ob3), .val (.ref bq10), .val (.int (1 : Int32)), .val (.int (1 : Int32)), .val (.int (1 : Int32)), .val (.int (1 : Int32)), .val (.int (1 : Int32))] [])
    refine own_go (fun _ => XS.iload X10.here hx rfl (hb hby at_264) rfl) ?_
    show GG _ _ _ _ _ _ _ T10 (mkF m 266 #[.val (.int p0), .val (.int p1), .val (.int p2), .val (.int p3), .val (.int p4), .val (.int (2 : Int32)), .val (.float (FP.i2f sc)), .val (.float f0), .val (.float f1), .val (.float f2), .val (.float f3), .val (.ref ob3), .val (.ref bq10), .val (.int (1 : Int32)), .val (.int (1 : Int32)), .val (.int (1 : Int32)), .val (.int (1 : Int32)), .val (.int (1 : Int32))] [(.int (1 : Int32))])
    have hc266 : ¬ ((1 : Int32) = (0 : Int32)) := by decide
    refine own_go (fun _ => XS.ifNo X10.here hx rfl (hb hby at_266) rfl ((if0 _ _).trans (feq hc266).1)) ?_
    show GG _ _ _ _ _ _ _ T10 (mkF m 269 #[.val (.int p0), .val (.int p1), .val (.int p2), .val (.int p3), .val (.int p4), .val (.int (2 : Int32)), .val (.float (FP.i2f sc)), .val (.float f0), .val (.float f1), .val (.float f2), .val (.float f3), .val (.ref ob3), .val (.ref bq10), .val (.int (1 : Int32)), .val (.int (1 : Int32)), .val (.int (1 : Int32)), .val (.int (1 : Int32)), .val (.int (1 : Int32))] [])
    refine own_go (fun _ => XS.iload X10.here hx rfl (hb hby at_269) rfl) ?_
    show GG _ _ _ _ _ _ _ T10 (mkF m 271 #[.val (.int p0), .val (.int p1), .val (.int p2), .val (.int p3), .val (.int p4), .val (.int (2 : Int32)), .val (.float (FP.i2f sc)), .val (.float f0), .val (.float f1), .val (.float f2), .val (.float f3), .val (.ref ob3), .val (.ref bq10), .val (.int (1 : Int32)), .val (.int (1 : Int32)), .val (.int (1 : Int32)), .val (.int (1 : Int32)), .val (.int (1 : Int32))] [(.int (1 : Int32))])
    have hc271 : ¬ ((1 : Int32) = (0 : Int32)) := by decide
    refine own_go (fun _ => XS.ifNo X10.here hx rfl (hb hby at_271) rfl ((if0 _ _).trans (feq hc271).1)) ?_
    show GG _ _ _ _ _ _ _ T10 (mkF m 274 #[.val (.int p0), .val (.int p1), .val (.int p2), .val (.int p3), .val (.int p4), .val (.int (2 : Int32)), .val (.float (FP.i2f sc)), .val (.float f0), .val (.float f1), .val (.float f2), .val (.float f3), .val (.ref ob3), .val (.ref bq10), .val (.int (1 : Int32)), .val (.int (1 : Int32)), .val (.int (1 : Int32)), .val (.int (1 : Int32)), .val (.int (1 : Int32))] [])
    refine own_go (fun _ => XS.iconst X10.here hx rfl (hb hby at_274)) ?_
    show GG _ _ _ _ _ _ _ T10 (mkF m 275 #[.val (.int p0), .val (.int p1), .val (.int p2), .val (.int p3), .val (.int p4), .val (.int (2 : Int32)), .val (.float (FP.i2f sc)), .val (.float f0), .val (.float f1), .val (.float f2), .val (.float f3), .val (.ref ob3), .val (.ref bq10), .val (.int (1 : Int32)), .val (.int (1 : Int32)), .val (.int (1 : Int32)), .val (.int (1 : Int32)), .val (.int (1 : Int32))] [(.int (1 : Int32))])
    refine own_go (fun _ => XS.goto X10.here hx rfl (pc0 := 275) (pc' := 279) rfl (hb hby at_275) (by decide) (by decide)) ?_
    show GG _ _ _ _ _ _ _ T10 (mkF m 279 #[.val (.int p0), .val (.int p1), .val (.int p2), .val (.int p3), .val (.int p4), .val (.int (2 : Int32)), .val (.float (FP.i2f sc)), .val (.float f0), .val (.float f1), .val (.float f2), .val (.float f3), .val (.ref ob3), .val (.ref bq10), .val (.int (1 : Int32)), .val (.int (1 : Int32)), .val (.int (1 : Int32)), .val (.int (1 : Int32)), .val (.int (1 : Int32))] [(.int (1 : Int32))])
    refine own_ret X10 hx hlk (t := .boolean) (w := (.int (1 : Int32))) Bd.returns rfl (Or.inl ⟨rfl, by simp, _, rfl⟩) (hb hby at_279) (by decide) (by decide) ?_
    show Q0 Z p0 p1 p2 p3 p4 h0 n0 (some (.int (1 : Int32))) T10.heap _
    exact ⟨rfl, N10⟩
  · skip
    subst hsel
    show GG _ _ _ _ _ _ _ T7 (mkF m 75 #[.val (.int p0), .val (.int p1), .val (.int p2), .val (.int p3), .val (.int p4), .val (.int (3 : Int32)), .val (.float (FP.i2f sc)), .val (.float f0), .val (.float f1), .val (.float f2), .val (.float f3), .val (.ref ob3), .unset, .unset, .unset, .unset, .unset, .unset] [])
    refine own_go (fun _ => XS.aload X7.here hx rfl (hb hby at_75) rfl rfl) ?_
    show GG _ _ _ _ _ _ _ T7 (mkF m 77 #[.val (.int p0), .val (.int p1), .val (.int p2), .val (.int p3), .val (.int p4), .val (.int (3 : Int32)), .val (.float (FP.i2f sc)), .val (.float f0), .val (.float f1), .val (.float f2), .val (.float f3), .val (.ref ob3), .unset, .unset, .unset, .unset, .unset, .unset] [(.ref ob3)])
    refine own_go (fun _ => XS.iload X7.here hx rfl (hb hby at_77) rfl) ?_
    show GG _ _ _ _ _ _ _ T7 (mkF m 79 #[.val (.int p0), .val (.int p1), .val (.int p2), .val (.int p3), .val (.int p4), .val (.int (3 : Int32)), .val (.float (FP.i2f sc)), .val (.float f0), .val (.float f1), .val (.float f2), .val (.float f3), .val (.ref ob3), .unset, .unset, .unset, .unset, .unset, .unset] [(.int (3 : Int32)), (.ref ob3)])
    refine own_callS X7 hx hZ (y := (⟨"com/example/hadamint/hadamint/Queries", "widened", "([FI)[D"⟩ : MethodName)) 0 hown (hw _ (List.mem_of_getElem? (i := 2) rfl)) (hw _ (List.mem_of_getElem? (i := 3) rfl)) (hw _ (List.mem_of_getElem? (i := 4) rfl)) (hw _ (List.mem_of_getElem? (i := 5) rfl)) (by decide) (argsL := [(.ref ob3), (.int (3 : Int32))]) (rest := []) (rm1_3 l Z a0 hw [] ob3 f0 f1 f2 f3 h7 n0 (Nat.le_trans Z0 K0.1) V_ob3 nn0 nn1 nn2 nn3) (by decide) (by decide) (by decide) (by decide) (g := (mkF m 79 #[.val (.int p0), .val (.int p1), .val (.int p2), .val (.int p3), .val (.int p4), .val (.int (3 : Int32)), .val (.float (FP.i2f sc)), .val (.float f0), .val (.float f1), .val (.float f2), .val (.float f3), .val (.ref ob3), .unset, .unset, .unset, .unset, .unset, .unset] [(.int (3 : Int32)), (.ref ob3)])) rfl (by rw [hml]; rfl) (lenOf pd___FI__D_474 rfl) rfl (by show 2 * 0 + _ ≤ _; exact Nat.le_of_eq rfl) (hb hby at_79) e7 ?_
    rintro v11 T11 L11 X11 ⟨bq11, rfl, N11q, szq11, Kq11, Vq11⟩
    have N11 := Fr.app N7 N11q
    have K0 := K0.trans Kq11 all0
    have V_ob3 := V_ob3.keep Kq11 nin0
    have E_ob3 := E_ob3.keep Kq11
    show GG _ _ _ _ _ _ _ T11 (mkF m 82 #[.val (.int p0), .val (.int p1), .val (.int p2), .val (.int p3), .val (.int p4), .val (.int (3 : Int32)), .val (.float (FP.i2f sc)), .val (.float f0), .val (.float f1), .val (.float f2), .val (.float f3), .val (.ref ob3), .unset, .unset, .unset, .unset, .unset, .unset] [(.ref bq11)])
    refine own_go (fun _ => XS.astore X11.here hx rfl (hb hby at_82) rfl rfl (l' := #[.val (.int p0), .val (.int p1), .val (.int p2), .val (.int p3), .val (.int p4), .val (.int (3 : Int32)), .val (.float (FP.i2f sc)), .val (.float f0), .val (.float f1), .val (.float f2), .val (.float f3), .val (.ref ob3), .val (.ref bq11), .unset, .unset, .unset, .unset, .unset]) rfl) ?_
    show GG _ _ _ _ _ _ _ T11 (mkF m 84 #[.val (.int p0), .val (.int p1), .val (.int p2), .val (.int p3), .val (.int p4), .val (.int (3 : Int32)), .val (.float (FP.i2f sc)), .val (.float f0), .val (.float f1), .val (.float f2), .val (.float f3), .val (.ref ob3), .val (.ref bq11), .unset, .unset, .unset, .unset, .unset] [])
    refine own_go (fun _ => XS.aload X11.here hx rfl (hb hby at_84) rfl rfl) ?_
    show GG _ _ _ _ _ _ _ T11 (mkF m 86 #[.val (.int p0), .val (.int p1), .val (.int p2), .val (.int p3), .val (.int p4), .val (.int (3 : Int32)), .val (.float (FP.i2f sc)), .val (.float f0), .val (.float f1), .val (.float f2), .val (.float f3), .val (.ref ob3), .val (.ref bq11), .unset, .unset, .unset, .unset, .unset] [(.ref bq11)])
    refine own_go (fun _ => XS.ifnullNo X11.here hx rfl (hb hby at_86) rfl) ?_
    show GG _ _ _ _ _ _ _ T11 (mkF m 89 #[.val (.int p0), .val (.int p1), .val (.int p2), .val (.int p3), .val (.int p4), .val (.int (3 : Int32)), .val (.float (FP.i2f sc)), .val (.float f0), .val (.float f1), .val (.float f2), .val (.float f3), .val (.ref ob3), .val (.ref bq11), .unset, .unset, .unset, .unset, .unset] [])
    refine own_go (fun _ => XS.aload X11.here hx rfl (hb hby at_89) rfl rfl) ?_
    show GG _ _ _ _ _ _ _ T11 (mkF m 91 #[.val (.int p0), .val (.int p1), .val (.int p2), .val (.int p3), .val (.int p4), .val (.int (3 : Int32)), .val (.float (FP.i2f sc)), .val (.float f0), .val (.float f1), .val (.float f2), .val (.float f3), .val (.ref ob3), .val (.ref bq11), .unset, .unset, .unset, .unset, .unset] [(.ref bq11)])
    refine own_go (fun _ => own_len X11 hx hZ rfl Vq11 (g := (mkF m 91 #[.val (.int p0), .val (.int p1), .val (.int p2), .val (.int p3), .val (.int p4), .val (.int (3 : Int32)), .val (.float (FP.i2f sc)), .val (.float f0), .val (.float f1), .val (.float f2), .val (.float f3), .val (.ref ob3), .val (.ref bq11), .unset, .unset, .unset, .unset, .unset] [(.ref bq11)])) rfl rfl (hb hby at_91) _) ?_
    show GG _ _ _ _ _ _ _ T11 (mkF m 92 #[.val (.int p0), .val (.int p1), .val (.int p2), .val (.int p3), .val (.int p4), .val (.int (3 : Int32)), .val (.float (FP.i2f sc)), .val (.float f0), .val (.float f1), .val (.float f2), .val (.float f3), .val (.ref ob3), .val (.ref bq11), .unset, .unset, .unset, .unset, .unset] [(.int (3 : Int32))])
    refine own_go (fun _ => XS.iload X11.here hx rfl (hb hby at_92) rfl) ?_
    show GG _ _ _ _ _ _ _ T11 (mkF m 94 #[.val (.int p0), .val (.int p1), .val (.int p2), .val (.int p3), .val (.int p4), .val (.int (3 : Int32)), .val (.float (FP.i2f sc)), .val (.float f0), .val (.float f1), .val (.float f2), .val (.float f3), .val (.ref ob3), .val (.ref bq11), .unset, .unset, .unset, .unset, .unset] [(.int (3 : Int32)), (.int (3 : Int32))])
    have hc94 : (3 : Int32) = (3 : Int32) := by decide
    refine own_go (fun _ => XS.icmpYes X11.here hx rfl (pc0 := 94) (pc' := 99) rfl (hb hby at_94) rfl (teq hc94).1 (by decide) (by decide)) ?_
    show GG _ _ _ _ _ _ _ T11 (mkF m 99 #[.val (.int p0), .val (.int p1), .val (.int p2), .val (.int p3), .val (.int p4), .val (.int (3 : Int32)), .val (.float (FP.i2f sc)), .val (.float f0), .val (.float f1), .val (.float f2), .val (.float f3), .val (.ref ob3), .val (.ref bq11), .unset, .unset, .unset, .unset, .unset] [])
    refine own_go (fun _ => XS.aload X11.here hx rfl (hb hby at_99) rfl rfl) ?_
    show GG _ _ _ _ _ _ _ T11 (mkF m 101 #[.val (.int p0), .val (.int p1), .val (.int p2), .val (.int p3), .val (.int p4), .val (.int (3 : Int32)), .val (.float (FP.i2f sc)), .val (.float f0), .val (.float f1), .val (.float f2), .val (.float f3), .val (.ref ob3), .val (.ref bq11), .unset, .unset, .unset, .unset, .unset] [(.ref ob3)])
    refine own_go (fun _ => own_len X11 hx hZ rfl V_ob3 (g := (mkF m 101 #[.val (.int p0), .val (.int p1), .val (.int p2), .val (.int p3), .val (.int p4), .val (.int (3 : Int32)), .val (.float (FP.i2f sc)), .val (.float f0), .val (.float f1), .val (.float f2), .val (.float f3), .val (.ref ob3), .val (.ref bq11), .unset, .unset, .unset, .unset, .unset] [(.ref ob3)])) rfl rfl (hb hby at_101) _) ?_
    show GG _ _ _ _ _ _ _ T11 (mkF m 102 #[.val (.int p0), .val (.int p1), .val (.int p2), .val (.int p3), .val (.int p4), .val (.int (3 : Int32)), .val (.float (FP.i2f sc)), .val (.float f0), .val (.float f1), .val (.float f2), .val (.float f3), .val (.ref ob3), .val (.ref bq11), .unset, .unset, .unset, .unset, .unset] [(.int (4 : Int32))])
    refine own_go (fun _ => XS.iconst X11.here hx rfl (hb hby at_102)) ?_
    show GG _ _ _ _ _ _ _ T11 (mkF m 103 #[.val (.int p0), .val (.int p1), .val (.int p2), .val (.int p3), .val (.int p4), .val (.int (3 : Int32)), .val (.float (FP.i2f sc)), .val (.float f0), .val (.float f1), .val (.float f2), .val (.float f3), .val (.ref ob3), .val (.ref bq11), .unset, .unset, .unset, .unset, .unset] [(.int (4 : Int32)), (.int (4 : Int32))])
    have hc103 : (4 : Int32) = (4 : Int32) := by decide
    refine own_go (fun _ => XS.icmpNo X11.here hx rfl (hb hby at_103) rfl (teq hc103).2) ?_
    show GG _ _ _ _ _ _ _ T11 (mkF m 106 #[.val (.int p0), .val (.int p1), .val (.int p2), .val (.int p3), .val (.int p4), .val (.int (3 : Int32)), .val (.float (FP.i2f sc)), .val (.float f0), .val (.float f1), .val (.float f2), .val (.float f3), .val (.ref ob3), .val (.ref bq11), .unset, .unset, .unset, .unset, .unset] [])
    refine own_go (fun _ => XS.aload X11.here hx rfl (hb hby at_106) rfl rfl) ?_
    show GG _ _ _ _ _ _ _ T11 (mkF m 108 #[.val (.int p0), .val (.int p1), .val (.int p2), .val (.int p3), .val (.int p4), .val (.int (3 : Int32)), .val (.float (FP.i2f sc)), .val (.float f0), .val (.float f1), .val (.float f2), .val (.float f3), .val (.ref ob3), .val (.ref bq11), .unset, .unset, .unset, .unset, .unset] [(.ref ob3)])
    refine own_go (fun _ => XS.iconst X11.here hx rfl (hb hby at_108)) ?_
    show GG _ _ _ _ _ _ _ T11 (mkF m 109 #[.val (.int p0), .val (.int p1), .val (.int p2), .val (.int p3), .val (.int p4), .val (.int (3 : Int32)), .val (.float (FP.i2f sc)), .val (.float f0), .val (.float f1), .val (.float f2), .val (.float f3), .val (.ref ob3), .val (.ref bq11), .unset, .unset, .unset, .unset, .unset] [(.int (0 : Int32)), (.ref ob3)])
    refine own_go (fun _ => own_faload X11 hx hZ rfl V_ob3 (j := (0 : Int32)) (v := (.float f0)) (by decide) rfl (g := (mkF m 109 #[.val (.int p0), .val (.int p1), .val (.int p2), .val (.int p3), .val (.int p4), .val (.int (3 : Int32)), .val (.float (FP.i2f sc)), .val (.float f0), .val (.float f1), .val (.float f2), .val (.float f3), .val (.ref ob3), .val (.ref bq11), .unset, .unset, .unset, .unset, .unset] [(.int (0 : Int32)), (.ref ob3)])) rfl rfl (hb hby at_109) _) ?_
    show GG _ _ _ _ _ _ _ T11 (mkF m 110 #[.val (.int p0), .val (.int p1), .val (.int p2), .val (.int p3), .val (.int p4), .val (.int (3 : Int32)), .val (.float (FP.i2f sc)), .val (.float f0), .val (.float f1), .val (.float f2), .val (.float f3), .val (.ref ob3), .val (.ref bq11), .unset, .unset, .unset, .unset, .unset] [(.float f0)])
    refine own_go (fun _ => XS.fload X11.here hx rfl (hb hby at_110) rfl) ?_
    show GG _ _ _ _ _ _ _ T11 (mkF m 112 #[.val (.int p0), .val (.int p1), .val (.int p2), .val (.int p3), .val (.int p4), .val (.int (3 : Int32)), .val (.float (FP.i2f sc)), .val (.float f0), .val (.float f1), .val (.float f2), .val (.float f3), .val (.ref ob3), .val (.ref bq11), .unset, .unset, .unset, .unset, .unset] [(.float f0), (.float f0)])
    refine own_go (fun _ => XS.fcmpS X11.here hx rfl (hb hby at_112) rfl (fcmpV_self nn0 _)) ?_
    show GG _ _ _ _ _ _ _ T11 (mkF m 113 #[.val (.int p0), .val (.int p1), .val (.int p2), .val (.int p3), .val (.int p4), .val (.int (3 : Int32)), .val (.float (FP.i2f sc)), .val (.float f0), .val (.float f1), .val (.float f2), .val (.float f3), .val (.ref ob3), .val (.ref bq11), .unset, .unset, .unset, .unset, .unset] [(.int (0 : Int32))])
    have hc113 : (0 : Int32) = (0 : Int32) := by decide
    refine own_go (fun _ => XS.ifNo X11.here hx rfl (hb hby at_113) rfl ((if0 _ _).trans (teq hc113).2)) ?_
    show GG _ _ _ _ _ _ _ T11 (mkF m 116 #[.val (.int p0), .val (.int p1), .val (.int p2), .val (.int p3), .val (.int p4), .val (.int (3 : Int32)), .val (.float (FP.i2f sc)), .val (.float f0), .val (.float f1), .val (.float f2), .val (.float f3), .val (.ref ob3), .val (.ref bq11), .unset, .unset, .unset, .unset, .unset] [])
    refine own_go (fun _ => XS.aload X11.here hx rfl (hb hby at_116) rfl rfl) ?_
    show GG _ _ _ _ _ _ _ T11 (mkF m 118 #[.val (.int p0), .val (.int p1), .val (.int p2), .val (.int p3), .val (.int p4), .val (.int (3 : Int32)), .val (.float (FP.i2f sc)), .val (.float f0), .val (.float f1), .val (.float f2), .val (.float f3), .val (.ref ob3), .val (.ref bq11), .unset, .unset, .unset, .unset, .unset] [(.ref ob3)])
    refine own_go (fun _ => XS.iconst X11.here hx rfl (hb hby at_118)) ?_
    show GG _ _ _ _ _ _ _ T11 (mkF m 119 #[.val (.int p0), .val (.int p1), .val (.int p2), .val (.int p3), .val (.int p4), .val (.int (3 : Int32)), .val (.float (FP.i2f sc)), .val (.float f0), .val (.float f1), .val (.float f2), .val (.float f3), .val (.ref ob3), .val (.ref bq11), .unset, .unset, .unset, .unset, .unset] [(.int (1 : Int32)), (.ref ob3)])
    refine own_go (fun _ => own_faload X11 hx hZ rfl V_ob3 (j := (1 : Int32)) (v := (.float f1)) (by decide) rfl (g := (mkF m 119 #[.val (.int p0), .val (.int p1), .val (.int p2), .val (.int p3), .val (.int p4), .val (.int (3 : Int32)), .val (.float (FP.i2f sc)), .val (.float f0), .val (.float f1), .val (.float f2), .val (.float f3), .val (.ref ob3), .val (.ref bq11), .unset, .unset, .unset, .unset, .unset] [(.int (1 : Int32)), (.ref ob3)])) rfl rfl (hb hby at_119) _) ?_
    show GG _ _ _ _ _ _ _ T11 (mkF m 120 #[.val (.int p0), .val (.int p1), .val (.int p2), .val (.int p3), .val (.int p4), .val (.int (3 : Int32)), .val (.float (FP.i2f sc)), .val (.float f0), .val (.float f1), .val (.float f2), .val (.float f3), .val (.ref ob3), .val (.ref bq11), .unset, .unset, .unset, .unset, .unset] [(.float f1)])
    refine own_go (fun _ => XS.fload X11.here hx rfl (hb hby at_120) rfl) ?_
    show GG _ _ _ _ _ _ _ T11 (mkF m 122 #[.val (.int p0), .val (.int p1), .val (.int p2), .val (.int p3), .val (.int p4), .val (.int (3 : Int32)), .val (.float (FP.i2f sc)), .val (.float f0), .val (.float f1), .val (.float f2), .val (.float f3), .val (.ref ob3), .val (.ref bq11), .unset, .unset, .unset, .unset, .unset] [(.float f1), (.float f1)])
    refine own_go (fun _ => XS.fcmpS X11.here hx rfl (hb hby at_122) rfl (fcmpV_self nn1 _)) ?_
    show GG _ _ _ _ _ _ _ T11 (mkF m 123 #[.val (.int p0), .val (.int p1), .val (.int p2), .val (.int p3), .val (.int p4), .val (.int (3 : Int32)), .val (.float (FP.i2f sc)), .val (.float f0), .val (.float f1), .val (.float f2), .val (.float f3), .val (.ref ob3), .val (.ref bq11), .unset, .unset, .unset, .unset, .unset] [(.int (0 : Int32))])
    have hc123 : (0 : Int32) = (0 : Int32) := by decide
    refine own_go (fun _ => XS.ifNo X11.here hx rfl (hb hby at_123) rfl ((if0 _ _).trans (teq hc123).2)) ?_
    show GG _ _ _ _ _ _ _ T11 (mkF m 126 #[.val (.int p0), .val (.int p1), .val (.int p2), .val (.int p3), .val (.int p4), .val (.int (3 : Int32)), .val (.float (FP.i2f sc)), .val (.float f0), .val (.float f1), .val (.float f2), .val (.float f3), .val (.ref ob3), .val (.ref bq11), .unset, .unset, .unset, .unset, .unset] [])
    refine own_go (fun _ => XS.aload X11.here hx rfl (hb hby at_126) rfl rfl) ?_
    show GG _ _ _ _ _ _ _ T11 (mkF m 128 #[.val (.int p0), .val (.int p1), .val (.int p2), .val (.int p3), .val (.int p4), .val (.int (3 : Int32)), .val (.float (FP.i2f sc)), .val (.float f0), .val (.float f1), .val (.float f2), .val (.float f3), .val (.ref ob3), .val (.ref bq11), .unset, .unset, .unset, .unset, .unset] [(.ref ob3)])
    refine own_go (fun _ => XS.iconst X11.here hx rfl (hb hby at_128)) ?_
    show GG _ _ _ _ _ _ _ T11 (mkF m 129 #[.val (.int p0), .val (.int p1), .val (.int p2), .val (.int p3), .val (.int p4), .val (.int (3 : Int32)), .val (.float (FP.i2f sc)), .val (.float f0), .val (.float f1), .val (.float f2), .val (.float f3), .val (.ref ob3), .val (.ref bq11), .unset, .unset, .unset, .unset, .unset] [(.int (2 : Int32)), (.ref ob3)])
    refine own_go (fun _ => own_faload X11 hx hZ rfl V_ob3 (j := (2 : Int32)) (v := (.float f2)) (by decide) rfl (g := (mkF m 129 #[.val (.int p0), .val (.int p1), .val (.int p2), .val (.int p3), .val (.int p4), .val (.int (3 : Int32)), .val (.float (FP.i2f sc)), .val (.float f0), .val (.float f1), .val (.float f2), .val (.float f3), .val (.ref ob3), .val (.ref bq11), .unset, .unset, .unset, .unset, .unset] [(.int (2 : Int32)), (.ref ob3)])) rfl rfl (hb hby at_129) _) ?_
    show GG _ _ _ _ _ _ _ T11 (mkF m 130 #[.val (.int p0), .val (.int p1), .val (.int p2), .val (.int p3), .val (.int p4), .val (.int (3 : Int32)), .val (.float (FP.i2f sc)), .val (.float f0), .val (.float f1), .val (.float f2), .val (.float f3), .val (.ref ob3), .val (.ref bq11), .unset, .unset, .unset, .unset, .unset] [(.float f2)])
    refine own_go (fun _ => XS.fload X11.here hx rfl (hb hby at_130) rfl) ?_
    show GG _ _ _ _ _ _ _ T11 (mkF m 132 #[.val (.int p0), .val (.int p1), .val (.int p2), .val (.int p3), .val (.int p4), .val (.int (3 : Int32)), .val (.float (FP.i2f sc)), .val (.float f0), .val (.float f1), .val (.float f2), .val (.float f3), .val (.ref ob3), .val (.ref bq11), .unset, .unset, .unset, .unset, .unset] [(.float f2), (.float f2)])
    refine own_go (fun _ => XS.fcmpS X11.here hx rfl (hb hby at_132) rfl (fcmpV_self nn2 _)) ?_
    show GG _ _ _ _ _ _ _ T11 (mkF m 133 #[.val (.int p0), .val (.int p1), .val (.int p2), .val (.int p3), .val (.int p4), .val (.int (3 : Int32)), .val (.float (FP.i2f sc)), .val (.float f0), .val (.float f1), .val (.float f2), .val (.float f3), .val (.ref ob3), .val (.ref bq11), .unset, .unset, .unset, .unset, .unset] [(.int (0 : Int32))])
    have hc133 : (0 : Int32) = (0 : Int32) := by decide
    refine own_go (fun _ => XS.ifNo X11.here hx rfl (hb hby at_133) rfl ((if0 _ _).trans (teq hc133).2)) ?_
    show GG _ _ _ _ _ _ _ T11 (mkF m 136 #[.val (.int p0), .val (.int p1), .val (.int p2), .val (.int p3), .val (.int p4), .val (.int (3 : Int32)), .val (.float (FP.i2f sc)), .val (.float f0), .val (.float f1), .val (.float f2), .val (.float f3), .val (.ref ob3), .val (.ref bq11), .unset, .unset, .unset, .unset, .unset] [])
    refine own_go (fun _ => XS.aload X11.here hx rfl (hb hby at_136) rfl rfl) ?_
    show GG _ _ _ _ _ _ _ T11 (mkF m 138 #[.val (.int p0), .val (.int p1), .val (.int p2), .val (.int p3), .val (.int p4), .val (.int (3 : Int32)), .val (.float (FP.i2f sc)), .val (.float f0), .val (.float f1), .val (.float f2), .val (.float f3), .val (.ref ob3), .val (.ref bq11), .unset, .unset, .unset, .unset, .unset] [(.ref ob3)])
    refine own_go (fun _ => XS.iconst X11.here hx rfl (hb hby at_138)) ?_
    show GG _ _ _ _ _ _ _ T11 (mkF m 139 #[.val (.int p0), .val (.int p1), .val (.int p2), .val (.int p3), .val (.int p4), .val (.int (3 : Int32)), .val (.float (FP.i2f sc)), .val (.float f0), .val (.float f1), .val (.float f2), .val (.float f3), .val (.ref ob3), .val (.ref bq11), .unset, .unset, .unset, .unset, .unset] [(.int (3 : Int32)), (.ref ob3)])
    refine own_go (fun _ => own_faload X11 hx hZ rfl V_ob3 (j := (3 : Int32)) (v := (.float f3)) (by decide) rfl (g := (mkF m 139 #[.val (.int p0), .val (.int p1), .val (.int p2), .val (.int p3), .val (.int p4), .val (.int (3 : Int32)), .val (.float (FP.i2f sc)), .val (.float f0), .val (.float f1), .val (.float f2), .val (.float f3), .val (.ref ob3), .val (.ref bq11), .unset, .unset, .unset, .unset, .unset] [(.int (3 : Int32)), (.ref ob3)])) rfl rfl (hb hby at_139) _) ?_
    show GG _ _ _ _ _ _ _ T11 (mkF m 140 #[.val (.int p0), .val (.int p1), .val (.int p2), .val (.int p3), .val (.int p4), .val (.int (3 : Int32)), .val (.float (FP.i2f sc)), .val (.float f0), .val (.float f1), .val (.float f2), .val (.float f3), .val (.ref ob3), .val (.ref bq11), .unset, .unset, .unset, .unset, .unset] [(.float f3)])
    refine own_go (fun _ => XS.fload X11.here hx rfl (hb hby at_140) rfl) ?_
    show GG _ _ _ _ _ _ _ T11 (mkF m 142 #[.val (.int p0), .val (.int p1), .val (.int p2), .val (.int p3), .val (.int p4), .val (.int (3 : Int32)), .val (.float (FP.i2f sc)), .val (.float f0), .val (.float f1), .val (.float f2), .val (.float f3), .val (.ref ob3), .val (.ref bq11), .unset, .unset, .unset, .unset, .unset] [(.float f3), (.float f3)])
    refine own_go (fun _ => XS.fcmpS X11.here hx rfl (hb hby at_142) rfl (fcmpV_self nn3 _)) ?_
    show GG _ _ _ _ _ _ _ T11 (mkF m 143 #[.val (.int p0), .val (.int p1), .val (.int p2), .val (.int p3), .val (.int p4), .val (.int (3 : Int32)), .val (.float (FP.i2f sc)), .val (.float f0), .val (.float f1), .val (.float f2), .val (.float f3), .val (.ref ob3), .val (.ref bq11), .unset, .unset, .unset, .unset, .unset] [(.int (0 : Int32))])
    have hc143 : (0 : Int32) = (0 : Int32) := by decide
    refine own_go (fun _ => XS.ifNo X11.here hx rfl (hb hby at_143) rfl ((if0 _ _).trans (teq hc143).2)) ?_
    show GG _ _ _ _ _ _ _ T11 (mkF m 146 #[.val (.int p0), .val (.int p1), .val (.int p2), .val (.int p3), .val (.int p4), .val (.int (3 : Int32)), .val (.float (FP.i2f sc)), .val (.float f0), .val (.float f1), .val (.float f2), .val (.float f3), .val (.ref ob3), .val (.ref bq11), .unset, .unset, .unset, .unset, .unset] [])
    refine own_go (fun _ => XS.iconst X11.here hx rfl (hb hby at_146)) ?_
    show GG _ _ _ _ _ _ _ T11 (mkF m 147 #[.val (.int p0), .val (.int p1), .val (.int p2), .val (.int p3), .val (.int p4), .val (.int (3 : Int32)), .val (.float (FP.i2f sc)), .val (.float f0), .val (.float f1), .val (.float f2), .val (.float f3), .val (.ref ob3), .val (.ref bq11), .unset, .unset, .unset, .unset, .unset] [(.int (1 : Int32))])
    refine own_go (fun _ => XS.goto X11.here hx rfl (pc0 := 147) (pc' := 151) rfl (hb hby at_147) (by decide) (by decide)) ?_
    show GG _ _ _ _ _ _ _ T11 (mkF m 151 #[.val (.int p0), .val (.int p1), .val (.int p2), .val (.int p3), .val (.int p4), .val (.int (3 : Int32)), .val (.float (FP.i2f sc)), .val (.float f0), .val (.float f1), .val (.float f2), .val (.float f3), .val (.ref ob3), .val (.ref bq11), .unset, .unset, .unset, .unset, .unset] [(.int (1 : Int32))])
    refine own_go (fun _ => XS.istore X11.here hx rfl (hb hby at_151) rfl (l' := #[.val (.int p0), .val (.int p1), .val (.int p2), .val (.int p3), .val (.int p4), .val (.int (3 : Int32)), .val (.float (FP.i2f sc)), .val (.float f0), .val (.float f1), .val (.float f2), .val (.float f3), .val (.ref ob3), .val (.ref bq11), .val (.int (1 : Int32)), .unset, .unset, .unset, .unset]) rfl) ?_
    show GG _ _ _ _ _ _ _ T11 (mkF m 153 #[.val (.int p0), .val (.int p1), .val (.int p2), .val (.int p3), .val (.int p4), .val (.int (3 : Int32)), .val (.float (FP.i2f sc)), .val (.float f0), .val (.float f1), .val (.float f2), .val (.float f3), .val (.ref ob3), .val (.ref bq11), .val (.int (1 : Int32)), .unset, .unset, .unset, .unset] [])
    refine own_go (fun _ => XS.iload X11.here hx rfl (hb hby at_153) rfl) ?_
    show GG _ _ _ _ _ _ _ T11 (mkF m 155 #[.val (.int p0), .val (.int p1), .val (.int p2), .val (.int p3), .val (.int p4), .val (.int (3 : Int32)), .val (.float (FP.i2f sc)), .val (.float f0), .val (.float f1), .val (.float f2), .val (.float f3), .val (.ref ob3), .val (.ref bq11), .val (.int (1 : Int32)), .unset, .unset, .unset, .unset] [(.int (3 : Int32))])
    refine own_go (fun _ => XS.iconst X11.here hx rfl (hb hby at_155)) ?_
    show GG _ _ _ _ _ _ _ T11 (mkF m 156 #[.val (.int p0), .val (.int p1), .val (.int p2), .val (.int p3), .val (.int p4), .val (.int (3 : Int32)), .val (.float (FP.i2f sc)), .val (.float f0), .val (.float f1), .val (.float f2), .val (.float f3), .val (.ref ob3), .val (.ref bq11), .val (.int (1 : Int32)), .unset, .unset, .unset, .unset] [(.int (1 : Int32)), (.int (3 : Int32))])
    have hc156 : ¬ ((3 : Int32) < (1 : Int32)) := by decide
    refine own_go (fun _ => XS.icmpNo X11.here hx rfl (hb hby at_156) rfl (flt hc156).1) ?_
    show GG _ _ _ _ _ _ _ T11 (mkF m 159 #[.val (.int p0), .val (.int p1), .val (.int p2), .val (.int p3), .val (.int p4), .val (.int (3 : Int32)), .val (.float (FP.i2f sc)), .val (.float f0), .val (.float f1), .val (.float f2), .val (.float f3), .val (.ref ob3), .val (.ref bq11), .val (.int (1 : Int32)), .unset, .unset, .unset, .unset] [])
    refine own_go (fun _ => XS.aload X11.here hx rfl (hb hby at_159) rfl rfl) ?_
    show GG _ _ _ _ _ _ _ T11 (mkF m 161 #[.val (.int p0), .val (.int p1), .val (.int p2), .val (.int p3), .val (.int p4), .val (.int (3 : Int32)), .val (.float (FP.i2f sc)), .val (.float f0), .val (.float f1), .val (.float f2), .val (.float f3), .val (.ref ob3), .val (.ref bq11), .val (.int (1 : Int32)), .unset, .unset, .unset, .unset] [(.ref bq11)])
    refine own_go (fun _ => XS.iconst X11.here hx rfl (hb hby at_161)) ?_
    show GG _ _ _ _ _ _ _ T11 (mkF m 162 #[.val (.int p0), .val (.int p1), .val (.int p2), .val (.int p3), .val (.int p4), .val (.int (3 : Int32)), .val (.float (FP.i2f sc)), .val (.float f0), .val (.float f1), .val (.float f2), .val (.float f3), .val (.ref ob3), .val (.ref bq11), .val (.int (1 : Int32)), .unset, .unset, .unset, .unset] [(.int (0 : Int32)), (.ref bq11)])
    refine own_go (fun _ => own_daload X11 hx hZ rfl Vq11 (j := (0 : Int32)) (v := (.double (FP.f2d f0))) (by decide) rfl (g := (mkF m 162 #[.val (.int p0), .val (.int p1), .val (.int p2), .val (.int p3), .val (.int p4), .val (.int (3 : Int32)), .val (.float (FP.i2f sc)), .val (.float f0), .val (.float f1), .val (.float f2), .val (.float f3), .val (.ref ob3), .val (.ref bq11), .val (.int (1 : Int32)), .unset, .unset, .unset, .unset] [(.int (0 : Int32)), (.ref bq11)])) rfl rfl (hb hby at_162) _) ?_
    show GG _ _ _ _ _ _ _ T11 (mkF m 163 #[.val (.int p0), .val (.int p1), .val (.int p2), .val (.int p3), .val (.int p4), .val (.int (3 : Int32)), .val (.float (FP.i2f sc)), .val (.float f0), .val (.float f1), .val (.float f2), .val (.float f3), .val (.ref ob3), .val (.ref bq11), .val (.int (1 : Int32)), .unset, .unset, .unset, .unset] [(.double (FP.f2d f0))])
    refine own_go (fun _ => XS.fload X11.here hx rfl (hb hby at_163) rfl) ?_
    show GG _ _ _ _ _ _ _ T11 (mkF m 165 #[.val (.int p0), .val (.int p1), .val (.int p2), .val (.int p3), .val (.int p4), .val (.int (3 : Int32)), .val (.float (FP.i2f sc)), .val (.float f0), .val (.float f1), .val (.float f2), .val (.float f3), .val (.ref ob3), .val (.ref bq11), .val (.int (1 : Int32)), .unset, .unset, .unset, .unset] [(.float f0), (.double (FP.f2d f0))])
    refine own_go (fun _ => XS.f2dS X11.here hx rfl (hb hby at_165) rfl (Jvm.Free.Fl.f2d_out nn0) rfl) ?_
    show GG _ _ _ _ _ _ _ T11 (mkF m 166 #[.val (.int p0), .val (.int p1), .val (.int p2), .val (.int p3), .val (.int p4), .val (.int (3 : Int32)), .val (.float (FP.i2f sc)), .val (.float f0), .val (.float f1), .val (.float f2), .val (.float f3), .val (.ref ob3), .val (.ref bq11), .val (.int (1 : Int32)), .unset, .unset, .unset, .unset] [(.double (FP.f2d f0)), (.double (FP.f2d f0))])
    refine own_go (fun _ => XS.dcmpS X11.here hx rfl (hb hby at_166) rfl (dcmpV_self (Jvm.Free.Fl.f2d_out nn0) _)) ?_
    show GG _ _ _ _ _ _ _ T11 (mkF m 167 #[.val (.int p0), .val (.int p1), .val (.int p2), .val (.int p3), .val (.int p4), .val (.int (3 : Int32)), .val (.float (FP.i2f sc)), .val (.float f0), .val (.float f1), .val (.float f2), .val (.float f3), .val (.ref ob3), .val (.ref bq11), .val (.int (1 : Int32)), .unset, .unset, .unset, .unset] [(.int (0 : Int32))])
    have hc167 : (0 : Int32) = (0 : Int32) := by decide
    refine own_go (fun _ => XS.ifNo X11.here hx rfl (hb hby at_167) rfl ((if0 _ _).trans (teq hc167).2)) ?_
    show GG _ _ _ _ _ _ _ T11 (mkF m 170 #[.val (.int p0), .val (.int p1), .val (.int p2), .val (.int p3), .val (.int p4), .val (.int (3 : Int32)), .val (.float (FP.i2f sc)), .val (.float f0), .val (.float f1), .val (.float f2), .val (.float f3), .val (.ref ob3), .val (.ref bq11), .val (.int (1 : Int32)), .unset, .unset, .unset, .unset] [])
    refine own_go (fun _ => XS.iconst X11.here hx rfl (hb hby at_170)) ?_
    show GG _ _ _ _ _ _ _ T11 (mkF m 171 #[.val (.int p0), .val (.int p1), .val (.int p2), .val (.int p3), .val (.int p4), .val (.int (3 : Int32)), .val (.float (FP.i2f sc)), .val (.float f0), .val (.float f1), .val (.float f2), .val (.float f3), .val (.ref ob3), .val (.ref bq11), .val (.int (1 : Int32)), .unset, .unset, .unset, .unset] [(.int (1 : Int32))])
    refine own_go (fun _ => XS.goto X11.here hx rfl (pc0 := 171) (pc' := 175) rfl (hb hby at_171) (by decide) (by decide)) ?_
    show GG _ _ _ _ _ _ _ T11 (mkF m 175 #[.val (.int p0), .val (.int p1), .val (.int p2), .val (.int p3), .val (.int p4), .val (.int (3 : Int32)), .val (.float (FP.i2f sc)), .val (.float f0), .val (.float f1), .val (.float f2), .val (.float f3), .val (.ref ob3), .val (.ref bq11), .val (.int (1 : Int32)), .unset, .unset, .unset, .unset] [(.int (1 : Int32))])
    refine own_go (fun _ => XS.istore X11.here hx rfl (hb hby at_175) rfl (l' := #[.val (.int p0), .val (.int p1), .val (.int p2), .val (.int p3), .val (.int p4), .val (.int (3 : Int32)), .val (.float (FP.i2f sc)), .val (.float f0), .val (.float f1), .val (.float f2), .val (.float f3), .val (.ref ob3), .val (.ref bq11), .val (.int (1 : Int32)), .val (.int (1 : Int32)), .unset, .unset, .unset]) rfl) ?_
    show GG _ _ _ _ _ _ _ T11 (mkF m 177 #[.val (.int p0), .val (.int p1), .val (.int p2), .val (.int p3), .val (.int p4), .val (.int (3 : Int32)), .val (.float (FP.i2f sc)), .val (.float f0), .val (.float f1), .val (.float f2), .val (.float f3), .val (.ref ob3), .val (.ref bq11), .val (.int (1 : Int32)), .val (.int (1 : Int32)), .unset, .unset, .unset] [])
    refine own_go (fun _ => XS.iload X11.here hx rfl (hb hby at_177) rfl) ?_
    show GG _ _ _ _ _ _ _ T11 (mkF m 179 #[.val (.int p0), .val (.int p1), .val (.int p2), .val (.int p3), .val (.int p4), .val (.int (3 : Int32)), .val (.float (FP.i2f sc)), .val (.float f0), .val (.float f1), .val (.float f2), .val (.float f3), .val (.ref ob3), .val (.ref bq11), .val (.int (1 : Int32)), .val (.int (1 : Int32)), .unset, .unset, .unset] [(.int (3 : Int32))])
    refine own_go (fun _ => XS.iconst X11.here hx rfl (hb hby at_179)) ?_
    show GG _ _ _ _ _ _ _ T11 (mkF m 180 #[.val (.int p0), .val (.int p1), .val (.int p2), .val (.int p3), .val (.int p4), .val (.int (3 : Int32)), .val (.float (FP.i2f sc)), .val (.float f0), .val (.float f1), .val (.float f2), .val (.float f3), .val (.ref ob3), .val (.ref bq11), .val (.int (1 : Int32)), .val (.int (1 : Int32)), .unset, .unset, .unset] [(.int (2 : Int32)), (.int (3 : Int32))])
    have hc180 : ¬ ((3 : Int32) < (2 : Int32)) := by decide
    refine own_go (fun _ => XS.icmpNo X11.here hx rfl (hb hby at_180) rfl (flt hc180).1) ?_
    show GG _ _ _ _ _ _ _ T11 (mkF m 183 #[.val (.int p0), .val (.int p1), .val (.int p2), .val (.int p3), .val (.int p4), .val (.int (3 : Int32)), .val (.float (FP.i2f sc)), .val (.float f0), .val (.float f1), .val (.float f2), .val (.float f3), .val (.ref ob3), .val (.ref bq11), .val (.int (1 : Int32)), .val (.int (1 : Int32)), .unset, .unset, .unset] [])
    refine own_go (fun _ => XS.aload X11.here hx rfl (hb hby at_183) rfl rfl) ?_
    show GG _ _ _ _ _ _ _ T11 (mkF m 185 #[.val (.int p0), .val (.int p1), .val (.int p2), .val (.int p3), .val (.int p4), .val (.int (3 : Int32)), .val (.float (FP.i2f sc)), .val (.float f0), .val (.float f1), .val (.float f2), .val (.float f3), .val (.ref ob3), .val (.ref bq11), .val (.int (1 : Int32)), .val (.int (1 : Int32)), .unset, .unset, .unset] [(.ref bq11)])
    refine own_go (fun _ => XS.iconst X11.here hx rfl (hb hby at_185)) ?_
    show GG _ _ _ _ _ _ _ T11 (mkF m 186 #[.val (.int p0), .val (.int p1), .val (.int p2), .val (.int p3), .val (.int p4), .val (.int (3 : Int32)), .val (.float (FP.i2f sc)), .val (.float f0), .val (.float f1), .val (.float f2), .val (.float f3), .val (.ref ob3), .val (.ref bq11), .val (.int (1 : Int32)), .val (.int (1 : Int32)), .unset, .unset, .unset] [(.int (1 : Int32)), (.ref bq11)])
    refine own_go (fun _ => own_daload X11 hx hZ rfl Vq11 (j := (1 : Int32)) (v := (.double (FP.f2d f1))) (by decide) rfl (g := (mkF m 186 #[.val (.int p0), .val (.int p1), .val (.int p2), .val (.int p3), .val (.int p4), .val (.int (3 : Int32)), .val (.float (FP.i2f sc)), .val (.float f0), .val (.float f1), .val (.float f2), .val (.float f3), .val (.ref ob3), .val (.ref bq11), .val (.int (1 : Int32)), .val (.int (1 : Int32)), .unset, .unset, .unset] [(.int (1 : Int32)), (.ref bq11)])) rfl rfl (hb hby at_186) _) ?_
    show GG _ _ _ _ _ _ _ T11 (mkF m 187 #[.val (.int p0), .val (.int p1), .val (.int p2), .val (.int p3), .val (.int p4), .val (.int (3 : Int32)), .val (.float (FP.i2f sc)), .val (.float f0), .val (.float f1), .val (.float f2), .val (.float f3), .val (.ref ob3), .val (.ref bq11), .val (.int (1 : Int32)), .val (.int (1 : Int32)), .unset, .unset, .unset] [(.double (FP.f2d f1))])
    refine own_go (fun _ => XS.fload X11.here hx rfl (hb hby at_187) rfl) ?_
    show GG _ _ _ _ _ _ _ T11 (mkF m 189 #[.val (.int p0), .val (.int p1), .val (.int p2), .val (.int p3), .val (.int p4), .val (.int (3 : Int32)), .val (.float (FP.i2f sc)), .val (.float f0), .val (.float f1), .val (.float f2), .val (.float f3), .val (.ref ob3), .val (.ref bq11), .val (.int (1 : Int32)), .val (.int (1 : Int32)), .unset, .unset, .unset] [(.float f1), (.double (FP.f2d f1))])
    refine own_go (fun _ => XS.f2dS X11.here hx rfl (hb hby at_189) rfl (Jvm.Free.Fl.f2d_out nn1) rfl) ?_
    show GG _ _ _ _ _ _ _ T11 (mkF m 190 #[.val (.int p0), .val (.int p1), .val (.int p2), .val (.int p3), .val (.int p4), .val (.int (3 : Int32)), .val (.float (FP.i2f sc)), .val (.float f0), .val (.float f1), .val (.float f2), .val (.float f3), .val (.ref ob3), .val (.ref bq11), .val (.int (1 : Int32)), .val (.int (1 : Int32)), .unset, .unset, .unset] [(.double (FP.f2d f1)), (.double (FP.f2d f1))])
    refine own_go (fun _ => XS.dcmpS X11.here hx rfl (hb hby at_190) rfl (dcmpV_self (Jvm.Free.Fl.f2d_out nn1) _)) ?_
    show GG _ _ _ _ _ _ _ T11 (mkF m 191 #[.val (.int p0), .val (.int p1), .val (.int p2), .val (.int p3), .val (.int p4), .val (.int (3 : Int32)), .val (.float (FP.i2f sc)), .val (.float f0), .val (.float f1), .val (.float f2), .val (.float f3), .val (.ref ob3), .val (.ref bq11), .val (.int (1 : Int32)), .val (.int (1 : Int32)), .unset, .unset, .unset] [(.int (0 : Int32))])
    have hc191 : (0 : Int32) = (0 : Int32) := by decide
    refine own_go (fun _ => XS.ifNo X11.here hx rfl (hb hby at_191) rfl ((if0 _ _).trans (teq hc191).2)) ?_
    show GG _ _ _ _ _ _ _ T11 (mkF m 194 #[.val (.int p0), .val (.int p1), .val (.int p2), .val (.int p3), .val (.int p4), .val (.int (3 : Int32)), .val (.float (FP.i2f sc)), .val (.float f0), .val (.float f1), .val (.float f2), .val (.float f3), .val (.ref ob3), .val (.ref bq11), .val (.int (1 : Int32)), .val (.int (1 : Int32)), .unset, .unset, .unset] [])
    refine own_go (fun _ => XS.iconst X11.here hx rfl (hb hby at_194)) ?_
    show GG _ _ _ _ _ _ _ T11 (mkF m 195 #[.val (.int p0), .val (.int p1), .val (.int p2), .val (.int p3), .val (.int p4), .val (.int (3 : Int32)), .val (.float (FP.i2f sc)), .val (.float f0), .val (.float f1), .val (.float f2), .val (.float f3), .val (.ref ob3), .val (.ref bq11), .val (.int (1 : Int32)), .val (.int (1 : Int32)), .unset, .unset, .unset] [(.int (1 : Int32))])
    refine own_go (fun _ => XS.goto X11.here hx rfl (pc0 := 195) (pc' := 199) rfl (hb hby at_195) (by decide) (by decide)) ?_
    show GG _ _ _ _ _ _ _ T11 (mkF m 199 #[.val (.int p0), .val (.int p1), .val (.int p2), .val (.int p3), .val (.int p4), .val (.int (3 : Int32)), .val (.float (FP.i2f sc)), .val (.float f0), .val (.float f1), .val (.float f2), .val (.float f3), .val (.ref ob3), .val (.ref bq11), .val (.int (1 : Int32)), .val (.int (1 : Int32)), .unset, .unset, .unset] [(.int (1 : Int32))])
    refine own_go (fun _ => XS.istore X11.here hx rfl (hb hby at_199) rfl (l' := #[.val (.int p0), .val (.int p1), .val (.int p2), .val (.int p3), .val (.int p4), .val (.int (3 : Int32)), .val (.float (FP.i2f sc)), .val (.float f0), .val (.float f1), .val (.float f2), .val (.float f3), .val (.ref ob3), .val (.ref bq11), .val (.int (1 : Int32)), .val (.int (1 : Int32)), .val (.int (1 : Int32)), .unset, .unset]) rfl) ?_
    show GG _ _ _ _ _ _ _ T11 (mkF m 201 #[.val (.int p0), .val (.int p1), .val (.int p2), .val (.int p3), .val (.int p4), .val (.int (3 : Int32)), .val (.float (FP.i2f sc)), .val (.float f0), .val (.float f1), .val (.float f2), .val (.float f3), .val (.ref ob3), .val (.ref bq11), .val (.int (1 : Int32)), .val (.int (1 : Int32)), .val (.int (1 : Int32)), .unset, .unset] [])
    refine own_go (fun _ => XS.iload X11.here hx rfl (hb hby at_201) rfl) ?_
    show GG _ _ _ _ _ _ _ T11 (mkF m 203 #[.val (.int p0), .val (.int p1), .val (.int p2), .val (.int p3), .val (.int p4), .val (.int (3 : Int32)), .val (.float (FP.i2f sc)), .val (.float f0), .val (.float f1), .val (.float f2), .val (.float f3), .val (.ref ob3), .val (.ref bq11), .val (.int (1 : Int32)), .val (.int (1 : Int32)), .val (.int (1 : Int32)), .unset, .unset] [(.int (3 : Int32))])
    refine own_go (fun _ => XS.iconst X11.here hx rfl (hb hby at_203)) ?_
    show GG _ _ _ _ _ _ _ T11 (mkF m 204 #[.val (.int p0), .val (.int p1), .val (.int p2), .val (.int p3), .val (.int p4), .val (.int (3 : Int32)), .val (.float (FP.i2f sc)), .val (.float f0), .val (.float f1), .val (.float f2), .val (.float f3), .val (.ref ob3), .val (.ref bq11), .val (.int (1 : Int32)), .val (.int (1 : Int32)), .val (.int (1 : Int32)), .unset, .unset] [(.int (3 : Int32)), (.int (3 : Int32))])
    have hc204 : ¬ ((3 : Int32) < (3 : Int32)) := by decide
    refine own_go (fun _ => XS.icmpNo X11.here hx rfl (hb hby at_204) rfl (flt hc204).1) ?_
    show GG _ _ _ _ _ _ _ T11 (mkF m 207 #[.val (.int p0), .val (.int p1), .val (.int p2), .val (.int p3), .val (.int p4), .val (.int (3 : Int32)), .val (.float (FP.i2f sc)), .val (.float f0), .val (.float f1), .val (.float f2), .val (.float f3), .val (.ref ob3), .val (.ref bq11), .val (.int (1 : Int32)), .val (.int (1 : Int32)), .val (.int (1 : Int32)), .unset, .unset] [])
    refine own_go (fun _ => XS.aload X11.here hx rfl (hb hby at_207) rfl rfl) ?_
    show GG _ _ _ _ _ _ _ T11 (mkF m 209 #[.val (.int p0), .val (.int p1), .val (.int p2), .val (.int p3), .val (.int p4), .val (.int (3 : Int32)), .val (.float (FP.i2f sc)), .val (.float f0), .val (.float f1), .val (.float f2), .val (.float f3), .val (.ref ob3), .val (.ref bq11), .val (.int (1 : Int32)), .val (.int (1 : Int32)), .val (.int (1 : Int32)), .unset, .unset] [(.ref bq11)])
    refine own_go (fun _ => XS.iconst X11.here hx rfl (hb hby at_209)) ?_
    show GG _ _ _ _ _ _ _ T11 (mkF m 210 #[.val (.int p0), .val (.int p1), .val (.int p2), .val (.int p3), .val (.int p4), .val (.int (3 : Int32)), .val (.float (FP.i2f sc)), .val (.float f0), .val (.float f1), .val (.float f2), .val (.float f3), .val (.ref ob3), .val (.ref bq11), .val (.int (1 : Int32)), .val (.int (1 : Int32)), .val (.int (1 : Int32)), .unset, .unset] [(.int (2 : Int32)), (.ref bq11)])
    refine own_go (fun _ => own_daload X11 hx hZ rfl Vq11 (j := (2 : Int32)) (v := (.double (FP.f2d f2))) (by decide) rfl (g := (mkF m 210 #[.val (.int p0), .val (.int p1), .val (.int p2), .val (.int p3), .val (.int p4), .val (.int (3 : Int32)), .val (.float (FP.i2f sc)), .val (.float f0), .val (.float f1), .val (.float f2), .val (.float f3), .val (.ref ob3), .val (.ref bq11), .val (.int (1 : Int32)), .val (.int (1 : Int32)), .val (.int (1 : Int32)), .unset, .unset] [(.int (2 : Int32)), (.ref bq11)])) rfl rfl (hb hby at_210) _) ?_
    show GG _ _ _ _ _ _ _ T11 (mkF m 211 #[.val (.int p0), .val (.int p1), .val (.int p2), .val (.int p3), .val (.int p4), .val (.int (3 : Int32)), .val (.float (FP.i2f sc)), .val (.float f0), .val (.float f1), .val (.float f2), .val (.float f3), .val (.ref ob3), .val (.ref bq11), .val (.int (1 : Int32)), .val (.int (1 : Int32)), .val (.int (1 : Int32)), .unset, .unset] [(.double (FP.f2d f2))])
    refine own_go (fun _ => XS.fload X11.here hx rfl (hb hby at_211) rfl) ?_
    show GG _ _ _ _ _ _ _ T11 (mkF m 213 #[.val (.int p0), .val (.int p1), .val (.int p2), .val (.int p3), .val (.int p4), .val (.int (3 : Int32)), .val (.float (FP.i2f sc)), .val (.float f0), .val (.float f1), .val (.float f2), .val (.float f3), .val (.ref ob3), .val (.ref bq11), .val (.int (1 : Int32)), .val (.int (1 : Int32)), .val (.int (1 : Int32)), .unset, .unset] [(.float f2), (.double (FP.f2d f2))])
    refine own_go (fun _ => XS.f2dS X11.here hx rfl (hb hby at_213) rfl (Jvm.Free.Fl.f2d_out nn2) rfl) ?_
    show GG _ _ _ _ _ _ _ T11 (mkF m 214 #[.val (.int p0), .val (.int p1), .val (.int p2), .val (.int p3), .val (.int p4), .val (.int (3 : Int32)), .val (.float (FP.i2f sc)), .val (.float f0), .val (.float f1), .val (.float f2), .val (.float f3), .val (.ref ob3), .val (.ref bq11), .val (.int (1 : Int32)), .val (.int (1 : Int32)), .val (.int (1 : Int32)), .unset, .unset] [(.double (FP.f2d f2)), (.double (FP.f2d f2))])
    refine own_go (fun _ => XS.dcmpS X11.here hx rfl (hb hby at_214) rfl (dcmpV_self (Jvm.Free.Fl.f2d_out nn2) _)) ?_
    show GG _ _ _ _ _ _ _ T11 (mkF m 215 #[.val (.int p0), .val (.int p1), .val (.int p2), .val (.int p3), .val (.int p4), .val (.int (3 : Int32)), .val (.float (FP.i2f sc)), .val (.float f0), .val (.float f1), .val (.float f2), .val (.float f3), .val (.ref ob3), .val (.ref bq11), .val (.int (1 : Int32)), .val (.int (1 : Int32)), .val (.int (1 : Int32)), .unset, .unset] [(.int (0 : Int32))])
    have hc215 : (0 : Int32) = (0 : Int32) := by decide
    refine own_go (fun _ => XS.ifNo X11.here hx rfl (hb hby at_215) rfl ((if0 _ _).trans (teq hc215).2)) ?_
    show GG _ _ _ _ _ _ _ T11 (mkF m 218 #[.val (.int p0), .val (.int p1), .val (.int p2), .val (.int p3), .val (.int p4), .val (.int (3 : Int32)), .val (.float (FP.i2f sc)), .val (.float f0), .val (.float f1), .val (.float f2), .val (.float f3), .val (.ref ob3), .val (.ref bq11), .val (.int (1 : Int32)), .val (.int (1 : Int32)), .val (.int (1 : Int32)), .unset, .unset] [])
    refine own_go (fun _ => XS.iconst X11.here hx rfl (hb hby at_218)) ?_
    show GG _ _ _ _ _ _ _ T11 (mkF m 219 #[.val (.int p0), .val (.int p1), .val (.int p2), .val (.int p3), .val (.int p4), .val (.int (3 : Int32)), .val (.float (FP.i2f sc)), .val (.float f0), .val (.float f1), .val (.float f2), .val (.float f3), .val (.ref ob3), .val (.ref bq11), .val (.int (1 : Int32)), .val (.int (1 : Int32)), .val (.int (1 : Int32)), .unset, .unset] [(.int (1 : Int32))])
    refine own_go (fun _ => XS.goto X11.here hx rfl (pc0 := 219) (pc' := 223) rfl (hb hby at_219) (by decide) (by decide)) ?_
    show GG _ _ _ _ _ _ _ T11 (mkF m 223 #[.val (.int p0), .val (.int p1), .val (.int p2), .val (.int p3), .val (.int p4), .val (.int (3 : Int32)), .val (.float (FP.i2f sc)), .val (.float f0), .val (.float f1), .val (.float f2), .val (.float f3), .val (.ref ob3), .val (.ref bq11), .val (.int (1 : Int32)), .val (.int (1 : Int32)), .val (.int (1 : Int32)), .unset, .unset] [(.int (1 : Int32))])
    refine own_go (fun _ => XS.istore X11.here hx rfl (hb hby at_223) rfl (l' := #[.val (.int p0), .val (.int p1), .val (.int p2), .val (.int p3), .val (.int p4), .val (.int (3 : Int32)), .val (.float (FP.i2f sc)), .val (.float f0), .val (.float f1), .val (.float f2), .val (.float f3), .val (.ref ob3), .val (.ref bq11), .val (.int (1 : Int32)), .val (.int (1 : Int32)), .val (.int (1 : Int32)), .val (.int (1 : Int32)), .unset]) rfl) ?_
    show GG _ _ _ _ _ _ _ T11 (mkF m 225 #[.val (.int p0), .val (.int p1), .val (.int p2), .val (.int p3), .val (.int p4), .val (.int (3 : Int32)), .val (.float (FP.i2f sc)), .val (.float f0), .val (.float f1), .val (.float f2), .val (.float f3), .val (.ref ob3), .val (.ref bq11), .val (.int (1 : Int32)), .val (.int (1 : Int32)), .val (.int (1 : Int32)), .val (.int (1 : Int32)), .unset] [])
    refine own_go (fun _ => XS.iload X11.here hx rfl (hb hby at_225) rfl) ?_
    show GG _ _ _ _ _ _ _ T11 (mkF m 227 #[.val (.int p0), .val (.int p1), .val (.int p2), .val (.int p3), .val (.int p4), .val (.int (3 : Int32)), .val (.float (FP.i2f sc)), .val (.float f0), .val (.float f1), .val (.float f2), .val (.float f3), .val (.ref ob3), .val (.ref bq11), .val (.int (1 : Int32)), .val (.int (1 : Int32)), .val (.int (1 : Int32)), .val (.int (1 : Int32)), .unset] [(.int (3 : Int32))])
    refine own_go (fun _ => XS.iconst X11.here hx rfl (hb hby at_227)) ?_
    show GG _ _ _ _ _ _ _ T11 (mkF m 228 #[.val (.int p0), .val (.int p1), .val (.int p2), .val (.int p3), .val (.int p4), .val (.int (3 : Int32)), .val (.float (FP.i2f sc)), .val (.float f0), .val (.float f1), .val (.float f2), .val (.float f3), .val (.ref ob3), .val (.ref bq11), .val (.int (1 : Int32)), .val (.int (1 : Int32)), .val (.int (1 : Int32)), .val (.int (1 : Int32)), .unset] [(.int (4 : Int32)), (.int (3 : Int32))])
    have hc228 : (3 : Int32) < (4 : Int32) := by decide
    refine own_go (fun _ => XS.icmpYes X11.here hx rfl (pc0 := 228) (pc' := 242) rfl (hb hby at_228) rfl (tlt hc228).1 (by decide) (by decide)) ?_
    show GG _ _ _ _ _ _ _ T11 (mkF m 242 #[.val (.int p0), .val (.int p1), .val (.int p2), .val (.int p3), .val (.int p4), .val (.int (3 : Int32)), .val (.float (FP.i2f sc)), .val (.float f0), .val (.float f1), .val (.float f2), .val (.float f3), .val (.ref ob3), .val (.ref bq11), .val (.int (1 : Int32)), .val (.int (1 : Int32)), .val (.int (1 : Int32)), .val (.int (1 : Int32)), .unset] [])
    refine own_go (fun _ => XS.iconst X11.here hx rfl (hb hby at_242)) ?_
    show GG _ _ _ _ _ _ _ T11 (mkF m 243 #[.val (.int p0), .val (.int p1), .val (.int p2), .val (.int p3), .val (.int p4), .val (.int (3 : Int32)), .val (.float (FP.i2f sc)), .val (.float f0), .val (.float f1), .val (.float f2), .val (.float f3), .val (.ref ob3), .val (.ref bq11), .val (.int (1 : Int32)), .val (.int (1 : Int32)), .val (.int (1 : Int32)), .val (.int (1 : Int32)), .unset] [(.int (1 : Int32))])
    refine own_go (fun _ => XS.goto X11.here hx rfl (pc0 := 243) (pc' := 247) rfl (hb hby at_243) (by decide) (by decide)) ?_
    show GG _ _ _ _ _ _ _ T11 (mkF m 247 #[.val (.int p0), .val (.int p1), .val (.int p2), .val (.int p3), .val (.int p4), .val (.int (3 : Int32)), .val (.float (FP.i2f sc)), .val (.float f0), .val (.float f1), .val (.float f2), .val (.float f3), .val (.ref ob3), .val (.ref bq11), .val (.int (1 : Int32)), .val (.int (1 : Int32)), .val (.int (1 : Int32)), .val (.int (1 : Int32)), .unset] [(.int (1 : Int32))])
    refine own_go (fun _ => XS.istore X11.here hx rfl (hb hby at_247) rfl (l' := #[.val (.int p0), .val (.int p1), .val (.int p2), .val (.int p3), .val (.int p4), .val (.int (3 : Int32)), .val (.float (FP.i2f sc)), .val (.float f0), .val (.float f1), .val (.float f2), .val (.float f3), .val (.ref ob3), .val (.ref bq11), .val (.int (1 : Int32)), .val (.int (1 : Int32)), .val (.int (1 : Int32)), .val (.int (1 : Int32)), .val (.int (1 : Int32))]) rfl) ?_
    show GG _ _ _ _ _ _ _ T11 (mkF m 249 #[.val (.int p0), .val (.int p1), .val (.int p2), .val (.int p3), .val (.int p4), .val (.int (3 : Int32)), .val (.float (FP.i2f sc)), .val (.float f0), .val (.float f1), .val (.float f2), .val (.float f3), .val (.ref ob3), .val (.ref bq11), .val (.int (1 : Int32)), .val (.int (1 : Int32)), .val (.int (1 : Int32)), .val (.int (1 : Int32)), .val (.int (1 : Int32))] [])
    refine own_go (fun _ => XS.iload X11.here hx rfl (hb hby at_249) rfl) ?_
    show GG _ _ _ _ _ _ _ T11 (mkF m 251 #[.val (.int p0), .val (.int p1), .val (.int p2), .val (.int p3), .val (.int p4), .val (.int (3 : Int32)), .val (.float (FP.i2f sc)), .val (.float f0), .val (.float f1), .val (.float f2), .val (.float f3), .val (.ref ob3), .val (.ref bq11), .val (.int (1 : Int32)), .val (.int (1 : Int32)), .val (.int (1 : Int32)), .val (.int (1 : Int32)), .val (.int (1 : Int32))] [(.int (1 : Int32))])
    have hc251 : ¬ ((1 : Int32) = (0 : Int32)) := by decide
    refine own_go (fun _ => XS.ifNo X11.here hx rfl (hb hby at_251) rfl ((if0 _ _).trans (feq hc251).1)) ?_
    show GG _ _ _ _ _ _ _ T11 (mkF m 254 #[.val (.int p0), .val (.int p1), .val (.int p2), .val (.int p3), .val (.int p4), .val (.int (3 : Int32)), .val (.float (FP.i2f sc)), .val (.float f0), .val (.float f1), .val (.float f2), .val (.float f3), .val (.ref ob3), .val (.ref bq11), .val (.int (1 : Int32)), .val (.int (1 : Int32)), .val (.int (1 : Int32)), .val (.int (1 : Int32)), .val (.int (1 : Int32))] [])
    refine own_go (fun _ => XS.iload X11.here hx rfl (hb hby at_254) rfl) ?_
    show GG _ _ _ _ _ _ _ T11 (mkF m 256 #[.val (.int p0), .val (.int p1), .val (.int p2), .val (.int p3), .val (.int p4), .val (.int (3 : Int32)), .val (.float (FP.i2f sc)), .val (.float f0), .val (.float f1), .val (.float f2), .val (.float f3), .val (.ref ob3), .val (.ref bq11), .val (.int (1 : Int32)), .val (.int (1 : Int32)), .val (.int (1 : Int32)), .val (.int (1 : Int32)), .val (.int (1 : Int32))] [(.int (1 : Int32))])
    have hc256 : ¬ ((1 : Int32) = (0 : Int32)) := by decide
    refine own_go (fun _ => XS.ifNo X11.here hx rfl (hb hby at_256) rfl ((if0 _ _).trans (feq hc256).1)) ?_
    show GG _ _ _ _ _ _ _ T11 (mkF m 259 #[.val (.int p0), .val (.int p1), .val (.int p2), .val (.int p3), .val (.int p4), .val (.int (3 : Int32)), .val (.float (FP.i2f sc)), .val (.float f0), .val (.float f1), .val (.float f2), .val (.float f3), .val (.ref ob3), .val (.ref bq11), .val (.int (1 : Int32)), .val (.int (1 : Int32)), .val (.int (1 : Int32)), .val (.int (1 : Int32)), .val (.int (1 : Int32))] [])
    refine own_go (fun _ => XS.iload X11.here hx rfl (hb hby at_259) rfl) ?_
    show GG _ _ _ _ _ _ _ T11 (mkF m 261 #[.val (.int p0), .val (.int p1), .val (.int p2), .val (.int p3), .val (.int p4), .val (.int (3 : Int32)), .val (.float (FP.i2f sc)), .val (.float f0), .val (.float f1), .val (.float f2), .val (.float f3), .val (.ref ob3), .val (.ref bq11), .val (.int (1 : Int32)), .val (.int (1 : Int32)), .val (.int (1 : Int32)), .val (.int (1 : Int32)), .val (.int (1 : Int32))] [(.int (1 : Int32))])
    have hc261 : ¬ ((1 : Int32) = (0 : Int32)) := by decide
    refine own_go (fun _ => XS.ifNo X11.here hx rfl (hb hby at_261) rfl ((if0 _ _).trans (feq hc261).1)) ?_
    show GG _ _ _ _ _ _ _ T11 (mkF m 264 #[.val (.int p0), .val (.int p1), .val (.int p2), .val (.int p3), .val (.int p4), .val (.int (3 : Int32)), .val (.float (FP.i2f sc)), .val (.float f0), .val (.float f1), .val (.float f2), .val (.float f3), .val (.ref ob3), .val (.ref bq11), .val (.int (1 : Int32)), .val (.int (1 : Int32)), .val (.int (1 : Int32)), .val (.int (1 : Int32)), .val (.int (1 : Int32))] [])
    refine own_go (fun _ => XS.iload X11.here hx rfl (hb hby at_264) rfl) ?_
    show GG _ _ _ _ _ _ _ T11 (mkF m 266 #[.val (.int p0), .val (.int p1), .val (.int p2), .val (.int p3), .val (.int p4), .val (.int (3 : Int32)), .val (.float (FP.i2f sc)), .val (.float f0), .val (.float f1), .val (.float f2), .val (.float f3), .val (.ref ob3), .val (.ref bq11), .val (.int (1 : Int32)), .val (.int (1 : Int32)), .val (.int (1 : Int32)), .val (.int (1 : Int32)), .val (.int (1 : Int32))] [(.int (1 : Int32))])
    have hc266 : ¬ ((1 : Int32) = (0 : Int32)) := by decide
    refine own_go (fun _ => XS.ifNo X11.here hx rfl (hb hby at_266) rfl ((if0 _ _).trans (feq hc266).1)) ?_
    show GG _ _ _ _ _ _ _ T11 (mkF m 269 #[.val (.int p0), .val (.int p1), .val (.int p2), .val (.int p3), .val (.int p4), .val (.int (3 : Int32)), .val (.float (FP.i2f sc)), .val (.float f0), .val (.float f1), .val (.float f2), .val (.float f3), .val (.ref ob3), .val (.ref bq11), .val (.int (1 : Int32)), .val (.int (1 : Int32)), .val (.int (1 : Int32)), .val (.int (1 : Int32)), .val (.int (1 : Int32))] [])
    refine own_go (fun _ => XS.iload X11.here hx rfl (hb hby at_269) rfl) ?_
    show GG _ _ _ _ _ _ _ T11 (mkF m 271 #[.val (.int p0), .val (.int p1), .val (.int p2), .val (.int p3), .val (.int p4), .val (.int (3 : Int32)), .val (.float (FP.i2f sc)), .val (.float f0), .val (.float f1), .val (.float f2), .val (.float f3), .val (.ref ob3), .val (.ref bq11), .val (.int (1 : Int32)), .val (.int (1 : Int32)), .val (.int (1 : Int32)), .val (.int (1 : Int32)), .val (.int (1 : Int32))] [(.int (1 : Int32))])
    have hc271 : ¬ ((1 : Int32) = (0 : Int32)) := by decide
    refine own_go (fun _ => XS.ifNo X11.here hx rfl (hb hby at_271) rfl ((if0 _ _).trans (feq hc271).1)) ?_
    show GG _ _ _ _ _ _ _ T11 (mkF m 274 #[.val (.int p0), .val (.int p1), .val (.int p2), .val (.int p3), .val (.int p4), .val (.int (3 : Int32)), .val (.float (FP.i2f sc)), .val (.float f0), .val (.float f1), .val (.float f2), .val (.float f3), .val (.ref ob3), .val (.ref bq11), .val (.int (1 : Int32)), .val (.int (1 : Int32)), .val (.int (1 : Int32)), .val (.int (1 : Int32)), .val (.int (1 : Int32))] [])
    refine own_go (fun _ => XS.iconst X11.here hx rfl (hb hby at_274)) ?_
    show GG _ _ _ _ _ _ _ T11 (mkF m 275 #[.val (.int p0), .val (.int p1), .val (.int p2), .val (.int p3), .val (.int p4), .val (.int (3 : Int32)), .val (.float (FP.i2f sc)), .val (.float f0), .val (.float f1), .val (.float f2), .val (.float f3), .val (.ref ob3), .val (.ref bq11), .val (.int (1 : Int32)), .val (.int (1 : Int32)), .val (.int (1 : Int32)), .val (.int (1 : Int32)), .val (.int (1 : Int32))] [(.int (1 : Int32))])
    refine own_go (fun _ => XS.goto X11.here hx rfl (pc0 := 275) (pc' := 279) rfl (hb hby at_275) (by decide) (by decide)) ?_
    show GG _ _ _ _ _ _ _ T11 (mkF m 279 #[.val (.int p0), .val (.int p1), .val (.int p2), .val (.int p3), .val (.int p4), .val (.int (3 : Int32)), .val (.float (FP.i2f sc)), .val (.float f0), .val (.float f1), .val (.float f2), .val (.float f3), .val (.ref ob3), .val (.ref bq11), .val (.int (1 : Int32)), .val (.int (1 : Int32)), .val (.int (1 : Int32)), .val (.int (1 : Int32)), .val (.int (1 : Int32))] [(.int (1 : Int32))])
    refine own_ret X11 hx hlk (t := .boolean) (w := (.int (1 : Int32))) Bd.returns rfl (Or.inl ⟨rfl, by simp, _, rfl⟩) (hb hby at_279) (by decide) (by decide) ?_
    show Q0 Z p0 p1 p2 p3 p4 h0 n0 (some (.int (1 : Int32))) T11.heap _
    exact ⟨rfl, N11⟩
  · skip
    subst hsel
    show GG _ _ _ _ _ _ _ T7 (mkF m 75 #[.val (.int p0), .val (.int p1), .val (.int p2), .val (.int p3), .val (.int p4), .val (.int (4 : Int32)), .val (.float (FP.i2f sc)), .val (.float f0), .val (.float f1), .val (.float f2), .val (.float f3), .val (.ref ob3), .unset, .unset, .unset, .unset, .unset, .unset] [])
    refine own_go (fun _ => XS.aload X7.here hx rfl (hb hby at_75) rfl rfl) ?_
    show GG _ _ _ _ _ _ _ T7 (mkF m 77 #[.val (.int p0), .val (.int p1), .val (.int p2), .val (.int p3), .val (.int p4), .val (.int (4 : Int32)), .val (.float (FP.i2f sc)), .val (.float f0), .val (.float f1), .val (.float f2), .val (.float f3), .val (.ref ob3), .unset, .unset, .unset, .unset, .unset, .unset] [(.ref ob3)])
    refine own_go (fun _ => XS.iload X7.here hx rfl (hb hby at_77) rfl) ?_
    show GG _ _ _ _ _ _ _ T7 (mkF m 79 #[.val (.int p0), .val (.int p1), .val (.int p2), .val (.int p3), .val (.int p4), .val (.int (4 : Int32)), .val (.float (FP.i2f sc)), .val (.float f0), .val (.float f1), .val (.float f2), .val (.float f3), .val (.ref ob3), .unset, .unset, .unset, .unset, .unset, .unset] [(.int (4 : Int32)), (.ref ob3)])
    refine own_callS X7 hx hZ (y := (⟨"com/example/hadamint/hadamint/Queries", "widened", "([FI)[D"⟩ : MethodName)) 0 hown (hw _ (List.mem_of_getElem? (i := 2) rfl)) (hw _ (List.mem_of_getElem? (i := 3) rfl)) (hw _ (List.mem_of_getElem? (i := 4) rfl)) (hw _ (List.mem_of_getElem? (i := 5) rfl)) (by decide) (argsL := [(.ref ob3), (.int (4 : Int32))]) (rest := []) (rm1_4 l Z a0 hw [] ob3 f0 f1 f2 f3 h7 n0 (Nat.le_trans Z0 K0.1) V_ob3 nn0 nn1 nn2 nn3) (by decide) (by decide) (by decide) (by decide) (g := (mkF m 79 #[.val (.int p0), .val (.int p1), .val (.int p2), .val (.int p3), .val (.int p4), .val (.int (4 : Int32)), .val (.float (FP.i2f sc)), .val (.float f0), .val (.float f1), .val (.float f2), .val (.float f3), .val (.ref ob3), .unset, .unset, .unset, .unset, .unset, .unset] [(.int (4 : Int32)), (.ref ob3)])) rfl (by rw [hml]; rfl) (lenOf pd___FI__D_474 rfl) rfl (by show 2 * 0 + _ ≤ _; exact Nat.le_of_eq rfl) (hb hby at_79) e7 ?_
    rintro v12 T12 L12 X12 ⟨bq12, rfl, N12q, szq12, Kq12, Vq12⟩
    have N12 := Fr.app N7 N12q
    have K0 := K0.trans Kq12 all0
    have V_ob3 := V_ob3.keep Kq12 nin0
    have E_ob3 := E_ob3.keep Kq12
    show GG _ _ _ _ _ _ _ T12 (mkF m 82 #[.val (.int p0), .val (.int p1), .val (.int p2), .val (.int p3), .val (.int p4), .val (.int (4 : Int32)), .val (.float (FP.i2f sc)), .val (.float f0), .val (.float f1), .val (.float f2), .val (.float f3), .val (.ref ob3), .unset, .unset, .unset, .unset, .unset, .unset] [(.ref bq12)])
    refine own_go (fun _ => XS.astore X12.here hx rfl (hb hby at_82) rfl rfl (l' := #[.val (.int p0), .val (.int p1), .val (.int p2), .val (.int p3), .val (.int p4), .val (.int (4 : Int32)), .val (.float (FP.i2f sc)), .val (.float f0), .val (.float f1), .val (.float f2), .val (.float f3), .val (.ref ob3), .val (.ref bq12), .unset, .unset, .unset, .unset, .unset]) rfl) ?_
    show GG _ _ _ _ _ _ _ T12 (mkF m 84 #[.val (.int p0), .val (.int p1), .val (.int p2), .val (.int p3), .val (.int p4), .val (.int (4 : Int32)), .val (.float (FP.i2f sc)), .val (.float f0), .val (.float f1), .val (.float f2), .val (.float f3), .val (.ref ob3), .val (.ref bq12), .unset, .unset, .unset, .unset, .unset] [])
    refine own_go (fun _ => XS.aload X12.here hx rfl (hb hby at_84) rfl rfl) ?_
    show GG _ _ _ _ _ _ _ T12 (mkF m 86 #[.val (.int p0), .val (.int p1), .val (.int p2), .val (.int p3), .val (.int p4), .val (.int (4 : Int32)), .val (.float (FP.i2f sc)), .val (.float f0), .val (.float f1), .val (.float f2), .val (.float f3), .val (.ref ob3), .val (.ref bq12), .unset, .unset, .unset, .unset, .unset] [(.ref bq12)])
    refine own_go (fun _ => XS.ifnullNo X12.here hx rfl (hb hby at_86) rfl) ?_
    show GG _ _ _ _ _ _ _ T12 (mkF m 89 #[.val (.int p0), .val (.int p1), .val (.int p2), .val (.int p3), .val (.int p4), .val (.int (4 : Int32)), .val (.float (FP.i2f sc)), .val (.float f0), .val (.float f1), .val (.float f2), .val (.float f3), .val (.ref ob3), .val (.ref bq12), .unset, .unset, .unset, .unset, .unset] [])
    refine own_go (fun _ => XS.aload X12.here hx rfl (hb hby at_89) rfl rfl) ?_
    show GG _ _ _ _ _ _ _ T12 (mkF m 91 #[.val (.int p0), .val (.int p1), .val (.int p2), .val (.int p3), .val (.int p4), .val (.int (4 : Int32)), .val (.float (FP.i2f sc)), .val (.float f0), .val (.float f1), .val (.float f2), .val (.float f3), .val (.ref ob3), .val (.ref bq12), .unset, .unset, .unset, .unset, .unset] [(.ref bq12)])
    refine own_go (fun _ => own_len X12 hx hZ rfl Vq12 (g := (mkF m 91 #[.val (.int p0), .val (.int p1), .val (.int p2), .val (.int p3), .val (.int p4), .val (.int (4 : Int32)), .val (.float (FP.i2f sc)), .val (.float f0), .val (.float f1), .val (.float f2), .val (.float f3), .val (.ref ob3), .val (.ref bq12), .unset, .unset, .unset, .unset, .unset] [(.ref bq12)])) rfl rfl (hb hby at_91) _) ?_
    show GG _ _ _ _ _ _ _ T12 (mkF m 92 #[.val (.int p0), .val (.int p1), .val (.int p2), .val (.int p3), .val (.int p4), .val (.int (4 : Int32)), .val (.float (FP.i2f sc)), .val (.float f0), .val (.float f1), .val (.float f2), .val (.float f3), .val (.ref ob3), .val (.ref bq12), .unset, .unset, .unset, .unset, .unset] [(.int (4 : Int32))])
    refine own_go (fun _ => XS.iload X12.here hx rfl (hb hby at_92) rfl) ?_
    show GG _ _ _ _ _ _ _ T12 (mkF m 94 #[.val (.int p0), .val (.int p1), .val (.int p2), .val (.int p3), .val (.int p4), .val (.int (4 : Int32)), .val (.float (FP.i2f sc)), .val (.float f0), .val (.float f1), .val (.float f2), .val (.float f3), .val (.ref ob3), .val (.ref bq12), .unset, .unset, .unset, .unset, .unset] [(.int (4 : Int32)), (.int (4 : Int32))])
    have hc94 : (4 : Int32) = (4 : Int32) := by decide
    refine own_go (fun _ => XS.icmpYes X12.here hx rfl (pc0 := 94) (pc' := 99) rfl (hb hby at_94) rfl (teq hc94).1 (by decide) (by decide)) ?_
    show GG _ _ _ _ _ _ _ T12 (mkF m 99 #[.val (.int p0), .val (.int p1), .val (.int p2), .val (.int p3), .val (.int p4), .val (.int (4 : Int32)), .val (.float (FP.i2f sc)), .val (.float f0), .val (.float f1), .val (.float f2), .val (.float f3), .val (.ref ob3), .val (.ref bq12), .unset, .unset, .unset, .unset, .unset] [])
    refine own_go (fun _ => XS.aload X12.here hx rfl (hb hby at_99) rfl rfl) ?_
    show GG _ _ _ _ _ _ _ T12 (mkF m 101 #[.val (.int p0), .val (.int p1), .val (.int p2), .val (.int p3), .val (.int p4), .val (.int (4 : Int32)), .val (.float (FP.i2f sc)), .val (.float f0), .val (.float f1), .val (.float f2), .val (.float f3), .val (.ref ob3), .val (.ref bq12), .unset, .unset, .unset, .unset, .unset] [(.ref ob3)])
    refine own_go (fun _ => own_len X12 hx hZ rfl V_ob3 (g := (mkF m 101 #[.val (.int p0), .val (.int p1), .val (.int p2), .val (.int p3), .val (.int p4), .val (.int (4 : Int32)), .val (.float (FP.i2f sc)), .val (.float f0), .val (.float f1), .val (.float f2), .val (.float f3), .val (.ref ob3), .val (.ref bq12), .unset, .unset, .unset, .unset, .unset] [(.ref ob3)])) rfl rfl (hb hby at_101) _) ?_
    show GG _ _ _ _ _ _ _ T12 (mkF m 102 #[.val (.int p0), .val (.int p1), .val (.int p2), .val (.int p3), .val (.int p4), .val (.int (4 : Int32)), .val (.float (FP.i2f sc)), .val (.float f0), .val (.float f1), .val (.float f2), .val (.float f3), .val (.ref ob3), .val (.ref bq12), .unset, .unset, .unset, .unset, .unset] [(.int (4 : Int32))])
    refine own_go (fun _ => XS.iconst X12.here hx rfl (hb hby at_102)) ?_
    show GG _ _ _ _ _ _ _ T12 (mkF m 103 #[.val (.int p0), .val (.int p1), .val (.int p2), .val (.int p3), .val (.int p4), .val (.int (4 : Int32)), .val (.float (FP.i2f sc)), .val (.float f0), .val (.float f1), .val (.float f2), .val (.float f3), .val (.ref ob3), .val (.ref bq12), .unset, .unset, .unset, .unset, .unset] [(.int (4 : Int32)), (.int (4 : Int32))])
    have hc103 : (4 : Int32) = (4 : Int32) := by decide
    refine own_go (fun _ => XS.icmpNo X12.here hx rfl (hb hby at_103) rfl (teq hc103).2) ?_
    show GG _ _ _ _ _ _ _ T12 (mkF m 106 #[.val (.int p0), .val (.int p1), .val (.int p2), .val (.int p3), .val (.int p4), .val (.int (4 : Int32)), .val (.float (FP.i2f sc)), .val (.float f0), .val (.float f1), .val (.float f2), .val (.float f3), .val (.ref ob3), .val (.ref bq12), .unset, .unset, .unset, .unset, .unset] [])
    refine own_go (fun _ => XS.aload X12.here hx rfl (hb hby at_106) rfl rfl) ?_
    show GG _ _ _ _ _ _ _ T12 (mkF m 108 #[.val (.int p0), .val (.int p1), .val (.int p2), .val (.int p3), .val (.int p4), .val (.int (4 : Int32)), .val (.float (FP.i2f sc)), .val (.float f0), .val (.float f1), .val (.float f2), .val (.float f3), .val (.ref ob3), .val (.ref bq12), .unset, .unset, .unset, .unset, .unset] [(.ref ob3)])
    refine own_go (fun _ => XS.iconst X12.here hx rfl (hb hby at_108)) ?_
    show GG _ _ _ _ _ _ _ T12 (mkF m 109 #[.val (.int p0), .val (.int p1), .val (.int p2), .val (.int p3), .val (.int p4), .val (.int (4 : Int32)), .val (.float (FP.i2f sc)), .val (.float f0), .val (.float f1), .val (.float f2), .val (.float f3), .val (.ref ob3), .val (.ref bq12), .unset, .unset, .unset, .unset, .unset] [(.int (0 : Int32)), (.ref ob3)])
    refine own_go (fun _ => own_faload X12 hx hZ rfl V_ob3 (j := (0 : Int32)) (v := (.float f0)) (by decide) rfl (g := (mkF m 109 #[.val (.int p0), .val (.int p1), .val (.int p2), .val (.int p3), .val (.int p4), .val (.int (4 : Int32)), .val (.float (FP.i2f sc)), .val (.float f0), .val (.float f1), .val (.float f2), .val (.float f3), .val (.ref ob3), .val (.ref bq12), .unset, .unset, .unset, .unset, .unset] [(.int (0 : Int32)), (.ref ob3)])) rfl rfl (hb hby at_109) _) ?_
    show GG _ _ _ _ _ _ _ T12 (mkF m 110 #[.val (.int p0), .val (.int p1), .val (.int p2), .val (.int p3), .val (.int p4), .val (.int (4 : Int32)), .val (.float (FP.i2f sc)), .val (.float f0), .val (.float f1), .val (.float f2), .val (.float f3), .val (.ref ob3), .val (.ref bq12), .unset, .unset, .unset, .unset, .unset] [(.float f0)])
    refine own_go (fun _ => XS.fload X12.here hx rfl (hb hby at_110) rfl) ?_
    show GG _ _ _ _ _ _ _ T12 (mkF m 112 #[.val (.int p0), .val (.int p1), .val (.int p2), .val (.int p3), .val (.int p4), .val (.int (4 : Int32)), .val (.float (FP.i2f sc)), .val (.float f0), .val (.float f1), .val (.float f2), .val (.float f3), .val (.ref ob3), .val (.ref bq12), .unset, .unset, .unset, .unset, .unset] [(.float f0), (.float f0)])
    refine own_go (fun _ => XS.fcmpS X12.here hx rfl (hb hby at_112) rfl (fcmpV_self nn0 _)) ?_
    show GG _ _ _ _ _ _ _ T12 (mkF m 113 #[.val (.int p0), .val (.int p1), .val (.int p2), .val (.int p3), .val (.int p4), .val (.int (4 : Int32)), .val (.float (FP.i2f sc)), .val (.float f0), .val (.float f1), .val (.float f2), .val (.float f3), .val (.ref ob3), .val (.ref bq12), .unset, .unset, .unset, .unset, .unset] [(.int (0 : Int32))])
    have hc113 : (0 : Int32) = (0 : Int32) := by decide
    refine own_go (fun _ => XS.ifNo X12.here hx rfl (hb hby at_113) rfl ((if0 _ _).trans (teq hc113).2)) ?_
    show GG _ _ _ _ _ _ _ T12 (mkF m 116 #[.val (.int p0), .val (.int p1), .val (.int p2), .val (.int p3), .val (.int p4), .val (.int (4 : Int32)), .val (.float (FP.i2f sc)), .val (.float f0), .val (.float f1), .val (.float f2), .val (.float f3), .val (.ref ob3), .val (.ref bq12), .unset, .unset, .unset, .unset, .unset] [])
    refine own_go (fun _ => XS.aload X12.here hx rfl (hb hby at_116) rfl rfl) ?_
    show GG _ _ _ _ _ _ _ T12 (mkF m 118 #[.val (.int p0), .val (.int p1), .val (.int p2), .val (.int p3), .val (.int p4), .val (.int (4 : Int32)), .val (.float (FP.i2f sc)), .val (.float f0), .val (.float f1), .val (.float f2), .val (.float f3), .val (.ref ob3), .val (.ref bq12), .unset, .unset, .unset, .unset, .unset] [(.ref ob3)])
    refine own_go (fun _ => XS.iconst X12.here hx rfl (hb hby at_118)) ?_
    show GG _ _ _ _ _ _ _ T12 (mkF m 119 #[.val (.int p0), .val (.int p1), .val (.int p2), .val (.int p3), .val (.int p4), .val (.int (4 : Int32)), .val (.float (FP.i2f sc)), .val (.float f0), .val (.float f1), .val (.float f2), .val (.float f3), .val (.ref ob3), .val (.ref bq12), .unset, .unset, .unset, .unset, .unset] [(.int (1 : Int32)), (.ref ob3)])
    refine own_go (fun _ => own_faload X12 hx hZ rfl V_ob3 (j := (1 : Int32)) (v := (.float f1)) (by decide) rfl (g := (mkF m 119 #[.val (.int p0), .val (.int p1), .val (.int p2), .val (.int p3), .val (.int p4), .val (.int (4 : Int32)), .val (.float (FP.i2f sc)), .val (.float f0), .val (.float f1), .val (.float f2), .val (.float f3), .val (.ref ob3), .val (.ref bq12), .unset, .unset, .unset, .unset, .unset] [(.int (1 : Int32)), (.ref ob3)])) rfl rfl (hb hby at_119) _) ?_
    show GG _ _ _ _ _ _ _ T12 (mkF m 120 #[.val (.int p0), .val (.int p1), .val (.int p2), .val (.int p3), .val (.int p4), .val (.int (4 : Int32)), .val (.float (FP.i2f sc)), .val (.float f0), .val (.float f1), .val (.float f2), .val (.float f3), .val (.ref ob3), .val (.ref bq12), .unset, .unset, .unset, .unset, .unset] [(.float f1)])
    refine own_go (fun _ => XS.fload X12.here hx rfl (hb hby at_120) rfl) ?_
    show GG _ _ _ _ _ _ _ T12 (mkF m 122 #[.val (.int p0), .val (.int p1), .val (.int p2), .val (.int p3), .val (.int p4), .val (.int (4 : Int32)), .val (.float (FP.i2f sc)), .val (.float f0), .val (.float f1), .val (.float f2), .val (.float f3), .val (.ref ob3), .val (.ref bq12), .unset, .unset, .unset, .unset, .unset] [(.float f1), (.float f1)])
    refine own_go (fun _ => XS.fcmpS X12.here hx rfl (hb hby at_122) rfl (fcmpV_self nn1 _)) ?_
    show GG _ _ _ _ _ _ _ T12 (mkF m 123 #[.val (.int p0), .val (.int p1), .val (.int p2), .val (.int p3), .val (.int p4), .val (.int (4 : Int32)), .val (.float (FP.i2f sc)), .val (.float f0), .val (.float f1), .val (.float f2), .val (.float f3), .val (.ref ob3), .val (.ref bq12), .unset, .unset, .unset, .unset, .unset] [(.int (0 : Int32))])
    have hc123 : (0 : Int32) = (0 : Int32) := by decide
    refine own_go (fun _ => XS.ifNo X12.here hx rfl (hb hby at_123) rfl ((if0 _ _).trans (teq hc123).2)) ?_
    show GG _ _ _ _ _ _ _ T12 (mkF m 126 #[.val (.int p0), .val (.int p1), .val (.int p2), .val (.int p3), .val (.int p4), .val (.int (4 : Int32)), .val (.float (FP.i2f sc)), .val (.float f0), .val (.float f1), .val (.float f2), .val (.float f3), .val (.ref ob3), .val (.ref bq12), .unset, .unset, .unset, .unset, .unset] [])
    refine own_go (fun _ => XS.aload X12.here hx rfl (hb hby at_126) rfl rfl) ?_
    show GG _ _ _ _ _ _ _ T12 (mkF m 128 #[.val (.int p0), .val (.int p1), .val (.int p2), .val (.int p3), .val (.int p4), .val (.int (4 : Int32)), .val (.float (FP.i2f sc)), .val (.float f0), .val (.float f1), .val (.float f2), .val (.float f3), .val (.ref ob3), .val (.ref bq12), .unset, .unset, .unset, .unset, .unset] [(.ref ob3)])
    refine own_go (fun _ => XS.iconst X12.here hx rfl (hb hby at_128)) ?_
    show GG _ _ _ _ _ _ _ T12 (mkF m 129 #[.val (.int p0), .val (.int p1), .val (.int p2), .val (.int p3), .val (.int p4), .val (.int (4 : Int32)), .val (.float (FP.i2f sc)), .val (.float f0), .val (.float f1), .val (.float f2), .val (.float f3), .val (.ref ob3), .val (.ref bq12), .unset, .unset, .unset, .unset, .unset] [(.int (2 : Int32)), (.ref ob3)])
    refine own_go (fun _ => own_faload X12 hx hZ rfl V_ob3 (j := (2 : Int32)) (v := (.float f2)) (by decide) rfl (g := (mkF m 129 #[.val (.int p0), .val (.int p1), .val (.int p2), .val (.int p3), .val (.int p4), .val (.int (4 : Int32)), .val (.float (FP.i2f sc)), .val (.float f0), .val (.float f1), .val (.float f2), .val (.float f3), .val (.ref ob3), .val (.ref bq12), .unset, .unset, .unset, .unset, .unset] [(.int (2 : Int32)), (.ref ob3)])) rfl rfl (hb hby at_129) _) ?_
    show GG _ _ _ _ _ _ _ T12 (mkF m 130 #[.val (.int p0), .val (.int p1), .val (.int p2), .val (.int p3), .val (.int p4), .val (.int (4 : Int32)), .val (.float (FP.i2f sc)), .val (.float f0), .val (.float f1), .val (.float f2), .val (.float f3), .val (.ref ob3), .val (.ref bq12), .unset, .unset, .unset, .unset, .unset] [(.float f2)])
    refine own_go (fun _ => XS.fload X12.here hx rfl (hb hby at_130) rfl) ?_
    show GG _ _ _ _ _ _ _ T12 (mkF m 132 #[.val (.int p0), .val (.int p1), .val (.int p2), .val (.int p3), .val (.int p4), .val (.int (4 : Int32)), .val (.float (FP.i2f sc)), .val (.float f0), .val (.float f1), .val (.float f2), .val (.float f3), .val (.ref ob3), .val (.ref bq12), .unset, .unset, .unset, .unset, .unset] [(.float f2), (.float f2)])
    refine own_go (fun _ => XS.fcmpS X12.here hx rfl (hb hby at_132) rfl (fcmpV_self nn2 _)) ?_
    show GG _ _ _ _ _ _ _ T12 (mkF m 133 #[.val (.int p0), .val (.int p1), .val (.int p2), .val (.int p3), .val (.int p4), .val (.int (4 : Int32)), .val (.float (FP.i2f sc)), .val (.float f0), .val (.float f1), .val (.float f2), .val (.float f3), .val (.ref ob3), .val (.ref bq12), .unset, .unset, .unset, .unset, .unset] [(.int (0 : Int32))])
    have hc133 : (0 : Int32) = (0 : Int32) := by decide
    refine own_go (fun _ => XS.ifNo X12.here hx rfl (hb hby at_133) rfl ((if0 _ _).trans (teq hc133).2)) ?_
    show GG _ _ _ _ _ _ _ T12 (mkF m 136 #[.val (.int p0), .val (.int p1), .val (.int p2), .val (.int p3), .val (.int p4), .val (.int (4 : Int32)), .val (.float (FP.i2f sc)), .val (.float f0), .val (.float f1), .val (.float f2), .val (.float f3), .val (.ref ob3), .val (.ref bq12), .unset, .unset, .unset, .unset, .unset] [])
    refine own_go (fun _ => XS.aload X12.here hx rfl (hb hby at_136) rfl rfl) ?_
    show GG _ _ _ _ _ _ _ T12 (mkF m 138 #[.val (.int p0), .val (.int p1), .val (.int p2), .val (.int p3), .val (.int p4), .val (.int (4 : Int32)), .val (.float (FP.i2f sc)), .val (.float f0), .val (.float f1), .val (.float f2), .val (.float f3), .val (.ref ob3), .val (.ref bq12), .unset, .unset, .unset, .unset, .unset] [(.ref ob3)])
    refine own_go (fun _ => XS.iconst X12.here hx rfl (hb hby at_138)) ?_
    show GG _ _ _ _ _ _ _ T12 (mkF m 139 #[.val (.int p0), .val (.int p1), .val (.int p2), .val (.int p3), .val (.int p4), .val (.int (4 : Int32)), .val (.float (FP.i2f sc)), .val (.float f0), .val (.float f1), .val (.float f2), .val (.float f3), .val (.ref ob3), .val (.ref bq12), .unset, .unset, .unset, .unset, .unset] [(.int (3 : Int32)), (.ref ob3)])
    refine own_go (fun _ => own_faload X12 hx hZ rfl V_ob3 (j := (3 : Int32)) (v := (.float f3)) (by decide) rfl (g := (mkF m 139 #[.val (.int p0), .val (.int p1), .val (.int p2), .val (.int p3), .val (.int p4), .val (.int (4 : Int32)), .val (.float (FP.i2f sc)), .val (.float f0), .val (.float f1), .val (.float f2), .val (.float f3), .val (.ref ob3), .val (.ref bq12), .unset, .unset, .unset, .unset, .unset] [(.int (3 : Int32)), (.ref ob3)])) rfl rfl (hb hby at_139) _) ?_
    show GG _ _ _ _ _ _ _ T12 (mkF m 140 #[.val (.int p0), .val (.int p1), .val (.int p2), .val (.int p3), .val (.int p4), .val (.int (4 : Int32)), .val (.float (FP.i2f sc)), .val (.float f0), .val (.float f1), .val (.float f2), .val (.float f3), .val (.ref ob3), .val (.ref bq12), .unset, .unset, .unset, .unset, .unset] [(.float f3)])
    refine own_go (fun _ => XS.fload X12.here hx rfl (hb hby at_140) rfl) ?_
    show GG _ _ _ _ _ _ _ T12 (mkF m 142 #[.val (.int p0), .val (.int p1), .val (.int p2), .val (.int p3), .val (.int p4), .val (.int (4 : Int32)), .val (.float (FP.i2f sc)), .val (.float f0), .val (.float f1), .val (.float f2), .val (.float f3), .val (.ref ob3), .val (.ref bq12), .unset, .unset, .unset, .unset, .unset] [(.float f3), (.float f3)])
    refine own_go (fun _ => XS.fcmpS X12.here hx rfl (hb hby at_142) rfl (fcmpV_self nn3 _)) ?_
    show GG _ _ _ _ _ _ _ T12 (mkF m 143 #[.val (.int p0), .val (.int p1), .val (.int p2), .val (.int p3), .val (.int p4), .val (.int (4 : Int32)), .val (.float (FP.i2f sc)), .val (.float f0), .val (.float f1), .val (.float f2), .val (.float f3), .val (.ref ob3), .val (.ref bq12), .unset, .unset, .unset, .unset, .unset] [(.int (0 : Int32))])
    have hc143 : (0 : Int32) = (0 : Int32) := by decide
    refine own_go (fun _ => XS.ifNo X12.here hx rfl (hb hby at_143) rfl ((if0 _ _).trans (teq hc143).2)) ?_
    show GG _ _ _ _ _ _ _ T12 (mkF m 146 #[.val (.int p0), .val (.int p1), .val (.int p2), .val (.int p3), .val (.int p4), .val (.int (4 : Int32)), .val (.float (FP.i2f sc)), .val (.float f0), .val (.float f1), .val (.float f2), .val (.float f3), .val (.ref ob3), .val (.ref bq12), .unset, .unset, .unset, .unset, .unset] [])
    refine own_go (fun _ => XS.iconst X12.here hx rfl (hb hby at_146)) ?_
    show GG _ _ _ _ _ _ _ T12 (mkF m 147 #[.val (.int p0), .val (.int p1), .val (.int p2), .val (.int p3), .val (.int p4), .val (.int (4 : Int32)), .val (.float (FP.i2f sc)), .val (.float f0), .val (.float f1), .val (.float f2), .val (.float f3), .val (.ref ob3), .val (.ref bq12), .unset, .unset, .unset, .unset, .unset] [(.int (1 : Int32))])
    refine own_go (fun _ => XS.goto X12.here hx rfl (pc0 := 147) (pc' := 151) rfl (hb hby at_147) (by decide) (by decide)) ?_
    show GG _ _ _ _ _ _ _ T12 (mkF m 151 #[.val (.int p0), .val (.int p1), .val (.int p2), .val (.int p3), .val (.int p4), .val (.int (4 : Int32)), .val (.float (FP.i2f sc)), .val (.float f0), .val (.float f1), .val (.float f2), .val (.float f3), .val (.ref ob3), .val (.ref bq12), .unset, .unset, .unset, .unset, .unset] [(.int (1 : Int32))])
    refine own_go (fun _ => XS.istore X12.here hx rfl (hb hby at_151) rfl (l' := #[.val (.int p0), .val (.int p1), .val (.int p2), .val (.int p3), .val (.int p4), .val (.int (4 : Int32)), .val (.float (FP.i2f sc)), .val (.float f0), .val (.float f1), .val (.float f2), .val (.float f3), .val (.ref ob3), .val (.ref bq12), .val (.int (1 : Int32)), .unset, .unset, .unset, .unset]) rfl) ?_
    show GG _ _ _ _ _ _ _ T12 (mkF m 153 #[.val (.int p0), .val (.int p1), .val (.int p2), .val (.int p3), .val (.int p4), .val (.int (4 : Int32)), .val (.float (FP.i2f sc)), .val (.float f0), .val (.float f1), .val (.float f2), .val (.float f3), .val (.ref ob3), .val (.ref bq12), .val (.int (1 : Int32)), .unset, .unset, .unset, .unset] [])
    refine own_go (fun _ => XS.iload X12.here hx rfl (hb hby at_153) rfl) ?_
    show GG _ _ _ _ _ _ _ T12 (mkF m 155 #[.val (.int p0), .val (.int p1), .val (.int p2), .val (.int p3), .val (.int p4), .val (.int (4 : Int32)), .val (.float (FP.i2f sc)), .val (.float f0), .val (.float f1), .val (.float f2), .val (.float f3), .val (.ref ob3), .val (.ref bq12), .val (.int (1 : Int32)), .unset, .unset, .unset, .unset] [(.int (4 : Int32))])
    refine own_go (fun _ => XS.iconst X12.here hx rfl (hb hby at_155)) ?_
    show GG _ _ _ _ _ _ _ T12 (mkF m 156 #[.val (.int p0), .val (.int p1), .val (.int p2), .val (.int p3), .val (.int p4), .val (.int (4 : Int32)), .val (.float (FP.i2f sc)), .val (.float f0), .val (.float f1), .val (.float f2), .val (.float f3), .val (.ref ob3), .val (.ref bq12), .val (.int (1 : Int32)), .unset, .unset, .unset, .unset] [(.int (1 : Int32)), (.int (4 : Int32))])
    have hc156 : ¬ ((4 : Int32) < (1 : Int32)) := by decide
    refine own_go (fun _ => XS.icmpNo X12.here hx rfl (hb hby at_156) rfl (flt hc156).1) ?_
    show GG _ _ _ _ _ _ _ T12 (mkF m 159 #[.val (.int p0), .val (.int p1), .val (.int p2), .val (.int p3), .val (.int p4), .val (.int (4 : Int32)), .val (.float (FP.i2f sc)), .val (.float f0), .val (.float f1), .val (.float f2), .val (.float f3), .val (.ref ob3), .val (.ref bq12), .val (.int (1 : Int32)), .unset, .unset, .unset, .unset] [])
    refine own_go (fun _ => XS.aload X12.here hx rfl (hb hby at_159) rfl rfl) ?_
    show GG _ _ _ _ _ _ _ T12 (mkF m 161 #[.val (.int p0), .val (.int p1), .val (.int p2), .val (.int p3), .val (.int p4), .val (.int (4 : Int32)), .val (.float (FP.i2f sc)), .val (.float f0), .val (.float f1), .val (.float f2), .val (.float f3), .val (.ref ob3), .val (.ref bq12), .val (.int (1 : Int32)), .unset, .unset, .unset, .unset] [(.ref bq12)])
    refine own_go (fun _ => XS.iconst X12.here hx rfl (hb hby at_161)) ?_
    show GG _ _ _ _ _ _ _ T12 (mkF m 162 #[.val (.int p0), .val (.int p1), .val (.int p2), .val (.int p3), .val (.int p4), .val (.int (4 : Int32)), .val (.float (FP.i2f sc)), .val (.float f0), .val (.float f1), .val (.float f2), .val (.float f3), .val (.ref ob3), .val (.ref bq12), .val (.int (1 : Int32)), .unset, .unset, .unset, .unset] [(.int (0 : Int32)), (.ref bq12)])
    refine own_go (fun _ => own_daload X12 hx hZ rfl Vq12 (j := (0 : Int32)) (v := (.double (FP.f2d f0))) (by decide) rfl (g := (mkF m 162 #[.val (.int p0), .val (.int p1), .val (.int p2), .val (.int p3), .val (.int p4), .val (.int (4 : Int32)), .val (.float (FP.i2f sc)), .val (.float f0), .val (.float f1), .val (.float f2), .val (.float f3), .val (.ref ob3), .val (.ref bq12), .val (.int (1 : Int32)), .unset, .unset, .unset, .unset] [(.int (0 : Int32)), (.ref bq12)])) rfl rfl (hb hby at_162) _) ?_
    show GG _ _ _ _ _ _ _ T12 (mkF m 163 #[.val (.int p0), .val (.int p1), .val (.int p2), .val (.int p3), .val (.int p4), .val (.int (4 : Int32)), .val (.float (FP.i2f sc)), .val (.float f0), .val (.float f1), .val (.float f2), .val (.float f3), .val (.ref ob3), .val (.ref bq12), .val (.int (1 : Int32)), .unset, .unset, .unset, .unset] [(.double (FP.f2d f0))])
    refine own_go (fun _ => XS.fload X12.here hx rfl (hb hby at_163) rfl) ?_
    show GG _ _ _ _ _ _ _ T12 (mkF m 165 #[.val (.int p0), .val (.int p1), .val (.int p2), .val (.int p3), .val (.int p4), .val (.int (4 : Int32)), .val (.float (FP.i2f sc)), .val (.float f0), .val (.float f1), .val (.float f2), .val (.float f3), .val (.ref ob3), .val (.ref bq12), .val (.int (1 : Int32)), .unset, .unset, .unset, .unset] [(.float f0), (.double (FP.f2d f0))])
    refine own_go (fun _ => XS.f2dS X12.here hx rfl (hb hby at_165) rfl (Jvm.Free.Fl.f2d_out nn0) rfl) ?_
    show GG _ _ _ _ _ _ _ T12 (mkF m 166 #[.val (.int p0), .val (.int p1), .val (.int p2), .val (.int p3), .val (.int p4), .val (.int (4 : Int32)), .val (.float (FP.i2f sc)), .val (.float f0), .val (.float f1), .val (.float f2), .val (.float f3), .val (.ref ob3), .val (.ref bq12), .val (.int (1 : Int32)), .unset, .unset, .unset, .unset] [(.double (FP.f2d f0)), (.double (FP.f2d f0))])
    refine own_go (fun _ => XS.dcmpS X12.here hx rfl (hb hby at_166) rfl (dcmpV_self (Jvm.Free.Fl.f2d_out nn0) _)) ?_
    show GG _ _ _ _ _ _ _ T12 (mkF m 167 #[.val (.int p0), .val (.int p1), .val (.int p2), .val (.int p3), .val (.int p4), .val (.int (4 : Int32)), .val (.float (FP.i2f sc)), .val (.float f0), .val (.float f1), .val (.float f2), .val (.float f3), .val (.ref ob3), .val (.ref bq12), .val (.int (1 : Int32)), .unset, .unset, .unset, .unset] [(.int (0 : Int32))])
    have hc167 : (0 : Int32) = (0 : Int32) := by decide
    refine own_go (fun _ => XS.ifNo X12.here hx rfl (hb hby at_167) rfl ((if0 _ _).trans (teq hc167).2)) ?_
    show GG _ _ _ _ _ _ _ T12 (mkF m 170 #[.val (.int p0), .val (.int p1), .val (.int p2), .val (.int p3), .val (.int p4), .val (.int (4 : Int32)), .val (.float (FP.i2f sc)), .val (.float f0), .val (.float f1), .val (.float f2), .val (.float f3), .val (.ref ob3), .val (.ref bq12), .val (.int (1 : Int32)), .unset, .unset, .unset, .unset] [])
    refine own_go (fun _ => XS.iconst X12.here hx rfl (hb hby at_170)) ?_
    show GG _ _ _ _ _ _ _ T12 (mkF m 171 #[.val (.int p0), .val (.int p1), .val (.int p2), .val (.int p3), .val (.int p4), .val (.int (4 : Int32)), .val (.float (FP.i2f sc)), .val (.float f0), .val (.float f1), .val (.float f2), .val (.float f3), .val (.ref ob3), .val (.ref bq12), .val (.int (1 : Int32)), .unset, .unset, .unset, .unset] [(.int (1 : Int32))])
    refine own_go (fun _ => XS.goto X12.here hx rfl (pc0 := 171) (pc' := 175) rfl (hb hby at_171) (by decide) (by decide)) ?_
    show GG _ _ _ _ _ _ _ T12 (mkF m 175 #[.val (.int p0), .val (.int p1), .val (.int p2), .val (.int p3), .val (.int p4), .val (.int (4 : Int32)), .val (.float (FP.i2f sc)), .val (.float f0), .val (.float f1), .val (.float f2), .val (.float f3), .val (.ref ob3), .val (.ref bq12), .val (.int (1 : Int32)), .unset, .unset, .unset, .unset] [(.int (1 : Int32))])
    refine own_go (fun _ => XS.istore X12.here hx rfl (hb hby at_175) rfl (l' := #[.val (.int p0), .val (.int p1), .val (.int p2), .val (.int p3), .val (.int p4), .val (.int (4 : Int32)), .val (.float (FP.i2f sc)), .val (.float f0), .val (.float f1), .val (.float f2), .val (.float f3), .val (.ref ob3), .val (.ref bq12), .val (.int (1 : Int32)), .val (.int (1 : Int32)), .unset, .unset, .unset]) rfl) ?_
    show GG _ _ _ _ _ _ _ T12 (mkF m 177 #[.val (.int p0), .val (.int p1), .val (.int p2), .val (.int p3), .val (.int p4), .val (.int (4 : Int32)), .val (.float (FP.i2f sc)), .val (.float f0), .val (.float f1), .val (.float f2), .val (.float f3), .val (.ref ob3), .val (.ref bq12), .val (.int (1 : Int32)), .val (.int (1 : Int32)), .unset, .unset, .unset] [])
    refine own_go (fun _ => XS.iload X12.here hx rfl (hb hby at_177) rfl) ?_
    show GG _ _ _ _ _ _ _ T12 (mkF m 179 #[.val (.int p0), .val (.int p1), .val (.int p2), .val (.int p3), .val (.int p4), .val (.int (4 : Int32)), .val (.float (FP.i2f sc)), .val (.float f0), .val (.float f1), .val (.float f2), .val (.float f3), .val (.ref ob3), .val (.ref bq12), .val (.int (1 : Int32)), .val (.int (1 : Int32)), .unset, .unset, .unset] [(.int (4 : Int32))])
    refine own_go (fun _ => XS.iconst X12.here hx rfl (hb hby at_179)) ?_
    show GG _ _ _ _ _ _ _ T12 (mkF m 180 #[.val (.int p0), .val (.int p1), .val (.int p2), .val (.int p3), .val (.int p4), .val (.int (4 : Int32)), .val (.float (FP.i2f sc)), .val (.float f0), .val (.float f1), .val (.float f2), .val (.float f3), .val (.ref ob3), .val (.ref bq12), .val (.int (1 : Int32)), .val (.int (1 : Int32)), .unset, .unset, .unset] [(.int (2 : Int32)), (.int (4 : Int32))])
    have hc180 : ¬ ((4 : Int32) < (2 : Int32)) := by decide
    refine own_go (fun _ => XS.icmpNo X12.here hx rfl (hb hby at_180) rfl (flt hc180).1) ?_
    show GG _ _ _ _ _ _ _ T12 (mkF m 183 #[.val (.int p0), .val (.int p1), .val (.int p2), .val (.int p3), .val (.int p4), .val (.int (4 : Int32)), .val (.float (FP.i2f sc)), .val (.float f0), .val (.float f1), .val (.float f2), .val (.float f3), .val (.ref ob3), .val (.ref bq12), .val (.int (1 : Int32)), .val (.int (1 : Int32)), .unset, .unset, .unset] [])
    refine own_go (fun _ => XS.aload X12.here hx rfl (hb hby at_183) rfl rfl) ?_
    show GG _ _ _ _ _ _ _ T12 (mkF m 185 #[.val (.int p0), .val (.int p1), .val (.int p2), .val (.int p3), .val (.int p4), .val (.int (4 : Int32)), .val (.float (FP.i2f sc)), .val (.float f0), .val (.float f1), .val (.float f2), .val (.float f3), .val (.ref ob3), .val (.ref bq12), .val (.int (1 : Int32)), .val (.int (1 : Int32)), .unset, .unset, .unset] [(.ref bq12)])
    refine own_go (fun _ => XS.iconst X12.here hx rfl (hb hby at_185)) ?_
    show GG _ _ _ _ _ _ _ T12 (mkF m 186 #[.val (.int p0), .val (.int p1), .val (.int p2), .val (.int p3), .val (.int p4), .val (.int (4 : Int32)), .val (.float (FP.i2f sc)), .val (.float f0), .val (.float f1), .val (.float f2), .val (.float f3), .val (.ref ob3), .val (.ref bq12), .val (.int (1 : Int32)), .val (.int (1 : Int32)), .unset, .unset, .unset] [(.int (1 : Int32)), (.ref bq12)])
    refine own_go (fun _ => own_daload X12 hx hZ rfl Vq12 (j := (1 : Int32)) (v := (.double (FP.f2d f1))) (by decide) rfl (g := (mkF m 186 #[.val (.int p0), .val (.int p1), .val (.int p2), .val (.int p3), .val (.int p4), .val (.int (4 : Int32)), .val (.float (FP.i2f sc)), .val (.float f0), .val (.float f1), .val (.float f2), .val (.float f3), .val (.ref ob3), .val (.ref bq12), .val (.int (1 : Int32)), .val (.int (1 : Int32)), .unset, .unset, .unset] [(.int (1 : Int32)), (.ref bq12)])) rfl rfl (hb hby at_186) _) ?_
    show GG _ _ _ _ _ _ _ T12 (mkF m 187 #[.val (.int p0), .val (.int p1), .val (.int p2), .val (.int p3), .val (.int p4), .val (.int (4 : Int32)), .val (.float (FP.i2f sc)), .val (.float f0), .val (.float f1), .val (.float f2), .val (.float f3), .val (.ref ob3), .val (.ref bq12), .val (.int (1 : Int32)), .val (.int (1 : Int32)), .unset, .unset, .unset] [(.double (FP.f2d f1))])
    refine own_go (fun _ => XS.fload X12.here hx rfl (hb hby at_187) rfl) ?_
    show GG _ _ _ _ _ _ _ T12 (mkF m 189 #[.val (.int p0), .val (.int p1), .val (.int p2), .val (.int p3), .val (.int p4), .val (.int (4 : Int32)), .val (.float (FP.i2f sc)), .val (.float f0), .val (.float f1), .val (.float f2), .val (.float f3), .val (.ref ob3), .val (.ref bq12), .val (.int (1 : Int32)), .val (.int (1 : Int32)), .unset, .unset, .unset] [(.float f1), (.double (FP.f2d f1))])
    refine own_go (fun _ => XS.f2dS X12.here hx rfl (hb hby at_189) rfl (Jvm.Free.Fl.f2d_out nn1) rfl) ?_
    show GG _ _ _ _ _ _ _ T12 (mkF m 190 #[.val (.int p0), .val (.int p1), .val (.int p2), .val (.int p3), .val (.int p4), .val (.int (4 : Int32)), .val (.float (FP.i2f sc)), .val (.float f0), .val (.float f1), .val (.float f2), .val (.float f3), .val (.ref ob3), .val (.ref bq12), .val (.int (1 : Int32)), .val (.int (1 : Int32)), .unset, .unset, .unset] [(.double (FP.f2d f1)), (.double (FP.f2d f1))])
    refine own_go (fun _ => XS.dcmpS X12.here hx rfl (hb hby at_190) rfl (dcmpV_self (Jvm.Free.Fl.f2d_out nn1) _)) ?_
    show GG _ _ _ _ _ _ _ T12 (mkF m 191 #[.val (.int p0), .val (.int p1), .val (.int p2), .val (.int p3), .val (.int p4), .val (.int (4 : Int32)), .val (.float (FP.i2f sc)), .val (.float f0), .val (.float f1), .val (.float f2), .val (.float f3), .val (.ref ob3), .val (.ref bq12), .val (.int (1 : Int32)), .val (.int (1 : Int32)), .unset, .unset, .unset] [(.int (0 : Int32))])
    have hc191 : (0 : Int32) = (0 : Int32) := by decide
    refine own_go (fun _ => XS.ifNo X12.here hx rfl (hb hby at_191) rfl ((if0 _ _).trans (teq hc191).2)) ?_
    show GG _ _ _ _ _ _ _ T12 (mkF m 194 #[.val (.int p0), .val (.int p1), .val (.int p2), .val (.int p3), .val (.int p4), .val (.int (4 : Int32)), .val (.float (FP.i2f sc)), .val (.float f0), .val (.float f1), .val (.float f2), .val (.float f3), .val (.ref ob3), .val (.ref bq12), .val (.int (1 : Int32)), .val (.int (1 : Int32)), .unset, .unset, .unset] [])
    refine own_go (fun _ => XS.iconst X12.here hx rfl (hb hby at_194)) ?_
    show GG _ _ _ _ _ _ _ T12 (mkF m 195 #[.val (.int p0), .val (.int p1), .val (.int p2), .val (.int p3), .val (.int p4), .val (.int (4 : Int32)), .val (.float (FP.i2f sc)), .val (.float f0), .val (.float f1), .val (.float f2), .val (.float f3), .val (.ref ob3), .val (.ref bq12), .val (.int (1 : Int32)), .val (.int (1 : Int32)), .unset, .unset, .unset] [(.int (1 : Int32))])
    refine own_go (fun _ => XS.goto X12.here hx rfl (pc0 := 195) (pc' := 199) rfl (hb hby at_195) (by decide) (by decide)) ?_
    show GG _ _ _ _ _ _ _ T12 (mkF m 199 #[.val (.int p0), .val (.int p1), .val (.int p2), .val (.int p3), .val (.int p4), .val (.int (4 : Int32)), .val (.float (FP.i2f sc)), .val (.float f0), .val (.float f1), .val (.float f2), .val (.float f3), .val (.ref ob3), .val (.ref bq12), .val (.int (1 : Int32)), .val (.int (1 : Int32)), .unset, .unset, .unset] [(.int (1 : Int32))])
    refine own_go (fun _ => XS.istore X12.here hx rfl (hb hby at_199) rfl (l' := #[.val (.int p0), .val (.int p1), .val (.int p2), .val (.int p3), .val (.int p4), .val (.int (4 : Int32)), .val (.float (FP.i2f sc)), .val (.float f0), .val (.float f1), .val (.float f2), .val (.float f3), .val (.ref ob3), .val (.ref bq12), .val (.int (1 : Int32)), .val (.int (1 : Int32)), .val (.int (1 : Int32)), .unset, .unset]) rfl) ?_
    show GG _ _ _ _ _ _ _ T12 (mkF m 201 #[.val (.int p0), .val (.int p1), .val (.int p2), .val (.int p3), .val (.int p4), .val (.int (4 : Int32)), .val (.float (FP.i2f sc)), .val (.float f0), .val (.float f1), .val (.float f2), .val (.float f3), .val (.ref ob3), .val (.ref bq12), .val (.int (1 : Int32)), .val (.int (1 : Int32)), .val (.int (1 : Int32)), .unset, .unset] [])
    refine own_go (fun _ => XS.iload X12.here hx rfl (hb hby at_201) rfl) ?_
    show GG _ _ _ _ _ _ _ T12 (mkF m 203 #[.val (.int p0), .val (.int p1), .val (.int p2), .val (.int p3), .val (.int p4), .val (.int (4 : Int32)), .val (.float (FP.i2f sc)), .val (.float f0), .val (.float f1), .val (.float f2), .val (.float f3), .val (.ref ob3), .val (.ref bq12), .val (.int (1 : Int32)), .val (.int (1 : Int32)), .val (.int (1 : Int32)), .unset, .unset] [(.int (4 : Int32))])
    refine own_go (fun _ => XS.iconst X12.here hx rfl (hb hby at_203)) ?_
    show GG _ _ _ _ _ _ _ T12 (mkF m 204 #[.val (.int p0), .val (.int p1), .val (.int p2), .val (.int p3), .val (.int p4), .val (.int (4 : Int32)), .val (.float (FP.i2f sc)), .val (.float f0), .val (.float f1), .val (.float f2), .val (.float f3), .val (.ref ob3), .val (.ref bq12), .val (.int (1 : Int32)), .val (.int (1 : Int32)), .val (.int (1 : Int32)), .unset, .unset] [(.int (3 : Int32)), (.int (4 : Int32))])
    have hc204 : ¬ ((4 : Int32) < (3 : Int32)) := by decide
    refine own_go (fun _ => XS.icmpNo X12.here hx rfl (hb hby at_204) rfl (flt hc204).1) ?_
    show GG _ _ _ _ _ _ _ T12 (mkF m 207 #[.val (.int p0), .val (.int p1), .val (.int p2), .val (.int p3), .val (.int p4), .val (.int (4 : Int32)), .val (.float (FP.i2f sc)), .val (.float f0), .val (.float f1), .val (.float f2), .val (.float f3), .val (.ref ob3), .val (.ref bq12), .val (.int (1 : Int32)), .val (.int (1 : Int32)), .val (.int (1 : Int32)), .unset, .unset] [])
    refine own_go (fun _ => XS.aload X12.here hx rfl (hb hby at_207) rfl rfl) ?_
    show GG _ _ _ _ _ _ _ T12 (mkF m 209 #[.val (.int p0), .val (.int p1), .val (.int p2), .val (.int p3), .val (.int p4), .val (.int (4 : Int32)), .val (.float (FP.i2f sc)), .val (.float f0), .val (.float f1), .val (.float f2), .val (.float f3), .val (.ref ob3), .val (.ref bq12), .val (.int (1 : Int32)), .val (.int (1 : Int32)), .val (.int (1 : Int32)), .unset, .unset] [(.ref bq12)])
    refine own_go (fun _ => XS.iconst X12.here hx rfl (hb hby at_209)) ?_
    show GG _ _ _ _ _ _ _ T12 (mkF m 210 #[.val (.int p0), .val (.int p1), .val (.int p2), .val (.int p3), .val (.int p4), .val (.int (4 : Int32)), .val (.float (FP.i2f sc)), .val (.float f0), .val (.float f1), .val (.float f2), .val (.float f3), .val (.ref ob3), .val (.ref bq12), .val (.int (1 : Int32)), .val (.int (1 : Int32)), .val (.int (1 : Int32)), .unset, .unset] [(.int (2 : Int32)), (.ref bq12)])
    refine own_go (fun _ => own_daload X12 hx hZ rfl Vq12 (j := (2 : Int32)) (v := (.double (FP.f2d f2))) (by decide) rfl (g := (mkF m 210 #[.val (.int p0), .val (.int p1), .val (.int p2), .val (.int p3), .val (.int p4), .val (.int (4 : Int32)), .val (.float (FP.i2f sc)), .val (.float f0), .val (.float f1), .val (.float f2), .val (.float f3), .val (.ref ob3), .val (.ref bq12), .val (.int (1 : Int32)), .val (.int (1 : Int32)), .val (.int (1 : Int32)), .unset, .unset] [(.int (2 : Int32)), (.ref bq12)])) rfl rfl (hb hby at_210) _) ?_
    show GG _ _ _ _ _ _ _ T12 (mkF m 211 #[.val (.int p0), .val (.int p1), .val (.int p2), .val (.int p3), .val (.int p4), .val (.int (4 : Int32)), .val (.float (FP.i2f sc)), .val (.float f0), .val (.float f1), .val (.float f2), .val (.float f3), .val (.ref ob3), .val (.ref bq12), .val (.int (1 : Int32)), .val (.int (1 : Int32)), .val (.int (1 : Int32)), .unset, .unset] [(.double (FP.f2d f2))])
    refine own_go (fun _ => XS.fload X12.here hx rfl (hb hby at_211) rfl) ?_
    show GG _ _ _ _ _ _ _ T12 (mkF m 213 #[.val (.int p0), .val (.int p1), .val (.int p2), .val (.int p3), .val (.int p4), .val (.int (4 : Int32)), .val (.float (FP.i2f sc)), .val (.float f0), .val (.float f1), .val (.float f2), .val (.float f3), .val (.ref ob3), .val (.ref bq12), .val (.int (1 : Int32)), .val (.int (1 : Int32)), .val (.int (1 : Int32)), .unset, .unset] [(.float f2), (.double (FP.f2d f2))])
    refine own_go (fun _ => XS.f2dS X12.here hx rfl (hb hby at_213) rfl (Jvm.Free.Fl.f2d_out nn2) rfl) ?_
    show GG _ _ _ _ _ _ _ T12 (mkF m 214 #[.val (.int p0), .val (.int p1), .val (.int p2), .val (.int p3), .val (.int p4), .val (.int (4 : Int32)), .val (.float (FP.i2f sc)), .val (.float f0), .val (.float f1), .val (.float f2), .val (.float f3), .val (.ref ob3), .val (.ref bq12), .val (.int (1 : Int32)), .val (.int (1 : Int32)), .val (.int (1 : Int32)), .unset, .unset] [(.double (FP.f2d f2)), (.double (FP.f2d f2))])
    refine own_go (fun _ => XS.dcmpS X12.here hx rfl (hb hby at_214) rfl (dcmpV_self (Jvm.Free.Fl.f2d_out nn2) _)) ?_
    show GG _ _ _ _ _ _ _ T12 (mkF m 215 #[.val (.int p0), .val (.int p1), .val (.int p2), .val (.int p3), .val (.int p4), .val (.int (4 : Int32)), .val (.float (FP.i2f sc)), .val (.float f0), .val (.float f1), .val (.float f2), .val (.float f3), .val (.ref ob3), .val (.ref bq12), .val (.int (1 : Int32)), .val (.int (1 : Int32)), .val (.int (1 : Int32)), .unset, .unset] [(.int (0 : Int32))])
    have hc215 : (0 : Int32) = (0 : Int32) := by decide
    refine own_go (fun _ => XS.ifNo X12.here hx rfl (hb hby at_215) rfl ((if0 _ _).trans (teq hc215).2)) ?_
    show GG _ _ _ _ _ _ _ T12 (mkF m 218 #[.val (.int p0), .val (.int p1), .val (.int p2), .val (.int p3), .val (.int p4), .val (.int (4 : Int32)), .val (.float (FP.i2f sc)), .val (.float f0), .val (.float f1), .val (.float f2), .val (.float f3), .val (.ref ob3), .val (.ref bq12), .val (.int (1 : Int32)), .val (.int (1 : Int32)), .val (.int (1 : Int32)), .unset, .unset] [])
    refine own_go (fun _ => XS.iconst X12.here hx rfl (hb hby at_218)) ?_
    show GG _ _ _ _ _ _ _ T12 (mkF m 219 #[.val (.int p0), .val (.int p1), .val (.int p2), .val (.int p3), .val (.int p4), .val (.int (4 : Int32)), .val (.float (FP.i2f sc)), .val (.float f0), .val (.float f1), .val (.float f2), .val (.float f3), .val (.ref ob3), .val (.ref bq12), .val (.int (1 : Int32)), .val (.int (1 : Int32)), .val (.int (1 : Int32)), .unset, .unset] [(.int (1 : Int32))])
    refine own_go (fun _ => XS.goto X12.here hx rfl (pc0 := 219) (pc' := 223) rfl (hb hby at_219) (by decide) (by decide)) ?_
    show GG _ _ _ _ _ _ _ T12 (mkF m 223 #[.val (.int p0), .val (.int p1), .val (.int p2), .val (.int p3), .val (.int p4), .val (.int (4 : Int32)), .val (.float (FP.i2f sc)), .val (.float f0), .val (.float f1), .val (.float f2), .val (.float f3), .val (.ref ob3), .val (.ref bq12), .val (.int (1 : Int32)), .val (.int (1 : Int32)), .val (.int (1 : Int32)), .unset, .unset] [(.int (1 : Int32))])
    refine own_go (fun _ => XS.istore X12.here hx rfl (hb hby at_223) rfl (l' := #[.val (.int p0), .val (.int p1), .val (.int p2), .val (.int p3), .val (.int p4), .val (.int (4 : Int32)), .val (.float (FP.i2f sc)), .val (.float f0), .val (.float f1), .val (.float f2), .val (.float f3), .val (.ref ob3), .val (.ref bq12), .val (.int (1 : Int32)), .val (.int (1 : Int32)), .val (.int (1 : Int32)), .val (.int (1 : Int32)), .unset]) rfl) ?_
    show GG _ _ _ _ _ _ _ T12 (mkF m 225 #[.val (.int p0), .val (.int p1), .val (.int p2), .val (.int p3), .val (.int p4), .val (.int (4 : Int32)), .val (.float (FP.i2f sc)), .val (.float f0), .val (.float f1), .val (.float f2), .val (.float f3), .val (.ref ob3), .val (.ref bq12), .val (.int (1 : Int32)), .val (.int (1 : Int32)), .val (.int (1 : Int32)), .val (.int (1 : Int32)), .unset] [])
    refine own_go (fun _ => XS.iload X12.here hx rfl (hb hby at_225) rfl) ?_
    show GG _ _ _ _ _ _ _ T12 (mkF m 227 #[.val (.int p0), .val (.int p1), .val (.int p2), .val (.int p3), .val (.int p4), .val (.int (4 : Int32)), .val (.float (FP.i2f sc)), .val (.float f0), .val (.float f1), .val (.float f2), .val (.float f3), .val (.ref ob3), .val (.ref bq12), .val (.int (1 : Int32)), .val (.int (1 : Int32)), .val (.int (1 : Int32)), .val (.int (1 : Int32)), .unset] [(.int (4 : Int32))])
    refine own_go (fun _ => XS.iconst X12.here hx rfl (hb hby at_227)) ?_
    show GG _ _ _ _ _ _ _ T12 (mkF m 228 #[.val (.int p0), .val (.int p1), .val (.int p2), .val (.int p3), .val (.int p4), .val (.int (4 : Int32)), .val (.float (FP.i2f sc)), .val (.float f0), .val (.float f1), .val (.float f2), .val (.float f3), .val (.ref ob3), .val (.ref bq12), .val (.int (1 : Int32)), .val (.int (1 : Int32)), .val (.int (1 : Int32)), .val (.int (1 : Int32)), .unset] [(.int (4 : Int32)), (.int (4 : Int32))])
    have hc228 : ¬ ((4 : Int32) < (4 : Int32)) := by decide
    refine own_go (fun _ => XS.icmpNo X12.here hx rfl (hb hby at_228) rfl (flt hc228).1) ?_
    show GG _ _ _ _ _ _ _ T12 (mkF m 231 #[.val (.int p0), .val (.int p1), .val (.int p2), .val (.int p3), .val (.int p4), .val (.int (4 : Int32)), .val (.float (FP.i2f sc)), .val (.float f0), .val (.float f1), .val (.float f2), .val (.float f3), .val (.ref ob3), .val (.ref bq12), .val (.int (1 : Int32)), .val (.int (1 : Int32)), .val (.int (1 : Int32)), .val (.int (1 : Int32)), .unset] [])
    refine own_go (fun _ => XS.aload X12.here hx rfl (hb hby at_231) rfl rfl) ?_
    show GG _ _ _ _ _ _ _ T12 (mkF m 233 #[.val (.int p0), .val (.int p1), .val (.int p2), .val (.int p3), .val (.int p4), .val (.int (4 : Int32)), .val (.float (FP.i2f sc)), .val (.float f0), .val (.float f1), .val (.float f2), .val (.float f3), .val (.ref ob3), .val (.ref bq12), .val (.int (1 : Int32)), .val (.int (1 : Int32)), .val (.int (1 : Int32)), .val (.int (1 : Int32)), .unset] [(.ref bq12)])
    refine own_go (fun _ => XS.iconst X12.here hx rfl (hb hby at_233)) ?_
    show GG _ _ _ _ _ _ _ T12 (mkF m 234 #[.val (.int p0), .val (.int p1), .val (.int p2), .val (.int p3), .val (.int p4), .val (.int (4 : Int32)), .val (.float (FP.i2f sc)), .val (.float f0), .val (.float f1), .val (.float f2), .val (.float f3), .val (.ref ob3), .val (.ref bq12), .val (.int (1 : Int32)), .val (.int (1 : Int32)), .val (.int (1 : Int32)), .val (.int (1 : Int32)), .unset] [(.int (3 : Int32)), (.ref bq12)])
    refine own_go (fun _ => own_daload X12 hx hZ rfl Vq12 (j := (3 : Int32)) (v := (.double (FP.f2d f3))) (by decide) rfl (g := (mkF m 234 #[.val (.int p0), .val (.int p1), .val (.int p2), .val (.int p3), .val (.int p4), .val (.int (4 : Int32)), .val (.float (FP.i2f sc)), .val (.float f0), .val (.float f1), .val (.float f2), .val (.float f3), .val (.ref ob3), .val (.ref bq12), .val (.int (1 : Int32)), .val (.int (1 : Int32)), .val (.int (1 : Int32)), .val (.int (1 : Int32)), .unset] [(.int (3 : Int32)), (.ref bq12)])) rfl rfl (hb hby at_234) _) ?_
    show GG _ _ _ _ _ _ _ T12 (mkF m 235 #[.val (.int p0), .val (.int p1), .val (.int p2), .val (.int p3), .val (.int p4), .val (.int (4 : Int32)), .val (.float (FP.i2f sc)), .val (.float f0), .val (.float f1), .val (.float f2), .val (.float f3), .val (.ref ob3), .val (.ref bq12), .val (.int (1 : Int32)), .val (.int (1 : Int32)), .val (.int (1 : Int32)), .val (.int (1 : Int32)), .unset] [(.double (FP.f2d f3))])
    refine own_go (fun _ => XS.fload X12.here hx rfl (hb hby at_235) rfl) ?_
    show GG _ _ _ _ _ _ _ T12 (mkF m 237 #[.val (.int p0), .val (.int p1), .val (.int p2), .val (.int p3), .val (.int p4), .val (.int (4 : Int32)), .val (.float (FP.i2f sc)), .val (.float f0), .val (.float f1), .val (.float f2), .val (.float f3), .val (.ref ob3), .val (.ref bq12), .val (.int (1 : Int32)), .val (.int (1 : Int32)), .val (.int (1 : Int32)), .val (.int (1 : Int32)), .unset] [(.float f3), (.double (FP.f2d f3))])
    refine own_go (fun _ => XS.f2dS X12.here hx rfl (hb hby at_237) rfl (Jvm.Free.Fl.f2d_out nn3) rfl) ?_
    show GG _ _ _ _ _ _ _ T12 (mkF m 238 #[.val (.int p0), .val (.int p1), .val (.int p2), .val (.int p3), .val (.int p4), .val (.int (4 : Int32)), .val (.float (FP.i2f sc)), .val (.float f0), .val (.float f1), .val (.float f2), .val (.float f3), .val (.ref ob3), .val (.ref bq12), .val (.int (1 : Int32)), .val (.int (1 : Int32)), .val (.int (1 : Int32)), .val (.int (1 : Int32)), .unset] [(.double (FP.f2d f3)), (.double (FP.f2d f3))])
    refine own_go (fun _ => XS.dcmpS X12.here hx rfl (hb hby at_238) rfl (dcmpV_self (Jvm.Free.Fl.f2d_out nn3) _)) ?_
    show GG _ _ _ _ _ _ _ T12 (mkF m 239 #[.val (.int p0), .val (.int p1), .val (.int p2), .val (.int p3), .val (.int p4), .val (.int (4 : Int32)), .val (.float (FP.i2f sc)), .val (.float f0), .val (.float f1), .val (.float f2), .val (.float f3), .val (.ref ob3), .val (.ref bq12), .val (.int (1 : Int32)), .val (.int (1 : Int32)), .val (.int (1 : Int32)), .val (.int (1 : Int32)), .unset] [(.int (0 : Int32))])
    have hc239 : (0 : Int32) = (0 : Int32) := by decide
    refine own_go (fun _ => XS.ifNo X12.here hx rfl (hb hby at_239) rfl ((if0 _ _).trans (teq hc239).2)) ?_
    show GG _ _ _ _ _ _ _ T12 (mkF m 242 #[.val (.int p0), .val (.int p1), .val (.int p2), .val (.int p3), .val (.int p4), .val (.int (4 : Int32)), .val (.float (FP.i2f sc)), .val (.float f0), .val (.float f1), .val (.float f2), .val (.float f3), .val (.ref ob3), .val (.ref bq12), .val (.int (1 : Int32)), .val (.int (1 : Int32)), .val (.int (1 : Int32)), .val (.int (1 : Int32)), .unset] [])
    refine own_go (fun _ => XS.iconst X12.here hx rfl (hb hby at_242)) ?_
    show GG _ _ _ _ _ _ _ T12 (mkF m 243 #[.val (.int p0), .val (.int p1), .val (.int p2), .val (.int p3), .val (.int p4), .val (.int (4 : Int32)), .val (.float (FP.i2f sc)), .val (.float f0), .val (.float f1), .val (.float f2), .val (.float f3), .val (.ref ob3), .val (.ref bq12), .val (.int (1 : Int32)), .val (.int (1 : Int32)), .val (.int (1 : Int32)), .val (.int (1 : Int32)), .unset] [(.int (1 : Int32))])
    refine own_go (fun _ => XS.goto X12.here hx rfl (pc0 := 243) (pc' := 247) rfl (hb hby at_243) (by decide) (by decide)) ?_
    show GG _ _ _ _ _ _ _ T12 (mkF m 247 #[.val (.int p0), .val (.int p1), .val (.int p2), .val (.int p3), .val (.int p4), .val (.int (4 : Int32)), .val (.float (FP.i2f sc)), .val (.float f0), .val (.float f1), .val (.float f2), .val (.float f3), .val (.ref ob3), .val (.ref bq12), .val (.int (1 : Int32)), .val (.int (1 : Int32)), .val (.int (1 : Int32)), .val (.int (1 : Int32)), .unset] [(.int (1 : Int32))])
    refine own_go (fun _ => XS.istore X12.here hx rfl (hb hby at_247) rfl (l' := #[.val (.int p0), .val (.int p1), .val (.int p2), .val (.int p3), .val (.int p4), .val (.int (4 : Int32)), .val (.float (FP.i2f sc)), .val (.float f0), .val (.float f1), .val (.float f2), .val (.float f3), .val (.ref ob3), .val (.ref bq12), .val (.int (1 : Int32)), .val (.int (1 : Int32)), .val (.int (1 : Int32)), .val (.int (1 : Int32)), .val (.int (1 : Int32))]) rfl) ?_
    show GG _ _ _ _ _ _ _ T12 (mkF m 249 #[.val (.int p0), .val (.int p1), .val (.int p2), .val (.int p3), .val (.int p4), .val (.int (4 : Int32)), .val (.float (FP.i2f sc)), .val (.float f0), .val (.float f1), .val (.float f2), .val (.float f3), .val (.ref ob3), .val (.ref bq12), .val (.int (1 : Int32)), .val (.int (1 : Int32)), .val (.int (1 : Int32)), .val (.int (1 : Int32)), .val (.int (1 : Int32))] [])
    refine own_go (fun _ => XS.iload X12.here hx rfl (hb hby at_249) rfl) ?_
    show GG _ _ _ _ _ _ _ T12 (mkF m 251 #[.val (.int p0), .val (.int p1), .val (.int p2), .val (.int p3), .val (.int p4), .val (.int (4 : Int32)), .val (.float (FP.i2f sc)), .val (.float f0), .val (.float f1), .val (.float f2), .val (.float f3), .val (.ref ob3), .val (.ref bq12), .val (.int (1 : Int32)), .val (.int (1 : Int32)), .val (.int (1 : Int32)), .val (.int (1 : Int32)), .val (.int (1 : Int32))] [(.int (1 : Int32))])
    have hc251 : ¬ ((1 : Int32) = (0 : Int32)) := by decide
    refine own_go (fun _ => XS.ifNo X12.here hx rfl (hb hby at_251) rfl ((if0 _ _).trans (feq hc251).1)) ?_
    show GG _ _ _ _ _ _ _ T12 (mkF m 254 #[.val (.int p0), .val (.int p1), .val (.int p2), .val (.int p3), .val (.int p4), .val (.int (4 : Int32)), .val (.float (FP.i2f sc)), .val (.float f0), .val (.float f1), .val (.float f2), .val (.float f3), .val (.ref ob3), .val (.ref bq12), .val (.int (1 : Int32)), .val (.int (1 : Int32)), .val (.int (1 : Int32)), .val (.int (1 : Int32)), .val (.int (1 : Int32))] [])
    refine own_go (fun _ => XS.iload X12.here hx rfl (hb hby at_254) rfl) ?_
    show GG _ _ _ _ _ _ _ T12 (mkF m 256 #[.val (.int p0), .val (.int p1), .val (.int p2), .val (.int p3), .val (.int p4), .val (.int (4 : Int32)), .val (.float (FP.i2f sc)), .val (.float f0), .val (.float f1), .val (.float f2), .val (.float f3), .val (.ref ob3), .val (.ref bq12), .val (.int (1 : Int32)), .val (.int (1 : Int32)), .val (.int (1 : Int32)), .val (.int (1 : Int32)), .val (.int (1 : Int32))] [(.int (1 : Int32))])
    have hc256 : ¬ ((1 : Int32) = (0 : Int32)) := by decide
    refine own_go (fun _ => XS.ifNo X12.here hx rfl (hb hby at_256) rfl ((if0 _ _).trans (feq hc256).1)) ?_
    show GG _ _ _ _ _ _ _ T12 (mkF m 259 #[.val (.int p0), .val (.int p1), .val (.int p2), .val (.int p3), .val (.int p4), .val (.int (4 : Int32)), .val (.float (FP.i2f sc)), .val (.float f0), .val (.float f1), .val (.float f2), .val (.float f3), .val (.ref ob3), .val (.ref bq12), .val (.int (1 : Int32)), .val (.int (1 : Int32)), .val (.int (1 : Int32)), .val (.int (1 : Int32)), .val (.int (1 : Int32))] [])
    refine own_go (fun _ => XS.iload X12.here hx rfl (hb hby at_259) rfl) ?_
    show GG _ _ _ _ _ _ _ T12 (mkF m 261 #[.val (.int p0), .val (.int p1), .val (.int p2), .val (.int p3), .val (.int p4), .val (.int (4 : Int32)), .val (.float (FP.i2f sc)), .val (.float f0), .val (.float f1), .val (.float f2), .val (.float f3), .val (.ref ob3), .val (.ref bq12), .val (.int (1 : Int32)), .val (.int (1 : Int32)), .val (.int (1 : Int32)), .val (.int (1 : Int32)), .val (.int (1 : Int32))] [(.int (1 : Int32))])
    have hc261 : ¬ ((1 : Int32) = (0 : Int32)) := by decide
    refine own_go (fun _ => XS.ifNo X12.here hx rfl (hb hby at_261) rfl ((if0 _ _).trans (feq hc261).1)) ?_
    show GG _ _ _ _ _ _ _ T12 (mkF m 264 #[.val (.int p0), .val (.int p1), .val (.int p2), .val (.int p3), .val (.int p4), .val (.int (4 : Int32)), .val (.float (FP.i2f sc)), .val (.float f0), .val (.float f1), .val (.float f2), .val (.float f3), .val (.ref ob3), .val (.ref bq12), .val (.int (1 : Int32)), .val (.int (1 : Int32)), .val (.int (1 : Int32)), .val (.int (1 : Int32)), .val (.int (1 : Int32))] [])
    refine own_go (fun _ => XS.iload X12.here hx rfl (hb hby at_264) rfl) ?_
    show GG _ _ _ _ _ _ _ T12 (mkF m 266 #[.val (.int p0), .val (.int p1), .val (.int p2), .val (.int p3), .val (.int p4), .val (.int (4 : Int32)), .val (.float (FP.i2f sc)), .val (.float f0), .val (.float f1), .val (.float f2), .val (.float f3), .val (.ref ob3), .val (.ref bq12), .val (.int (1 : Int32)), .val (.int (1 : Int32)), .val (.int (1 : Int32)), .val (.int (1 : Int32)), .val (.int (1 : Int32))] [(.int (1 : Int32))])
    have hc266 : ¬ ((1 : Int32) = (0 : Int32)) := by decide
    refine own_go (fun _ => XS.ifNo X12.here hx rfl (hb hby at_266) rfl ((if0 _ _).trans (feq hc266).1)) ?_
    show GG _ _ _ _ _ _ _ T12 (mkF m 269 #[.val (.int p0), .val (.int p1), .val (.int p2), .val (.int p3), .val (.int p4), .val (.int (4 : Int32)), .val (.float (FP.i2f sc)), .val (.float f0), .val (.float f1), .val (.float f2), .val (.float f3), .val (.ref ob3), .val (.ref bq12), .val (.int (1 : Int32)), .val (.int (1 : Int32)), .val (.int (1 : Int32)), .val (.int (1 : Int32)), .val (.int (1 : Int32))] [])
    refine own_go (fun _ => XS.iload X12.here hx rfl (hb hby at_269) rfl) ?_
    show GG _ _ _ _ _ _ _ T12 (mkF m 271 #[.val (.int p0), .val (.int p1), .val (.int p2), .val (.int p3), .val (.int p4), .val (.int (4 : Int32)), .val (.float (FP.i2f sc)), .val (.float f0), .val (.float f1), .val (.float f2), .val (.float f3), .val (.ref ob3), .val (.ref bq12), .val (.int (1 : Int32)), .val (.int (1 : Int32)), .val (.int (1 : Int32)), .val (.int (1 : Int32)), .val (.int (1 : Int32))] [(.int (1 : Int32))])
    have hc271 : ¬ ((1 : Int32) = (0 : Int32)) := by decide
    refine own_go (fun _ => XS.ifNo X12.here hx rfl (hb hby at_271) rfl ((if0 _ _).trans (feq hc271).1)) ?_
    show GG _ _ _ _ _ _ _ T12 (mkF m 274 #[.val (.int p0), .val (.int p1), .val (.int p2), .val (.int p3), .val (.int p4), .val (.int (4 : Int32)), .val (.float (FP.i2f sc)), .val (.float f0), .val (.float f1), .val (.float f2), .val (.float f3), .val (.ref ob3), .val (.ref bq12), .val (.int (1 : Int32)), .val (.int (1 : Int32)), .val (.int (1 : Int32)), .val (.int (1 : Int32)), .val (.int (1 : Int32))] [])
    refine own_go (fun _ => XS.iconst X12.here hx rfl (hb hby at_274)) ?_
    show GG _ _ _ _ _ _ _ T12 (mkF m 275 #[.val (.int p0), .val (.int p1), .val (.int p2), .val (.int p3), .val (.int p4), .val (.int (4 : Int32)), .val (.float (FP.i2f sc)), .val (.float f0), .val (.float f1), .val (.float f2), .val (.float f3), .val (.ref ob3), .val (.ref bq12), .val (.int (1 : Int32)), .val (.int (1 : Int32)), .val (.int (1 : Int32)), .val (.int (1 : Int32)), .val (.int (1 : Int32))] [(.int (1 : Int32))])
    refine own_go (fun _ => XS.goto X12.here hx rfl (pc0 := 275) (pc' := 279) rfl (hb hby at_275) (by decide) (by decide)) ?_
    show GG _ _ _ _ _ _ _ T12 (mkF m 279 #[.val (.int p0), .val (.int p1), .val (.int p2), .val (.int p3), .val (.int p4), .val (.int (4 : Int32)), .val (.float (FP.i2f sc)), .val (.float f0), .val (.float f1), .val (.float f2), .val (.float f3), .val (.ref ob3), .val (.ref bq12), .val (.int (1 : Int32)), .val (.int (1 : Int32)), .val (.int (1 : Int32)), .val (.int (1 : Int32)), .val (.int (1 : Int32))] [(.int (1 : Int32))])
    refine own_ret X12 hx hlk (t := .boolean) (w := (.int (1 : Int32))) Bd.returns rfl (Or.inl ⟨rfl, by simp, _, rfl⟩) (hb hby at_279) (by decide) (by decide) ?_
    show Q0 Z p0 p1 p2 p3 p4 h0 n0 (some (.int (1 : Int32))) T12.heap _
    exact ⟨rfl, N12⟩
set_option maxRecDepth 65536 in
set_option maxHeartbeats 40000000 in
theorem comes_1 {Post : Tables → Env → Array Value → State → Outcome → State → Prop} (hpost : ∀ tb e args s v u, (limb_1_1.after args s (.returned v) u = true ∧ limb_1_2.after args s (.returned v) u = true ∧ True) → FrameEnd s (.returned v) u (Jvm.fieldLocs frame_1_writes args s ++ Jvm.arrayLocs frame_1_arrays args s ++ Jvm.staticLocs frame_1_statics s) 16 128 → Post tb e args s (.returned v) u) :
    ArmFor flags0 classFile x code maxLocals ret World_1 tables_1 room_1 Calls_1 rest_1 Pre_1 Post := by
  intro l hfl _ _ p e ha hc hk s m args below hf hA hF happ hP
  obtain ⟨hcalls, hrest, hpre⟩ := hP
  obtain ⟨-, -, -, hnamed, -, -, -, hat⟩ := (Spec.applies_iff hf).mp happ
  obtain ⟨hg, hn⟩ := and_e (Cond.before_iff.mp (show (Jvm.Cond.and given_1 narrow_1).before args s = true from hpre))
  obtain ⟨g1, g2⟩ := and_e hg
  obtain ⟨g3, g4⟩ := and_e g2
  obtain ⟨g5, g6⟩ := and_e g4
  obtain ⟨g7, g8⟩ := and_e g6
  obtain ⟨g9, g10⟩ := and_e g8
  obtain ⟨w0, w1, w2, w3, w4, rfl⟩ : ∃ w0 w1 w2 w3 w4 : Value, args = #[w0, w1, w2, w3, w4] := by
    have hs : args.size = 5 := by simpa [Cond.value, given_1] using g1
    obtain ⟨L⟩ := args
    match L, hs with
    | [w0, w1, w2, w3, w4], _ => exact ⟨w0, w1, w2, w3, w4, rfl⟩
  have hw := fun d (hd : d ∈ tables_1) => atoms_spec (ws := Jvm.Cond.code x code maxLocals ret :: tables_1) hat d (List.mem_cons_of_mem _ hd)
  have hfit : Fit s := fun {y c} hc i hi => by
    obtain ⟨ha, rfl⟩ := Array.getElem?_eq_some_iff.mp hc
    have q := List.all_eq_true.mp ((Array.all_eq_true_iff_forall_mem.mp hF) _ (Array.getElem_mem ha)) i (List.mem_range.mpr hi)
    simpa [Array.getElem?_eq_getElem hi] using q
  obtain ⟨i0, ei0⟩ := is_v g3
  obtain rfl : w0 = (.int i0) := Option.some.inj ei0
  obtain ⟨i1, ei1⟩ := is_v g5
  obtain rfl : w1 = (.int i1) := Option.some.inj ei1
  obtain ⟨i2, ei2⟩ := is_v g7
  obtain rfl : w2 = (.int i2) := Option.some.inj ei2
  obtain ⟨i3, ei3⟩ := is_v g9
  obtain rfl : w3 = (.int i3) := Option.some.inj ei3
  obtain ⟨i4, ei4⟩ := is_v g10
  obtain rfl : w4 = (.int i4) := Option.some.inj ei4
  obtain ⟨n, o, h1, h2, h3, _, L, rfl, ⟨rfl, N⟩, hq⟩ := rm0 l s _ hw tables_1 i0 i1 i2 i3 i4 s.heap s.heap.size (Nat.le_refl _)  p e ha hc hk s m _ below hf ((Spec.applies_iff_loose hf).mp happ).1 ⟨rfl, State.Warmed39.refl s, rfl⟩ trivial
  refine ⟨n, _, h1, h2, h3, hpost _ _ _ _ _ _ ⟨Cond.after_iff.mpr rfl, Cond.after_iff.mpr (eq_i res_at (Term.int_eval (1)) rfl), trivial⟩ ⟨hq.1, hq.2.1, (hq.2.2.sift fun y hy => Or.inr (N y hy)).mono (by decide) (by decide)⟩⟩
theorem main_1_1 : Claimed_1_1 := comes_1 fun _ _ _ _ _ _ h hF => ⟨h.1, hF⟩
theorem main_1_2 : Claimed_1_2 := comes_1 fun _ _ _ _ _ _ h hF => ⟨h.2.1, hF⟩
end Jvm.Pilot.@@N@@
namespace Jvm.Pilot.@@N@@
open Jvm Jvm.ClassFile Sem Op Lib Jvm.Free Jvm.Stand Jvm.Pilot.@@N@@.Jvm.D
/-! MADE BY PROGRAM (witnessworld.py) out of the Statement's table words and the real class files: 9 classes; the members and pool entries that the words name. The judged class is class 1, her method 1. -/
namespace start1
open Jvm.ClassFile
def u (s : String) : CpInfo := .utf8 (stringToUtf16 s)
/-- a pool by its gaps: so many unusable entries, then the entry; so many at the end -/
def gap : Nat → List CpInfo → List CpInfo
  | 0, r => r
  | n + 1, r => .unusable :: gap n r
def poolList (es : List (Nat × CpInfo)) (last : Nat) : List CpInfo := es.foldr (fun e r => gap e.1 (e.2 :: r)) (gap last [])
def pool (es : List (Nat × CpInfo)) (last : Nat) : Array CpInfo := ⟨poolList es last⟩
def fileOf (pool : Array CpInfo) (this : Nat) (attrs : Array Attribute := #[]) (ms : Array MethodInfo := #[]) (fl : Nat := 33) (sup : Nat := 0) (ifs : Array Nat := #[]) (fds : Array FieldInfo := #[]) : ClassFile where
  minorVersion := 0
  majorVersion := 65
  constantPool := pool
  accessFlags := fl
  thisClass := this
  superClass := sup
  interfaces := ifs
  fields := fds
  methods := ms
  attributes := attrs
def plain (name : String) (sup : Option ClassId) : Class where
  name := name
  kind := .ordinary
  loader := none
  accessFlags := 33
  super := sup
  interfaces := #[]
  cf := none
  fields := #[]
  methods := #[]
  instanceTypes := #[]
  staticTypes := #[]
  resolved := #[]
  callSites := []
  init := .initialized
  statics := none
  mirror := none

def pool0 : Array CpInfo := pool [(5, u "<init>"), (0, u "()V"), (1, .class_ 10), (1, u "java/lang/Object")] 113

def k0m0 : Method := { name := "<init>", desc := "()V", sig := { parameters := [], returnType := none }, accessFlags := 1, code := none }
/-- java/lang/Object -/
def k0 : Class := { plain "java/lang/Object" none with
  accessFlags := 33
  interfaces := #[]
  cf := some (fileOf pool0 8 #[] #[{ accessFlags := 1, nameIndex := 5, descriptorIndex := 6, attributes := #[] }] 33 0 #[] #[])
  fields := #[]
  methods := #[k0m0]
  instanceTypes := #[]
  staticTypes := #[]
  resolved := Array.replicate 124 none
  statics := none }

def pool1 : Array CpInfo := pool [(2, .class_ 4), (1, u "java/lang/Object"), (0, u "<init>"), (0, u "()V"), (0, .integer 2147483647), (0, .interfaceMethodref 9 10), (0, .class_ 11), (0, .nameAndType 12 13), (0, u "com/example/hadamint/hadamint/Queries"), (0, u "widened"), (0, u "([FI)[D"), (0, .class_ 15), (0, u "com/example/hadamint/hadamint/QueriesWidenedPinLaw"), (2, u "law"), (0, u "(IIIII)Z")] 7

def k1m0 : Method := { name := "<init>", desc := "()V", sig := { parameters := [], returnType := none }, accessFlags := 1, code := none }
def k1c1 : Code := { maxStack := 4, maxLocals := 18, code := code, exceptionTable := #[], attributes := #[] }
def k1m1 : Method := { name := "law", desc := "(IIIII)Z", sig := { parameters := [.int, .int, .int, .int, .int], returnType := some .boolean }, accessFlags := 9, code := some k1c1 }
/-- com/example/hadamint/hadamint/QueriesWidenedPinLaw -/
def k1 : Class := { plain "com/example/hadamint/hadamint/QueriesWidenedPinLaw" (some 0) with
  accessFlags := 49
  interfaces := #[]
  cf := some (fileOf pool1 14 #[] #[{ accessFlags := 1, nameIndex := 5, descriptorIndex := 6, attributes := #[] }, { accessFlags := 9, nameIndex := 18, descriptorIndex := 19, attributes := #[] }] 49 2 #[] #[])
  fields := #[]
  methods := #[k1m0, k1m1]
  instanceTypes := #[]
  staticTypes := #[]
  resolved := Array.replicate 27 none
  statics := none }

def pool2 : Array CpInfo := pool [(2, .class_ 4), (1, u "com/example/hadamint/hadamint/Queries"), (2, .class_ 8), (0, u "java/lang/Object"), (6, u "widened"), (0, u "([FI)[D")] 5

def k2c0 : Code := { maxStack := 4, maxLocals := 4, code := prog_15_method_5_code, exceptionTable := #[], attributes := #[] }
def k2m0 : Method := { name := "widened", desc := "([FI)[D", sig := { parameters := [(.array .float), .int], returnType := some (.array .double) }, accessFlags := 9, code := some k2c0 }
/-- com/example/hadamint/hadamint/Queries -/
def k2 : Class := { plain "com/example/hadamint/hadamint/Queries" (some 0) with
  accessFlags := 1536
  interfaces := #[]
  cf := some (fileOf pool2 2 #[] #[{ accessFlags := 9, nameIndex := 15, descriptorIndex := 16, attributes := #[] }] 1536 7 #[] #[])
  fields := #[]
  methods := #[k2m0]
  instanceTypes := #[]
  staticTypes := #[]
  resolved := Array.replicate 22 none
  statics := none }

def pool3 : Array CpInfo := pool [(1, u "java/lang/Cloneable"), (0, .class_ 1), (0, u "java/lang/Object"), (0, .class_ 3)] 3

/-- java/lang/Cloneable -/
def k3 : Class := { plain "java/lang/Cloneable" (some 0) with
  accessFlags := 1537
  interfaces := #[]
  cf := some (fileOf pool3 2 #[] #[] 1537 4 #[] #[])
  fields := #[]
  methods := #[]
  instanceTypes := #[]
  staticTypes := #[]
  resolved := Array.replicate 8 none
  statics := none }

def pool4 : Array CpInfo := pool [(1, u "java/io/Serializable"), (0, .class_ 1), (0, u "java/lang/Object"), (0, .class_ 3)] 3

/-- java/io/Serializable -/
def k4 : Class := { plain "java/io/Serializable" (some 0) with
  accessFlags := 1537
  interfaces := #[]
  cf := some (fileOf pool4 2 #[] #[] 1537 4 #[] #[])
  fields := #[]
  methods := #[]
  instanceTypes := #[]
  staticTypes := #[]
  resolved := Array.replicate 8 none
  statics := none }

/-- the primitive byte -/
def k5 : Class := { plain "byte" none with kind := .primitive 'B', accessFlags := 0x411 }
/-- [B -/
def k6 : Class := { plain "[B" (some 0) with kind := .array 5 .byte, interfaces := #[3, 4], accessFlags := 1041 }

/-- the primitive int -/
def k7 : Class := { plain "int" none with kind := .primitive 'I', accessFlags := 0x411 }
/-- [I -/
def k8 : Class := { plain "[I" (some 0) with kind := .array 7 .int, interfaces := #[3, 4], accessFlags := 1041 }

def k9 : Class := { plain "float" none with kind := .primitive 'F', accessFlags := 0x411 }
def k10 : Class := { plain "[F" (some 0) with kind := .array 9 .float, interfaces := #[3, 4], accessFlags := 1041 }
def k11 : Class := { plain "double" none with kind := .primitive 'D', accessFlags := 0x411 }
def k12 : Class := { plain "[D" (some 0) with kind := .array 11 .double, interfaces := #[3, 4], accessFlags := 1041 }
def heap : Heap := #[]
def classes : Array Class := #[k0, k1, k2, k3, k4, k5, k6, k7, k8, k9, k10, k11, k12]
def interned : List (Array UInt16 × Addr) := []
def slotsUsed : Nat := 0
def theMethod : MethodId := ⟨1, 1⟩
def args0 : Array Value := #[.int 3, .int 4, .int 5, .int 6, .int 7]
def aboutOver (below : List Frame) : State where
  vm := { classes := classes, interned := interned.toArray }
  heap := heap
  slotsUsed := slotsUsed
  threads := #[{ frames := .invoking theMethod args0 :: below }]
def below0 : List Frame := [.native { method := ⟨0, 0⟩, args := #[] }]
def about1 : State := aboutOver below0
def p0 : Program := .bare "" "" ""
def e0 : Env := launch0.env 0 0 0
theorem w_frames : about1.frames = Frame.invoking theMethod args0 :: below0 := rfl
set_option maxRecDepth 65536 in
theorem w_args : argsFit about1.vm theMethod args0 = true := by decide +kernel
set_option maxRecDepth 65536 in
theorem w_heap : heapFits about1 = true := by decide +kernel
set_option maxRecDepth 65536 in
theorem w_runnable : about1.curStatus? = some .runnable := by decide +kernel
set_option maxRecDepth 65536 in
theorem w_alone : about1.alone = true := by decide +kernel
set_option maxRecDepth 65536 in
theorem w_named : about1.methodNamed? x = some theMethod := by decide +kernel
set_option maxRecDepth 65536 in
theorem w_hears : about1.hears theMethod below0 = true := by decide +kernel
set_option maxRecDepth 65536 in
theorem w_ripe : about1.ripe theMethod args0 below0 = true := by decide +kernel
theorem w_running : about1.status = .running := rfl
set_option maxRecDepth 65536 in
theorem w_room : about1.hasRoom e0.platform room_1 = true :=
  launch0.hasRoom_least _ room_1 (by decide +kernel) (by decide +kernel) (by decide +kernel) (by decide +kernel) (by decide +kernel) (by decide +kernel)
theorem allAtoms_all (ts : List Jvm.Cond) (a : Array Jvm.Value) (st : Jvm.State) : (allAtoms ts).before a st = ts.all (fun c => c.before a st) := by
  induction ts with
  | nil => rfl
  | cons c t ih =>
    show (Jvm.Cond.and c (allAtoms t)).before a st = _
    rw [Jvm.Cond.before_and, ih, List.all_cons]
def words1 : List Jvm.Cond := Jvm.Cond.code x code maxLocals ret :: tables_1
/-- a 'code' word, met by the world's own term for the bytes: nothing is compared byte by byte -/
theorem code_word {y : MethodName} {bytes : ByteArray} {mx : Nat} {rt : Option FieldType} {a : Array Value} {s : State} {m : MethodId} {meth : Method} {c : Code} (h1 : s.methodNamed? y = some m) (h2 : s.vm.method? m = some meth) (h3 : meth.code = some c) (h4 : c.code = bytes)
    (h5 : (c.maxLocals == mx && c.exceptionTable.isEmpty && decide (c.maxStack ≤ mostOperands) && decide (meth.sig.returnType = rt) && !meth.locks && decide (parseMethodDescriptor y.desc = some meth.sig)) = true) : (Jvm.Cond.code y bytes mx rt).before a s = true := by
  simp only [Bool.and_eq_true, beq_iff_eq, Bool.not_eq_true', decide_eq_true_eq] at h5
  obtain ⟨⟨⟨⟨⟨g1, g2⟩, g3⟩, g4⟩, g5⟩, g6⟩ := h5
  simp [Cond.before, Cond.holds, Cond.value, h1, h2, h3, h4, g1, g2, g3, g4, g5, g6]
def isCode : Jvm.Cond → Bool
  | .code _ _ _ _ => true
  | _ => false
theorem all_split {L : List Jvm.Cond} {P : Jvm.Cond → Bool} (h1 : L.all (fun c => isCode c || P c) = true) (h2 : ∀ c ∈ L.filter isCode, P c = true) : L.all P = true := by
  refine List.all_eq_true.mpr fun c hc => ?_
  have h := List.all_eq_true.mp h1 c hc
  rcases Bool.eq_false_or_eq_true (isCode c) with hi | hi
  · exact h2 c (List.mem_filter.mpr ⟨hc, hi⟩)
  · simpa [hi] using h
set_option maxRecDepth 65536 in
theorem w_c0 : (Jvm.Cond.code x code maxLocals ret).before args0 about1 = true := code_word (m := ⟨1, 1⟩) (meth := k1m1) (c := k1c1) (by decide +kernel) rfl rfl rfl (by decide +kernel)
set_option maxRecDepth 65536 in
theorem w_c1 : (Jvm.Cond.code ({ cls := "com/example/hadamint/hadamint/Queries", name := "widened", desc := "([FI)[D" } : Jvm.MethodName) prog_15_method_5_code (4 : Nat) (Option.some (Jvm.ClassFile.FieldType.array Jvm.ClassFile.FieldType.double))).before args0 about1 = true := code_word (m := ⟨2, 0⟩) (meth := k2m0) (c := k2c0) (by decide +kernel) rfl rfl rfl (by decide +kernel)
def codes1 : List Jvm.Cond := [Jvm.Cond.code x code maxLocals ret, Jvm.Cond.code ({ cls := "com/example/hadamint/hadamint/Queries", name := "widened", desc := "([FI)[D" } : Jvm.MethodName) prog_15_method_5_code (4 : Nat) (Option.some (Jvm.ClassFile.FieldType.array Jvm.ClassFile.FieldType.double))]
set_option maxRecDepth 65536 in
theorem codes_eq : words1.filter isCode = codes1 := rfl
theorem w_codes : ∀ c ∈ words1.filter isCode, c.before args0 about1 = true := by
  rw [codes_eq]
  intro c hc
  simp only [codes1, List.mem_cons, List.not_mem_nil, or_false] at hc
  rcases hc with rfl | rfl
  · exact w_c0
  · exact w_c1
set_option maxRecDepth 65536 in
theorem w_t1 : words1.all (fun c => isCode c || c.before args0 about1) = true := by decide +kernel
theorem w_tables : (allAtoms (Jvm.Cond.code x code maxLocals ret :: tables_1)).before args0 about1 = true := by
  rw [allAtoms_all]
  show words1.all (fun c => c.before args0 about1) = true
  refine all_split ?_ w_codes
  rw [w_t1]
set_option maxRecDepth 65536 in
theorem w_case : (Jvm.Cond.and given_1 narrow_1).before args0 about1 = true := by decide +kernel
theorem w_applies : (headSpec (Jvm.Cond.code x code maxLocals ret :: tables_1) room_1).applies x e0.platform about1 = true :=
  (Spec.applies_iff w_frames).mpr ⟨w_running, w_runnable, w_alone, w_named, w_hears, w_ripe, w_room, w_tables⟩
theorem atStart : AtStart classFile x code maxLocals ret World_1 tables_1 room_1 Calls_1 rest_1 Pre_1 launch0 p0 e0 about1 theMethod args0 below0 :=
  ⟨lists_1, trivial, launch0.admits_env _ _ _, launch0.least_env, fairChoices_fair.cas, fairChoices_fair.clock, w_frames, w_args, w_heap, w_applies, trivial, trivial, w_case⟩
end start1
theorem witness_1 : WitnessClaimed_1 := ⟨start1.p0, start1.e0, start1.about1, start1.theMethod, start1.args0, start1.below0, start1.atStart⟩
end Jvm.Pilot.@@N@@
