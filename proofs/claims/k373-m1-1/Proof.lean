import JvmDerived
import JvmDerived.Pilot.@@N@@Statement
import JvmDerived.Pilot.@@N@@Code
set_option linter.unusedVariables false
set_option linter.unusedSimpArgs false
namespace Jvm.Pilot.@@N@@
open Jvm Jvm.ClassFile Sem Op Lib Jvm.Free Jvm.Stand Jvm.LawKit Jvm.RoadKit Bundle Jvm.Pilot.@@N@@.Jvm.D
section Own
variable {p : Program} {l : Launch} {e : Env} {R : Room} {s : State} {m : MethodId} {args : Array Value} {below : List Frame} {meth : Method} {c : Code} {T : State} {locs : List Loc} {cells slots : Nat} {Z : State} {a0 : Array Value} {h h' : Heap} {rc rs : Nat} {Q Qc : Option Value → Heap → List Loc → Prop}
/-- from here the run comes to its end, and leaves what Q says -/
def GG (p : Program) (e : Env) (below : List Frame) (s : State) (rc rs : Nat) (Q : Option Value → Heap → List Loc → Prop) (T : State) (g : JFrame) : Prop :=
  ∃ s₂ o, Steps p.tables e below (T.setTop g) s₂ ∧ s₂.status = .running ∧ Ended s₂ below o ∧ ∃ v L, o = .returned v ∧ Q v s₂.heap L ∧ FrameEnd s o s₂ L rc rs
theorem own_go {T' : State} {g g' : JFrame} (st : ∀ t, Steps p.tables e below (T'.setTop g') t → Steps p.tables e below (T.setTop g) t) (k : GG p e below s rc rs Q T' g') : GG p e below s rc rs Q T g := by
  obtain ⟨s₂, o, h1, h2⟩ := k
  exact ⟨s₂, o, st _ h1, h2⟩
theorem own_in {g g' : JFrame} (q : g = g') (k : GG p e below s rc rs Q T g') : GG p e below s rc rs Q T g := q ▸ k
theorem own_if {g1 g2 : JFrame} {P : Prop} [Decidable P] (k1 : P → GG p e below s rc rs Q T g1) (k2 : ¬ P → GG p e below s rc rs Q T g2) : GG p e below s rc rs Q T (if P then g1 else g2) := by
  by_cases q : P
  · rw [if_pos q]; exact k1 q
  · rw [if_neg q]; exact k2 q
theorem own_join {g g' : JFrame} (k1 : GG p e below s rc rs Q T g' → GG p e below s rc rs Q T g) (k2 : GG p e below s rc rs Q T g') : GG p e below s rc rs Q T g := k1 k2
abbrev own_CT (l : Launch) (Z : State) (y : MethodName) (bytes : ByteArray) (maxL : Nat) (ret : Option FieldType) (ws : List Jvm.Cond) (rm : Room) (as : Array Value) (h : Heap) (Qc : Option Value → Heap → List Loc → Prop) : Prop :=
  MetFree l y (head1 (Jvm.Cond.code y bytes maxL ret :: ws) rm) (fun a U => a = as ∧ Z.Warmed39 U.vm ∧ U.heap = h) (fun _ _ _ _ _ => True) (fun _ U o U' => ∃ v L, o = .returned v ∧ Qc v U'.heap L ∧ FrameEnd U o U' L rm.cells rm.slots)
theorem own_callS (X : Stand p l e R s m args below meth c T locs cells slots) (hx : p.tables.exec = Jvm.exec) (hZ : Z.Warmed39 s.vm) {own : String} {index : Nat} {y : MethodName} {bytes : ByteArray} {maxL : Nat} {ret : Option FieldType} {rm : Room} (W : Nat)
    (hown : s.vm.findClass own = some m.cls) (w1 : (Jvm.Cond.methodLink own index y).before a0 Z = true) (w2 : (Jvm.Cond.static y).before a0 Z = true) (w3 : (Jvm.Cond.initialized y.cls).before a0 Z = true) (w4 : (Jvm.Cond.code y bytes maxL ret).before a0 Z = true)
    (hy : y.cls ≠ "java/lang/invoke/MethodHandle" ∧ y.cls ≠ "java/lang/invoke/VarHandle") {argsL rest : List Value} (hM : own_CT l Z y bytes maxL ret [] rm argsL.toArray h Qc)
    (hf : rm.frames + 1 ≤ R.frames) (hl : W + (maxL + 11) + rm.locals ≤ R.locals) (hc : cells + rm.cells ≤ R.cells) (hs : slots + rm.slots ≤ R.slots)
    {g : JFrame} (hg : g.method = m) (hsize : g.locals.size = c.maxLocals) (hlen : ∀ sig, parseMethodDescriptor y.desc = some sig → argsL.length = sig.parameters.length) (hstack : g.stack = argsL.reverse ++ rest) (hW : 2 * g.monitorRoom + (rest.map fun v => v.category).sum ≤ W)
    (hdg : decode c.code g.pc = .ok (.invokestatic index, 3)) (eT : T.heap = h)
    (k : ∀ (v : Option Value) (T' : State) (L : List Loc), Stand p l e R s m args below meth c T' (locs ++ L) (cells + rm.cells) (slots + rm.slots) → Qc v T'.heap L → GG p e below s rc rs Q T' { g with pc := g.pc + 3, stack := v.toList ++ rest }) : GG p e below s rc rs Q T g := by
  obtain ⟨v, vm₁, ⟨T', L', k', n'⟩, -, X', ⟨L, hQ, q1, q2, q3⟩, st⟩ := Jvm.LawKit.callS X hx hown (mvT hZ w1) (mvT hZ w2) (mvT hZ w3) (mvT hZ w4) hy (backOf (W := W) hM hZ w4 w3 hf hl) hg hsize hlen hstack hW hdg (fun _ _ => ⟨rfl, eT, hc, hs⟩)
  dsimp only [Pt.U, Pt.locs, Pt.cells, Pt.slots] at X' q1 q2 q3 st hQ
  subst q1 q2 q3
  exact own_go st (k v T' L X' hQ)
theorem own_callI (X : Stand p l e R s m args below meth c T locs cells slots) (hx : p.tables.exec = Jvm.exec) (hZ : Z.Warmed39 s.vm) {own : String} {index : Nat} {y : MethodName} {bytes : ByteArray} {maxL : Nat} {rm : Room} (W : Nat) (hy1 : y.name = "<init>")
    (hown : s.vm.findClass own = some m.cls) (w1 : (Jvm.Cond.methodLink own index y).before a0 Z = true) (w2 : (Jvm.Cond.instanceMethod y).before a0 Z = true) (w3 : (Jvm.Cond.initialized y.cls).before a0 Z = true) (w4 : (Jvm.Cond.code y bytes maxL none).before a0 Z = true)
    (hy : y.cls ≠ "java/lang/invoke/MethodHandle" ∧ y.cls ≠ "java/lang/invoke/VarHandle") {a : Addr} {argsL rest : List Value} (hM : own_CT l Z y bytes maxL none [] rm (.ref a :: argsL).toArray h Qc)
    (hf : rm.frames + 1 ≤ R.frames) (hl : W + (maxL + 11) + rm.locals ≤ R.locals) (hc : cells + rm.cells ≤ R.cells) (hs : slots + rm.slots ≤ R.slots)
    {g : JFrame} (hg : g.method = m) (hsize : g.locals.size = c.maxLocals) (hlen : ∀ sig, parseMethodDescriptor y.desc = some sig → argsL.length = sig.parameters.length) (hstack : g.stack = argsL.reverse ++ .ref a :: rest) (hW : 2 * g.monitorRoom + (rest.map fun v => v.category).sum ≤ W)
    (hdg : decode c.code g.pc = .ok (.invokespecial index, 3)) (eT : T.heap = h)
    (k : ∀ (v : Option Value) (T' : State) (L : List Loc), Stand p l e R s m args below meth c T' (locs ++ L) (cells + rm.cells) (slots + rm.slots) → Qc v T'.heap L → GG p e below s rc rs Q T' { g with pc := g.pc + 3, stack := v.toList ++ rest }) : GG p e below s rc rs Q T g := by
  obtain ⟨v, vm₁, ⟨T', L', k', n'⟩, -, X', ⟨L, hQ, q1, q2, q3⟩, st⟩ := X.specialBack hx hy1 hown (mvT hZ w1) (mvT hZ w2) (mvT hZ w4) hy (backOf (W := W) hM hZ w4 w3 hf hl) hg hsize (Steps.refl _) hlen hstack hW hdg (fun _ _ => ⟨rfl, eT, hc, hs⟩)
  dsimp only [Pt.U, Pt.locs, Pt.cells, Pt.slots] at X' q1 q2 q3 st hQ
  subst q1 q2 q3
  exact own_go (fun _ => st.trans) (k v T' L X' hQ)
theorem own_callV (X : Stand p l e R s m args below meth c T locs cells slots) (hx : p.tables.exec = Jvm.exec) (hZ : Z.Warmed39 s.vm) {own C : String} {index : Nat} {y z : MethodName} {bytes : ByteArray} {maxL : Nat} {ret : Option FieldType} {rm : Room} (W : Nat)
    (hown : s.vm.findClass own = some m.cls) (w1 : (Jvm.Cond.methodLink own index y).before a0 Z = true) (w2 : (Jvm.Cond.declares y).before a0 Z = true) (hnf : NotFace s y) (w5 : (Jvm.Cond.selects C y z).before a0 Z = true) (w6 : (Jvm.Cond.instanceMethod z).before a0 Z = true) (w3 : (Jvm.Cond.initialized z.cls).before a0 Z = true) (w4 : (Jvm.Cond.code z bytes maxL ret).before a0 Z = true)
    (hy : y.cls ≠ "java/lang/invoke/MethodHandle" ∧ y.cls ≠ "java/lang/invoke/VarHandle") {a : Addr} {argsL rest : List Value} (hM : own_CT l Z z bytes maxL ret [] rm (.ref a :: argsL).toArray h Qc)
    (hf : rm.frames + 1 ≤ R.frames) (hl : W + (maxL + 11) + rm.locals ≤ R.locals) (hc : cells + rm.cells ≤ R.cells) (hs : slots + rm.slots ≤ R.slots) (E : Exa Z h a C)
    {g : JFrame} (hg : g.method = m) (hsize : g.locals.size = c.maxLocals) (hlen : ∀ sig, parseMethodDescriptor y.desc = some sig → argsL.length = sig.parameters.length) (hstack : g.stack = argsL.reverse ++ .ref a :: rest) (hW : 2 * g.monitorRoom + (rest.map fun v => v.category).sum ≤ W)
    (hdg : decode c.code g.pc = .ok (.invokevirtual index, 3)) (eT : T.heap = h)
    (k : ∀ (v : Option Value) (T' : State) (L : List Loc), Stand p l e R s m args below meth c T' (locs ++ L) (cells + rm.cells) (slots + rm.slots) → Qc v T'.heap L → GG p e below s rc rs Q T' { g with pc := g.pc + 3, stack := v.toList ++ rest }) : GG p e below s rc rs Q T g := by
  obtain ⟨cq, kq, qa, qb, qc⟩ := isOf hZ eT E
  obtain ⟨v, vm₁, ⟨T', L', k', n'⟩, -, X', ⟨L, hQ, q1, q2, q3⟩, st⟩ := X.virtualBack hx hown (mvT hZ w1) (mvT hZ w2) hnf (mvT hZ w5) (mvT hZ w6) hy (backOf (W := W) hM hZ w4 w3 hf hl) qa qc hg hsize (Steps.refl _) hlen hstack hW hdg (fun _ _ => ⟨rfl, eT, hc, hs⟩)
  dsimp only [Pt.U, Pt.locs, Pt.cells, Pt.slots] at X' q1 q2 q3 st hQ
  subst q1 q2 q3
  exact own_go (fun _ => st.trans) (k v T' L X' hQ)
theorem own_callP (X : Stand p l e R s m args below meth c T locs cells slots) (hx : p.tables.exec = Jvm.exec) (hZ : Z.Warmed39 s.vm) {own C : String} {index : Nat} {y : MethodName} {bytes : ByteArray} {maxL : Nat} {ret : Option FieldType} {rm : Room} (W : Nat)
    (hown : s.vm.findClass own = some m.cls) (w1 : (Jvm.Cond.methodLink own index y).before a0 Z = true) (w2 : (Jvm.Cond.instanceMethod y).before a0 Z = true) {kk : Nat} (w5 : (Jvm.Cond.instantiable y.cls kk).before a0 Z = true) (w6 : (Jvm.Cond.privateMethod y).before a0 Z = true) (w3 : (Jvm.Cond.initialized y.cls).before a0 Z = true) (w4 : (Jvm.Cond.code y bytes maxL ret).before a0 Z = true)
    (hy : y.cls ≠ "java/lang/invoke/MethodHandle" ∧ y.cls ≠ "java/lang/invoke/VarHandle") {a : Addr} {argsL rest : List Value} (hM : own_CT l Z y bytes maxL ret [] rm (.ref a :: argsL).toArray h Qc)
    (hf : rm.frames + 1 ≤ R.frames) (hl : W + (maxL + 11) + rm.locals ≤ R.locals) (hc : cells + rm.cells ≤ R.cells) (hs : slots + rm.slots ≤ R.slots) (E : Exa Z h a C)
    {g : JFrame} (hg : g.method = m) (hsize : g.locals.size = c.maxLocals) (hlen : ∀ sig, parseMethodDescriptor y.desc = some sig → argsL.length = sig.parameters.length) (hstack : g.stack = argsL.reverse ++ .ref a :: rest) (hW : 2 * g.monitorRoom + (rest.map fun v => v.category).sum ≤ W)
    (hdg : decode c.code g.pc = .ok (.invokevirtual index, 3)) (eT : T.heap = h)
    (k : ∀ (v : Option Value) (T' : State) (L : List Loc), Stand p l e R s m args below meth c T' (locs ++ L) (cells + rm.cells) (slots + rm.slots) → Qc v T'.heap L → GG p e below s rc rs Q T' { g with pc := g.pc + 3, stack := v.toList ++ rest }) : GG p e below s rc rs Q T g := by
  obtain ⟨cq, q, q'⟩ := E.cell
  have hpr : s.PrivateAt y := Cond.privateMethod_at (mvP hZ w6 (args := #[]))
  obtain ⟨c1, k1, i1, i2, -, i4, -⟩ := Cond.instantiable_spec (show (Jvm.Cond.instantiable y.cls kk).before args s = true from mv hZ w5)
  have hsel : (Jvm.Cond.selects y.cls y y).before args s = true := selects_self_of_private i1 i2 (Bool.or_eq_false_iff.mp i4).1 hpr (mvT hZ w2) hy
  obtain ⟨v, vm₁, ⟨T', L', k', n'⟩, -, X', ⟨L, hQ, q1, q2, q3⟩, st⟩ := X.privateBack hx hown (mvT hZ w1) (mvT hZ w2) hsel hpr (mvT hZ w4) hy (backOf (W := W) hM hZ w4 w3 hf hl) hg hsize (Steps.refl _) (by rw [eT]; exact q) q' hlen hstack hW hdg (fun _ _ => ⟨rfl, eT, hc, hs⟩)
  dsimp only [Pt.U, Pt.locs, Pt.cells, Pt.slots] at X' q1 q2 q3 st hQ
  subst q1 q2 q3
  exact own_go (fun _ => st.trans) (k v T' L X' hQ)
theorem own_ret (X : Stand p l e R s m args below meth c T locs cells slots) (hx : p.tables.exec = Jvm.exec) (hlk : meth.locks = false) {t : FieldType} {w : Value} {i : Instr} {pc : Nat} {Ls : Array Slot} {rest : List Value} (hret : meth.sig.returnType = some t) (hn : narrow t w = w)
    (hi : (i = .ireturn ∧ (t = .int ∨ t = .boolean ∨ t = .byte ∨ t = .char ∨ t = .short) ∧ ∃ z, w = .int z) ∨ (i = .lreturn ∧ t = .long ∧ ∃ z, w = .long z) ∨ (i = .dreturn ∧ t = .double ∧ ∃ z, w = .double z) ∨ (i = .freturn ∧ t = .float ∧ ∃ z, w = .float z) ∨ (i = .areturn ∧ t.isReference = true ∧ w.isRef = true))
    (hd : decode c.code pc = .ok (i, 1)) (hc : cells ≤ rc) (hs : slots ≤ rs) (hQ : Q (some w) T.heap locs) : GG p e below s rc rs Q T (mkF m pc Ls (w :: rest)) := by
  obtain ⟨fs, hr, hrun, hended, hW, hsame⟩ := X.leave (v := some w) (fun h => by rw [hret] at h; cases h) hlk
  exact ⟨_, _, retOut X hx hret hn hi hd hr, hrun, hended, _, _, rfl, hQ, ⟨_, rfl⟩, hW, hsame.mono hc hs⟩
theorem own_retV (X : Stand p l e R s m args below meth c T locs cells slots) (hx : p.tables.exec = Jvm.exec) (hlk : meth.locks = false) {pc : Nat} {Ls : Array Slot} (hret : meth.sig.returnType = none)
    (hd : decode c.code pc = .ok (.return_, 1)) (hc : cells ≤ rc) (hs : slots ≤ rs) (hQ : Q none T.heap locs) : GG p e below s rc rs Q T (mkF m pc Ls []) := by
  obtain ⟨fs, hr, hrun, hended, hW, hsame⟩ := X.leave (v := none) (fun _ => rfl) hlk
  exact ⟨_, _, X.returnOut hx hret hd hr, hrun, hended, _, _, rfl, hQ, ⟨_, rfl⟩, hW, hsame.mono hc hs⟩
theorem own_nZ {P : Prop} [Decidable P] : narrow .boolean (.int (if P then 1 else 0)) = .int (if P then 1 else 0) := by split <;> rfl
/-- an array of values, all of them named -/
def Arx (Z : State) (h : Heap) (a : Addr) (ty : FieldType) (vs : List Value) : Prop := vs.length < 2 ^ 31 ∧ ∃ k dv, Arv Z h a k ty (Int32.ofNat vs.length) vs dv
variable {a b : Addr} {ty : FieldType} {vs : List Value}
theorem own_ofNat {n : Nat} (q : n < 2 ^ 31) : (Int32.ofNat n).toInt = n := Int32.toInt_ofNat_of_lt q
theorem own_clamp {n : Nat} (q : n < 2 ^ 31) : (Int32.ofNat n).toNatClampNeg = n := by simp only [Int32.toNatClampNeg, own_ofNat q]; rfl
theorem Arx.lt (V : Arx Z h a ty vs) : a < h.size := by obtain ⟨_, k, dv, V⟩ := V; exact V.lt
theorem Arx.ext (V : Arx Z h a ty vs) (E : Ext h h') : Arx Z h' a ty vs := by obtain ⟨q, k, dv, V⟩ := V; exact ⟨q, k, dv, V.ext E⟩
theorem Arx.other {sl : Nat} {v : Value} (V : Arx Z h b ty vs) (W : Wr h h' a sl v) (n : b ≠ a) : Arx Z h' b ty vs := by obtain ⟨q, k, dv, V⟩ := V; exact ⟨q, k, dv, V.other W n⟩
theorem Arx.keep {ws : List Addr} (V : Arx Z h a ty vs) (K : Keep h h' ws) (n : a ∉ ws) : Arx Z h' a ty vs := by obtain ⟨q, k, dv, V⟩ := V; exact ⟨q, k, dv, V.keep K n⟩
theorem Arx.open {j : Int32} {v : Value} (V : Arx Z h a ty vs) (h0 : ¬ j < 0) (hv : vs[j.toNatClampNeg]? = some v) : ∃ cl, Arr Z h a cl ty ∧ ¬ (j < 0 ∨ cl.slots.size ≤ j.toNatClampNeg) ∧ cl.slots[j.toNatClampNeg]? = some v := by
  obtain ⟨q, k, dv, cl, A, -, S, -, H, -⟩ := V
  rw [own_clamp q] at S
  have hl := (List.getElem?_eq_some_iff.mp hv).1
  have e := H j.toNatClampNeg (by rw [S]; exact hl)
  rw [List.getD_eq_getElem?_getD, hv] at e
  exact ⟨cl, A, fun q' => q'.elim h0 (by rw [S]; exact Nat.not_le.mpr hl), e⟩
theorem own_len (X : Stand p l e R s m args below meth c T locs cells slots) (hx : p.tables.exec = Jvm.exec) (hZ : Z.Warmed39 s.vm) (eT : T.heap = h) (V : Arx Z h a ty vs) {g : JFrame} (hg : g.method = m) {rest : List Value} (hs : g.stack = .ref a :: rest) (hd : decode c.code g.pc = .ok (.arraylength, 1)) :
    ∀ t, Steps p.tables e below (T.setTop { g with pc := g.pc + 1, stack := .int (Int32.ofNat vs.length) :: rest }) t → Steps p.tables e below (T.setTop g) t := fun t k => by
  obtain ⟨q, k', dv, cl, A, -, S, N, -⟩ := V
  refine X.arraylength hx (by rw [eT]; exact A.1) (State.isArrayOf_alike hZ.alike A.2.1) hg hs hd _ ?_
  rw [len_of S N]; exact k
theorem own_iaload (X : Stand p l e R s m args below meth c T locs cells slots) (hx : p.tables.exec = Jvm.exec) (hZ : Z.Warmed39 s.vm) (eT : T.heap = h) (V : Arx Z h a .int vs) {j : Int32} {v : Value} (h0 : ¬ j < 0) (hv : vs[j.toNatClampNeg]? = some v) {g : JFrame} (hg : g.method = m) {rest : List Value} (hs : g.stack = .int j :: .ref a :: rest) (hd : decode c.code g.pc = .ok (.iaload, 1)) :
    ∀ t, Steps p.tables e below (T.setTop { g with pc := g.pc + 1, stack := v :: rest }) t → Steps p.tables e below (T.setTop g) t := fun t k => by
  obtain ⟨cl, A, h1, h2⟩ := V.open h0 hv
  exact X.iaload hx (by rw [eT]; exact A.1) (State.isArrayOf_alike hZ.alike A.2.1) A.2.2 h1 h2 hg hs hd _ k
theorem own_laload (X : Stand p l e R s m args below meth c T locs cells slots) (hx : p.tables.exec = Jvm.exec) (hZ : Z.Warmed39 s.vm) (eT : T.heap = h) (V : Arx Z h a .long vs) {j : Int32} {v : Value} (h0 : ¬ j < 0) (hv : vs[j.toNatClampNeg]? = some v) {g : JFrame} (hg : g.method = m) {rest : List Value} (hs : g.stack = .int j :: .ref a :: rest) (hd : decode c.code g.pc = .ok (.laload, 1)) :
    ∀ t, Steps p.tables e below (T.setTop { g with pc := g.pc + 1, stack := v :: rest }) t → Steps p.tables e below (T.setTop g) t := fun t k => by
  obtain ⟨cl, A, h1, h2⟩ := V.open h0 hv
  exact X.laload hx (by rw [eT]; exact A.1) (State.isArrayOf_alike hZ.alike A.2.1) A.2.2 h1 h2 hg hs hd _ k
theorem own_caload (X : Stand p l e R s m args below meth c T locs cells slots) (hx : p.tables.exec = Jvm.exec) (hZ : Z.Warmed39 s.vm) (eT : T.heap = h) (V : Arx Z h a .char vs) {j : Int32} {v : Value} (h0 : ¬ j < 0) (hv : vs[j.toNatClampNeg]? = some v) {g : JFrame} (hg : g.method = m) {rest : List Value} (hs : g.stack = .int j :: .ref a :: rest) (hd : decode c.code g.pc = .ok (.caload, 1)) :
    ∀ t, Steps p.tables e below (T.setTop { g with pc := g.pc + 1, stack := v :: rest }) t → Steps p.tables e below (T.setTop g) t := fun t k => by
  obtain ⟨cl, A, h1, h2⟩ := V.open h0 hv
  exact X.caload hx (by rw [eT]; exact A.1) (State.isArrayOf_alike hZ.alike A.2.1) A.2.2 h1 h2 hg hs hd _ k
theorem own_baload (X : Stand p l e R s m args below meth c T locs cells slots) (hx : p.tables.exec = Jvm.exec) (hZ : Z.Warmed39 s.vm) (eT : T.heap = h) (V : Arx Z h a .byte vs) {j : Int32} {v : Value} (h0 : ¬ j < 0) (hv : vs[j.toNatClampNeg]? = some v) {g : JFrame} (hg : g.method = m) {rest : List Value} (hs : g.stack = .int j :: .ref a :: rest) (hd : decode c.code g.pc = .ok (.baload, 1)) :
    ∀ t, Steps p.tables e below (T.setTop { g with pc := g.pc + 1, stack := v :: rest }) t → Steps p.tables e below (T.setTop g) t := fun t k => by
  obtain ⟨cl, A, h1, h2⟩ := V.open h0 hv
  exact X.baloadBytes hx (by rw [eT]; exact A.1) (State.isArrayOf_alike hZ.alike A.2.1) A.2.2 h1 h2 hg hs hd _ k
theorem own_aaload (X : Stand p l e R s m args below meth c T locs cells slots) (hx : p.tables.exec = Jvm.exec) (hZ : Z.Warmed39 s.vm) (eT : T.heap = h) (V : Arx Z h a ty vs) (ht : ty.isReference = true) {j : Int32} {v : Value} (h0 : ¬ j < 0) (hv : vs[j.toNatClampNeg]? = some v) {g : JFrame} (hg : g.method = m) {rest : List Value} (hs : g.stack = .int j :: .ref a :: rest) (hd : decode c.code g.pc = .ok (.aaload, 1)) :
    ∀ t, Steps p.tables e below (T.setTop { g with pc := g.pc + 1, stack := v :: rest }) t → Steps p.tables e below (T.setTop g) t := fun t k => by
  obtain ⟨cl, A, h1, h2⟩ := V.open h0 hv
  exact X.aaload hx (by rw [eT]; exact A.1) (State.isArrayOf_alike hZ.alike A.2.1) ht A.2.2 h1 h2 hg hs hd _ k
theorem Arx.put {j : Int32} {v : Value} (V : Arx Z h a ty vs) (h0 : ¬ j < 0) (hj : j.toNatClampNeg < vs.length) (hv : fits ty v = true) : ∃ cl, Arr Z h a cl ty ∧ ¬ (j < 0 ∨ cl.slots.size ≤ j.toNatClampNeg) ∧ ∀ {h' : Heap}, Wr h h' a j.toNatClampNeg v → Arx Z h' a ty (vs.set j.toNatClampNeg v) := by
  obtain ⟨q, k, dv, cl, A, q1, S, N, H, G⟩ := V
  refine ⟨cl, A, fun q' => q'.elim h0 ?_, fun W => ⟨by rw [List.length_set]; exact q, k, dv, ?_⟩⟩
  · rw [S, own_clamp q]; exact Nat.not_le.mpr hj
  · rw [List.length_set]; exact Arv.set A q1 S N H G hv W _ rfl hj
theorem own_iastore (X : Stand p l e R s m args below meth c T locs cells slots) (hx : p.tables.exec = Jvm.exec) (hZ : Z.Warmed39 s.vm) (eT : T.heap = h) (V : Arx Z h a .int vs) {j x : Int32} (h0 : ¬ j < 0) (hj : j.toNatClampNeg < vs.length) {g : JFrame} (hg : g.method = m) {rest : List Value} (hs : g.stack = .int x :: .int j :: .ref a :: rest) (hd : decode c.code g.pc = .ok (.iastore, 1)) :
    ∃ T' h', Stand p l e R s m args below meth c T' (locs ++ [⟨a, j.toNatClampNeg⟩]) cells slots ∧ T'.heap = h' ∧ Wr h h' a j.toNatClampNeg (.int x) ∧ Arx Z h' a .int (vs.set j.toNatClampNeg (.int x)) ∧ ∀ t, Steps p.tables e below (T'.setTop { g with pc := g.pc + 1, stack := rest }) t → Steps p.tables e below (T.setTop g) t := by
  obtain ⟨cl, A, h1, h2⟩ := V.put (v := .int x) h0 hj rfl
  obtain ⟨T', h', X', e', W, st⟩ := stI X hx hZ eT A h1 hg hs hd
  exact ⟨T', h', X', e', W, h2 W, st⟩
theorem own_lastore (X : Stand p l e R s m args below meth c T locs cells slots) (hx : p.tables.exec = Jvm.exec) (hZ : Z.Warmed39 s.vm) (eT : T.heap = h) (V : Arx Z h a .long vs) {j : Int32} {x : Int64} (h0 : ¬ j < 0) (hj : j.toNatClampNeg < vs.length) {g : JFrame} (hg : g.method = m) {rest : List Value} (hs : g.stack = .long x :: .int j :: .ref a :: rest) (hd : decode c.code g.pc = .ok (.lastore, 1)) :
    ∃ T' h', Stand p l e R s m args below meth c T' (locs ++ [⟨a, j.toNatClampNeg⟩]) cells slots ∧ T'.heap = h' ∧ Wr h h' a j.toNatClampNeg (.long x) ∧ Arx Z h' a .long (vs.set j.toNatClampNeg (.long x)) ∧ ∀ t, Steps p.tables e below (T'.setTop { g with pc := g.pc + 1, stack := rest }) t → Steps p.tables e below (T.setTop g) t := by
  obtain ⟨cl, A, h1, h2⟩ := V.put (v := .long x) h0 hj rfl
  obtain ⟨T', h', X', e', W, st⟩ := stJ X hx hZ eT A h1 hg hs hd
  exact ⟨T', h', X', e', W, h2 W, st⟩
theorem own_castore (X : Stand p l e R s m args below meth c T locs cells slots) (hx : p.tables.exec = Jvm.exec) (hZ : Z.Warmed39 s.vm) (eT : T.heap = h) (V : Arx Z h a .char vs) {j x : Int32} (h0 : ¬ j < 0) (hj : j.toNatClampNeg < vs.length) {g : JFrame} (hg : g.method = m) {rest : List Value} (hs : g.stack = .int x :: .int j :: .ref a :: rest) (hd : decode c.code g.pc = .ok (.castore, 1)) :
    ∃ T' h', Stand p l e R s m args below meth c T' (locs ++ [⟨a, j.toNatClampNeg⟩]) cells slots ∧ T'.heap = h' ∧ Wr h h' a j.toNatClampNeg (.int (nar .char x)) ∧ Arx Z h' a .char (vs.set j.toNatClampNeg (.int (nar .char x))) ∧ ∀ t, Steps p.tables e below (T'.setTop { g with pc := g.pc + 1, stack := rest }) t → Steps p.tables e below (T.setTop g) t := by
  obtain ⟨cl, A, h1, h2⟩ := V.put (v := .int (nar .char x)) h0 hj (fits_nar_char _)
  obtain ⟨T', h', X', e', W, st⟩ := stC X hx hZ eT A h1 hg hs hd
  exact ⟨T', h', X', e', W, h2 W, st⟩
theorem own_bastore (X : Stand p l e R s m args below meth c T locs cells slots) (hx : p.tables.exec = Jvm.exec) (hZ : Z.Warmed39 s.vm) (eT : T.heap = h) (V : Arx Z h a .byte vs) {j x : Int32} (h0 : ¬ j < 0) (hj : j.toNatClampNeg < vs.length) {g : JFrame} (hg : g.method = m) {rest : List Value} (hs : g.stack = .int x :: .int j :: .ref a :: rest) (hd : decode c.code g.pc = .ok (.bastore, 1)) :
    ∃ T' h', Stand p l e R s m args below meth c T' (locs ++ [⟨a, j.toNatClampNeg⟩]) cells slots ∧ T'.heap = h' ∧ Wr h h' a j.toNatClampNeg (.int (nar .byte x)) ∧ Arx Z h' a .byte (vs.set j.toNatClampNeg (.int (nar .byte x))) ∧ ∀ t, Steps p.tables e below (T'.setTop { g with pc := g.pc + 1, stack := rest }) t → Steps p.tables e below (T.setTop g) t := by
  obtain ⟨cl, A, h1, h2⟩ := V.put (v := .int (nar .byte x)) h0 hj (fits_nar_byte _)
  obtain ⟨T', h', X', e', W, st⟩ := stB X hx hZ eT A h1 hg hs hd
  exact ⟨T', h', X', e', W, h2 W, st⟩
theorem own_newarr (X : Stand p l e R s m args below meth c T locs cells slots) (hx : p.tables.exec = Jvm.exec) (hZ : Z.Warmed39 s.vm) {aty : ArrayType} (w : (Jvm.Cond.arrayClass (newarray.typeOf aty)).before a0 Z = true) (eT : T.heap = h) {g : JFrame} (hg : g.method = m) (hd : decode c.code g.pc = .ok (.newarray aty, 2)) {n : Int32} {rest : List Value} (hs : g.stack = .int n :: rest)
    (hn : ¬ n < 0) {cap : Nat} (hcap : n.toNatClampNeg ≤ cap) (hb : cap * 8 ≤ 536870912) (hc : cells + 1 ≤ R.cells) (hl : slots + cap ≤ R.slots) {ad : String} (had : "[" ++ (newarray.typeOf aty).toString = ad) :
    ∃ T' h' a, a = h.size ∧ Stand p l e R s m args below meth c T' locs (cells + 1) (slots + cap) ∧ T'.heap = h' ∧ Ext h h' ∧ Arx Z h' a (newarray.typeOf aty) (List.replicate n.toNatClampNeg (defaultValue (newarray.typeOf aty))) ∧ Exa Z h' a ad ∧
      ∀ t, Steps p.tables e below (T'.setTop { g with pc := g.pc + 2, stack := .ref a :: rest }) t → Steps p.tables e below (T.setTop g) t := by
  obtain ⟨T', h', cA, X', e', E, A, Ex, st⟩ := newPE X hx hZ w eT hg hd hs hn hcap hb hc hl had
  have b := back32 hn
  refine ⟨T', h', _, rfl, X', e', E, ⟨by rw [List.length_replicate]; exact b.2, cA, defaultValue (newarray.typeOf aty), ?_⟩, Ex, st⟩
  rw [List.length_replicate, show Int32.ofNat n.toNatClampNeg = n from b.1]
  exact (Arv.new A hn).pad (pad_rep [] _ _)
theorem own_clone (X : Stand p l e R s m args below meth c T locs cells slots) (hx : p.tables.exec = Jvm.exec) (hZ : Z.Warmed39 s.vm) {own ad : String} {index : Nat} (hown : s.vm.findClass own = some m.cls)
    (w1 : (Jvm.Cond.methodLink own index ⟨ad, "clone", "()Ljava/lang/Object;"⟩).before a0 Z = true) (w2 : (Jvm.Cond.sameMethod ad "java/lang/Object" "clone" "()Ljava/lang/Object;").before a0 Z = true) (w3 : (Jvm.Cond.native ⟨"java/lang/Object", "clone", "()Ljava/lang/Object;"⟩).before a0 Z = true)
    (w4 : (Jvm.Cond.instanceMethod ⟨"java/lang/Object", "clone", "()Ljava/lang/Object;"⟩).before a0 Z = true) (w5 : (Jvm.Cond.selects ad ⟨ad, "clone", "()Ljava/lang/Object;"⟩ ⟨"java/lang/Object", "clone", "()Ljava/lang/Object;"⟩).before a0 Z = true) (w6 : (Jvm.Cond.castable ad "java/lang/Cloneable").before a0 Z = true)
    (eT : T.heap = h) (V : Arx Z h a ty vs) (E : Exa Z h a ad) {g : JFrame} (hg : g.method = m) (hsize : g.locals.size = c.maxLocals) {rest : List Value} (hst : g.stack = .ref a :: rest) (hd : decode c.code g.pc = .ok (.invokevirtual index, 3))
    (hf : 1 ≤ R.frames) {W cap : Nat} (hW : 2 * g.monitorRoom + (rest.map fun v => v.category).sum ≤ W) (hl : W + 14 ≤ R.locals) (hcap : vs.length ≤ cap) (hc : cells + 1 ≤ R.cells) (hsl : slots + cap ≤ R.slots) :
    ∃ T' h' b, b = h.size ∧ Stand p l e R s m args below meth c T' locs (cells + 1) (slots + cap) ∧ T'.heap = h' ∧ Ext h h' ∧ Arx Z h' b ty vs ∧ Exa Z h' b ad ∧
      ∀ t, Steps p.tables e below (T'.setTop { g with pc := g.pc + 3, stack := .ref b :: rest }) t → Steps p.tables e below (T.setTop g) t := by
  obtain ⟨q, k, dv, V⟩ := V
  obtain ⟨T', h', X', e', ex, V', E', st⟩ := cloneH X hx hZ hown w1 w2 w3 w4 w5 w6 eT V.arh E hg hsize hst hd hf hW hl (by rw [own_clamp q]; exact hcap) hc hsl
  exact ⟨T', h', _, rfl, X', e', ex, ⟨q, k, dv, V'⟩, E', st⟩
end Own
theorem d3_0 : decode prog_12_method_10_code 0 = .ok (.aload_n 0, 1) := by decide +kernel
theorem d3_1 : decode prog_12_method_10_code 1 = .ok (.getfield 31, 3) := by decide +kernel
theorem d3_4 : decode prog_12_method_10_code 4 = .ok (.aload_n 0, 1) := by decide +kernel
theorem d3_5 : decode prog_12_method_10_code 5 = .ok (.getfield 9, 3) := by decide +kernel
theorem d3_8 : decode prog_12_method_10_code 8 = .ok (.arraylength, 1) := by decide +kernel
theorem d3_9 : decode prog_12_method_10_code 9 = .ok (.if_icmp .ne 37, 3) := by decide +kernel
theorem d3_46 : decode prog_12_method_10_code 46 = .ok (.aload_n 0, 1) := by decide +kernel
theorem d3_47 : decode prog_12_method_10_code 47 = .ok (.getfield 9, 3) := by decide +kernel
theorem d3_50 : decode prog_12_method_10_code 50 = .ok (.aload_n 0, 1) := by decide +kernel
theorem d3_51 : decode prog_12_method_10_code 51 = .ok (.getfield 31, 3) := by decide +kernel
theorem d3_54 : decode prog_12_method_10_code 54 = .ok (.lload_n 1, 1) := by decide +kernel
theorem d3_55 : decode prog_12_method_10_code 55 = .ok (.lastore, 1) := by decide +kernel
theorem d3_56 : decode prog_12_method_10_code 56 = .ok (.aload_n 0, 1) := by decide +kernel
theorem d3_57 : decode prog_12_method_10_code 57 = .ok (.getfield 13, 3) := by decide +kernel
theorem d3_60 : decode prog_12_method_10_code 60 = .ok (.aload_n 0, 1) := by decide +kernel
theorem d3_61 : decode prog_12_method_10_code 61 = .ok (.getfield 31, 3) := by decide +kernel
theorem d3_64 : decode prog_12_method_10_code 64 = .ok (.lload_n 3, 1) := by decide +kernel
theorem d3_65 : decode prog_12_method_10_code 65 = .ok (.lastore, 1) := by decide +kernel
theorem d3_66 : decode prog_12_method_10_code 66 = .ok (.aload_n 0, 1) := by decide +kernel
theorem d3_67 : decode prog_12_method_10_code 67 = .ok (.dup, 1) := by decide +kernel
theorem d3_68 : decode prog_12_method_10_code 68 = .ok (.getfield 31, 3) := by decide +kernel
theorem d3_71 : decode prog_12_method_10_code 71 = .ok (.iconst 1, 1) := by decide +kernel
theorem d3_72 : decode prog_12_method_10_code 72 = .ok (.iadd, 1) := by decide +kernel
theorem d3_73 : decode prog_12_method_10_code 73 = .ok (.putfield 31, 3) := by decide +kernel
theorem d3_76 : decode prog_12_method_10_code 76 = .ok (.return_, 1) := by decide +kernel
theorem pn_com_example_obliv_obliv_io_SegmentIndex : plainName "com/example/obliv/obliv/io/SegmentIndex" = true := by first | (simp [plainName, overriddenIn]; done) | decide +kernel
theorem ef_3 (m : MethodId) (x0 : Addr) (x1 : Int64) (x2 : Int64) : entryFrame m #[(.ref x0), (.long x1), (.long x2)] 5 = mkF m 0 #[.val (.ref x0), .val (.long x1), .second, .val (.long x2), .second] [] := by first | (simp [entryFrame, mkF, argsToLocals, Value.category]; done) | rfl
def Q3_0 (Z : State) (a1 : Addr) (q2 : Int64) (q3 : Int64) (b1 b2 : Addr) (r0 r1 r2 r3 r4 r5 r6 r7 r8 r9 r10 r11 r12 r13 r14 r15 : Int64) (t0 t1 t2 t3 t4 t5 t6 t7 t8 t9 t10 t11 t12 t13 t14 t15 : Int64) (h0 : Heap) (n0 : Nat) (v : Option Value) (h : Heap) (L : List Loc) : Prop := v = none ∧ Fr n0 L ∧ Keep h0 h [a1, b1, b2] ∧ Fld Z h a1 "com/example/obliv/obliv/io/SegmentIndex" "size" "I" (.int (1 : Int32)) ∧ Fld Z h a1 "com/example/obliv/obliv/io/SegmentIndex" "records" "[J" (.ref b1) ∧ Fld Z h a1 "com/example/obliv/obliv/io/SegmentIndex" "positions" "[J" (.ref b2) ∧ Arx Z h b1 .long [(.long q2), (.long r1), (.long r2), (.long r3), (.long r4), (.long r5), (.long r6), (.long r7), (.long r8), (.long r9), (.long r10), (.long r11), (.long r12), (.long r13), (.long r14), (.long r15)] ∧ Arx Z h b2 .long [(.long q3), (.long t1), (.long t2), (.long t3), (.long t4), (.long t5), (.long t6), (.long t7), (.long t8), (.long t9), (.long t10), (.long t11), (.long t12), (.long t13), (.long t14), (.long t15)]
set_option maxRecDepth 65536 in
set_option maxHeartbeats 40000000 in
theorem rm3_0 (l : Launch) (Z : State) (a0 : Array Value) (hw : ∀ d ∈ tables_1, d.before a0 Z = true) (ws : List Jvm.Cond) (a1 : Addr) (q2 : Int64) (q3 : Int64) (b1 b2 : Addr) (r0 r1 r2 r3 r4 r5 r6 r7 r8 r9 r10 r11 r12 r13 r14 r15 : Int64) (t0 t1 t2 t3 t4 t5 t6 t7 t8 t9 t10 t11 t12 t13 t14 t15 : Int64) (h0 : Heap) (n0 : Nat) (Z0 : n0 ≤ h0.size) (E_o : Exa Z h0 a1 "com/example/obliv/obliv/io/SegmentIndex") (F_s : Fld Z h0 a1 "com/example/obliv/obliv/io/SegmentIndex" "size" "I" (.int (0 : Int32))) (F_r : Fld Z h0 a1 "com/example/obliv/obliv/io/SegmentIndex" "records" "[J" (.ref b1)) (F_p : Fld Z h0 a1 "com/example/obliv/obliv/io/SegmentIndex" "positions" "[J" (.ref b2)) (V_r : Arx Z h0 b1 .long [(.long r0), (.long r1), (.long r2), (.long r3), (.long r4), (.long r5), (.long r6), (.long r7), (.long r8), (.long r9), (.long r10), (.long r11), (.long r12), (.long r13), (.long r14), (.long r15)]) (V_p : Arx Z h0 b2 .long [(.long t0), (.long t1), (.long t2), (.long t3), (.long t4), (.long t5), (.long t6), (.long t7), (.long t8), (.long t9), (.long t10), (.long t11), (.long t12), (.long t13), (.long t14), (.long t15)]) (n12 : b1 ≠ b2) (no1 : a1 ≠ b1) (no2 : a1 ≠ b2) (g_o : n0 ≤ a1) (g_1 : n0 ≤ b1) (g_2 : n0 ≤ b2) :
    own_CT l Z (⟨"com/example/obliv/obliv/io/SegmentIndex", "hold", "(JJ)V"⟩ : MethodName) prog_12_method_10_code 5 none ws ({ frames := 0, cells := 0, slots := 0, locals := 0 } : Room) #[(.ref a1), (.long q2), (.long q3)] h0 (Q3_0 Z a1 q2 q3 b1 b2 r0 r1 r2 r3 r4 r5 r6 r7 r8 r9 r10 r11 r12 r13 r14 r15 t0 t1 t2 t3 t4 t5 t6 t7 t8 t9 t10 t11 t12 t13 t14 t15 h0 n0) := by
  refine MetFree.of_bodySF (plainFor_of_name pn_com_example_obliv_obliv_io_SegmentIndex) hisR ?_
  intro p e s m args below meth c s₁ Bd hml0 hP hK
  obtain ⟨rfl, hZ, hh⟩ := hP
  have hx := Bd.exec
  have hby := Bd.bytes
  have hml : c.maxLocals = 5 := hml0
  have hown : s.vm.findClass "com/example/obliv/obliv/io/SegmentIndex" = some m.cls := findClass_of_methodNamed Bd.named
  have hnm := (name_of_methodNamed Bd.named Bd.method).1
  have hlk : meth.locks = false := BodyLoose.notSynchronized Bd
  have X0 : Stand p l e ({ frames := 0, cells := 0, slots := 0, locals := 0 } : Room) s m #[(.ref a1), (.long q2), (.long q3)] below meth c s₁ [] 0 0 := Stand.of_body Bd
  have e0 : s₁.heap = h0 := by rw [← hh, Bd.state]; rfl
  have N0 := Fr.nil n0
  show GG p e below s ({ frames := 0, cells := 0, slots := 0, locals := 0 } : Room).cells ({ frames := 0, cells := 0, slots := 0, locals := 0 } : Room).slots (Q3_0 Z a1 q2 q3 b1 b2 r0 r1 r2 r3 r4 r5 r6 r7 r8 r9 r10 r11 r12 r13 r14 r15 t0 t1 t2 t3 t4 t5 t6 t7 t8 t9 t10 t11 t12 t13 t14 t15 h0 n0) s₁ (entryFrame m #[(.ref a1), (.long q2), (.long q3)] 5)
  refine own_in (ef_3 m a1 q2 q3) ?_
  show GG _ _ _ _ _ _ _ s₁ (mkF m 0 #[.val (.ref a1), .val (.long q2), .second, .val (.long q3), .second] [])
  refine own_go (fun _ => XS.aloadN X0.here hx rfl (hb hby d3_0) rfl rfl) ?_
  show GG _ _ _ _ _ _ _ s₁ (mkF m 1 #[.val (.ref a1), .val (.long q2), .second, .val (.long q3), .second] [(.ref a1)])
  obtain ⟨T1, X1, e1, st1⟩ := getF X0 hx hZ hown (host := "") (Or.inl (hw _ (List.mem_of_getElem? (i := 23) rfl))) Via.refl e0 F_s (g := (mkF m 1 #[.val (.ref a1), .val (.long q2), .second, .val (.long q3), .second] [(.ref a1)])) rfl rfl (hb hby d3_1)
  refine own_go (fun _ => st1 _) ?_
  show GG _ _ _ _ _ _ _ T1 (mkF m 4 #[.val (.ref a1), .val (.long q2), .second, .val (.long q3), .second] [(.int (0 : Int32))])
  refine own_go (fun _ => XS.aloadN X1.here hx rfl (hb hby d3_4) rfl rfl) ?_
  show GG _ _ _ _ _ _ _ T1 (mkF m 5 #[.val (.ref a1), .val (.long q2), .second, .val (.long q3), .second] [(.ref a1), (.int (0 : Int32))])
  obtain ⟨T2, X2, e2, st2⟩ := getF X1 hx hZ hown (host := "") (Or.inl (hw _ (List.mem_of_getElem? (i := 14) rfl))) Via.refl e1 F_r (g := (mkF m 5 #[.val (.ref a1), .val (.long q2), .second, .val (.long q3), .second] [(.ref a1), (.int (0 : Int32))])) rfl rfl (hb hby d3_5)
  refine own_go (fun _ => st2 _) ?_
  show GG _ _ _ _ _ _ _ T2 (mkF m 8 #[.val (.ref a1), .val (.long q2), .second, .val (.long q3), .second] [(.ref b1), (.int (0 : Int32))])
  refine own_go (fun _ => own_len X2 hx hZ e2 V_r (g := (mkF m 8 #[.val (.ref a1), .val (.long q2), .second, .val (.long q3), .second] [(.ref b1), (.int (0 : Int32))])) rfl rfl (hb hby d3_8) _) ?_
  show GG _ _ _ _ _ _ _ T2 (mkF m 9 #[.val (.ref a1), .val (.long q2), .second, .val (.long q3), .second] [(.int (16 : Int32)), (.int (0 : Int32))])
  have hc9 : ¬ ((0 : Int32) = (16 : Int32)) := by decide
  refine own_go (fun _ => XS.icmpYes X2.here hx rfl (pc0 := 9) (pc' := 46) rfl (hb hby d3_9) rfl (feq hc9).2 (by decide) (by decide)) ?_
  show GG _ _ _ _ _ _ _ T2 (mkF m 46 #[.val (.ref a1), .val (.long q2), .second, .val (.long q3), .second] [])
  refine own_go (fun _ => XS.aloadN X2.here hx rfl (hb hby d3_46) rfl rfl) ?_
  show GG _ _ _ _ _ _ _ T2 (mkF m 47 #[.val (.ref a1), .val (.long q2), .second, .val (.long q3), .second] [(.ref a1)])
  obtain ⟨T3, X3, e3, st3⟩ := getF X2 hx hZ hown (host := "") (Or.inl (hw _ (List.mem_of_getElem? (i := 14) rfl))) Via.refl e2 F_r (g := (mkF m 47 #[.val (.ref a1), .val (.long q2), .second, .val (.long q3), .second] [(.ref a1)])) rfl rfl (hb hby d3_47)
  refine own_go (fun _ => st3 _) ?_
  show GG _ _ _ _ _ _ _ T3 (mkF m 50 #[.val (.ref a1), .val (.long q2), .second, .val (.long q3), .second] [(.ref b1)])
  refine own_go (fun _ => XS.aloadN X3.here hx rfl (hb hby d3_50) rfl rfl) ?_
  show GG _ _ _ _ _ _ _ T3 (mkF m 51 #[.val (.ref a1), .val (.long q2), .second, .val (.long q3), .second] [(.ref a1), (.ref b1)])
  obtain ⟨T4, X4, e4, st4⟩ := getF X3 hx hZ hown (host := "") (Or.inl (hw _ (List.mem_of_getElem? (i := 23) rfl))) Via.refl e3 F_s (g := (mkF m 51 #[.val (.ref a1), .val (.long q2), .second, .val (.long q3), .second] [(.ref a1), (.ref b1)])) rfl rfl (hb hby d3_51)
  refine own_go (fun _ => st4 _) ?_
  show GG _ _ _ _ _ _ _ T4 (mkF m 54 #[.val (.ref a1), .val (.long q2), .second, .val (.long q3), .second] [(.int (0 : Int32)), (.ref b1)])
  refine own_go (fun _ => XS.lloadN X4.here hx rfl (hb hby d3_54) rfl) ?_
  show GG _ _ _ _ _ _ _ T4 (mkF m 55 #[.val (.ref a1), .val (.long q2), .second, .val (.long q3), .second] [(.long q2), (.int (0 : Int32)), (.ref b1)])
  have K0 := Keep.refl h0 [a1, b1, b2]
  obtain ⟨T5, h5, X5, e5, W5, V5, st5⟩ := own_lastore X4 hx hZ e4 V_r (by decide) (Nat.le_of_ble_eq_true rfl) (g := (mkF m 55 #[.val (.ref a1), .val (.long q2), .second, .val (.long q3), .second] [(.long q2), (.int (0 : Int32)), (.ref b1)])) rfl rfl (hb hby d3_55)
  have E_o := E_o.wr W5
  have F_s := F_s.other W5 (Or.inl no1)
  have F_r := F_r.other W5 (Or.inl no1)
  have F_p := F_p.other W5 (Or.inl no1)
  have V_p := V_p.other W5 (Ne.symm n12)
  have K0 := K0.wr W5 (Or.inl (List.mem_of_getElem? (i := 1) rfl))
  have V_r : Arx Z h5 b1 .long [(.long q2), (.long r1), (.long r2), (.long r3), (.long r4), (.long r5), (.long r6), (.long r7), (.long r8), (.long r9), (.long r10), (.long r11), (.long r12), (.long r13), (.long r14), (.long r15)] := V5
  have N5 := Fr.snoc X5 N0 g_1
  refine own_go (fun _ => st5 _) ?_
  show GG _ _ _ _ _ _ _ T5 (mkF m 56 #[.val (.ref a1), .val (.long q2), .second, .val (.long q3), .second] [])
  refine own_go (fun _ => XS.aloadN X5.here hx rfl (hb hby d3_56) rfl rfl) ?_
  show GG _ _ _ _ _ _ _ T5 (mkF m 57 #[.val (.ref a1), .val (.long q2), .second, .val (.long q3), .second] [(.ref a1)])
  obtain ⟨T6, X6, e6, st6⟩ := getF X5 hx hZ hown (host := "") (Or.inl (hw _ (List.mem_of_getElem? (i := 16) rfl))) Via.refl e5 F_p (g := (mkF m 57 #[.val (.ref a1), .val (.long q2), .second, .val (.long q3), .second] [(.ref a1)])) rfl rfl (hb hby d3_57)
  refine own_go (fun _ => st6 _) ?_
  show GG _ _ _ _ _ _ _ T6 (mkF m 60 #[.val (.ref a1), .val (.long q2), .second, .val (.long q3), .second] [(.ref b2)])
  refine own_go (fun _ => XS.aloadN X6.here hx rfl (hb hby d3_60) rfl rfl) ?_
  show GG _ _ _ _ _ _ _ T6 (mkF m 61 #[.val (.ref a1), .val (.long q2), .second, .val (.long q3), .second] [(.ref a1), (.ref b2)])
  obtain ⟨T7, X7, e7, st7⟩ := getF X6 hx hZ hown (host := "") (Or.inl (hw _ (List.mem_of_getElem? (i := 23) rfl))) Via.refl e6 F_s (g := (mkF m 61 #[.val (.ref a1), .val (.long q2), .second, .val (.long q3), .second] [(.ref a1), (.ref b2)])) rfl rfl (hb hby d3_61)
  refine own_go (fun _ => st7 _) ?_
  show GG _ _ _ _ _ _ _ T7 (mkF m 64 #[.val (.ref a1), .val (.long q2), .second, .val (.long q3), .second] [(.int (0 : Int32)), (.ref b2)])
  refine own_go (fun _ => XS.lloadN X7.here hx rfl (hb hby d3_64) rfl) ?_
  show GG _ _ _ _ _ _ _ T7 (mkF m 65 #[.val (.ref a1), .val (.long q2), .second, .val (.long q3), .second] [(.long q3), (.int (0 : Int32)), (.ref b2)])
  obtain ⟨T8, h8, X8, e8, W8, V8, st8⟩ := own_lastore X7 hx hZ e7 V_p (by decide) (Nat.le_of_ble_eq_true rfl) (g := (mkF m 65 #[.val (.ref a1), .val (.long q2), .second, .val (.long q3), .second] [(.long q3), (.int (0 : Int32)), (.ref b2)])) rfl rfl (hb hby d3_65)
  have E_o := E_o.wr W8
  have F_s := F_s.other W8 (Or.inl no2)
  have F_r := F_r.other W8 (Or.inl no2)
  have F_p := F_p.other W8 (Or.inl no2)
  have V_r := V_r.other W8 n12
  have K0 := K0.wr W8 (Or.inl (List.mem_of_getElem? (i := 2) rfl))
  have V_p : Arx Z h8 b2 .long [(.long q3), (.long t1), (.long t2), (.long t3), (.long t4), (.long t5), (.long t6), (.long t7), (.long t8), (.long t9), (.long t10), (.long t11), (.long t12), (.long t13), (.long t14), (.long t15)] := V8
  have N8 := Fr.snoc X8 N5 g_2
  refine own_go (fun _ => st8 _) ?_
  show GG _ _ _ _ _ _ _ T8 (mkF m 66 #[.val (.ref a1), .val (.long q2), .second, .val (.long q3), .second] [])
  refine own_go (fun _ => XS.aloadN X8.here hx rfl (hb hby d3_66) rfl rfl) ?_
  show GG _ _ _ _ _ _ _ T8 (mkF m 67 #[.val (.ref a1), .val (.long q2), .second, .val (.long q3), .second] [(.ref a1)])
  refine own_go (fun _ => XS.dup X8.here hx rfl (hb hby d3_67) rfl rfl) ?_
  show GG _ _ _ _ _ _ _ T8 (mkF m 68 #[.val (.ref a1), .val (.long q2), .second, .val (.long q3), .second] [(.ref a1), (.ref a1)])
  obtain ⟨T9, X9, e9, st9⟩ := getF X8 hx hZ hown (host := "") (Or.inl (hw _ (List.mem_of_getElem? (i := 23) rfl))) Via.refl e8 F_s (g := (mkF m 68 #[.val (.ref a1), .val (.long q2), .second, .val (.long q3), .second] [(.ref a1), (.ref a1)])) rfl rfl (hb hby d3_68)
  refine own_go (fun _ => st9 _) ?_
  show GG _ _ _ _ _ _ _ T9 (mkF m 71 #[.val (.ref a1), .val (.long q2), .second, .val (.long q3), .second] [(.int (0 : Int32)), (.ref a1)])
  refine own_go (fun _ => XS.iconst X9.here hx rfl (hb hby d3_71)) ?_
  show GG _ _ _ _ _ _ _ T9 (mkF m 72 #[.val (.ref a1), .val (.long q2), .second, .val (.long q3), .second] [(.int (1 : Int32)), (.int (0 : Int32)), (.ref a1)])
  refine own_go (fun _ => XS.iadd X9.here hx rfl (hb hby d3_72) rfl) ?_
  show GG _ _ _ _ _ _ _ T9 (mkF m 73 #[.val (.ref a1), .val (.long q2), .second, .val (.long q3), .second] [(.int (1 : Int32)), (.ref a1)])
  obtain ⟨T10, h10, X10, e10, W10, st10⟩ := putF X9 hx hZ hown (host := "") (Or.inl (hw _ (List.mem_of_getElem? (i := 23) rfl))) Via.refl e9 F_s E_o (Or.inl (hw _ (List.mem_of_getElem? (i := 24) rfl))) (hw _ (List.mem_of_getElem? (i := 5) rfl)) (ty := .int) (by decide) rfl rfl (g := (mkF m 73 #[.val (.ref a1), .val (.long q2), .second, .val (.long q3), .second] [(.int (1 : Int32)), (.ref a1)])) rfl rfl (hb hby d3_73)
  have E_o := E_o.wr W10
  have F_r := F_r.other W10 (Or.inr (slot_ne (Or.inl (hw _ (List.mem_of_getElem? (i := 15) rfl))) (Or.inl (hw _ (List.mem_of_getElem? (i := 24) rfl))) (by decide) (t := (.array .long)) (t' := .int) (by decide) (by decide)))
  have F_p := F_p.other W10 (Or.inr (slot_ne (Or.inl (hw _ (List.mem_of_getElem? (i := 17) rfl))) (Or.inl (hw _ (List.mem_of_getElem? (i := 24) rfl))) (by decide) (t := (.array .long)) (t' := .int) (by decide) (by decide)))
  have V_r := V_r.other W10 (Ne.symm no1)
  have V_p := V_p.other W10 (Ne.symm no2)
  have K0 := K0.wr W10 (Or.inl (List.mem_of_getElem? (i := 0) rfl))
  have F_s := F_s.same W10
  have N10 := Fr.snoc X10 N8 g_o
  refine own_go (fun _ => st10 _) ?_
  show GG _ _ _ _ _ _ _ T10 (mkF m 76 #[.val (.ref a1), .val (.long q2), .second, .val (.long q3), .second] [])
  refine own_retV X10 hx hlk Bd.returns (hb hby d3_76) (by decide) (by decide) ?_
  show Q3_0 Z a1 q2 q3 b1 b2 r0 r1 r2 r3 r4 r5 r6 r7 r8 r9 r10 r11 r12 r13 r14 r15 t0 t1 t2 t3 t4 t5 t6 t7 t8 t9 t10 t11 t12 t13 t14 t15 h0 n0 (none) T10.heap _
  rw [e10]
  exact ⟨rfl, N10, K0, F_s, F_r, F_p, V_r, V_p⟩
def Q3_1 (Z : State) (a1 : Addr) (q2 : Int64) (q3 : Int64) (b1 b2 : Addr) (r0 r1 r2 r3 r4 r5 r6 r7 r8 r9 r10 r11 r12 r13 r14 r15 : Int64) (t0 t1 t2 t3 t4 t5 t6 t7 t8 t9 t10 t11 t12 t13 t14 t15 : Int64) (h0 : Heap) (n0 : Nat) (v : Option Value) (h : Heap) (L : List Loc) : Prop := v = none ∧ Fr n0 L ∧ Keep h0 h [a1, b1, b2] ∧ Fld Z h a1 "com/example/obliv/obliv/io/SegmentIndex" "size" "I" (.int (2 : Int32)) ∧ Fld Z h a1 "com/example/obliv/obliv/io/SegmentIndex" "records" "[J" (.ref b1) ∧ Fld Z h a1 "com/example/obliv/obliv/io/SegmentIndex" "positions" "[J" (.ref b2) ∧ Arx Z h b1 .long [(.long r0), (.long q2), (.long r2), (.long r3), (.long r4), (.long r5), (.long r6), (.long r7), (.long r8), (.long r9), (.long r10), (.long r11), (.long r12), (.long r13), (.long r14), (.long r15)] ∧ Arx Z h b2 .long [(.long t0), (.long q3), (.long t2), (.long t3), (.long t4), (.long t5), (.long t6), (.long t7), (.long t8), (.long t9), (.long t10), (.long t11), (.long t12), (.long t13), (.long t14), (.long t15)]
set_option maxRecDepth 65536 in
set_option maxHeartbeats 40000000 in
theorem rm3_1 (l : Launch) (Z : State) (a0 : Array Value) (hw : ∀ d ∈ tables_1, d.before a0 Z = true) (ws : List Jvm.Cond) (a1 : Addr) (q2 : Int64) (q3 : Int64) (b1 b2 : Addr) (r0 r1 r2 r3 r4 r5 r6 r7 r8 r9 r10 r11 r12 r13 r14 r15 : Int64) (t0 t1 t2 t3 t4 t5 t6 t7 t8 t9 t10 t11 t12 t13 t14 t15 : Int64) (h0 : Heap) (n0 : Nat) (Z0 : n0 ≤ h0.size) (E_o : Exa Z h0 a1 "com/example/obliv/obliv/io/SegmentIndex") (F_s : Fld Z h0 a1 "com/example/obliv/obliv/io/SegmentIndex" "size" "I" (.int (1 : Int32))) (F_r : Fld Z h0 a1 "com/example/obliv/obliv/io/SegmentIndex" "records" "[J" (.ref b1)) (F_p : Fld Z h0 a1 "com/example/obliv/obliv/io/SegmentIndex" "positions" "[J" (.ref b2)) (V_r : Arx Z h0 b1 .long [(.long r0), (.long r1), (.long r2), (.long r3), (.long r4), (.long r5), (.long r6), (.long r7), (.long r8), (.long r9), (.long r10), (.long r11), (.long r12), (.long r13), (.long r14), (.long r15)]) (V_p : Arx Z h0 b2 .long [(.long t0), (.long t1), (.long t2), (.long t3), (.long t4), (.long t5), (.long t6), (.long t7), (.long t8), (.long t9), (.long t10), (.long t11), (.long t12), (.long t13), (.long t14), (.long t15)]) (n12 : b1 ≠ b2) (no1 : a1 ≠ b1) (no2 : a1 ≠ b2) (g_o : n0 ≤ a1) (g_1 : n0 ≤ b1) (g_2 : n0 ≤ b2) :
    own_CT l Z (⟨"com/example/obliv/obliv/io/SegmentIndex", "hold", "(JJ)V"⟩ : MethodName) prog_12_method_10_code 5 none ws ({ frames := 0, cells := 0, slots := 0, locals := 0 } : Room) #[(.ref a1), (.long q2), (.long q3)] h0 (Q3_1 Z a1 q2 q3 b1 b2 r0 r1 r2 r3 r4 r5 r6 r7 r8 r9 r10 r11 r12 r13 r14 r15 t0 t1 t2 t3 t4 t5 t6 t7 t8 t9 t10 t11 t12 t13 t14 t15 h0 n0) := by
  refine MetFree.of_bodySF (plainFor_of_name pn_com_example_obliv_obliv_io_SegmentIndex) hisR ?_
  intro p e s m args below meth c s₁ Bd hml0 hP hK
  obtain ⟨rfl, hZ, hh⟩ := hP
  have hx := Bd.exec
  have hby := Bd.bytes
  have hml : c.maxLocals = 5 := hml0
  have hown : s.vm.findClass "com/example/obliv/obliv/io/SegmentIndex" = some m.cls := findClass_of_methodNamed Bd.named
  have hnm := (name_of_methodNamed Bd.named Bd.method).1
  have hlk : meth.locks = false := BodyLoose.notSynchronized Bd
  have X0 : Stand p l e ({ frames := 0, cells := 0, slots := 0, locals := 0 } : Room) s m #[(.ref a1), (.long q2), (.long q3)] below meth c s₁ [] 0 0 := Stand.of_body Bd
  have e0 : s₁.heap = h0 := by rw [← hh, Bd.state]; rfl
  have N0 := Fr.nil n0
  show GG p e below s ({ frames := 0, cells := 0, slots := 0, locals := 0 } : Room).cells ({ frames := 0, cells := 0, slots := 0, locals := 0 } : Room).slots (Q3_1 Z a1 q2 q3 b1 b2 r0 r1 r2 r3 r4 r5 r6 r7 r8 r9 r10 r11 r12 r13 r14 r15 t0 t1 t2 t3 t4 t5 t6 t7 t8 t9 t10 t11 t12 t13 t14 t15 h0 n0) s₁ (entryFrame m #[(.ref a1), (.long q2), (.long q3)] 5)
  refine own_in (ef_3 m a1 q2 q3) ?_
  show GG _ _ _ _ _ _ _ s₁ (mkF m 0 #[.val (.ref a1), .val (.long q2), .second, .val (.long q3), .second] [])
  refine own_go (fun _ => XS.aloadN X0.here hx rfl (hb hby d3_0) rfl rfl) ?_
  show GG _ _ _ _ _ _ _ s₁ (mkF m 1 #[.val (.ref a1), .val (.long q2), .second, .val (.long q3), .second] [(.ref a1)])
  obtain ⟨T1, X1, e1, st1⟩ := getF X0 hx hZ hown (host := "") (Or.inl (hw _ (List.mem_of_getElem? (i := 23) rfl))) Via.refl e0 F_s (g := (mkF m 1 #[.val (.ref a1), .val (.long q2), .second, .val (.long q3), .second] [(.ref a1)])) rfl rfl (hb hby d3_1)
  refine own_go (fun _ => st1 _) ?_
  show GG _ _ _ _ _ _ _ T1 (mkF m 4 #[.val (.ref a1), .val (.long q2), .second, .val (.long q3), .second] [(.int (1 : Int32))])
  refine own_go (fun _ => XS.aloadN X1.here hx rfl (hb hby d3_4) rfl rfl) ?_
  show GG _ _ _ _ _ _ _ T1 (mkF m 5 #[.val (.ref a1), .val (.long q2), .second, .val (.long q3), .second] [(.ref a1), (.int (1 : Int32))])
  obtain ⟨T2, X2, e2, st2⟩ := getF X1 hx hZ hown (host := "") (Or.inl (hw _ (List.mem_of_getElem? (i := 14) rfl))) Via.refl e1 F_r (g := (mkF m 5 #[.val (.ref a1), .val (.long q2), .second, .val (.long q3), .second] [(.ref a1), (.int (1 : Int32))])) rfl rfl (hb hby d3_5)
  refine own_go (fun _ => st2 _) ?_
  show GG _ _ _ _ _ _ _ T2 (mkF m 8 #[.val (.ref a1), .val (.long q2), .second, .val (.long q3), .second] [(.ref b1), (.int (1 : Int32))])
  refine own_go (fun _ => own_len X2 hx hZ e2 V_r (g := (mkF m 8 #[.val (.ref a1), .val (.long q2), .second, .val (.long q3), .second] [(.ref b1), (.int (1 : Int32))])) rfl rfl (hb hby d3_8) _) ?_
  show GG _ _ _ _ _ _ _ T2 (mkF m 9 #[.val (.ref a1), .val (.long q2), .second, .val (.long q3), .second] [(.int (16 : Int32)), (.int (1 : Int32))])
  have hc9 : ¬ ((1 : Int32) = (16 : Int32)) := by decide
  refine own_go (fun _ => XS.icmpYes X2.here hx rfl (pc0 := 9) (pc' := 46) rfl (hb hby d3_9) rfl (feq hc9).2 (by decide) (by decide)) ?_
  show GG _ _ _ _ _ _ _ T2 (mkF m 46 #[.val (.ref a1), .val (.long q2), .second, .val (.long q3), .second] [])
  refine own_go (fun _ => XS.aloadN X2.here hx rfl (hb hby d3_46) rfl rfl) ?_
  show GG _ _ _ _ _ _ _ T2 (mkF m 47 #[.val (.ref a1), .val (.long q2), .second, .val (.long q3), .second] [(.ref a1)])
  obtain ⟨T3, X3, e3, st3⟩ := getF X2 hx hZ hown (host := "") (Or.inl (hw _ (List.mem_of_getElem? (i := 14) rfl))) Via.refl e2 F_r (g := (mkF m 47 #[.val (.ref a1), .val (.long q2), .second, .val (.long q3), .second] [(.ref a1)])) rfl rfl (hb hby d3_47)
  refine own_go (fun _ => st3 _) ?_
  show GG _ _ _ _ _ _ _ T3 (mkF m 50 #[.val (.ref a1), .val (.long q2), .second, .val (.long q3), .second] [(.ref b1)])
  refine own_go (fun _ => XS.aloadN X3.here hx rfl (hb hby d3_50) rfl rfl) ?_
  show GG _ _ _ _ _ _ _ T3 (mkF m 51 #[.val (.ref a1), .val (.long q2), .second, .val (.long q3), .second] [(.ref a1), (.ref b1)])
  obtain ⟨T4, X4, e4, st4⟩ := getF X3 hx hZ hown (host := "") (Or.inl (hw _ (List.mem_of_getElem? (i := 23) rfl))) Via.refl e3 F_s (g := (mkF m 51 #[.val (.ref a1), .val (.long q2), .second, .val (.long q3), .second] [(.ref a1), (.ref b1)])) rfl rfl (hb hby d3_51)
  refine own_go (fun _ => st4 _) ?_
  show GG _ _ _ _ _ _ _ T4 (mkF m 54 #[.val (.ref a1), .val (.long q2), .second, .val (.long q3), .second] [(.int (1 : Int32)), (.ref b1)])
  refine own_go (fun _ => XS.lloadN X4.here hx rfl (hb hby d3_54) rfl) ?_
  show GG _ _ _ _ _ _ _ T4 (mkF m 55 #[.val (.ref a1), .val (.long q2), .second, .val (.long q3), .second] [(.long q2), (.int (1 : Int32)), (.ref b1)])
  have K0 := Keep.refl h0 [a1, b1, b2]
  obtain ⟨T5, h5, X5, e5, W5, V5, st5⟩ := own_lastore X4 hx hZ e4 V_r (by decide) (Nat.le_of_ble_eq_true rfl) (g := (mkF m 55 #[.val (.ref a1), .val (.long q2), .second, .val (.long q3), .second] [(.long q2), (.int (1 : Int32)), (.ref b1)])) rfl rfl (hb hby d3_55)
  have E_o := E_o.wr W5
  have F_s := F_s.other W5 (Or.inl no1)
  have F_r := F_r.other W5 (Or.inl no1)
  have F_p := F_p.other W5 (Or.inl no1)
  have V_p := V_p.other W5 (Ne.symm n12)
  have K0 := K0.wr W5 (Or.inl (List.mem_of_getElem? (i := 1) rfl))
  have V_r : Arx Z h5 b1 .long [(.long r0), (.long q2), (.long r2), (.long r3), (.long r4), (.long r5), (.long r6), (.long r7), (.long r8), (.long r9), (.long r10), (.long r11), (.long r12), (.long r13), (.long r14), (.long r15)] := V5
  have N5 := Fr.snoc X5 N0 g_1
  refine own_go (fun _ => st5 _) ?_
  show GG _ _ _ _ _ _ _ T5 (mkF m 56 #[.val (.ref a1), .val (.long q2), .second, .val (.long q3), .second] [])
  refine own_go (fun _ => XS.aloadN X5.here hx rfl (hb hby d3_56) rfl rfl) ?_
  show GG _ _ _ _ _ _ _ T5 (mkF m 57 #[.val (.ref a1), .val (.long q2), .second, .val (.long q3), .second] [(.ref a1)])
  obtain ⟨T6, X6, e6, st6⟩ := getF X5 hx hZ hown (host := "") (Or.inl (hw _ (List.mem_of_getElem? (i := 16) rfl))) Via.refl e5 F_p (g := (mkF m 57 #[.val (.ref a1), .val (.long q2), .second, .val (.long q3), .second] [(.ref a1)])) rfl rfl (hb hby d3_57)
  refine own_go (fun _ => st6 _) ?_
  show GG _ _ _ _ _ _ _ T6 (mkF m 60 #[.val (.ref a1), .val (.long q2), .second, .val (.long q3), .second] [(.ref b2)])
  refine own_go (fun _ => XS.aloadN X6.here hx rfl (hb hby d3_60) rfl rfl) ?_
  show GG _ _ _ _ _ _ _ T6 (mkF m 61 #[.val (.ref a1), .val (.long q2), .second, .val (.long q3), .second] [(.ref a1), (.ref b2)])
  obtain ⟨T7, X7, e7, st7⟩ := getF X6 hx hZ hown (host := "") (Or.inl (hw _ (List.mem_of_getElem? (i := 23) rfl))) Via.refl e6 F_s (g := (mkF m 61 #[.val (.ref a1), .val (.long q2), .second, .val (.long q3), .second] [(.ref a1), (.ref b2)])) rfl rfl (hb hby d3_61)
  refine own_go (fun _ => st7 _) ?_
  show GG _ _ _ _ _ _ _ T7 (mkF m 64 #[.val (.ref a1), .val (.long q2), .second, .val (.long q3), .second] [(.int (1 : Int32)), (.ref b2)])
  refine own_go (fun _ => XS.lloadN X7.here hx rfl (hb hby d3_64) rfl) ?_
  show GG _ _ _ _ _ _ _ T7 (mkF m 65 #[.val (.ref a1), .val (.long q2), .second, .val (.long q3), .second] [(.long q3), (.int (1 : Int32)), (.ref b2)])
  obtain ⟨T8, h8, X8, e8, W8, V8, st8⟩ := own_lastore X7 hx hZ e7 V_p (by decide) (Nat.le_of_ble_eq_true rfl) (g := (mkF m 65 #[.val (.ref a1), .val (.long q2), .second, .val (.long q3), .second] [(.long q3), (.int (1 : Int32)), (.ref b2)])) rfl rfl (hb hby d3_65)
  have E_o := E_o.wr W8
  have F_s := F_s.other W8 (Or.inl no2)
  have F_r := F_r.other W8 (Or.inl no2)
  have F_p := F_p.other W8 (Or.inl no2)
  have V_r := V_r.other W8 n12
  have K0 := K0.wr W8 (Or.inl (List.mem_of_getElem? (i := 2) rfl))
  have V_p : Arx Z h8 b2 .long [(.long t0), (.long q3), (.long t2), (.long t3), (.long t4), (.long t5), (.long t6), (.long t7), (.long t8), (.long t9), (.long t10), (.long t11), (.long t12), (.long t13), (.long t14), (.long t15)] := V8
  have N8 := Fr.snoc X8 N5 g_2
  refine own_go (fun _ => st8 _) ?_
  show GG _ _ _ _ _ _ _ T8 (mkF m 66 #[.val (.ref a1), .val (.long q2), .second, .val (.long q3), .second] [])
  refine own_go (fun _ => XS.aloadN X8.here hx rfl (hb hby d3_66) rfl rfl) ?_
  show GG _ _ _ _ _ _ _ T8 (mkF m 67 #[.val (.ref a1), .val (.long q2), .second, .val (.long q3), .second] [(.ref a1)])
  refine own_go (fun _ => XS.dup X8.here hx rfl (hb hby d3_67) rfl rfl) ?_
  show GG _ _ _ _ _ _ _ T8 (mkF m 68 #[.val (.ref a1), .val (.long q2), .second, .val (.long q3), .second] [(.ref a1), (.ref a1)])
  obtain ⟨T9, X9, e9, st9⟩ := getF X8 hx hZ hown (host := "") (Or.inl (hw _ (List.mem_of_getElem? (i := 23) rfl))) Via.refl e8 F_s (g := (mkF m 68 #[.val (.ref a1), .val (.long q2), .second, .val (.long q3), .second] [(.ref a1), (.ref a1)])) rfl rfl (hb hby d3_68)
  refine own_go (fun _ => st9 _) ?_
  show GG _ _ _ _ _ _ _ T9 (mkF m 71 #[.val (.ref a1), .val (.long q2), .second, .val (.long q3), .second] [(.int (1 : Int32)), (.ref a1)])
  refine own_go (fun _ => XS.iconst X9.here hx rfl (hb hby d3_71)) ?_
  show GG _ _ _ _ _ _ _ T9 (mkF m 72 #[.val (.ref a1), .val (.long q2), .second, .val (.long q3), .second] [(.int (1 : Int32)), (.int (1 : Int32)), (.ref a1)])
  refine own_go (fun _ => XS.iadd X9.here hx rfl (hb hby d3_72) rfl) ?_
  show GG _ _ _ _ _ _ _ T9 (mkF m 73 #[.val (.ref a1), .val (.long q2), .second, .val (.long q3), .second] [(.int (2 : Int32)), (.ref a1)])
  obtain ⟨T10, h10, X10, e10, W10, st10⟩ := putF X9 hx hZ hown (host := "") (Or.inl (hw _ (List.mem_of_getElem? (i := 23) rfl))) Via.refl e9 F_s E_o (Or.inl (hw _ (List.mem_of_getElem? (i := 24) rfl))) (hw _ (List.mem_of_getElem? (i := 5) rfl)) (ty := .int) (by decide) rfl rfl (g := (mkF m 73 #[.val (.ref a1), .val (.long q2), .second, .val (.long q3), .second] [(.int (2 : Int32)), (.ref a1)])) rfl rfl (hb hby d3_73)
  have E_o := E_o.wr W10
  have F_r := F_r.other W10 (Or.inr (slot_ne (Or.inl (hw _ (List.mem_of_getElem? (i := 15) rfl))) (Or.inl (hw _ (List.mem_of_getElem? (i := 24) rfl))) (by decide) (t := (.array .long)) (t' := .int) (by decide) (by decide)))
  have F_p := F_p.other W10 (Or.inr (slot_ne (Or.inl (hw _ (List.mem_of_getElem? (i := 17) rfl))) (Or.inl (hw _ (List.mem_of_getElem? (i := 24) rfl))) (by decide) (t := (.array .long)) (t' := .int) (by decide) (by decide)))
  have V_r := V_r.other W10 (Ne.symm no1)
  have V_p := V_p.other W10 (Ne.symm no2)
  have K0 := K0.wr W10 (Or.inl (List.mem_of_getElem? (i := 0) rfl))
  have F_s := F_s.same W10
  have N10 := Fr.snoc X10 N8 g_o
  refine own_go (fun _ => st10 _) ?_
  show GG _ _ _ _ _ _ _ T10 (mkF m 76 #[.val (.ref a1), .val (.long q2), .second, .val (.long q3), .second] [])
  refine own_retV X10 hx hlk Bd.returns (hb hby d3_76) (by decide) (by decide) ?_
  show Q3_1 Z a1 q2 q3 b1 b2 r0 r1 r2 r3 r4 r5 r6 r7 r8 r9 r10 r11 r12 r13 r14 r15 t0 t1 t2 t3 t4 t5 t6 t7 t8 t9 t10 t11 t12 t13 t14 t15 h0 n0 (none) T10.heap _
  rw [e10]
  exact ⟨rfl, N10, K0, F_s, F_r, F_p, V_r, V_p⟩
def Q3_2 (Z : State) (a1 : Addr) (q2 : Int64) (q3 : Int64) (b1 b2 : Addr) (r0 r1 r2 r3 r4 r5 r6 r7 r8 r9 r10 r11 r12 r13 r14 r15 : Int64) (t0 t1 t2 t3 t4 t5 t6 t7 t8 t9 t10 t11 t12 t13 t14 t15 : Int64) (h0 : Heap) (n0 : Nat) (v : Option Value) (h : Heap) (L : List Loc) : Prop := v = none ∧ Fr n0 L ∧ Keep h0 h [a1, b1, b2] ∧ Fld Z h a1 "com/example/obliv/obliv/io/SegmentIndex" "size" "I" (.int (3 : Int32)) ∧ Fld Z h a1 "com/example/obliv/obliv/io/SegmentIndex" "records" "[J" (.ref b1) ∧ Fld Z h a1 "com/example/obliv/obliv/io/SegmentIndex" "positions" "[J" (.ref b2) ∧ Arx Z h b1 .long [(.long r0), (.long r1), (.long q2), (.long r3), (.long r4), (.long r5), (.long r6), (.long r7), (.long r8), (.long r9), (.long r10), (.long r11), (.long r12), (.long r13), (.long r14), (.long r15)] ∧ Arx Z h b2 .long [(.long t0), (.long t1), (.long q3), (.long t3), (.long t4), (.long t5), (.long t6), (.long t7), (.long t8), (.long t9), (.long t10), (.long t11), (.long t12), (.long t13), (.long t14), (.long t15)]
set_option maxRecDepth 65536 in
set_option maxHeartbeats 40000000 in
theorem rm3_2 (l : Launch) (Z : State) (a0 : Array Value) (hw : ∀ d ∈ tables_1, d.before a0 Z = true) (ws : List Jvm.Cond) (a1 : Addr) (q2 : Int64) (q3 : Int64) (b1 b2 : Addr) (r0 r1 r2 r3 r4 r5 r6 r7 r8 r9 r10 r11 r12 r13 r14 r15 : Int64) (t0 t1 t2 t3 t4 t5 t6 t7 t8 t9 t10 t11 t12 t13 t14 t15 : Int64) (h0 : Heap) (n0 : Nat) (Z0 : n0 ≤ h0.size) (E_o : Exa Z h0 a1 "com/example/obliv/obliv/io/SegmentIndex") (F_s : Fld Z h0 a1 "com/example/obliv/obliv/io/SegmentIndex" "size" "I" (.int (2 : Int32))) (F_r : Fld Z h0 a1 "com/example/obliv/obliv/io/SegmentIndex" "records" "[J" (.ref b1)) (F_p : Fld Z h0 a1 "com/example/obliv/obliv/io/SegmentIndex" "positions" "[J" (.ref b2)) (V_r : Arx Z h0 b1 .long [(.long r0), (.long r1), (.long r2), (.long r3), (.long r4), (.long r5), (.long r6), (.long r7), (.long r8), (.long r9), (.long r10), (.long r11), (.long r12), (.long r13), (.long r14), (.long r15)]) (V_p : Arx Z h0 b2 .long [(.long t0), (.long t1), (.long t2), (.long t3), (.long t4), (.long t5), (.long t6), (.long t7), (.long t8), (.long t9), (.long t10), (.long t11), (.long t12), (.long t13), (.long t14), (.long t15)]) (n12 : b1 ≠ b2) (no1 : a1 ≠ b1) (no2 : a1 ≠ b2) (g_o : n0 ≤ a1) (g_1 : n0 ≤ b1) (g_2 : n0 ≤ b2) :
    own_CT l Z (⟨"com/example/obliv/obliv/io/SegmentIndex", "hold", "(JJ)V"⟩ : MethodName) prog_12_method_10_code 5 none ws ({ frames := 0, cells := 0, slots := 0, locals := 0 } : Room) #[(.ref a1), (.long q2), (.long q3)] h0 (Q3_2 Z a1 q2 q3 b1 b2 r0 r1 r2 r3 r4 r5 r6 r7 r8 r9 r10 r11 r12 r13 r14 r15 t0 t1 t2 t3 t4 t5 t6 t7 t8 t9 t10 t11 t12 t13 t14 t15 h0 n0) := by
  refine MetFree.of_bodySF (plainFor_of_name pn_com_example_obliv_obliv_io_SegmentIndex) hisR ?_
  intro p e s m args below meth c s₁ Bd hml0 hP hK
  obtain ⟨rfl, hZ, hh⟩ := hP
  have hx := Bd.exec
  have hby := Bd.bytes
  have hml : c.maxLocals = 5 := hml0
  have hown : s.vm.findClass "com/example/obliv/obliv/io/SegmentIndex" = some m.cls := findClass_of_methodNamed Bd.named
  have hnm := (name_of_methodNamed Bd.named Bd.method).1
  have hlk : meth.locks = false := BodyLoose.notSynchronized Bd
  have X0 : Stand p l e ({ frames := 0, cells := 0, slots := 0, locals := 0 } : Room) s m #[(.ref a1), (.long q2), (.long q3)] below meth c s₁ [] 0 0 := Stand.of_body Bd
  have e0 : s₁.heap = h0 := by rw [← hh, Bd.state]; rfl
  have N0 := Fr.nil n0
  show GG p e below s ({ frames := 0, cells := 0, slots := 0, locals := 0 } : Room).cells ({ frames := 0, cells := 0, slots := 0, locals := 0 } : Room).slots (Q3_2 Z a1 q2 q3 b1 b2 r0 r1 r2 r3 r4 r5 r6 r7 r8 r9 r10 r11 r12 r13 r14 r15 t0 t1 t2 t3 t4 t5 t6 t7 t8 t9 t10 t11 t12 t13 t14 t15 h0 n0) s₁ (entryFrame m #[(.ref a1), (.long q2), (.long q3)] 5)
  refine own_in (ef_3 m a1 q2 q3) ?_
  show GG _ _ _ _ _ _ _ s₁ (mkF m 0 #[.val (.ref a1), .val (.long q2), .second, .val (.long q3), .second] [])
  refine own_go (fun _ => XS.aloadN X0.here hx rfl (hb hby d3_0) rfl rfl) ?_
  show GG _ _ _ _ _ _ _ s₁ (mkF m 1 #[.val (.ref a1), .val (.long q2), .second, .val (.long q3), .second] [(.ref a1)])
  obtain ⟨T1, X1, e1, st1⟩ := getF X0 hx hZ hown (host := "") (Or.inl (hw _ (List.mem_of_getElem? (i := 23) rfl))) Via.refl e0 F_s (g := (mkF m 1 #[.val (.ref a1), .val (.long q2), .second, .val (.long q3), .second] [(.ref a1)])) rfl rfl (hb hby d3_1)
  refine own_go (fun _ => st1 _) ?_
  show GG _ _ _ _ _ _ _ T1 (mkF m 4 #[.val (.ref a1), .val (.long q2), .second, .val (.long q3), .second] [(.int (2 : Int32))])
  refine own_go (fun _ => XS.aloadN X1.here hx rfl (hb hby d3_4) rfl rfl) ?_
  show GG _ _ _ _ _ _ _ T1 (mkF m 5 #[.val (.ref a1), .val (.long q2), .second, .val (.long q3), .second] [(.ref a1), (.int (2 : Int32))])
  obtain ⟨T2, X2, e2, st2⟩ := getF X1 hx hZ hown (host := "") (Or.inl (hw _ (List.mem_of_getElem? (i := 14) rfl))) Via.refl e1 F_r (g := (mkF m 5 #[.val (.ref a1), .val (.long q2), .second, .val (.long q3), .second] [(.ref a1), (.int (2 : Int32))])) rfl rfl (hb hby d3_5)
  refine own_go (fun _ => st2 _) ?_
  show GG _ _ _ _ _ _ _ T2 (mkF m 8 #[.val (.ref a1), .val (.long q2), .second, .val (.long q3), .second] [(.ref b1), (.int (2 : Int32))])
  refine own_go (fun _ => own_len X2 hx hZ e2 V_r (g := (mkF m 8 #[.val (.ref a1), .val (.long q2), .second, .val (.long q3), .second] [(.ref b1), (.int (2 : Int32))])) rfl rfl (hb hby d3_8) _) ?_
  show GG _ _ _ _ _ _ _ T2 (mkF m 9 #[.val (.ref a1), .val (.long q2), .second, .val (.long q3), .second] [(.int (16 : Int32)), (.int (2 : Int32))])
  have hc9 : ¬ ((2 : Int32) = (16 : Int32)) := by decide
  refine own_go (fun _ => XS.icmpYes X2.here hx rfl (pc0 := 9) (pc' := 46) rfl (hb hby d3_9) rfl (feq hc9).2 (by decide) (by decide)) ?_
  show GG _ _ _ _ _ _ _ T2 (mkF m 46 #[.val (.ref a1), .val (.long q2), .second, .val (.long q3), .second] [])
  refine own_go (fun _ => XS.aloadN X2.here hx rfl (hb hby d3_46) rfl rfl) ?_
  show GG _ _ _ _ _ _ _ T2 (mkF m 47 #[.val (.ref a1), .val (.long q2), .second, .val (.long q3), .second] [(.ref a1)])
  obtain ⟨T3, X3, e3, st3⟩ := getF X2 hx hZ hown (host := "") (Or.inl (hw _ (List.mem_of_getElem? (i := 14) rfl))) Via.refl e2 F_r (g := (mkF m 47 #[.val (.ref a1), .val (.long q2), .second, .val (.long q3), .second] [(.ref a1)])) rfl rfl (hb hby d3_47)
  refine own_go (fun _ => st3 _) ?_
  show GG _ _ _ _ _ _ _ T3 (mkF m 50 #[.val (.ref a1), .val (.long q2), .second, .val (.long q3), .second] [(.ref b1)])
  refine own_go (fun _ => XS.aloadN X3.here hx rfl (hb hby d3_50) rfl rfl) ?_
  show GG _ _ _ _ _ _ _ T3 (mkF m 51 #[.val (.ref a1), .val (.long q2), .second, .val (.long q3), .second] [(.ref a1), (.ref b1)])
  obtain ⟨T4, X4, e4, st4⟩ := getF X3 hx hZ hown (host := "") (Or.inl (hw _ (List.mem_of_getElem? (i := 23) rfl))) Via.refl e3 F_s (g := (mkF m 51 #[.val (.ref a1), .val (.long q2), .second, .val (.long q3), .second] [(.ref a1), (.ref b1)])) rfl rfl (hb hby d3_51)
  refine own_go (fun _ => st4 _) ?_
  show GG _ _ _ _ _ _ _ T4 (mkF m 54 #[.val (.ref a1), .val (.long q2), .second, .val (.long q3), .second] [(.int (2 : Int32)), (.ref b1)])
  refine own_go (fun _ => XS.lloadN X4.here hx rfl (hb hby d3_54) rfl) ?_
  show GG _ _ _ _ _ _ _ T4 (mkF m 55 #[.val (.ref a1), .val (.long q2), .second, .val (.long q3), .second] [(.long q2), (.int (2 : Int32)), (.ref b1)])
  have K0 := Keep.refl h0 [a1, b1, b2]
  obtain ⟨T5, h5, X5, e5, W5, V5, st5⟩ := own_lastore X4 hx hZ e4 V_r (by decide) (Nat.le_of_ble_eq_true rfl) (g := (mkF m 55 #[.val (.ref a1), .val (.long q2), .second, .val (.long q3), .second] [(.long q2), (.int (2 : Int32)), (.ref b1)])) rfl rfl (hb hby d3_55)
  have E_o := E_o.wr W5
  have F_s := F_s.other W5 (Or.inl no1)
  have F_r := F_r.other W5 (Or.inl no1)
  have F_p := F_p.other W5 (Or.inl no1)
  have V_p := V_p.other W5 (Ne.symm n12)
  have K0 := K0.wr W5 (Or.inl (List.mem_of_getElem? (i := 1) rfl))
  have V_r : Arx Z h5 b1 .long [(.long r0), (.long r1), (.long q2), (.long r3), (.long r4), (.long r5), (.long r6), (.long r7), (.long r8), (.long r9), (.long r10), (.long r11), (.long r12), (.long r13), (.long r14), (.long r15)] := V5
  have N5 := Fr.snoc X5 N0 g_1
  refine own_go (fun _ => st5 _) ?_
  show GG _ _ _ _ _ _ _ T5 (mkF m 56 #[.val (.ref a1), .val (.long q2), .second, .val (.long q3), .second] [])
  refine own_go (fun _ => XS.aloadN X5.here hx rfl (hb hby d3_56) rfl rfl) ?_
  show GG _ _ _ _ _ _ _ T5 (mkF m 57 #[.val (.ref a1), .val (.long q2), .second, .val (.long q3), .second] [(.ref a1)])
  obtain ⟨T6, X6, e6, st6⟩ := getF X5 hx hZ hown (host := "") (Or.inl (hw _ (List.mem_of_getElem? (i := 16) rfl))) Via.refl e5 F_p (g := (mkF m 57 #[.val (.ref a1), .val (.long q2), .second, .val (.long q3), .second] [(.ref a1)])) rfl rfl (hb hby d3_57)
  refine own_go (fun _ => st6 _) ?_
  show GG _ _ _ _ _ _ _ T6 (mkF m 60 #[.val (.ref a1), .val (.long q2), .second, .val (.long q3), .second] [(.ref b2)])
  refine own_go (fun _ => XS.aloadN X6.here hx rfl (hb hby d3_60) rfl rfl) ?_
  show GG _ _ _ _ _ _ _ T6 (mkF m 61 #[.val (.ref a1), .val (.long q2), .second, .val (.long q3), .second] [(.ref a1), (.ref b2)])
  obtain ⟨T7, X7, e7, st7⟩ := getF X6 hx hZ hown (host := "") (Or.inl (hw _ (List.mem_of_getElem? (i := 23) rfl))) Via.refl e6 F_s (g := (mkF m 61 #[.val (.ref a1), .val (.long q2), .second, .val (.long q3), .second] [(.ref a1), (.ref b2)])) rfl rfl (hb hby d3_61)
  refine own_go (fun _ => st7 _) ?_
  show GG _ _ _ _ _ _ _ T7 (mkF m 64 #[.val (.ref a1), .val (.long q2), .second, .val (.long q3), .second] [(.int (2 : Int32)), (.ref b2)])
  refine own_go (fun _ => XS.lloadN X7.here hx rfl (hb hby d3_64) rfl) ?_
  show GG _ _ _ _ _ _ _ T7 (mkF m 65 #[.val (.ref a1), .val (.long q2), .second, .val (.long q3), .second] [(.long q3), (.int (2 : Int32)), (.ref b2)])
  obtain ⟨T8, h8, X8, e8, W8, V8, st8⟩ := own_lastore X7 hx hZ e7 V_p (by decide) (Nat.le_of_ble_eq_true rfl) (g := (mkF m 65 #[.val (.ref a1), .val (.long q2), .second, .val (.long q3), .second] [(.long q3), (.int (2 : Int32)), (.ref b2)])) rfl rfl (hb hby d3_65)
  have E_o := E_o.wr W8
  have F_s := F_s.other W8 (Or.inl no2)
  have F_r := F_r.other W8 (Or.inl no2)
  have F_p := F_p.other W8 (Or.inl no2)
  have V_r := V_r.other W8 n12
  have K0 := K0.wr W8 (Or.inl (List.mem_of_getElem? (i := 2) rfl))
  have V_p : Arx Z h8 b2 .long [(.long t0), (.long t1), (.long q3), (.long t3), (.long t4), (.long t5), (.long t6), (.long t7), (.long t8), (.long t9), (.long t10), (.long t11), (.long t12), (.long t13), (.long t14), (.long t15)] := V8
  have N8 := Fr.snoc X8 N5 g_2
  refine own_go (fun _ => st8 _) ?_
  show GG _ _ _ _ _ _ _ T8 (mkF m 66 #[.val (.ref a1), .val (.long q2), .second, .val (.long q3), .second] [])
  refine own_go (fun _ => XS.aloadN X8.here hx rfl (hb hby d3_66) rfl rfl) ?_
  show GG _ _ _ _ _ _ _ T8 (mkF m 67 #[.val (.ref a1), .val (.long q2), .second, .val (.long q3), .second] [(.ref a1)])
  refine own_go (fun _ => XS.dup X8.here hx rfl (hb hby d3_67) rfl rfl) ?_
  show GG _ _ _ _ _ _ _ T8 (mkF m 68 #[.val (.ref a1), .val (.long q2), .second, .val (.long q3), .second] [(.ref a1), (.ref a1)])
  obtain ⟨T9, X9, e9, st9⟩ := getF X8 hx hZ hown (host := "") (Or.inl (hw _ (List.mem_of_getElem? (i := 23) rfl))) Via.refl e8 F_s (g := (mkF m 68 #[.val (.ref a1), .val (.long q2), .second, .val (.long q3), .second] [(.ref a1), (.ref a1)])) rfl rfl (hb hby d3_68)
  refine own_go (fun _ => st9 _) ?_
  show GG _ _ _ _ _ _ _ T9 (mkF m 71 #[.val (.ref a1), .val (.long q2), .second, .val (.long q3), .second] [(.int (2 : Int32)), (.ref a1)])
  refine own_go (fun _ => XS.iconst X9.here hx rfl (hb hby d3_71)) ?_
  show GG _ _ _ _ _ _ _ T9 (mkF m 72 #[.val (.ref a1), .val (.long q2), .second, .val (.long q3), .second] [(.int (1 : Int32)), (.int (2 : Int32)), (.ref a1)])
  refine own_go (fun _ => XS.iadd X9.here hx rfl (hb hby d3_72) rfl) ?_
  show GG _ _ _ _ _ _ _ T9 (mkF m 73 #[.val (.ref a1), .val (.long q2), .second, .val (.long q3), .second] [(.int (3 : Int32)), (.ref a1)])
  obtain ⟨T10, h10, X10, e10, W10, st10⟩ := putF X9 hx hZ hown (host := "") (Or.inl (hw _ (List.mem_of_getElem? (i := 23) rfl))) Via.refl e9 F_s E_o (Or.inl (hw _ (List.mem_of_getElem? (i := 24) rfl))) (hw _ (List.mem_of_getElem? (i := 5) rfl)) (ty := .int) (by decide) rfl rfl (g := (mkF m 73 #[.val (.ref a1), .val (.long q2), .second, .val (.long q3), .second] [(.int (3 : Int32)), (.ref a1)])) rfl rfl (hb hby d3_73)
  have E_o := E_o.wr W10
  have F_r := F_r.other W10 (Or.inr (slot_ne (Or.inl (hw _ (List.mem_of_getElem? (i := 15) rfl))) (Or.inl (hw _ (List.mem_of_getElem? (i := 24) rfl))) (by decide) (t := (.array .long)) (t' := .int) (by decide) (by decide)))
  have F_p := F_p.other W10 (Or.inr (slot_ne (Or.inl (hw _ (List.mem_of_getElem? (i := 17) rfl))) (Or.inl (hw _ (List.mem_of_getElem? (i := 24) rfl))) (by decide) (t := (.array .long)) (t' := .int) (by decide) (by decide)))
  have V_r := V_r.other W10 (Ne.symm no1)
  have V_p := V_p.other W10 (Ne.symm no2)
  have K0 := K0.wr W10 (Or.inl (List.mem_of_getElem? (i := 0) rfl))
  have F_s := F_s.same W10
  have N10 := Fr.snoc X10 N8 g_o
  refine own_go (fun _ => st10 _) ?_
  show GG _ _ _ _ _ _ _ T10 (mkF m 76 #[.val (.ref a1), .val (.long q2), .second, .val (.long q3), .second] [])
  refine own_retV X10 hx hlk Bd.returns (hb hby d3_76) (by decide) (by decide) ?_
  show Q3_2 Z a1 q2 q3 b1 b2 r0 r1 r2 r3 r4 r5 r6 r7 r8 r9 r10 r11 r12 r13 r14 r15 t0 t1 t2 t3 t4 t5 t6 t7 t8 t9 t10 t11 t12 t13 t14 t15 h0 n0 (none) T10.heap _
  rw [e10]
  exact ⟨rfl, N10, K0, F_s, F_r, F_p, V_r, V_p⟩
def Q3_3 (Z : State) (a1 : Addr) (q2 : Int64) (q3 : Int64) (b1 b2 : Addr) (r0 r1 r2 r3 r4 r5 r6 r7 r8 r9 r10 r11 r12 r13 r14 r15 : Int64) (t0 t1 t2 t3 t4 t5 t6 t7 t8 t9 t10 t11 t12 t13 t14 t15 : Int64) (h0 : Heap) (n0 : Nat) (v : Option Value) (h : Heap) (L : List Loc) : Prop := v = none ∧ Fr n0 L ∧ Keep h0 h [a1, b1, b2] ∧ Fld Z h a1 "com/example/obliv/obliv/io/SegmentIndex" "size" "I" (.int (4 : Int32)) ∧ Fld Z h a1 "com/example/obliv/obliv/io/SegmentIndex" "records" "[J" (.ref b1) ∧ Fld Z h a1 "com/example/obliv/obliv/io/SegmentIndex" "positions" "[J" (.ref b2) ∧ Arx Z h b1 .long [(.long r0), (.long r1), (.long r2), (.long q2), (.long r4), (.long r5), (.long r6), (.long r7), (.long r8), (.long r9), (.long r10), (.long r11), (.long r12), (.long r13), (.long r14), (.long r15)] ∧ Arx Z h b2 .long [(.long t0), (.long t1), (.long t2), (.long q3), (.long t4), (.long t5), (.long t6), (.long t7), (.long t8), (.long t9), (.long t10), (.long t11), (.long t12), (.long t13), (.long t14), (.long t15)]
set_option maxRecDepth 65536 in
set_option maxHeartbeats 40000000 in
theorem rm3_3 (l : Launch) (Z : State) (a0 : Array Value) (hw : ∀ d ∈ tables_1, d.before a0 Z = true) (ws : List Jvm.Cond) (a1 : Addr) (q2 : Int64) (q3 : Int64) (b1 b2 : Addr) (r0 r1 r2 r3 r4 r5 r6 r7 r8 r9 r10 r11 r12 r13 r14 r15 : Int64) (t0 t1 t2 t3 t4 t5 t6 t7 t8 t9 t10 t11 t12 t13 t14 t15 : Int64) (h0 : Heap) (n0 : Nat) (Z0 : n0 ≤ h0.size) (E_o : Exa Z h0 a1 "com/example/obliv/obliv/io/SegmentIndex") (F_s : Fld Z h0 a1 "com/example/obliv/obliv/io/SegmentIndex" "size" "I" (.int (3 : Int32))) (F_r : Fld Z h0 a1 "com/example/obliv/obliv/io/SegmentIndex" "records" "[J" (.ref b1)) (F_p : Fld Z h0 a1 "com/example/obliv/obliv/io/SegmentIndex" "positions" "[J" (.ref b2)) (V_r : Arx Z h0 b1 .long [(.long r0), (.long r1), (.long r2), (.long r3), (.long r4), (.long r5), (.long r6), (.long r7), (.long r8), (.long r9), (.long r10), (.long r11), (.long r12), (.long r13), (.long r14), (.long r15)]) (V_p : Arx Z h0 b2 .long [(.long t0), (.long t1), (.long t2), (.long t3), (.long t4), (.long t5), (.long t6), (.long t7), (.long t8), (.long t9), (.long t10), (.long t11), (.long t12), (.long t13), (.long t14), (.long t15)]) (n12 : b1 ≠ b2) (no1 : a1 ≠ b1) (no2 : a1 ≠ b2) (g_o : n0 ≤ a1) (g_1 : n0 ≤ b1) (g_2 : n0 ≤ b2) :
    own_CT l Z (⟨"com/example/obliv/obliv/io/SegmentIndex", "hold", "(JJ)V"⟩ : MethodName) prog_12_method_10_code 5 none ws ({ frames := 0, cells := 0, slots := 0, locals := 0 } : Room) #[(.ref a1), (.long q2), (.long q3)] h0 (Q3_3 Z a1 q2 q3 b1 b2 r0 r1 r2 r3 r4 r5 r6 r7 r8 r9 r10 r11 r12 r13 r14 r15 t0 t1 t2 t3 t4 t5 t6 t7 t8 t9 t10 t11 t12 t13 t14 t15 h0 n0) := by
  refine MetFree.of_bodySF (plainFor_of_name pn_com_example_obliv_obliv_io_SegmentIndex) hisR ?_
  intro p e s m args below meth c s₁ Bd hml0 hP hK
  obtain ⟨rfl, hZ, hh⟩ := hP
  have hx := Bd.exec
  have hby := Bd.bytes
  have hml : c.maxLocals = 5 := hml0
  have hown : s.vm.findClass "com/example/obliv/obliv/io/SegmentIndex" = some m.cls := findClass_of_methodNamed Bd.named
  have hnm := (name_of_methodNamed Bd.named Bd.method).1
  have hlk : meth.locks = false := BodyLoose.notSynchronized Bd
  have X0 : Stand p l e ({ frames := 0, cells := 0, slots := 0, locals := 0 } : Room) s m #[(.ref a1), (.long q2), (.long q3)] below meth c s₁ [] 0 0 := Stand.of_body Bd
  have e0 : s₁.heap = h0 := by rw [← hh, Bd.state]; rfl
  have N0 := Fr.nil n0
  show GG p e below s ({ frames := 0, cells := 0, slots := 0, locals := 0 } : Room).cells ({ frames := 0, cells := 0, slots := 0, locals := 0 } : Room).slots (Q3_3 Z a1 q2 q3 b1 b2 r0 r1 r2 r3 r4 r5 r6 r7 r8 r9 r10 r11 r12 r13 r14 r15 t0 t1 t2 t3 t4 t5 t6 t7 t8 t9 t10 t11 t12 t13 t14 t15 h0 n0) s₁ (entryFrame m #[(.ref a1), (.long q2), (.long q3)] 5)
  refine own_in (ef_3 m a1 q2 q3) ?_
  show GG _ _ _ _ _ _ _ s₁ (mkF m 0 #[.val (.ref a1), .val (.long q2), .second, .val (.long q3), .second] [])
  refine own_go (fun _ => XS.aloadN X0.here hx rfl (hb hby d3_0) rfl rfl) ?_
  show GG _ _ _ _ _ _ _ s₁ (mkF m 1 #[.val (.ref a1), .val (.long q2), .second, .val (.long q3), .second] [(.ref a1)])
  obtain ⟨T1, X1, e1, st1⟩ := getF X0 hx hZ hown (host := "") (Or.inl (hw _ (List.mem_of_getElem? (i := 23) rfl))) Via.refl e0 F_s (g := (mkF m 1 #[.val (.ref a1), .val (.long q2), .second, .val (.long q3), .second] [(.ref a1)])) rfl rfl (hb hby d3_1)
  refine own_go (fun _ => st1 _) ?_
  show GG _ _ _ _ _ _ _ T1 (mkF m 4 #[.val (.ref a1), .val (.long q2), .second, .val (.long q3), .second] [(.int (3 : Int32))])
  refine own_go (fun _ => XS.aloadN X1.here hx rfl (hb hby d3_4) rfl rfl) ?_
  show GG _ _ _ _ _ _ _ T1 (mkF m 5 #[.val (.ref a1), .val (.long q2), .second, .val (.long q3), .second] [(.ref a1), (.int (3 : Int32))])
  obtain ⟨T2, X2, e2, st2⟩ := getF X1 hx hZ hown (host := "") (Or.inl (hw _ (List.mem_of_getElem? (i := 14) rfl))) Via.refl e1 F_r (g := (mkF m 5 #[.val (.ref a1), .val (.long q2), .second, .val (.long q3), .second] [(.ref a1), (.int (3 : Int32))])) rfl rfl (hb hby d3_5)
  refine own_go (fun _ => st2 _) ?_
  show GG _ _ _ _ _ _ _ T2 (mkF m 8 #[.val (.ref a1), .val (.long q2), .second, .val (.long q3), .second] [(.ref b1), (.int (3 : Int32))])
  refine own_go (fun _ => own_len X2 hx hZ e2 V_r (g := (mkF m 8 #[.val (.ref a1), .val (.long q2), .second, .val (.long q3), .second] [(.ref b1), (.int (3 : Int32))])) rfl rfl (hb hby d3_8) _) ?_
  show GG _ _ _ _ _ _ _ T2 (mkF m 9 #[.val (.ref a1), .val (.long q2), .second, .val (.long q3), .second] [(.int (16 : Int32)), (.int (3 : Int32))])
  have hc9 : ¬ ((3 : Int32) = (16 : Int32)) := by decide
  refine own_go (fun _ => XS.icmpYes X2.here hx rfl (pc0 := 9) (pc' := 46) rfl (hb hby d3_9) rfl (feq hc9).2 (by decide) (by decide)) ?_
  show GG _ _ _ _ _ _ _ T2 (mkF m 46 #[.val (.ref a1), .val (.long q2), .second, .val (.long q3), .second] [])
  refine own_go (fun _ => XS.aloadN X2.here hx rfl (hb hby d3_46) rfl rfl) ?_
  show GG _ _ _ _ _ _ _ T2 (mkF m 47 #[.val (.ref a1), .val (.long q2), .second, .val (.long q3), .second] [(.ref a1)])
  obtain ⟨T3, X3, e3, st3⟩ := getF X2 hx hZ hown (host := "") (Or.inl (hw _ (List.mem_of_getElem? (i := 14) rfl))) Via.refl e2 F_r (g := (mkF m 47 #[.val (.ref a1), .val (.long q2), .second, .val (.long q3), .second] [(.ref a1)])) rfl rfl (hb hby d3_47)
  refine own_go (fun _ => st3 _) ?_
  show GG _ _ _ _ _ _ _ T3 (mkF m 50 #[.val (.ref a1), .val (.long q2), .second, .val (.long q3), .second] [(.ref b1)])
  refine own_go (fun _ => XS.aloadN X3.here hx rfl (hb hby d3_50) rfl rfl) ?_
  show GG _ _ _ _ _ _ _ T3 (mkF m 51 #[.val (.ref a1), .val (.long q2), .second, .val (.long q3), .second] [(.ref a1), (.ref b1)])
  obtain ⟨T4, X4, e4, st4⟩ := getF X3 hx hZ hown (host := "") (Or.inl (hw _ (List.mem_of_getElem? (i := 23) rfl))) Via.refl e3 F_s (g := (mkF m 51 #[.val (.ref a1), .val (.long q2), .second, .val (.long q3), .second] [(.ref a1), (.ref b1)])) rfl rfl (hb hby d3_51)
  refine own_go (fun _ => st4 _) ?_
  show GG _ _ _ _ _ _ _ T4 (mkF m 54 #[.val (.ref a1), .val (.long q2), .second, .val (.long q3), .second] [(.int (3 : Int32)), (.ref b1)])
  refine own_go (fun _ => XS.lloadN X4.here hx rfl (hb hby d3_54) rfl) ?_
  show GG _ _ _ _ _ _ _ T4 (mkF m 55 #[.val (.ref a1), .val (.long q2), .second, .val (.long q3), .second] [(.long q2), (.int (3 : Int32)), (.ref b1)])
  have K0 := Keep.refl h0 [a1, b1, b2]
  obtain ⟨T5, h5, X5, e5, W5, V5, st5⟩ := own_lastore X4 hx hZ e4 V_r (by decide) (Nat.le_of_ble_eq_true rfl) (g := (mkF m 55 #[.val (.ref a1), .val (.long q2), .second, .val (.long q3), .second] [(.long q2), (.int (3 : Int32)), (.ref b1)])) rfl rfl (hb hby d3_55)
  have E_o := E_o.wr W5
  have F_s := F_s.other W5 (Or.inl no1)
  have F_r := F_r.other W5 (Or.inl no1)
  have F_p := F_p.other W5 (Or.inl no1)
  have V_p := V_p.other W5 (Ne.symm n12)
  have K0 := K0.wr W5 (Or.inl (List.mem_of_getElem? (i := 1) rfl))
  have V_r : Arx Z h5 b1 .long [(.long r0), (.long r1), (.long r2), (.long q2), (.long r4), (.long r5), (.long r6), (.long r7), (.long r8), (.long r9), (.long r10), (.long r11), (.long r12), (.long r13), (.long r14), (.long r15)] := V5
  have N5 := Fr.snoc X5 N0 g_1
  refine own_go (fun _ => st5 _) ?_
  show GG _ _ _ _ _ _ _ T5 (mkF m 56 #[.val (.ref a1), .val (.long q2), .second, .val (.long q3), .second] [])
  refine own_go (fun _ => XS.aloadN X5.here hx rfl (hb hby d3_56) rfl rfl) ?_
  show GG _ _ _ _ _ _ _ T5 (mkF m 57 #[.val (.ref a1), .val (.long q2), .second, .val (.long q3), .second] [(.ref a1)])
  obtain ⟨T6, X6, e6, st6⟩ := getF X5 hx hZ hown (host := "") (Or.inl (hw _ (List.mem_of_getElem? (i := 16) rfl))) Via.refl e5 F_p (g := (mkF m 57 #[.val (.ref a1), .val (.long q2), .second, .val (.long q3), .second] [(.ref a1)])) rfl rfl (hb hby d3_57)
  refine own_go (fun _ => st6 _) ?_
  show GG _ _ _ _ _ _ _ T6 (mkF m 60 #[.val (.ref a1), .val (.long q2), .second, .val (.long q3), .second] [(.ref b2)])
  refine own_go (fun _ => XS.aloadN X6.here hx rfl (hb hby d3_60) rfl rfl) ?_
  show GG _ _ _ _ _ _ _ T6 (mkF m 61 #[.val (.ref a1), .val (.long q2), .second, .val (.long q3), .second] [(.ref a1), (.ref b2)])
  obtain ⟨T7, X7, e7, st7⟩ := getF X6 hx hZ hown (host := "") (Or.inl (hw _ (List.mem_of_getElem? (i := 23) rfl))) Via.refl e6 F_s (g := (mkF m 61 #[.val (.ref a1), .val (.long q2), .second, .val (.long q3), .second] [(.ref a1), (.ref b2)])) rfl rfl (hb hby d3_61)
  refine own_go (fun _ => st7 _) ?_
  show GG _ _ _ _ _ _ _ T7 (mkF m 64 #[.val (.ref a1), .val (.long q2), .second, .val (.long q3), .second] [(.int (3 : Int32)), (.ref b2)])
  refine own_go (fun _ => XS.lloadN X7.here hx rfl (hb hby d3_64) rfl) ?_
  show GG _ _ _ _ _ _ _ T7 (mkF m 65 #[.val (.ref a1), .val (.long q2), .second, .val (.long q3), .second] [(.long q3), (.int (3 : Int32)), (.ref b2)])
  obtain ⟨T8, h8, X8, e8, W8, V8, st8⟩ := own_lastore X7 hx hZ e7 V_p (by decide) (Nat.le_of_ble_eq_true rfl) (g := (mkF m 65 #[.val (.ref a1), .val (.long q2), .second, .val (.long q3), .second] [(.long q3), (.int (3 : Int32)), (.ref b2)])) rfl rfl (hb hby d3_65)
  have E_o := E_o.wr W8
  have F_s := F_s.other W8 (Or.inl no2)
  have F_r := F_r.other W8 (Or.inl no2)
  have F_p := F_p.other W8 (Or.inl no2)
  have V_r := V_r.other W8 n12
  have K0 := K0.wr W8 (Or.inl (List.mem_of_getElem? (i := 2) rfl))
  have V_p : Arx Z h8 b2 .long [(.long t0), (.long t1), (.long t2), (.long q3), (.long t4), (.long t5), (.long t6), (.long t7), (.long t8), (.long t9), (.long t10), (.long t11), (.long t12), (.long t13), (.long t14), (.long t15)] := V8
  have N8 := Fr.snoc X8 N5 g_2
  refine own_go (fun _ => st8 _) ?_
  show GG _ _ _ _ _ _ _ T8 (mkF m 66 #[.val (.ref a1), .val (.long q2), .second, .val (.long q3), .second] [])
  refine own_go (fun _ => XS.aloadN X8.here hx rfl (hb hby d3_66) rfl rfl) ?_
  show GG _ _ _ _ _ _ _ T8 (mkF m 67 #[.val (.ref a1), .val (.long q2), .second, .val (.long q3), .second] [(.ref a1)])
  refine own_go (fun _ => XS.dup X8.here hx rfl (hb hby d3_67) rfl rfl) ?_
  show GG _ _ _ _ _ _ _ T8 (mkF m 68 #[.val (.ref a1), .val (.long q2), .second, .val (.long q3), .second] [(.ref a1), (.ref a1)])
  obtain ⟨T9, X9, e9, st9⟩ := getF X8 hx hZ hown (host := "") (Or.inl (hw _ (List.mem_of_getElem? (i := 23) rfl))) Via.refl e8 F_s (g := (mkF m 68 #[.val (.ref a1), .val (.long q2), .second, .val (.long q3), .second] [(.ref a1), (.ref a1)])) rfl rfl (hb hby d3_68)
  refine own_go (fun _ => st9 _) ?_
  show GG _ _ _ _ _ _ _ T9 (mkF m 71 #[.val (.ref a1), .val (.long q2), .second, .val (.long q3), .second] [(.int (3 : Int32)), (.ref a1)])
  refine own_go (fun _ => XS.iconst X9.here hx rfl (hb hby d3_71)) ?_
  show GG _ _ _ _ _ _ _ T9 (mkF m 72 #[.val (.ref a1), .val (.long q2), .second, .val (.long q3), .second] [(.int (1 : Int32)), (.int (3 : Int32)), (.ref a1)])
  refine own_go (fun _ => XS.iadd X9.here hx rfl (hb hby d3_72) rfl) ?_
  show GG _ _ _ _ _ _ _ T9 (mkF m 73 #[.val (.ref a1), .val (.long q2), .second, .val (.long q3), .second] [(.int (4 : Int32)), (.ref a1)])
  obtain ⟨T10, h10, X10, e10, W10, st10⟩ := putF X9 hx hZ hown (host := "") (Or.inl (hw _ (List.mem_of_getElem? (i := 23) rfl))) Via.refl e9 F_s E_o (Or.inl (hw _ (List.mem_of_getElem? (i := 24) rfl))) (hw _ (List.mem_of_getElem? (i := 5) rfl)) (ty := .int) (by decide) rfl rfl (g := (mkF m 73 #[.val (.ref a1), .val (.long q2), .second, .val (.long q3), .second] [(.int (4 : Int32)), (.ref a1)])) rfl rfl (hb hby d3_73)
  have E_o := E_o.wr W10
  have F_r := F_r.other W10 (Or.inr (slot_ne (Or.inl (hw _ (List.mem_of_getElem? (i := 15) rfl))) (Or.inl (hw _ (List.mem_of_getElem? (i := 24) rfl))) (by decide) (t := (.array .long)) (t' := .int) (by decide) (by decide)))
  have F_p := F_p.other W10 (Or.inr (slot_ne (Or.inl (hw _ (List.mem_of_getElem? (i := 17) rfl))) (Or.inl (hw _ (List.mem_of_getElem? (i := 24) rfl))) (by decide) (t := (.array .long)) (t' := .int) (by decide) (by decide)))
  have V_r := V_r.other W10 (Ne.symm no1)
  have V_p := V_p.other W10 (Ne.symm no2)
  have K0 := K0.wr W10 (Or.inl (List.mem_of_getElem? (i := 0) rfl))
  have F_s := F_s.same W10
  have N10 := Fr.snoc X10 N8 g_o
  refine own_go (fun _ => st10 _) ?_
  show GG _ _ _ _ _ _ _ T10 (mkF m 76 #[.val (.ref a1), .val (.long q2), .second, .val (.long q3), .second] [])
  refine own_retV X10 hx hlk Bd.returns (hb hby d3_76) (by decide) (by decide) ?_
  show Q3_3 Z a1 q2 q3 b1 b2 r0 r1 r2 r3 r4 r5 r6 r7 r8 r9 r10 r11 r12 r13 r14 r15 t0 t1 t2 t3 t4 t5 t6 t7 t8 t9 t10 t11 t12 t13 t14 t15 h0 n0 (none) T10.heap _
  rw [e10]
  exact ⟨rfl, N10, K0, F_s, F_r, F_p, V_r, V_p⟩
theorem pd__JJ_V_315 : parseMethodDescriptor "(JJ)V" = some ⟨[.long, .long], none⟩ := by decide +kernel
theorem d1_0 : decode prog_12_method_1_code 0 = .ok (.aload_n 0, 1) := by decide +kernel
theorem d1_1 : decode prog_12_method_1_code 1 = .ok (.invokespecial 1, 3) := by decide +kernel
theorem d1_4 : decode prog_12_method_1_code 4 = .ok (.aload_n 0, 1) := by decide +kernel
theorem d1_5 : decode prog_12_method_1_code 5 = .ok (.bipush 16, 2) := by decide +kernel
theorem d1_7 : decode prog_12_method_1_code 7 = .ok (.newarray .long, 2) := by decide +kernel
theorem d1_9 : decode prog_12_method_1_code 9 = .ok (.putfield 9, 3) := by decide +kernel
theorem d1_12 : decode prog_12_method_1_code 12 = .ok (.aload_n 0, 1) := by decide +kernel
theorem d1_13 : decode prog_12_method_1_code 13 = .ok (.bipush 16, 2) := by decide +kernel
theorem d1_15 : decode prog_12_method_1_code 15 = .ok (.newarray .long, 2) := by decide +kernel
theorem d1_17 : decode prog_12_method_1_code 17 = .ok (.putfield 13, 3) := by decide +kernel
theorem d1_20 : decode prog_12_method_1_code 20 = .ok (.aload_n 0, 1) := by decide +kernel
theorem d1_21 : decode prog_12_method_1_code 21 = .ok (.lconst 0, 1) := by decide +kernel
theorem d1_22 : decode prog_12_method_1_code 22 = .ok (.ldc2_w 18, 3) := by decide +kernel
theorem d1_25 : decode prog_12_method_1_code 25 = .ok (.invokevirtual 20, 3) := by decide +kernel
theorem d1_28 : decode prog_12_method_1_code 28 = .ok (.return_, 1) := by decide +kernel
theorem ef_1 (m : MethodId) (x0 : Addr) : entryFrame m #[(.ref x0)] 1 = mkF m 0 #[.val (.ref x0)] [] := by first | (simp [entryFrame, mkF, argsToLocals, Value.category]; done) | rfl
def Q1 (Z : State) (a1 : Addr) (h0 : Heap) (n0 : Nat) (v : Option Value) (h : Heap) (L : List Loc) : Prop := v = none ∧ Fr n0 L ∧ Keep h0 h [a1] ∧ Exa Z h a1 "com/example/obliv/obliv/io/SegmentIndex" ∧ ∃ b1 b2, h0.size ≤ b1 ∧ h0.size ≤ b2 ∧ b1 ≠ b2 ∧ Fld Z h a1 "com/example/obliv/obliv/io/SegmentIndex" "size" "I" (.int (1 : Int32)) ∧ Fld Z h a1 "com/example/obliv/obliv/io/SegmentIndex" "records" "[J" (.ref b1) ∧ Fld Z h a1 "com/example/obliv/obliv/io/SegmentIndex" "positions" "[J" (.ref b2) ∧ Arx Z h b1 .long [(.long (0 : Int64)), (.long (0 : Int64)), (.long (0 : Int64)), (.long (0 : Int64)), (.long (0 : Int64)), (.long (0 : Int64)), (.long (0 : Int64)), (.long (0 : Int64)), (.long (0 : Int64)), (.long (0 : Int64)), (.long (0 : Int64)), (.long (0 : Int64)), (.long (0 : Int64)), (.long (0 : Int64)), (.long (0 : Int64)), (.long (0 : Int64))] ∧ Arx Z h b2 .long [(.long (8 : Int64)), (.long (0 : Int64)), (.long (0 : Int64)), (.long (0 : Int64)), (.long (0 : Int64)), (.long (0 : Int64)), (.long (0 : Int64)), (.long (0 : Int64)), (.long (0 : Int64)), (.long (0 : Int64)), (.long (0 : Int64)), (.long (0 : Int64)), (.long (0 : Int64)), (.long (0 : Int64)), (.long (0 : Int64)), (.long (0 : Int64))]
set_option maxRecDepth 65536 in
set_option maxHeartbeats 40000000 in
theorem rm1 (l : Launch) (Z : State) (a0 : Array Value) (hw : ∀ d ∈ tables_1, d.before a0 Z = true) (ws : List Jvm.Cond) (a1 : Addr) (h0 : Heap) (n0 : Nat) (Z0 : n0 ≤ h0.size) (E_o : Exa Z h0 a1 "com/example/obliv/obliv/io/SegmentIndex") (F_s : Fld Z h0 a1 "com/example/obliv/obliv/io/SegmentIndex" "size" "I" (.int (0 : Int32))) (F_r : Fld Z h0 a1 "com/example/obliv/obliv/io/SegmentIndex" "records" "[J" .null) (F_p : Fld Z h0 a1 "com/example/obliv/obliv/io/SegmentIndex" "positions" "[J" .null) (g_o : n0 ≤ a1) :
    own_CT l Z (⟨"com/example/obliv/obliv/io/SegmentIndex", "<init>", "()V"⟩ : MethodName) prog_12_method_1_code 1 none ws ({ frames := 1, cells := 2, slots := 32, locals := 16 } : Room) #[(.ref a1)] h0 (Q1 Z a1 h0 n0) := by
  refine MetFree.of_bodySF (plainFor_of_name pn_com_example_obliv_obliv_io_SegmentIndex) hisR ?_
  intro p e s m args below meth c s₁ Bd hml0 hP hK
  obtain ⟨rfl, hZ, hh⟩ := hP
  have hx := Bd.exec
  have hby := Bd.bytes
  have hml : c.maxLocals = 1 := hml0
  have hown : s.vm.findClass "com/example/obliv/obliv/io/SegmentIndex" = some m.cls := findClass_of_methodNamed Bd.named
  have hnm := (name_of_methodNamed Bd.named Bd.method).1
  have hlk : meth.locks = false := BodyLoose.notSynchronized Bd
  have X0 : Stand p l e ({ frames := 1, cells := 2, slots := 32, locals := 16 } : Room) s m #[(.ref a1)] below meth c s₁ [] 0 0 := Stand.of_body Bd
  have e0 : s₁.heap = h0 := by rw [← hh, Bd.state]; rfl
  have N0 := Fr.nil n0
  show GG p e below s ({ frames := 1, cells := 2, slots := 32, locals := 16 } : Room).cells ({ frames := 1, cells := 2, slots := 32, locals := 16 } : Room).slots (Q1 Z a1 h0 n0) s₁ (entryFrame m #[(.ref a1)] 1)
  refine own_in (ef_1 m a1) ?_
  show GG _ _ _ _ _ _ _ s₁ (mkF m 0 #[.val (.ref a1)] [])
  refine own_go (fun _ => XS.aloadN X0.here hx rfl (hb hby d1_0) rfl rfl) ?_
  show GG _ _ _ _ _ _ _ s₁ (mkF m 1 #[.val (.ref a1)] [(.ref a1)])
  obtain ⟨T1, X1, e1, st1⟩ := initO X0 hx hZ hown (hw _ (List.mem_of_getElem? (i := 10) rfl)) (hw _ (List.mem_of_getElem? (i := 11) rfl)) (hw _ (List.mem_of_getElem? (i := 12) rfl)) e0 (g := (mkF m 1 #[.val (.ref a1)] [(.ref a1)])) rfl (by rw [hml]; rfl) rfl (hb hby d1_1) (by decide) (W := 0) (by show 2 * 0 + _ ≤ _; exact Nat.le_of_eq rfl) (by decide)
  refine own_go (fun _ => st1 _) ?_
  show GG _ _ _ _ _ _ _ T1 (mkF m 4 #[.val (.ref a1)] [])
  refine own_go (fun _ => XS.aloadN X1.here hx rfl (hb hby d1_4) rfl rfl) ?_
  show GG _ _ _ _ _ _ _ T1 (mkF m 5 #[.val (.ref a1)] [(.ref a1)])
  refine own_go (fun _ => XS.bipush X1.here hx rfl (hb hby d1_5)) ?_
  show GG _ _ _ _ _ _ _ T1 (mkF m 7 #[.val (.ref a1)] [(.int (16 : Int32)), (.ref a1)])
  have K0 := Keep.refl h0 [a1]
  obtain ⟨T2, h2, ob2, g2, X2, e2, E2, V_ob2, E_ob2, st2⟩ := own_newarr X1 hx hZ (hw _ (List.mem_of_getElem? (i := 13) rfl)) e1 (g := (mkF m 7 #[.val (.ref a1)] [(.int (16 : Int32)), (.ref a1)])) rfl (hb hby d1_7) rfl (by decide) (cap := 16) (by decide) (by decide) (by decide) (by decide) (ad := "[J") (by decide)
  have ne_a1_ob2 : a1 ≠ ob2 := Nat.ne_of_lt (Nat.lt_of_lt_of_le E_o.lt (Nat.le_of_eq g2.symm))
  have sz_ob2 : h0.size ≤ ob2 := Nat.le_trans K0.1 (Nat.le_of_eq g2.symm)
  have g_ob2 : n0 ≤ ob2 := Nat.le_trans Z0 sz_ob2
  have E_o := E_o.ext E2
  have F_s := F_s.ext E2
  have F_r := F_r.ext E2
  have F_p := F_p.ext E2
  have K0 := K0.ext E2
  have V_ob2 : Arx Z h2 ob2 .long [(.long (0 : Int64)), (.long (0 : Int64)), (.long (0 : Int64)), (.long (0 : Int64)), (.long (0 : Int64)), (.long (0 : Int64)), (.long (0 : Int64)), (.long (0 : Int64)), (.long (0 : Int64)), (.long (0 : Int64)), (.long (0 : Int64)), (.long (0 : Int64)), (.long (0 : Int64)), (.long (0 : Int64)), (.long (0 : Int64)), (.long (0 : Int64))] := V_ob2
  refine own_go (fun _ => st2 _) ?_
  show GG _ _ _ _ _ _ _ T2 (mkF m 9 #[.val (.ref a1)] [(.ref ob2), (.ref a1)])
  obtain ⟨T3, h3, X3, e3, W3, st3⟩ := putF X2 hx hZ hown (host := "") (Or.inl (hw _ (List.mem_of_getElem? (i := 14) rfl))) Via.refl e2 F_r E_o (Or.inl (hw _ (List.mem_of_getElem? (i := 15) rfl))) (hw _ (List.mem_of_getElem? (i := 5) rfl)) (ty := (.array .long)) (by decide) rfl rfl (g := (mkF m 9 #[.val (.ref a1)] [(.ref ob2), (.ref a1)])) rfl rfl (hb hby d1_9)
  have E_o := E_o.wr W3
  have F_s := F_s.other W3 (Or.inr (slot_ne (Or.inl (hw _ (List.mem_of_getElem? (i := 24) rfl))) (Or.inl (hw _ (List.mem_of_getElem? (i := 15) rfl))) (by decide) (t := .int) (t' := (.array .long)) (by decide) (by decide)))
  have F_p := F_p.other W3 (Or.inr (slot_ne (Or.inl (hw _ (List.mem_of_getElem? (i := 17) rfl))) (Or.inl (hw _ (List.mem_of_getElem? (i := 15) rfl))) (by decide) (t := (.array .long)) (t' := (.array .long)) (by decide) (by decide)))
  have K0 := K0.wr W3 (Or.inl (List.mem_of_getElem? (i := 0) rfl))
  have V_ob2 := V_ob2.other W3 (Ne.symm ne_a1_ob2)
  have E_ob2 := E_ob2.wr W3
  have F_r := F_r.same W3
  have N3 := Fr.snoc X3 N0 g_o
  refine own_go (fun _ => st3 _) ?_
  show GG _ _ _ _ _ _ _ T3 (mkF m 12 #[.val (.ref a1)] [])
  refine own_go (fun _ => XS.aloadN X3.here hx rfl (hb hby d1_12) rfl rfl) ?_
  show GG _ _ _ _ _ _ _ T3 (mkF m 13 #[.val (.ref a1)] [(.ref a1)])
  refine own_go (fun _ => XS.bipush X3.here hx rfl (hb hby d1_13)) ?_
  show GG _ _ _ _ _ _ _ T3 (mkF m 15 #[.val (.ref a1)] [(.int (16 : Int32)), (.ref a1)])
  obtain ⟨T4, h4, ob4, g4, X4, e4, E4, V_ob4, E_ob4, st4⟩ := own_newarr X3 hx hZ (hw _ (List.mem_of_getElem? (i := 13) rfl)) e3 (g := (mkF m 15 #[.val (.ref a1)] [(.int (16 : Int32)), (.ref a1)])) rfl (hb hby d1_15) rfl (by decide) (cap := 16) (by decide) (by decide) (by decide) (by decide) (ad := "[J") (by decide)
  have ne_a1_ob4 : a1 ≠ ob4 := Nat.ne_of_lt (Nat.lt_of_lt_of_le E_o.lt (Nat.le_of_eq g4.symm))
  have ne_ob2_ob4 : ob2 ≠ ob4 := Nat.ne_of_lt (Nat.lt_of_lt_of_le V_ob2.lt (Nat.le_of_eq g4.symm))
  have sz_ob4 : h0.size ≤ ob4 := Nat.le_trans K0.1 (Nat.le_of_eq g4.symm)
  have g_ob4 : n0 ≤ ob4 := Nat.le_trans Z0 sz_ob4
  have E_o := E_o.ext E4
  have F_s := F_s.ext E4
  have F_r := F_r.ext E4
  have F_p := F_p.ext E4
  have K0 := K0.ext E4
  have V_ob2 := V_ob2.ext E4
  have E_ob2 := E_ob2.ext E4
  have V_ob4 : Arx Z h4 ob4 .long [(.long (0 : Int64)), (.long (0 : Int64)), (.long (0 : Int64)), (.long (0 : Int64)), (.long (0 : Int64)), (.long (0 : Int64)), (.long (0 : Int64)), (.long (0 : Int64)), (.long (0 : Int64)), (.long (0 : Int64)), (.long (0 : Int64)), (.long (0 : Int64)), (.long (0 : Int64)), (.long (0 : Int64)), (.long (0 : Int64)), (.long (0 : Int64))] := V_ob4
  refine own_go (fun _ => st4 _) ?_
  show GG _ _ _ _ _ _ _ T4 (mkF m 17 #[.val (.ref a1)] [(.ref ob4), (.ref a1)])
  obtain ⟨T5, h5, X5, e5, W5, st5⟩ := putF X4 hx hZ hown (host := "") (Or.inl (hw _ (List.mem_of_getElem? (i := 16) rfl))) Via.refl e4 F_p E_o (Or.inl (hw _ (List.mem_of_getElem? (i := 17) rfl))) (hw _ (List.mem_of_getElem? (i := 5) rfl)) (ty := (.array .long)) (by decide) rfl rfl (g := (mkF m 17 #[.val (.ref a1)] [(.ref ob4), (.ref a1)])) rfl rfl (hb hby d1_17)
  have E_o := E_o.wr W5
  have F_s := F_s.other W5 (Or.inr (slot_ne (Or.inl (hw _ (List.mem_of_getElem? (i := 24) rfl))) (Or.inl (hw _ (List.mem_of_getElem? (i := 17) rfl))) (by decide) (t := .int) (t' := (.array .long)) (by decide) (by decide)))
  have F_r := F_r.other W5 (Or.inr (slot_ne (Or.inl (hw _ (List.mem_of_getElem? (i := 15) rfl))) (Or.inl (hw _ (List.mem_of_getElem? (i := 17) rfl))) (by decide) (t := (.array .long)) (t' := (.array .long)) (by decide) (by decide)))
  have K0 := K0.wr W5 (Or.inl (List.mem_of_getElem? (i := 0) rfl))
  have V_ob2 := V_ob2.other W5 (Ne.symm ne_a1_ob2)
  have E_ob2 := E_ob2.wr W5
  have V_ob4 := V_ob4.other W5 (Ne.symm ne_a1_ob4)
  have E_ob4 := E_ob4.wr W5
  have F_p := F_p.same W5
  have N5 := Fr.snoc X5 N3 g_o
  refine own_go (fun _ => st5 _) ?_
  show GG _ _ _ _ _ _ _ T5 (mkF m 20 #[.val (.ref a1)] [])
  refine own_go (fun _ => XS.aloadN X5.here hx rfl (hb hby d1_20) rfl rfl) ?_
  show GG _ _ _ _ _ _ _ T5 (mkF m 21 #[.val (.ref a1)] [(.ref a1)])
  refine own_go (fun _ => XS.lconst X5.here hx rfl (hb hby d1_21)) ?_
  show GG _ _ _ _ _ _ _ T5 (mkF m 22 #[.val (.ref a1)] [(.long (0 : Int64)), (.ref a1)])
  refine own_go (fun _ => X5.ldc2Long hx hown (mvT hZ (hw _ (List.mem_of_getElem? (i := 18) rfl))) (g := (mkF m 22 #[.val (.ref a1)] [(.long (0 : Int64)), (.ref a1)])) rfl (hb hby d1_22) _) ?_
  show GG _ _ _ _ _ _ _ T5 (mkF m 25 #[.val (.ref a1)] [(.long (8 : Int64)), (.long (0 : Int64)), (.ref a1)])
  refine own_callP X5 hx hZ (y := (⟨"com/example/obliv/obliv/io/SegmentIndex", "hold", "(JJ)V"⟩ : MethodName)) 0 hown (hw _ (List.mem_of_getElem? (i := 19) rfl)) (hw _ (List.mem_of_getElem? (i := 20) rfl)) (hw _ (List.mem_of_getElem? (i := 5) rfl)) (hw _ (List.mem_of_getElem? (i := 21) rfl)) (hw _ (List.mem_of_getElem? (i := 6) rfl)) (hw _ (List.mem_of_getElem? (i := 22) rfl)) (by decide) (a := a1) (argsL := [(.long (0 : Int64)), (.long (8 : Int64))]) (rest := []) (rm3_0 l Z a0 hw [] a1 (0 : Int64) (8 : Int64) ob2 ob4 (0 : Int64) (0 : Int64) (0 : Int64) (0 : Int64) (0 : Int64) (0 : Int64) (0 : Int64) (0 : Int64) (0 : Int64) (0 : Int64) (0 : Int64) (0 : Int64) (0 : Int64) (0 : Int64) (0 : Int64) (0 : Int64) (0 : Int64) (0 : Int64) (0 : Int64) (0 : Int64) (0 : Int64) (0 : Int64) (0 : Int64) (0 : Int64) (0 : Int64) (0 : Int64) (0 : Int64) (0 : Int64) (0 : Int64) (0 : Int64) (0 : Int64) (0 : Int64) h5 n0 (Nat.le_trans Z0 K0.1) E_o F_s F_r F_p V_ob2 V_ob4 ne_ob2_ob4 ne_a1_ob2 ne_a1_ob4 g_o g_ob2 g_ob4) (by decide) (by decide) (by decide) (by decide) E_o (g := (mkF m 25 #[.val (.ref a1)] [(.long (8 : Int64)), (.long (0 : Int64)), (.ref a1)])) rfl (by rw [hml]; rfl) (lenOf pd__JJ_V_315 rfl) rfl (by show 2 * 0 + _ ≤ _; exact Nat.le_of_eq rfl) (hb hby d1_25) e5 ?_
  rintro v6 T6 L6 X6 ⟨rfl, N6q, Kq6, Fs6, Fr6, Fp6, Vr6, Vp6⟩
  have N6 := Fr.app N5 N6q
  have E_o := E_o.keep Kq6
  have K0 := K0.trans Kq6 (allS (Or.inl (List.mem_of_getElem? (i := 0) rfl)) (allS (Or.inr sz_ob2) (allS (Or.inr sz_ob4) all0)))
  have E_ob2 := E_ob2.keep Kq6
  have E_ob4 := E_ob4.keep Kq6
  show GG _ _ _ _ _ _ _ T6 (mkF m 28 #[.val (.ref a1)] [])
  refine own_retV X6 hx hlk Bd.returns (hb hby d1_28) (by decide) (by decide) ?_
  show Q1 Z a1 h0 n0 (none) T6.heap _
  exact ⟨rfl, N6, K0, E_o, ob2, ob4, sz_ob2, sz_ob4, ne_ob2_ob4, Fs6, Fr6, Fp6, Vr6, Vp6⟩
theorem d5_0 : decode prog_12_method_9_code 0 = .ok (.aload_n 0, 1) := by decide +kernel
theorem d5_1 : decode prog_12_method_9_code 1 = .ok (.getfield 13, 3) := by decide +kernel
theorem d5_4 : decode prog_12_method_9_code 4 = .ok (.aload_n 0, 1) := by decide +kernel
theorem d5_5 : decode prog_12_method_9_code 5 = .ok (.getfield 31, 3) := by decide +kernel
theorem d5_8 : decode prog_12_method_9_code 8 = .ok (.iconst 1, 1) := by decide +kernel
theorem d5_9 : decode prog_12_method_9_code 9 = .ok (.isub, 1) := by decide +kernel
theorem d5_10 : decode prog_12_method_9_code 10 = .ok (.laload, 1) := by decide +kernel
theorem d5_11 : decode prog_12_method_9_code 11 = .ok (.lreturn, 1) := by decide +kernel
theorem ef_5 (m : MethodId) (x0 : Addr) : entryFrame m #[(.ref x0)] 1 = mkF m 0 #[.val (.ref x0)] [] := by first | (simp [entryFrame, mkF, argsToLocals, Value.category]; done) | rfl
def Q5_1 (Z : State) (a1 : Addr) (b2 : Addr) (t0 t1 t2 t3 t4 t5 t6 t7 t8 t9 t10 t11 t12 t13 t14 t15 : Int64) (h0 : Heap) (n0 : Nat) (v : Option Value) (h : Heap) (L : List Loc) : Prop := v = some (.long t0) ∧ Fr n0 L ∧ h = h0
set_option maxRecDepth 65536 in
set_option maxHeartbeats 40000000 in
theorem rm5_1 (l : Launch) (Z : State) (a0 : Array Value) (hw : ∀ d ∈ tables_1, d.before a0 Z = true) (ws : List Jvm.Cond) (a1 : Addr) (b2 : Addr) (t0 t1 t2 t3 t4 t5 t6 t7 t8 t9 t10 t11 t12 t13 t14 t15 : Int64) (h0 : Heap) (n0 : Nat) (Z0 : n0 ≤ h0.size) (F_s : Fld Z h0 a1 "com/example/obliv/obliv/io/SegmentIndex" "size" "I" (.int (1 : Int32))) (F_p : Fld Z h0 a1 "com/example/obliv/obliv/io/SegmentIndex" "positions" "[J" (.ref b2)) (V_p : Arx Z h0 b2 .long [(.long t0), (.long t1), (.long t2), (.long t3), (.long t4), (.long t5), (.long t6), (.long t7), (.long t8), (.long t9), (.long t10), (.long t11), (.long t12), (.long t13), (.long t14), (.long t15)]) :
    own_CT l Z (⟨"com/example/obliv/obliv/io/SegmentIndex", "lastPosition", "()J"⟩ : MethodName) prog_12_method_9_code 1 (some .long) ws ({ frames := 0, cells := 0, slots := 0, locals := 0 } : Room) #[(.ref a1)] h0 (Q5_1 Z a1 b2 t0 t1 t2 t3 t4 t5 t6 t7 t8 t9 t10 t11 t12 t13 t14 t15 h0 n0) := by
  refine MetFree.of_bodySF (plainFor_of_name pn_com_example_obliv_obliv_io_SegmentIndex) hisR ?_
  intro p e s m args below meth c s₁ Bd hml0 hP hK
  obtain ⟨rfl, hZ, hh⟩ := hP
  have hx := Bd.exec
  have hby := Bd.bytes
  have hml : c.maxLocals = 1 := hml0
  have hown : s.vm.findClass "com/example/obliv/obliv/io/SegmentIndex" = some m.cls := findClass_of_methodNamed Bd.named
  have hnm := (name_of_methodNamed Bd.named Bd.method).1
  have hlk : meth.locks = false := BodyLoose.notSynchronized Bd
  have X0 : Stand p l e ({ frames := 0, cells := 0, slots := 0, locals := 0 } : Room) s m #[(.ref a1)] below meth c s₁ [] 0 0 := Stand.of_body Bd
  have e0 : s₁.heap = h0 := by rw [← hh, Bd.state]; rfl
  have N0 := Fr.nil n0
  show GG p e below s ({ frames := 0, cells := 0, slots := 0, locals := 0 } : Room).cells ({ frames := 0, cells := 0, slots := 0, locals := 0 } : Room).slots (Q5_1 Z a1 b2 t0 t1 t2 t3 t4 t5 t6 t7 t8 t9 t10 t11 t12 t13 t14 t15 h0 n0) s₁ (entryFrame m #[(.ref a1)] 1)
  refine own_in (ef_5 m a1) ?_
  show GG _ _ _ _ _ _ _ s₁ (mkF m 0 #[.val (.ref a1)] [])
  refine own_go (fun _ => XS.aloadN X0.here hx rfl (hb hby d5_0) rfl rfl) ?_
  show GG _ _ _ _ _ _ _ s₁ (mkF m 1 #[.val (.ref a1)] [(.ref a1)])
  obtain ⟨T1, X1, e1, st1⟩ := getF X0 hx hZ hown (host := "") (Or.inl (hw _ (List.mem_of_getElem? (i := 16) rfl))) Via.refl e0 F_p (g := (mkF m 1 #[.val (.ref a1)] [(.ref a1)])) rfl rfl (hb hby d5_1)
  refine own_go (fun _ => st1 _) ?_
  show GG _ _ _ _ _ _ _ T1 (mkF m 4 #[.val (.ref a1)] [(.ref b2)])
  refine own_go (fun _ => XS.aloadN X1.here hx rfl (hb hby d5_4) rfl rfl) ?_
  show GG _ _ _ _ _ _ _ T1 (mkF m 5 #[.val (.ref a1)] [(.ref a1), (.ref b2)])
  obtain ⟨T2, X2, e2, st2⟩ := getF X1 hx hZ hown (host := "") (Or.inl (hw _ (List.mem_of_getElem? (i := 23) rfl))) Via.refl e1 F_s (g := (mkF m 5 #[.val (.ref a1)] [(.ref a1), (.ref b2)])) rfl rfl (hb hby d5_5)
  refine own_go (fun _ => st2 _) ?_
  show GG _ _ _ _ _ _ _ T2 (mkF m 8 #[.val (.ref a1)] [(.int (1 : Int32)), (.ref b2)])
  refine own_go (fun _ => XS.iconst X2.here hx rfl (hb hby d5_8)) ?_
  show GG _ _ _ _ _ _ _ T2 (mkF m 9 #[.val (.ref a1)] [(.int (1 : Int32)), (.int (1 : Int32)), (.ref b2)])
  refine own_go (fun _ => XS.isub X2.here hx rfl (hb hby d5_9) rfl) ?_
  show GG _ _ _ _ _ _ _ T2 (mkF m 10 #[.val (.ref a1)] [(.int (0 : Int32)), (.ref b2)])
  refine own_go (fun _ => own_laload X2 hx hZ e2 V_p (j := (0 : Int32)) (v := (.long t0)) (by decide) rfl (g := (mkF m 10 #[.val (.ref a1)] [(.int (0 : Int32)), (.ref b2)])) rfl rfl (hb hby d5_10) _) ?_
  show GG _ _ _ _ _ _ _ T2 (mkF m 11 #[.val (.ref a1)] [(.long t0)])
  refine own_ret X2 hx hlk (t := .long) (w := (.long t0)) Bd.returns rfl (Or.inr (Or.inl ⟨rfl, rfl, _, rfl⟩)) (hb hby d5_11) (by decide) (by decide) ?_
  show Q5_1 Z a1 b2 t0 t1 t2 t3 t4 t5 t6 t7 t8 t9 t10 t11 t12 t13 t14 t15 h0 n0 (some (.long t0)) T2.heap _
  rw [e2]
  exact ⟨rfl, N0, rfl⟩
theorem pd___J_155 : parseMethodDescriptor "()J" = some ⟨[], some .long⟩ := by decide +kernel
theorem d4_0 : decode prog_12_method_3_code 0 = .ok (.lload_n 3, 1) := by decide +kernel
theorem d4_1 : decode prog_12_method_3_code 1 = .ok (.aload_n 0, 1) := by decide +kernel
theorem d4_2 : decode prog_12_method_3_code 2 = .ok (.invokevirtual 25, 3) := by decide +kernel
theorem d4_5 : decode prog_12_method_3_code 5 = .ok (.lsub, 1) := by decide +kernel
theorem d4_6 : decode prog_12_method_3_code 6 = .ok (.ldc2_w 29, 3) := by decide +kernel
theorem d4_9 : decode prog_12_method_3_code 9 = .ok (.lcmp, 1) := by decide +kernel
theorem d4_10 : decode prog_12_method_3_code 10 = .ok (.ifCond .lt 9, 3) := by decide +kernel
theorem d4_13 : decode prog_12_method_3_code 13 = .ok (.aload_n 0, 1) := by decide +kernel
theorem d4_14 : decode prog_12_method_3_code 14 = .ok (.lload_n 1, 1) := by decide +kernel
theorem d4_15 : decode prog_12_method_3_code 15 = .ok (.lload_n 3, 1) := by decide +kernel
theorem d4_16 : decode prog_12_method_3_code 16 = .ok (.invokevirtual 20, 3) := by decide +kernel
theorem d4_19 : decode prog_12_method_3_code 19 = .ok (.return_, 1) := by decide +kernel
theorem ef_4 (m : MethodId) (x0 : Addr) (x1 : Int64) (x2 : Int64) : entryFrame m #[(.ref x0), (.long x1), (.long x2)] 5 = mkF m 0 #[.val (.ref x0), .val (.long x1), .second, .val (.long x2), .second] [] := by first | (simp [entryFrame, mkF, argsToLocals, Value.category]; done) | rfl
def Q4_1h (Z : State) (a1 : Addr) (q2 : Int64) (q3 : Int64) (b1 b2 : Addr) (r0 r1 r2 r3 r4 r5 r6 r7 r8 r9 r10 r11 r12 r13 r14 r15 : Int64) (t0 t1 t2 t3 t4 t5 t6 t7 t8 t9 t10 t11 t12 t13 t14 t15 : Int64) (h0 : Heap) (n0 : Nat) (v : Option Value) (h : Heap) (L : List Loc) : Prop := v = none ∧ Fr n0 L ∧ Keep h0 h [a1, b1, b2] ∧ Fld Z h a1 "com/example/obliv/obliv/io/SegmentIndex" "size" "I" (.int (2 : Int32)) ∧ Fld Z h a1 "com/example/obliv/obliv/io/SegmentIndex" "records" "[J" (.ref b1) ∧ Fld Z h a1 "com/example/obliv/obliv/io/SegmentIndex" "positions" "[J" (.ref b2) ∧ Arx Z h b1 .long [(.long r0), (.long q2), (.long r2), (.long r3), (.long r4), (.long r5), (.long r6), (.long r7), (.long r8), (.long r9), (.long r10), (.long r11), (.long r12), (.long r13), (.long r14), (.long r15)] ∧ Arx Z h b2 .long [(.long t0), (.long q3), (.long t2), (.long t3), (.long t4), (.long t5), (.long t6), (.long t7), (.long t8), (.long t9), (.long t10), (.long t11), (.long t12), (.long t13), (.long t14), (.long t15)]
set_option maxRecDepth 65536 in
set_option maxHeartbeats 40000000 in
theorem rm4_1h (l : Launch) (Z : State) (a0 : Array Value) (hw : ∀ d ∈ tables_1, d.before a0 Z = true) (ws : List Jvm.Cond) (a1 : Addr) (q2 : Int64) (q3 : Int64) (b1 b2 : Addr) (r0 r1 r2 r3 r4 r5 r6 r7 r8 r9 r10 r11 r12 r13 r14 r15 : Int64) (t0 t1 t2 t3 t4 t5 t6 t7 t8 t9 t10 t11 t12 t13 t14 t15 : Int64) (h0 : Heap) (n0 : Nat) (Z0 : n0 ≤ h0.size) (hadd : ¬ ((q3 - t0) < (65536 : Int64))) (E_o : Exa Z h0 a1 "com/example/obliv/obliv/io/SegmentIndex") (F_s : Fld Z h0 a1 "com/example/obliv/obliv/io/SegmentIndex" "size" "I" (.int (1 : Int32))) (F_r : Fld Z h0 a1 "com/example/obliv/obliv/io/SegmentIndex" "records" "[J" (.ref b1)) (F_p : Fld Z h0 a1 "com/example/obliv/obliv/io/SegmentIndex" "positions" "[J" (.ref b2)) (V_r : Arx Z h0 b1 .long [(.long r0), (.long r1), (.long r2), (.long r3), (.long r4), (.long r5), (.long r6), (.long r7), (.long r8), (.long r9), (.long r10), (.long r11), (.long r12), (.long r13), (.long r14), (.long r15)]) (V_p : Arx Z h0 b2 .long [(.long t0), (.long t1), (.long t2), (.long t3), (.long t4), (.long t5), (.long t6), (.long t7), (.long t8), (.long t9), (.long t10), (.long t11), (.long t12), (.long t13), (.long t14), (.long t15)]) (n12 : b1 ≠ b2) (no1 : a1 ≠ b1) (no2 : a1 ≠ b2) (g_o : n0 ≤ a1) (g_1 : n0 ≤ b1) (g_2 : n0 ≤ b2) :
    own_CT l Z (⟨"com/example/obliv/obliv/io/SegmentIndex", "add", "(JJ)V"⟩ : MethodName) prog_12_method_3_code 5 none ws ({ frames := 1, cells := 0, slots := 0, locals := 16 } : Room) #[(.ref a1), (.long q2), (.long q3)] h0 (Q4_1h Z a1 q2 q3 b1 b2 r0 r1 r2 r3 r4 r5 r6 r7 r8 r9 r10 r11 r12 r13 r14 r15 t0 t1 t2 t3 t4 t5 t6 t7 t8 t9 t10 t11 t12 t13 t14 t15 h0 n0) := by
  refine MetFree.of_bodySF (plainFor_of_name pn_com_example_obliv_obliv_io_SegmentIndex) hisR ?_
  intro p e s m args below meth c s₁ Bd hml0 hP hK
  obtain ⟨rfl, hZ, hh⟩ := hP
  have hx := Bd.exec
  have hby := Bd.bytes
  have hml : c.maxLocals = 5 := hml0
  have hown : s.vm.findClass "com/example/obliv/obliv/io/SegmentIndex" = some m.cls := findClass_of_methodNamed Bd.named
  have hnm := (name_of_methodNamed Bd.named Bd.method).1
  have hlk : meth.locks = false := BodyLoose.notSynchronized Bd
  have X0 : Stand p l e ({ frames := 1, cells := 0, slots := 0, locals := 16 } : Room) s m #[(.ref a1), (.long q2), (.long q3)] below meth c s₁ [] 0 0 := Stand.of_body Bd
  have e0 : s₁.heap = h0 := by rw [← hh, Bd.state]; rfl
  have N0 := Fr.nil n0
  show GG p e below s ({ frames := 1, cells := 0, slots := 0, locals := 16 } : Room).cells ({ frames := 1, cells := 0, slots := 0, locals := 16 } : Room).slots (Q4_1h Z a1 q2 q3 b1 b2 r0 r1 r2 r3 r4 r5 r6 r7 r8 r9 r10 r11 r12 r13 r14 r15 t0 t1 t2 t3 t4 t5 t6 t7 t8 t9 t10 t11 t12 t13 t14 t15 h0 n0) s₁ (entryFrame m #[(.ref a1), (.long q2), (.long q3)] 5)
  refine own_in (ef_4 m a1 q2 q3) ?_
  have K0 := Keep.refl h0 [a1, b1, b2]
  show GG _ _ _ _ _ _ _ s₁ (mkF m 0 #[.val (.ref a1), .val (.long q2), .second, .val (.long q3), .second] [])
  refine own_go (fun _ => XS.lloadN X0.here hx rfl (hb hby d4_0) rfl) ?_
  show GG _ _ _ _ _ _ _ s₁ (mkF m 1 #[.val (.ref a1), .val (.long q2), .second, .val (.long q3), .second] [(.long q3)])
  refine own_go (fun _ => XS.aloadN X0.here hx rfl (hb hby d4_1) rfl rfl) ?_
  show GG _ _ _ _ _ _ _ s₁ (mkF m 2 #[.val (.ref a1), .val (.long q2), .second, .val (.long q3), .second] [(.ref a1), (.long q3)])
  refine own_callP X0 hx hZ (y := (⟨"com/example/obliv/obliv/io/SegmentIndex", "lastPosition", "()J"⟩ : MethodName)) 2 hown (hw _ (List.mem_of_getElem? (i := 30) rfl)) (hw _ (List.mem_of_getElem? (i := 31) rfl)) (hw _ (List.mem_of_getElem? (i := 5) rfl)) (hw _ (List.mem_of_getElem? (i := 32) rfl)) (hw _ (List.mem_of_getElem? (i := 6) rfl)) (hw _ (List.mem_of_getElem? (i := 33) rfl)) (by decide) (a := a1) (argsL := []) (rest := [(.long q3)]) (rm5_1 l Z a0 hw [] a1 b2 t0 t1 t2 t3 t4 t5 t6 t7 t8 t9 t10 t11 t12 t13 t14 t15 h0 n0 Z0 F_s F_p V_p) (by decide) (by decide) (by decide) (by decide) E_o (g := (mkF m 2 #[.val (.ref a1), .val (.long q2), .second, .val (.long q3), .second] [(.ref a1), (.long q3)])) rfl (by rw [hml]; rfl) (lenOf pd___J_155 rfl) rfl (by show 2 * 0 + _ ≤ _; exact Nat.le_of_eq rfl) (hb hby d4_2) e0 ?_
  rintro v1 T1 L1 X1 ⟨rfl, N1q, hh1⟩
  have N1 := Fr.app N0 N1q
  show GG _ _ _ _ _ _ _ T1 (mkF m 5 #[.val (.ref a1), .val (.long q2), .second, .val (.long q3), .second] [(.long t0), (.long q3)])
  refine own_go (fun _ => XS.lsub X1.here hx rfl (hb hby d4_5) rfl) ?_
  show GG _ _ _ _ _ _ _ T1 (mkF m 6 #[.val (.ref a1), .val (.long q2), .second, .val (.long q3), .second] [(.long (q3 - t0))])
  refine own_go (fun _ => X1.ldc2Long hx hown (mvT hZ (hw _ (List.mem_of_getElem? (i := 34) rfl))) (g := (mkF m 6 #[.val (.ref a1), .val (.long q2), .second, .val (.long q3), .second] [(.long (q3 - t0))])) rfl (hb hby d4_6) _) ?_
  show GG _ _ _ _ _ _ _ T1 (mkF m 9 #[.val (.ref a1), .val (.long q2), .second, .val (.long q3), .second] [(.long (65536 : Int64)), (.long (q3 - t0))])
  refine own_go (fun _ => XS.lcmp X1.here hx rfl (hb hby d4_9) rfl) ?_
  show GG _ _ _ _ _ _ _ T1 (mkF m 10 #[.val (.ref a1), .val (.long q2), .second, .val (.long q3), .second] [(.int (lcmpW (q3 - t0) (65536 : Int64)))])
  have hc10 : ¬ ((q3 - t0) < (65536 : Int64)) := hadd
  refine own_go (fun _ => XS.ifNo X1.here hx rfl (hb hby d4_10) rfl ((if0 _ _).trans (flt (fun q => hc10 ((lw_lt _ _).mp q))).1)) ?_
  show GG _ _ _ _ _ _ _ T1 (mkF m 13 #[.val (.ref a1), .val (.long q2), .second, .val (.long q3), .second] [])
  refine own_go (fun _ => XS.aloadN X1.here hx rfl (hb hby d4_13) rfl rfl) ?_
  show GG _ _ _ _ _ _ _ T1 (mkF m 14 #[.val (.ref a1), .val (.long q2), .second, .val (.long q3), .second] [(.ref a1)])
  refine own_go (fun _ => XS.lloadN X1.here hx rfl (hb hby d4_14) rfl) ?_
  show GG _ _ _ _ _ _ _ T1 (mkF m 15 #[.val (.ref a1), .val (.long q2), .second, .val (.long q3), .second] [(.long q2), (.ref a1)])
  refine own_go (fun _ => XS.lloadN X1.here hx rfl (hb hby d4_15) rfl) ?_
  show GG _ _ _ _ _ _ _ T1 (mkF m 16 #[.val (.ref a1), .val (.long q2), .second, .val (.long q3), .second] [(.long q3), (.long q2), (.ref a1)])
  refine own_callP X1 hx hZ (y := (⟨"com/example/obliv/obliv/io/SegmentIndex", "hold", "(JJ)V"⟩ : MethodName)) 0 hown (hw _ (List.mem_of_getElem? (i := 19) rfl)) (hw _ (List.mem_of_getElem? (i := 20) rfl)) (hw _ (List.mem_of_getElem? (i := 5) rfl)) (hw _ (List.mem_of_getElem? (i := 21) rfl)) (hw _ (List.mem_of_getElem? (i := 6) rfl)) (hw _ (List.mem_of_getElem? (i := 22) rfl)) (by decide) (a := a1) (argsL := [(.long q2), (.long q3)]) (rest := []) (rm3_1 l Z a0 hw [] a1 q2 q3 b1 b2 r0 r1 r2 r3 r4 r5 r6 r7 r8 r9 r10 r11 r12 r13 r14 r15 t0 t1 t2 t3 t4 t5 t6 t7 t8 t9 t10 t11 t12 t13 t14 t15 h0 n0 Z0 E_o F_s F_r F_p V_r V_p n12 no1 no2 g_o g_1 g_2) (by decide) (by decide) (by decide) (by decide) E_o (g := (mkF m 16 #[.val (.ref a1), .val (.long q2), .second, .val (.long q3), .second] [(.long q3), (.long q2), (.ref a1)])) rfl (by rw [hml]; rfl) (lenOf pd__JJ_V_315 rfl) rfl (by show 2 * 0 + _ ≤ _; exact Nat.le_of_eq rfl) (hb hby d4_16) hh1 ?_
  rintro v2 T2 L2 X2 ⟨rfl, N2q, Kq2, Fs2, Fr2, Fp2, Vr2, Vp2⟩
  have N2 := Fr.app N1 N2q
  have E_o := E_o.keep Kq2
  have K0 := K0.trans Kq2 (allS (Or.inl (List.mem_of_getElem? (i := 0) rfl)) (allS (Or.inl (List.mem_of_getElem? (i := 1) rfl)) (allS (Or.inl (List.mem_of_getElem? (i := 2) rfl)) all0)))
  show GG _ _ _ _ _ _ _ T2 (mkF m 19 #[.val (.ref a1), .val (.long q2), .second, .val (.long q3), .second] [])
  refine own_retV X2 hx hlk Bd.returns (hb hby d4_19) (by decide) (by decide) ?_
  show Q4_1h Z a1 q2 q3 b1 b2 r0 r1 r2 r3 r4 r5 r6 r7 r8 r9 r10 r11 r12 r13 r14 r15 t0 t1 t2 t3 t4 t5 t6 t7 t8 t9 t10 t11 t12 t13 t14 t15 h0 n0 (none) T2.heap _
  exact ⟨rfl, N2, K0, Fs2, Fr2, Fp2, Vr2, Vp2⟩
def Q4_1x (Z : State) (a1 : Addr) (q2 : Int64) (q3 : Int64) (b1 b2 : Addr) (r0 r1 r2 r3 r4 r5 r6 r7 r8 r9 r10 r11 r12 r13 r14 r15 : Int64) (t0 t1 t2 t3 t4 t5 t6 t7 t8 t9 t10 t11 t12 t13 t14 t15 : Int64) (h0 : Heap) (n0 : Nat) (v : Option Value) (h : Heap) (L : List Loc) : Prop := v = none ∧ Fr n0 L ∧ h = h0
set_option maxRecDepth 65536 in
set_option maxHeartbeats 40000000 in
theorem rm4_1x (l : Launch) (Z : State) (a0 : Array Value) (hw : ∀ d ∈ tables_1, d.before a0 Z = true) (ws : List Jvm.Cond) (a1 : Addr) (q2 : Int64) (q3 : Int64) (b1 b2 : Addr) (r0 r1 r2 r3 r4 r5 r6 r7 r8 r9 r10 r11 r12 r13 r14 r15 : Int64) (t0 t1 t2 t3 t4 t5 t6 t7 t8 t9 t10 t11 t12 t13 t14 t15 : Int64) (h0 : Heap) (n0 : Nat) (Z0 : n0 ≤ h0.size) (hadd : (q3 - t0) < (65536 : Int64)) (E_o : Exa Z h0 a1 "com/example/obliv/obliv/io/SegmentIndex") (F_s : Fld Z h0 a1 "com/example/obliv/obliv/io/SegmentIndex" "size" "I" (.int (1 : Int32))) (F_r : Fld Z h0 a1 "com/example/obliv/obliv/io/SegmentIndex" "records" "[J" (.ref b1)) (F_p : Fld Z h0 a1 "com/example/obliv/obliv/io/SegmentIndex" "positions" "[J" (.ref b2)) (V_r : Arx Z h0 b1 .long [(.long r0), (.long r1), (.long r2), (.long r3), (.long r4), (.long r5), (.long r6), (.long r7), (.long r8), (.long r9), (.long r10), (.long r11), (.long r12), (.long r13), (.long r14), (.long r15)]) (V_p : Arx Z h0 b2 .long [(.long t0), (.long t1), (.long t2), (.long t3), (.long t4), (.long t5), (.long t6), (.long t7), (.long t8), (.long t9), (.long t10), (.long t11), (.long t12), (.long t13), (.long t14), (.long t15)]) (n12 : b1 ≠ b2) (no1 : a1 ≠ b1) (no2 : a1 ≠ b2) (g_o : n0 ≤ a1) (g_1 : n0 ≤ b1) (g_2 : n0 ≤ b2) :
    own_CT l Z (⟨"com/example/obliv/obliv/io/SegmentIndex", "add", "(JJ)V"⟩ : MethodName) prog_12_method_3_code 5 none ws ({ frames := 1, cells := 0, slots := 0, locals := 14 } : Room) #[(.ref a1), (.long q2), (.long q3)] h0 (Q4_1x Z a1 q2 q3 b1 b2 r0 r1 r2 r3 r4 r5 r6 r7 r8 r9 r10 r11 r12 r13 r14 r15 t0 t1 t2 t3 t4 t5 t6 t7 t8 t9 t10 t11 t12 t13 t14 t15 h0 n0) := by
  refine MetFree.of_bodySF (plainFor_of_name pn_com_example_obliv_obliv_io_SegmentIndex) hisR ?_
  intro p e s m args below meth c s₁ Bd hml0 hP hK
  obtain ⟨rfl, hZ, hh⟩ := hP
  have hx := Bd.exec
  have hby := Bd.bytes
  have hml : c.maxLocals = 5 := hml0
  have hown : s.vm.findClass "com/example/obliv/obliv/io/SegmentIndex" = some m.cls := findClass_of_methodNamed Bd.named
  have hnm := (name_of_methodNamed Bd.named Bd.method).1
  have hlk : meth.locks = false := BodyLoose.notSynchronized Bd
  have X0 : Stand p l e ({ frames := 1, cells := 0, slots := 0, locals := 14 } : Room) s m #[(.ref a1), (.long q2), (.long q3)] below meth c s₁ [] 0 0 := Stand.of_body Bd
  have e0 : s₁.heap = h0 := by rw [← hh, Bd.state]; rfl
  have N0 := Fr.nil n0
  show GG p e below s ({ frames := 1, cells := 0, slots := 0, locals := 14 } : Room).cells ({ frames := 1, cells := 0, slots := 0, locals := 14 } : Room).slots (Q4_1x Z a1 q2 q3 b1 b2 r0 r1 r2 r3 r4 r5 r6 r7 r8 r9 r10 r11 r12 r13 r14 r15 t0 t1 t2 t3 t4 t5 t6 t7 t8 t9 t10 t11 t12 t13 t14 t15 h0 n0) s₁ (entryFrame m #[(.ref a1), (.long q2), (.long q3)] 5)
  refine own_in (ef_4 m a1 q2 q3) ?_
  have K0 := Keep.refl h0 [a1, b1, b2]
  show GG _ _ _ _ _ _ _ s₁ (mkF m 0 #[.val (.ref a1), .val (.long q2), .second, .val (.long q3), .second] [])
  refine own_go (fun _ => XS.lloadN X0.here hx rfl (hb hby d4_0) rfl) ?_
  show GG _ _ _ _ _ _ _ s₁ (mkF m 1 #[.val (.ref a1), .val (.long q2), .second, .val (.long q3), .second] [(.long q3)])
  refine own_go (fun _ => XS.aloadN X0.here hx rfl (hb hby d4_1) rfl rfl) ?_
  show GG _ _ _ _ _ _ _ s₁ (mkF m 2 #[.val (.ref a1), .val (.long q2), .second, .val (.long q3), .second] [(.ref a1), (.long q3)])
  refine own_callP X0 hx hZ (y := (⟨"com/example/obliv/obliv/io/SegmentIndex", "lastPosition", "()J"⟩ : MethodName)) 2 hown (hw _ (List.mem_of_getElem? (i := 30) rfl)) (hw _ (List.mem_of_getElem? (i := 31) rfl)) (hw _ (List.mem_of_getElem? (i := 5) rfl)) (hw _ (List.mem_of_getElem? (i := 32) rfl)) (hw _ (List.mem_of_getElem? (i := 6) rfl)) (hw _ (List.mem_of_getElem? (i := 33) rfl)) (by decide) (a := a1) (argsL := []) (rest := [(.long q3)]) (rm5_1 l Z a0 hw [] a1 b2 t0 t1 t2 t3 t4 t5 t6 t7 t8 t9 t10 t11 t12 t13 t14 t15 h0 n0 Z0 F_s F_p V_p) (by decide) (by decide) (by decide) (by decide) E_o (g := (mkF m 2 #[.val (.ref a1), .val (.long q2), .second, .val (.long q3), .second] [(.ref a1), (.long q3)])) rfl (by rw [hml]; rfl) (lenOf pd___J_155 rfl) rfl (by show 2 * 0 + _ ≤ _; exact Nat.le_of_eq rfl) (hb hby d4_2) e0 ?_
  rintro v1 T1 L1 X1 ⟨rfl, N1q, hh1⟩
  have N1 := Fr.app N0 N1q
  show GG _ _ _ _ _ _ _ T1 (mkF m 5 #[.val (.ref a1), .val (.long q2), .second, .val (.long q3), .second] [(.long t0), (.long q3)])
  refine own_go (fun _ => XS.lsub X1.here hx rfl (hb hby d4_5) rfl) ?_
  show GG _ _ _ _ _ _ _ T1 (mkF m 6 #[.val (.ref a1), .val (.long q2), .second, .val (.long q3), .second] [(.long (q3 - t0))])
  refine own_go (fun _ => X1.ldc2Long hx hown (mvT hZ (hw _ (List.mem_of_getElem? (i := 34) rfl))) (g := (mkF m 6 #[.val (.ref a1), .val (.long q2), .second, .val (.long q3), .second] [(.long (q3 - t0))])) rfl (hb hby d4_6) _) ?_
  show GG _ _ _ _ _ _ _ T1 (mkF m 9 #[.val (.ref a1), .val (.long q2), .second, .val (.long q3), .second] [(.long (65536 : Int64)), (.long (q3 - t0))])
  refine own_go (fun _ => XS.lcmp X1.here hx rfl (hb hby d4_9) rfl) ?_
  show GG _ _ _ _ _ _ _ T1 (mkF m 10 #[.val (.ref a1), .val (.long q2), .second, .val (.long q3), .second] [(.int (lcmpW (q3 - t0) (65536 : Int64)))])
  have hc10 : (q3 - t0) < (65536 : Int64) := hadd
  refine own_go (fun _ => XS.ifYes X1.here hx rfl (pc0 := 10) (pc' := 19) rfl (hb hby d4_10) rfl ((if0 _ _).trans (tlt ((lw_lt _ _).mpr hc10)).1) (by decide) (by decide)) ?_
  show GG _ _ _ _ _ _ _ T1 (mkF m 19 #[.val (.ref a1), .val (.long q2), .second, .val (.long q3), .second] [])
  refine own_retV X1 hx hlk Bd.returns (hb hby d4_19) (by decide) (by decide) ?_
  show Q4_1x Z a1 q2 q3 b1 b2 r0 r1 r2 r3 r4 r5 r6 r7 r8 r9 r10 r11 r12 r13 r14 r15 t0 t1 t2 t3 t4 t5 t6 t7 t8 t9 t10 t11 t12 t13 t14 t15 h0 n0 (none) T1.heap _
  rw [hh1]
  exact ⟨rfl, N1, rfl⟩
def Q5_2 (Z : State) (a1 : Addr) (b2 : Addr) (t0 t1 t2 t3 t4 t5 t6 t7 t8 t9 t10 t11 t12 t13 t14 t15 : Int64) (h0 : Heap) (n0 : Nat) (v : Option Value) (h : Heap) (L : List Loc) : Prop := v = some (.long t1) ∧ Fr n0 L ∧ h = h0
set_option maxRecDepth 65536 in
set_option maxHeartbeats 40000000 in
theorem rm5_2 (l : Launch) (Z : State) (a0 : Array Value) (hw : ∀ d ∈ tables_1, d.before a0 Z = true) (ws : List Jvm.Cond) (a1 : Addr) (b2 : Addr) (t0 t1 t2 t3 t4 t5 t6 t7 t8 t9 t10 t11 t12 t13 t14 t15 : Int64) (h0 : Heap) (n0 : Nat) (Z0 : n0 ≤ h0.size) (F_s : Fld Z h0 a1 "com/example/obliv/obliv/io/SegmentIndex" "size" "I" (.int (2 : Int32))) (F_p : Fld Z h0 a1 "com/example/obliv/obliv/io/SegmentIndex" "positions" "[J" (.ref b2)) (V_p : Arx Z h0 b2 .long [(.long t0), (.long t1), (.long t2), (.long t3), (.long t4), (.long t5), (.long t6), (.long t7), (.long t8), (.long t9), (.long t10), (.long t11), (.long t12), (.long t13), (.long t14), (.long t15)]) :
    own_CT l Z (⟨"com/example/obliv/obliv/io/SegmentIndex", "lastPosition", "()J"⟩ : MethodName) prog_12_method_9_code 1 (some .long) ws ({ frames := 0, cells := 0, slots := 0, locals := 0 } : Room) #[(.ref a1)] h0 (Q5_2 Z a1 b2 t0 t1 t2 t3 t4 t5 t6 t7 t8 t9 t10 t11 t12 t13 t14 t15 h0 n0) := by
  refine MetFree.of_bodySF (plainFor_of_name pn_com_example_obliv_obliv_io_SegmentIndex) hisR ?_
  intro p e s m args below meth c s₁ Bd hml0 hP hK
  obtain ⟨rfl, hZ, hh⟩ := hP
  have hx := Bd.exec
  have hby := Bd.bytes
  have hml : c.maxLocals = 1 := hml0
  have hown : s.vm.findClass "com/example/obliv/obliv/io/SegmentIndex" = some m.cls := findClass_of_methodNamed Bd.named
  have hnm := (name_of_methodNamed Bd.named Bd.method).1
  have hlk : meth.locks = false := BodyLoose.notSynchronized Bd
  have X0 : Stand p l e ({ frames := 0, cells := 0, slots := 0, locals := 0 } : Room) s m #[(.ref a1)] below meth c s₁ [] 0 0 := Stand.of_body Bd
  have e0 : s₁.heap = h0 := by rw [← hh, Bd.state]; rfl
  have N0 := Fr.nil n0
  show GG p e below s ({ frames := 0, cells := 0, slots := 0, locals := 0 } : Room).cells ({ frames := 0, cells := 0, slots := 0, locals := 0 } : Room).slots (Q5_2 Z a1 b2 t0 t1 t2 t3 t4 t5 t6 t7 t8 t9 t10 t11 t12 t13 t14 t15 h0 n0) s₁ (entryFrame m #[(.ref a1)] 1)
  refine own_in (ef_5 m a1) ?_
  show GG _ _ _ _ _ _ _ s₁ (mkF m 0 #[.val (.ref a1)] [])
  refine own_go (fun _ => XS.aloadN X0.here hx rfl (hb hby d5_0) rfl rfl) ?_
  show GG _ _ _ _ _ _ _ s₁ (mkF m 1 #[.val (.ref a1)] [(.ref a1)])
  obtain ⟨T1, X1, e1, st1⟩ := getF X0 hx hZ hown (host := "") (Or.inl (hw _ (List.mem_of_getElem? (i := 16) rfl))) Via.refl e0 F_p (g := (mkF m 1 #[.val (.ref a1)] [(.ref a1)])) rfl rfl (hb hby d5_1)
  refine own_go (fun _ => st1 _) ?_
  show GG _ _ _ _ _ _ _ T1 (mkF m 4 #[.val (.ref a1)] [(.ref b2)])
  refine own_go (fun _ => XS.aloadN X1.here hx rfl (hb hby d5_4) rfl rfl) ?_
  show GG _ _ _ _ _ _ _ T1 (mkF m 5 #[.val (.ref a1)] [(.ref a1), (.ref b2)])
  obtain ⟨T2, X2, e2, st2⟩ := getF X1 hx hZ hown (host := "") (Or.inl (hw _ (List.mem_of_getElem? (i := 23) rfl))) Via.refl e1 F_s (g := (mkF m 5 #[.val (.ref a1)] [(.ref a1), (.ref b2)])) rfl rfl (hb hby d5_5)
  refine own_go (fun _ => st2 _) ?_
  show GG _ _ _ _ _ _ _ T2 (mkF m 8 #[.val (.ref a1)] [(.int (2 : Int32)), (.ref b2)])
  refine own_go (fun _ => XS.iconst X2.here hx rfl (hb hby d5_8)) ?_
  show GG _ _ _ _ _ _ _ T2 (mkF m 9 #[.val (.ref a1)] [(.int (1 : Int32)), (.int (2 : Int32)), (.ref b2)])
  refine own_go (fun _ => XS.isub X2.here hx rfl (hb hby d5_9) rfl) ?_
  show GG _ _ _ _ _ _ _ T2 (mkF m 10 #[.val (.ref a1)] [(.int (1 : Int32)), (.ref b2)])
  refine own_go (fun _ => own_laload X2 hx hZ e2 V_p (j := (1 : Int32)) (v := (.long t1)) (by decide) rfl (g := (mkF m 10 #[.val (.ref a1)] [(.int (1 : Int32)), (.ref b2)])) rfl rfl (hb hby d5_10) _) ?_
  show GG _ _ _ _ _ _ _ T2 (mkF m 11 #[.val (.ref a1)] [(.long t1)])
  refine own_ret X2 hx hlk (t := .long) (w := (.long t1)) Bd.returns rfl (Or.inr (Or.inl ⟨rfl, rfl, _, rfl⟩)) (hb hby d5_11) (by decide) (by decide) ?_
  show Q5_2 Z a1 b2 t0 t1 t2 t3 t4 t5 t6 t7 t8 t9 t10 t11 t12 t13 t14 t15 h0 n0 (some (.long t1)) T2.heap _
  rw [e2]
  exact ⟨rfl, N0, rfl⟩
def Q4_2h (Z : State) (a1 : Addr) (q2 : Int64) (q3 : Int64) (b1 b2 : Addr) (r0 r1 r2 r3 r4 r5 r6 r7 r8 r9 r10 r11 r12 r13 r14 r15 : Int64) (t0 t1 t2 t3 t4 t5 t6 t7 t8 t9 t10 t11 t12 t13 t14 t15 : Int64) (h0 : Heap) (n0 : Nat) (v : Option Value) (h : Heap) (L : List Loc) : Prop := v = none ∧ Fr n0 L ∧ Keep h0 h [a1, b1, b2] ∧ Fld Z h a1 "com/example/obliv/obliv/io/SegmentIndex" "size" "I" (.int (3 : Int32)) ∧ Fld Z h a1 "com/example/obliv/obliv/io/SegmentIndex" "records" "[J" (.ref b1) ∧ Fld Z h a1 "com/example/obliv/obliv/io/SegmentIndex" "positions" "[J" (.ref b2) ∧ Arx Z h b1 .long [(.long r0), (.long r1), (.long q2), (.long r3), (.long r4), (.long r5), (.long r6), (.long r7), (.long r8), (.long r9), (.long r10), (.long r11), (.long r12), (.long r13), (.long r14), (.long r15)] ∧ Arx Z h b2 .long [(.long t0), (.long t1), (.long q3), (.long t3), (.long t4), (.long t5), (.long t6), (.long t7), (.long t8), (.long t9), (.long t10), (.long t11), (.long t12), (.long t13), (.long t14), (.long t15)]
set_option maxRecDepth 65536 in
set_option maxHeartbeats 40000000 in
theorem rm4_2h (l : Launch) (Z : State) (a0 : Array Value) (hw : ∀ d ∈ tables_1, d.before a0 Z = true) (ws : List Jvm.Cond) (a1 : Addr) (q2 : Int64) (q3 : Int64) (b1 b2 : Addr) (r0 r1 r2 r3 r4 r5 r6 r7 r8 r9 r10 r11 r12 r13 r14 r15 : Int64) (t0 t1 t2 t3 t4 t5 t6 t7 t8 t9 t10 t11 t12 t13 t14 t15 : Int64) (h0 : Heap) (n0 : Nat) (Z0 : n0 ≤ h0.size) (hadd : ¬ ((q3 - t1) < (65536 : Int64))) (E_o : Exa Z h0 a1 "com/example/obliv/obliv/io/SegmentIndex") (F_s : Fld Z h0 a1 "com/example/obliv/obliv/io/SegmentIndex" "size" "I" (.int (2 : Int32))) (F_r : Fld Z h0 a1 "com/example/obliv/obliv/io/SegmentIndex" "records" "[J" (.ref b1)) (F_p : Fld Z h0 a1 "com/example/obliv/obliv/io/SegmentIndex" "positions" "[J" (.ref b2)) (V_r : Arx Z h0 b1 .long [(.long r0), (.long r1), (.long r2), (.long r3), (.long r4), (.long r5), (.long r6), (.long r7), (.long r8), (.long r9), (.long r10), (.long r11), (.long r12), (.long r13), (.long r14), (.long r15)]) (V_p : Arx Z h0 b2 .long [(.long t0), (.long t1), (.long t2), (.long t3), (.long t4), (.long t5), (.long t6), (.long t7), (.long t8), (.long t9), (.long t10), (.long t11), (.long t12), (.long t13), (.long t14), (.long t15)]) (n12 : b1 ≠ b2) (no1 : a1 ≠ b1) (no2 : a1 ≠ b2) (g_o : n0 ≤ a1) (g_1 : n0 ≤ b1) (g_2 : n0 ≤ b2) :
    own_CT l Z (⟨"com/example/obliv/obliv/io/SegmentIndex", "add", "(JJ)V"⟩ : MethodName) prog_12_method_3_code 5 none ws ({ frames := 1, cells := 0, slots := 0, locals := 16 } : Room) #[(.ref a1), (.long q2), (.long q3)] h0 (Q4_2h Z a1 q2 q3 b1 b2 r0 r1 r2 r3 r4 r5 r6 r7 r8 r9 r10 r11 r12 r13 r14 r15 t0 t1 t2 t3 t4 t5 t6 t7 t8 t9 t10 t11 t12 t13 t14 t15 h0 n0) := by
  refine MetFree.of_bodySF (plainFor_of_name pn_com_example_obliv_obliv_io_SegmentIndex) hisR ?_
  intro p e s m args below meth c s₁ Bd hml0 hP hK
  obtain ⟨rfl, hZ, hh⟩ := hP
  have hx := Bd.exec
  have hby := Bd.bytes
  have hml : c.maxLocals = 5 := hml0
  have hown : s.vm.findClass "com/example/obliv/obliv/io/SegmentIndex" = some m.cls := findClass_of_methodNamed Bd.named
  have hnm := (name_of_methodNamed Bd.named Bd.method).1
  have hlk : meth.locks = false := BodyLoose.notSynchronized Bd
  have X0 : Stand p l e ({ frames := 1, cells := 0, slots := 0, locals := 16 } : Room) s m #[(.ref a1), (.long q2), (.long q3)] below meth c s₁ [] 0 0 := Stand.of_body Bd
  have e0 : s₁.heap = h0 := by rw [← hh, Bd.state]; rfl
  have N0 := Fr.nil n0
  show GG p e below s ({ frames := 1, cells := 0, slots := 0, locals := 16 } : Room).cells ({ frames := 1, cells := 0, slots := 0, locals := 16 } : Room).slots (Q4_2h Z a1 q2 q3 b1 b2 r0 r1 r2 r3 r4 r5 r6 r7 r8 r9 r10 r11 r12 r13 r14 r15 t0 t1 t2 t3 t4 t5 t6 t7 t8 t9 t10 t11 t12 t13 t14 t15 h0 n0) s₁ (entryFrame m #[(.ref a1), (.long q2), (.long q3)] 5)
  refine own_in (ef_4 m a1 q2 q3) ?_
  have K0 := Keep.refl h0 [a1, b1, b2]
  show GG _ _ _ _ _ _ _ s₁ (mkF m 0 #[.val (.ref a1), .val (.long q2), .second, .val (.long q3), .second] [])
  refine own_go (fun _ => XS.lloadN X0.here hx rfl (hb hby d4_0) rfl) ?_
  show GG _ _ _ _ _ _ _ s₁ (mkF m 1 #[.val (.ref a1), .val (.long q2), .second, .val (.long q3), .second] [(.long q3)])
  refine own_go (fun _ => XS.aloadN X0.here hx rfl (hb hby d4_1) rfl rfl) ?_
  show GG _ _ _ _ _ _ _ s₁ (mkF m 2 #[.val (.ref a1), .val (.long q2), .second, .val (.long q3), .second] [(.ref a1), (.long q3)])
  refine own_callP X0 hx hZ (y := (⟨"com/example/obliv/obliv/io/SegmentIndex", "lastPosition", "()J"⟩ : MethodName)) 2 hown (hw _ (List.mem_of_getElem? (i := 30) rfl)) (hw _ (List.mem_of_getElem? (i := 31) rfl)) (hw _ (List.mem_of_getElem? (i := 5) rfl)) (hw _ (List.mem_of_getElem? (i := 32) rfl)) (hw _ (List.mem_of_getElem? (i := 6) rfl)) (hw _ (List.mem_of_getElem? (i := 33) rfl)) (by decide) (a := a1) (argsL := []) (rest := [(.long q3)]) (rm5_2 l Z a0 hw [] a1 b2 t0 t1 t2 t3 t4 t5 t6 t7 t8 t9 t10 t11 t12 t13 t14 t15 h0 n0 Z0 F_s F_p V_p) (by decide) (by decide) (by decide) (by decide) E_o (g := (mkF m 2 #[.val (.ref a1), .val (.long q2), .second, .val (.long q3), .second] [(.ref a1), (.long q3)])) rfl (by rw [hml]; rfl) (lenOf pd___J_155 rfl) rfl (by show 2 * 0 + _ ≤ _; exact Nat.le_of_eq rfl) (hb hby d4_2) e0 ?_
  rintro v1 T1 L1 X1 ⟨rfl, N1q, hh1⟩
  have N1 := Fr.app N0 N1q
  show GG _ _ _ _ _ _ _ T1 (mkF m 5 #[.val (.ref a1), .val (.long q2), .second, .val (.long q3), .second] [(.long t1), (.long q3)])
  refine own_go (fun _ => XS.lsub X1.here hx rfl (hb hby d4_5) rfl) ?_
  show GG _ _ _ _ _ _ _ T1 (mkF m 6 #[.val (.ref a1), .val (.long q2), .second, .val (.long q3), .second] [(.long (q3 - t1))])
  refine own_go (fun _ => X1.ldc2Long hx hown (mvT hZ (hw _ (List.mem_of_getElem? (i := 34) rfl))) (g := (mkF m 6 #[.val (.ref a1), .val (.long q2), .second, .val (.long q3), .second] [(.long (q3 - t1))])) rfl (hb hby d4_6) _) ?_
  show GG _ _ _ _ _ _ _ T1 (mkF m 9 #[.val (.ref a1), .val (.long q2), .second, .val (.long q3), .second] [(.long (65536 : Int64)), (.long (q3 - t1))])
  refine own_go (fun _ => XS.lcmp X1.here hx rfl (hb hby d4_9) rfl) ?_
  show GG _ _ _ _ _ _ _ T1 (mkF m 10 #[.val (.ref a1), .val (.long q2), .second, .val (.long q3), .second] [(.int (lcmpW (q3 - t1) (65536 : Int64)))])
  have hc10 : ¬ ((q3 - t1) < (65536 : Int64)) := hadd
  refine own_go (fun _ => XS.ifNo X1.here hx rfl (hb hby d4_10) rfl ((if0 _ _).trans (flt (fun q => hc10 ((lw_lt _ _).mp q))).1)) ?_
  show GG _ _ _ _ _ _ _ T1 (mkF m 13 #[.val (.ref a1), .val (.long q2), .second, .val (.long q3), .second] [])
  refine own_go (fun _ => XS.aloadN X1.here hx rfl (hb hby d4_13) rfl rfl) ?_
  show GG _ _ _ _ _ _ _ T1 (mkF m 14 #[.val (.ref a1), .val (.long q2), .second, .val (.long q3), .second] [(.ref a1)])
  refine own_go (fun _ => XS.lloadN X1.here hx rfl (hb hby d4_14) rfl) ?_
  show GG _ _ _ _ _ _ _ T1 (mkF m 15 #[.val (.ref a1), .val (.long q2), .second, .val (.long q3), .second] [(.long q2), (.ref a1)])
  refine own_go (fun _ => XS.lloadN X1.here hx rfl (hb hby d4_15) rfl) ?_
  show GG _ _ _ _ _ _ _ T1 (mkF m 16 #[.val (.ref a1), .val (.long q2), .second, .val (.long q3), .second] [(.long q3), (.long q2), (.ref a1)])
  refine own_callP X1 hx hZ (y := (⟨"com/example/obliv/obliv/io/SegmentIndex", "hold", "(JJ)V"⟩ : MethodName)) 0 hown (hw _ (List.mem_of_getElem? (i := 19) rfl)) (hw _ (List.mem_of_getElem? (i := 20) rfl)) (hw _ (List.mem_of_getElem? (i := 5) rfl)) (hw _ (List.mem_of_getElem? (i := 21) rfl)) (hw _ (List.mem_of_getElem? (i := 6) rfl)) (hw _ (List.mem_of_getElem? (i := 22) rfl)) (by decide) (a := a1) (argsL := [(.long q2), (.long q3)]) (rest := []) (rm3_2 l Z a0 hw [] a1 q2 q3 b1 b2 r0 r1 r2 r3 r4 r5 r6 r7 r8 r9 r10 r11 r12 r13 r14 r15 t0 t1 t2 t3 t4 t5 t6 t7 t8 t9 t10 t11 t12 t13 t14 t15 h0 n0 Z0 E_o F_s F_r F_p V_r V_p n12 no1 no2 g_o g_1 g_2) (by decide) (by decide) (by decide) (by decide) E_o (g := (mkF m 16 #[.val (.ref a1), .val (.long q2), .second, .val (.long q3), .second] [(.long q3), (.long q2), (.ref a1)])) rfl (by rw [hml]; rfl) (lenOf pd__JJ_V_315 rfl) rfl (by show 2 * 0 + _ ≤ _; exact Nat.le_of_eq rfl) (hb hby d4_16) hh1 ?_
  rintro v2 T2 L2 X2 ⟨rfl, N2q, Kq2, Fs2, Fr2, Fp2, Vr2, Vp2⟩
  have N2 := Fr.app N1 N2q
  have E_o := E_o.keep Kq2
  have K0 := K0.trans Kq2 (allS (Or.inl (List.mem_of_getElem? (i := 0) rfl)) (allS (Or.inl (List.mem_of_getElem? (i := 1) rfl)) (allS (Or.inl (List.mem_of_getElem? (i := 2) rfl)) all0)))
  show GG _ _ _ _ _ _ _ T2 (mkF m 19 #[.val (.ref a1), .val (.long q2), .second, .val (.long q3), .second] [])
  refine own_retV X2 hx hlk Bd.returns (hb hby d4_19) (by decide) (by decide) ?_
  show Q4_2h Z a1 q2 q3 b1 b2 r0 r1 r2 r3 r4 r5 r6 r7 r8 r9 r10 r11 r12 r13 r14 r15 t0 t1 t2 t3 t4 t5 t6 t7 t8 t9 t10 t11 t12 t13 t14 t15 h0 n0 (none) T2.heap _
  exact ⟨rfl, N2, K0, Fs2, Fr2, Fp2, Vr2, Vp2⟩
def Q4_2x (Z : State) (a1 : Addr) (q2 : Int64) (q3 : Int64) (b1 b2 : Addr) (r0 r1 r2 r3 r4 r5 r6 r7 r8 r9 r10 r11 r12 r13 r14 r15 : Int64) (t0 t1 t2 t3 t4 t5 t6 t7 t8 t9 t10 t11 t12 t13 t14 t15 : Int64) (h0 : Heap) (n0 : Nat) (v : Option Value) (h : Heap) (L : List Loc) : Prop := v = none ∧ Fr n0 L ∧ h = h0
set_option maxRecDepth 65536 in
set_option maxHeartbeats 40000000 in
theorem rm4_2x (l : Launch) (Z : State) (a0 : Array Value) (hw : ∀ d ∈ tables_1, d.before a0 Z = true) (ws : List Jvm.Cond) (a1 : Addr) (q2 : Int64) (q3 : Int64) (b1 b2 : Addr) (r0 r1 r2 r3 r4 r5 r6 r7 r8 r9 r10 r11 r12 r13 r14 r15 : Int64) (t0 t1 t2 t3 t4 t5 t6 t7 t8 t9 t10 t11 t12 t13 t14 t15 : Int64) (h0 : Heap) (n0 : Nat) (Z0 : n0 ≤ h0.size) (hadd : (q3 - t1) < (65536 : Int64)) (E_o : Exa Z h0 a1 "com/example/obliv/obliv/io/SegmentIndex") (F_s : Fld Z h0 a1 "com/example/obliv/obliv/io/SegmentIndex" "size" "I" (.int (2 : Int32))) (F_r : Fld Z h0 a1 "com/example/obliv/obliv/io/SegmentIndex" "records" "[J" (.ref b1)) (F_p : Fld Z h0 a1 "com/example/obliv/obliv/io/SegmentIndex" "positions" "[J" (.ref b2)) (V_r : Arx Z h0 b1 .long [(.long r0), (.long r1), (.long r2), (.long r3), (.long r4), (.long r5), (.long r6), (.long r7), (.long r8), (.long r9), (.long r10), (.long r11), (.long r12), (.long r13), (.long r14), (.long r15)]) (V_p : Arx Z h0 b2 .long [(.long t0), (.long t1), (.long t2), (.long t3), (.long t4), (.long t5), (.long t6), (.long t7), (.long t8), (.long t9), (.long t10), (.long t11), (.long t12), (.long t13), (.long t14), (.long t15)]) (n12 : b1 ≠ b2) (no1 : a1 ≠ b1) (no2 : a1 ≠ b2) (g_o : n0 ≤ a1) (g_1 : n0 ≤ b1) (g_2 : n0 ≤ b2) :
    own_CT l Z (⟨"com/example/obliv/obliv/io/SegmentIndex", "add", "(JJ)V"⟩ : MethodName) prog_12_method_3_code 5 none ws ({ frames := 1, cells := 0, slots := 0, locals := 14 } : Room) #[(.ref a1), (.long q2), (.long q3)] h0 (Q4_2x Z a1 q2 q3 b1 b2 r0 r1 r2 r3 r4 r5 r6 r7 r8 r9 r10 r11 r12 r13 r14 r15 t0 t1 t2 t3 t4 t5 t6 t7 t8 t9 t10 t11 t12 t13 t14 t15 h0 n0) := by
  refine MetFree.of_bodySF (plainFor_of_name pn_com_example_obliv_obliv_io_SegmentIndex) hisR ?_
  intro p e s m args below meth c s₁ Bd hml0 hP hK
  obtain ⟨rfl, hZ, hh⟩ := hP
  have hx := Bd.exec
  have hby := Bd.bytes
  have hml : c.maxLocals = 5 := hml0
  have hown : s.vm.findClass "com/example/obliv/obliv/io/SegmentIndex" = some m.cls := findClass_of_methodNamed Bd.named
  have hnm := (name_of_methodNamed Bd.named Bd.method).1
  have hlk : meth.locks = false := BodyLoose.notSynchronized Bd
  have X0 : Stand p l e ({ frames := 1, cells := 0, slots := 0, locals := 14 } : Room) s m #[(.ref a1), (.long q2), (.long q3)] below meth c s₁ [] 0 0 := Stand.of_body Bd
  have e0 : s₁.heap = h0 := by rw [← hh, Bd.state]; rfl
  have N0 := Fr.nil n0
  show GG p e below s ({ frames := 1, cells := 0, slots := 0, locals := 14 } : Room).cells ({ frames := 1, cells := 0, slots := 0, locals := 14 } : Room).slots (Q4_2x Z a1 q2 q3 b1 b2 r0 r1 r2 r3 r4 r5 r6 r7 r8 r9 r10 r11 r12 r13 r14 r15 t0 t1 t2 t3 t4 t5 t6 t7 t8 t9 t10 t11 t12 t13 t14 t15 h0 n0) s₁ (entryFrame m #[(.ref a1), (.long q2), (.long q3)] 5)
  refine own_in (ef_4 m a1 q2 q3) ?_
  have K0 := Keep.refl h0 [a1, b1, b2]
  show GG _ _ _ _ _ _ _ s₁ (mkF m 0 #[.val (.ref a1), .val (.long q2), .second, .val (.long q3), .second] [])
  refine own_go (fun _ => XS.lloadN X0.here hx rfl (hb hby d4_0) rfl) ?_
  show GG _ _ _ _ _ _ _ s₁ (mkF m 1 #[.val (.ref a1), .val (.long q2), .second, .val (.long q3), .second] [(.long q3)])
  refine own_go (fun _ => XS.aloadN X0.here hx rfl (hb hby d4_1) rfl rfl) ?_
  show GG _ _ _ _ _ _ _ s₁ (mkF m 2 #[.val (.ref a1), .val (.long q2), .second, .val (.long q3), .second] [(.ref a1), (.long q3)])
  refine own_callP X0 hx hZ (y := (⟨"com/example/obliv/obliv/io/SegmentIndex", "lastPosition", "()J"⟩ : MethodName)) 2 hown (hw _ (List.mem_of_getElem? (i := 30) rfl)) (hw _ (List.mem_of_getElem? (i := 31) rfl)) (hw _ (List.mem_of_getElem? (i := 5) rfl)) (hw _ (List.mem_of_getElem? (i := 32) rfl)) (hw _ (List.mem_of_getElem? (i := 6) rfl)) (hw _ (List.mem_of_getElem? (i := 33) rfl)) (by decide) (a := a1) (argsL := []) (rest := [(.long q3)]) (rm5_2 l Z a0 hw [] a1 b2 t0 t1 t2 t3 t4 t5 t6 t7 t8 t9 t10 t11 t12 t13 t14 t15 h0 n0 Z0 F_s F_p V_p) (by decide) (by decide) (by decide) (by decide) E_o (g := (mkF m 2 #[.val (.ref a1), .val (.long q2), .second, .val (.long q3), .second] [(.ref a1), (.long q3)])) rfl (by rw [hml]; rfl) (lenOf pd___J_155 rfl) rfl (by show 2 * 0 + _ ≤ _; exact Nat.le_of_eq rfl) (hb hby d4_2) e0 ?_
  rintro v1 T1 L1 X1 ⟨rfl, N1q, hh1⟩
  have N1 := Fr.app N0 N1q
  show GG _ _ _ _ _ _ _ T1 (mkF m 5 #[.val (.ref a1), .val (.long q2), .second, .val (.long q3), .second] [(.long t1), (.long q3)])
  refine own_go (fun _ => XS.lsub X1.here hx rfl (hb hby d4_5) rfl) ?_
  show GG _ _ _ _ _ _ _ T1 (mkF m 6 #[.val (.ref a1), .val (.long q2), .second, .val (.long q3), .second] [(.long (q3 - t1))])
  refine own_go (fun _ => X1.ldc2Long hx hown (mvT hZ (hw _ (List.mem_of_getElem? (i := 34) rfl))) (g := (mkF m 6 #[.val (.ref a1), .val (.long q2), .second, .val (.long q3), .second] [(.long (q3 - t1))])) rfl (hb hby d4_6) _) ?_
  show GG _ _ _ _ _ _ _ T1 (mkF m 9 #[.val (.ref a1), .val (.long q2), .second, .val (.long q3), .second] [(.long (65536 : Int64)), (.long (q3 - t1))])
  refine own_go (fun _ => XS.lcmp X1.here hx rfl (hb hby d4_9) rfl) ?_
  show GG _ _ _ _ _ _ _ T1 (mkF m 10 #[.val (.ref a1), .val (.long q2), .second, .val (.long q3), .second] [(.int (lcmpW (q3 - t1) (65536 : Int64)))])
  have hc10 : (q3 - t1) < (65536 : Int64) := hadd
  refine own_go (fun _ => XS.ifYes X1.here hx rfl (pc0 := 10) (pc' := 19) rfl (hb hby d4_10) rfl ((if0 _ _).trans (tlt ((lw_lt _ _).mpr hc10)).1) (by decide) (by decide)) ?_
  show GG _ _ _ _ _ _ _ T1 (mkF m 19 #[.val (.ref a1), .val (.long q2), .second, .val (.long q3), .second] [])
  refine own_retV X1 hx hlk Bd.returns (hb hby d4_19) (by decide) (by decide) ?_
  show Q4_2x Z a1 q2 q3 b1 b2 r0 r1 r2 r3 r4 r5 r6 r7 r8 r9 r10 r11 r12 r13 r14 r15 t0 t1 t2 t3 t4 t5 t6 t7 t8 t9 t10 t11 t12 t13 t14 t15 h0 n0 (none) T1.heap _
  rw [hh1]
  exact ⟨rfl, N1, rfl⟩
def Q5_3 (Z : State) (a1 : Addr) (b2 : Addr) (t0 t1 t2 t3 t4 t5 t6 t7 t8 t9 t10 t11 t12 t13 t14 t15 : Int64) (h0 : Heap) (n0 : Nat) (v : Option Value) (h : Heap) (L : List Loc) : Prop := v = some (.long t2) ∧ Fr n0 L ∧ h = h0
set_option maxRecDepth 65536 in
set_option maxHeartbeats 40000000 in
theorem rm5_3 (l : Launch) (Z : State) (a0 : Array Value) (hw : ∀ d ∈ tables_1, d.before a0 Z = true) (ws : List Jvm.Cond) (a1 : Addr) (b2 : Addr) (t0 t1 t2 t3 t4 t5 t6 t7 t8 t9 t10 t11 t12 t13 t14 t15 : Int64) (h0 : Heap) (n0 : Nat) (Z0 : n0 ≤ h0.size) (F_s : Fld Z h0 a1 "com/example/obliv/obliv/io/SegmentIndex" "size" "I" (.int (3 : Int32))) (F_p : Fld Z h0 a1 "com/example/obliv/obliv/io/SegmentIndex" "positions" "[J" (.ref b2)) (V_p : Arx Z h0 b2 .long [(.long t0), (.long t1), (.long t2), (.long t3), (.long t4), (.long t5), (.long t6), (.long t7), (.long t8), (.long t9), (.long t10), (.long t11), (.long t12), (.long t13), (.long t14), (.long t15)]) :
    own_CT l Z (⟨"com/example/obliv/obliv/io/SegmentIndex", "lastPosition", "()J"⟩ : MethodName) prog_12_method_9_code 1 (some .long) ws ({ frames := 0, cells := 0, slots := 0, locals := 0 } : Room) #[(.ref a1)] h0 (Q5_3 Z a1 b2 t0 t1 t2 t3 t4 t5 t6 t7 t8 t9 t10 t11 t12 t13 t14 t15 h0 n0) := by
  refine MetFree.of_bodySF (plainFor_of_name pn_com_example_obliv_obliv_io_SegmentIndex) hisR ?_
  intro p e s m args below meth c s₁ Bd hml0 hP hK
  obtain ⟨rfl, hZ, hh⟩ := hP
  have hx := Bd.exec
  have hby := Bd.bytes
  have hml : c.maxLocals = 1 := hml0
  have hown : s.vm.findClass "com/example/obliv/obliv/io/SegmentIndex" = some m.cls := findClass_of_methodNamed Bd.named
  have hnm := (name_of_methodNamed Bd.named Bd.method).1
  have hlk : meth.locks = false := BodyLoose.notSynchronized Bd
  have X0 : Stand p l e ({ frames := 0, cells := 0, slots := 0, locals := 0 } : Room) s m #[(.ref a1)] below meth c s₁ [] 0 0 := Stand.of_body Bd
  have e0 : s₁.heap = h0 := by rw [← hh, Bd.state]; rfl
  have N0 := Fr.nil n0
  show GG p e below s ({ frames := 0, cells := 0, slots := 0, locals := 0 } : Room).cells ({ frames := 0, cells := 0, slots := 0, locals := 0 } : Room).slots (Q5_3 Z a1 b2 t0 t1 t2 t3 t4 t5 t6 t7 t8 t9 t10 t11 t12 t13 t14 t15 h0 n0) s₁ (entryFrame m #[(.ref a1)] 1)
  refine own_in (ef_5 m a1) ?_
  show GG _ _ _ _ _ _ _ s₁ (mkF m 0 #[.val (.ref a1)] [])
  refine own_go (fun _ => XS.aloadN X0.here hx rfl (hb hby d5_0) rfl rfl) ?_
  show GG _ _ _ _ _ _ _ s₁ (mkF m 1 #[.val (.ref a1)] [(.ref a1)])
  obtain ⟨T1, X1, e1, st1⟩ := getF X0 hx hZ hown (host := "") (Or.inl (hw _ (List.mem_of_getElem? (i := 16) rfl))) Via.refl e0 F_p (g := (mkF m 1 #[.val (.ref a1)] [(.ref a1)])) rfl rfl (hb hby d5_1)
  refine own_go (fun _ => st1 _) ?_
  show GG _ _ _ _ _ _ _ T1 (mkF m 4 #[.val (.ref a1)] [(.ref b2)])
  refine own_go (fun _ => XS.aloadN X1.here hx rfl (hb hby d5_4) rfl rfl) ?_
  show GG _ _ _ _ _ _ _ T1 (mkF m 5 #[.val (.ref a1)] [(.ref a1), (.ref b2)])
  obtain ⟨T2, X2, e2, st2⟩ := getF X1 hx hZ hown (host := "") (Or.inl (hw _ (List.mem_of_getElem? (i := 23) rfl))) Via.refl e1 F_s (g := (mkF m 5 #[.val (.ref a1)] [(.ref a1), (.ref b2)])) rfl rfl (hb hby d5_5)
  refine own_go (fun _ => st2 _) ?_
  show GG _ _ _ _ _ _ _ T2 (mkF m 8 #[.val (.ref a1)] [(.int (3 : Int32)), (.ref b2)])
  refine own_go (fun _ => XS.iconst X2.here hx rfl (hb hby d5_8)) ?_
  show GG _ _ _ _ _ _ _ T2 (mkF m 9 #[.val (.ref a1)] [(.int (1 : Int32)), (.int (3 : Int32)), (.ref b2)])
  refine own_go (fun _ => XS.isub X2.here hx rfl (hb hby d5_9) rfl) ?_
  show GG _ _ _ _ _ _ _ T2 (mkF m 10 #[.val (.ref a1)] [(.int (2 : Int32)), (.ref b2)])
  refine own_go (fun _ => own_laload X2 hx hZ e2 V_p (j := (2 : Int32)) (v := (.long t2)) (by decide) rfl (g := (mkF m 10 #[.val (.ref a1)] [(.int (2 : Int32)), (.ref b2)])) rfl rfl (hb hby d5_10) _) ?_
  show GG _ _ _ _ _ _ _ T2 (mkF m 11 #[.val (.ref a1)] [(.long t2)])
  refine own_ret X2 hx hlk (t := .long) (w := (.long t2)) Bd.returns rfl (Or.inr (Or.inl ⟨rfl, rfl, _, rfl⟩)) (hb hby d5_11) (by decide) (by decide) ?_
  show Q5_3 Z a1 b2 t0 t1 t2 t3 t4 t5 t6 t7 t8 t9 t10 t11 t12 t13 t14 t15 h0 n0 (some (.long t2)) T2.heap _
  rw [e2]
  exact ⟨rfl, N0, rfl⟩
def Q4_3h (Z : State) (a1 : Addr) (q2 : Int64) (q3 : Int64) (b1 b2 : Addr) (r0 r1 r2 r3 r4 r5 r6 r7 r8 r9 r10 r11 r12 r13 r14 r15 : Int64) (t0 t1 t2 t3 t4 t5 t6 t7 t8 t9 t10 t11 t12 t13 t14 t15 : Int64) (h0 : Heap) (n0 : Nat) (v : Option Value) (h : Heap) (L : List Loc) : Prop := v = none ∧ Fr n0 L ∧ Keep h0 h [a1, b1, b2] ∧ Fld Z h a1 "com/example/obliv/obliv/io/SegmentIndex" "size" "I" (.int (4 : Int32)) ∧ Fld Z h a1 "com/example/obliv/obliv/io/SegmentIndex" "records" "[J" (.ref b1) ∧ Fld Z h a1 "com/example/obliv/obliv/io/SegmentIndex" "positions" "[J" (.ref b2) ∧ Arx Z h b1 .long [(.long r0), (.long r1), (.long r2), (.long q2), (.long r4), (.long r5), (.long r6), (.long r7), (.long r8), (.long r9), (.long r10), (.long r11), (.long r12), (.long r13), (.long r14), (.long r15)] ∧ Arx Z h b2 .long [(.long t0), (.long t1), (.long t2), (.long q3), (.long t4), (.long t5), (.long t6), (.long t7), (.long t8), (.long t9), (.long t10), (.long t11), (.long t12), (.long t13), (.long t14), (.long t15)]
set_option maxRecDepth 65536 in
set_option maxHeartbeats 40000000 in
theorem rm4_3h (l : Launch) (Z : State) (a0 : Array Value) (hw : ∀ d ∈ tables_1, d.before a0 Z = true) (ws : List Jvm.Cond) (a1 : Addr) (q2 : Int64) (q3 : Int64) (b1 b2 : Addr) (r0 r1 r2 r3 r4 r5 r6 r7 r8 r9 r10 r11 r12 r13 r14 r15 : Int64) (t0 t1 t2 t3 t4 t5 t6 t7 t8 t9 t10 t11 t12 t13 t14 t15 : Int64) (h0 : Heap) (n0 : Nat) (Z0 : n0 ≤ h0.size) (hadd : ¬ ((q3 - t2) < (65536 : Int64))) (E_o : Exa Z h0 a1 "com/example/obliv/obliv/io/SegmentIndex") (F_s : Fld Z h0 a1 "com/example/obliv/obliv/io/SegmentIndex" "size" "I" (.int (3 : Int32))) (F_r : Fld Z h0 a1 "com/example/obliv/obliv/io/SegmentIndex" "records" "[J" (.ref b1)) (F_p : Fld Z h0 a1 "com/example/obliv/obliv/io/SegmentIndex" "positions" "[J" (.ref b2)) (V_r : Arx Z h0 b1 .long [(.long r0), (.long r1), (.long r2), (.long r3), (.long r4), (.long r5), (.long r6), (.long r7), (.long r8), (.long r9), (.long r10), (.long r11), (.long r12), (.long r13), (.long r14), (.long r15)]) (V_p : Arx Z h0 b2 .long [(.long t0), (.long t1), (.long t2), (.long t3), (.long t4), (.long t5), (.long t6), (.long t7), (.long t8), (.long t9), (.long t10), (.long t11), (.long t12), (.long t13), (.long t14), (.long t15)]) (n12 : b1 ≠ b2) (no1 : a1 ≠ b1) (no2 : a1 ≠ b2) (g_o : n0 ≤ a1) (g_1 : n0 ≤ b1) (g_2 : n0 ≤ b2) :
    own_CT l Z (⟨"com/example/obliv/obliv/io/SegmentIndex", "add", "(JJ)V"⟩ : MethodName) prog_12_method_3_code 5 none ws ({ frames := 1, cells := 0, slots := 0, locals := 16 } : Room) #[(.ref a1), (.long q2), (.long q3)] h0 (Q4_3h Z a1 q2 q3 b1 b2 r0 r1 r2 r3 r4 r5 r6 r7 r8 r9 r10 r11 r12 r13 r14 r15 t0 t1 t2 t3 t4 t5 t6 t7 t8 t9 t10 t11 t12 t13 t14 t15 h0 n0) := by
  refine MetFree.of_bodySF (plainFor_of_name pn_com_example_obliv_obliv_io_SegmentIndex) hisR ?_
  intro p e s m args below meth c s₁ Bd hml0 hP hK
  obtain ⟨rfl, hZ, hh⟩ := hP
  have hx := Bd.exec
  have hby := Bd.bytes
  have hml : c.maxLocals = 5 := hml0
  have hown : s.vm.findClass "com/example/obliv/obliv/io/SegmentIndex" = some m.cls := findClass_of_methodNamed Bd.named
  have hnm := (name_of_methodNamed Bd.named Bd.method).1
  have hlk : meth.locks = false := BodyLoose.notSynchronized Bd
  have X0 : Stand p l e ({ frames := 1, cells := 0, slots := 0, locals := 16 } : Room) s m #[(.ref a1), (.long q2), (.long q3)] below meth c s₁ [] 0 0 := Stand.of_body Bd
  have e0 : s₁.heap = h0 := by rw [← hh, Bd.state]; rfl
  have N0 := Fr.nil n0
  show GG p e below s ({ frames := 1, cells := 0, slots := 0, locals := 16 } : Room).cells ({ frames := 1, cells := 0, slots := 0, locals := 16 } : Room).slots (Q4_3h Z a1 q2 q3 b1 b2 r0 r1 r2 r3 r4 r5 r6 r7 r8 r9 r10 r11 r12 r13 r14 r15 t0 t1 t2 t3 t4 t5 t6 t7 t8 t9 t10 t11 t12 t13 t14 t15 h0 n0) s₁ (entryFrame m #[(.ref a1), (.long q2), (.long q3)] 5)
  refine own_in (ef_4 m a1 q2 q3) ?_
  have K0 := Keep.refl h0 [a1, b1, b2]
  show GG _ _ _ _ _ _ _ s₁ (mkF m 0 #[.val (.ref a1), .val (.long q2), .second, .val (.long q3), .second] [])
  refine own_go (fun _ => XS.lloadN X0.here hx rfl (hb hby d4_0) rfl) ?_
  show GG _ _ _ _ _ _ _ s₁ (mkF m 1 #[.val (.ref a1), .val (.long q2), .second, .val (.long q3), .second] [(.long q3)])
  refine own_go (fun _ => XS.aloadN X0.here hx rfl (hb hby d4_1) rfl rfl) ?_
  show GG _ _ _ _ _ _ _ s₁ (mkF m 2 #[.val (.ref a1), .val (.long q2), .second, .val (.long q3), .second] [(.ref a1), (.long q3)])
  refine own_callP X0 hx hZ (y := (⟨"com/example/obliv/obliv/io/SegmentIndex", "lastPosition", "()J"⟩ : MethodName)) 2 hown (hw _ (List.mem_of_getElem? (i := 30) rfl)) (hw _ (List.mem_of_getElem? (i := 31) rfl)) (hw _ (List.mem_of_getElem? (i := 5) rfl)) (hw _ (List.mem_of_getElem? (i := 32) rfl)) (hw _ (List.mem_of_getElem? (i := 6) rfl)) (hw _ (List.mem_of_getElem? (i := 33) rfl)) (by decide) (a := a1) (argsL := []) (rest := [(.long q3)]) (rm5_3 l Z a0 hw [] a1 b2 t0 t1 t2 t3 t4 t5 t6 t7 t8 t9 t10 t11 t12 t13 t14 t15 h0 n0 Z0 F_s F_p V_p) (by decide) (by decide) (by decide) (by decide) E_o (g := (mkF m 2 #[.val (.ref a1), .val (.long q2), .second, .val (.long q3), .second] [(.ref a1), (.long q3)])) rfl (by rw [hml]; rfl) (lenOf pd___J_155 rfl) rfl (by show 2 * 0 + _ ≤ _; exact Nat.le_of_eq rfl) (hb hby d4_2) e0 ?_
  rintro v1 T1 L1 X1 ⟨rfl, N1q, hh1⟩
  have N1 := Fr.app N0 N1q
  show GG _ _ _ _ _ _ _ T1 (mkF m 5 #[.val (.ref a1), .val (.long q2), .second, .val (.long q3), .second] [(.long t2), (.long q3)])
  refine own_go (fun _ => XS.lsub X1.here hx rfl (hb hby d4_5) rfl) ?_
  show GG _ _ _ _ _ _ _ T1 (mkF m 6 #[.val (.ref a1), .val (.long q2), .second, .val (.long q3), .second] [(.long (q3 - t2))])
  refine own_go (fun _ => X1.ldc2Long hx hown (mvT hZ (hw _ (List.mem_of_getElem? (i := 34) rfl))) (g := (mkF m 6 #[.val (.ref a1), .val (.long q2), .second, .val (.long q3), .second] [(.long (q3 - t2))])) rfl (hb hby d4_6) _) ?_
  show GG _ _ _ _ _ _ _ T1 (mkF m 9 #[.val (.ref a1), .val (.long q2), .second, .val (.long q3), .second] [(.long (65536 : Int64)), (.long (q3 - t2))])
  refine own_go (fun _ => XS.lcmp X1.here hx rfl (hb hby d4_9) rfl) ?_
  show GG _ _ _ _ _ _ _ T1 (mkF m 10 #[.val (.ref a1), .val (.long q2), .second, .val (.long q3), .second] [(.int (lcmpW (q3 - t2) (65536 : Int64)))])
  have hc10 : ¬ ((q3 - t2) < (65536 : Int64)) := hadd
  refine own_go (fun _ => XS.ifNo X1.here hx rfl (hb hby d4_10) rfl ((if0 _ _).trans (flt (fun q => hc10 ((lw_lt _ _).mp q))).1)) ?_
  show GG _ _ _ _ _ _ _ T1 (mkF m 13 #[.val (.ref a1), .val (.long q2), .second, .val (.long q3), .second] [])
  refine own_go (fun _ => XS.aloadN X1.here hx rfl (hb hby d4_13) rfl rfl) ?_
  show GG _ _ _ _ _ _ _ T1 (mkF m 14 #[.val (.ref a1), .val (.long q2), .second, .val (.long q3), .second] [(.ref a1)])
  refine own_go (fun _ => XS.lloadN X1.here hx rfl (hb hby d4_14) rfl) ?_
  show GG _ _ _ _ _ _ _ T1 (mkF m 15 #[.val (.ref a1), .val (.long q2), .second, .val (.long q3), .second] [(.long q2), (.ref a1)])
  refine own_go (fun _ => XS.lloadN X1.here hx rfl (hb hby d4_15) rfl) ?_
  show GG _ _ _ _ _ _ _ T1 (mkF m 16 #[.val (.ref a1), .val (.long q2), .second, .val (.long q3), .second] [(.long q3), (.long q2), (.ref a1)])
  refine own_callP X1 hx hZ (y := (⟨"com/example/obliv/obliv/io/SegmentIndex", "hold", "(JJ)V"⟩ : MethodName)) 0 hown (hw _ (List.mem_of_getElem? (i := 19) rfl)) (hw _ (List.mem_of_getElem? (i := 20) rfl)) (hw _ (List.mem_of_getElem? (i := 5) rfl)) (hw _ (List.mem_of_getElem? (i := 21) rfl)) (hw _ (List.mem_of_getElem? (i := 6) rfl)) (hw _ (List.mem_of_getElem? (i := 22) rfl)) (by decide) (a := a1) (argsL := [(.long q2), (.long q3)]) (rest := []) (rm3_3 l Z a0 hw [] a1 q2 q3 b1 b2 r0 r1 r2 r3 r4 r5 r6 r7 r8 r9 r10 r11 r12 r13 r14 r15 t0 t1 t2 t3 t4 t5 t6 t7 t8 t9 t10 t11 t12 t13 t14 t15 h0 n0 Z0 E_o F_s F_r F_p V_r V_p n12 no1 no2 g_o g_1 g_2) (by decide) (by decide) (by decide) (by decide) E_o (g := (mkF m 16 #[.val (.ref a1), .val (.long q2), .second, .val (.long q3), .second] [(.long q3), (.long q2), (.ref a1)])) rfl (by rw [hml]; rfl) (lenOf pd__JJ_V_315 rfl) rfl (by show 2 * 0 + _ ≤ _; exact Nat.le_of_eq rfl) (hb hby d4_16) hh1 ?_
  rintro v2 T2 L2 X2 ⟨rfl, N2q, Kq2, Fs2, Fr2, Fp2, Vr2, Vp2⟩
  have N2 := Fr.app N1 N2q
  have E_o := E_o.keep Kq2
  have K0 := K0.trans Kq2 (allS (Or.inl (List.mem_of_getElem? (i := 0) rfl)) (allS (Or.inl (List.mem_of_getElem? (i := 1) rfl)) (allS (Or.inl (List.mem_of_getElem? (i := 2) rfl)) all0)))
  show GG _ _ _ _ _ _ _ T2 (mkF m 19 #[.val (.ref a1), .val (.long q2), .second, .val (.long q3), .second] [])
  refine own_retV X2 hx hlk Bd.returns (hb hby d4_19) (by decide) (by decide) ?_
  show Q4_3h Z a1 q2 q3 b1 b2 r0 r1 r2 r3 r4 r5 r6 r7 r8 r9 r10 r11 r12 r13 r14 r15 t0 t1 t2 t3 t4 t5 t6 t7 t8 t9 t10 t11 t12 t13 t14 t15 h0 n0 (none) T2.heap _
  exact ⟨rfl, N2, K0, Fs2, Fr2, Fp2, Vr2, Vp2⟩
def Q4_3x (Z : State) (a1 : Addr) (q2 : Int64) (q3 : Int64) (b1 b2 : Addr) (r0 r1 r2 r3 r4 r5 r6 r7 r8 r9 r10 r11 r12 r13 r14 r15 : Int64) (t0 t1 t2 t3 t4 t5 t6 t7 t8 t9 t10 t11 t12 t13 t14 t15 : Int64) (h0 : Heap) (n0 : Nat) (v : Option Value) (h : Heap) (L : List Loc) : Prop := v = none ∧ Fr n0 L ∧ h = h0
set_option maxRecDepth 65536 in
set_option maxHeartbeats 40000000 in
theorem rm4_3x (l : Launch) (Z : State) (a0 : Array Value) (hw : ∀ d ∈ tables_1, d.before a0 Z = true) (ws : List Jvm.Cond) (a1 : Addr) (q2 : Int64) (q3 : Int64) (b1 b2 : Addr) (r0 r1 r2 r3 r4 r5 r6 r7 r8 r9 r10 r11 r12 r13 r14 r15 : Int64) (t0 t1 t2 t3 t4 t5 t6 t7 t8 t9 t10 t11 t12 t13 t14 t15 : Int64) (h0 : Heap) (n0 : Nat) (Z0 : n0 ≤ h0.size) (hadd : (q3 - t2) < (65536 : Int64)) (E_o : Exa Z h0 a1 "com/example/obliv/obliv/io/SegmentIndex") (F_s : Fld Z h0 a1 "com/example/obliv/obliv/io/SegmentIndex" "size" "I" (.int (3 : Int32))) (F_r : Fld Z h0 a1 "com/example/obliv/obliv/io/SegmentIndex" "records" "[J" (.ref b1)) (F_p : Fld Z h0 a1 "com/example/obliv/obliv/io/SegmentIndex" "positions" "[J" (.ref b2)) (V_r : Arx Z h0 b1 .long [(.long r0), (.long r1), (.long r2), (.long r3), (.long r4), (.long r5), (.long r6), (.long r7), (.long r8), (.long r9), (.long r10), (.long r11), (.long r12), (.long r13), (.long r14), (.long r15)]) (V_p : Arx Z h0 b2 .long [(.long t0), (.long t1), (.long t2), (.long t3), (.long t4), (.long t5), (.long t6), (.long t7), (.long t8), (.long t9), (.long t10), (.long t11), (.long t12), (.long t13), (.long t14), (.long t15)]) (n12 : b1 ≠ b2) (no1 : a1 ≠ b1) (no2 : a1 ≠ b2) (g_o : n0 ≤ a1) (g_1 : n0 ≤ b1) (g_2 : n0 ≤ b2) :
    own_CT l Z (⟨"com/example/obliv/obliv/io/SegmentIndex", "add", "(JJ)V"⟩ : MethodName) prog_12_method_3_code 5 none ws ({ frames := 1, cells := 0, slots := 0, locals := 14 } : Room) #[(.ref a1), (.long q2), (.long q3)] h0 (Q4_3x Z a1 q2 q3 b1 b2 r0 r1 r2 r3 r4 r5 r6 r7 r8 r9 r10 r11 r12 r13 r14 r15 t0 t1 t2 t3 t4 t5 t6 t7 t8 t9 t10 t11 t12 t13 t14 t15 h0 n0) := by
  refine MetFree.of_bodySF (plainFor_of_name pn_com_example_obliv_obliv_io_SegmentIndex) hisR ?_
  intro p e s m args below meth c s₁ Bd hml0 hP hK
  obtain ⟨rfl, hZ, hh⟩ := hP
  have hx := Bd.exec
  have hby := Bd.bytes
  have hml : c.maxLocals = 5 := hml0
  have hown : s.vm.findClass "com/example/obliv/obliv/io/SegmentIndex" = some m.cls := findClass_of_methodNamed Bd.named
  have hnm := (name_of_methodNamed Bd.named Bd.method).1
  have hlk : meth.locks = false := BodyLoose.notSynchronized Bd
  have X0 : Stand p l e ({ frames := 1, cells := 0, slots := 0, locals := 14 } : Room) s m #[(.ref a1), (.long q2), (.long q3)] below meth c s₁ [] 0 0 := Stand.of_body Bd
  have e0 : s₁.heap = h0 := by rw [← hh, Bd.state]; rfl
  have N0 := Fr.nil n0
  show GG p e below s ({ frames := 1, cells := 0, slots := 0, locals := 14 } : Room).cells ({ frames := 1, cells := 0, slots := 0, locals := 14 } : Room).slots (Q4_3x Z a1 q2 q3 b1 b2 r0 r1 r2 r3 r4 r5 r6 r7 r8 r9 r10 r11 r12 r13 r14 r15 t0 t1 t2 t3 t4 t5 t6 t7 t8 t9 t10 t11 t12 t13 t14 t15 h0 n0) s₁ (entryFrame m #[(.ref a1), (.long q2), (.long q3)] 5)
  refine own_in (ef_4 m a1 q2 q3) ?_
  have K0 := Keep.refl h0 [a1, b1, b2]
  show GG _ _ _ _ _ _ _ s₁ (mkF m 0 #[.val (.ref a1), .val (.long q2), .second, .val (.long q3), .second] [])
  refine own_go (fun _ => XS.lloadN X0.here hx rfl (hb hby d4_0) rfl) ?_
  show GG _ _ _ _ _ _ _ s₁ (mkF m 1 #[.val (.ref a1), .val (.long q2), .second, .val (.long q3), .second] [(.long q3)])
  refine own_go (fun _ => XS.aloadN X0.here hx rfl (hb hby d4_1) rfl rfl) ?_
  show GG _ _ _ _ _ _ _ s₁ (mkF m 2 #[.val (.ref a1), .val (.long q2), .second, .val (.long q3), .second] [(.ref a1), (.long q3)])
  refine own_callP X0 hx hZ (y := (⟨"com/example/obliv/obliv/io/SegmentIndex", "lastPosition", "()J"⟩ : MethodName)) 2 hown (hw _ (List.mem_of_getElem? (i := 30) rfl)) (hw _ (List.mem_of_getElem? (i := 31) rfl)) (hw _ (List.mem_of_getElem? (i := 5) rfl)) (hw _ (List.mem_of_getElem? (i := 32) rfl)) (hw _ (List.mem_of_getElem? (i := 6) rfl)) (hw _ (List.mem_of_getElem? (i := 33) rfl)) (by decide) (a := a1) (argsL := []) (rest := [(.long q3)]) (rm5_3 l Z a0 hw [] a1 b2 t0 t1 t2 t3 t4 t5 t6 t7 t8 t9 t10 t11 t12 t13 t14 t15 h0 n0 Z0 F_s F_p V_p) (by decide) (by decide) (by decide) (by decide) E_o (g := (mkF m 2 #[.val (.ref a1), .val (.long q2), .second, .val (.long q3), .second] [(.ref a1), (.long q3)])) rfl (by rw [hml]; rfl) (lenOf pd___J_155 rfl) rfl (by show 2 * 0 + _ ≤ _; exact Nat.le_of_eq rfl) (hb hby d4_2) e0 ?_
  rintro v1 T1 L1 X1 ⟨rfl, N1q, hh1⟩
  have N1 := Fr.app N0 N1q
  show GG _ _ _ _ _ _ _ T1 (mkF m 5 #[.val (.ref a1), .val (.long q2), .second, .val (.long q3), .second] [(.long t2), (.long q3)])
  refine own_go (fun _ => XS.lsub X1.here hx rfl (hb hby d4_5) rfl) ?_
  show GG _ _ _ _ _ _ _ T1 (mkF m 6 #[.val (.ref a1), .val (.long q2), .second, .val (.long q3), .second] [(.long (q3 - t2))])
  refine own_go (fun _ => X1.ldc2Long hx hown (mvT hZ (hw _ (List.mem_of_getElem? (i := 34) rfl))) (g := (mkF m 6 #[.val (.ref a1), .val (.long q2), .second, .val (.long q3), .second] [(.long (q3 - t2))])) rfl (hb hby d4_6) _) ?_
  show GG _ _ _ _ _ _ _ T1 (mkF m 9 #[.val (.ref a1), .val (.long q2), .second, .val (.long q3), .second] [(.long (65536 : Int64)), (.long (q3 - t2))])
  refine own_go (fun _ => XS.lcmp X1.here hx rfl (hb hby d4_9) rfl) ?_
  show GG _ _ _ _ _ _ _ T1 (mkF m 10 #[.val (.ref a1), .val (.long q2), .second, .val (.long q3), .second] [(.int (lcmpW (q3 - t2) (65536 : Int64)))])
  have hc10 : (q3 - t2) < (65536 : Int64) := hadd
  refine own_go (fun _ => XS.ifYes X1.here hx rfl (pc0 := 10) (pc' := 19) rfl (hb hby d4_10) rfl ((if0 _ _).trans (tlt ((lw_lt _ _).mpr hc10)).1) (by decide) (by decide)) ?_
  show GG _ _ _ _ _ _ _ T1 (mkF m 19 #[.val (.ref a1), .val (.long q2), .second, .val (.long q3), .second] [])
  refine own_retV X1 hx hlk Bd.returns (hb hby d4_19) (by decide) (by decide) ?_
  show Q4_3x Z a1 q2 q3 b1 b2 r0 r1 r2 r3 r4 r5 r6 r7 r8 r9 r10 r11 r12 r13 r14 r15 t0 t1 t2 t3 t4 t5 t6 t7 t8 t9 t10 t11 t12 t13 t14 t15 h0 n0 (none) T1.heap _
  rw [hh1]
  exact ⟨rfl, N1, rfl⟩
theorem d6_0 : decode prog_12_method_8_code 0 = .ok (.iconst 2, 1) := by decide +kernel
theorem d6_1 : decode prog_12_method_8_code 1 = .ok (.aload_n 0, 1) := by decide +kernel
theorem d6_2 : decode prog_12_method_8_code 2 = .ok (.getfield 31, 3) := by decide +kernel
theorem d6_5 : decode prog_12_method_8_code 5 = .ok (.iconst 1, 1) := by decide +kernel
theorem d6_6 : decode prog_12_method_8_code 6 = .ok (.isub, 1) := by decide +kernel
theorem d6_7 : decode prog_12_method_8_code 7 = .ok (.imul, 1) := by decide +kernel
theorem d6_8 : decode prog_12_method_8_code 8 = .ok (.newarray .long, 2) := by decide +kernel
theorem d6_10 : decode prog_12_method_8_code 10 = .ok (.astore_n 1, 1) := by decide +kernel
theorem d6_11 : decode prog_12_method_8_code 11 = .ok (.iconst 1, 1) := by decide +kernel
theorem d6_12 : decode prog_12_method_8_code 12 = .ok (.istore_n 2, 1) := by decide +kernel
theorem d6_13 : decode prog_12_method_8_code 13 = .ok (.iload_n 2, 1) := by decide +kernel
theorem d6_14 : decode prog_12_method_8_code 14 = .ok (.aload_n 0, 1) := by decide +kernel
theorem d6_15 : decode prog_12_method_8_code 15 = .ok (.getfield 31, 3) := by decide +kernel
theorem d6_18 : decode prog_12_method_8_code 18 = .ok (.if_icmp .ge 37, 3) := by decide +kernel
theorem d6_55 : decode prog_12_method_8_code 55 = .ok (.aload_n 1, 1) := by decide +kernel
theorem d6_56 : decode prog_12_method_8_code 56 = .ok (.areturn, 1) := by decide +kernel
theorem ef_6 (m : MethodId) (x0 : Addr) : entryFrame m #[(.ref x0)] 3 = mkF m 0 #[.val (.ref x0), .unset, .unset] [] := by first | (simp [entryFrame, mkF, argsToLocals, Value.category]; done) | rfl
def Q6_1 (Z : State) (a1 : Addr) (b1 b2 : Addr) (r0 r1 r2 r3 r4 r5 r6 r7 r8 r9 r10 r11 r12 r13 r14 r15 : Int64) (t0 t1 t2 t3 t4 t5 t6 t7 t8 t9 t10 t11 t12 t13 t14 t15 : Int64) (h0 : Heap) (n0 : Nat) (v : Option Value) (h : Heap) (L : List Loc) : Prop := ∃ b, v = some (.ref b) ∧ Fr n0 L ∧ h0.size ≤ b ∧ Keep h0 h [] ∧ Arx Z h b .long []
set_option maxRecDepth 65536 in
set_option maxHeartbeats 40000000 in
theorem rm6_1 (l : Launch) (Z : State) (a0 : Array Value) (hw : ∀ d ∈ tables_1, d.before a0 Z = true) (ws : List Jvm.Cond) (a1 : Addr) (b1 b2 : Addr) (r0 r1 r2 r3 r4 r5 r6 r7 r8 r9 r10 r11 r12 r13 r14 r15 : Int64) (t0 t1 t2 t3 t4 t5 t6 t7 t8 t9 t10 t11 t12 t13 t14 t15 : Int64) (h0 : Heap) (n0 : Nat) (Z0 : n0 ≤ h0.size) (F_s : Fld Z h0 a1 "com/example/obliv/obliv/io/SegmentIndex" "size" "I" (.int (1 : Int32))) (F_r : Fld Z h0 a1 "com/example/obliv/obliv/io/SegmentIndex" "records" "[J" (.ref b1)) (F_p : Fld Z h0 a1 "com/example/obliv/obliv/io/SegmentIndex" "positions" "[J" (.ref b2)) (V_r : Arx Z h0 b1 .long [(.long r0), (.long r1), (.long r2), (.long r3), (.long r4), (.long r5), (.long r6), (.long r7), (.long r8), (.long r9), (.long r10), (.long r11), (.long r12), (.long r13), (.long r14), (.long r15)]) (V_p : Arx Z h0 b2 .long [(.long t0), (.long t1), (.long t2), (.long t3), (.long t4), (.long t5), (.long t6), (.long t7), (.long t8), (.long t9), (.long t10), (.long t11), (.long t12), (.long t13), (.long t14), (.long t15)]) :
    own_CT l Z (⟨"com/example/obliv/obliv/io/SegmentIndex", "toArray", "()[J"⟩ : MethodName) prog_12_method_8_code 3 (some (.array .long)) ws ({ frames := 0, cells := 1, slots := 0, locals := 0 } : Room) #[(.ref a1)] h0 (Q6_1 Z a1 b1 b2 r0 r1 r2 r3 r4 r5 r6 r7 r8 r9 r10 r11 r12 r13 r14 r15 t0 t1 t2 t3 t4 t5 t6 t7 t8 t9 t10 t11 t12 t13 t14 t15 h0 n0) := by
  refine MetFree.of_bodySF (plainFor_of_name pn_com_example_obliv_obliv_io_SegmentIndex) hisR ?_
  intro p e s m args below meth c s₁ Bd hml0 hP hK
  obtain ⟨rfl, hZ, hh⟩ := hP
  have hx := Bd.exec
  have hby := Bd.bytes
  have hml : c.maxLocals = 3 := hml0
  have hown : s.vm.findClass "com/example/obliv/obliv/io/SegmentIndex" = some m.cls := findClass_of_methodNamed Bd.named
  have hnm := (name_of_methodNamed Bd.named Bd.method).1
  have hlk : meth.locks = false := BodyLoose.notSynchronized Bd
  have X0 : Stand p l e ({ frames := 0, cells := 1, slots := 0, locals := 0 } : Room) s m #[(.ref a1)] below meth c s₁ [] 0 0 := Stand.of_body Bd
  have e0 : s₁.heap = h0 := by rw [← hh, Bd.state]; rfl
  have N0 := Fr.nil n0
  show GG p e below s ({ frames := 0, cells := 1, slots := 0, locals := 0 } : Room).cells ({ frames := 0, cells := 1, slots := 0, locals := 0 } : Room).slots (Q6_1 Z a1 b1 b2 r0 r1 r2 r3 r4 r5 r6 r7 r8 r9 r10 r11 r12 r13 r14 r15 t0 t1 t2 t3 t4 t5 t6 t7 t8 t9 t10 t11 t12 t13 t14 t15 h0 n0) s₁ (entryFrame m #[(.ref a1)] 3)
  refine own_in (ef_6 m a1) ?_
  show GG _ _ _ _ _ _ _ s₁ (mkF m 0 #[.val (.ref a1), .unset, .unset] [])
  refine own_go (fun _ => XS.iconst X0.here hx rfl (hb hby d6_0)) ?_
  show GG _ _ _ _ _ _ _ s₁ (mkF m 1 #[.val (.ref a1), .unset, .unset] [(.int (2 : Int32))])
  refine own_go (fun _ => XS.aloadN X0.here hx rfl (hb hby d6_1) rfl rfl) ?_
  show GG _ _ _ _ _ _ _ s₁ (mkF m 2 #[.val (.ref a1), .unset, .unset] [(.ref a1), (.int (2 : Int32))])
  obtain ⟨T1, X1, e1, st1⟩ := getF X0 hx hZ hown (host := "") (Or.inl (hw _ (List.mem_of_getElem? (i := 23) rfl))) Via.refl e0 F_s (g := (mkF m 2 #[.val (.ref a1), .unset, .unset] [(.ref a1), (.int (2 : Int32))])) rfl rfl (hb hby d6_2)
  refine own_go (fun _ => st1 _) ?_
  show GG _ _ _ _ _ _ _ T1 (mkF m 5 #[.val (.ref a1), .unset, .unset] [(.int (1 : Int32)), (.int (2 : Int32))])
  refine own_go (fun _ => XS.iconst X1.here hx rfl (hb hby d6_5)) ?_
  show GG _ _ _ _ _ _ _ T1 (mkF m 6 #[.val (.ref a1), .unset, .unset] [(.int (1 : Int32)), (.int (1 : Int32)), (.int (2 : Int32))])
  refine own_go (fun _ => XS.isub X1.here hx rfl (hb hby d6_6) rfl) ?_
  show GG _ _ _ _ _ _ _ T1 (mkF m 7 #[.val (.ref a1), .unset, .unset] [(.int (0 : Int32)), (.int (2 : Int32))])
  refine own_go (fun _ => XS.imul X1.here hx rfl (hb hby d6_7) rfl) ?_
  show GG _ _ _ _ _ _ _ T1 (mkF m 8 #[.val (.ref a1), .unset, .unset] [(.int (0 : Int32))])
  have K0 := Keep.refl h0 []
  obtain ⟨T2, h2, ob2, g2, X2, e2, E2, V_ob2, E_ob2, st2⟩ := own_newarr X1 hx hZ (hw _ (List.mem_of_getElem? (i := 13) rfl)) e1 (g := (mkF m 8 #[.val (.ref a1), .unset, .unset] [(.int (0 : Int32))])) rfl (hb hby d6_8) rfl (by decide) (cap := 0) (by decide) (by decide) (by decide) (by decide) (ad := "[J") (by decide)
  have ne_a1_ob2 : a1 ≠ ob2 := Nat.ne_of_lt (Nat.lt_of_lt_of_le F_s.lt (Nat.le_of_eq g2.symm))
  have ne_b1_ob2 : b1 ≠ ob2 := Nat.ne_of_lt (Nat.lt_of_lt_of_le V_r.lt (Nat.le_of_eq g2.symm))
  have ne_b2_ob2 : b2 ≠ ob2 := Nat.ne_of_lt (Nat.lt_of_lt_of_le V_p.lt (Nat.le_of_eq g2.symm))
  have sz_ob2 : h0.size ≤ ob2 := Nat.le_trans K0.1 (Nat.le_of_eq g2.symm)
  have g_ob2 : n0 ≤ ob2 := Nat.le_trans Z0 sz_ob2
  have F_s := F_s.ext E2
  have F_r := F_r.ext E2
  have F_p := F_p.ext E2
  have V_r := V_r.ext E2
  have V_p := V_p.ext E2
  have K0 := K0.ext E2
  have V_ob2 : Arx Z h2 ob2 .long [] := V_ob2
  refine own_go (fun _ => st2 _) ?_
  show GG _ _ _ _ _ _ _ T2 (mkF m 10 #[.val (.ref a1), .unset, .unset] [(.ref ob2)])
  refine own_go (fun _ => XS.astoreN X2.here hx rfl (hb hby d6_10) rfl rfl (l' := #[.val (.ref a1), .val (.ref ob2), .unset]) rfl) ?_
  show GG _ _ _ _ _ _ _ T2 (mkF m 11 #[.val (.ref a1), .val (.ref ob2), .unset] [])
  refine own_go (fun _ => XS.iconst X2.here hx rfl (hb hby d6_11)) ?_
  show GG _ _ _ _ _ _ _ T2 (mkF m 12 #[.val (.ref a1), .val (.ref ob2), .unset] [(.int (1 : Int32))])
  refine own_go (fun _ => XS.istoreN X2.here hx rfl (hb hby d6_12) rfl (l' := #[.val (.ref a1), .val (.ref ob2), .val (.int (1 : Int32))]) rfl) ?_
  show GG _ _ _ _ _ _ _ T2 (mkF m 13 #[.val (.ref a1), .val (.ref ob2), .val (.int (1 : Int32))] [])
  refine own_go (fun _ => XS.iloadN X2.here hx rfl (hb hby d6_13) rfl) ?_
  show GG _ _ _ _ _ _ _ T2 (mkF m 14 #[.val (.ref a1), .val (.ref ob2), .val (.int (1 : Int32))] [(.int (1 : Int32))])
  refine own_go (fun _ => XS.aloadN X2.here hx rfl (hb hby d6_14) rfl rfl) ?_
  show GG _ _ _ _ _ _ _ T2 (mkF m 15 #[.val (.ref a1), .val (.ref ob2), .val (.int (1 : Int32))] [(.ref a1), (.int (1 : Int32))])
  obtain ⟨T3, X3, e3, st3⟩ := getF X2 hx hZ hown (host := "") (Or.inl (hw _ (List.mem_of_getElem? (i := 23) rfl))) Via.refl e2 F_s (g := (mkF m 15 #[.val (.ref a1), .val (.ref ob2), .val (.int (1 : Int32))] [(.ref a1), (.int (1 : Int32))])) rfl rfl (hb hby d6_15)
  refine own_go (fun _ => st3 _) ?_
  show GG _ _ _ _ _ _ _ T3 (mkF m 18 #[.val (.ref a1), .val (.ref ob2), .val (.int (1 : Int32))] [(.int (1 : Int32)), (.int (1 : Int32))])
  have hc18 : ¬ ((1 : Int32) < (1 : Int32)) := by decide
  refine own_go (fun _ => XS.icmpYes X3.here hx rfl (pc0 := 18) (pc' := 55) rfl (hb hby d6_18) rfl (flt hc18).2.1 (by decide) (by decide)) ?_
  show GG _ _ _ _ _ _ _ T3 (mkF m 55 #[.val (.ref a1), .val (.ref ob2), .val (.int (1 : Int32))] [])
  refine own_go (fun _ => XS.aloadN X3.here hx rfl (hb hby d6_55) rfl rfl) ?_
  show GG _ _ _ _ _ _ _ T3 (mkF m 56 #[.val (.ref a1), .val (.ref ob2), .val (.int (1 : Int32))] [(.ref ob2)])
  refine own_ret X3 hx hlk (t := (.array .long)) (w := (.ref ob2)) Bd.returns rfl (Or.inr (Or.inr (Or.inr (Or.inr ⟨rfl, rfl, rfl⟩)))) (hb hby d6_56) (by decide) (by decide) ?_
  show Q6_1 Z a1 b1 b2 r0 r1 r2 r3 r4 r5 r6 r7 r8 r9 r10 r11 r12 r13 r14 r15 t0 t1 t2 t3 t4 t5 t6 t7 t8 t9 t10 t11 t12 t13 t14 t15 h0 n0 (some (.ref ob2)) T3.heap _
  rw [e3]
  exact ⟨_, rfl, N0, sz_ob2, K0, V_ob2⟩
theorem d6_21 : decode prog_12_method_8_code 21 = .ok (.aload_n 1, 1) := by decide +kernel
theorem d6_22 : decode prog_12_method_8_code 22 = .ok (.iconst 2, 1) := by decide +kernel
theorem d6_23 : decode prog_12_method_8_code 23 = .ok (.iload_n 2, 1) := by decide +kernel
theorem d6_24 : decode prog_12_method_8_code 24 = .ok (.iconst 1, 1) := by decide +kernel
theorem d6_25 : decode prog_12_method_8_code 25 = .ok (.isub, 1) := by decide +kernel
theorem d6_26 : decode prog_12_method_8_code 26 = .ok (.imul, 1) := by decide +kernel
theorem d6_27 : decode prog_12_method_8_code 27 = .ok (.aload_n 0, 1) := by decide +kernel
theorem d6_28 : decode prog_12_method_8_code 28 = .ok (.getfield 9, 3) := by decide +kernel
theorem d6_31 : decode prog_12_method_8_code 31 = .ok (.iload_n 2, 1) := by decide +kernel
theorem d6_32 : decode prog_12_method_8_code 32 = .ok (.laload, 1) := by decide +kernel
theorem d6_33 : decode prog_12_method_8_code 33 = .ok (.lastore, 1) := by decide +kernel
theorem d6_34 : decode prog_12_method_8_code 34 = .ok (.aload_n 1, 1) := by decide +kernel
theorem d6_35 : decode prog_12_method_8_code 35 = .ok (.iconst 2, 1) := by decide +kernel
theorem d6_36 : decode prog_12_method_8_code 36 = .ok (.iload_n 2, 1) := by decide +kernel
theorem d6_37 : decode prog_12_method_8_code 37 = .ok (.iconst 1, 1) := by decide +kernel
theorem d6_38 : decode prog_12_method_8_code 38 = .ok (.isub, 1) := by decide +kernel
theorem d6_39 : decode prog_12_method_8_code 39 = .ok (.imul, 1) := by decide +kernel
theorem d6_40 : decode prog_12_method_8_code 40 = .ok (.iconst 1, 1) := by decide +kernel
theorem d6_41 : decode prog_12_method_8_code 41 = .ok (.iadd, 1) := by decide +kernel
theorem d6_42 : decode prog_12_method_8_code 42 = .ok (.aload_n 0, 1) := by decide +kernel
theorem d6_43 : decode prog_12_method_8_code 43 = .ok (.getfield 13, 3) := by decide +kernel
theorem d6_46 : decode prog_12_method_8_code 46 = .ok (.iload_n 2, 1) := by decide +kernel
theorem d6_47 : decode prog_12_method_8_code 47 = .ok (.laload, 1) := by decide +kernel
theorem d6_48 : decode prog_12_method_8_code 48 = .ok (.lastore, 1) := by decide +kernel
theorem d6_49 : decode prog_12_method_8_code 49 = .ok (.iinc 2 1, 3) := by decide +kernel
theorem d6_52 : decode prog_12_method_8_code 52 = .ok (.goto (-39), 3) := by decide +kernel
def Q6_2 (Z : State) (a1 : Addr) (b1 b2 : Addr) (r0 r1 r2 r3 r4 r5 r6 r7 r8 r9 r10 r11 r12 r13 r14 r15 : Int64) (t0 t1 t2 t3 t4 t5 t6 t7 t8 t9 t10 t11 t12 t13 t14 t15 : Int64) (h0 : Heap) (n0 : Nat) (v : Option Value) (h : Heap) (L : List Loc) : Prop := ∃ b, v = some (.ref b) ∧ Fr n0 L ∧ h0.size ≤ b ∧ Keep h0 h [] ∧ Arx Z h b .long [(.long r1), (.long t1)]
set_option maxRecDepth 65536 in
set_option maxHeartbeats 40000000 in
theorem rm6_2 (l : Launch) (Z : State) (a0 : Array Value) (hw : ∀ d ∈ tables_1, d.before a0 Z = true) (ws : List Jvm.Cond) (a1 : Addr) (b1 b2 : Addr) (r0 r1 r2 r3 r4 r5 r6 r7 r8 r9 r10 r11 r12 r13 r14 r15 : Int64) (t0 t1 t2 t3 t4 t5 t6 t7 t8 t9 t10 t11 t12 t13 t14 t15 : Int64) (h0 : Heap) (n0 : Nat) (Z0 : n0 ≤ h0.size) (F_s : Fld Z h0 a1 "com/example/obliv/obliv/io/SegmentIndex" "size" "I" (.int (2 : Int32))) (F_r : Fld Z h0 a1 "com/example/obliv/obliv/io/SegmentIndex" "records" "[J" (.ref b1)) (F_p : Fld Z h0 a1 "com/example/obliv/obliv/io/SegmentIndex" "positions" "[J" (.ref b2)) (V_r : Arx Z h0 b1 .long [(.long r0), (.long r1), (.long r2), (.long r3), (.long r4), (.long r5), (.long r6), (.long r7), (.long r8), (.long r9), (.long r10), (.long r11), (.long r12), (.long r13), (.long r14), (.long r15)]) (V_p : Arx Z h0 b2 .long [(.long t0), (.long t1), (.long t2), (.long t3), (.long t4), (.long t5), (.long t6), (.long t7), (.long t8), (.long t9), (.long t10), (.long t11), (.long t12), (.long t13), (.long t14), (.long t15)]) :
    own_CT l Z (⟨"com/example/obliv/obliv/io/SegmentIndex", "toArray", "()[J"⟩ : MethodName) prog_12_method_8_code 3 (some (.array .long)) ws ({ frames := 0, cells := 1, slots := 2, locals := 0 } : Room) #[(.ref a1)] h0 (Q6_2 Z a1 b1 b2 r0 r1 r2 r3 r4 r5 r6 r7 r8 r9 r10 r11 r12 r13 r14 r15 t0 t1 t2 t3 t4 t5 t6 t7 t8 t9 t10 t11 t12 t13 t14 t15 h0 n0) := by
  refine MetFree.of_bodySF (plainFor_of_name pn_com_example_obliv_obliv_io_SegmentIndex) hisR ?_
  intro p e s m args below meth c s₁ Bd hml0 hP hK
  obtain ⟨rfl, hZ, hh⟩ := hP
  have hx := Bd.exec
  have hby := Bd.bytes
  have hml : c.maxLocals = 3 := hml0
  have hown : s.vm.findClass "com/example/obliv/obliv/io/SegmentIndex" = some m.cls := findClass_of_methodNamed Bd.named
  have hnm := (name_of_methodNamed Bd.named Bd.method).1
  have hlk : meth.locks = false := BodyLoose.notSynchronized Bd
  have X0 : Stand p l e ({ frames := 0, cells := 1, slots := 2, locals := 0 } : Room) s m #[(.ref a1)] below meth c s₁ [] 0 0 := Stand.of_body Bd
  have e0 : s₁.heap = h0 := by rw [← hh, Bd.state]; rfl
  have N0 := Fr.nil n0
  show GG p e below s ({ frames := 0, cells := 1, slots := 2, locals := 0 } : Room).cells ({ frames := 0, cells := 1, slots := 2, locals := 0 } : Room).slots (Q6_2 Z a1 b1 b2 r0 r1 r2 r3 r4 r5 r6 r7 r8 r9 r10 r11 r12 r13 r14 r15 t0 t1 t2 t3 t4 t5 t6 t7 t8 t9 t10 t11 t12 t13 t14 t15 h0 n0) s₁ (entryFrame m #[(.ref a1)] 3)
  refine own_in (ef_6 m a1) ?_
  show GG _ _ _ _ _ _ _ s₁ (mkF m 0 #[.val (.ref a1), .unset, .unset] [])
  refine own_go (fun _ => XS.iconst X0.here hx rfl (hb hby d6_0)) ?_
  show GG _ _ _ _ _ _ _ s₁ (mkF m 1 #[.val (.ref a1), .unset, .unset] [(.int (2 : Int32))])
  refine own_go (fun _ => XS.aloadN X0.here hx rfl (hb hby d6_1) rfl rfl) ?_
  show GG _ _ _ _ _ _ _ s₁ (mkF m 2 #[.val (.ref a1), .unset, .unset] [(.ref a1), (.int (2 : Int32))])
  obtain ⟨T1, X1, e1, st1⟩ := getF X0 hx hZ hown (host := "") (Or.inl (hw _ (List.mem_of_getElem? (i := 23) rfl))) Via.refl e0 F_s (g := (mkF m 2 #[.val (.ref a1), .unset, .unset] [(.ref a1), (.int (2 : Int32))])) rfl rfl (hb hby d6_2)
  refine own_go (fun _ => st1 _) ?_
  show GG _ _ _ _ _ _ _ T1 (mkF m 5 #[.val (.ref a1), .unset, .unset] [(.int (2 : Int32)), (.int (2 : Int32))])
  refine own_go (fun _ => XS.iconst X1.here hx rfl (hb hby d6_5)) ?_
  show GG _ _ _ _ _ _ _ T1 (mkF m 6 #[.val (.ref a1), .unset, .unset] [(.int (1 : Int32)), (.int (2 : Int32)), (.int (2 : Int32))])
  refine own_go (fun _ => XS.isub X1.here hx rfl (hb hby d6_6) rfl) ?_
  show GG _ _ _ _ _ _ _ T1 (mkF m 7 #[.val (.ref a1), .unset, .unset] [(.int (1 : Int32)), (.int (2 : Int32))])
  refine own_go (fun _ => XS.imul X1.here hx rfl (hb hby d6_7) rfl) ?_
  show GG _ _ _ _ _ _ _ T1 (mkF m 8 #[.val (.ref a1), .unset, .unset] [(.int (2 : Int32))])
  have K0 := Keep.refl h0 []
  obtain ⟨T2, h2, ob2, g2, X2, e2, E2, V_ob2, E_ob2, st2⟩ := own_newarr X1 hx hZ (hw _ (List.mem_of_getElem? (i := 13) rfl)) e1 (g := (mkF m 8 #[.val (.ref a1), .unset, .unset] [(.int (2 : Int32))])) rfl (hb hby d6_8) rfl (by decide) (cap := 2) (by decide) (by decide) (by decide) (by decide) (ad := "[J") (by decide)
  have ne_a1_ob2 : a1 ≠ ob2 := Nat.ne_of_lt (Nat.lt_of_lt_of_le F_s.lt (Nat.le_of_eq g2.symm))
  have ne_b1_ob2 : b1 ≠ ob2 := Nat.ne_of_lt (Nat.lt_of_lt_of_le V_r.lt (Nat.le_of_eq g2.symm))
  have ne_b2_ob2 : b2 ≠ ob2 := Nat.ne_of_lt (Nat.lt_of_lt_of_le V_p.lt (Nat.le_of_eq g2.symm))
  have sz_ob2 : h0.size ≤ ob2 := Nat.le_trans K0.1 (Nat.le_of_eq g2.symm)
  have g_ob2 : n0 ≤ ob2 := Nat.le_trans Z0 sz_ob2
  have F_s := F_s.ext E2
  have F_r := F_r.ext E2
  have F_p := F_p.ext E2
  have V_r := V_r.ext E2
  have V_p := V_p.ext E2
  have K0 := K0.ext E2
  have V_ob2 : Arx Z h2 ob2 .long [(.long (0 : Int64)), (.long (0 : Int64))] := V_ob2
  refine own_go (fun _ => st2 _) ?_
  show GG _ _ _ _ _ _ _ T2 (mkF m 10 #[.val (.ref a1), .unset, .unset] [(.ref ob2)])
  refine own_go (fun _ => XS.astoreN X2.here hx rfl (hb hby d6_10) rfl rfl (l' := #[.val (.ref a1), .val (.ref ob2), .unset]) rfl) ?_
  show GG _ _ _ _ _ _ _ T2 (mkF m 11 #[.val (.ref a1), .val (.ref ob2), .unset] [])
  refine own_go (fun _ => XS.iconst X2.here hx rfl (hb hby d6_11)) ?_
  show GG _ _ _ _ _ _ _ T2 (mkF m 12 #[.val (.ref a1), .val (.ref ob2), .unset] [(.int (1 : Int32))])
  refine own_go (fun _ => XS.istoreN X2.here hx rfl (hb hby d6_12) rfl (l' := #[.val (.ref a1), .val (.ref ob2), .val (.int (1 : Int32))]) rfl) ?_
  show GG _ _ _ _ _ _ _ T2 (mkF m 13 #[.val (.ref a1), .val (.ref ob2), .val (.int (1 : Int32))] [])
  refine own_go (fun _ => XS.iloadN X2.here hx rfl (hb hby d6_13) rfl) ?_
  show GG _ _ _ _ _ _ _ T2 (mkF m 14 #[.val (.ref a1), .val (.ref ob2), .val (.int (1 : Int32))] [(.int (1 : Int32))])
  refine own_go (fun _ => XS.aloadN X2.here hx rfl (hb hby d6_14) rfl rfl) ?_
  show GG _ _ _ _ _ _ _ T2 (mkF m 15 #[.val (.ref a1), .val (.ref ob2), .val (.int (1 : Int32))] [(.ref a1), (.int (1 : Int32))])
  obtain ⟨T3, X3, e3, st3⟩ := getF X2 hx hZ hown (host := "") (Or.inl (hw _ (List.mem_of_getElem? (i := 23) rfl))) Via.refl e2 F_s (g := (mkF m 15 #[.val (.ref a1), .val (.ref ob2), .val (.int (1 : Int32))] [(.ref a1), (.int (1 : Int32))])) rfl rfl (hb hby d6_15)
  refine own_go (fun _ => st3 _) ?_
  show GG _ _ _ _ _ _ _ T3 (mkF m 18 #[.val (.ref a1), .val (.ref ob2), .val (.int (1 : Int32))] [(.int (2 : Int32)), (.int (1 : Int32))])
  have hc18 : (1 : Int32) < (2 : Int32) := by decide
  refine own_go (fun _ => XS.icmpNo X3.here hx rfl (hb hby d6_18) rfl (tlt hc18).2.1) ?_
  show GG _ _ _ _ _ _ _ T3 (mkF m 21 #[.val (.ref a1), .val (.ref ob2), .val (.int (1 : Int32))] [])
  refine own_go (fun _ => XS.aloadN X3.here hx rfl (hb hby d6_21) rfl rfl) ?_
  show GG _ _ _ _ _ _ _ T3 (mkF m 22 #[.val (.ref a1), .val (.ref ob2), .val (.int (1 : Int32))] [(.ref ob2)])
  refine own_go (fun _ => XS.iconst X3.here hx rfl (hb hby d6_22)) ?_
  show GG _ _ _ _ _ _ _ T3 (mkF m 23 #[.val (.ref a1), .val (.ref ob2), .val (.int (1 : Int32))] [(.int (2 : Int32)), (.ref ob2)])
  refine own_go (fun _ => XS.iloadN X3.here hx rfl (hb hby d6_23) rfl) ?_
  show GG _ _ _ _ _ _ _ T3 (mkF m 24 #[.val (.ref a1), .val (.ref ob2), .val (.int (1 : Int32))] [(.int (1 : Int32)), (.int (2 : Int32)), (.ref ob2)])
  refine own_go (fun _ => XS.iconst X3.here hx rfl (hb hby d6_24)) ?_
  show GG _ _ _ _ _ _ _ T3 (mkF m 25 #[.val (.ref a1), .val (.ref ob2), .val (.int (1 : Int32))] [(.int (1 : Int32)), (.int (1 : Int32)), (.int (2 : Int32)), (.ref ob2)])
  refine own_go (fun _ => XS.isub X3.here hx rfl (hb hby d6_25) rfl) ?_
  show GG _ _ _ _ _ _ _ T3 (mkF m 26 #[.val (.ref a1), .val (.ref ob2), .val (.int (1 : Int32))] [(.int (0 : Int32)), (.int (2 : Int32)), (.ref ob2)])
  refine own_go (fun _ => XS.imul X3.here hx rfl (hb hby d6_26) rfl) ?_
  show GG _ _ _ _ _ _ _ T3 (mkF m 27 #[.val (.ref a1), .val (.ref ob2), .val (.int (1 : Int32))] [(.int (0 : Int32)), (.ref ob2)])
  refine own_go (fun _ => XS.aloadN X3.here hx rfl (hb hby d6_27) rfl rfl) ?_
  show GG _ _ _ _ _ _ _ T3 (mkF m 28 #[.val (.ref a1), .val (.ref ob2), .val (.int (1 : Int32))] [(.ref a1), (.int (0 : Int32)), (.ref ob2)])
  obtain ⟨T4, X4, e4, st4⟩ := getF X3 hx hZ hown (host := "") (Or.inl (hw _ (List.mem_of_getElem? (i := 14) rfl))) Via.refl e3 F_r (g := (mkF m 28 #[.val (.ref a1), .val (.ref ob2), .val (.int (1 : Int32))] [(.ref a1), (.int (0 : Int32)), (.ref ob2)])) rfl rfl (hb hby d6_28)
  refine own_go (fun _ => st4 _) ?_
  show GG _ _ _ _ _ _ _ T4 (mkF m 31 #[.val (.ref a1), .val (.ref ob2), .val (.int (1 : Int32))] [(.ref b1), (.int (0 : Int32)), (.ref ob2)])
  refine own_go (fun _ => XS.iloadN X4.here hx rfl (hb hby d6_31) rfl) ?_
  show GG _ _ _ _ _ _ _ T4 (mkF m 32 #[.val (.ref a1), .val (.ref ob2), .val (.int (1 : Int32))] [(.int (1 : Int32)), (.ref b1), (.int (0 : Int32)), (.ref ob2)])
  refine own_go (fun _ => own_laload X4 hx hZ e4 V_r (j := (1 : Int32)) (v := (.long r1)) (by decide) rfl (g := (mkF m 32 #[.val (.ref a1), .val (.ref ob2), .val (.int (1 : Int32))] [(.int (1 : Int32)), (.ref b1), (.int (0 : Int32)), (.ref ob2)])) rfl rfl (hb hby d6_32) _) ?_
  show GG _ _ _ _ _ _ _ T4 (mkF m 33 #[.val (.ref a1), .val (.ref ob2), .val (.int (1 : Int32))] [(.long r1), (.int (0 : Int32)), (.ref ob2)])
  obtain ⟨T5, h5, X5, e5, W5, V5, st5⟩ := own_lastore X4 hx hZ e4 V_ob2 (by decide) (Nat.le_of_ble_eq_true rfl) (g := (mkF m 33 #[.val (.ref a1), .val (.ref ob2), .val (.int (1 : Int32))] [(.long r1), (.int (0 : Int32)), (.ref ob2)])) rfl rfl (hb hby d6_33)
  have F_s := F_s.other W5 (Or.inl ne_a1_ob2)
  have F_r := F_r.other W5 (Or.inl ne_a1_ob2)
  have F_p := F_p.other W5 (Or.inl ne_a1_ob2)
  have V_r := V_r.other W5 ne_b1_ob2
  have V_p := V_p.other W5 ne_b2_ob2
  have K0 := K0.wr W5 (Or.inr sz_ob2)
  have E_ob2 := E_ob2.wr W5
  have V_ob2 : Arx Z h5 ob2 .long [(.long r1), (.long (0 : Int64))] := V5
  have N5 := Fr.snoc X5 N0 g_ob2
  refine own_go (fun _ => st5 _) ?_
  show GG _ _ _ _ _ _ _ T5 (mkF m 34 #[.val (.ref a1), .val (.ref ob2), .val (.int (1 : Int32))] [])
  refine own_go (fun _ => XS.aloadN X5.here hx rfl (hb hby d6_34) rfl rfl) ?_
  show GG _ _ _ _ _ _ _ T5 (mkF m 35 #[.val (.ref a1), .val (.ref ob2), .val (.int (1 : Int32))] [(.ref ob2)])
  refine own_go (fun _ => XS.iconst X5.here hx rfl (hb hby d6_35)) ?_
  show GG _ _ _ _ _ _ _ T5 (mkF m 36 #[.val (.ref a1), .val (.ref ob2), .val (.int (1 : Int32))] [(.int (2 : Int32)), (.ref ob2)])
  refine own_go (fun _ => XS.iloadN X5.here hx rfl (hb hby d6_36) rfl) ?_
  show GG _ _ _ _ _ _ _ T5 (mkF m 37 #[.val (.ref a1), .val (.ref ob2), .val (.int (1 : Int32))] [(.int (1 : Int32)), (.int (2 : Int32)), (.ref ob2)])
  refine own_go (fun _ => XS.iconst X5.here hx rfl (hb hby d6_37)) ?_
  show GG _ _ _ _ _ _ _ T5 (mkF m 38 #[.val (.ref a1), .val (.ref ob2), .val (.int (1 : Int32))] [(.int (1 : Int32)), (.int (1 : Int32)), (.int (2 : Int32)), (.ref ob2)])
  refine own_go (fun _ => XS.isub X5.here hx rfl (hb hby d6_38) rfl) ?_
  show GG _ _ _ _ _ _ _ T5 (mkF m 39 #[.val (.ref a1), .val (.ref ob2), .val (.int (1 : Int32))] [(.int (0 : Int32)), (.int (2 : Int32)), (.ref ob2)])
  refine own_go (fun _ => XS.imul X5.here hx rfl (hb hby d6_39) rfl) ?_
  show GG _ _ _ _ _ _ _ T5 (mkF m 40 #[.val (.ref a1), .val (.ref ob2), .val (.int (1 : Int32))] [(.int (0 : Int32)), (.ref ob2)])
  refine own_go (fun _ => XS.iconst X5.here hx rfl (hb hby d6_40)) ?_
  show GG _ _ _ _ _ _ _ T5 (mkF m 41 #[.val (.ref a1), .val (.ref ob2), .val (.int (1 : Int32))] [(.int (1 : Int32)), (.int (0 : Int32)), (.ref ob2)])
  refine own_go (fun _ => XS.iadd X5.here hx rfl (hb hby d6_41) rfl) ?_
  show GG _ _ _ _ _ _ _ T5 (mkF m 42 #[.val (.ref a1), .val (.ref ob2), .val (.int (1 : Int32))] [(.int (1 : Int32)), (.ref ob2)])
  refine own_go (fun _ => XS.aloadN X5.here hx rfl (hb hby d6_42) rfl rfl) ?_
  show GG _ _ _ _ _ _ _ T5 (mkF m 43 #[.val (.ref a1), .val (.ref ob2), .val (.int (1 : Int32))] [(.ref a1), (.int (1 : Int32)), (.ref ob2)])
  obtain ⟨T6, X6, e6, st6⟩ := getF X5 hx hZ hown (host := "") (Or.inl (hw _ (List.mem_of_getElem? (i := 16) rfl))) Via.refl e5 F_p (g := (mkF m 43 #[.val (.ref a1), .val (.ref ob2), .val (.int (1 : Int32))] [(.ref a1), (.int (1 : Int32)), (.ref ob2)])) rfl rfl (hb hby d6_43)
  refine own_go (fun _ => st6 _) ?_
  show GG _ _ _ _ _ _ _ T6 (mkF m 46 #[.val (.ref a1), .val (.ref ob2), .val (.int (1 : Int32))] [(.ref b2), (.int (1 : Int32)), (.ref ob2)])
  refine own_go (fun _ => XS.iloadN X6.here hx rfl (hb hby d6_46) rfl) ?_
  show GG _ _ _ _ _ _ _ T6 (mkF m 47 #[.val (.ref a1), .val (.ref ob2), .val (.int (1 : Int32))] [(.int (1 : Int32)), (.ref b2), (.int (1 : Int32)), (.ref ob2)])
  refine own_go (fun _ => own_laload X6 hx hZ e6 V_p (j := (1 : Int32)) (v := (.long t1)) (by decide) rfl (g := (mkF m 47 #[.val (.ref a1), .val (.ref ob2), .val (.int (1 : Int32))] [(.int (1 : Int32)), (.ref b2), (.int (1 : Int32)), (.ref ob2)])) rfl rfl (hb hby d6_47) _) ?_
  show GG _ _ _ _ _ _ _ T6 (mkF m 48 #[.val (.ref a1), .val (.ref ob2), .val (.int (1 : Int32))] [(.long t1), (.int (1 : Int32)), (.ref ob2)])
  obtain ⟨T7, h7, X7, e7, W7, V7, st7⟩ := own_lastore X6 hx hZ e6 V_ob2 (by decide) (Nat.le_of_ble_eq_true rfl) (g := (mkF m 48 #[.val (.ref a1), .val (.ref ob2), .val (.int (1 : Int32))] [(.long t1), (.int (1 : Int32)), (.ref ob2)])) rfl rfl (hb hby d6_48)
  have F_s := F_s.other W7 (Or.inl ne_a1_ob2)
  have F_r := F_r.other W7 (Or.inl ne_a1_ob2)
  have F_p := F_p.other W7 (Or.inl ne_a1_ob2)
  have V_r := V_r.other W7 ne_b1_ob2
  have V_p := V_p.other W7 ne_b2_ob2
  have K0 := K0.wr W7 (Or.inr sz_ob2)
  have E_ob2 := E_ob2.wr W7
  have V_ob2 : Arx Z h7 ob2 .long [(.long r1), (.long t1)] := V7
  have N7 := Fr.snoc X7 N5 g_ob2
  refine own_go (fun _ => st7 _) ?_
  show GG _ _ _ _ _ _ _ T7 (mkF m 49 #[.val (.ref a1), .val (.ref ob2), .val (.int (1 : Int32))] [])
  refine own_go (fun _ => XS.iinc X7.here hx rfl (hb hby d6_49) rfl (l' := #[.val (.ref a1), .val (.ref ob2), .val (.int (2 : Int32))]) rfl) ?_
  show GG _ _ _ _ _ _ _ T7 (mkF m 52 #[.val (.ref a1), .val (.ref ob2), .val (.int (2 : Int32))] [])
  refine own_go (fun _ => XS.goto X7.here hx rfl (pc0 := 52) (pc' := 13) rfl (hb hby d6_52) (by decide) (by decide)) ?_
  show GG _ _ _ _ _ _ _ T7 (mkF m 13 #[.val (.ref a1), .val (.ref ob2), .val (.int (2 : Int32))] [])
  refine own_go (fun _ => XS.iloadN X7.here hx rfl (hb hby d6_13) rfl) ?_
  show GG _ _ _ _ _ _ _ T7 (mkF m 14 #[.val (.ref a1), .val (.ref ob2), .val (.int (2 : Int32))] [(.int (2 : Int32))])
  refine own_go (fun _ => XS.aloadN X7.here hx rfl (hb hby d6_14) rfl rfl) ?_
  show GG _ _ _ _ _ _ _ T7 (mkF m 15 #[.val (.ref a1), .val (.ref ob2), .val (.int (2 : Int32))] [(.ref a1), (.int (2 : Int32))])
  obtain ⟨T8, X8, e8, st8⟩ := getF X7 hx hZ hown (host := "") (Or.inl (hw _ (List.mem_of_getElem? (i := 23) rfl))) Via.refl e7 F_s (g := (mkF m 15 #[.val (.ref a1), .val (.ref ob2), .val (.int (2 : Int32))] [(.ref a1), (.int (2 : Int32))])) rfl rfl (hb hby d6_15)
  refine own_go (fun _ => st8 _) ?_
  show GG _ _ _ _ _ _ _ T8 (mkF m 18 #[.val (.ref a1), .val (.ref ob2), .val (.int (2 : Int32))] [(.int (2 : Int32)), (.int (2 : Int32))])
  have hc18 : ¬ ((2 : Int32) < (2 : Int32)) := by decide
  refine own_go (fun _ => XS.icmpYes X8.here hx rfl (pc0 := 18) (pc' := 55) rfl (hb hby d6_18) rfl (flt hc18).2.1 (by decide) (by decide)) ?_
  show GG _ _ _ _ _ _ _ T8 (mkF m 55 #[.val (.ref a1), .val (.ref ob2), .val (.int (2 : Int32))] [])
  refine own_go (fun _ => XS.aloadN X8.here hx rfl (hb hby d6_55) rfl rfl) ?_
  show GG _ _ _ _ _ _ _ T8 (mkF m 56 #[.val (.ref a1), .val (.ref ob2), .val (.int (2 : Int32))] [(.ref ob2)])
  refine own_ret X8 hx hlk (t := (.array .long)) (w := (.ref ob2)) Bd.returns rfl (Or.inr (Or.inr (Or.inr (Or.inr ⟨rfl, rfl, rfl⟩)))) (hb hby d6_56) (by decide) (by decide) ?_
  show Q6_2 Z a1 b1 b2 r0 r1 r2 r3 r4 r5 r6 r7 r8 r9 r10 r11 r12 r13 r14 r15 t0 t1 t2 t3 t4 t5 t6 t7 t8 t9 t10 t11 t12 t13 t14 t15 h0 n0 (some (.ref ob2)) T8.heap _
  rw [e8]
  exact ⟨_, rfl, N7, sz_ob2, K0, V_ob2⟩
def Q6_3 (Z : State) (a1 : Addr) (b1 b2 : Addr) (r0 r1 r2 r3 r4 r5 r6 r7 r8 r9 r10 r11 r12 r13 r14 r15 : Int64) (t0 t1 t2 t3 t4 t5 t6 t7 t8 t9 t10 t11 t12 t13 t14 t15 : Int64) (h0 : Heap) (n0 : Nat) (v : Option Value) (h : Heap) (L : List Loc) : Prop := ∃ b, v = some (.ref b) ∧ Fr n0 L ∧ h0.size ≤ b ∧ Keep h0 h [] ∧ Arx Z h b .long [(.long r1), (.long t1), (.long r2), (.long t2)]
set_option maxRecDepth 65536 in
set_option maxHeartbeats 40000000 in
theorem rm6_3 (l : Launch) (Z : State) (a0 : Array Value) (hw : ∀ d ∈ tables_1, d.before a0 Z = true) (ws : List Jvm.Cond) (a1 : Addr) (b1 b2 : Addr) (r0 r1 r2 r3 r4 r5 r6 r7 r8 r9 r10 r11 r12 r13 r14 r15 : Int64) (t0 t1 t2 t3 t4 t5 t6 t7 t8 t9 t10 t11 t12 t13 t14 t15 : Int64) (h0 : Heap) (n0 : Nat) (Z0 : n0 ≤ h0.size) (F_s : Fld Z h0 a1 "com/example/obliv/obliv/io/SegmentIndex" "size" "I" (.int (3 : Int32))) (F_r : Fld Z h0 a1 "com/example/obliv/obliv/io/SegmentIndex" "records" "[J" (.ref b1)) (F_p : Fld Z h0 a1 "com/example/obliv/obliv/io/SegmentIndex" "positions" "[J" (.ref b2)) (V_r : Arx Z h0 b1 .long [(.long r0), (.long r1), (.long r2), (.long r3), (.long r4), (.long r5), (.long r6), (.long r7), (.long r8), (.long r9), (.long r10), (.long r11), (.long r12), (.long r13), (.long r14), (.long r15)]) (V_p : Arx Z h0 b2 .long [(.long t0), (.long t1), (.long t2), (.long t3), (.long t4), (.long t5), (.long t6), (.long t7), (.long t8), (.long t9), (.long t10), (.long t11), (.long t12), (.long t13), (.long t14), (.long t15)]) :
    own_CT l Z (⟨"com/example/obliv/obliv/io/SegmentIndex", "toArray", "()[J"⟩ : MethodName) prog_12_method_8_code 3 (some (.array .long)) ws ({ frames := 0, cells := 1, slots := 4, locals := 0 } : Room) #[(.ref a1)] h0 (Q6_3 Z a1 b1 b2 r0 r1 r2 r3 r4 r5 r6 r7 r8 r9 r10 r11 r12 r13 r14 r15 t0 t1 t2 t3 t4 t5 t6 t7 t8 t9 t10 t11 t12 t13 t14 t15 h0 n0) := by
  refine MetFree.of_bodySF (plainFor_of_name pn_com_example_obliv_obliv_io_SegmentIndex) hisR ?_
  intro p e s m args below meth c s₁ Bd hml0 hP hK
  obtain ⟨rfl, hZ, hh⟩ := hP
  have hx := Bd.exec
  have hby := Bd.bytes
  have hml : c.maxLocals = 3 := hml0
  have hown : s.vm.findClass "com/example/obliv/obliv/io/SegmentIndex" = some m.cls := findClass_of_methodNamed Bd.named
  have hnm := (name_of_methodNamed Bd.named Bd.method).1
  have hlk : meth.locks = false := BodyLoose.notSynchronized Bd
  have X0 : Stand p l e ({ frames := 0, cells := 1, slots := 4, locals := 0 } : Room) s m #[(.ref a1)] below meth c s₁ [] 0 0 := Stand.of_body Bd
  have e0 : s₁.heap = h0 := by rw [← hh, Bd.state]; rfl
  have N0 := Fr.nil n0
  show GG p e below s ({ frames := 0, cells := 1, slots := 4, locals := 0 } : Room).cells ({ frames := 0, cells := 1, slots := 4, locals := 0 } : Room).slots (Q6_3 Z a1 b1 b2 r0 r1 r2 r3 r4 r5 r6 r7 r8 r9 r10 r11 r12 r13 r14 r15 t0 t1 t2 t3 t4 t5 t6 t7 t8 t9 t10 t11 t12 t13 t14 t15 h0 n0) s₁ (entryFrame m #[(.ref a1)] 3)
  refine own_in (ef_6 m a1) ?_
  show GG _ _ _ _ _ _ _ s₁ (mkF m 0 #[.val (.ref a1), .unset, .unset] [])
  refine own_go (fun _ => XS.iconst X0.here hx rfl (hb hby d6_0)) ?_
  show GG _ _ _ _ _ _ _ s₁ (mkF m 1 #[.val (.ref a1), .unset, .unset] [(.int (2 : Int32))])
  refine own_go (fun _ => XS.aloadN X0.here hx rfl (hb hby d6_1) rfl rfl) ?_
  show GG _ _ _ _ _ _ _ s₁ (mkF m 2 #[.val (.ref a1), .unset, .unset] [(.ref a1), (.int (2 : Int32))])
  obtain ⟨T1, X1, e1, st1⟩ := getF X0 hx hZ hown (host := "") (Or.inl (hw _ (List.mem_of_getElem? (i := 23) rfl))) Via.refl e0 F_s (g := (mkF m 2 #[.val (.ref a1), .unset, .unset] [(.ref a1), (.int (2 : Int32))])) rfl rfl (hb hby d6_2)
  refine own_go (fun _ => st1 _) ?_
  show GG _ _ _ _ _ _ _ T1 (mkF m 5 #[.val (.ref a1), .unset, .unset] [(.int (3 : Int32)), (.int (2 : Int32))])
  refine own_go (fun _ => XS.iconst X1.here hx rfl (hb hby d6_5)) ?_
  show GG _ _ _ _ _ _ _ T1 (mkF m 6 #[.val (.ref a1), .unset, .unset] [(.int (1 : Int32)), (.int (3 : Int32)), (.int (2 : Int32))])
  refine own_go (fun _ => XS.isub X1.here hx rfl (hb hby d6_6) rfl) ?_
  show GG _ _ _ _ _ _ _ T1 (mkF m 7 #[.val (.ref a1), .unset, .unset] [(.int (2 : Int32)), (.int (2 : Int32))])
  refine own_go (fun _ => XS.imul X1.here hx rfl (hb hby d6_7) rfl) ?_
  show GG _ _ _ _ _ _ _ T1 (mkF m 8 #[.val (.ref a1), .unset, .unset] [(.int (4 : Int32))])
  have K0 := Keep.refl h0 []
  obtain ⟨T2, h2, ob2, g2, X2, e2, E2, V_ob2, E_ob2, st2⟩ := own_newarr X1 hx hZ (hw _ (List.mem_of_getElem? (i := 13) rfl)) e1 (g := (mkF m 8 #[.val (.ref a1), .unset, .unset] [(.int (4 : Int32))])) rfl (hb hby d6_8) rfl (by decide) (cap := 4) (by decide) (by decide) (by decide) (by decide) (ad := "[J") (by decide)
  have ne_a1_ob2 : a1 ≠ ob2 := Nat.ne_of_lt (Nat.lt_of_lt_of_le F_s.lt (Nat.le_of_eq g2.symm))
  have ne_b1_ob2 : b1 ≠ ob2 := Nat.ne_of_lt (Nat.lt_of_lt_of_le V_r.lt (Nat.le_of_eq g2.symm))
  have ne_b2_ob2 : b2 ≠ ob2 := Nat.ne_of_lt (Nat.lt_of_lt_of_le V_p.lt (Nat.le_of_eq g2.symm))
  have sz_ob2 : h0.size ≤ ob2 := Nat.le_trans K0.1 (Nat.le_of_eq g2.symm)
  have g_ob2 : n0 ≤ ob2 := Nat.le_trans Z0 sz_ob2
  have F_s := F_s.ext E2
  have F_r := F_r.ext E2
  have F_p := F_p.ext E2
  have V_r := V_r.ext E2
  have V_p := V_p.ext E2
  have K0 := K0.ext E2
  have V_ob2 : Arx Z h2 ob2 .long [(.long (0 : Int64)), (.long (0 : Int64)), (.long (0 : Int64)), (.long (0 : Int64))] := V_ob2
  refine own_go (fun _ => st2 _) ?_
  show GG _ _ _ _ _ _ _ T2 (mkF m 10 #[.val (.ref a1), .unset, .unset] [(.ref ob2)])
  refine own_go (fun _ => XS.astoreN X2.here hx rfl (hb hby d6_10) rfl rfl (l' := #[.val (.ref a1), .val (.ref ob2), .unset]) rfl) ?_
  show GG _ _ _ _ _ _ _ T2 (mkF m 11 #[.val (.ref a1), .val (.ref ob2), .unset] [])
  refine own_go (fun _ => XS.iconst X2.here hx rfl (hb hby d6_11)) ?_
  show GG _ _ _ _ _ _ _ T2 (mkF m 12 #[.val (.ref a1), .val (.ref ob2), .unset] [(.int (1 : Int32))])
  refine own_go (fun _ => XS.istoreN X2.here hx rfl (hb hby d6_12) rfl (l' := #[.val (.ref a1), .val (.ref ob2), .val (.int (1 : Int32))]) rfl) ?_
  show GG _ _ _ _ _ _ _ T2 (mkF m 13 #[.val (.ref a1), .val (.ref ob2), .val (.int (1 : Int32))] [])
  refine own_go (fun _ => XS.iloadN X2.here hx rfl (hb hby d6_13) rfl) ?_
  show GG _ _ _ _ _ _ _ T2 (mkF m 14 #[.val (.ref a1), .val (.ref ob2), .val (.int (1 : Int32))] [(.int (1 : Int32))])
  refine own_go (fun _ => XS.aloadN X2.here hx rfl (hb hby d6_14) rfl rfl) ?_
  show GG _ _ _ _ _ _ _ T2 (mkF m 15 #[.val (.ref a1), .val (.ref ob2), .val (.int (1 : Int32))] [(.ref a1), (.int (1 : Int32))])
  obtain ⟨T3, X3, e3, st3⟩ := getF X2 hx hZ hown (host := "") (Or.inl (hw _ (List.mem_of_getElem? (i := 23) rfl))) Via.refl e2 F_s (g := (mkF m 15 #[.val (.ref a1), .val (.ref ob2), .val (.int (1 : Int32))] [(.ref a1), (.int (1 : Int32))])) rfl rfl (hb hby d6_15)
  refine own_go (fun _ => st3 _) ?_
  show GG _ _ _ _ _ _ _ T3 (mkF m 18 #[.val (.ref a1), .val (.ref ob2), .val (.int (1 : Int32))] [(.int (3 : Int32)), (.int (1 : Int32))])
  have hc18 : (1 : Int32) < (3 : Int32) := by decide
  refine own_go (fun _ => XS.icmpNo X3.here hx rfl (hb hby d6_18) rfl (tlt hc18).2.1) ?_
  show GG _ _ _ _ _ _ _ T3 (mkF m 21 #[.val (.ref a1), .val (.ref ob2), .val (.int (1 : Int32))] [])
  refine own_go (fun _ => XS.aloadN X3.here hx rfl (hb hby d6_21) rfl rfl) ?_
  show GG _ _ _ _ _ _ _ T3 (mkF m 22 #[.val (.ref a1), .val (.ref ob2), .val (.int (1 : Int32))] [(.ref ob2)])
  refine own_go (fun _ => XS.iconst X3.here hx rfl (hb hby d6_22)) ?_
  show GG _ _ _ _ _ _ _ T3 (mkF m 23 #[.val (.ref a1), .val (.ref ob2), .val (.int (1 : Int32))] [(.int (2 : Int32)), (.ref ob2)])
  refine own_go (fun _ => XS.iloadN X3.here hx rfl (hb hby d6_23) rfl) ?_
  show GG _ _ _ _ _ _ _ T3 (mkF m 24 #[.val (.ref a1), .val (.ref ob2), .val (.int (1 : Int32))] [(.int (1 : Int32)), (.int (2 : Int32)), (.ref ob2)])
  refine own_go (fun _ => XS.iconst X3.here hx rfl (hb hby d6_24)) ?_
  show GG _ _ _ _ _ _ _ T3 (mkF m 25 #[.val (.ref a1), .val (.ref ob2), .val (.int (1 : Int32))] [(.int (1 : Int32)), (.int (1 : Int32)), (.int (2 : Int32)), (.ref ob2)])
  refine own_go (fun _ => XS.isub X3.here hx rfl (hb hby d6_25) rfl) ?_
  show GG _ _ _ _ _ _ _ T3 (mkF m 26 #[.val (.ref a1), .val (.ref ob2), .val (.int (1 : Int32))] [(.int (0 : Int32)), (.int (2 : Int32)), (.ref ob2)])
  refine own_go (fun _ => XS.imul X3.here hx rfl (hb hby d6_26) rfl) ?_
  show GG _ _ _ _ _ _ _ T3 (mkF m 27 #[.val (.ref a1), .val (.ref ob2), .val (.int (1 : Int32))] [(.int (0 : Int32)), (.ref ob2)])
  refine own_go (fun _ => XS.aloadN X3.here hx rfl (hb hby d6_27) rfl rfl) ?_
  show GG _ _ _ _ _ _ _ T3 (mkF m 28 #[.val (.ref a1), .val (.ref ob2), .val (.int (1 : Int32))] [(.ref a1), (.int (0 : Int32)), (.ref ob2)])
  obtain ⟨T4, X4, e4, st4⟩ := getF X3 hx hZ hown (host := "") (Or.inl (hw _ (List.mem_of_getElem? (i := 14) rfl))) Via.refl e3 F_r (g := (mkF m 28 #[.val (.ref a1), .val (.ref ob2), .val (.int (1 : Int32))] [(.ref a1), (.int (0 : Int32)), (.ref ob2)])) rfl rfl (hb hby d6_28)
  refine own_go (fun _ => st4 _) ?_
  show GG _ _ _ _ _ _ _ T4 (mkF m 31 #[.val (.ref a1), .val (.ref ob2), .val (.int (1 : Int32))] [(.ref b1), (.int (0 : Int32)), (.ref ob2)])
  refine own_go (fun _ => XS.iloadN X4.here hx rfl (hb hby d6_31) rfl) ?_
  show GG _ _ _ _ _ _ _ T4 (mkF m 32 #[.val (.ref a1), .val (.ref ob2), .val (.int (1 : Int32))] [(.int (1 : Int32)), (.ref b1), (.int (0 : Int32)), (.ref ob2)])
  refine own_go (fun _ => own_laload X4 hx hZ e4 V_r (j := (1 : Int32)) (v := (.long r1)) (by decide) rfl (g := (mkF m 32 #[.val (.ref a1), .val (.ref ob2), .val (.int (1 : Int32))] [(.int (1 : Int32)), (.ref b1), (.int (0 : Int32)), (.ref ob2)])) rfl rfl (hb hby d6_32) _) ?_
  show GG _ _ _ _ _ _ _ T4 (mkF m 33 #[.val (.ref a1), .val (.ref ob2), .val (.int (1 : Int32))] [(.long r1), (.int (0 : Int32)), (.ref ob2)])
  obtain ⟨T5, h5, X5, e5, W5, V5, st5⟩ := own_lastore X4 hx hZ e4 V_ob2 (by decide) (Nat.le_of_ble_eq_true rfl) (g := (mkF m 33 #[.val (.ref a1), .val (.ref ob2), .val (.int (1 : Int32))] [(.long r1), (.int (0 : Int32)), (.ref ob2)])) rfl rfl (hb hby d6_33)
  have F_s := F_s.other W5 (Or.inl ne_a1_ob2)
  have F_r := F_r.other W5 (Or.inl ne_a1_ob2)
  have F_p := F_p.other W5 (Or.inl ne_a1_ob2)
  have V_r := V_r.other W5 ne_b1_ob2
  have V_p := V_p.other W5 ne_b2_ob2
  have K0 := K0.wr W5 (Or.inr sz_ob2)
  have E_ob2 := E_ob2.wr W5
  have V_ob2 : Arx Z h5 ob2 .long [(.long r1), (.long (0 : Int64)), (.long (0 : Int64)), (.long (0 : Int64))] := V5
  have N5 := Fr.snoc X5 N0 g_ob2
  refine own_go (fun _ => st5 _) ?_
  show GG _ _ _ _ _ _ _ T5 (mkF m 34 #[.val (.ref a1), .val (.ref ob2), .val (.int (1 : Int32))] [])
  refine own_go (fun _ => XS.aloadN X5.here hx rfl (hb hby d6_34) rfl rfl) ?_
  show GG _ _ _ _ _ _ _ T5 (mkF m 35 #[.val (.ref a1), .val (.ref ob2), .val (.int (1 : Int32))] [(.ref ob2)])
  refine own_go (fun _ => XS.iconst X5.here hx rfl (hb hby d6_35)) ?_
  show GG _ _ _ _ _ _ _ T5 (mkF m 36 #[.val (.ref a1), .val (.ref ob2), .val (.int (1 : Int32))] [(.int (2 : Int32)), (.ref ob2)])
  refine own_go (fun _ => XS.iloadN X5.here hx rfl (hb hby d6_36) rfl) ?_
  show GG _ _ _ _ _ _ _ T5 (mkF m 37 #[.val (.ref a1), .val (.ref ob2), .val (.int (1 : Int32))] [(.int (1 : Int32)), (.int (2 : Int32)), (.ref ob2)])
  refine own_go (fun _ => XS.iconst X5.here hx rfl (hb hby d6_37)) ?_
  show GG _ _ _ _ _ _ _ T5 (mkF m 38 #[.val (.ref a1), .val (.ref ob2), .val (.int (1 : Int32))] [(.int (1 : Int32)), (.int (1 : Int32)), (.int (2 : Int32)), (.ref ob2)])
  refine own_go (fun _ => XS.isub X5.here hx rfl (hb hby d6_38) rfl) ?_
  show GG _ _ _ _ _ _ _ T5 (mkF m 39 #[.val (.ref a1), .val (.ref ob2), .val (.int (1 : Int32))] [(.int (0 : Int32)), (.int (2 : Int32)), (.ref ob2)])
  refine own_go (fun _ => XS.imul X5.here hx rfl (hb hby d6_39) rfl) ?_
  show GG _ _ _ _ _ _ _ T5 (mkF m 40 #[.val (.ref a1), .val (.ref ob2), .val (.int (1 : Int32))] [(.int (0 : Int32)), (.ref ob2)])
  refine own_go (fun _ => XS.iconst X5.here hx rfl (hb hby d6_40)) ?_
  show GG _ _ _ _ _ _ _ T5 (mkF m 41 #[.val (.ref a1), .val (.ref ob2), .val (.int (1 : Int32))] [(.int (1 : Int32)), (.int (0 : Int32)), (.ref ob2)])
  refine own_go (fun _ => XS.iadd X5.here hx rfl (hb hby d6_41) rfl) ?_
  show GG _ _ _ _ _ _ _ T5 (mkF m 42 #[.val (.ref a1), .val (.ref ob2), .val (.int (1 : Int32))] [(.int (1 : Int32)), (.ref ob2)])
  refine own_go (fun _ => XS.aloadN X5.here hx rfl (hb hby d6_42) rfl rfl) ?_
  show GG _ _ _ _ _ _ _ T5 (mkF m 43 #[.val (.ref a1), .val (.ref ob2), .val (.int (1 : Int32))] [(.ref a1), (.int (1 : Int32)), (.ref ob2)])
  obtain ⟨T6, X6, e6, st6⟩ := getF X5 hx hZ hown (host := "") (Or.inl (hw _ (List.mem_of_getElem? (i := 16) rfl))) Via.refl e5 F_p (g := (mkF m 43 #[.val (.ref a1), .val (.ref ob2), .val (.int (1 : Int32))] [(.ref a1), (.int (1 : Int32)), (.ref ob2)])) rfl rfl (hb hby d6_43)
  refine own_go (fun _ => st6 _) ?_
  show GG _ _ _ _ _ _ _ T6 (mkF m 46 #[.val (.ref a1), .val (.ref ob2), .val (.int (1 : Int32))] [(.ref b2), (.int (1 : Int32)), (.ref ob2)])
  refine own_go (fun _ => XS.iloadN X6.here hx rfl (hb hby d6_46) rfl) ?_
  show GG _ _ _ _ _ _ _ T6 (mkF m 47 #[.val (.ref a1), .val (.ref ob2), .val (.int (1 : Int32))] [(.int (1 : Int32)), (.ref b2), (.int (1 : Int32)), (.ref ob2)])
  refine own_go (fun _ => own_laload X6 hx hZ e6 V_p (j := (1 : Int32)) (v := (.long t1)) (by decide) rfl (g := (mkF m 47 #[.val (.ref a1), .val (.ref ob2), .val (.int (1 : Int32))] [(.int (1 : Int32)), (.ref b2), (.int (1 : Int32)), (.ref ob2)])) rfl rfl (hb hby d6_47) _) ?_
  show GG _ _ _ _ _ _ _ T6 (mkF m 48 #[.val (.ref a1), .val (.ref ob2), .val (.int (1 : Int32))] [(.long t1), (.int (1 : Int32)), (.ref ob2)])
  obtain ⟨T7, h7, X7, e7, W7, V7, st7⟩ := own_lastore X6 hx hZ e6 V_ob2 (by decide) (Nat.le_of_ble_eq_true rfl) (g := (mkF m 48 #[.val (.ref a1), .val (.ref ob2), .val (.int (1 : Int32))] [(.long t1), (.int (1 : Int32)), (.ref ob2)])) rfl rfl (hb hby d6_48)
  have F_s := F_s.other W7 (Or.inl ne_a1_ob2)
  have F_r := F_r.other W7 (Or.inl ne_a1_ob2)
  have F_p := F_p.other W7 (Or.inl ne_a1_ob2)
  have V_r := V_r.other W7 ne_b1_ob2
  have V_p := V_p.other W7 ne_b2_ob2
  have K0 := K0.wr W7 (Or.inr sz_ob2)
  have E_ob2 := E_ob2.wr W7
  have V_ob2 : Arx Z h7 ob2 .long [(.long r1), (.long t1), (.long (0 : Int64)), (.long (0 : Int64))] := V7
  have N7 := Fr.snoc X7 N5 g_ob2
  refine own_go (fun _ => st7 _) ?_
  show GG _ _ _ _ _ _ _ T7 (mkF m 49 #[.val (.ref a1), .val (.ref ob2), .val (.int (1 : Int32))] [])
  refine own_go (fun _ => XS.iinc X7.here hx rfl (hb hby d6_49) rfl (l' := #[.val (.ref a1), .val (.ref ob2), .val (.int (2 : Int32))]) rfl) ?_
  show GG _ _ _ _ _ _ _ T7 (mkF m 52 #[.val (.ref a1), .val (.ref ob2), .val (.int (2 : Int32))] [])
  refine own_go (fun _ => XS.goto X7.here hx rfl (pc0 := 52) (pc' := 13) rfl (hb hby d6_52) (by decide) (by decide)) ?_
  show GG _ _ _ _ _ _ _ T7 (mkF m 13 #[.val (.ref a1), .val (.ref ob2), .val (.int (2 : Int32))] [])
  refine own_go (fun _ => XS.iloadN X7.here hx rfl (hb hby d6_13) rfl) ?_
  show GG _ _ _ _ _ _ _ T7 (mkF m 14 #[.val (.ref a1), .val (.ref ob2), .val (.int (2 : Int32))] [(.int (2 : Int32))])
  refine own_go (fun _ => XS.aloadN X7.here hx rfl (hb hby d6_14) rfl rfl) ?_
  show GG _ _ _ _ _ _ _ T7 (mkF m 15 #[.val (.ref a1), .val (.ref ob2), .val (.int (2 : Int32))] [(.ref a1), (.int (2 : Int32))])
  obtain ⟨T8, X8, e8, st8⟩ := getF X7 hx hZ hown (host := "") (Or.inl (hw _ (List.mem_of_getElem? (i := 23) rfl))) Via.refl e7 F_s (g := (mkF m 15 #[.val (.ref a1), .val (.ref ob2), .val (.int (2 : Int32))] [(.ref a1), (.int (2 : Int32))])) rfl rfl (hb hby d6_15)
  refine own_go (fun _ => st8 _) ?_
  show GG _ _ _ _ _ _ _ T8 (mkF m 18 #[.val (.ref a1), .val (.ref ob2), .val (.int (2 : Int32))] [(.int (3 : Int32)), (.int (2 : Int32))])
  have hc18 : (2 : Int32) < (3 : Int32) := by decide
  refine own_go (fun _ => XS.icmpNo X8.here hx rfl (hb hby d6_18) rfl (tlt hc18).2.1) ?_
  show GG _ _ _ _ _ _ _ T8 (mkF m 21 #[.val (.ref a1), .val (.ref ob2), .val (.int (2 : Int32))] [])
  refine own_go (fun _ => XS.aloadN X8.here hx rfl (hb hby d6_21) rfl rfl) ?_
  show GG _ _ _ _ _ _ _ T8 (mkF m 22 #[.val (.ref a1), .val (.ref ob2), .val (.int (2 : Int32))] [(.ref ob2)])
  refine own_go (fun _ => XS.iconst X8.here hx rfl (hb hby d6_22)) ?_
  show GG _ _ _ _ _ _ _ T8 (mkF m 23 #[.val (.ref a1), .val (.ref ob2), .val (.int (2 : Int32))] [(.int (2 : Int32)), (.ref ob2)])
  refine own_go (fun _ => XS.iloadN X8.here hx rfl (hb hby d6_23) rfl) ?_
  show GG _ _ _ _ _ _ _ T8 (mkF m 24 #[.val (.ref a1), .val (.ref ob2), .val (.int (2 : Int32))] [(.int (2 : Int32)), (.int (2 : Int32)), (.ref ob2)])
  refine own_go (fun _ => XS.iconst X8.here hx rfl (hb hby d6_24)) ?_
  show GG _ _ _ _ _ _ _ T8 (mkF m 25 #[.val (.ref a1), .val (.ref ob2), .val (.int (2 : Int32))] [(.int (1 : Int32)), (.int (2 : Int32)), (.int (2 : Int32)), (.ref ob2)])
  refine own_go (fun _ => XS.isub X8.here hx rfl (hb hby d6_25) rfl) ?_
  show GG _ _ _ _ _ _ _ T8 (mkF m 26 #[.val (.ref a1), .val (.ref ob2), .val (.int (2 : Int32))] [(.int (1 : Int32)), (.int (2 : Int32)), (.ref ob2)])
  refine own_go (fun _ => XS.imul X8.here hx rfl (hb hby d6_26) rfl) ?_
  show GG _ _ _ _ _ _ _ T8 (mkF m 27 #[.val (.ref a1), .val (.ref ob2), .val (.int (2 : Int32))] [(.int (2 : Int32)), (.ref ob2)])
  refine own_go (fun _ => XS.aloadN X8.here hx rfl (hb hby d6_27) rfl rfl) ?_
  show GG _ _ _ _ _ _ _ T8 (mkF m 28 #[.val (.ref a1), .val (.ref ob2), .val (.int (2 : Int32))] [(.ref a1), (.int (2 : Int32)), (.ref ob2)])
  obtain ⟨T9, X9, e9, st9⟩ := getF X8 hx hZ hown (host := "") (Or.inl (hw _ (List.mem_of_getElem? (i := 14) rfl))) Via.refl e8 F_r (g := (mkF m 28 #[.val (.ref a1), .val (.ref ob2), .val (.int (2 : Int32))] [(.ref a1), (.int (2 : Int32)), (.ref ob2)])) rfl rfl (hb hby d6_28)
  refine own_go (fun _ => st9 _) ?_
  show GG _ _ _ _ _ _ _ T9 (mkF m 31 #[.val (.ref a1), .val (.ref ob2), .val (.int (2 : Int32))] [(.ref b1), (.int (2 : Int32)), (.ref ob2)])
  refine own_go (fun _ => XS.iloadN X9.here hx rfl (hb hby d6_31) rfl) ?_
  show GG _ _ _ _ _ _ _ T9 (mkF m 32 #[.val (.ref a1), .val (.ref ob2), .val (.int (2 : Int32))] [(.int (2 : Int32)), (.ref b1), (.int (2 : Int32)), (.ref ob2)])
  refine own_go (fun _ => own_laload X9 hx hZ e9 V_r (j := (2 : Int32)) (v := (.long r2)) (by decide) rfl (g := (mkF m 32 #[.val (.ref a1), .val (.ref ob2), .val (.int (2 : Int32))] [(.int (2 : Int32)), (.ref b1), (.int (2 : Int32)), (.ref ob2)])) rfl rfl (hb hby d6_32) _) ?_
  show GG _ _ _ _ _ _ _ T9 (mkF m 33 #[.val (.ref a1), .val (.ref ob2), .val (.int (2 : Int32))] [(.long r2), (.int (2 : Int32)), (.ref ob2)])
  obtain ⟨T10, h10, X10, e10, W10, V10, st10⟩ := own_lastore X9 hx hZ e9 V_ob2 (by decide) (Nat.le_of_ble_eq_true rfl) (g := (mkF m 33 #[.val (.ref a1), .val (.ref ob2), .val (.int (2 : Int32))] [(.long r2), (.int (2 : Int32)), (.ref ob2)])) rfl rfl (hb hby d6_33)
  have F_s := F_s.other W10 (Or.inl ne_a1_ob2)
  have F_r := F_r.other W10 (Or.inl ne_a1_ob2)
  have F_p := F_p.other W10 (Or.inl ne_a1_ob2)
  have V_r := V_r.other W10 ne_b1_ob2
  have V_p := V_p.other W10 ne_b2_ob2
  have K0 := K0.wr W10 (Or.inr sz_ob2)
  have E_ob2 := E_ob2.wr W10
  have V_ob2 : Arx Z h10 ob2 .long [(.long r1), (.long t1), (.long r2), (.long (0 : Int64))] := V10
  have N10 := Fr.snoc X10 N7 g_ob2
  refine own_go (fun _ => st10 _) ?_
  show GG _ _ _ _ _ _ _ T10 (mkF m 34 #[.val (.ref a1), .val (.ref ob2), .val (.int (2 : Int32))] [])
  refine own_go (fun _ => XS.aloadN X10.here hx rfl (hb hby d6_34) rfl rfl) ?_
  show GG _ _ _ _ _ _ _ T10 (mkF m 35 #[.val (.ref a1), .val (.ref ob2), .val (.int (2 : Int32))] [(.ref ob2)])
  refine own_go (fun _ => XS.iconst X10.here hx rfl (hb hby d6_35)) ?_
  show GG _ _ _ _ _ _ _ T10 (mkF m 36 #[.val (.ref a1), .val (.ref ob2), .val (.int (2 : Int32))] [(.int (2 : Int32)), (.ref ob2)])
  refine own_go (fun _ => XS.iloadN X10.here hx rfl (hb hby d6_36) rfl) ?_
  show GG _ _ _ _ _ _ _ T10 (mkF m 37 #[.val (.ref a1), .val (.ref ob2), .val (.int (2 : Int32))] [(.int (2 : Int32)), (.int (2 : Int32)), (.ref ob2)])
  refine own_go (fun _ => XS.iconst X10.here hx rfl (hb hby d6_37)) ?_
  show GG _ _ _ _ _ _ _ T10 (mkF m 38 #[.val (.ref a1), .val (.ref ob2), .val (.int (2 : Int32))] [(.int (1 : Int32)), (.int (2 : Int32)), (.int (2 : Int32)), (.ref ob2)])
  refine own_go (fun _ => XS.isub X10.here hx rfl (hb hby d6_38) rfl) ?_
  show GG _ _ _ _ _ _ _ T10 (mkF m 39 #[.val (.ref a1), .val (.ref ob2), .val (.int (2 : Int32))] [(.int (1 : Int32)), (.int (2 : Int32)), (.ref ob2)])
  refine own_go (fun _ => XS.imul X10.here hx rfl (hb hby d6_39) rfl) ?_
  show GG _ _ _ _ _ _ _ T10 (mkF m 40 #[.val (.ref a1), .val (.ref ob2), .val (.int (2 : Int32))] [(.int (2 : Int32)), (.ref ob2)])
  refine own_go (fun _ => XS.iconst X10.here hx rfl (hb hby d6_40)) ?_
  show GG _ _ _ _ _ _ _ T10 (mkF m 41 #[.val (.ref a1), .val (.ref ob2), .val (.int (2 : Int32))] [(.int (1 : Int32)), (.int (2 : Int32)), (.ref ob2)])
  refine own_go (fun _ => XS.iadd X10.here hx rfl (hb hby d6_41) rfl) ?_
  show GG _ _ _ _ _ _ _ T10 (mkF m 42 #[.val (.ref a1), .val (.ref ob2), .val (.int (2 : Int32))] [(.int (3 : Int32)), (.ref ob2)])
  refine own_go (fun _ => XS.aloadN X10.here hx rfl (hb hby d6_42) rfl rfl) ?_
  show GG _ _ _ _ _ _ _ T10 (mkF m 43 #[.val (.ref a1), .val (.ref ob2), .val (.int (2 : Int32))] [(.ref a1), (.int (3 : Int32)), (.ref ob2)])
  obtain ⟨T11, X11, e11, st11⟩ := getF X10 hx hZ hown (host := "") (Or.inl (hw _ (List.mem_of_getElem? (i := 16) rfl))) Via.refl e10 F_p (g := (mkF m 43 #[.val (.ref a1), .val (.ref ob2), .val (.int (2 : Int32))] [(.ref a1), (.int (3 : Int32)), (.ref ob2)])) rfl rfl (hb hby d6_43)
  refine own_go (fun _ => st11 _) ?_
  show GG _ _ _ _ _ _ _ T11 (mkF m 46 #[.val (.ref a1), .val (.ref ob2), .val (.int (2 : Int32))] [(.ref b2), (.int (3 : Int32)), (.ref ob2)])
  refine own_go (fun _ => XS.iloadN X11.here hx rfl (hb hby d6_46) rfl) ?_
  show GG _ _ _ _ _ _ _ T11 (mkF m 47 #[.val (.ref a1), .val (.ref ob2), .val (.int (2 : Int32))] [(.int (2 : Int32)), (.ref b2), (.int (3 : Int32)), (.ref ob2)])
  refine own_go (fun _ => own_laload X11 hx hZ e11 V_p (j := (2 : Int32)) (v := (.long t2)) (by decide) rfl (g := (mkF m 47 #[.val (.ref a1), .val (.ref ob2), .val (.int (2 : Int32))] [(.int (2 : Int32)), (.ref b2), (.int (3 : Int32)), (.ref ob2)])) rfl rfl (hb hby d6_47) _) ?_
  show GG _ _ _ _ _ _ _ T11 (mkF m 48 #[.val (.ref a1), .val (.ref ob2), .val (.int (2 : Int32))] [(.long t2), (.int (3 : Int32)), (.ref ob2)])
  obtain ⟨T12, h12, X12, e12, W12, V12, st12⟩ := own_lastore X11 hx hZ e11 V_ob2 (by decide) (Nat.le_of_ble_eq_true rfl) (g := (mkF m 48 #[.val (.ref a1), .val (.ref ob2), .val (.int (2 : Int32))] [(.long t2), (.int (3 : Int32)), (.ref ob2)])) rfl rfl (hb hby d6_48)
  have F_s := F_s.other W12 (Or.inl ne_a1_ob2)
  have F_r := F_r.other W12 (Or.inl ne_a1_ob2)
  have F_p := F_p.other W12 (Or.inl ne_a1_ob2)
  have V_r := V_r.other W12 ne_b1_ob2
  have V_p := V_p.other W12 ne_b2_ob2
  have K0 := K0.wr W12 (Or.inr sz_ob2)
  have E_ob2 := E_ob2.wr W12
  have V_ob2 : Arx Z h12 ob2 .long [(.long r1), (.long t1), (.long r2), (.long t2)] := V12
  have N12 := Fr.snoc X12 N10 g_ob2
  refine own_go (fun _ => st12 _) ?_
  show GG _ _ _ _ _ _ _ T12 (mkF m 49 #[.val (.ref a1), .val (.ref ob2), .val (.int (2 : Int32))] [])
  refine own_go (fun _ => XS.iinc X12.here hx rfl (hb hby d6_49) rfl (l' := #[.val (.ref a1), .val (.ref ob2), .val (.int (3 : Int32))]) rfl) ?_
  show GG _ _ _ _ _ _ _ T12 (mkF m 52 #[.val (.ref a1), .val (.ref ob2), .val (.int (3 : Int32))] [])
  refine own_go (fun _ => XS.goto X12.here hx rfl (pc0 := 52) (pc' := 13) rfl (hb hby d6_52) (by decide) (by decide)) ?_
  show GG _ _ _ _ _ _ _ T12 (mkF m 13 #[.val (.ref a1), .val (.ref ob2), .val (.int (3 : Int32))] [])
  refine own_go (fun _ => XS.iloadN X12.here hx rfl (hb hby d6_13) rfl) ?_
  show GG _ _ _ _ _ _ _ T12 (mkF m 14 #[.val (.ref a1), .val (.ref ob2), .val (.int (3 : Int32))] [(.int (3 : Int32))])
  refine own_go (fun _ => XS.aloadN X12.here hx rfl (hb hby d6_14) rfl rfl) ?_
  show GG _ _ _ _ _ _ _ T12 (mkF m 15 #[.val (.ref a1), .val (.ref ob2), .val (.int (3 : Int32))] [(.ref a1), (.int (3 : Int32))])
  obtain ⟨T13, X13, e13, st13⟩ := getF X12 hx hZ hown (host := "") (Or.inl (hw _ (List.mem_of_getElem? (i := 23) rfl))) Via.refl e12 F_s (g := (mkF m 15 #[.val (.ref a1), .val (.ref ob2), .val (.int (3 : Int32))] [(.ref a1), (.int (3 : Int32))])) rfl rfl (hb hby d6_15)
  refine own_go (fun _ => st13 _) ?_
  show GG _ _ _ _ _ _ _ T13 (mkF m 18 #[.val (.ref a1), .val (.ref ob2), .val (.int (3 : Int32))] [(.int (3 : Int32)), (.int (3 : Int32))])
  have hc18 : ¬ ((3 : Int32) < (3 : Int32)) := by decide
  refine own_go (fun _ => XS.icmpYes X13.here hx rfl (pc0 := 18) (pc' := 55) rfl (hb hby d6_18) rfl (flt hc18).2.1 (by decide) (by decide)) ?_
  show GG _ _ _ _ _ _ _ T13 (mkF m 55 #[.val (.ref a1), .val (.ref ob2), .val (.int (3 : Int32))] [])
  refine own_go (fun _ => XS.aloadN X13.here hx rfl (hb hby d6_55) rfl rfl) ?_
  show GG _ _ _ _ _ _ _ T13 (mkF m 56 #[.val (.ref a1), .val (.ref ob2), .val (.int (3 : Int32))] [(.ref ob2)])
  refine own_ret X13 hx hlk (t := (.array .long)) (w := (.ref ob2)) Bd.returns rfl (Or.inr (Or.inr (Or.inr (Or.inr ⟨rfl, rfl, rfl⟩)))) (hb hby d6_56) (by decide) (by decide) ?_
  show Q6_3 Z a1 b1 b2 r0 r1 r2 r3 r4 r5 r6 r7 r8 r9 r10 r11 r12 r13 r14 r15 t0 t1 t2 t3 t4 t5 t6 t7 t8 t9 t10 t11 t12 t13 t14 t15 h0 n0 (some (.ref ob2)) T13.heap _
  rw [e13]
  exact ⟨_, rfl, N12, sz_ob2, K0, V_ob2⟩
def Q6_4 (Z : State) (a1 : Addr) (b1 b2 : Addr) (r0 r1 r2 r3 r4 r5 r6 r7 r8 r9 r10 r11 r12 r13 r14 r15 : Int64) (t0 t1 t2 t3 t4 t5 t6 t7 t8 t9 t10 t11 t12 t13 t14 t15 : Int64) (h0 : Heap) (n0 : Nat) (v : Option Value) (h : Heap) (L : List Loc) : Prop := ∃ b, v = some (.ref b) ∧ Fr n0 L ∧ h0.size ≤ b ∧ Keep h0 h [] ∧ Arx Z h b .long [(.long r1), (.long t1), (.long r2), (.long t2), (.long r3), (.long t3)]
set_option maxRecDepth 65536 in
set_option maxHeartbeats 40000000 in
theorem rm6_4 (l : Launch) (Z : State) (a0 : Array Value) (hw : ∀ d ∈ tables_1, d.before a0 Z = true) (ws : List Jvm.Cond) (a1 : Addr) (b1 b2 : Addr) (r0 r1 r2 r3 r4 r5 r6 r7 r8 r9 r10 r11 r12 r13 r14 r15 : Int64) (t0 t1 t2 t3 t4 t5 t6 t7 t8 t9 t10 t11 t12 t13 t14 t15 : Int64) (h0 : Heap) (n0 : Nat) (Z0 : n0 ≤ h0.size) (F_s : Fld Z h0 a1 "com/example/obliv/obliv/io/SegmentIndex" "size" "I" (.int (4 : Int32))) (F_r : Fld Z h0 a1 "com/example/obliv/obliv/io/SegmentIndex" "records" "[J" (.ref b1)) (F_p : Fld Z h0 a1 "com/example/obliv/obliv/io/SegmentIndex" "positions" "[J" (.ref b2)) (V_r : Arx Z h0 b1 .long [(.long r0), (.long r1), (.long r2), (.long r3), (.long r4), (.long r5), (.long r6), (.long r7), (.long r8), (.long r9), (.long r10), (.long r11), (.long r12), (.long r13), (.long r14), (.long r15)]) (V_p : Arx Z h0 b2 .long [(.long t0), (.long t1), (.long t2), (.long t3), (.long t4), (.long t5), (.long t6), (.long t7), (.long t8), (.long t9), (.long t10), (.long t11), (.long t12), (.long t13), (.long t14), (.long t15)]) :
    own_CT l Z (⟨"com/example/obliv/obliv/io/SegmentIndex", "toArray", "()[J"⟩ : MethodName) prog_12_method_8_code 3 (some (.array .long)) ws ({ frames := 0, cells := 1, slots := 6, locals := 0 } : Room) #[(.ref a1)] h0 (Q6_4 Z a1 b1 b2 r0 r1 r2 r3 r4 r5 r6 r7 r8 r9 r10 r11 r12 r13 r14 r15 t0 t1 t2 t3 t4 t5 t6 t7 t8 t9 t10 t11 t12 t13 t14 t15 h0 n0) := by
  refine MetFree.of_bodySF (plainFor_of_name pn_com_example_obliv_obliv_io_SegmentIndex) hisR ?_
  intro p e s m args below meth c s₁ Bd hml0 hP hK
  obtain ⟨rfl, hZ, hh⟩ := hP
  have hx := Bd.exec
  have hby := Bd.bytes
  have hml : c.maxLocals = 3 := hml0
  have hown : s.vm.findClass "com/example/obliv/obliv/io/SegmentIndex" = some m.cls := findClass_of_methodNamed Bd.named
  have hnm := (name_of_methodNamed Bd.named Bd.method).1
  have hlk : meth.locks = false := BodyLoose.notSynchronized Bd
  have X0 : Stand p l e ({ frames := 0, cells := 1, slots := 6, locals := 0 } : Room) s m #[(.ref a1)] below meth c s₁ [] 0 0 := Stand.of_body Bd
  have e0 : s₁.heap = h0 := by rw [← hh, Bd.state]; rfl
  have N0 := Fr.nil n0
  show GG p e below s ({ frames := 0, cells := 1, slots := 6, locals := 0 } : Room).cells ({ frames := 0, cells := 1, slots := 6, locals := 0 } : Room).slots (Q6_4 Z a1 b1 b2 r0 r1 r2 r3 r4 r5 r6 r7 r8 r9 r10 r11 r12 r13 r14 r15 t0 t1 t2 t3 t4 t5 t6 t7 t8 t9 t10 t11 t12 t13 t14 t15 h0 n0) s₁ (entryFrame m #[(.ref a1)] 3)
  refine own_in (ef_6 m a1) ?_
  show GG _ _ _ _ _ _ _ s₁ (mkF m 0 #[.val (.ref a1), .unset, .unset] [])
  refine own_go (fun _ => XS.iconst X0.here hx rfl (hb hby d6_0)) ?_
  show GG _ _ _ _ _ _ _ s₁ (mkF m 1 #[.val (.ref a1), .unset, .unset] [(.int (2 : Int32))])
  refine own_go (fun _ => XS.aloadN X0.here hx rfl (hb hby d6_1) rfl rfl) ?_
  show GG _ _ _ _ _ _ _ s₁ (mkF m 2 #[.val (.ref a1), .unset, .unset] [(.ref a1), (.int (2 : Int32))])
  obtain ⟨T1, X1, e1, st1⟩ := getF X0 hx hZ hown (host := "") (Or.inl (hw _ (List.mem_of_getElem? (i := 23) rfl))) Via.refl e0 F_s (g := (mkF m 2 #[.val (.ref a1), .unset, .unset] [(.ref a1), (.int (2 : Int32))])) rfl rfl (hb hby d6_2)
  refine own_go (fun _ => st1 _) ?_
  show GG _ _ _ _ _ _ _ T1 (mkF m 5 #[.val (.ref a1), .unset, .unset] [(.int (4 : Int32)), (.int (2 : Int32))])
  refine own_go (fun _ => XS.iconst X1.here hx rfl (hb hby d6_5)) ?_
  show GG _ _ _ _ _ _ _ T1 (mkF m 6 #[.val (.ref a1), .unset, .unset] [(.int (1 : Int32)), (.int (4 : Int32)), (.int (2 : Int32))])
  refine own_go (fun _ => XS.isub X1.here hx rfl (hb hby d6_6) rfl) ?_
  show GG _ _ _ _ _ _ _ T1 (mkF m 7 #[.val (.ref a1), .unset, .unset] [(.int (3 : Int32)), (.int (2 : Int32))])
  refine own_go (fun _ => XS.imul X1.here hx rfl (hb hby d6_7) rfl) ?_
  show GG _ _ _ _ _ _ _ T1 (mkF m 8 #[.val (.ref a1), .unset, .unset] [(.int (6 : Int32))])
  have K0 := Keep.refl h0 []
  obtain ⟨T2, h2, ob2, g2, X2, e2, E2, V_ob2, E_ob2, st2⟩ := own_newarr X1 hx hZ (hw _ (List.mem_of_getElem? (i := 13) rfl)) e1 (g := (mkF m 8 #[.val (.ref a1), .unset, .unset] [(.int (6 : Int32))])) rfl (hb hby d6_8) rfl (by decide) (cap := 6) (by decide) (by decide) (by decide) (by decide) (ad := "[J") (by decide)
  have ne_a1_ob2 : a1 ≠ ob2 := Nat.ne_of_lt (Nat.lt_of_lt_of_le F_s.lt (Nat.le_of_eq g2.symm))
  have ne_b1_ob2 : b1 ≠ ob2 := Nat.ne_of_lt (Nat.lt_of_lt_of_le V_r.lt (Nat.le_of_eq g2.symm))
  have ne_b2_ob2 : b2 ≠ ob2 := Nat.ne_of_lt (Nat.lt_of_lt_of_le V_p.lt (Nat.le_of_eq g2.symm))
  have sz_ob2 : h0.size ≤ ob2 := Nat.le_trans K0.1 (Nat.le_of_eq g2.symm)
  have g_ob2 : n0 ≤ ob2 := Nat.le_trans Z0 sz_ob2
  have F_s := F_s.ext E2
  have F_r := F_r.ext E2
  have F_p := F_p.ext E2
  have V_r := V_r.ext E2
  have V_p := V_p.ext E2
  have K0 := K0.ext E2
  have V_ob2 : Arx Z h2 ob2 .long [(.long (0 : Int64)), (.long (0 : Int64)), (.long (0 : Int64)), (.long (0 : Int64)), (.long (0 : Int64)), (.long (0 : Int64))] := V_ob2
  refine own_go (fun _ => st2 _) ?_
  show GG _ _ _ _ _ _ _ T2 (mkF m 10 #[.val (.ref a1), .unset, .unset] [(.ref ob2)])
  refine own_go (fun _ => XS.astoreN X2.here hx rfl (hb hby d6_10) rfl rfl (l' := #[.val (.ref a1), .val (.ref ob2), .unset]) rfl) ?_
  show GG _ _ _ _ _ _ _ T2 (mkF m 11 #[.val (.ref a1), .val (.ref ob2), .unset] [])
  refine own_go (fun _ => XS.iconst X2.here hx rfl (hb hby d6_11)) ?_
  show GG _ _ _ _ _ _ _ T2 (mkF m 12 #[.val (.ref a1), .val (.ref ob2), .unset] [(.int (1 : Int32))])
  refine own_go (fun _ => XS.istoreN X2.here hx rfl (hb hby d6_12) rfl (l' := #[.val (.ref a1), .val (.ref ob2), .val (.int (1 : Int32))]) rfl) ?_
  show GG _ _ _ _ _ _ _ T2 (mkF m 13 #[.val (.ref a1), .val (.ref ob2), .val (.int (1 : Int32))] [])
  refine own_go (fun _ => XS.iloadN X2.here hx rfl (hb hby d6_13) rfl) ?_
  show GG _ _ _ _ _ _ _ T2 (mkF m 14 #[.val (.ref a1), .val (.ref ob2), .val (.int (1 : Int32))] [(.int (1 : Int32))])
  refine own_go (fun _ => XS.aloadN X2.here hx rfl (hb hby d6_14) rfl rfl) ?_
  show GG _ _ _ _ _ _ _ T2 (mkF m 15 #[.val (.ref a1), .val (.ref ob2), .val (.int (1 : Int32))] [(.ref a1), (.int (1 : Int32))])
  obtain ⟨T3, X3, e3, st3⟩ := getF X2 hx hZ hown (host := "") (Or.inl (hw _ (List.mem_of_getElem? (i := 23) rfl))) Via.refl e2 F_s (g := (mkF m 15 #[.val (.ref a1), .val (.ref ob2), .val (.int (1 : Int32))] [(.ref a1), (.int (1 : Int32))])) rfl rfl (hb hby d6_15)
  refine own_go (fun _ => st3 _) ?_
  show GG _ _ _ _ _ _ _ T3 (mkF m 18 #[.val (.ref a1), .val (.ref ob2), .val (.int (1 : Int32))] [(.int (4 : Int32)), (.int (1 : Int32))])
  have hc18 : (1 : Int32) < (4 : Int32) := by decide
  refine own_go (fun _ => XS.icmpNo X3.here hx rfl (hb hby d6_18) rfl (tlt hc18).2.1) ?_
  show GG _ _ _ _ _ _ _ T3 (mkF m 21 #[.val (.ref a1), .val (.ref ob2), .val (.int (1 : Int32))] [])
  refine own_go (fun _ => XS.aloadN X3.here hx rfl (hb hby d6_21) rfl rfl) ?_
  show GG _ _ _ _ _ _ _ T3 (mkF m 22 #[.val (.ref a1), .val (.ref ob2), .val (.int (1 : Int32))] [(.ref ob2)])
  refine own_go (fun _ => XS.iconst X3.here hx rfl (hb hby d6_22)) ?_
  show GG _ _ _ _ _ _ _ T3 (mkF m 23 #[.val (.ref a1), .val (.ref ob2), .val (.int (1 : Int32))] [(.int (2 : Int32)), (.ref ob2)])
  refine own_go (fun _ => XS.iloadN X3.here hx rfl (hb hby d6_23) rfl) ?_
  show GG _ _ _ _ _ _ _ T3 (mkF m 24 #[.val (.ref a1), .val (.ref ob2), .val (.int (1 : Int32))] [(.int (1 : Int32)), (.int (2 : Int32)), (.ref ob2)])
  refine own_go (fun _ => XS.iconst X3.here hx rfl (hb hby d6_24)) ?_
  show GG _ _ _ _ _ _ _ T3 (mkF m 25 #[.val (.ref a1), .val (.ref ob2), .val (.int (1 : Int32))] [(.int (1 : Int32)), (.int (1 : Int32)), (.int (2 : Int32)), (.ref ob2)])
  refine own_go (fun _ => XS.isub X3.here hx rfl (hb hby d6_25) rfl) ?_
  show GG _ _ _ _ _ _ _ T3 (mkF m 26 #[.val (.ref a1), .val (.ref ob2), .val (.int (1 : Int32))] [(.int (0 : Int32)), (.int (2 : Int32)), (.ref ob2)])
  refine own_go (fun _ => XS.imul X3.here hx rfl (hb hby d6_26) rfl) ?_
  show GG _ _ _ _ _ _ _ T3 (mkF m 27 #[.val (.ref a1), .val (.ref ob2), .val (.int (1 : Int32))] [(.int (0 : Int32)), (.ref ob2)])
  refine own_go (fun _ => XS.aloadN X3.here hx rfl (hb hby d6_27) rfl rfl) ?_
  show GG _ _ _ _ _ _ _ T3 (mkF m 28 #[.val (.ref a1), .val (.ref ob2), .val (.int (1 : Int32))] [(.ref a1), (.int (0 : Int32)), (.ref ob2)])
  obtain ⟨T4, X4, e4, st4⟩ := getF X3 hx hZ hown (host := "") (Or.inl (hw _ (List.mem_of_getElem? (i := 14) rfl))) Via.refl e3 F_r (g := (mkF m 28 #[.val (.ref a1), .val (.ref ob2), .val (.int (1 : Int32))] [(.ref a1), (.int (0 : Int32)), (.ref ob2)])) rfl rfl (hb hby d6_28)
  refine own_go (fun _ => st4 _) ?_
  show GG _ _ _ _ _ _ _ T4 (mkF m 31 #[.val (.ref a1), .val (.ref ob2), .val (.int (1 : Int32))] [(.ref b1), (.int (0 : Int32)), (.ref ob2)])
  refine own_go (fun _ => XS.iloadN X4.here hx rfl (hb hby d6_31) rfl) ?_
  show GG _ _ _ _ _ _ _ T4 (mkF m 32 #[.val (.ref a1), .val (.ref ob2), .val (.int (1 : Int32))] [(.int (1 : Int32)), (.ref b1), (.int (0 : Int32)), (.ref ob2)])
  refine own_go (fun _ => own_laload X4 hx hZ e4 V_r (j := (1 : Int32)) (v := (.long r1)) (by decide) rfl (g := (mkF m 32 #[.val (.ref a1), .val (.ref ob2), .val (.int (1 : Int32))] [(.int (1 : Int32)), (.ref b1), (.int (0 : Int32)), (.ref ob2)])) rfl rfl (hb hby d6_32) _) ?_
  show GG _ _ _ _ _ _ _ T4 (mkF m 33 #[.val (.ref a1), .val (.ref ob2), .val (.int (1 : Int32))] [(.long r1), (.int (0 : Int32)), (.ref ob2)])
  obtain ⟨T5, h5, X5, e5, W5, V5, st5⟩ := own_lastore X4 hx hZ e4 V_ob2 (by decide) (Nat.le_of_ble_eq_true rfl) (g := (mkF m 33 #[.val (.ref a1), .val (.ref ob2), .val (.int (1 : Int32))] [(.long r1), (.int (0 : Int32)), (.ref ob2)])) rfl rfl (hb hby d6_33)
  have F_s := F_s.other W5 (Or.inl ne_a1_ob2)
  have F_r := F_r.other W5 (Or.inl ne_a1_ob2)
  have F_p := F_p.other W5 (Or.inl ne_a1_ob2)
  have V_r := V_r.other W5 ne_b1_ob2
  have V_p := V_p.other W5 ne_b2_ob2
  have K0 := K0.wr W5 (Or.inr sz_ob2)
  have E_ob2 := E_ob2.wr W5
  have V_ob2 : Arx Z h5 ob2 .long [(.long r1), (.long (0 : Int64)), (.long (0 : Int64)), (.long (0 : Int64)), (.long (0 : Int64)), (.long (0 : Int64))] := V5
  have N5 := Fr.snoc X5 N0 g_ob2
  refine own_go (fun _ => st5 _) ?_
  show GG _ _ _ _ _ _ _ T5 (mkF m 34 #[.val (.ref a1), .val (.ref ob2), .val (.int (1 : Int32))] [])
  refine own_go (fun _ => XS.aloadN X5.here hx rfl (hb hby d6_34) rfl rfl) ?_
  show GG _ _ _ _ _ _ _ T5 (mkF m 35 #[.val (.ref a1), .val (.ref ob2), .val (.int (1 : Int32))] [(.ref ob2)])
  refine own_go (fun _ => XS.iconst X5.here hx rfl (hb hby d6_35)) ?_
  show GG _ _ _ _ _ _ _ T5 (mkF m 36 #[.val (.ref a1), .val (.ref ob2), .val (.int (1 : Int32))] [(.int (2 : Int32)), (.ref ob2)])
  refine own_go (fun _ => XS.iloadN X5.here hx rfl (hb hby d6_36) rfl) ?_
  show GG _ _ _ _ _ _ _ T5 (mkF m 37 #[.val (.ref a1), .val (.ref ob2), .val (.int (1 : Int32))] [(.int (1 : Int32)), (.int (2 : Int32)), (.ref ob2)])
  refine own_go (fun _ => XS.iconst X5.here hx rfl (hb hby d6_37)) ?_
  show GG _ _ _ _ _ _ _ T5 (mkF m 38 #[.val (.ref a1), .val (.ref ob2), .val (.int (1 : Int32))] [(.int (1 : Int32)), (.int (1 : Int32)), (.int (2 : Int32)), (.ref ob2)])
  refine own_go (fun _ => XS.isub X5.here hx rfl (hb hby d6_38) rfl) ?_
  show GG _ _ _ _ _ _ _ T5 (mkF m 39 #[.val (.ref a1), .val (.ref ob2), .val (.int (1 : Int32))] [(.int (0 : Int32)), (.int (2 : Int32)), (.ref ob2)])
  refine own_go (fun _ => XS.imul X5.here hx rfl (hb hby d6_39) rfl) ?_
  show GG _ _ _ _ _ _ _ T5 (mkF m 40 #[.val (.ref a1), .val (.ref ob2), .val (.int (1 : Int32))] [(.int (0 : Int32)), (.ref ob2)])
  refine own_go (fun _ => XS.iconst X5.here hx rfl (hb hby d6_40)) ?_
  show GG _ _ _ _ _ _ _ T5 (mkF m 41 #[.val (.ref a1), .val (.ref ob2), .val (.int (1 : Int32))] [(.int (1 : Int32)), (.int (0 : Int32)), (.ref ob2)])
  refine own_go (fun _ => XS.iadd X5.here hx rfl (hb hby d6_41) rfl) ?_
  show GG _ _ _ _ _ _ _ T5 (mkF m 42 #[.val (.ref a1), .val (.ref ob2), .val (.int (1 : Int32))] [(.int (1 : Int32)), (.ref ob2)])
  refine own_go (fun _ => XS.aloadN X5.here hx rfl (hb hby d6_42) rfl rfl) ?_
  show GG _ _ _ _ _ _ _ T5 (mkF m 43 #[.val (.ref a1), .val (.ref ob2), .val (.int (1 : Int32))] [(.ref a1), (.int (1 : Int32)), (.ref ob2)])
  obtain ⟨T6, X6, e6, st6⟩ := getF X5 hx hZ hown (host := "") (Or.inl (hw _ (List.mem_of_getElem? (i := 16) rfl))) Via.refl e5 F_p (g := (mkF m 43 #[.val (.ref a1), .val (.ref ob2), .val (.int (1 : Int32))] [(.ref a1), (.int (1 : Int32)), (.ref ob2)])) rfl rfl (hb hby d6_43)
  refine own_go (fun _ => st6 _) ?_
  show GG _ _ _ _ _ _ _ T6 (mkF m 46 #[.val (.ref a1), .val (.ref ob2), .val (.int (1 : Int32))] [(.ref b2), (.int (1 : Int32)), (.ref ob2)])
  refine own_go (fun _ => XS.iloadN X6.here hx rfl (hb hby d6_46) rfl) ?_
  show GG _ _ _ _ _ _ _ T6 (mkF m 47 #[.val (.ref a1), .val (.ref ob2), .val (.int (1 : Int32))] [(.int (1 : Int32)), (.ref b2), (.int (1 : Int32)), (.ref ob2)])
  refine own_go (fun _ => own_laload X6 hx hZ e6 V_p (j := (1 : Int32)) (v := (.long t1)) (by decide) rfl (g := (mkF m 47 #[.val (.ref a1), .val (.ref ob2), .val (.int (1 : Int32))] [(.int (1 : Int32)), (.ref b2), (.int (1 : Int32)), (.ref ob2)])) rfl rfl (hb hby d6_47) _) ?_
  show GG _ _ _ _ _ _ _ T6 (mkF m 48 #[.val (.ref a1), .val (.ref ob2), .val (.int (1 : Int32))] [(.long t1), (.int (1 : Int32)), (.ref ob2)])
  obtain ⟨T7, h7, X7, e7, W7, V7, st7⟩ := own_lastore X6 hx hZ e6 V_ob2 (by decide) (Nat.le_of_ble_eq_true rfl) (g := (mkF m 48 #[.val (.ref a1), .val (.ref ob2), .val (.int (1 : Int32))] [(.long t1), (.int (1 : Int32)), (.ref ob2)])) rfl rfl (hb hby d6_48)
  have F_s := F_s.other W7 (Or.inl ne_a1_ob2)
  have F_r := F_r.other W7 (Or.inl ne_a1_ob2)
  have F_p := F_p.other W7 (Or.inl ne_a1_ob2)
  have V_r := V_r.other W7 ne_b1_ob2
  have V_p := V_p.other W7 ne_b2_ob2
  have K0 := K0.wr W7 (Or.inr sz_ob2)
  have E_ob2 := E_ob2.wr W7
  have V_ob2 : Arx Z h7 ob2 .long [(.long r1), (.long t1), (.long (0 : Int64)), (.long (0 : Int64)), (.long (0 : Int64)), (.long (0 : Int64))] := V7
  have N7 := Fr.snoc X7 N5 g_ob2
  refine own_go (fun _ => st7 _) ?_
  show GG _ _ _ _ _ _ _ T7 (mkF m 49 #[.val (.ref a1), .val (.ref ob2), .val (.int (1 : Int32))] [])
  refine own_go (fun _ => XS.iinc X7.here hx rfl (hb hby d6_49) rfl (l' := #[.val (.ref a1), .val (.ref ob2), .val (.int (2 : Int32))]) rfl) ?_
  show GG _ _ _ _ _ _ _ T7 (mkF m 52 #[.val (.ref a1), .val (.ref ob2), .val (.int (2 : Int32))] [])
  refine own_go (fun _ => XS.goto X7.here hx rfl (pc0 := 52) (pc' := 13) rfl (hb hby d6_52) (by decide) (by decide)) ?_
  show GG _ _ _ _ _ _ _ T7 (mkF m 13 #[.val (.ref a1), .val (.ref ob2), .val (.int (2 : Int32))] [])
  refine own_go (fun _ => XS.iloadN X7.here hx rfl (hb hby d6_13) rfl) ?_
  show GG _ _ _ _ _ _ _ T7 (mkF m 14 #[.val (.ref a1), .val (.ref ob2), .val (.int (2 : Int32))] [(.int (2 : Int32))])
  refine own_go (fun _ => XS.aloadN X7.here hx rfl (hb hby d6_14) rfl rfl) ?_
  show GG _ _ _ _ _ _ _ T7 (mkF m 15 #[.val (.ref a1), .val (.ref ob2), .val (.int (2 : Int32))] [(.ref a1), (.int (2 : Int32))])
  obtain ⟨T8, X8, e8, st8⟩ := getF X7 hx hZ hown (host := "") (Or.inl (hw _ (List.mem_of_getElem? (i := 23) rfl))) Via.refl e7 F_s (g := (mkF m 15 #[.val (.ref a1), .val (.ref ob2), .val (.int (2 : Int32))] [(.ref a1), (.int (2 : Int32))])) rfl rfl (hb hby d6_15)
  refine own_go (fun _ => st8 _) ?_
  show GG _ _ _ _ _ _ _ T8 (mkF m 18 #[.val (.ref a1), .val (.ref ob2), .val (.int (2 : Int32))] [(.int (4 : Int32)), (.int (2 : Int32))])
  have hc18 : (2 : Int32) < (4 : Int32) := by decide
  refine own_go (fun _ => XS.icmpNo X8.here hx rfl (hb hby d6_18) rfl (tlt hc18).2.1) ?_
  show GG _ _ _ _ _ _ _ T8 (mkF m 21 #[.val (.ref a1), .val (.ref ob2), .val (.int (2 : Int32))] [])
  refine own_go (fun _ => XS.aloadN X8.here hx rfl (hb hby d6_21) rfl rfl) ?_
  show GG _ _ _ _ _ _ _ T8 (mkF m 22 #[.val (.ref a1), .val (.ref ob2), .val (.int (2 : Int32))] [(.ref ob2)])
  refine own_go (fun _ => XS.iconst X8.here hx rfl (hb hby d6_22)) ?_
  show GG _ _ _ _ _ _ _ T8 (mkF m 23 #[.val (.ref a1), .val (.ref ob2), .val (.int (2 : Int32))] [(.int (2 : Int32)), (.ref ob2)])
  refine own_go (fun _ => XS.iloadN X8.here hx rfl (hb hby d6_23) rfl) ?_
  show GG _ _ _ _ _ _ _ T8 (mkF m 24 #[.val (.ref a1), .val (.ref ob2), .val (.int (2 : Int32))] [(.int (2 : Int32)), (.int (2 : Int32)), (.ref ob2)])
  refine own_go (fun _ => XS.iconst X8.here hx rfl (hb hby d6_24)) ?_
  show GG _ _ _ _ _ _ _ T8 (mkF m 25 #[.val (.ref a1), .val (.ref ob2), .val (.int (2 : Int32))] [(.int (1 : Int32)), (.int (2 : Int32)), (.int (2 : Int32)), (.ref ob2)])
  refine own_go (fun _ => XS.isub X8.here hx rfl (hb hby d6_25) rfl) ?_
  show GG _ _ _ _ _ _ _ T8 (mkF m 26 #[.val (.ref a1), .val (.ref ob2), .val (.int (2 : Int32))] [(.int (1 : Int32)), (.int (2 : Int32)), (.ref ob2)])
  refine own_go (fun _ => XS.imul X8.here hx rfl (hb hby d6_26) rfl) ?_
  show GG _ _ _ _ _ _ _ T8 (mkF m 27 #[.val (.ref a1), .val (.ref ob2), .val (.int (2 : Int32))] [(.int (2 : Int32)), (.ref ob2)])
  refine own_go (fun _ => XS.aloadN X8.here hx rfl (hb hby d6_27) rfl rfl) ?_
  show GG _ _ _ _ _ _ _ T8 (mkF m 28 #[.val (.ref a1), .val (.ref ob2), .val (.int (2 : Int32))] [(.ref a1), (.int (2 : Int32)), (.ref ob2)])
  obtain ⟨T9, X9, e9, st9⟩ := getF X8 hx hZ hown (host := "") (Or.inl (hw _ (List.mem_of_getElem? (i := 14) rfl))) Via.refl e8 F_r (g := (mkF m 28 #[.val (.ref a1), .val (.ref ob2), .val (.int (2 : Int32))] [(.ref a1), (.int (2 : Int32)), (.ref ob2)])) rfl rfl (hb hby d6_28)
  refine own_go (fun _ => st9 _) ?_
  show GG _ _ _ _ _ _ _ T9 (mkF m 31 #[.val (.ref a1), .val (.ref ob2), .val (.int (2 : Int32))] [(.ref b1), (.int (2 : Int32)), (.ref ob2)])
  refine own_go (fun _ => XS.iloadN X9.here hx rfl (hb hby d6_31) rfl) ?_
  show GG _ _ _ _ _ _ _ T9 (mkF m 32 #[.val (.ref a1), .val (.ref ob2), .val (.int (2 : Int32))] [(.int (2 : Int32)), (.ref b1), (.int (2 : Int32)), (.ref ob2)])
  refine own_go (fun _ => own_laload X9 hx hZ e9 V_r (j := (2 : Int32)) (v := (.long r2)) (by decide) rfl (g := (mkF m 32 #[.val (.ref a1), .val (.ref ob2), .val (.int (2 : Int32))] [(.int (2 : Int32)), (.ref b1), (.int (2 : Int32)), (.ref ob2)])) rfl rfl (hb hby d6_32) _) ?_
  show GG _ _ _ _ _ _ _ T9 (mkF m 33 #[.val (.ref a1), .val (.ref ob2), .val (.int (2 : Int32))] [(.long r2), (.int (2 : Int32)), (.ref ob2)])
  obtain ⟨T10, h10, X10, e10, W10, V10, st10⟩ := own_lastore X9 hx hZ e9 V_ob2 (by decide) (Nat.le_of_ble_eq_true rfl) (g := (mkF m 33 #[.val (.ref a1), .val (.ref ob2), .val (.int (2 : Int32))] [(.long r2), (.int (2 : Int32)), (.ref ob2)])) rfl rfl (hb hby d6_33)
  have F_s := F_s.other W10 (Or.inl ne_a1_ob2)
  have F_r := F_r.other W10 (Or.inl ne_a1_ob2)
  have F_p := F_p.other W10 (Or.inl ne_a1_ob2)
  have V_r := V_r.other W10 ne_b1_ob2
  have V_p := V_p.other W10 ne_b2_ob2
  have K0 := K0.wr W10 (Or.inr sz_ob2)
  have E_ob2 := E_ob2.wr W10
  have V_ob2 : Arx Z h10 ob2 .long [(.long r1), (.long t1), (.long r2), (.long (0 : Int64)), (.long (0 : Int64)), (.long (0 : Int64))] := V10
  have N10 := Fr.snoc X10 N7 g_ob2
  refine own_go (fun _ => st10 _) ?_
  show GG _ _ _ _ _ _ _ T10 (mkF m 34 #[.val (.ref a1), .val (.ref ob2), .val (.int (2 : Int32))] [])
  refine own_go (fun _ => XS.aloadN X10.here hx rfl (hb hby d6_34) rfl rfl) ?_
  show GG _ _ _ _ _ _ _ T10 (mkF m 35 #[.val (.ref a1), .val (.ref ob2), .val (.int (2 : Int32))] [(.ref ob2)])
  refine own_go (fun _ => XS.iconst X10.here hx rfl (hb hby d6_35)) ?_
  show GG _ _ _ _ _ _ _ T10 (mkF m 36 #[.val (.ref a1), .val (.ref ob2), .val (.int (2 : Int32))] [(.int (2 : Int32)), (.ref ob2)])
  refine own_go (fun _ => XS.iloadN X10.here hx rfl (hb hby d6_36) rfl) ?_
  show GG _ _ _ _ _ _ _ T10 (mkF m 37 #[.val (.ref a1), .val (.ref ob2), .val (.int (2 : Int32))] [(.int (2 : Int32)), (.int (2 : Int32)), (.ref ob2)])
  refine own_go (fun _ => XS.iconst X10.here hx rfl (hb hby d6_37)) ?_
  show GG _ _ _ _ _ _ _ T10 (mkF m 38 #[.val (.ref a1), .val (.ref ob2), .val (.int (2 : Int32))] [(.int (1 : Int32)), (.int (2 : Int32)), (.int (2 : Int32)), (.ref ob2)])
  refine own_go (fun _ => XS.isub X10.here hx rfl (hb hby d6_38) rfl) ?_
  show GG _ _ _ _ _ _ _ T10 (mkF m 39 #[.val (.ref a1), .val (.ref ob2), .val (.int (2 : Int32))] [(.int (1 : Int32)), (.int (2 : Int32)), (.ref ob2)])
  refine own_go (fun _ => XS.imul X10.here hx rfl (hb hby d6_39) rfl) ?_
  show GG _ _ _ _ _ _ _ T10 (mkF m 40 #[.val (.ref a1), .val (.ref ob2), .val (.int (2 : Int32))] [(.int (2 : Int32)), (.ref ob2)])
  refine own_go (fun _ => XS.iconst X10.here hx rfl (hb hby d6_40)) ?_
  show GG _ _ _ _ _ _ _ T10 (mkF m 41 #[.val (.ref a1), .val (.ref ob2), .val (.int (2 : Int32))] [(.int (1 : Int32)), (.int (2 : Int32)), (.ref ob2)])
  refine own_go (fun _ => XS.iadd X10.here hx rfl (hb hby d6_41) rfl) ?_
  show GG _ _ _ _ _ _ _ T10 (mkF m 42 #[.val (.ref a1), .val (.ref ob2), .val (.int (2 : Int32))] [(.int (3 : Int32)), (.ref ob2)])
  refine own_go (fun _ => XS.aloadN X10.here hx rfl (hb hby d6_42) rfl rfl) ?_
  show GG _ _ _ _ _ _ _ T10 (mkF m 43 #[.val (.ref a1), .val (.ref ob2), .val (.int (2 : Int32))] [(.ref a1), (.int (3 : Int32)), (.ref ob2)])
  obtain ⟨T11, X11, e11, st11⟩ := getF X10 hx hZ hown (host := "") (Or.inl (hw _ (List.mem_of_getElem? (i := 16) rfl))) Via.refl e10 F_p (g := (mkF m 43 #[.val (.ref a1), .val (.ref ob2), .val (.int (2 : Int32))] [(.ref a1), (.int (3 : Int32)), (.ref ob2)])) rfl rfl (hb hby d6_43)
  refine own_go (fun _ => st11 _) ?_
  show GG _ _ _ _ _ _ _ T11 (mkF m 46 #[.val (.ref a1), .val (.ref ob2), .val (.int (2 : Int32))] [(.ref b2), (.int (3 : Int32)), (.ref ob2)])
  refine own_go (fun _ => XS.iloadN X11.here hx rfl (hb hby d6_46) rfl) ?_
  show GG _ _ _ _ _ _ _ T11 (mkF m 47 #[.val (.ref a1), .val (.ref ob2), .val (.int (2 : Int32))] [(.int (2 : Int32)), (.ref b2), (.int (3 : Int32)), (.ref ob2)])
  refine own_go (fun _ => own_laload X11 hx hZ e11 V_p (j := (2 : Int32)) (v := (.long t2)) (by decide) rfl (g := (mkF m 47 #[.val (.ref a1), .val (.ref ob2), .val (.int (2 : Int32))] [(.int (2 : Int32)), (.ref b2), (.int (3 : Int32)), (.ref ob2)])) rfl rfl (hb hby d6_47) _) ?_
  show GG _ _ _ _ _ _ _ T11 (mkF m 48 #[.val (.ref a1), .val (.ref ob2), .val (.int (2 : Int32))] [(.long t2), (.int (3 : Int32)), (.ref ob2)])
  obtain ⟨T12, h12, X12, e12, W12, V12, st12⟩ := own_lastore X11 hx hZ e11 V_ob2 (by decide) (Nat.le_of_ble_eq_true rfl) (g := (mkF m 48 #[.val (.ref a1), .val (.ref ob2), .val (.int (2 : Int32))] [(.long t2), (.int (3 : Int32)), (.ref ob2)])) rfl rfl (hb hby d6_48)
  have F_s := F_s.other W12 (Or.inl ne_a1_ob2)
  have F_r := F_r.other W12 (Or.inl ne_a1_ob2)
  have F_p := F_p.other W12 (Or.inl ne_a1_ob2)
  have V_r := V_r.other W12 ne_b1_ob2
  have V_p := V_p.other W12 ne_b2_ob2
  have K0 := K0.wr W12 (Or.inr sz_ob2)
  have E_ob2 := E_ob2.wr W12
  have V_ob2 : Arx Z h12 ob2 .long [(.long r1), (.long t1), (.long r2), (.long t2), (.long (0 : Int64)), (.long (0 : Int64))] := V12
  have N12 := Fr.snoc X12 N10 g_ob2
  refine own_go (fun _ => st12 _) ?_
  show GG _ _ _ _ _ _ _ T12 (mkF m 49 #[.val (.ref a1), .val (.ref ob2), .val (.int (2 : Int32))] [])
  refine own_go (fun _ => XS.iinc X12.here hx rfl (hb hby d6_49) rfl (l' := #[.val (.ref a1), .val (.ref ob2), .val (.int (3 : Int32))]) rfl) ?_
  show GG _ _ _ _ _ _ _ T12 (mkF m 52 #[.val (.ref a1), .val (.ref ob2), .val (.int (3 : Int32))] [])
  refine own_go (fun _ => XS.goto X12.here hx rfl (pc0 := 52) (pc' := 13) rfl (hb hby d6_52) (by decide) (by decide)) ?_
  show GG _ _ _ _ _ _ _ T12 (mkF m 13 #[.val (.ref a1), .val (.ref ob2), .val (.int (3 : Int32))] [])
  refine own_go (fun _ => XS.iloadN X12.here hx rfl (hb hby d6_13) rfl) ?_
  show GG _ _ _ _ _ _ _ T12 (mkF m 14 #[.val (.ref a1), .val (.ref ob2), .val (.int (3 : Int32))] [(.int (3 : Int32))])
  refine own_go (fun _ => XS.aloadN X12.here hx rfl (hb hby d6_14) rfl rfl) ?_
  show GG _ _ _ _ _ _ _ T12 (mkF m 15 #[.val (.ref a1), .val (.ref ob2), .val (.int (3 : Int32))] [(.ref a1), (.int (3 : Int32))])
  obtain ⟨T13, X13, e13, st13⟩ := getF X12 hx hZ hown (host := "") (Or.inl (hw _ (List.mem_of_getElem? (i := 23) rfl))) Via.refl e12 F_s (g := (mkF m 15 #[.val (.ref a1), .val (.ref ob2), .val (.int (3 : Int32))] [(.ref a1), (.int (3 : Int32))])) rfl rfl (hb hby d6_15)
  refine own_go (fun _ => st13 _) ?_
  show GG _ _ _ _ _ _ _ T13 (mkF m 18 #[.val (.ref a1), .val (.ref ob2), .val (.int (3 : Int32))] [(.int (4 : Int32)), (.int (3 : Int32))])
  have hc18 : (3 : Int32) < (4 : Int32) := by decide
  refine own_go (fun _ => XS.icmpNo X13.here hx rfl (hb hby d6_18) rfl (tlt hc18).2.1) ?_
  show GG _ _ _ _ _ _ _ T13 (mkF m 21 #[.val (.ref a1), .val (.ref ob2), .val (.int (3 : Int32))] [])
  refine own_go (fun _ => XS.aloadN X13.here hx rfl (hb hby d6_21) rfl rfl) ?_
  show GG _ _ _ _ _ _ _ T13 (mkF m 22 #[.val (.ref a1), .val (.ref ob2), .val (.int (3 : Int32))] [(.ref ob2)])
  refine own_go (fun _ => XS.iconst X13.here hx rfl (hb hby d6_22)) ?_
  show GG _ _ _ _ _ _ _ T13 (mkF m 23 #[.val (.ref a1), .val (.ref ob2), .val (.int (3 : Int32))] [(.int (2 : Int32)), (.ref ob2)])
  refine own_go (fun _ => XS.iloadN X13.here hx rfl (hb hby d6_23) rfl) ?_
  show GG _ _ _ _ _ _ _ T13 (mkF m 24 #[.val (.ref a1), .val (.ref ob2), .val (.int (3 : Int32))] [(.int (3 : Int32)), (.int (2 : Int32)), (.ref ob2)])
  refine own_go (fun _ => XS.iconst X13.here hx rfl (hb hby d6_24)) ?_
  show GG _ _ _ _ _ _ _ T13 (mkF m 25 #[.val (.ref a1), .val (.ref ob2), .val (.int (3 : Int32))] [(.int (1 : Int32)), (.int (3 : Int32)), (.int (2 : Int32)), (.ref ob2)])
  refine own_go (fun _ => XS.isub X13.here hx rfl (hb hby d6_25) rfl) ?_
  show GG _ _ _ _ _ _ _ T13 (mkF m 26 #[.val (.ref a1), .val (.ref ob2), .val (.int (3 : Int32))] [(.int (2 : Int32)), (.int (2 : Int32)), (.ref ob2)])
  refine own_go (fun _ => XS.imul X13.here hx rfl (hb hby d6_26) rfl) ?_
  show GG _ _ _ _ _ _ _ T13 (mkF m 27 #[.val (.ref a1), .val (.ref ob2), .val (.int (3 : Int32))] [(.int (4 : Int32)), (.ref ob2)])
  refine own_go (fun _ => XS.aloadN X13.here hx rfl (hb hby d6_27) rfl rfl) ?_
  show GG _ _ _ _ _ _ _ T13 (mkF m 28 #[.val (.ref a1), .val (.ref ob2), .val (.int (3 : Int32))] [(.ref a1), (.int (4 : Int32)), (.ref ob2)])
  obtain ⟨T14, X14, e14, st14⟩ := getF X13 hx hZ hown (host := "") (Or.inl (hw _ (List.mem_of_getElem? (i := 14) rfl))) Via.refl e13 F_r (g := (mkF m 28 #[.val (.ref a1), .val (.ref ob2), .val (.int (3 : Int32))] [(.ref a1), (.int (4 : Int32)), (.ref ob2)])) rfl rfl (hb hby d6_28)
  refine own_go (fun _ => st14 _) ?_
  show GG _ _ _ _ _ _ _ T14 (mkF m 31 #[.val (.ref a1), .val (.ref ob2), .val (.int (3 : Int32))] [(.ref b1), (.int (4 : Int32)), (.ref ob2)])
  refine own_go (fun _ => XS.iloadN X14.here hx rfl (hb hby d6_31) rfl) ?_
  show GG _ _ _ _ _ _ _ T14 (mkF m 32 #[.val (.ref a1), .val (.ref ob2), .val (.int (3 : Int32))] [(.int (3 : Int32)), (.ref b1), (.int (4 : Int32)), (.ref ob2)])
  refine own_go (fun _ => own_laload X14 hx hZ e14 V_r (j := (3 : Int32)) (v := (.long r3)) (by decide) rfl (g := (mkF m 32 #[.val (.ref a1), .val (.ref ob2), .val (.int (3 : Int32))] [(.int (3 : Int32)), (.ref b1), (.int (4 : Int32)), (.ref ob2)])) rfl rfl (hb hby d6_32) _) ?_
  show GG _ _ _ _ _ _ _ T14 (mkF m 33 #[.val (.ref a1), .val (.ref ob2), .val (.int (3 : Int32))] [(.long r3), (.int (4 : Int32)), (.ref ob2)])
  obtain ⟨T15, h15, X15, e15, W15, V15, st15⟩ := own_lastore X14 hx hZ e14 V_ob2 (by decide) (Nat.le_of_ble_eq_true rfl) (g := (mkF m 33 #[.val (.ref a1), .val (.ref ob2), .val (.int (3 : Int32))] [(.long r3), (.int (4 : Int32)), (.ref ob2)])) rfl rfl (hb hby d6_33)
  have F_s := F_s.other W15 (Or.inl ne_a1_ob2)
  have F_r := F_r.other W15 (Or.inl ne_a1_ob2)
  have F_p := F_p.other W15 (Or.inl ne_a1_ob2)
  have V_r := V_r.other W15 ne_b1_ob2
  have V_p := V_p.other W15 ne_b2_ob2
  have K0 := K0.wr W15 (Or.inr sz_ob2)
  have E_ob2 := E_ob2.wr W15
  have V_ob2 : Arx Z h15 ob2 .long [(.long r1), (.long t1), (.long r2), (.long t2), (.long r3), (.long (0 : Int64))] := V15
  have N15 := Fr.snoc X15 N12 g_ob2
  refine own_go (fun _ => st15 _) ?_
  show GG _ _ _ _ _ _ _ T15 (mkF m 34 #[.val (.ref a1), .val (.ref ob2), .val (.int (3 : Int32))] [])
  refine own_go (fun _ => XS.aloadN X15.here hx rfl (hb hby d6_34) rfl rfl) ?_
  show GG _ _ _ _ _ _ _ T15 (mkF m 35 #[.val (.ref a1), .val (.ref ob2), .val (.int (3 : Int32))] [(.ref ob2)])
  refine own_go (fun _ => XS.iconst X15.here hx rfl (hb hby d6_35)) ?_
  show GG _ _ _ _ _ _ _ T15 (mkF m 36 #[.val (.ref a1), .val (.ref ob2), .val (.int (3 : Int32))] [(.int (2 : Int32)), (.ref ob2)])
  refine own_go (fun _ => XS.iloadN X15.here hx rfl (hb hby d6_36) rfl) ?_
  show GG _ _ _ _ _ _ _ T15 (mkF m 37 #[.val (.ref a1), .val (.ref ob2), .val (.int (3 : Int32))] [(.int (3 : Int32)), (.int (2 : Int32)), (.ref ob2)])
  refine own_go (fun _ => XS.iconst X15.here hx rfl (hb hby d6_37)) ?_
  show GG _ _ _ _ _ _ _ T15 (mkF m 38 #[.val (.ref a1), .val (.ref ob2), .val (.int (3 : Int32))] [(.int (1 : Int32)), (.int (3 : Int32)), (.int (2 : Int32)), (.ref ob2)])
  refine own_go (fun _ => XS.isub X15.here hx rfl (hb hby d6_38) rfl) ?_
  show GG _ _ _ _ _ _ _ T15 (mkF m 39 #[.val (.ref a1), .val (.ref ob2), .val (.int (3 : Int32))] [(.int (2 : Int32)), (.int (2 : Int32)), (.ref ob2)])
  refine own_go (fun _ => XS.imul X15.here hx rfl (hb hby d6_39) rfl) ?_
  show GG _ _ _ _ _ _ _ T15 (mkF m 40 #[.val (.ref a1), .val (.ref ob2), .val (.int (3 : Int32))] [(.int (4 : Int32)), (.ref ob2)])
  refine own_go (fun _ => XS.iconst X15.here hx rfl (hb hby d6_40)) ?_
  show GG _ _ _ _ _ _ _ T15 (mkF m 41 #[.val (.ref a1), .val (.ref ob2), .val (.int (3 : Int32))] [(.int (1 : Int32)), (.int (4 : Int32)), (.ref ob2)])
  refine own_go (fun _ => XS.iadd X15.here hx rfl (hb hby d6_41) rfl) ?_
  show GG _ _ _ _ _ _ _ T15 (mkF m 42 #[.val (.ref a1), .val (.ref ob2), .val (.int (3 : Int32))] [(.int (5 : Int32)), (.ref ob2)])
  refine own_go (fun _ => XS.aloadN X15.here hx rfl (hb hby d6_42) rfl rfl) ?_
  show GG _ _ _ _ _ _ _ T15 (mkF m 43 #[.val (.ref a1), .val (.ref ob2), .val (.int (3 : Int32))] [(.ref a1), (.int (5 : Int32)), (.ref ob2)])
  obtain ⟨T16, X16, e16, st16⟩ := getF X15 hx hZ hown (host := "") (Or.inl (hw _ (List.mem_of_getElem? (i := 16) rfl))) Via.refl e15 F_p (g := (mkF m 43 #[.val (.ref a1), .val (.ref ob2), .val (.int (3 : Int32))] [(.ref a1), (.int (5 : Int32)), (.ref ob2)])) rfl rfl (hb hby d6_43)
  refine own_go (fun _ => st16 _) ?_
  show GG _ _ _ _ _ _ _ T16 (mkF m 46 #[.val (.ref a1), .val (.ref ob2), .val (.int (3 : Int32))] [(.ref b2), (.int (5 : Int32)), (.ref ob2)])
  refine own_go (fun _ => XS.iloadN X16.here hx rfl (hb hby d6_46) rfl) ?_
  show GG _ _ _ _ _ _ _ T16 (mkF m 47 #[.val (.ref a1), .val (.ref ob2), .val (.int (3 : Int32))] [(.int (3 : Int32)), (.ref b2), (.int (5 : Int32)), (.ref ob2)])
  refine own_go (fun _ => own_laload X16 hx hZ e16 V_p (j := (3 : Int32)) (v := (.long t3)) (by decide) rfl (g := (mkF m 47 #[.val (.ref a1), .val (.ref ob2), .val (.int (3 : Int32))] [(.int (3 : Int32)), (.ref b2), (.int (5 : Int32)), (.ref ob2)])) rfl rfl (hb hby d6_47) _) ?_
  show GG _ _ _ _ _ _ _ T16 (mkF m 48 #[.val (.ref a1), .val (.ref ob2), .val (.int (3 : Int32))] [(.long t3), (.int (5 : Int32)), (.ref ob2)])
  obtain ⟨T17, h17, X17, e17, W17, V17, st17⟩ := own_lastore X16 hx hZ e16 V_ob2 (by decide) (Nat.le_of_ble_eq_true rfl) (g := (mkF m 48 #[.val (.ref a1), .val (.ref ob2), .val (.int (3 : Int32))] [(.long t3), (.int (5 : Int32)), (.ref ob2)])) rfl rfl (hb hby d6_48)
  have F_s := F_s.other W17 (Or.inl ne_a1_ob2)
  have F_r := F_r.other W17 (Or.inl ne_a1_ob2)
  have F_p := F_p.other W17 (Or.inl ne_a1_ob2)
  have V_r := V_r.other W17 ne_b1_ob2
  have V_p := V_p.other W17 ne_b2_ob2
  have K0 := K0.wr W17 (Or.inr sz_ob2)
  have E_ob2 := E_ob2.wr W17
  have V_ob2 : Arx Z h17 ob2 .long [(.long r1), (.long t1), (.long r2), (.long t2), (.long r3), (.long t3)] := V17
  have N17 := Fr.snoc X17 N15 g_ob2
  refine own_go (fun _ => st17 _) ?_
  show GG _ _ _ _ _ _ _ T17 (mkF m 49 #[.val (.ref a1), .val (.ref ob2), .val (.int (3 : Int32))] [])
  refine own_go (fun _ => XS.iinc X17.here hx rfl (hb hby d6_49) rfl (l' := #[.val (.ref a1), .val (.ref ob2), .val (.int (4 : Int32))]) rfl) ?_
  show GG _ _ _ _ _ _ _ T17 (mkF m 52 #[.val (.ref a1), .val (.ref ob2), .val (.int (4 : Int32))] [])
  refine own_go (fun _ => XS.goto X17.here hx rfl (pc0 := 52) (pc' := 13) rfl (hb hby d6_52) (by decide) (by decide)) ?_
  show GG _ _ _ _ _ _ _ T17 (mkF m 13 #[.val (.ref a1), .val (.ref ob2), .val (.int (4 : Int32))] [])
  refine own_go (fun _ => XS.iloadN X17.here hx rfl (hb hby d6_13) rfl) ?_
  show GG _ _ _ _ _ _ _ T17 (mkF m 14 #[.val (.ref a1), .val (.ref ob2), .val (.int (4 : Int32))] [(.int (4 : Int32))])
  refine own_go (fun _ => XS.aloadN X17.here hx rfl (hb hby d6_14) rfl rfl) ?_
  show GG _ _ _ _ _ _ _ T17 (mkF m 15 #[.val (.ref a1), .val (.ref ob2), .val (.int (4 : Int32))] [(.ref a1), (.int (4 : Int32))])
  obtain ⟨T18, X18, e18, st18⟩ := getF X17 hx hZ hown (host := "") (Or.inl (hw _ (List.mem_of_getElem? (i := 23) rfl))) Via.refl e17 F_s (g := (mkF m 15 #[.val (.ref a1), .val (.ref ob2), .val (.int (4 : Int32))] [(.ref a1), (.int (4 : Int32))])) rfl rfl (hb hby d6_15)
  refine own_go (fun _ => st18 _) ?_
  show GG _ _ _ _ _ _ _ T18 (mkF m 18 #[.val (.ref a1), .val (.ref ob2), .val (.int (4 : Int32))] [(.int (4 : Int32)), (.int (4 : Int32))])
  have hc18 : ¬ ((4 : Int32) < (4 : Int32)) := by decide
  refine own_go (fun _ => XS.icmpYes X18.here hx rfl (pc0 := 18) (pc' := 55) rfl (hb hby d6_18) rfl (flt hc18).2.1 (by decide) (by decide)) ?_
  show GG _ _ _ _ _ _ _ T18 (mkF m 55 #[.val (.ref a1), .val (.ref ob2), .val (.int (4 : Int32))] [])
  refine own_go (fun _ => XS.aloadN X18.here hx rfl (hb hby d6_55) rfl rfl) ?_
  show GG _ _ _ _ _ _ _ T18 (mkF m 56 #[.val (.ref a1), .val (.ref ob2), .val (.int (4 : Int32))] [(.ref ob2)])
  refine own_ret X18 hx hlk (t := (.array .long)) (w := (.ref ob2)) Bd.returns rfl (Or.inr (Or.inr (Or.inr (Or.inr ⟨rfl, rfl, rfl⟩)))) (hb hby d6_56) (by decide) (by decide) ?_
  show Q6_4 Z a1 b1 b2 r0 r1 r2 r3 r4 r5 r6 r7 r8 r9 r10 r11 r12 r13 r14 r15 t0 t1 t2 t3 t4 t5 t6 t7 t8 t9 t10 t11 t12 t13 t14 t15 h0 n0 (some (.ref ob2)) T18.heap _
  rw [e18]
  exact ⟨_, rfl, N17, sz_ob2, K0, V_ob2⟩
theorem d7_0 : decode method_2_code 0 = .ok (.iload_n 2, 1) := by decide +kernel
theorem d7_1 : decode method_2_code 1 = .ok (.iload_n 3, 1) := by decide +kernel
theorem d7_2 : decode method_2_code 2 = .ok (.if_icmp .ge 13, 3) := by decide +kernel
theorem d7_5 : decode method_2_code 5 = .ok (.aload_n 0, 1) := by decide +kernel
theorem d7_6 : decode method_2_code 6 = .ok (.iload_n 2, 1) := by decide +kernel
theorem d7_7 : decode method_2_code 7 = .ok (.laload, 1) := by decide +kernel
theorem d7_8 : decode method_2_code 8 = .ok (.aload_n 1, 1) := by decide +kernel
theorem d7_9 : decode method_2_code 9 = .ok (.iload_n 2, 1) := by decide +kernel
theorem d7_10 : decode method_2_code 10 = .ok (.laload, 1) := by decide +kernel
theorem d7_11 : decode method_2_code 11 = .ok (.lcmp, 1) := by decide +kernel
theorem d7_12 : decode method_2_code 12 = .ok (.ifCond .ne 7, 3) := by decide +kernel
theorem d7_15 : decode method_2_code 15 = .ok (.iconst 1, 1) := by decide +kernel
theorem d7_16 : decode method_2_code 16 = .ok (.goto 4, 3) := by decide +kernel
theorem d7_20 : decode method_2_code 20 = .ok (.ireturn, 1) := by decide +kernel
theorem pn_com_example_obliv_obliv_io_SegmentIndexToArrayPinLaw : plainName "com/example/obliv/obliv/io/SegmentIndexToArrayPinLaw" = true := by first | (simp [plainName, overriddenIn]; done) | decide +kernel
theorem ef_7 (m : MethodId) (x0 : Addr) (x1 : Addr) (x2 : Int32) (x3 : Int32) : entryFrame m #[(.ref x0), (.ref x1), (.int x2), (.int x3)] 4 = mkF m 0 #[.val (.ref x0), .val (.ref x1), .val (.int x2), .val (.int x3)] [] := by first | (simp [entryFrame, mkF, argsToLocals, Value.category]; done) | rfl
def Q7 (Z : State) (a1 : Addr) (a2 : Addr) (p3 : Int32) (p4 : Int32) (vs1 vs2 : List Value) (h0 : Heap) (n0 : Nat) (v : Option Value) (h : Heap) (L : List Loc) : Prop := v = some (.int 1) ∧ Fr n0 L ∧ h = h0
set_option maxRecDepth 65536 in
set_option maxHeartbeats 40000000 in
theorem rm7 (l : Launch) (Z : State) (a0 : Array Value) (hw : ∀ d ∈ tables_1, d.before a0 Z = true) (ws : List Jvm.Cond) (a1 : Addr) (a2 : Addr) (p3 : Int32) (p4 : Int32) (vs1 vs2 : List Value) (h0 : Heap) (n0 : Nat) (Z0 : n0 ≤ h0.size) (V_1 : Arx Z h0 a1 .long vs1) (V_2 : Arx Z h0 a2 .long vs2) (hs : ¬ p3 < p4 ∨ (¬ p3 < 0 ∧ ∃ z : Int64, vs1[p3.toNatClampNeg]? = some (.long z) ∧ vs2[p3.toNatClampNeg]? = some (.long z))) :
    own_CT l Z (⟨"com/example/obliv/obliv/io/SegmentIndexToArrayPinLaw", "eqAt", "([J[JII)Z"⟩ : MethodName) method_2_code 4 (some .boolean) ws ({ frames := 0, cells := 0, slots := 0, locals := 0 } : Room) #[(.ref a1), (.ref a2), (.int p3), (.int p4)] h0 (Q7 Z a1 a2 p3 p4 vs1 vs2 h0 n0) := by
  refine MetFree.of_bodySF (plainFor_of_name pn_com_example_obliv_obliv_io_SegmentIndexToArrayPinLaw) hisR ?_
  intro p e s m args below meth c s₁ Bd hml0 hP hK
  obtain ⟨rfl, hZ, hh⟩ := hP
  have hx := Bd.exec
  have hby := Bd.bytes
  have hml : c.maxLocals = 4 := hml0
  have hown : s.vm.findClass "com/example/obliv/obliv/io/SegmentIndexToArrayPinLaw" = some m.cls := findClass_of_methodNamed Bd.named
  have hnm := (name_of_methodNamed Bd.named Bd.method).1
  have hlk : meth.locks = false := BodyLoose.notSynchronized Bd
  have X0 : Stand p l e ({ frames := 0, cells := 0, slots := 0, locals := 0 } : Room) s m #[(.ref a1), (.ref a2), (.int p3), (.int p4)] below meth c s₁ [] 0 0 := Stand.of_body Bd
  have e0 : s₁.heap = h0 := by rw [← hh, Bd.state]; rfl
  have N0 := Fr.nil n0
  show GG p e below s ({ frames := 0, cells := 0, slots := 0, locals := 0 } : Room).cells ({ frames := 0, cells := 0, slots := 0, locals := 0 } : Room).slots (Q7 Z a1 a2 p3 p4 vs1 vs2 h0 n0) s₁ (entryFrame m #[(.ref a1), (.ref a2), (.int p3), (.int p4)] 4)
  refine own_in (ef_7 m a1 a2 p3 p4) ?_
  show GG _ _ _ _ _ _ _ s₁ (mkF m 0 #[.val (.ref a1), .val (.ref a2), .val (.int p3), .val (.int p4)] [])
  refine own_go (fun _ => XS.iloadN X0.here hx rfl (hb hby d7_0) rfl) ?_
  show GG _ _ _ _ _ _ _ s₁ (mkF m 1 #[.val (.ref a1), .val (.ref a2), .val (.int p3), .val (.int p4)] [(.int p3)])
  refine own_go (fun _ => XS.iloadN X0.here hx rfl (hb hby d7_1) rfl) ?_
  show GG _ _ _ _ _ _ _ s₁ (mkF m 2 #[.val (.ref a1), .val (.ref a2), .val (.int p3), .val (.int p4)] [(.int p4), (.int p3)])
  by_cases hc2 : p3 < p4
  · skip
    refine own_go (fun _ => XS.icmpNo X0.here hx rfl (hb hby d7_2) rfl (tlt hc2).2.1) ?_
    show GG _ _ _ _ _ _ _ s₁ (mkF m 5 #[.val (.ref a1), .val (.ref a2), .val (.int p3), .val (.int p4)] [])
    refine own_go (fun _ => XS.aloadN X0.here hx rfl (hb hby d7_5) rfl rfl) ?_
    show GG _ _ _ _ _ _ _ s₁ (mkF m 6 #[.val (.ref a1), .val (.ref a2), .val (.int p3), .val (.int p4)] [(.ref a1)])
    refine own_go (fun _ => XS.iloadN X0.here hx rfl (hb hby d7_6) rfl) ?_
    show GG _ _ _ _ _ _ _ s₁ (mkF m 7 #[.val (.ref a1), .val (.ref a2), .val (.int p3), .val (.int p4)] [(.int p3), (.ref a1)])
    obtain ⟨hn, z, hz1, hz2⟩ := hs.resolve_left (fun q => q hc2)
    refine own_go (fun _ => own_laload X0 hx hZ e0 V_1 (j := p3) (v := (.long z)) hn hz1 (g := (mkF m 7 #[.val (.ref a1), .val (.ref a2), .val (.int p3), .val (.int p4)] [(.int p3), (.ref a1)])) rfl rfl (hb hby d7_7) _) ?_
    show GG _ _ _ _ _ _ _ s₁ (mkF m 8 #[.val (.ref a1), .val (.ref a2), .val (.int p3), .val (.int p4)] [(.long z)])
    refine own_go (fun _ => XS.aloadN X0.here hx rfl (hb hby d7_8) rfl rfl) ?_
    show GG _ _ _ _ _ _ _ s₁ (mkF m 9 #[.val (.ref a1), .val (.ref a2), .val (.int p3), .val (.int p4)] [(.ref a2), (.long z)])
    refine own_go (fun _ => XS.iloadN X0.here hx rfl (hb hby d7_9) rfl) ?_
    show GG _ _ _ _ _ _ _ s₁ (mkF m 10 #[.val (.ref a1), .val (.ref a2), .val (.int p3), .val (.int p4)] [(.int p3), (.ref a2), (.long z)])
    refine own_go (fun _ => own_laload X0 hx hZ e0 V_2 (j := p3) (v := (.long z)) hn hz2 (g := (mkF m 10 #[.val (.ref a1), .val (.ref a2), .val (.int p3), .val (.int p4)] [(.int p3), (.ref a2), (.long z)])) rfl rfl (hb hby d7_10) _) ?_
    show GG _ _ _ _ _ _ _ s₁ (mkF m 11 #[.val (.ref a1), .val (.ref a2), .val (.int p3), .val (.int p4)] [(.long z), (.long z)])
    refine own_go (fun _ => XS.lcmp X0.here hx rfl (hb hby d7_11) rfl) ?_
    show GG _ _ _ _ _ _ _ s₁ (mkF m 12 #[.val (.ref a1), .val (.ref a2), .val (.int p3), .val (.int p4)] [(.int (lcmpW z z))])
    have hc12 : z = z := rfl
    refine own_go (fun _ => XS.ifNo X0.here hx rfl (hb hby d7_12) rfl ((if0 _ _).trans (teq ((lw_eq _ _).mpr hc12)).2)) ?_
    show GG _ _ _ _ _ _ _ s₁ (mkF m 15 #[.val (.ref a1), .val (.ref a2), .val (.int p3), .val (.int p4)] [])
    refine own_go (fun _ => XS.iconst X0.here hx rfl (hb hby d7_15)) ?_
    show GG _ _ _ _ _ _ _ s₁ (mkF m 16 #[.val (.ref a1), .val (.ref a2), .val (.int p3), .val (.int p4)] [(.int (1 : Int32))])
    refine own_go (fun _ => XS.goto X0.here hx rfl (pc0 := 16) (pc' := 20) rfl (hb hby d7_16) (by decide) (by decide)) ?_
    show GG _ _ _ _ _ _ _ s₁ (mkF m 20 #[.val (.ref a1), .val (.ref a2), .val (.int p3), .val (.int p4)] [(.int (1 : Int32))])
    refine own_ret X0 hx hlk (t := .boolean) (w := (.int (1 : Int32))) Bd.returns rfl (Or.inl ⟨rfl, by simp, _, rfl⟩) (hb hby d7_20) (by decide) (by decide) ?_
    show Q7 Z a1 a2 p3 p4 vs1 vs2 h0 n0 (some (.int (1 : Int32))) s₁.heap _
    rw [e0]
    exact ⟨rfl, N0, rfl⟩
  · skip
    refine own_go (fun _ => XS.icmpYes X0.here hx rfl (pc0 := 2) (pc' := 15) rfl (hb hby d7_2) rfl (flt hc2).2.1 (by decide) (by decide)) ?_
    show GG _ _ _ _ _ _ _ s₁ (mkF m 15 #[.val (.ref a1), .val (.ref a2), .val (.int p3), .val (.int p4)] [])
    refine own_go (fun _ => XS.iconst X0.here hx rfl (hb hby d7_15)) ?_
    show GG _ _ _ _ _ _ _ s₁ (mkF m 16 #[.val (.ref a1), .val (.ref a2), .val (.int p3), .val (.int p4)] [(.int (1 : Int32))])
    refine own_go (fun _ => XS.goto X0.here hx rfl (pc0 := 16) (pc' := 20) rfl (hb hby d7_16) (by decide) (by decide)) ?_
    show GG _ _ _ _ _ _ _ s₁ (mkF m 20 #[.val (.ref a1), .val (.ref a2), .val (.int p3), .val (.int p4)] [(.int (1 : Int32))])
    refine own_ret X0 hx hlk (t := .boolean) (w := (.int (1 : Int32))) Bd.returns rfl (Or.inl ⟨rfl, by simp, _, rfl⟩) (hb hby d7_20) (by decide) (by decide) ?_
    show Q7 Z a1 a2 p3 p4 vs1 vs2 h0 n0 (some (.int (1 : Int32))) s₁.heap _
    rw [e0]
    exact ⟨rfl, N0, rfl⟩
theorem pd___V_167 : parseMethodDescriptor "()V" = some ⟨[], none⟩ := by decide +kernel
theorem pd____J_246 : parseMethodDescriptor "()[J" = some ⟨[], some (.array .long)⟩ := by decide +kernel
theorem pd___J_JII_Z_647 : parseMethodDescriptor "([J[JII)Z" = some ⟨[(.array .long), (.array .long), .int, .int], some .boolean⟩ := by decide +kernel
theorem ef_0 (m : MethodId) (x0 : Int64) (x1 : Int32) (x2 : Int32) (x3 : Int32) (x4 : Int32) (x5 : Int32) : entryFrame m #[(.long x0), (.int x1), (.int x2), (.int x3), (.int x4), (.int x5)] maxLocals = mkF m 0 #[.val (.long x0), .second, .val (.int x1), .val (.int x2), .val (.int x3), .val (.int x4), .val (.int x5), .unset, .unset, .unset, .unset, .unset, .unset, .unset, .unset, .unset, .unset, .unset, .unset, .unset, .unset, .unset, .unset, .unset, .unset] [] := by first | (simp [entryFrame, mkF, argsToLocals, Value.category, maxLocals]; done) | rfl
def Q0 (Z : State) (q0 : Int64) (p1 : Int32) (p2 : Int32) (p3 : Int32) (p4 : Int32) (p5 : Int32) (h0 : Heap) (n0 : Nat) (v : Option Value) (h : Heap) (L : List Loc) : Prop := v = some (.int 1) ∧ Fr n0 L
set_option maxRecDepth 65536 in
set_option maxHeartbeats 40000000 in
theorem rm0 (l : Launch) (Z : State) (a0 : Array Value) (hw : ∀ d ∈ tables_1, d.before a0 Z = true) (ws : List Jvm.Cond) (q0 : Int64) (p1 : Int32) (p2 : Int32) (p3 : Int32) (p4 : Int32) (p5 : Int32) (h0 : Heap) (n0 : Nat) (Z0 : n0 ≤ h0.size)  :
    own_CT l Z x code maxLocals ret ws room_1 #[(.long q0), (.int p1), (.int p2), (.int p3), (.int p4), (.int p5)] h0 (Q0 Z q0 p1 p2 p3 p4 p5 h0 n0) := by
  refine MetFree.of_bodySF (plainFor_of_name pn_com_example_obliv_obliv_io_SegmentIndexToArrayPinLaw) hisR ?_
  intro p e s m args below meth c s₁ Bd hml0 hP hK
  obtain ⟨rfl, hZ, hh⟩ := hP
  have hx := Bd.exec
  have hby := Bd.bytes
  have hml : c.maxLocals = 25 := hml0
  have hown : s.vm.findClass "com/example/obliv/obliv/io/SegmentIndexToArrayPinLaw" = some m.cls := findClass_of_methodNamed Bd.named
  have hnm := (name_of_methodNamed Bd.named Bd.method).1
  have hlk : meth.locks = false := BodyLoose.notSynchronized Bd
  have X0 : Stand p l e room_1 s m #[(.long q0), (.int p1), (.int p2), (.int p3), (.int p4), (.int p5)] below meth c s₁ [] 0 0 := Stand.of_body Bd
  have e0 : s₁.heap = h0 := by rw [← hh, Bd.state]; rfl
  have N0 := Fr.nil n0
  show GG p e below s room_1.cells room_1.slots (Q0 Z q0 p1 p2 p3 p4 p5 h0 n0) s₁ (entryFrame m #[(.long q0), (.int p1), (.int p2), (.int p3), (.int p4), (.int p5)] maxLocals)
  refine own_in (ef_0 m q0 p1 p2 p3 p4 p5) ?_
  show GG _ _ _ _ _ _ _ s₁ (mkF m 0 #[.val (.long q0), .second, .val (.int p1), .val (.int p2), .val (.int p3), .val (.int p4), .val (.int p5), .unset, .unset, .unset, .unset, .unset, .unset, .unset, .unset, .unset, .unset, .unset, .unset, .unset, .unset, .unset, .unset, .unset, .unset] [])
  refine own_go (fun _ => XS.lconst X0.here hx rfl (hb hby at_0)) ?_
  show GG _ _ _ _ _ _ _ s₁ (mkF m 1 #[.val (.long q0), .second, .val (.int p1), .val (.int p2), .val (.int p3), .val (.int p4), .val (.int p5), .unset, .unset, .unset, .unset, .unset, .unset, .unset, .unset, .unset, .unset, .unset, .unset, .unset, .unset, .unset, .unset, .unset, .unset] [(.long (1 : Int64))])
  refine own_go (fun _ => XS.lloadN X0.here hx rfl (hb hby at_1) rfl) ?_
  show GG _ _ _ _ _ _ _ s₁ (mkF m 2 #[.val (.long q0), .second, .val (.int p1), .val (.int p2), .val (.int p3), .val (.int p4), .val (.int p5), .unset, .unset, .unset, .unset, .unset, .unset, .unset, .unset, .unset, .unset, .unset, .unset, .unset, .unset, .unset, .unset, .unset, .unset] [(.long q0), (.long (1 : Int64))])
  refine own_go (fun _ => X0.ldc2Long hx hown (mvT hZ (hw _ (List.mem_of_getElem? (i := 0) rfl))) (g := (mkF m 2 #[.val (.long q0), .second, .val (.int p1), .val (.int p2), .val (.int p3), .val (.int p4), .val (.int p5), .unset, .unset, .unset, .unset, .unset, .unset, .unset, .unset, .unset, .unset, .unset, .unset, .unset, .unset, .unset, .unset, .unset, .unset] [(.long q0), (.long (1 : Int64))])) rfl (hb hby at_2) _) ?_
  show GG _ _ _ _ _ _ _ s₁ (mkF m 5 #[.val (.long q0), .second, .val (.int p1), .val (.int p2), .val (.int p3), .val (.int p4), .val (.int p5), .unset, .unset, .unset, .unset, .unset, .unset, .unset, .unset, .unset, .unset, .unset, .unset, .unset, .unset, .unset, .unset, .unset, .unset] [(.long (4611686018427387903 : Int64)), (.long q0), (.long (1 : Int64))])
  refine own_go (fun _ => XS.land X0.here hx rfl (hb hby at_5) rfl) ?_
  show GG _ _ _ _ _ _ _ s₁ (mkF m 6 #[.val (.long q0), .second, .val (.int p1), .val (.int p2), .val (.int p3), .val (.int p4), .val (.int p5), .unset, .unset, .unset, .unset, .unset, .unset, .unset, .unset, .unset, .unset, .unset, .unset, .unset, .unset, .unset, .unset, .unset, .unset] [(.long (q0 &&& (4611686018427387903 : Int64))), (.long (1 : Int64))])
  refine own_go (fun _ => XS.ladd X0.here hx rfl (hb hby at_6) rfl) ?_
  show GG _ _ _ _ _ _ _ s₁ (mkF m 7 #[.val (.long q0), .second, .val (.int p1), .val (.int p2), .val (.int p3), .val (.int p4), .val (.int p5), .unset, .unset, .unset, .unset, .unset, .unset, .unset, .unset, .unset, .unset, .unset, .unset, .unset, .unset, .unset, .unset, .unset, .unset] [(.long ((1 : Int64) + (q0 &&& (4611686018427387903 : Int64))))])
  refine own_go (fun _ => XS.lstore X0.here hx rfl (hb hby at_7) rfl (l' := #[.val (.long q0), .second, .val (.int p1), .val (.int p2), .val (.int p3), .val (.int p4), .val (.int p5), .val (.long ((1 : Int64) + (q0 &&& (4611686018427387903 : Int64)))), .second, .unset, .unset, .unset, .unset, .unset, .unset, .unset, .unset, .unset, .unset, .unset, .unset, .unset, .unset, .unset, .unset]) rfl) ?_
  show GG _ _ _ _ _ _ _ s₁ (mkF m 9 #[.val (.long q0), .second, .val (.int p1), .val (.int p2), .val (.int p3), .val (.int p4), .val (.int p5), .val (.long ((1 : Int64) + (q0 &&& (4611686018427387903 : Int64)))), .second, .unset, .unset, .unset, .unset, .unset, .unset, .unset, .unset, .unset, .unset, .unset, .unset, .unset, .unset, .unset, .unset] [])
  generalize hx1 : ((1 : Int64) + (q0 &&& (4611686018427387903 : Int64))) = x1
  refine own_go (fun _ => XS.lload X0.here hx rfl (hb hby at_9) rfl) ?_
  show GG _ _ _ _ _ _ _ s₁ (mkF m 11 #[.val (.long q0), .second, .val (.int p1), .val (.int p2), .val (.int p3), .val (.int p4), .val (.int p5), .val (.long x1), .second, .unset, .unset, .unset, .unset, .unset, .unset, .unset, .unset, .unset, .unset, .unset, .unset, .unset, .unset, .unset, .unset] [(.long x1)])
  refine own_go (fun _ => XS.lconst X0.here hx rfl (hb hby at_11)) ?_
  show GG _ _ _ _ _ _ _ s₁ (mkF m 12 #[.val (.long q0), .second, .val (.int p1), .val (.int p2), .val (.int p3), .val (.int p4), .val (.int p5), .val (.long x1), .second, .unset, .unset, .unset, .unset, .unset, .unset, .unset, .unset, .unset, .unset, .unset, .unset, .unset, .unset, .unset, .unset] [(.long (1 : Int64)), (.long x1)])
  refine own_go (fun _ => XS.ladd X0.here hx rfl (hb hby at_12) rfl) ?_
  show GG _ _ _ _ _ _ _ s₁ (mkF m 13 #[.val (.long q0), .second, .val (.int p1), .val (.int p2), .val (.int p3), .val (.int p4), .val (.int p5), .val (.long x1), .second, .unset, .unset, .unset, .unset, .unset, .unset, .unset, .unset, .unset, .unset, .unset, .unset, .unset, .unset, .unset, .unset] [(.long (x1 + (1 : Int64)))])
  refine own_go (fun _ => XS.iloadN X0.here hx rfl (hb hby at_13) rfl) ?_
  show GG _ _ _ _ _ _ _ s₁ (mkF m 14 #[.val (.long q0), .second, .val (.int p1), .val (.int p2), .val (.int p3), .val (.int p4), .val (.int p5), .val (.long x1), .second, .unset, .unset, .unset, .unset, .unset, .unset, .unset, .unset, .unset, .unset, .unset, .unset, .unset, .unset, .unset, .unset] [(.int p1), (.long (x1 + (1 : Int64)))])
  refine own_go (fun _ => X0.ldcInt hx hown (mvT hZ (hw _ (List.mem_of_getElem? (i := 1) rfl))) (g := (mkF m 14 #[.val (.long q0), .second, .val (.int p1), .val (.int p2), .val (.int p3), .val (.int p4), .val (.int p5), .val (.long x1), .second, .unset, .unset, .unset, .unset, .unset, .unset, .unset, .unset, .unset, .unset, .unset, .unset, .unset, .unset, .unset, .unset] [(.int p1), (.long (x1 + (1 : Int64)))])) rfl (hb hby at_14) _) ?_
  show GG _ _ _ _ _ _ _ s₁ (mkF m 16 #[.val (.long q0), .second, .val (.int p1), .val (.int p2), .val (.int p3), .val (.int p4), .val (.int p5), .val (.long x1), .second, .unset, .unset, .unset, .unset, .unset, .unset, .unset, .unset, .unset, .unset, .unset, .unset, .unset, .unset, .unset, .unset] [(.int (2147483647 : Int32)), (.int p1), (.long (x1 + (1 : Int64)))])
  refine own_go (fun _ => XS.iand X0.here hx rfl (hb hby at_16) rfl) ?_
  show GG _ _ _ _ _ _ _ s₁ (mkF m 17 #[.val (.long q0), .second, .val (.int p1), .val (.int p2), .val (.int p3), .val (.int p4), .val (.int p5), .val (.long x1), .second, .unset, .unset, .unset, .unset, .unset, .unset, .unset, .unset, .unset, .unset, .unset, .unset, .unset, .unset, .unset, .unset] [(.int (p1 &&& (2147483647 : Int32))), (.long (x1 + (1 : Int64)))])
  refine own_go (fun _ => XS.i2l X0.here hx rfl (hb hby at_17) rfl) ?_
  show GG _ _ _ _ _ _ _ s₁ (mkF m 18 #[.val (.long q0), .second, .val (.int p1), .val (.int p2), .val (.int p3), .val (.int p4), .val (.int p5), .val (.long x1), .second, .unset, .unset, .unset, .unset, .unset, .unset, .unset, .unset, .unset, .unset, .unset, .unset, .unset, .unset, .unset, .unset] [(.long ((p1 &&& (2147483647 : Int32)).toInt64)), (.long (x1 + (1 : Int64)))])
  refine own_go (fun _ => XS.ladd X0.here hx rfl (hb hby at_18) rfl) ?_
  show GG _ _ _ _ _ _ _ s₁ (mkF m 19 #[.val (.long q0), .second, .val (.int p1), .val (.int p2), .val (.int p3), .val (.int p4), .val (.int p5), .val (.long x1), .second, .unset, .unset, .unset, .unset, .unset, .unset, .unset, .unset, .unset, .unset, .unset, .unset, .unset, .unset, .unset, .unset] [(.long ((x1 + (1 : Int64)) + ((p1 &&& (2147483647 : Int32)).toInt64)))])
  refine own_go (fun _ => XS.lstore X0.here hx rfl (hb hby at_19) rfl (l' := #[.val (.long q0), .second, .val (.int p1), .val (.int p2), .val (.int p3), .val (.int p4), .val (.int p5), .val (.long x1), .second, .val (.long ((x1 + (1 : Int64)) + ((p1 &&& (2147483647 : Int32)).toInt64))), .second, .unset, .unset, .unset, .unset, .unset, .unset, .unset, .unset, .unset, .unset, .unset, .unset, .unset, .unset]) rfl) ?_
  show GG _ _ _ _ _ _ _ s₁ (mkF m 21 #[.val (.long q0), .second, .val (.int p1), .val (.int p2), .val (.int p3), .val (.int p4), .val (.int p5), .val (.long x1), .second, .val (.long ((x1 + (1 : Int64)) + ((p1 &&& (2147483647 : Int32)).toInt64))), .second, .unset, .unset, .unset, .unset, .unset, .unset, .unset, .unset, .unset, .unset, .unset, .unset, .unset, .unset] [])
  generalize hx2 : ((x1 + (1 : Int64)) + ((p1 &&& (2147483647 : Int32)).toInt64)) = x2
  refine own_go (fun _ => XS.lload X0.here hx rfl (hb hby at_21) rfl) ?_
  show GG _ _ _ _ _ _ _ s₁ (mkF m 23 #[.val (.long q0), .second, .val (.int p1), .val (.int p2), .val (.int p3), .val (.int p4), .val (.int p5), .val (.long x1), .second, .val (.long x2), .second, .unset, .unset, .unset, .unset, .unset, .unset, .unset, .unset, .unset, .unset, .unset, .unset, .unset, .unset] [(.long x2)])
  refine own_go (fun _ => XS.lconst X0.here hx rfl (hb hby at_23)) ?_
  show GG _ _ _ _ _ _ _ s₁ (mkF m 24 #[.val (.long q0), .second, .val (.int p1), .val (.int p2), .val (.int p3), .val (.int p4), .val (.int p5), .val (.long x1), .second, .val (.long x2), .second, .unset, .unset, .unset, .unset, .unset, .unset, .unset, .unset, .unset, .unset, .unset, .unset, .unset, .unset] [(.long (1 : Int64)), (.long x2)])
  refine own_go (fun _ => XS.ladd X0.here hx rfl (hb hby at_24) rfl) ?_
  show GG _ _ _ _ _ _ _ s₁ (mkF m 25 #[.val (.long q0), .second, .val (.int p1), .val (.int p2), .val (.int p3), .val (.int p4), .val (.int p5), .val (.long x1), .second, .val (.long x2), .second, .unset, .unset, .unset, .unset, .unset, .unset, .unset, .unset, .unset, .unset, .unset, .unset, .unset, .unset] [(.long (x2 + (1 : Int64)))])
  refine own_go (fun _ => XS.iloadN X0.here hx rfl (hb hby at_25) rfl) ?_
  show GG _ _ _ _ _ _ _ s₁ (mkF m 26 #[.val (.long q0), .second, .val (.int p1), .val (.int p2), .val (.int p3), .val (.int p4), .val (.int p5), .val (.long x1), .second, .val (.long x2), .second, .unset, .unset, .unset, .unset, .unset, .unset, .unset, .unset, .unset, .unset, .unset, .unset, .unset, .unset] [(.int p2), (.long (x2 + (1 : Int64)))])
  refine own_go (fun _ => X0.ldcInt hx hown (mvT hZ (hw _ (List.mem_of_getElem? (i := 1) rfl))) (g := (mkF m 26 #[.val (.long q0), .second, .val (.int p1), .val (.int p2), .val (.int p3), .val (.int p4), .val (.int p5), .val (.long x1), .second, .val (.long x2), .second, .unset, .unset, .unset, .unset, .unset, .unset, .unset, .unset, .unset, .unset, .unset, .unset, .unset, .unset] [(.int p2), (.long (x2 + (1 : Int64)))])) rfl (hb hby at_26) _) ?_
  show GG _ _ _ _ _ _ _ s₁ (mkF m 28 #[.val (.long q0), .second, .val (.int p1), .val (.int p2), .val (.int p3), .val (.int p4), .val (.int p5), .val (.long x1), .second, .val (.long x2), .second, .unset, .unset, .unset, .unset, .unset, .unset, .unset, .unset, .unset, .unset, .unset, .unset, .unset, .unset] [(.int (2147483647 : Int32)), (.int p2), (.long (x2 + (1 : Int64)))])
  refine own_go (fun _ => XS.iand X0.here hx rfl (hb hby at_28) rfl) ?_
  show GG _ _ _ _ _ _ _ s₁ (mkF m 29 #[.val (.long q0), .second, .val (.int p1), .val (.int p2), .val (.int p3), .val (.int p4), .val (.int p5), .val (.long x1), .second, .val (.long x2), .second, .unset, .unset, .unset, .unset, .unset, .unset, .unset, .unset, .unset, .unset, .unset, .unset, .unset, .unset] [(.int (p2 &&& (2147483647 : Int32))), (.long (x2 + (1 : Int64)))])
  refine own_go (fun _ => XS.i2l X0.here hx rfl (hb hby at_29) rfl) ?_
  show GG _ _ _ _ _ _ _ s₁ (mkF m 30 #[.val (.long q0), .second, .val (.int p1), .val (.int p2), .val (.int p3), .val (.int p4), .val (.int p5), .val (.long x1), .second, .val (.long x2), .second, .unset, .unset, .unset, .unset, .unset, .unset, .unset, .unset, .unset, .unset, .unset, .unset, .unset, .unset] [(.long ((p2 &&& (2147483647 : Int32)).toInt64)), (.long (x2 + (1 : Int64)))])
  refine own_go (fun _ => XS.ladd X0.here hx rfl (hb hby at_30) rfl) ?_
  show GG _ _ _ _ _ _ _ s₁ (mkF m 31 #[.val (.long q0), .second, .val (.int p1), .val (.int p2), .val (.int p3), .val (.int p4), .val (.int p5), .val (.long x1), .second, .val (.long x2), .second, .unset, .unset, .unset, .unset, .unset, .unset, .unset, .unset, .unset, .unset, .unset, .unset, .unset, .unset] [(.long ((x2 + (1 : Int64)) + ((p2 &&& (2147483647 : Int32)).toInt64)))])
  refine own_go (fun _ => XS.lstore X0.here hx rfl (hb hby at_31) rfl (l' := #[.val (.long q0), .second, .val (.int p1), .val (.int p2), .val (.int p3), .val (.int p4), .val (.int p5), .val (.long x1), .second, .val (.long x2), .second, .val (.long ((x2 + (1 : Int64)) + ((p2 &&& (2147483647 : Int32)).toInt64))), .second, .unset, .unset, .unset, .unset, .unset, .unset, .unset, .unset, .unset, .unset, .unset, .unset]) rfl) ?_
  show GG _ _ _ _ _ _ _ s₁ (mkF m 33 #[.val (.long q0), .second, .val (.int p1), .val (.int p2), .val (.int p3), .val (.int p4), .val (.int p5), .val (.long x1), .second, .val (.long x2), .second, .val (.long ((x2 + (1 : Int64)) + ((p2 &&& (2147483647 : Int32)).toInt64))), .second, .unset, .unset, .unset, .unset, .unset, .unset, .unset, .unset, .unset, .unset, .unset, .unset] [])
  generalize hx3 : ((x2 + (1 : Int64)) + ((p2 &&& (2147483647 : Int32)).toInt64)) = x3
  refine own_go (fun _ => X0.ldc2Long hx hown (mvT hZ (hw _ (List.mem_of_getElem? (i := 2) rfl))) (g := (mkF m 33 #[.val (.long q0), .second, .val (.int p1), .val (.int p2), .val (.int p3), .val (.int p4), .val (.int p5), .val (.long x1), .second, .val (.long x2), .second, .val (.long x3), .second, .unset, .unset, .unset, .unset, .unset, .unset, .unset, .unset, .unset, .unset, .unset, .unset] [])) rfl (hb hby at_33) _) ?_
  show GG _ _ _ _ _ _ _ s₁ (mkF m 36 #[.val (.long q0), .second, .val (.int p1), .val (.int p2), .val (.int p3), .val (.int p4), .val (.int p5), .val (.long x1), .second, .val (.long x2), .second, .val (.long x3), .second, .unset, .unset, .unset, .unset, .unset, .unset, .unset, .unset, .unset, .unset, .unset, .unset] [(.long (8 : Int64))])
  refine own_go (fun _ => XS.iload X0.here hx rfl (hb hby at_36) rfl) ?_
  show GG _ _ _ _ _ _ _ s₁ (mkF m 38 #[.val (.long q0), .second, .val (.int p1), .val (.int p2), .val (.int p3), .val (.int p4), .val (.int p5), .val (.long x1), .second, .val (.long x2), .second, .val (.long x3), .second, .unset, .unset, .unset, .unset, .unset, .unset, .unset, .unset, .unset, .unset, .unset, .unset] [(.int p3), (.long (8 : Int64))])
  refine own_go (fun _ => X0.ldcInt hx hown (mvT hZ (hw _ (List.mem_of_getElem? (i := 3) rfl))) (g := (mkF m 38 #[.val (.long q0), .second, .val (.int p1), .val (.int p2), .val (.int p3), .val (.int p4), .val (.int p5), .val (.long x1), .second, .val (.long x2), .second, .val (.long x3), .second, .unset, .unset, .unset, .unset, .unset, .unset, .unset, .unset, .unset, .unset, .unset, .unset] [(.int p3), (.long (8 : Int64))])) rfl (hb hby at_38) _) ?_
  show GG _ _ _ _ _ _ _ s₁ (mkF m 40 #[.val (.long q0), .second, .val (.int p1), .val (.int p2), .val (.int p3), .val (.int p4), .val (.int p5), .val (.long x1), .second, .val (.long x2), .second, .val (.long x3), .second, .unset, .unset, .unset, .unset, .unset, .unset, .unset, .unset, .unset, .unset, .unset, .unset] [(.int (131071 : Int32)), (.int p3), (.long (8 : Int64))])
  refine own_go (fun _ => XS.iand X0.here hx rfl (hb hby at_40) rfl) ?_
  show GG _ _ _ _ _ _ _ s₁ (mkF m 41 #[.val (.long q0), .second, .val (.int p1), .val (.int p2), .val (.int p3), .val (.int p4), .val (.int p5), .val (.long x1), .second, .val (.long x2), .second, .val (.long x3), .second, .unset, .unset, .unset, .unset, .unset, .unset, .unset, .unset, .unset, .unset, .unset, .unset] [(.int (p3 &&& (131071 : Int32))), (.long (8 : Int64))])
  refine own_go (fun _ => XS.i2l X0.here hx rfl (hb hby at_41) rfl) ?_
  show GG _ _ _ _ _ _ _ s₁ (mkF m 42 #[.val (.long q0), .second, .val (.int p1), .val (.int p2), .val (.int p3), .val (.int p4), .val (.int p5), .val (.long x1), .second, .val (.long x2), .second, .val (.long x3), .second, .unset, .unset, .unset, .unset, .unset, .unset, .unset, .unset, .unset, .unset, .unset, .unset] [(.long ((p3 &&& (131071 : Int32)).toInt64)), (.long (8 : Int64))])
  refine own_go (fun _ => XS.ladd X0.here hx rfl (hb hby at_42) rfl) ?_
  show GG _ _ _ _ _ _ _ s₁ (mkF m 43 #[.val (.long q0), .second, .val (.int p1), .val (.int p2), .val (.int p3), .val (.int p4), .val (.int p5), .val (.long x1), .second, .val (.long x2), .second, .val (.long x3), .second, .unset, .unset, .unset, .unset, .unset, .unset, .unset, .unset, .unset, .unset, .unset, .unset] [(.long ((8 : Int64) + ((p3 &&& (131071 : Int32)).toInt64)))])
  refine own_go (fun _ => XS.lstore X0.here hx rfl (hb hby at_43) rfl (l' := #[.val (.long q0), .second, .val (.int p1), .val (.int p2), .val (.int p3), .val (.int p4), .val (.int p5), .val (.long x1), .second, .val (.long x2), .second, .val (.long x3), .second, .val (.long ((8 : Int64) + ((p3 &&& (131071 : Int32)).toInt64))), .second, .unset, .unset, .unset, .unset, .unset, .unset, .unset, .unset, .unset, .unset]) rfl) ?_
  show GG _ _ _ _ _ _ _ s₁ (mkF m 45 #[.val (.long q0), .second, .val (.int p1), .val (.int p2), .val (.int p3), .val (.int p4), .val (.int p5), .val (.long x1), .second, .val (.long x2), .second, .val (.long x3), .second, .val (.long ((8 : Int64) + ((p3 &&& (131071 : Int32)).toInt64))), .second, .unset, .unset, .unset, .unset, .unset, .unset, .unset, .unset, .unset, .unset] [])
  generalize hx4 : ((8 : Int64) + ((p3 &&& (131071 : Int32)).toInt64)) = x4
  refine own_go (fun _ => XS.lload X0.here hx rfl (hb hby at_45) rfl) ?_
  show GG _ _ _ _ _ _ _ s₁ (mkF m 47 #[.val (.long q0), .second, .val (.int p1), .val (.int p2), .val (.int p3), .val (.int p4), .val (.int p5), .val (.long x1), .second, .val (.long x2), .second, .val (.long x3), .second, .val (.long x4), .second, .unset, .unset, .unset, .unset, .unset, .unset, .unset, .unset, .unset, .unset] [(.long x4)])
  refine own_go (fun _ => XS.iload X0.here hx rfl (hb hby at_47) rfl) ?_
  show GG _ _ _ _ _ _ _ s₁ (mkF m 49 #[.val (.long q0), .second, .val (.int p1), .val (.int p2), .val (.int p3), .val (.int p4), .val (.int p5), .val (.long x1), .second, .val (.long x2), .second, .val (.long x3), .second, .val (.long x4), .second, .unset, .unset, .unset, .unset, .unset, .unset, .unset, .unset, .unset, .unset] [(.int p4), (.long x4)])
  refine own_go (fun _ => X0.ldcInt hx hown (mvT hZ (hw _ (List.mem_of_getElem? (i := 3) rfl))) (g := (mkF m 49 #[.val (.long q0), .second, .val (.int p1), .val (.int p2), .val (.int p3), .val (.int p4), .val (.int p5), .val (.long x1), .second, .val (.long x2), .second, .val (.long x3), .second, .val (.long x4), .second, .unset, .unset, .unset, .unset, .unset, .unset, .unset, .unset, .unset, .unset] [(.int p4), (.long x4)])) rfl (hb hby at_49) _) ?_
  show GG _ _ _ _ _ _ _ s₁ (mkF m 51 #[.val (.long q0), .second, .val (.int p1), .val (.int p2), .val (.int p3), .val (.int p4), .val (.int p5), .val (.long x1), .second, .val (.long x2), .second, .val (.long x3), .second, .val (.long x4), .second, .unset, .unset, .unset, .unset, .unset, .unset, .unset, .unset, .unset, .unset] [(.int (131071 : Int32)), (.int p4), (.long x4)])
  refine own_go (fun _ => XS.iand X0.here hx rfl (hb hby at_51) rfl) ?_
  show GG _ _ _ _ _ _ _ s₁ (mkF m 52 #[.val (.long q0), .second, .val (.int p1), .val (.int p2), .val (.int p3), .val (.int p4), .val (.int p5), .val (.long x1), .second, .val (.long x2), .second, .val (.long x3), .second, .val (.long x4), .second, .unset, .unset, .unset, .unset, .unset, .unset, .unset, .unset, .unset, .unset] [(.int (p4 &&& (131071 : Int32))), (.long x4)])
  refine own_go (fun _ => XS.i2l X0.here hx rfl (hb hby at_52) rfl) ?_
  show GG _ _ _ _ _ _ _ s₁ (mkF m 53 #[.val (.long q0), .second, .val (.int p1), .val (.int p2), .val (.int p3), .val (.int p4), .val (.int p5), .val (.long x1), .second, .val (.long x2), .second, .val (.long x3), .second, .val (.long x4), .second, .unset, .unset, .unset, .unset, .unset, .unset, .unset, .unset, .unset, .unset] [(.long ((p4 &&& (131071 : Int32)).toInt64)), (.long x4)])
  refine own_go (fun _ => XS.ladd X0.here hx rfl (hb hby at_53) rfl) ?_
  show GG _ _ _ _ _ _ _ s₁ (mkF m 54 #[.val (.long q0), .second, .val (.int p1), .val (.int p2), .val (.int p3), .val (.int p4), .val (.int p5), .val (.long x1), .second, .val (.long x2), .second, .val (.long x3), .second, .val (.long x4), .second, .unset, .unset, .unset, .unset, .unset, .unset, .unset, .unset, .unset, .unset] [(.long (x4 + ((p4 &&& (131071 : Int32)).toInt64)))])
  refine own_go (fun _ => XS.lstore X0.here hx rfl (hb hby at_54) rfl (l' := #[.val (.long q0), .second, .val (.int p1), .val (.int p2), .val (.int p3), .val (.int p4), .val (.int p5), .val (.long x1), .second, .val (.long x2), .second, .val (.long x3), .second, .val (.long x4), .second, .val (.long (x4 + ((p4 &&& (131071 : Int32)).toInt64))), .second, .unset, .unset, .unset, .unset, .unset, .unset, .unset, .unset]) rfl) ?_
  show GG _ _ _ _ _ _ _ s₁ (mkF m 56 #[.val (.long q0), .second, .val (.int p1), .val (.int p2), .val (.int p3), .val (.int p4), .val (.int p5), .val (.long x1), .second, .val (.long x2), .second, .val (.long x3), .second, .val (.long x4), .second, .val (.long (x4 + ((p4 &&& (131071 : Int32)).toInt64))), .second, .unset, .unset, .unset, .unset, .unset, .unset, .unset, .unset] [])
  generalize hx5 : (x4 + ((p4 &&& (131071 : Int32)).toInt64)) = x5
  refine own_go (fun _ => XS.lload X0.here hx rfl (hb hby at_56) rfl) ?_
  show GG _ _ _ _ _ _ _ s₁ (mkF m 58 #[.val (.long q0), .second, .val (.int p1), .val (.int p2), .val (.int p3), .val (.int p4), .val (.int p5), .val (.long x1), .second, .val (.long x2), .second, .val (.long x3), .second, .val (.long x4), .second, .val (.long x5), .second, .unset, .unset, .unset, .unset, .unset, .unset, .unset, .unset] [(.long x5)])
  refine own_go (fun _ => XS.iload X0.here hx rfl (hb hby at_58) rfl) ?_
  show GG _ _ _ _ _ _ _ s₁ (mkF m 60 #[.val (.long q0), .second, .val (.int p1), .val (.int p2), .val (.int p3), .val (.int p4), .val (.int p5), .val (.long x1), .second, .val (.long x2), .second, .val (.long x3), .second, .val (.long x4), .second, .val (.long x5), .second, .unset, .unset, .unset, .unset, .unset, .unset, .unset, .unset] [(.int p5), (.long x5)])
  refine own_go (fun _ => X0.ldcInt hx hown (mvT hZ (hw _ (List.mem_of_getElem? (i := 3) rfl))) (g := (mkF m 60 #[.val (.long q0), .second, .val (.int p1), .val (.int p2), .val (.int p3), .val (.int p4), .val (.int p5), .val (.long x1), .second, .val (.long x2), .second, .val (.long x3), .second, .val (.long x4), .second, .val (.long x5), .second, .unset, .unset, .unset, .unset, .unset, .unset, .unset, .unset] [(.int p5), (.long x5)])) rfl (hb hby at_60) _) ?_
  show GG _ _ _ _ _ _ _ s₁ (mkF m 62 #[.val (.long q0), .second, .val (.int p1), .val (.int p2), .val (.int p3), .val (.int p4), .val (.int p5), .val (.long x1), .second, .val (.long x2), .second, .val (.long x3), .second, .val (.long x4), .second, .val (.long x5), .second, .unset, .unset, .unset, .unset, .unset, .unset, .unset, .unset] [(.int (131071 : Int32)), (.int p5), (.long x5)])
  refine own_go (fun _ => XS.iand X0.here hx rfl (hb hby at_62) rfl) ?_
  show GG _ _ _ _ _ _ _ s₁ (mkF m 63 #[.val (.long q0), .second, .val (.int p1), .val (.int p2), .val (.int p3), .val (.int p4), .val (.int p5), .val (.long x1), .second, .val (.long x2), .second, .val (.long x3), .second, .val (.long x4), .second, .val (.long x5), .second, .unset, .unset, .unset, .unset, .unset, .unset, .unset, .unset] [(.int (p5 &&& (131071 : Int32))), (.long x5)])
  refine own_go (fun _ => XS.i2l X0.here hx rfl (hb hby at_63) rfl) ?_
  show GG _ _ _ _ _ _ _ s₁ (mkF m 64 #[.val (.long q0), .second, .val (.int p1), .val (.int p2), .val (.int p3), .val (.int p4), .val (.int p5), .val (.long x1), .second, .val (.long x2), .second, .val (.long x3), .second, .val (.long x4), .second, .val (.long x5), .second, .unset, .unset, .unset, .unset, .unset, .unset, .unset, .unset] [(.long ((p5 &&& (131071 : Int32)).toInt64)), (.long x5)])
  refine own_go (fun _ => XS.ladd X0.here hx rfl (hb hby at_64) rfl) ?_
  show GG _ _ _ _ _ _ _ s₁ (mkF m 65 #[.val (.long q0), .second, .val (.int p1), .val (.int p2), .val (.int p3), .val (.int p4), .val (.int p5), .val (.long x1), .second, .val (.long x2), .second, .val (.long x3), .second, .val (.long x4), .second, .val (.long x5), .second, .unset, .unset, .unset, .unset, .unset, .unset, .unset, .unset] [(.long (x5 + ((p5 &&& (131071 : Int32)).toInt64)))])
  refine own_go (fun _ => XS.lstore X0.here hx rfl (hb hby at_65) rfl (l' := #[.val (.long q0), .second, .val (.int p1), .val (.int p2), .val (.int p3), .val (.int p4), .val (.int p5), .val (.long x1), .second, .val (.long x2), .second, .val (.long x3), .second, .val (.long x4), .second, .val (.long x5), .second, .val (.long (x5 + ((p5 &&& (131071 : Int32)).toInt64))), .second, .unset, .unset, .unset, .unset, .unset, .unset]) rfl) ?_
  show GG _ _ _ _ _ _ _ s₁ (mkF m 67 #[.val (.long q0), .second, .val (.int p1), .val (.int p2), .val (.int p3), .val (.int p4), .val (.int p5), .val (.long x1), .second, .val (.long x2), .second, .val (.long x3), .second, .val (.long x4), .second, .val (.long x5), .second, .val (.long (x5 + ((p5 &&& (131071 : Int32)).toInt64))), .second, .unset, .unset, .unset, .unset, .unset, .unset] [])
  generalize hx6 : (x5 + ((p5 &&& (131071 : Int32)).toInt64)) = x6
  have K0 := Keep.refl h0 []
  obtain ⟨T7, h7, X7, e7, E7, A7, D7, -, st7⟩ := newO X0 hx hZ hown (hw _ (List.mem_of_getElem? (i := 4) rfl)) (hw _ (List.mem_of_getElem? (i := 5) rfl)) (hw _ (List.mem_of_getElem? (i := 6) rfl)) e0 (g := (mkF m 67 #[.val (.long q0), .second, .val (.int p1), .val (.int p2), .val (.int p3), .val (.int p4), .val (.int p5), .val (.long x1), .second, .val (.long x2), .second, .val (.long x3), .second, .val (.long x4), .second, .val (.long x5), .second, .val (.long x6), .second, .unset, .unset, .unset, .unset, .unset, .unset] [])) rfl (hb hby at_67) (by decide) (by decide)
  obtain ⟨ob7, g7⟩ : ∃ z, z = h0.size := ⟨_, rfl⟩
  rw [← g7] at A7 D7 st7
  have sz_ob7 : h0.size ≤ ob7 := Nat.le_trans K0.1 (Nat.le_of_eq g7.symm)
  have g_ob7 : n0 ≤ ob7 := Nat.le_trans Z0 sz_ob7
  have K0 := K0.ext E7
  have E_ob7 := A7
  have F_records_ob7 : Fld Z h7 ob7 "com/example/obliv/obliv/io/SegmentIndex" "records" "[J" .null := D7 (Or.inl (hw _ (List.mem_of_getElem? (i := 15) rfl))) (ty := (.array .long)) (by decide)
  have F_positions_ob7 : Fld Z h7 ob7 "com/example/obliv/obliv/io/SegmentIndex" "positions" "[J" .null := D7 (Or.inl (hw _ (List.mem_of_getElem? (i := 17) rfl))) (ty := (.array .long)) (by decide)
  have F_size_ob7 : Fld Z h7 ob7 "com/example/obliv/obliv/io/SegmentIndex" "size" "I" (.int (0 : Int32)) := D7 (Or.inl (hw _ (List.mem_of_getElem? (i := 24) rfl))) (ty := .int) (by decide)
  refine own_go (fun _ => st7 _) ?_
  show GG _ _ _ _ _ _ _ T7 (mkF m 70 #[.val (.long q0), .second, .val (.int p1), .val (.int p2), .val (.int p3), .val (.int p4), .val (.int p5), .val (.long x1), .second, .val (.long x2), .second, .val (.long x3), .second, .val (.long x4), .second, .val (.long x5), .second, .val (.long x6), .second, .unset, .unset, .unset, .unset, .unset, .unset] [(.ref ob7)])
  refine own_go (fun _ => XS.dup X7.here hx rfl (hb hby at_70) rfl rfl) ?_
  show GG _ _ _ _ _ _ _ T7 (mkF m 71 #[.val (.long q0), .second, .val (.int p1), .val (.int p2), .val (.int p3), .val (.int p4), .val (.int p5), .val (.long x1), .second, .val (.long x2), .second, .val (.long x3), .second, .val (.long x4), .second, .val (.long x5), .second, .val (.long x6), .second, .unset, .unset, .unset, .unset, .unset, .unset] [(.ref ob7), (.ref ob7)])
  refine own_callI X7 hx hZ (y := (⟨"com/example/obliv/obliv/io/SegmentIndex", "<init>", "()V"⟩ : MethodName)) 1 rfl hown (hw _ (List.mem_of_getElem? (i := 7) rfl)) (hw _ (List.mem_of_getElem? (i := 8) rfl)) (hw _ (List.mem_of_getElem? (i := 6) rfl)) (hw _ (List.mem_of_getElem? (i := 9) rfl)) (by decide) (a := ob7) (argsL := []) (rest := [(.ref ob7)]) (rm1 l Z a0 hw [] ob7 h7 n0 (Nat.le_trans Z0 K0.1) E_ob7 F_size_ob7 F_records_ob7 F_positions_ob7 g_ob7) (by decide) (by decide) (by decide) (by decide) (g := (mkF m 71 #[.val (.long q0), .second, .val (.int p1), .val (.int p2), .val (.int p3), .val (.int p4), .val (.int p5), .val (.long x1), .second, .val (.long x2), .second, .val (.long x3), .second, .val (.long x4), .second, .val (.long x5), .second, .val (.long x6), .second, .unset, .unset, .unset, .unset, .unset, .unset] [(.ref ob7), (.ref ob7)])) rfl (by rw [hml]; rfl) (lenOf pd___V_167 rfl) rfl (by show 2 * 0 + _ ≤ _; exact Nat.le_of_eq rfl) (hb hby at_71) e7 ?_
  rintro v8 T8 L8 X8 ⟨rfl, N8q, Kq8, Eq8, c1_8, c2_8, s1_8, s2_8, n12_8, Fs8, Fr8, Fp8, Vr8, Vp8⟩
  have N8 := Fr.app N0 N8q
  have ne1_8 : ob7 ≠ c1_8 := Nat.ne_of_lt (Nat.lt_of_lt_of_le E_ob7.lt s1_8)
  have ne2_8 : ob7 ≠ c2_8 := Nat.ne_of_lt (Nat.lt_of_lt_of_le E_ob7.lt s2_8)
  have sz_c1_8 : h0.size ≤ c1_8 := Nat.le_trans K0.1 s1_8
  have g_c1_8 : n0 ≤ c1_8 := Nat.le_trans Z0 sz_c1_8
  have sz_c2_8 : h0.size ≤ c2_8 := Nat.le_trans K0.1 s2_8
  have g_c2_8 : n0 ≤ c2_8 := Nat.le_trans Z0 sz_c2_8
  have K0 := K0.trans Kq8 (allS (Or.inr sz_ob7) all0)
  show GG _ _ _ _ _ _ _ T8 (mkF m 74 #[.val (.long q0), .second, .val (.int p1), .val (.int p2), .val (.int p3), .val (.int p4), .val (.int p5), .val (.long x1), .second, .val (.long x2), .second, .val (.long x3), .second, .val (.long x4), .second, .val (.long x5), .second, .val (.long x6), .second, .unset, .unset, .unset, .unset, .unset, .unset] [(.ref ob7)])
  refine own_go (fun _ => XS.astore X8.here hx rfl (hb hby at_74) rfl rfl (l' := #[.val (.long q0), .second, .val (.int p1), .val (.int p2), .val (.int p3), .val (.int p4), .val (.int p5), .val (.long x1), .second, .val (.long x2), .second, .val (.long x3), .second, .val (.long x4), .second, .val (.long x5), .second, .val (.long x6), .second, .val (.ref ob7), .unset, .unset, .unset, .unset, .unset]) rfl) ?_
  show GG _ _ _ _ _ _ _ T8 (mkF m 76 #[.val (.long q0), .second, .val (.int p1), .val (.int p2), .val (.int p3), .val (.int p4), .val (.int p5), .val (.long x1), .second, .val (.long x2), .second, .val (.long x3), .second, .val (.long x4), .second, .val (.long x5), .second, .val (.long x6), .second, .val (.ref ob7), .unset, .unset, .unset, .unset, .unset] [])
  refine own_go (fun _ => XS.aload X8.here hx rfl (hb hby at_76) rfl rfl) ?_
  show GG _ _ _ _ _ _ _ T8 (mkF m 78 #[.val (.long q0), .second, .val (.int p1), .val (.int p2), .val (.int p3), .val (.int p4), .val (.int p5), .val (.long x1), .second, .val (.long x2), .second, .val (.long x3), .second, .val (.long x4), .second, .val (.long x5), .second, .val (.long x6), .second, .val (.ref ob7), .unset, .unset, .unset, .unset, .unset] [(.ref ob7)])
  refine own_go (fun _ => XS.lload X8.here hx rfl (hb hby at_78) rfl) ?_
  show GG _ _ _ _ _ _ _ T8 (mkF m 80 #[.val (.long q0), .second, .val (.int p1), .val (.int p2), .val (.int p3), .val (.int p4), .val (.int p5), .val (.long x1), .second, .val (.long x2), .second, .val (.long x3), .second, .val (.long x4), .second, .val (.long x5), .second, .val (.long x6), .second, .val (.ref ob7), .unset, .unset, .unset, .unset, .unset] [(.long x1), (.ref ob7)])
  refine own_go (fun _ => XS.lload X8.here hx rfl (hb hby at_80) rfl) ?_
  show GG _ _ _ _ _ _ _ T8 (mkF m 82 #[.val (.long q0), .second, .val (.int p1), .val (.int p2), .val (.int p3), .val (.int p4), .val (.int p5), .val (.long x1), .second, .val (.long x2), .second, .val (.long x3), .second, .val (.long x4), .second, .val (.long x5), .second, .val (.long x6), .second, .val (.ref ob7), .unset, .unset, .unset, .unset, .unset] [(.long x4), (.long x1), (.ref ob7)])
  by_cases hp82 : (x4 - (8 : Int64)) < (65536 : Int64)
  · skip
    refine own_callV X8 hx hZ (y := (⟨"com/example/obliv/obliv/io/SegmentIndex", "add", "(JJ)V"⟩ : MethodName)) (z := (⟨"com/example/obliv/obliv/io/SegmentIndex", "add", "(JJ)V"⟩ : MethodName)) 0 hown (hw _ (List.mem_of_getElem? (i := 25) rfl)) (hw _ (List.mem_of_getElem? (i := 26) rfl)) (notFace_of_selects (args := #[]) (mvT hZ (hw _ (List.mem_of_getElem? (i := 28) rfl)))) (hw _ (List.mem_of_getElem? (i := 28) rfl)) (hw _ (List.mem_of_getElem? (i := 27) rfl)) (hw _ (List.mem_of_getElem? (i := 6) rfl)) (hw _ (List.mem_of_getElem? (i := 29) rfl)) (by decide) (a := ob7) (argsL := [(.long x1), (.long x4)]) (rest := []) (rm4_1x l Z a0 hw [] ob7 x1 x4 c1_8 c2_8 (0 : Int64) (0 : Int64) (0 : Int64) (0 : Int64) (0 : Int64) (0 : Int64) (0 : Int64) (0 : Int64) (0 : Int64) (0 : Int64) (0 : Int64) (0 : Int64) (0 : Int64) (0 : Int64) (0 : Int64) (0 : Int64) (8 : Int64) (0 : Int64) (0 : Int64) (0 : Int64) (0 : Int64) (0 : Int64) (0 : Int64) (0 : Int64) (0 : Int64) (0 : Int64) (0 : Int64) (0 : Int64) (0 : Int64) (0 : Int64) (0 : Int64) (0 : Int64) T8.heap n0 (Nat.le_trans Z0 K0.1) hp82 Eq8 Fs8 Fr8 Fp8 Vr8 Vp8 n12_8 ne1_8 ne2_8 g_ob7 g_c1_8 g_c2_8) (by decide) (by decide) (by decide) (by decide) Eq8 (g := (mkF m 82 #[.val (.long q0), .second, .val (.int p1), .val (.int p2), .val (.int p3), .val (.int p4), .val (.int p5), .val (.long x1), .second, .val (.long x2), .second, .val (.long x3), .second, .val (.long x4), .second, .val (.long x5), .second, .val (.long x6), .second, .val (.ref ob7), .unset, .unset, .unset, .unset, .unset] [(.long x4), (.long x1), (.ref ob7)])) rfl (by rw [hml]; rfl) (lenOf pd__JJ_V_315 rfl) rfl (by show 2 * 0 + _ ≤ _; exact Nat.le_of_eq rfl) (hb hby at_82) rfl ?_
    rintro v9 T9 L9 X9 ⟨rfl, N9q, hh9⟩
    have N9 := Fr.app N8 N9q
    show GG _ _ _ _ _ _ _ T9 (mkF m 85 #[.val (.long q0), .second, .val (.int p1), .val (.int p2), .val (.int p3), .val (.int p4), .val (.int p5), .val (.long x1), .second, .val (.long x2), .second, .val (.long x3), .second, .val (.long x4), .second, .val (.long x5), .second, .val (.long x6), .second, .val (.ref ob7), .unset, .unset, .unset, .unset, .unset] [])
    refine own_go (fun _ => XS.aload X9.here hx rfl (hb hby at_85) rfl rfl) ?_
    show GG _ _ _ _ _ _ _ T9 (mkF m 87 #[.val (.long q0), .second, .val (.int p1), .val (.int p2), .val (.int p3), .val (.int p4), .val (.int p5), .val (.long x1), .second, .val (.long x2), .second, .val (.long x3), .second, .val (.long x4), .second, .val (.long x5), .second, .val (.long x6), .second, .val (.ref ob7), .unset, .unset, .unset, .unset, .unset] [(.ref ob7)])
    refine own_go (fun _ => XS.lload X9.here hx rfl (hb hby at_87) rfl) ?_
    show GG _ _ _ _ _ _ _ T9 (mkF m 89 #[.val (.long q0), .second, .val (.int p1), .val (.int p2), .val (.int p3), .val (.int p4), .val (.int p5), .val (.long x1), .second, .val (.long x2), .second, .val (.long x3), .second, .val (.long x4), .second, .val (.long x5), .second, .val (.long x6), .second, .val (.ref ob7), .unset, .unset, .unset, .unset, .unset] [(.long x2), (.ref ob7)])
    refine own_go (fun _ => XS.lload X9.here hx rfl (hb hby at_89) rfl) ?_
    show GG _ _ _ _ _ _ _ T9 (mkF m 91 #[.val (.long q0), .second, .val (.int p1), .val (.int p2), .val (.int p3), .val (.int p4), .val (.int p5), .val (.long x1), .second, .val (.long x2), .second, .val (.long x3), .second, .val (.long x4), .second, .val (.long x5), .second, .val (.long x6), .second, .val (.ref ob7), .unset, .unset, .unset, .unset, .unset] [(.long x5), (.long x2), (.ref ob7)])
    by_cases hp91 : (x5 - (8 : Int64)) < (65536 : Int64)
    · skip
      refine own_callV X9 hx hZ (y := (⟨"com/example/obliv/obliv/io/SegmentIndex", "add", "(JJ)V"⟩ : MethodName)) (z := (⟨"com/example/obliv/obliv/io/SegmentIndex", "add", "(JJ)V"⟩ : MethodName)) 0 hown (hw _ (List.mem_of_getElem? (i := 25) rfl)) (hw _ (List.mem_of_getElem? (i := 26) rfl)) (notFace_of_selects (args := #[]) (mvT hZ (hw _ (List.mem_of_getElem? (i := 28) rfl)))) (hw _ (List.mem_of_getElem? (i := 28) rfl)) (hw _ (List.mem_of_getElem? (i := 27) rfl)) (hw _ (List.mem_of_getElem? (i := 6) rfl)) (hw _ (List.mem_of_getElem? (i := 29) rfl)) (by decide) (a := ob7) (argsL := [(.long x2), (.long x5)]) (rest := []) (rm4_1x l Z a0 hw [] ob7 x2 x5 c1_8 c2_8 (0 : Int64) (0 : Int64) (0 : Int64) (0 : Int64) (0 : Int64) (0 : Int64) (0 : Int64) (0 : Int64) (0 : Int64) (0 : Int64) (0 : Int64) (0 : Int64) (0 : Int64) (0 : Int64) (0 : Int64) (0 : Int64) (8 : Int64) (0 : Int64) (0 : Int64) (0 : Int64) (0 : Int64) (0 : Int64) (0 : Int64) (0 : Int64) (0 : Int64) (0 : Int64) (0 : Int64) (0 : Int64) (0 : Int64) (0 : Int64) (0 : Int64) (0 : Int64) T8.heap n0 (Nat.le_trans Z0 K0.1) hp91 Eq8 Fs8 Fr8 Fp8 Vr8 Vp8 n12_8 ne1_8 ne2_8 g_ob7 g_c1_8 g_c2_8) (by decide) (by decide) (by decide) (by decide) Eq8 (g := (mkF m 91 #[.val (.long q0), .second, .val (.int p1), .val (.int p2), .val (.int p3), .val (.int p4), .val (.int p5), .val (.long x1), .second, .val (.long x2), .second, .val (.long x3), .second, .val (.long x4), .second, .val (.long x5), .second, .val (.long x6), .second, .val (.ref ob7), .unset, .unset, .unset, .unset, .unset] [(.long x5), (.long x2), (.ref ob7)])) rfl (by rw [hml]; rfl) (lenOf pd__JJ_V_315 rfl) rfl (by show 2 * 0 + _ ≤ _; exact Nat.le_of_eq rfl) (hb hby at_91) hh9 ?_
      rintro v10 T10 L10 X10 ⟨rfl, N10q, hh10⟩
      have N10 := Fr.app N9 N10q
      show GG _ _ _ _ _ _ _ T10 (mkF m 94 #[.val (.long q0), .second, .val (.int p1), .val (.int p2), .val (.int p3), .val (.int p4), .val (.int p5), .val (.long x1), .second, .val (.long x2), .second, .val (.long x3), .second, .val (.long x4), .second, .val (.long x5), .second, .val (.long x6), .second, .val (.ref ob7), .unset, .unset, .unset, .unset, .unset] [])
      refine own_go (fun _ => XS.aload X10.here hx rfl (hb hby at_94) rfl rfl) ?_
      show GG _ _ _ _ _ _ _ T10 (mkF m 96 #[.val (.long q0), .second, .val (.int p1), .val (.int p2), .val (.int p3), .val (.int p4), .val (.int p5), .val (.long x1), .second, .val (.long x2), .second, .val (.long x3), .second, .val (.long x4), .second, .val (.long x5), .second, .val (.long x6), .second, .val (.ref ob7), .unset, .unset, .unset, .unset, .unset] [(.ref ob7)])
      refine own_go (fun _ => XS.lload X10.here hx rfl (hb hby at_96) rfl) ?_
      show GG _ _ _ _ _ _ _ T10 (mkF m 98 #[.val (.long q0), .second, .val (.int p1), .val (.int p2), .val (.int p3), .val (.int p4), .val (.int p5), .val (.long x1), .second, .val (.long x2), .second, .val (.long x3), .second, .val (.long x4), .second, .val (.long x5), .second, .val (.long x6), .second, .val (.ref ob7), .unset, .unset, .unset, .unset, .unset] [(.long x3), (.ref ob7)])
      refine own_go (fun _ => XS.lload X10.here hx rfl (hb hby at_98) rfl) ?_
      show GG _ _ _ _ _ _ _ T10 (mkF m 100 #[.val (.long q0), .second, .val (.int p1), .val (.int p2), .val (.int p3), .val (.int p4), .val (.int p5), .val (.long x1), .second, .val (.long x2), .second, .val (.long x3), .second, .val (.long x4), .second, .val (.long x5), .second, .val (.long x6), .second, .val (.ref ob7), .unset, .unset, .unset, .unset, .unset] [(.long x6), (.long x3), (.ref ob7)])
      by_cases hp100 : (x6 - (8 : Int64)) < (65536 : Int64)
      · skip
        refine own_callV X10 hx hZ (y := (⟨"com/example/obliv/obliv/io/SegmentIndex", "add", "(JJ)V"⟩ : MethodName)) (z := (⟨"com/example/obliv/obliv/io/SegmentIndex", "add", "(JJ)V"⟩ : MethodName)) 0 hown (hw _ (List.mem_of_getElem? (i := 25) rfl)) (hw _ (List.mem_of_getElem? (i := 26) rfl)) (notFace_of_selects (args := #[]) (mvT hZ (hw _ (List.mem_of_getElem? (i := 28) rfl)))) (hw _ (List.mem_of_getElem? (i := 28) rfl)) (hw _ (List.mem_of_getElem? (i := 27) rfl)) (hw _ (List.mem_of_getElem? (i := 6) rfl)) (hw _ (List.mem_of_getElem? (i := 29) rfl)) (by decide) (a := ob7) (argsL := [(.long x3), (.long x6)]) (rest := []) (rm4_1x l Z a0 hw [] ob7 x3 x6 c1_8 c2_8 (0 : Int64) (0 : Int64) (0 : Int64) (0 : Int64) (0 : Int64) (0 : Int64) (0 : Int64) (0 : Int64) (0 : Int64) (0 : Int64) (0 : Int64) (0 : Int64) (0 : Int64) (0 : Int64) (0 : Int64) (0 : Int64) (8 : Int64) (0 : Int64) (0 : Int64) (0 : Int64) (0 : Int64) (0 : Int64) (0 : Int64) (0 : Int64) (0 : Int64) (0 : Int64) (0 : Int64) (0 : Int64) (0 : Int64) (0 : Int64) (0 : Int64) (0 : Int64) T8.heap n0 (Nat.le_trans Z0 K0.1) hp100 Eq8 Fs8 Fr8 Fp8 Vr8 Vp8 n12_8 ne1_8 ne2_8 g_ob7 g_c1_8 g_c2_8) (by decide) (by decide) (by decide) (by decide) Eq8 (g := (mkF m 100 #[.val (.long q0), .second, .val (.int p1), .val (.int p2), .val (.int p3), .val (.int p4), .val (.int p5), .val (.long x1), .second, .val (.long x2), .second, .val (.long x3), .second, .val (.long x4), .second, .val (.long x5), .second, .val (.long x6), .second, .val (.ref ob7), .unset, .unset, .unset, .unset, .unset] [(.long x6), (.long x3), (.ref ob7)])) rfl (by rw [hml]; rfl) (lenOf pd__JJ_V_315 rfl) rfl (by show 2 * 0 + _ ≤ _; exact Nat.le_of_eq rfl) (hb hby at_100) hh10 ?_
        rintro v11 T11 L11 X11 ⟨rfl, N11q, hh11⟩
        have N11 := Fr.app N10 N11q
        show GG _ _ _ _ _ _ _ T11 (mkF m 103 #[.val (.long q0), .second, .val (.int p1), .val (.int p2), .val (.int p3), .val (.int p4), .val (.int p5), .val (.long x1), .second, .val (.long x2), .second, .val (.long x3), .second, .val (.long x4), .second, .val (.long x5), .second, .val (.long x6), .second, .val (.ref ob7), .unset, .unset, .unset, .unset, .unset] [])
        refine own_go (fun _ => XS.aload X11.here hx rfl (hb hby at_103) rfl rfl) ?_
        show GG _ _ _ _ _ _ _ T11 (mkF m 105 #[.val (.long q0), .second, .val (.int p1), .val (.int p2), .val (.int p3), .val (.int p4), .val (.int p5), .val (.long x1), .second, .val (.long x2), .second, .val (.long x3), .second, .val (.long x4), .second, .val (.long x5), .second, .val (.long x6), .second, .val (.ref ob7), .unset, .unset, .unset, .unset, .unset] [(.ref ob7)])
        refine own_callV X11 hx hZ (y := (⟨"com/example/obliv/obliv/io/SegmentIndex", "toArray", "()[J"⟩ : MethodName)) (z := (⟨"com/example/obliv/obliv/io/SegmentIndex", "toArray", "()[J"⟩ : MethodName)) 0 hown (hw _ (List.mem_of_getElem? (i := 35) rfl)) (hw _ (List.mem_of_getElem? (i := 36) rfl)) (notFace_of_selects (args := #[]) (mvT hZ (hw _ (List.mem_of_getElem? (i := 38) rfl)))) (hw _ (List.mem_of_getElem? (i := 38) rfl)) (hw _ (List.mem_of_getElem? (i := 37) rfl)) (hw _ (List.mem_of_getElem? (i := 6) rfl)) (hw _ (List.mem_of_getElem? (i := 39) rfl)) (by decide) (a := ob7) (argsL := []) (rest := []) (rm6_1 l Z a0 hw [] ob7 c1_8 c2_8 (0 : Int64) (0 : Int64) (0 : Int64) (0 : Int64) (0 : Int64) (0 : Int64) (0 : Int64) (0 : Int64) (0 : Int64) (0 : Int64) (0 : Int64) (0 : Int64) (0 : Int64) (0 : Int64) (0 : Int64) (0 : Int64) (8 : Int64) (0 : Int64) (0 : Int64) (0 : Int64) (0 : Int64) (0 : Int64) (0 : Int64) (0 : Int64) (0 : Int64) (0 : Int64) (0 : Int64) (0 : Int64) (0 : Int64) (0 : Int64) (0 : Int64) (0 : Int64) T8.heap n0 (Nat.le_trans Z0 K0.1) Fs8 Fr8 Fp8 Vr8 Vp8) (by decide) (by decide) (by decide) (by decide) Eq8 (g := (mkF m 105 #[.val (.long q0), .second, .val (.int p1), .val (.int p2), .val (.int p3), .val (.int p4), .val (.int p5), .val (.long x1), .second, .val (.long x2), .second, .val (.long x3), .second, .val (.long x4), .second, .val (.long x5), .second, .val (.long x6), .second, .val (.ref ob7), .unset, .unset, .unset, .unset, .unset] [(.ref ob7)])) rfl (by rw [hml]; rfl) (lenOf pd____J_246 rfl) rfl (by show 2 * 0 + _ ≤ _; exact Nat.le_of_eq rfl) (hb hby at_105) hh11 ?_
        rintro v12 T12 L12 X12 ⟨bq12, rfl, N12q, szq12, Kq12, Vq12⟩
        have N12 := Fr.app N11 N12q
        have K0 := K0.trans Kq12 all0
        have Eq8 := Eq8.keep Kq12
        have Fs8 := Fs8.keep Kq12 nin0
        have Fr8 := Fr8.keep Kq12 nin0
        have Fp8 := Fp8.keep Kq12 nin0
        have Vr8 := Vr8.keep Kq12 nin0
        have Vp8 := Vp8.keep Kq12 nin0
        show GG _ _ _ _ _ _ _ T12 (mkF m 108 #[.val (.long q0), .second, .val (.int p1), .val (.int p2), .val (.int p3), .val (.int p4), .val (.int p5), .val (.long x1), .second, .val (.long x2), .second, .val (.long x3), .second, .val (.long x4), .second, .val (.long x5), .second, .val (.long x6), .second, .val (.ref ob7), .unset, .unset, .unset, .unset, .unset] [(.ref bq12)])
        refine own_go (fun _ => XS.astore X12.here hx rfl (hb hby at_108) rfl rfl (l' := #[.val (.long q0), .second, .val (.int p1), .val (.int p2), .val (.int p3), .val (.int p4), .val (.int p5), .val (.long x1), .second, .val (.long x2), .second, .val (.long x3), .second, .val (.long x4), .second, .val (.long x5), .second, .val (.long x6), .second, .val (.ref ob7), .val (.ref bq12), .unset, .unset, .unset, .unset]) rfl) ?_
        show GG _ _ _ _ _ _ _ T12 (mkF m 110 #[.val (.long q0), .second, .val (.int p1), .val (.int p2), .val (.int p3), .val (.int p4), .val (.int p5), .val (.long x1), .second, .val (.long x2), .second, .val (.long x3), .second, .val (.long x4), .second, .val (.long x5), .second, .val (.long x6), .second, .val (.ref ob7), .val (.ref bq12), .unset, .unset, .unset, .unset] [])
        refine own_go (fun _ => XS.bipush X12.here hx rfl (hb hby at_110)) ?_
        show GG _ _ _ _ _ _ _ T12 (mkF m 112 #[.val (.long q0), .second, .val (.int p1), .val (.int p2), .val (.int p3), .val (.int p4), .val (.int p5), .val (.long x1), .second, .val (.long x2), .second, .val (.long x3), .second, .val (.long x4), .second, .val (.long x5), .second, .val (.long x6), .second, .val (.ref ob7), .val (.ref bq12), .unset, .unset, .unset, .unset] [(.int (6 : Int32))])
        obtain ⟨T13, h13, ob13, g13, X13, e13, E13, V_ob13, E_ob13, st13⟩ := own_newarr X12 hx hZ (hw _ (List.mem_of_getElem? (i := 13) rfl)) rfl (g := (mkF m 112 #[.val (.long q0), .second, .val (.int p1), .val (.int p2), .val (.int p3), .val (.int p4), .val (.int p5), .val (.long x1), .second, .val (.long x2), .second, .val (.long x3), .second, .val (.long x4), .second, .val (.long x5), .second, .val (.long x6), .second, .val (.ref ob7), .val (.ref bq12), .unset, .unset, .unset, .unset] [(.int (6 : Int32))])) rfl (hb hby at_112) rfl (by decide) (cap := 6) (by decide) (by decide) (by decide) (by decide) (ad := "[J") (by decide)
        have ne_ob7_ob13 : ob7 ≠ ob13 := Nat.ne_of_lt (Nat.lt_of_lt_of_le Eq8.lt (Nat.le_of_eq g13.symm))
        have ne_c1_8_ob13 : c1_8 ≠ ob13 := Nat.ne_of_lt (Nat.lt_of_lt_of_le Vr8.lt (Nat.le_of_eq g13.symm))
        have ne_c2_8_ob13 : c2_8 ≠ ob13 := Nat.ne_of_lt (Nat.lt_of_lt_of_le Vp8.lt (Nat.le_of_eq g13.symm))
        have ne_bq12_ob13 : bq12 ≠ ob13 := Nat.ne_of_lt (Nat.lt_of_lt_of_le Vq12.lt (Nat.le_of_eq g13.symm))
        have sz_ob13 : h0.size ≤ ob13 := Nat.le_trans K0.1 (Nat.le_of_eq g13.symm)
        have g_ob13 : n0 ≤ ob13 := Nat.le_trans Z0 sz_ob13
        have K0 := K0.ext E13
        have Eq8 := Eq8.ext E13
        have Fs8 := Fs8.ext E13
        have Fr8 := Fr8.ext E13
        have Fp8 := Fp8.ext E13
        have Vr8 := Vr8.ext E13
        have Vp8 := Vp8.ext E13
        have Vq12 := Vq12.ext E13
        have V_ob13 : Arx Z h13 ob13 .long [(.long (0 : Int64)), (.long (0 : Int64)), (.long (0 : Int64)), (.long (0 : Int64)), (.long (0 : Int64)), (.long (0 : Int64))] := V_ob13
        refine own_go (fun _ => st13 _) ?_
        show GG _ _ _ _ _ _ _ T13 (mkF m 114 #[.val (.long q0), .second, .val (.int p1), .val (.int p2), .val (.int p3), .val (.int p4), .val (.int p5), .val (.long x1), .second, .val (.long x2), .second, .val (.long x3), .second, .val (.long x4), .second, .val (.long x5), .second, .val (.long x6), .second, .val (.ref ob7), .val (.ref bq12), .unset, .unset, .unset, .unset] [(.ref ob13)])
        refine own_go (fun _ => XS.astore X13.here hx rfl (hb hby at_114) rfl rfl (l' := #[.val (.long q0), .second, .val (.int p1), .val (.int p2), .val (.int p3), .val (.int p4), .val (.int p5), .val (.long x1), .second, .val (.long x2), .second, .val (.long x3), .second, .val (.long x4), .second, .val (.long x5), .second, .val (.long x6), .second, .val (.ref ob7), .val (.ref bq12), .val (.ref ob13), .unset, .unset, .unset]) rfl) ?_
        show GG _ _ _ _ _ _ _ T13 (mkF m 116 #[.val (.long q0), .second, .val (.int p1), .val (.int p2), .val (.int p3), .val (.int p4), .val (.int p5), .val (.long x1), .second, .val (.long x2), .second, .val (.long x3), .second, .val (.long x4), .second, .val (.long x5), .second, .val (.long x6), .second, .val (.ref ob7), .val (.ref bq12), .val (.ref ob13), .unset, .unset, .unset] [])
        refine own_go (fun _ => XS.iconst X13.here hx rfl (hb hby at_116)) ?_
        show GG _ _ _ _ _ _ _ T13 (mkF m 117 #[.val (.long q0), .second, .val (.int p1), .val (.int p2), .val (.int p3), .val (.int p4), .val (.int p5), .val (.long x1), .second, .val (.long x2), .second, .val (.long x3), .second, .val (.long x4), .second, .val (.long x5), .second, .val (.long x6), .second, .val (.ref ob7), .val (.ref bq12), .val (.ref ob13), .unset, .unset, .unset] [(.int (0 : Int32))])
        refine own_go (fun _ => XS.istore X13.here hx rfl (hb hby at_117) rfl (l' := #[.val (.long q0), .second, .val (.int p1), .val (.int p2), .val (.int p3), .val (.int p4), .val (.int p5), .val (.long x1), .second, .val (.long x2), .second, .val (.long x3), .second, .val (.long x4), .second, .val (.long x5), .second, .val (.long x6), .second, .val (.ref ob7), .val (.ref bq12), .val (.ref ob13), .val (.int (0 : Int32)), .unset, .unset]) rfl) ?_
        show GG _ _ _ _ _ _ _ T13 (mkF m 119 #[.val (.long q0), .second, .val (.int p1), .val (.int p2), .val (.int p3), .val (.int p4), .val (.int p5), .val (.long x1), .second, .val (.long x2), .second, .val (.long x3), .second, .val (.long x4), .second, .val (.long x5), .second, .val (.long x6), .second, .val (.ref ob7), .val (.ref bq12), .val (.ref ob13), .val (.int (0 : Int32)), .unset, .unset] [])
        refine own_go (fun _ => X13.ldc2Long hx hown (mvT hZ (hw _ (List.mem_of_getElem? (i := 2) rfl))) (g := (mkF m 119 #[.val (.long q0), .second, .val (.int p1), .val (.int p2), .val (.int p3), .val (.int p4), .val (.int p5), .val (.long x1), .second, .val (.long x2), .second, .val (.long x3), .second, .val (.long x4), .second, .val (.long x5), .second, .val (.long x6), .second, .val (.ref ob7), .val (.ref bq12), .val (.ref ob13), .val (.int (0 : Int32)), .unset, .unset] [])) rfl (hb hby at_119) _) ?_
        show GG _ _ _ _ _ _ _ T13 (mkF m 122 #[.val (.long q0), .second, .val (.int p1), .val (.int p2), .val (.int p3), .val (.int p4), .val (.int p5), .val (.long x1), .second, .val (.long x2), .second, .val (.long x3), .second, .val (.long x4), .second, .val (.long x5), .second, .val (.long x6), .second, .val (.ref ob7), .val (.ref bq12), .val (.ref ob13), .val (.int (0 : Int32)), .unset, .unset] [(.long (8 : Int64))])
        refine own_go (fun _ => XS.lstore X13.here hx rfl (hb hby at_122) rfl (l' := #[.val (.long q0), .second, .val (.int p1), .val (.int p2), .val (.int p3), .val (.int p4), .val (.int p5), .val (.long x1), .second, .val (.long x2), .second, .val (.long x3), .second, .val (.long x4), .second, .val (.long x5), .second, .val (.long x6), .second, .val (.ref ob7), .val (.ref bq12), .val (.ref ob13), .val (.int (0 : Int32)), .val (.long (8 : Int64)), .second]) rfl) ?_
        show GG _ _ _ _ _ _ _ T13 (mkF m 124 #[.val (.long q0), .second, .val (.int p1), .val (.int p2), .val (.int p3), .val (.int p4), .val (.int p5), .val (.long x1), .second, .val (.long x2), .second, .val (.long x3), .second, .val (.long x4), .second, .val (.long x5), .second, .val (.long x6), .second, .val (.ref ob7), .val (.ref bq12), .val (.ref ob13), .val (.int (0 : Int32)), .val (.long (8 : Int64)), .second] [])
        refine own_go (fun _ => XS.lload X13.here hx rfl (hb hby at_124) rfl) ?_
        show GG _ _ _ _ _ _ _ T13 (mkF m 126 #[.val (.long q0), .second, .val (.int p1), .val (.int p2), .val (.int p3), .val (.int p4), .val (.int p5), .val (.long x1), .second, .val (.long x2), .second, .val (.long x3), .second, .val (.long x4), .second, .val (.long x5), .second, .val (.long x6), .second, .val (.ref ob7), .val (.ref bq12), .val (.ref ob13), .val (.int (0 : Int32)), .val (.long (8 : Int64)), .second] [(.long x4)])
        refine own_go (fun _ => XS.lload X13.here hx rfl (hb hby at_126) rfl) ?_
        show GG _ _ _ _ _ _ _ T13 (mkF m 128 #[.val (.long q0), .second, .val (.int p1), .val (.int p2), .val (.int p3), .val (.int p4), .val (.int p5), .val (.long x1), .second, .val (.long x2), .second, .val (.long x3), .second, .val (.long x4), .second, .val (.long x5), .second, .val (.long x6), .second, .val (.ref ob7), .val (.ref bq12), .val (.ref ob13), .val (.int (0 : Int32)), .val (.long (8 : Int64)), .second] [(.long (8 : Int64)), (.long x4)])
        refine own_go (fun _ => XS.lsub X13.here hx rfl (hb hby at_128) rfl) ?_
        show GG _ _ _ _ _ _ _ T13 (mkF m 129 #[.val (.long q0), .second, .val (.int p1), .val (.int p2), .val (.int p3), .val (.int p4), .val (.int p5), .val (.long x1), .second, .val (.long x2), .second, .val (.long x3), .second, .val (.long x4), .second, .val (.long x5), .second, .val (.long x6), .second, .val (.ref ob7), .val (.ref bq12), .val (.ref ob13), .val (.int (0 : Int32)), .val (.long (8 : Int64)), .second] [(.long (x4 - (8 : Int64)))])
        refine own_go (fun _ => X13.ldc2Long hx hown (mvT hZ (hw _ (List.mem_of_getElem? (i := 40) rfl))) (g := (mkF m 129 #[.val (.long q0), .second, .val (.int p1), .val (.int p2), .val (.int p3), .val (.int p4), .val (.int p5), .val (.long x1), .second, .val (.long x2), .second, .val (.long x3), .second, .val (.long x4), .second, .val (.long x5), .second, .val (.long x6), .second, .val (.ref ob7), .val (.ref bq12), .val (.ref ob13), .val (.int (0 : Int32)), .val (.long (8 : Int64)), .second] [(.long (x4 - (8 : Int64)))])) rfl (hb hby at_129) _) ?_
        show GG _ _ _ _ _ _ _ T13 (mkF m 132 #[.val (.long q0), .second, .val (.int p1), .val (.int p2), .val (.int p3), .val (.int p4), .val (.int p5), .val (.long x1), .second, .val (.long x2), .second, .val (.long x3), .second, .val (.long x4), .second, .val (.long x5), .second, .val (.long x6), .second, .val (.ref ob7), .val (.ref bq12), .val (.ref ob13), .val (.int (0 : Int32)), .val (.long (8 : Int64)), .second] [(.long (65536 : Int64)), (.long (x4 - (8 : Int64)))])
        refine own_go (fun _ => XS.lcmp X13.here hx rfl (hb hby at_132) rfl) ?_
        show GG _ _ _ _ _ _ _ T13 (mkF m 133 #[.val (.long q0), .second, .val (.int p1), .val (.int p2), .val (.int p3), .val (.int p4), .val (.int p5), .val (.long x1), .second, .val (.long x2), .second, .val (.long x3), .second, .val (.long x4), .second, .val (.long x5), .second, .val (.long x6), .second, .val (.ref ob7), .val (.ref bq12), .val (.ref ob13), .val (.int (0 : Int32)), .val (.long (8 : Int64)), .second] [(.int (lcmpW (x4 - (8 : Int64)) (65536 : Int64)))])
        have hc133 : (x4 - (8 : Int64)) < (65536 : Int64) := hp82
        refine own_go (fun _ => XS.ifYes X13.here hx rfl (pc0 := 133) (pc' := 162) rfl (hb hby at_133) rfl ((if0 _ _).trans (tlt ((lw_lt _ _).mpr hc133)).1) (by decide) (by decide)) ?_
        show GG _ _ _ _ _ _ _ T13 (mkF m 162 #[.val (.long q0), .second, .val (.int p1), .val (.int p2), .val (.int p3), .val (.int p4), .val (.int p5), .val (.long x1), .second, .val (.long x2), .second, .val (.long x3), .second, .val (.long x4), .second, .val (.long x5), .second, .val (.long x6), .second, .val (.ref ob7), .val (.ref bq12), .val (.ref ob13), .val (.int (0 : Int32)), .val (.long (8 : Int64)), .second] [])
        refine own_go (fun _ => XS.lload X13.here hx rfl (hb hby at_162) rfl) ?_
        show GG _ _ _ _ _ _ _ T13 (mkF m 164 #[.val (.long q0), .second, .val (.int p1), .val (.int p2), .val (.int p3), .val (.int p4), .val (.int p5), .val (.long x1), .second, .val (.long x2), .second, .val (.long x3), .second, .val (.long x4), .second, .val (.long x5), .second, .val (.long x6), .second, .val (.ref ob7), .val (.ref bq12), .val (.ref ob13), .val (.int (0 : Int32)), .val (.long (8 : Int64)), .second] [(.long x5)])
        refine own_go (fun _ => XS.lload X13.here hx rfl (hb hby at_164) rfl) ?_
        show GG _ _ _ _ _ _ _ T13 (mkF m 166 #[.val (.long q0), .second, .val (.int p1), .val (.int p2), .val (.int p3), .val (.int p4), .val (.int p5), .val (.long x1), .second, .val (.long x2), .second, .val (.long x3), .second, .val (.long x4), .second, .val (.long x5), .second, .val (.long x6), .second, .val (.ref ob7), .val (.ref bq12), .val (.ref ob13), .val (.int (0 : Int32)), .val (.long (8 : Int64)), .second] [(.long (8 : Int64)), (.long x5)])
        refine own_go (fun _ => XS.lsub X13.here hx rfl (hb hby at_166) rfl) ?_
        show GG _ _ _ _ _ _ _ T13 (mkF m 167 #[.val (.long q0), .second, .val (.int p1), .val (.int p2), .val (.int p3), .val (.int p4), .val (.int p5), .val (.long x1), .second, .val (.long x2), .second, .val (.long x3), .second, .val (.long x4), .second, .val (.long x5), .second, .val (.long x6), .second, .val (.ref ob7), .val (.ref bq12), .val (.ref ob13), .val (.int (0 : Int32)), .val (.long (8 : Int64)), .second] [(.long (x5 - (8 : Int64)))])
        refine own_go (fun _ => X13.ldc2Long hx hown (mvT hZ (hw _ (List.mem_of_getElem? (i := 40) rfl))) (g := (mkF m 167 #[.val (.long q0), .second, .val (.int p1), .val (.int p2), .val (.int p3), .val (.int p4), .val (.int p5), .val (.long x1), .second, .val (.long x2), .second, .val (.long x3), .second, .val (.long x4), .second, .val (.long x5), .second, .val (.long x6), .second, .val (.ref ob7), .val (.ref bq12), .val (.ref ob13), .val (.int (0 : Int32)), .val (.long (8 : Int64)), .second] [(.long (x5 - (8 : Int64)))])) rfl (hb hby at_167) _) ?_
        show GG _ _ _ _ _ _ _ T13 (mkF m 170 #[.val (.long q0), .second, .val (.int p1), .val (.int p2), .val (.int p3), .val (.int p4), .val (.int p5), .val (.long x1), .second, .val (.long x2), .second, .val (.long x3), .second, .val (.long x4), .second, .val (.long x5), .second, .val (.long x6), .second, .val (.ref ob7), .val (.ref bq12), .val (.ref ob13), .val (.int (0 : Int32)), .val (.long (8 : Int64)), .second] [(.long (65536 : Int64)), (.long (x5 - (8 : Int64)))])
        refine own_go (fun _ => XS.lcmp X13.here hx rfl (hb hby at_170) rfl) ?_
        show GG _ _ _ _ _ _ _ T13 (mkF m 171 #[.val (.long q0), .second, .val (.int p1), .val (.int p2), .val (.int p3), .val (.int p4), .val (.int p5), .val (.long x1), .second, .val (.long x2), .second, .val (.long x3), .second, .val (.long x4), .second, .val (.long x5), .second, .val (.long x6), .second, .val (.ref ob7), .val (.ref bq12), .val (.ref ob13), .val (.int (0 : Int32)), .val (.long (8 : Int64)), .second] [(.int (lcmpW (x5 - (8 : Int64)) (65536 : Int64)))])
        have hc171 : (x5 - (8 : Int64)) < (65536 : Int64) := hp91
        refine own_go (fun _ => XS.ifYes X13.here hx rfl (pc0 := 171) (pc' := 200) rfl (hb hby at_171) rfl ((if0 _ _).trans (tlt ((lw_lt _ _).mpr hc171)).1) (by decide) (by decide)) ?_
        show GG _ _ _ _ _ _ _ T13 (mkF m 200 #[.val (.long q0), .second, .val (.int p1), .val (.int p2), .val (.int p3), .val (.int p4), .val (.int p5), .val (.long x1), .second, .val (.long x2), .second, .val (.long x3), .second, .val (.long x4), .second, .val (.long x5), .second, .val (.long x6), .second, .val (.ref ob7), .val (.ref bq12), .val (.ref ob13), .val (.int (0 : Int32)), .val (.long (8 : Int64)), .second] [])
        refine own_go (fun _ => XS.lload X13.here hx rfl (hb hby at_200) rfl) ?_
        show GG _ _ _ _ _ _ _ T13 (mkF m 202 #[.val (.long q0), .second, .val (.int p1), .val (.int p2), .val (.int p3), .val (.int p4), .val (.int p5), .val (.long x1), .second, .val (.long x2), .second, .val (.long x3), .second, .val (.long x4), .second, .val (.long x5), .second, .val (.long x6), .second, .val (.ref ob7), .val (.ref bq12), .val (.ref ob13), .val (.int (0 : Int32)), .val (.long (8 : Int64)), .second] [(.long x6)])
        refine own_go (fun _ => XS.lload X13.here hx rfl (hb hby at_202) rfl) ?_
        show GG _ _ _ _ _ _ _ T13 (mkF m 204 #[.val (.long q0), .second, .val (.int p1), .val (.int p2), .val (.int p3), .val (.int p4), .val (.int p5), .val (.long x1), .second, .val (.long x2), .second, .val (.long x3), .second, .val (.long x4), .second, .val (.long x5), .second, .val (.long x6), .second, .val (.ref ob7), .val (.ref bq12), .val (.ref ob13), .val (.int (0 : Int32)), .val (.long (8 : Int64)), .second] [(.long (8 : Int64)), (.long x6)])
        refine own_go (fun _ => XS.lsub X13.here hx rfl (hb hby at_204) rfl) ?_
        show GG _ _ _ _ _ _ _ T13 (mkF m 205 #[.val (.long q0), .second, .val (.int p1), .val (.int p2), .val (.int p3), .val (.int p4), .val (.int p5), .val (.long x1), .second, .val (.long x2), .second, .val (.long x3), .second, .val (.long x4), .second, .val (.long x5), .second, .val (.long x6), .second, .val (.ref ob7), .val (.ref bq12), .val (.ref ob13), .val (.int (0 : Int32)), .val (.long (8 : Int64)), .second] [(.long (x6 - (8 : Int64)))])
        refine own_go (fun _ => X13.ldc2Long hx hown (mvT hZ (hw _ (List.mem_of_getElem? (i := 40) rfl))) (g := (mkF m 205 #[.val (.long q0), .second, .val (.int p1), .val (.int p2), .val (.int p3), .val (.int p4), .val (.int p5), .val (.long x1), .second, .val (.long x2), .second, .val (.long x3), .second, .val (.long x4), .second, .val (.long x5), .second, .val (.long x6), .second, .val (.ref ob7), .val (.ref bq12), .val (.ref ob13), .val (.int (0 : Int32)), .val (.long (8 : Int64)), .second] [(.long (x6 - (8 : Int64)))])) rfl (hb hby at_205) _) ?_
        show GG _ _ _ _ _ _ _ T13 (mkF m 208 #[.val (.long q0), .second, .val (.int p1), .val (.int p2), .val (.int p3), .val (.int p4), .val (.int p5), .val (.long x1), .second, .val (.long x2), .second, .val (.long x3), .second, .val (.long x4), .second, .val (.long x5), .second, .val (.long x6), .second, .val (.ref ob7), .val (.ref bq12), .val (.ref ob13), .val (.int (0 : Int32)), .val (.long (8 : Int64)), .second] [(.long (65536 : Int64)), (.long (x6 - (8 : Int64)))])
        refine own_go (fun _ => XS.lcmp X13.here hx rfl (hb hby at_208) rfl) ?_
        show GG _ _ _ _ _ _ _ T13 (mkF m 209 #[.val (.long q0), .second, .val (.int p1), .val (.int p2), .val (.int p3), .val (.int p4), .val (.int p5), .val (.long x1), .second, .val (.long x2), .second, .val (.long x3), .second, .val (.long x4), .second, .val (.long x5), .second, .val (.long x6), .second, .val (.ref ob7), .val (.ref bq12), .val (.ref ob13), .val (.int (0 : Int32)), .val (.long (8 : Int64)), .second] [(.int (lcmpW (x6 - (8 : Int64)) (65536 : Int64)))])
        have hc209 : (x6 - (8 : Int64)) < (65536 : Int64) := hp100
        refine own_go (fun _ => XS.ifYes X13.here hx rfl (pc0 := 209) (pc' := 238) rfl (hb hby at_209) rfl ((if0 _ _).trans (tlt ((lw_lt _ _).mpr hc209)).1) (by decide) (by decide)) ?_
        show GG _ _ _ _ _ _ _ T13 (mkF m 238 #[.val (.long q0), .second, .val (.int p1), .val (.int p2), .val (.int p3), .val (.int p4), .val (.int p5), .val (.long x1), .second, .val (.long x2), .second, .val (.long x3), .second, .val (.long x4), .second, .val (.long x5), .second, .val (.long x6), .second, .val (.ref ob7), .val (.ref bq12), .val (.ref ob13), .val (.int (0 : Int32)), .val (.long (8 : Int64)), .second] [])
        refine own_go (fun _ => XS.aload X13.here hx rfl (hb hby at_238) rfl rfl) ?_
        show GG _ _ _ _ _ _ _ T13 (mkF m 240 #[.val (.long q0), .second, .val (.int p1), .val (.int p2), .val (.int p3), .val (.int p4), .val (.int p5), .val (.long x1), .second, .val (.long x2), .second, .val (.long x3), .second, .val (.long x4), .second, .val (.long x5), .second, .val (.long x6), .second, .val (.ref ob7), .val (.ref bq12), .val (.ref ob13), .val (.int (0 : Int32)), .val (.long (8 : Int64)), .second] [(.ref bq12)])
        refine own_go (fun _ => own_len X13 hx hZ e13 Vq12 (g := (mkF m 240 #[.val (.long q0), .second, .val (.int p1), .val (.int p2), .val (.int p3), .val (.int p4), .val (.int p5), .val (.long x1), .second, .val (.long x2), .second, .val (.long x3), .second, .val (.long x4), .second, .val (.long x5), .second, .val (.long x6), .second, .val (.ref ob7), .val (.ref bq12), .val (.ref ob13), .val (.int (0 : Int32)), .val (.long (8 : Int64)), .second] [(.ref bq12)])) rfl rfl (hb hby at_240) _) ?_
        show GG _ _ _ _ _ _ _ T13 (mkF m 241 #[.val (.long q0), .second, .val (.int p1), .val (.int p2), .val (.int p3), .val (.int p4), .val (.int p5), .val (.long x1), .second, .val (.long x2), .second, .val (.long x3), .second, .val (.long x4), .second, .val (.long x5), .second, .val (.long x6), .second, .val (.ref ob7), .val (.ref bq12), .val (.ref ob13), .val (.int (0 : Int32)), .val (.long (8 : Int64)), .second] [(.int (0 : Int32))])
        refine own_go (fun _ => XS.iload X13.here hx rfl (hb hby at_241) rfl) ?_
        show GG _ _ _ _ _ _ _ T13 (mkF m 243 #[.val (.long q0), .second, .val (.int p1), .val (.int p2), .val (.int p3), .val (.int p4), .val (.int p5), .val (.long x1), .second, .val (.long x2), .second, .val (.long x3), .second, .val (.long x4), .second, .val (.long x5), .second, .val (.long x6), .second, .val (.ref ob7), .val (.ref bq12), .val (.ref ob13), .val (.int (0 : Int32)), .val (.long (8 : Int64)), .second] [(.int (0 : Int32)), (.int (0 : Int32))])
        have hc243 : (0 : Int32) = (0 : Int32) := by decide
        refine own_go (fun _ => XS.icmpNo X13.here hx rfl (hb hby at_243) rfl (teq hc243).2) ?_
        show GG _ _ _ _ _ _ _ T13 (mkF m 246 #[.val (.long q0), .second, .val (.int p1), .val (.int p2), .val (.int p3), .val (.int p4), .val (.int p5), .val (.long x1), .second, .val (.long x2), .second, .val (.long x3), .second, .val (.long x4), .second, .val (.long x5), .second, .val (.long x6), .second, .val (.ref ob7), .val (.ref bq12), .val (.ref ob13), .val (.int (0 : Int32)), .val (.long (8 : Int64)), .second] [])
        refine own_go (fun _ => XS.aload X13.here hx rfl (hb hby at_246) rfl rfl) ?_
        show GG _ _ _ _ _ _ _ T13 (mkF m 248 #[.val (.long q0), .second, .val (.int p1), .val (.int p2), .val (.int p3), .val (.int p4), .val (.int p5), .val (.long x1), .second, .val (.long x2), .second, .val (.long x3), .second, .val (.long x4), .second, .val (.long x5), .second, .val (.long x6), .second, .val (.ref ob7), .val (.ref bq12), .val (.ref ob13), .val (.int (0 : Int32)), .val (.long (8 : Int64)), .second] [(.ref bq12)])
        refine own_go (fun _ => XS.aload X13.here hx rfl (hb hby at_248) rfl rfl) ?_
        show GG _ _ _ _ _ _ _ T13 (mkF m 250 #[.val (.long q0), .second, .val (.int p1), .val (.int p2), .val (.int p3), .val (.int p4), .val (.int p5), .val (.long x1), .second, .val (.long x2), .second, .val (.long x3), .second, .val (.long x4), .second, .val (.long x5), .second, .val (.long x6), .second, .val (.ref ob7), .val (.ref bq12), .val (.ref ob13), .val (.int (0 : Int32)), .val (.long (8 : Int64)), .second] [(.ref ob13), (.ref bq12)])
        refine own_go (fun _ => XS.iconst X13.here hx rfl (hb hby at_250)) ?_
        show GG _ _ _ _ _ _ _ T13 (mkF m 251 #[.val (.long q0), .second, .val (.int p1), .val (.int p2), .val (.int p3), .val (.int p4), .val (.int p5), .val (.long x1), .second, .val (.long x2), .second, .val (.long x3), .second, .val (.long x4), .second, .val (.long x5), .second, .val (.long x6), .second, .val (.ref ob7), .val (.ref bq12), .val (.ref ob13), .val (.int (0 : Int32)), .val (.long (8 : Int64)), .second] [(.int (0 : Int32)), (.ref ob13), (.ref bq12)])
        refine own_go (fun _ => XS.iload X13.here hx rfl (hb hby at_251) rfl) ?_
        show GG _ _ _ _ _ _ _ T13 (mkF m 253 #[.val (.long q0), .second, .val (.int p1), .val (.int p2), .val (.int p3), .val (.int p4), .val (.int p5), .val (.long x1), .second, .val (.long x2), .second, .val (.long x3), .second, .val (.long x4), .second, .val (.long x5), .second, .val (.long x6), .second, .val (.ref ob7), .val (.ref bq12), .val (.ref ob13), .val (.int (0 : Int32)), .val (.long (8 : Int64)), .second] [(.int (0 : Int32)), (.int (0 : Int32)), (.ref ob13), (.ref bq12)])
        refine own_callS X13 hx hZ (y := (⟨"com/example/obliv/obliv/io/SegmentIndexToArrayPinLaw", "eqAt", "([J[JII)Z"⟩ : MethodName)) 0 hown (hw _ (List.mem_of_getElem? (i := 41) rfl)) (hw _ (List.mem_of_getElem? (i := 42) rfl)) (hw _ (List.mem_of_getElem? (i := 43) rfl)) (hw _ (List.mem_of_getElem? (i := 44) rfl)) (by decide) (argsL := [(.ref bq12), (.ref ob13), (.int (0 : Int32)), (.int (0 : Int32))]) (rest := []) (rm7 l Z a0 hw [] bq12 ob13 (0 : Int32) (0 : Int32) [] [(.long (0 : Int64)), (.long (0 : Int64)), (.long (0 : Int64)), (.long (0 : Int64)), (.long (0 : Int64)), (.long (0 : Int64))] h13 n0 (Nat.le_trans Z0 K0.1) Vq12 V_ob13 (Or.inl (by decide))) (by decide) (by decide) (by decide) (by decide) (g := (mkF m 253 #[.val (.long q0), .second, .val (.int p1), .val (.int p2), .val (.int p3), .val (.int p4), .val (.int p5), .val (.long x1), .second, .val (.long x2), .second, .val (.long x3), .second, .val (.long x4), .second, .val (.long x5), .second, .val (.long x6), .second, .val (.ref ob7), .val (.ref bq12), .val (.ref ob13), .val (.int (0 : Int32)), .val (.long (8 : Int64)), .second] [(.int (0 : Int32)), (.int (0 : Int32)), (.ref ob13), (.ref bq12)])) rfl (by rw [hml]; rfl) (lenOf pd___J_JII_Z_647 rfl) rfl (by show 2 * 0 + _ ≤ _; exact Nat.le_of_eq rfl) (hb hby at_253) e13 ?_
        rintro v14 T14 L14 X14 ⟨rfl, N14q, hh14⟩
        have N14 := Fr.app N12 N14q
        show GG _ _ _ _ _ _ _ T14 (mkF m 256 #[.val (.long q0), .second, .val (.int p1), .val (.int p2), .val (.int p3), .val (.int p4), .val (.int p5), .val (.long x1), .second, .val (.long x2), .second, .val (.long x3), .second, .val (.long x4), .second, .val (.long x5), .second, .val (.long x6), .second, .val (.ref ob7), .val (.ref bq12), .val (.ref ob13), .val (.int (0 : Int32)), .val (.long (8 : Int64)), .second] [(.int (1 : Int32))])
        have hc256 : ¬ ((1 : Int32) = (0 : Int32)) := by decide
        refine own_go (fun _ => XS.ifNo X14.here hx rfl (hb hby at_256) rfl ((if0 _ _).trans (feq hc256).1)) ?_
        show GG _ _ _ _ _ _ _ T14 (mkF m 259 #[.val (.long q0), .second, .val (.int p1), .val (.int p2), .val (.int p3), .val (.int p4), .val (.int p5), .val (.long x1), .second, .val (.long x2), .second, .val (.long x3), .second, .val (.long x4), .second, .val (.long x5), .second, .val (.long x6), .second, .val (.ref ob7), .val (.ref bq12), .val (.ref ob13), .val (.int (0 : Int32)), .val (.long (8 : Int64)), .second] [])
        refine own_go (fun _ => XS.aload X14.here hx rfl (hb hby at_259) rfl rfl) ?_
        show GG _ _ _ _ _ _ _ T14 (mkF m 261 #[.val (.long q0), .second, .val (.int p1), .val (.int p2), .val (.int p3), .val (.int p4), .val (.int p5), .val (.long x1), .second, .val (.long x2), .second, .val (.long x3), .second, .val (.long x4), .second, .val (.long x5), .second, .val (.long x6), .second, .val (.ref ob7), .val (.ref bq12), .val (.ref ob13), .val (.int (0 : Int32)), .val (.long (8 : Int64)), .second] [(.ref bq12)])
        refine own_go (fun _ => XS.aload X14.here hx rfl (hb hby at_261) rfl rfl) ?_
        show GG _ _ _ _ _ _ _ T14 (mkF m 263 #[.val (.long q0), .second, .val (.int p1), .val (.int p2), .val (.int p3), .val (.int p4), .val (.int p5), .val (.long x1), .second, .val (.long x2), .second, .val (.long x3), .second, .val (.long x4), .second, .val (.long x5), .second, .val (.long x6), .second, .val (.ref ob7), .val (.ref bq12), .val (.ref ob13), .val (.int (0 : Int32)), .val (.long (8 : Int64)), .second] [(.ref ob13), (.ref bq12)])
        refine own_go (fun _ => XS.iconst X14.here hx rfl (hb hby at_263)) ?_
        show GG _ _ _ _ _ _ _ T14 (mkF m 264 #[.val (.long q0), .second, .val (.int p1), .val (.int p2), .val (.int p3), .val (.int p4), .val (.int p5), .val (.long x1), .second, .val (.long x2), .second, .val (.long x3), .second, .val (.long x4), .second, .val (.long x5), .second, .val (.long x6), .second, .val (.ref ob7), .val (.ref bq12), .val (.ref ob13), .val (.int (0 : Int32)), .val (.long (8 : Int64)), .second] [(.int (1 : Int32)), (.ref ob13), (.ref bq12)])
        refine own_go (fun _ => XS.iload X14.here hx rfl (hb hby at_264) rfl) ?_
        show GG _ _ _ _ _ _ _ T14 (mkF m 266 #[.val (.long q0), .second, .val (.int p1), .val (.int p2), .val (.int p3), .val (.int p4), .val (.int p5), .val (.long x1), .second, .val (.long x2), .second, .val (.long x3), .second, .val (.long x4), .second, .val (.long x5), .second, .val (.long x6), .second, .val (.ref ob7), .val (.ref bq12), .val (.ref ob13), .val (.int (0 : Int32)), .val (.long (8 : Int64)), .second] [(.int (0 : Int32)), (.int (1 : Int32)), (.ref ob13), (.ref bq12)])
        refine own_callS X14 hx hZ (y := (⟨"com/example/obliv/obliv/io/SegmentIndexToArrayPinLaw", "eqAt", "([J[JII)Z"⟩ : MethodName)) 0 hown (hw _ (List.mem_of_getElem? (i := 41) rfl)) (hw _ (List.mem_of_getElem? (i := 42) rfl)) (hw _ (List.mem_of_getElem? (i := 43) rfl)) (hw _ (List.mem_of_getElem? (i := 44) rfl)) (by decide) (argsL := [(.ref bq12), (.ref ob13), (.int (1 : Int32)), (.int (0 : Int32))]) (rest := []) (rm7 l Z a0 hw [] bq12 ob13 (1 : Int32) (0 : Int32) [] [(.long (0 : Int64)), (.long (0 : Int64)), (.long (0 : Int64)), (.long (0 : Int64)), (.long (0 : Int64)), (.long (0 : Int64))] h13 n0 (Nat.le_trans Z0 K0.1) Vq12 V_ob13 (Or.inl (by decide))) (by decide) (by decide) (by decide) (by decide) (g := (mkF m 266 #[.val (.long q0), .second, .val (.int p1), .val (.int p2), .val (.int p3), .val (.int p4), .val (.int p5), .val (.long x1), .second, .val (.long x2), .second, .val (.long x3), .second, .val (.long x4), .second, .val (.long x5), .second, .val (.long x6), .second, .val (.ref ob7), .val (.ref bq12), .val (.ref ob13), .val (.int (0 : Int32)), .val (.long (8 : Int64)), .second] [(.int (0 : Int32)), (.int (1 : Int32)), (.ref ob13), (.ref bq12)])) rfl (by rw [hml]; rfl) (lenOf pd___J_JII_Z_647 rfl) rfl (by show 2 * 0 + _ ≤ _; exact Nat.le_of_eq rfl) (hb hby at_266) hh14 ?_
        rintro v15 T15 L15 X15 ⟨rfl, N15q, hh15⟩
        have N15 := Fr.app N14 N15q
        show GG _ _ _ _ _ _ _ T15 (mkF m 269 #[.val (.long q0), .second, .val (.int p1), .val (.int p2), .val (.int p3), .val (.int p4), .val (.int p5), .val (.long x1), .second, .val (.long x2), .second, .val (.long x3), .second, .val (.long x4), .second, .val (.long x5), .second, .val (.long x6), .second, .val (.ref ob7), .val (.ref bq12), .val (.ref ob13), .val (.int (0 : Int32)), .val (.long (8 : Int64)), .second] [(.int (1 : Int32))])
        have hc269 : ¬ ((1 : Int32) = (0 : Int32)) := by decide
        refine own_go (fun _ => XS.ifNo X15.here hx rfl (hb hby at_269) rfl ((if0 _ _).trans (feq hc269).1)) ?_
        show GG _ _ _ _ _ _ _ T15 (mkF m 272 #[.val (.long q0), .second, .val (.int p1), .val (.int p2), .val (.int p3), .val (.int p4), .val (.int p5), .val (.long x1), .second, .val (.long x2), .second, .val (.long x3), .second, .val (.long x4), .second, .val (.long x5), .second, .val (.long x6), .second, .val (.ref ob7), .val (.ref bq12), .val (.ref ob13), .val (.int (0 : Int32)), .val (.long (8 : Int64)), .second] [])
        refine own_go (fun _ => XS.aload X15.here hx rfl (hb hby at_272) rfl rfl) ?_
        show GG _ _ _ _ _ _ _ T15 (mkF m 274 #[.val (.long q0), .second, .val (.int p1), .val (.int p2), .val (.int p3), .val (.int p4), .val (.int p5), .val (.long x1), .second, .val (.long x2), .second, .val (.long x3), .second, .val (.long x4), .second, .val (.long x5), .second, .val (.long x6), .second, .val (.ref ob7), .val (.ref bq12), .val (.ref ob13), .val (.int (0 : Int32)), .val (.long (8 : Int64)), .second] [(.ref bq12)])
        refine own_go (fun _ => XS.aload X15.here hx rfl (hb hby at_274) rfl rfl) ?_
        show GG _ _ _ _ _ _ _ T15 (mkF m 276 #[.val (.long q0), .second, .val (.int p1), .val (.int p2), .val (.int p3), .val (.int p4), .val (.int p5), .val (.long x1), .second, .val (.long x2), .second, .val (.long x3), .second, .val (.long x4), .second, .val (.long x5), .second, .val (.long x6), .second, .val (.ref ob7), .val (.ref bq12), .val (.ref ob13), .val (.int (0 : Int32)), .val (.long (8 : Int64)), .second] [(.ref ob13), (.ref bq12)])
        refine own_go (fun _ => XS.iconst X15.here hx rfl (hb hby at_276)) ?_
        show GG _ _ _ _ _ _ _ T15 (mkF m 277 #[.val (.long q0), .second, .val (.int p1), .val (.int p2), .val (.int p3), .val (.int p4), .val (.int p5), .val (.long x1), .second, .val (.long x2), .second, .val (.long x3), .second, .val (.long x4), .second, .val (.long x5), .second, .val (.long x6), .second, .val (.ref ob7), .val (.ref bq12), .val (.ref ob13), .val (.int (0 : Int32)), .val (.long (8 : Int64)), .second] [(.int (2 : Int32)), (.ref ob13), (.ref bq12)])
        refine own_go (fun _ => XS.iload X15.here hx rfl (hb hby at_277) rfl) ?_
        show GG _ _ _ _ _ _ _ T15 (mkF m 279 #[.val (.long q0), .second, .val (.int p1), .val (.int p2), .val (.int p3), .val (.int p4), .val (.int p5), .val (.long x1), .second, .val (.long x2), .second, .val (.long x3), .second, .val (.long x4), .second, .val (.long x5), .second, .val (.long x6), .second, .val (.ref ob7), .val (.ref bq12), .val (.ref ob13), .val (.int (0 : Int32)), .val (.long (8 : Int64)), .second] [(.int (0 : Int32)), (.int (2 : Int32)), (.ref ob13), (.ref bq12)])
        refine own_callS X15 hx hZ (y := (⟨"com/example/obliv/obliv/io/SegmentIndexToArrayPinLaw", "eqAt", "([J[JII)Z"⟩ : MethodName)) 0 hown (hw _ (List.mem_of_getElem? (i := 41) rfl)) (hw _ (List.mem_of_getElem? (i := 42) rfl)) (hw _ (List.mem_of_getElem? (i := 43) rfl)) (hw _ (List.mem_of_getElem? (i := 44) rfl)) (by decide) (argsL := [(.ref bq12), (.ref ob13), (.int (2 : Int32)), (.int (0 : Int32))]) (rest := []) (rm7 l Z a0 hw [] bq12 ob13 (2 : Int32) (0 : Int32) [] [(.long (0 : Int64)), (.long (0 : Int64)), (.long (0 : Int64)), (.long (0 : Int64)), (.long (0 : Int64)), (.long (0 : Int64))] h13 n0 (Nat.le_trans Z0 K0.1) Vq12 V_ob13 (Or.inl (by decide))) (by decide) (by decide) (by decide) (by decide) (g := (mkF m 279 #[.val (.long q0), .second, .val (.int p1), .val (.int p2), .val (.int p3), .val (.int p4), .val (.int p5), .val (.long x1), .second, .val (.long x2), .second, .val (.long x3), .second, .val (.long x4), .second, .val (.long x5), .second, .val (.long x6), .second, .val (.ref ob7), .val (.ref bq12), .val (.ref ob13), .val (.int (0 : Int32)), .val (.long (8 : Int64)), .second] [(.int (0 : Int32)), (.int (2 : Int32)), (.ref ob13), (.ref bq12)])) rfl (by rw [hml]; rfl) (lenOf pd___J_JII_Z_647 rfl) rfl (by show 2 * 0 + _ ≤ _; exact Nat.le_of_eq rfl) (hb hby at_279) hh15 ?_
        rintro v16 T16 L16 X16 ⟨rfl, N16q, hh16⟩
        have N16 := Fr.app N15 N16q
        show GG _ _ _ _ _ _ _ T16 (mkF m 282 #[.val (.long q0), .second, .val (.int p1), .val (.int p2), .val (.int p3), .val (.int p4), .val (.int p5), .val (.long x1), .second, .val (.long x2), .second, .val (.long x3), .second, .val (.long x4), .second, .val (.long x5), .second, .val (.long x6), .second, .val (.ref ob7), .val (.ref bq12), .val (.ref ob13), .val (.int (0 : Int32)), .val (.long (8 : Int64)), .second] [(.int (1 : Int32))])
        have hc282 : ¬ ((1 : Int32) = (0 : Int32)) := by decide
        refine own_go (fun _ => XS.ifNo X16.here hx rfl (hb hby at_282) rfl ((if0 _ _).trans (feq hc282).1)) ?_
        show GG _ _ _ _ _ _ _ T16 (mkF m 285 #[.val (.long q0), .second, .val (.int p1), .val (.int p2), .val (.int p3), .val (.int p4), .val (.int p5), .val (.long x1), .second, .val (.long x2), .second, .val (.long x3), .second, .val (.long x4), .second, .val (.long x5), .second, .val (.long x6), .second, .val (.ref ob7), .val (.ref bq12), .val (.ref ob13), .val (.int (0 : Int32)), .val (.long (8 : Int64)), .second] [])
        refine own_go (fun _ => XS.aload X16.here hx rfl (hb hby at_285) rfl rfl) ?_
        show GG _ _ _ _ _ _ _ T16 (mkF m 287 #[.val (.long q0), .second, .val (.int p1), .val (.int p2), .val (.int p3), .val (.int p4), .val (.int p5), .val (.long x1), .second, .val (.long x2), .second, .val (.long x3), .second, .val (.long x4), .second, .val (.long x5), .second, .val (.long x6), .second, .val (.ref ob7), .val (.ref bq12), .val (.ref ob13), .val (.int (0 : Int32)), .val (.long (8 : Int64)), .second] [(.ref bq12)])
        refine own_go (fun _ => XS.aload X16.here hx rfl (hb hby at_287) rfl rfl) ?_
        show GG _ _ _ _ _ _ _ T16 (mkF m 289 #[.val (.long q0), .second, .val (.int p1), .val (.int p2), .val (.int p3), .val (.int p4), .val (.int p5), .val (.long x1), .second, .val (.long x2), .second, .val (.long x3), .second, .val (.long x4), .second, .val (.long x5), .second, .val (.long x6), .second, .val (.ref ob7), .val (.ref bq12), .val (.ref ob13), .val (.int (0 : Int32)), .val (.long (8 : Int64)), .second] [(.ref ob13), (.ref bq12)])
        refine own_go (fun _ => XS.iconst X16.here hx rfl (hb hby at_289)) ?_
        show GG _ _ _ _ _ _ _ T16 (mkF m 290 #[.val (.long q0), .second, .val (.int p1), .val (.int p2), .val (.int p3), .val (.int p4), .val (.int p5), .val (.long x1), .second, .val (.long x2), .second, .val (.long x3), .second, .val (.long x4), .second, .val (.long x5), .second, .val (.long x6), .second, .val (.ref ob7), .val (.ref bq12), .val (.ref ob13), .val (.int (0 : Int32)), .val (.long (8 : Int64)), .second] [(.int (3 : Int32)), (.ref ob13), (.ref bq12)])
        refine own_go (fun _ => XS.iload X16.here hx rfl (hb hby at_290) rfl) ?_
        show GG _ _ _ _ _ _ _ T16 (mkF m 292 #[.val (.long q0), .second, .val (.int p1), .val (.int p2), .val (.int p3), .val (.int p4), .val (.int p5), .val (.long x1), .second, .val (.long x2), .second, .val (.long x3), .second, .val (.long x4), .second, .val (.long x5), .second, .val (.long x6), .second, .val (.ref ob7), .val (.ref bq12), .val (.ref ob13), .val (.int (0 : Int32)), .val (.long (8 : Int64)), .second] [(.int (0 : Int32)), (.int (3 : Int32)), (.ref ob13), (.ref bq12)])
        refine own_callS X16 hx hZ (y := (⟨"com/example/obliv/obliv/io/SegmentIndexToArrayPinLaw", "eqAt", "([J[JII)Z"⟩ : MethodName)) 0 hown (hw _ (List.mem_of_getElem? (i := 41) rfl)) (hw _ (List.mem_of_getElem? (i := 42) rfl)) (hw _ (List.mem_of_getElem? (i := 43) rfl)) (hw _ (List.mem_of_getElem? (i := 44) rfl)) (by decide) (argsL := [(.ref bq12), (.ref ob13), (.int (3 : Int32)), (.int (0 : Int32))]) (rest := []) (rm7 l Z a0 hw [] bq12 ob13 (3 : Int32) (0 : Int32) [] [(.long (0 : Int64)), (.long (0 : Int64)), (.long (0 : Int64)), (.long (0 : Int64)), (.long (0 : Int64)), (.long (0 : Int64))] h13 n0 (Nat.le_trans Z0 K0.1) Vq12 V_ob13 (Or.inl (by decide))) (by decide) (by decide) (by decide) (by decide) (g := (mkF m 292 #[.val (.long q0), .second, .val (.int p1), .val (.int p2), .val (.int p3), .val (.int p4), .val (.int p5), .val (.long x1), .second, .val (.long x2), .second, .val (.long x3), .second, .val (.long x4), .second, .val (.long x5), .second, .val (.long x6), .second, .val (.ref ob7), .val (.ref bq12), .val (.ref ob13), .val (.int (0 : Int32)), .val (.long (8 : Int64)), .second] [(.int (0 : Int32)), (.int (3 : Int32)), (.ref ob13), (.ref bq12)])) rfl (by rw [hml]; rfl) (lenOf pd___J_JII_Z_647 rfl) rfl (by show 2 * 0 + _ ≤ _; exact Nat.le_of_eq rfl) (hb hby at_292) hh16 ?_
        rintro v17 T17 L17 X17 ⟨rfl, N17q, hh17⟩
        have N17 := Fr.app N16 N17q
        show GG _ _ _ _ _ _ _ T17 (mkF m 295 #[.val (.long q0), .second, .val (.int p1), .val (.int p2), .val (.int p3), .val (.int p4), .val (.int p5), .val (.long x1), .second, .val (.long x2), .second, .val (.long x3), .second, .val (.long x4), .second, .val (.long x5), .second, .val (.long x6), .second, .val (.ref ob7), .val (.ref bq12), .val (.ref ob13), .val (.int (0 : Int32)), .val (.long (8 : Int64)), .second] [(.int (1 : Int32))])
        have hc295 : ¬ ((1 : Int32) = (0 : Int32)) := by decide
        refine own_go (fun _ => XS.ifNo X17.here hx rfl (hb hby at_295) rfl ((if0 _ _).trans (feq hc295).1)) ?_
        show GG _ _ _ _ _ _ _ T17 (mkF m 298 #[.val (.long q0), .second, .val (.int p1), .val (.int p2), .val (.int p3), .val (.int p4), .val (.int p5), .val (.long x1), .second, .val (.long x2), .second, .val (.long x3), .second, .val (.long x4), .second, .val (.long x5), .second, .val (.long x6), .second, .val (.ref ob7), .val (.ref bq12), .val (.ref ob13), .val (.int (0 : Int32)), .val (.long (8 : Int64)), .second] [])
        refine own_go (fun _ => XS.aload X17.here hx rfl (hb hby at_298) rfl rfl) ?_
        show GG _ _ _ _ _ _ _ T17 (mkF m 300 #[.val (.long q0), .second, .val (.int p1), .val (.int p2), .val (.int p3), .val (.int p4), .val (.int p5), .val (.long x1), .second, .val (.long x2), .second, .val (.long x3), .second, .val (.long x4), .second, .val (.long x5), .second, .val (.long x6), .second, .val (.ref ob7), .val (.ref bq12), .val (.ref ob13), .val (.int (0 : Int32)), .val (.long (8 : Int64)), .second] [(.ref bq12)])
        refine own_go (fun _ => XS.aload X17.here hx rfl (hb hby at_300) rfl rfl) ?_
        show GG _ _ _ _ _ _ _ T17 (mkF m 302 #[.val (.long q0), .second, .val (.int p1), .val (.int p2), .val (.int p3), .val (.int p4), .val (.int p5), .val (.long x1), .second, .val (.long x2), .second, .val (.long x3), .second, .val (.long x4), .second, .val (.long x5), .second, .val (.long x6), .second, .val (.ref ob7), .val (.ref bq12), .val (.ref ob13), .val (.int (0 : Int32)), .val (.long (8 : Int64)), .second] [(.ref ob13), (.ref bq12)])
        refine own_go (fun _ => XS.iconst X17.here hx rfl (hb hby at_302)) ?_
        show GG _ _ _ _ _ _ _ T17 (mkF m 303 #[.val (.long q0), .second, .val (.int p1), .val (.int p2), .val (.int p3), .val (.int p4), .val (.int p5), .val (.long x1), .second, .val (.long x2), .second, .val (.long x3), .second, .val (.long x4), .second, .val (.long x5), .second, .val (.long x6), .second, .val (.ref ob7), .val (.ref bq12), .val (.ref ob13), .val (.int (0 : Int32)), .val (.long (8 : Int64)), .second] [(.int (4 : Int32)), (.ref ob13), (.ref bq12)])
        refine own_go (fun _ => XS.iload X17.here hx rfl (hb hby at_303) rfl) ?_
        show GG _ _ _ _ _ _ _ T17 (mkF m 305 #[.val (.long q0), .second, .val (.int p1), .val (.int p2), .val (.int p3), .val (.int p4), .val (.int p5), .val (.long x1), .second, .val (.long x2), .second, .val (.long x3), .second, .val (.long x4), .second, .val (.long x5), .second, .val (.long x6), .second, .val (.ref ob7), .val (.ref bq12), .val (.ref ob13), .val (.int (0 : Int32)), .val (.long (8 : Int64)), .second] [(.int (0 : Int32)), (.int (4 : Int32)), (.ref ob13), (.ref bq12)])
        refine own_callS X17 hx hZ (y := (⟨"com/example/obliv/obliv/io/SegmentIndexToArrayPinLaw", "eqAt", "([J[JII)Z"⟩ : MethodName)) 0 hown (hw _ (List.mem_of_getElem? (i := 41) rfl)) (hw _ (List.mem_of_getElem? (i := 42) rfl)) (hw _ (List.mem_of_getElem? (i := 43) rfl)) (hw _ (List.mem_of_getElem? (i := 44) rfl)) (by decide) (argsL := [(.ref bq12), (.ref ob13), (.int (4 : Int32)), (.int (0 : Int32))]) (rest := []) (rm7 l Z a0 hw [] bq12 ob13 (4 : Int32) (0 : Int32) [] [(.long (0 : Int64)), (.long (0 : Int64)), (.long (0 : Int64)), (.long (0 : Int64)), (.long (0 : Int64)), (.long (0 : Int64))] h13 n0 (Nat.le_trans Z0 K0.1) Vq12 V_ob13 (Or.inl (by decide))) (by decide) (by decide) (by decide) (by decide) (g := (mkF m 305 #[.val (.long q0), .second, .val (.int p1), .val (.int p2), .val (.int p3), .val (.int p4), .val (.int p5), .val (.long x1), .second, .val (.long x2), .second, .val (.long x3), .second, .val (.long x4), .second, .val (.long x5), .second, .val (.long x6), .second, .val (.ref ob7), .val (.ref bq12), .val (.ref ob13), .val (.int (0 : Int32)), .val (.long (8 : Int64)), .second] [(.int (0 : Int32)), (.int (4 : Int32)), (.ref ob13), (.ref bq12)])) rfl (by rw [hml]; rfl) (lenOf pd___J_JII_Z_647 rfl) rfl (by show 2 * 0 + _ ≤ _; exact Nat.le_of_eq rfl) (hb hby at_305) hh17 ?_
        rintro v18 T18 L18 X18 ⟨rfl, N18q, hh18⟩
        have N18 := Fr.app N17 N18q
        show GG _ _ _ _ _ _ _ T18 (mkF m 308 #[.val (.long q0), .second, .val (.int p1), .val (.int p2), .val (.int p3), .val (.int p4), .val (.int p5), .val (.long x1), .second, .val (.long x2), .second, .val (.long x3), .second, .val (.long x4), .second, .val (.long x5), .second, .val (.long x6), .second, .val (.ref ob7), .val (.ref bq12), .val (.ref ob13), .val (.int (0 : Int32)), .val (.long (8 : Int64)), .second] [(.int (1 : Int32))])
        have hc308 : ¬ ((1 : Int32) = (0 : Int32)) := by decide
        refine own_go (fun _ => XS.ifNo X18.here hx rfl (hb hby at_308) rfl ((if0 _ _).trans (feq hc308).1)) ?_
        show GG _ _ _ _ _ _ _ T18 (mkF m 311 #[.val (.long q0), .second, .val (.int p1), .val (.int p2), .val (.int p3), .val (.int p4), .val (.int p5), .val (.long x1), .second, .val (.long x2), .second, .val (.long x3), .second, .val (.long x4), .second, .val (.long x5), .second, .val (.long x6), .second, .val (.ref ob7), .val (.ref bq12), .val (.ref ob13), .val (.int (0 : Int32)), .val (.long (8 : Int64)), .second] [])
        refine own_go (fun _ => XS.aload X18.here hx rfl (hb hby at_311) rfl rfl) ?_
        show GG _ _ _ _ _ _ _ T18 (mkF m 313 #[.val (.long q0), .second, .val (.int p1), .val (.int p2), .val (.int p3), .val (.int p4), .val (.int p5), .val (.long x1), .second, .val (.long x2), .second, .val (.long x3), .second, .val (.long x4), .second, .val (.long x5), .second, .val (.long x6), .second, .val (.ref ob7), .val (.ref bq12), .val (.ref ob13), .val (.int (0 : Int32)), .val (.long (8 : Int64)), .second] [(.ref bq12)])
        refine own_go (fun _ => XS.aload X18.here hx rfl (hb hby at_313) rfl rfl) ?_
        show GG _ _ _ _ _ _ _ T18 (mkF m 315 #[.val (.long q0), .second, .val (.int p1), .val (.int p2), .val (.int p3), .val (.int p4), .val (.int p5), .val (.long x1), .second, .val (.long x2), .second, .val (.long x3), .second, .val (.long x4), .second, .val (.long x5), .second, .val (.long x6), .second, .val (.ref ob7), .val (.ref bq12), .val (.ref ob13), .val (.int (0 : Int32)), .val (.long (8 : Int64)), .second] [(.ref ob13), (.ref bq12)])
        refine own_go (fun _ => XS.iconst X18.here hx rfl (hb hby at_315)) ?_
        show GG _ _ _ _ _ _ _ T18 (mkF m 316 #[.val (.long q0), .second, .val (.int p1), .val (.int p2), .val (.int p3), .val (.int p4), .val (.int p5), .val (.long x1), .second, .val (.long x2), .second, .val (.long x3), .second, .val (.long x4), .second, .val (.long x5), .second, .val (.long x6), .second, .val (.ref ob7), .val (.ref bq12), .val (.ref ob13), .val (.int (0 : Int32)), .val (.long (8 : Int64)), .second] [(.int (5 : Int32)), (.ref ob13), (.ref bq12)])
        refine own_go (fun _ => XS.iload X18.here hx rfl (hb hby at_316) rfl) ?_
        show GG _ _ _ _ _ _ _ T18 (mkF m 318 #[.val (.long q0), .second, .val (.int p1), .val (.int p2), .val (.int p3), .val (.int p4), .val (.int p5), .val (.long x1), .second, .val (.long x2), .second, .val (.long x3), .second, .val (.long x4), .second, .val (.long x5), .second, .val (.long x6), .second, .val (.ref ob7), .val (.ref bq12), .val (.ref ob13), .val (.int (0 : Int32)), .val (.long (8 : Int64)), .second] [(.int (0 : Int32)), (.int (5 : Int32)), (.ref ob13), (.ref bq12)])
        refine own_callS X18 hx hZ (y := (⟨"com/example/obliv/obliv/io/SegmentIndexToArrayPinLaw", "eqAt", "([J[JII)Z"⟩ : MethodName)) 0 hown (hw _ (List.mem_of_getElem? (i := 41) rfl)) (hw _ (List.mem_of_getElem? (i := 42) rfl)) (hw _ (List.mem_of_getElem? (i := 43) rfl)) (hw _ (List.mem_of_getElem? (i := 44) rfl)) (by decide) (argsL := [(.ref bq12), (.ref ob13), (.int (5 : Int32)), (.int (0 : Int32))]) (rest := []) (rm7 l Z a0 hw [] bq12 ob13 (5 : Int32) (0 : Int32) [] [(.long (0 : Int64)), (.long (0 : Int64)), (.long (0 : Int64)), (.long (0 : Int64)), (.long (0 : Int64)), (.long (0 : Int64))] h13 n0 (Nat.le_trans Z0 K0.1) Vq12 V_ob13 (Or.inl (by decide))) (by decide) (by decide) (by decide) (by decide) (g := (mkF m 318 #[.val (.long q0), .second, .val (.int p1), .val (.int p2), .val (.int p3), .val (.int p4), .val (.int p5), .val (.long x1), .second, .val (.long x2), .second, .val (.long x3), .second, .val (.long x4), .second, .val (.long x5), .second, .val (.long x6), .second, .val (.ref ob7), .val (.ref bq12), .val (.ref ob13), .val (.int (0 : Int32)), .val (.long (8 : Int64)), .second] [(.int (0 : Int32)), (.int (5 : Int32)), (.ref ob13), (.ref bq12)])) rfl (by rw [hml]; rfl) (lenOf pd___J_JII_Z_647 rfl) rfl (by show 2 * 0 + _ ≤ _; exact Nat.le_of_eq rfl) (hb hby at_318) hh18 ?_
        rintro v19 T19 L19 X19 ⟨rfl, N19q, hh19⟩
        have N19 := Fr.app N18 N19q
        show GG _ _ _ _ _ _ _ T19 (mkF m 321 #[.val (.long q0), .second, .val (.int p1), .val (.int p2), .val (.int p3), .val (.int p4), .val (.int p5), .val (.long x1), .second, .val (.long x2), .second, .val (.long x3), .second, .val (.long x4), .second, .val (.long x5), .second, .val (.long x6), .second, .val (.ref ob7), .val (.ref bq12), .val (.ref ob13), .val (.int (0 : Int32)), .val (.long (8 : Int64)), .second] [(.int (1 : Int32))])
        have hc321 : ¬ ((1 : Int32) = (0 : Int32)) := by decide
        refine own_go (fun _ => XS.ifNo X19.here hx rfl (hb hby at_321) rfl ((if0 _ _).trans (feq hc321).1)) ?_
        show GG _ _ _ _ _ _ _ T19 (mkF m 324 #[.val (.long q0), .second, .val (.int p1), .val (.int p2), .val (.int p3), .val (.int p4), .val (.int p5), .val (.long x1), .second, .val (.long x2), .second, .val (.long x3), .second, .val (.long x4), .second, .val (.long x5), .second, .val (.long x6), .second, .val (.ref ob7), .val (.ref bq12), .val (.ref ob13), .val (.int (0 : Int32)), .val (.long (8 : Int64)), .second] [])
        refine own_go (fun _ => XS.iconst X19.here hx rfl (hb hby at_324)) ?_
        show GG _ _ _ _ _ _ _ T19 (mkF m 325 #[.val (.long q0), .second, .val (.int p1), .val (.int p2), .val (.int p3), .val (.int p4), .val (.int p5), .val (.long x1), .second, .val (.long x2), .second, .val (.long x3), .second, .val (.long x4), .second, .val (.long x5), .second, .val (.long x6), .second, .val (.ref ob7), .val (.ref bq12), .val (.ref ob13), .val (.int (0 : Int32)), .val (.long (8 : Int64)), .second] [(.int (1 : Int32))])
        refine own_go (fun _ => XS.goto X19.here hx rfl (pc0 := 325) (pc' := 329) rfl (hb hby at_325) (by decide) (by decide)) ?_
        show GG _ _ _ _ _ _ _ T19 (mkF m 329 #[.val (.long q0), .second, .val (.int p1), .val (.int p2), .val (.int p3), .val (.int p4), .val (.int p5), .val (.long x1), .second, .val (.long x2), .second, .val (.long x3), .second, .val (.long x4), .second, .val (.long x5), .second, .val (.long x6), .second, .val (.ref ob7), .val (.ref bq12), .val (.ref ob13), .val (.int (0 : Int32)), .val (.long (8 : Int64)), .second] [(.int (1 : Int32))])
        refine own_ret X19 hx hlk (t := .boolean) (w := (.int (1 : Int32))) Bd.returns rfl (Or.inl ⟨rfl, by simp, _, rfl⟩) (hb hby at_329) (by decide) (by decide) ?_
        show Q0 Z q0 p1 p2 p3 p4 p5 h0 n0 (some (.int (1 : Int32))) T19.heap _
        rw [hh19]
        exact ⟨rfl, N19⟩
      · skip
        refine own_callV X10 hx hZ (y := (⟨"com/example/obliv/obliv/io/SegmentIndex", "add", "(JJ)V"⟩ : MethodName)) (z := (⟨"com/example/obliv/obliv/io/SegmentIndex", "add", "(JJ)V"⟩ : MethodName)) 0 hown (hw _ (List.mem_of_getElem? (i := 25) rfl)) (hw _ (List.mem_of_getElem? (i := 26) rfl)) (notFace_of_selects (args := #[]) (mvT hZ (hw _ (List.mem_of_getElem? (i := 28) rfl)))) (hw _ (List.mem_of_getElem? (i := 28) rfl)) (hw _ (List.mem_of_getElem? (i := 27) rfl)) (hw _ (List.mem_of_getElem? (i := 6) rfl)) (hw _ (List.mem_of_getElem? (i := 29) rfl)) (by decide) (a := ob7) (argsL := [(.long x3), (.long x6)]) (rest := []) (rm4_1h l Z a0 hw [] ob7 x3 x6 c1_8 c2_8 (0 : Int64) (0 : Int64) (0 : Int64) (0 : Int64) (0 : Int64) (0 : Int64) (0 : Int64) (0 : Int64) (0 : Int64) (0 : Int64) (0 : Int64) (0 : Int64) (0 : Int64) (0 : Int64) (0 : Int64) (0 : Int64) (8 : Int64) (0 : Int64) (0 : Int64) (0 : Int64) (0 : Int64) (0 : Int64) (0 : Int64) (0 : Int64) (0 : Int64) (0 : Int64) (0 : Int64) (0 : Int64) (0 : Int64) (0 : Int64) (0 : Int64) (0 : Int64) T8.heap n0 (Nat.le_trans Z0 K0.1) hp100 Eq8 Fs8 Fr8 Fp8 Vr8 Vp8 n12_8 ne1_8 ne2_8 g_ob7 g_c1_8 g_c2_8) (by decide) (by decide) (by decide) (by decide) Eq8 (g := (mkF m 100 #[.val (.long q0), .second, .val (.int p1), .val (.int p2), .val (.int p3), .val (.int p4), .val (.int p5), .val (.long x1), .second, .val (.long x2), .second, .val (.long x3), .second, .val (.long x4), .second, .val (.long x5), .second, .val (.long x6), .second, .val (.ref ob7), .unset, .unset, .unset, .unset, .unset] [(.long x6), (.long x3), (.ref ob7)])) rfl (by rw [hml]; rfl) (lenOf pd__JJ_V_315 rfl) rfl (by show 2 * 0 + _ ≤ _; exact Nat.le_of_eq rfl) (hb hby at_100) hh10 ?_
        rintro v20 T20 L20 X20 ⟨rfl, N20q, Kq20, Fs20, Fr20, Fp20, Vr20, Vp20⟩
        have N20 := Fr.app N10 N20q
        have K0 := K0.trans Kq20 (allS (Or.inr sz_ob7) (allS (Or.inr sz_c1_8) (allS (Or.inr sz_c2_8) all0)))
        have Eq8 := Eq8.keep Kq20
        show GG _ _ _ _ _ _ _ T20 (mkF m 103 #[.val (.long q0), .second, .val (.int p1), .val (.int p2), .val (.int p3), .val (.int p4), .val (.int p5), .val (.long x1), .second, .val (.long x2), .second, .val (.long x3), .second, .val (.long x4), .second, .val (.long x5), .second, .val (.long x6), .second, .val (.ref ob7), .unset, .unset, .unset, .unset, .unset] [])
        refine own_go (fun _ => XS.aload X20.here hx rfl (hb hby at_103) rfl rfl) ?_
        show GG _ _ _ _ _ _ _ T20 (mkF m 105 #[.val (.long q0), .second, .val (.int p1), .val (.int p2), .val (.int p3), .val (.int p4), .val (.int p5), .val (.long x1), .second, .val (.long x2), .second, .val (.long x3), .second, .val (.long x4), .second, .val (.long x5), .second, .val (.long x6), .second, .val (.ref ob7), .unset, .unset, .unset, .unset, .unset] [(.ref ob7)])
        refine own_callV X20 hx hZ (y := (⟨"com/example/obliv/obliv/io/SegmentIndex", "toArray", "()[J"⟩ : MethodName)) (z := (⟨"com/example/obliv/obliv/io/SegmentIndex", "toArray", "()[J"⟩ : MethodName)) 0 hown (hw _ (List.mem_of_getElem? (i := 35) rfl)) (hw _ (List.mem_of_getElem? (i := 36) rfl)) (notFace_of_selects (args := #[]) (mvT hZ (hw _ (List.mem_of_getElem? (i := 38) rfl)))) (hw _ (List.mem_of_getElem? (i := 38) rfl)) (hw _ (List.mem_of_getElem? (i := 37) rfl)) (hw _ (List.mem_of_getElem? (i := 6) rfl)) (hw _ (List.mem_of_getElem? (i := 39) rfl)) (by decide) (a := ob7) (argsL := []) (rest := []) (rm6_2 l Z a0 hw [] ob7 c1_8 c2_8 (0 : Int64) x3 (0 : Int64) (0 : Int64) (0 : Int64) (0 : Int64) (0 : Int64) (0 : Int64) (0 : Int64) (0 : Int64) (0 : Int64) (0 : Int64) (0 : Int64) (0 : Int64) (0 : Int64) (0 : Int64) (8 : Int64) x6 (0 : Int64) (0 : Int64) (0 : Int64) (0 : Int64) (0 : Int64) (0 : Int64) (0 : Int64) (0 : Int64) (0 : Int64) (0 : Int64) (0 : Int64) (0 : Int64) (0 : Int64) (0 : Int64) T20.heap n0 (Nat.le_trans Z0 K0.1) Fs20 Fr20 Fp20 Vr20 Vp20) (by decide) (by decide) (by decide) (by decide) Eq8 (g := (mkF m 105 #[.val (.long q0), .second, .val (.int p1), .val (.int p2), .val (.int p3), .val (.int p4), .val (.int p5), .val (.long x1), .second, .val (.long x2), .second, .val (.long x3), .second, .val (.long x4), .second, .val (.long x5), .second, .val (.long x6), .second, .val (.ref ob7), .unset, .unset, .unset, .unset, .unset] [(.ref ob7)])) rfl (by rw [hml]; rfl) (lenOf pd____J_246 rfl) rfl (by show 2 * 0 + _ ≤ _; exact Nat.le_of_eq rfl) (hb hby at_105) rfl ?_
        rintro v21 T21 L21 X21 ⟨bq21, rfl, N21q, szq21, Kq21, Vq21⟩
        have N21 := Fr.app N20 N21q
        have K0 := K0.trans Kq21 all0
        have Eq8 := Eq8.keep Kq21
        have Fs20 := Fs20.keep Kq21 nin0
        have Fr20 := Fr20.keep Kq21 nin0
        have Fp20 := Fp20.keep Kq21 nin0
        have Vr20 := Vr20.keep Kq21 nin0
        have Vp20 := Vp20.keep Kq21 nin0
        show GG _ _ _ _ _ _ _ T21 (mkF m 108 #[.val (.long q0), .second, .val (.int p1), .val (.int p2), .val (.int p3), .val (.int p4), .val (.int p5), .val (.long x1), .second, .val (.long x2), .second, .val (.long x3), .second, .val (.long x4), .second, .val (.long x5), .second, .val (.long x6), .second, .val (.ref ob7), .unset, .unset, .unset, .unset, .unset] [(.ref bq21)])
        refine own_go (fun _ => XS.astore X21.here hx rfl (hb hby at_108) rfl rfl (l' := #[.val (.long q0), .second, .val (.int p1), .val (.int p2), .val (.int p3), .val (.int p4), .val (.int p5), .val (.long x1), .second, .val (.long x2), .second, .val (.long x3), .second, .val (.long x4), .second, .val (.long x5), .second, .val (.long x6), .second, .val (.ref ob7), .val (.ref bq21), .unset, .unset, .unset, .unset]) rfl) ?_
        show GG _ _ _ _ _ _ _ T21 (mkF m 110 #[.val (.long q0), .second, .val (.int p1), .val (.int p2), .val (.int p3), .val (.int p4), .val (.int p5), .val (.long x1), .second, .val (.long x2), .second, .val (.long x3), .second, .val (.long x4), .second, .val (.long x5), .second, .val (.long x6), .second, .val (.ref ob7), .val (.ref bq21), .unset, .unset, .unset, .unset] [])
        refine own_go (fun _ => XS.bipush X21.here hx rfl (hb hby at_110)) ?_
        show GG _ _ _ _ _ _ _ T21 (mkF m 112 #[.val (.long q0), .second, .val (.int p1), .val (.int p2), .val (.int p3), .val (.int p4), .val (.int p5), .val (.long x1), .second, .val (.long x2), .second, .val (.long x3), .second, .val (.long x4), .second, .val (.long x5), .second, .val (.long x6), .second, .val (.ref ob7), .val (.ref bq21), .unset, .unset, .unset, .unset] [(.int (6 : Int32))])
        obtain ⟨T22, h22, ob22, g22, X22, e22, E22, V_ob22, E_ob22, st22⟩ := own_newarr X21 hx hZ (hw _ (List.mem_of_getElem? (i := 13) rfl)) rfl (g := (mkF m 112 #[.val (.long q0), .second, .val (.int p1), .val (.int p2), .val (.int p3), .val (.int p4), .val (.int p5), .val (.long x1), .second, .val (.long x2), .second, .val (.long x3), .second, .val (.long x4), .second, .val (.long x5), .second, .val (.long x6), .second, .val (.ref ob7), .val (.ref bq21), .unset, .unset, .unset, .unset] [(.int (6 : Int32))])) rfl (hb hby at_112) rfl (by decide) (cap := 6) (by decide) (by decide) (by decide) (by decide) (ad := "[J") (by decide)
        have ne_ob7_ob22 : ob7 ≠ ob22 := Nat.ne_of_lt (Nat.lt_of_lt_of_le Eq8.lt (Nat.le_of_eq g22.symm))
        have ne_c1_8_ob22 : c1_8 ≠ ob22 := Nat.ne_of_lt (Nat.lt_of_lt_of_le Vr20.lt (Nat.le_of_eq g22.symm))
        have ne_c2_8_ob22 : c2_8 ≠ ob22 := Nat.ne_of_lt (Nat.lt_of_lt_of_le Vp20.lt (Nat.le_of_eq g22.symm))
        have ne_bq21_ob22 : bq21 ≠ ob22 := Nat.ne_of_lt (Nat.lt_of_lt_of_le Vq21.lt (Nat.le_of_eq g22.symm))
        have sz_ob22 : h0.size ≤ ob22 := Nat.le_trans K0.1 (Nat.le_of_eq g22.symm)
        have g_ob22 : n0 ≤ ob22 := Nat.le_trans Z0 sz_ob22
        have K0 := K0.ext E22
        have Eq8 := Eq8.ext E22
        have Fs20 := Fs20.ext E22
        have Fr20 := Fr20.ext E22
        have Fp20 := Fp20.ext E22
        have Vr20 := Vr20.ext E22
        have Vp20 := Vp20.ext E22
        have Vq21 := Vq21.ext E22
        have V_ob22 : Arx Z h22 ob22 .long [(.long (0 : Int64)), (.long (0 : Int64)), (.long (0 : Int64)), (.long (0 : Int64)), (.long (0 : Int64)), (.long (0 : Int64))] := V_ob22
        refine own_go (fun _ => st22 _) ?_
        show GG _ _ _ _ _ _ _ T22 (mkF m 114 #[.val (.long q0), .second, .val (.int p1), .val (.int p2), .val (.int p3), .val (.int p4), .val (.int p5), .val (.long x1), .second, .val (.long x2), .second, .val (.long x3), .second, .val (.long x4), .second, .val (.long x5), .second, .val (.long x6), .second, .val (.ref ob7), .val (.ref bq21), .unset, .unset, .unset, .unset] [(.ref ob22)])
        refine own_go (fun _ => XS.astore X22.here hx rfl (hb hby at_114) rfl rfl (l' := #[.val (.long q0), .second, .val (.int p1), .val (.int p2), .val (.int p3), .val (.int p4), .val (.int p5), .val (.long x1), .second, .val (.long x2), .second, .val (.long x3), .second, .val (.long x4), .second, .val (.long x5), .second, .val (.long x6), .second, .val (.ref ob7), .val (.ref bq21), .val (.ref ob22), .unset, .unset, .unset]) rfl) ?_
        show GG _ _ _ _ _ _ _ T22 (mkF m 116 #[.val (.long q0), .second, .val (.int p1), .val (.int p2), .val (.int p3), .val (.int p4), .val (.int p5), .val (.long x1), .second, .val (.long x2), .second, .val (.long x3), .second, .val (.long x4), .second, .val (.long x5), .second, .val (.long x6), .second, .val (.ref ob7), .val (.ref bq21), .val (.ref ob22), .unset, .unset, .unset] [])
        refine own_go (fun _ => XS.iconst X22.here hx rfl (hb hby at_116)) ?_
        show GG _ _ _ _ _ _ _ T22 (mkF m 117 #[.val (.long q0), .second, .val (.int p1), .val (.int p2), .val (.int p3), .val (.int p4), .val (.int p5), .val (.long x1), .second, .val (.long x2), .second, .val (.long x3), .second, .val (.long x4), .second, .val (.long x5), .second, .val (.long x6), .second, .val (.ref ob7), .val (.ref bq21), .val (.ref ob22), .unset, .unset, .unset] [(.int (0 : Int32))])
        refine own_go (fun _ => XS.istore X22.here hx rfl (hb hby at_117) rfl (l' := #[.val (.long q0), .second, .val (.int p1), .val (.int p2), .val (.int p3), .val (.int p4), .val (.int p5), .val (.long x1), .second, .val (.long x2), .second, .val (.long x3), .second, .val (.long x4), .second, .val (.long x5), .second, .val (.long x6), .second, .val (.ref ob7), .val (.ref bq21), .val (.ref ob22), .val (.int (0 : Int32)), .unset, .unset]) rfl) ?_
        show GG _ _ _ _ _ _ _ T22 (mkF m 119 #[.val (.long q0), .second, .val (.int p1), .val (.int p2), .val (.int p3), .val (.int p4), .val (.int p5), .val (.long x1), .second, .val (.long x2), .second, .val (.long x3), .second, .val (.long x4), .second, .val (.long x5), .second, .val (.long x6), .second, .val (.ref ob7), .val (.ref bq21), .val (.ref ob22), .val (.int (0 : Int32)), .unset, .unset] [])
        refine own_go (fun _ => X22.ldc2Long hx hown (mvT hZ (hw _ (List.mem_of_getElem? (i := 2) rfl))) (g := (mkF m 119 #[.val (.long q0), .second, .val (.int p1), .val (.int p2), .val (.int p3), .val (.int p4), .val (.int p5), .val (.long x1), .second, .val (.long x2), .second, .val (.long x3), .second, .val (.long x4), .second, .val (.long x5), .second, .val (.long x6), .second, .val (.ref ob7), .val (.ref bq21), .val (.ref ob22), .val (.int (0 : Int32)), .unset, .unset] [])) rfl (hb hby at_119) _) ?_
        show GG _ _ _ _ _ _ _ T22 (mkF m 122 #[.val (.long q0), .second, .val (.int p1), .val (.int p2), .val (.int p3), .val (.int p4), .val (.int p5), .val (.long x1), .second, .val (.long x2), .second, .val (.long x3), .second, .val (.long x4), .second, .val (.long x5), .second, .val (.long x6), .second, .val (.ref ob7), .val (.ref bq21), .val (.ref ob22), .val (.int (0 : Int32)), .unset, .unset] [(.long (8 : Int64))])
        refine own_go (fun _ => XS.lstore X22.here hx rfl (hb hby at_122) rfl (l' := #[.val (.long q0), .second, .val (.int p1), .val (.int p2), .val (.int p3), .val (.int p4), .val (.int p5), .val (.long x1), .second, .val (.long x2), .second, .val (.long x3), .second, .val (.long x4), .second, .val (.long x5), .second, .val (.long x6), .second, .val (.ref ob7), .val (.ref bq21), .val (.ref ob22), .val (.int (0 : Int32)), .val (.long (8 : Int64)), .second]) rfl) ?_
        show GG _ _ _ _ _ _ _ T22 (mkF m 124 #[.val (.long q0), .second, .val (.int p1), .val (.int p2), .val (.int p3), .val (.int p4), .val (.int p5), .val (.long x1), .second, .val (.long x2), .second, .val (.long x3), .second, .val (.long x4), .second, .val (.long x5), .second, .val (.long x6), .second, .val (.ref ob7), .val (.ref bq21), .val (.ref ob22), .val (.int (0 : Int32)), .val (.long (8 : Int64)), .second] [])
        refine own_go (fun _ => XS.lload X22.here hx rfl (hb hby at_124) rfl) ?_
        show GG _ _ _ _ _ _ _ T22 (mkF m 126 #[.val (.long q0), .second, .val (.int p1), .val (.int p2), .val (.int p3), .val (.int p4), .val (.int p5), .val (.long x1), .second, .val (.long x2), .second, .val (.long x3), .second, .val (.long x4), .second, .val (.long x5), .second, .val (.long x6), .second, .val (.ref ob7), .val (.ref bq21), .val (.ref ob22), .val (.int (0 : Int32)), .val (.long (8 : Int64)), .second] [(.long x4)])
        refine own_go (fun _ => XS.lload X22.here hx rfl (hb hby at_126) rfl) ?_
        show GG _ _ _ _ _ _ _ T22 (mkF m 128 #[.val (.long q0), .second, .val (.int p1), .val (.int p2), .val (.int p3), .val (.int p4), .val (.int p5), .val (.long x1), .second, .val (.long x2), .second, .val (.long x3), .second, .val (.long x4), .second, .val (.long x5), .second, .val (.long x6), .second, .val (.ref ob7), .val (.ref bq21), .val (.ref ob22), .val (.int (0 : Int32)), .val (.long (8 : Int64)), .second] [(.long (8 : Int64)), (.long x4)])
        refine own_go (fun _ => XS.lsub X22.here hx rfl (hb hby at_128) rfl) ?_
        show GG _ _ _ _ _ _ _ T22 (mkF m 129 #[.val (.long q0), .second, .val (.int p1), .val (.int p2), .val (.int p3), .val (.int p4), .val (.int p5), .val (.long x1), .second, .val (.long x2), .second, .val (.long x3), .second, .val (.long x4), .second, .val (.long x5), .second, .val (.long x6), .second, .val (.ref ob7), .val (.ref bq21), .val (.ref ob22), .val (.int (0 : Int32)), .val (.long (8 : Int64)), .second] [(.long (x4 - (8 : Int64)))])
        refine own_go (fun _ => X22.ldc2Long hx hown (mvT hZ (hw _ (List.mem_of_getElem? (i := 40) rfl))) (g := (mkF m 129 #[.val (.long q0), .second, .val (.int p1), .val (.int p2), .val (.int p3), .val (.int p4), .val (.int p5), .val (.long x1), .second, .val (.long x2), .second, .val (.long x3), .second, .val (.long x4), .second, .val (.long x5), .second, .val (.long x6), .second, .val (.ref ob7), .val (.ref bq21), .val (.ref ob22), .val (.int (0 : Int32)), .val (.long (8 : Int64)), .second] [(.long (x4 - (8 : Int64)))])) rfl (hb hby at_129) _) ?_
        show GG _ _ _ _ _ _ _ T22 (mkF m 132 #[.val (.long q0), .second, .val (.int p1), .val (.int p2), .val (.int p3), .val (.int p4), .val (.int p5), .val (.long x1), .second, .val (.long x2), .second, .val (.long x3), .second, .val (.long x4), .second, .val (.long x5), .second, .val (.long x6), .second, .val (.ref ob7), .val (.ref bq21), .val (.ref ob22), .val (.int (0 : Int32)), .val (.long (8 : Int64)), .second] [(.long (65536 : Int64)), (.long (x4 - (8 : Int64)))])
        refine own_go (fun _ => XS.lcmp X22.here hx rfl (hb hby at_132) rfl) ?_
        show GG _ _ _ _ _ _ _ T22 (mkF m 133 #[.val (.long q0), .second, .val (.int p1), .val (.int p2), .val (.int p3), .val (.int p4), .val (.int p5), .val (.long x1), .second, .val (.long x2), .second, .val (.long x3), .second, .val (.long x4), .second, .val (.long x5), .second, .val (.long x6), .second, .val (.ref ob7), .val (.ref bq21), .val (.ref ob22), .val (.int (0 : Int32)), .val (.long (8 : Int64)), .second] [(.int (lcmpW (x4 - (8 : Int64)) (65536 : Int64)))])
        have hc133 : (x4 - (8 : Int64)) < (65536 : Int64) := hp82
        refine own_go (fun _ => XS.ifYes X22.here hx rfl (pc0 := 133) (pc' := 162) rfl (hb hby at_133) rfl ((if0 _ _).trans (tlt ((lw_lt _ _).mpr hc133)).1) (by decide) (by decide)) ?_
        show GG _ _ _ _ _ _ _ T22 (mkF m 162 #[.val (.long q0), .second, .val (.int p1), .val (.int p2), .val (.int p3), .val (.int p4), .val (.int p5), .val (.long x1), .second, .val (.long x2), .second, .val (.long x3), .second, .val (.long x4), .second, .val (.long x5), .second, .val (.long x6), .second, .val (.ref ob7), .val (.ref bq21), .val (.ref ob22), .val (.int (0 : Int32)), .val (.long (8 : Int64)), .second] [])
        refine own_go (fun _ => XS.lload X22.here hx rfl (hb hby at_162) rfl) ?_
        show GG _ _ _ _ _ _ _ T22 (mkF m 164 #[.val (.long q0), .second, .val (.int p1), .val (.int p2), .val (.int p3), .val (.int p4), .val (.int p5), .val (.long x1), .second, .val (.long x2), .second, .val (.long x3), .second, .val (.long x4), .second, .val (.long x5), .second, .val (.long x6), .second, .val (.ref ob7), .val (.ref bq21), .val (.ref ob22), .val (.int (0 : Int32)), .val (.long (8 : Int64)), .second] [(.long x5)])
        refine own_go (fun _ => XS.lload X22.here hx rfl (hb hby at_164) rfl) ?_
        show GG _ _ _ _ _ _ _ T22 (mkF m 166 #[.val (.long q0), .second, .val (.int p1), .val (.int p2), .val (.int p3), .val (.int p4), .val (.int p5), .val (.long x1), .second, .val (.long x2), .second, .val (.long x3), .second, .val (.long x4), .second, .val (.long x5), .second, .val (.long x6), .second, .val (.ref ob7), .val (.ref bq21), .val (.ref ob22), .val (.int (0 : Int32)), .val (.long (8 : Int64)), .second] [(.long (8 : Int64)), (.long x5)])
        refine own_go (fun _ => XS.lsub X22.here hx rfl (hb hby at_166) rfl) ?_
        show GG _ _ _ _ _ _ _ T22 (mkF m 167 #[.val (.long q0), .second, .val (.int p1), .val (.int p2), .val (.int p3), .val (.int p4), .val (.int p5), .val (.long x1), .second, .val (.long x2), .second, .val (.long x3), .second, .val (.long x4), .second, .val (.long x5), .second, .val (.long x6), .second, .val (.ref ob7), .val (.ref bq21), .val (.ref ob22), .val (.int (0 : Int32)), .val (.long (8 : Int64)), .second] [(.long (x5 - (8 : Int64)))])
        refine own_go (fun _ => X22.ldc2Long hx hown (mvT hZ (hw _ (List.mem_of_getElem? (i := 40) rfl))) (g := (mkF m 167 #[.val (.long q0), .second, .val (.int p1), .val (.int p2), .val (.int p3), .val (.int p4), .val (.int p5), .val (.long x1), .second, .val (.long x2), .second, .val (.long x3), .second, .val (.long x4), .second, .val (.long x5), .second, .val (.long x6), .second, .val (.ref ob7), .val (.ref bq21), .val (.ref ob22), .val (.int (0 : Int32)), .val (.long (8 : Int64)), .second] [(.long (x5 - (8 : Int64)))])) rfl (hb hby at_167) _) ?_
        show GG _ _ _ _ _ _ _ T22 (mkF m 170 #[.val (.long q0), .second, .val (.int p1), .val (.int p2), .val (.int p3), .val (.int p4), .val (.int p5), .val (.long x1), .second, .val (.long x2), .second, .val (.long x3), .second, .val (.long x4), .second, .val (.long x5), .second, .val (.long x6), .second, .val (.ref ob7), .val (.ref bq21), .val (.ref ob22), .val (.int (0 : Int32)), .val (.long (8 : Int64)), .second] [(.long (65536 : Int64)), (.long (x5 - (8 : Int64)))])
        refine own_go (fun _ => XS.lcmp X22.here hx rfl (hb hby at_170) rfl) ?_
        show GG _ _ _ _ _ _ _ T22 (mkF m 171 #[.val (.long q0), .second, .val (.int p1), .val (.int p2), .val (.int p3), .val (.int p4), .val (.int p5), .val (.long x1), .second, .val (.long x2), .second, .val (.long x3), .second, .val (.long x4), .second, .val (.long x5), .second, .val (.long x6), .second, .val (.ref ob7), .val (.ref bq21), .val (.ref ob22), .val (.int (0 : Int32)), .val (.long (8 : Int64)), .second] [(.int (lcmpW (x5 - (8 : Int64)) (65536 : Int64)))])
        have hc171 : (x5 - (8 : Int64)) < (65536 : Int64) := hp91
        refine own_go (fun _ => XS.ifYes X22.here hx rfl (pc0 := 171) (pc' := 200) rfl (hb hby at_171) rfl ((if0 _ _).trans (tlt ((lw_lt _ _).mpr hc171)).1) (by decide) (by decide)) ?_
        show GG _ _ _ _ _ _ _ T22 (mkF m 200 #[.val (.long q0), .second, .val (.int p1), .val (.int p2), .val (.int p3), .val (.int p4), .val (.int p5), .val (.long x1), .second, .val (.long x2), .second, .val (.long x3), .second, .val (.long x4), .second, .val (.long x5), .second, .val (.long x6), .second, .val (.ref ob7), .val (.ref bq21), .val (.ref ob22), .val (.int (0 : Int32)), .val (.long (8 : Int64)), .second] [])
        refine own_go (fun _ => XS.lload X22.here hx rfl (hb hby at_200) rfl) ?_
        show GG _ _ _ _ _ _ _ T22 (mkF m 202 #[.val (.long q0), .second, .val (.int p1), .val (.int p2), .val (.int p3), .val (.int p4), .val (.int p5), .val (.long x1), .second, .val (.long x2), .second, .val (.long x3), .second, .val (.long x4), .second, .val (.long x5), .second, .val (.long x6), .second, .val (.ref ob7), .val (.ref bq21), .val (.ref ob22), .val (.int (0 : Int32)), .val (.long (8 : Int64)), .second] [(.long x6)])
        refine own_go (fun _ => XS.lload X22.here hx rfl (hb hby at_202) rfl) ?_
        show GG _ _ _ _ _ _ _ T22 (mkF m 204 #[.val (.long q0), .second, .val (.int p1), .val (.int p2), .val (.int p3), .val (.int p4), .val (.int p5), .val (.long x1), .second, .val (.long x2), .second, .val (.long x3), .second, .val (.long x4), .second, .val (.long x5), .second, .val (.long x6), .second, .val (.ref ob7), .val (.ref bq21), .val (.ref ob22), .val (.int (0 : Int32)), .val (.long (8 : Int64)), .second] [(.long (8 : Int64)), (.long x6)])
        refine own_go (fun _ => XS.lsub X22.here hx rfl (hb hby at_204) rfl) ?_
        show GG _ _ _ _ _ _ _ T22 (mkF m 205 #[.val (.long q0), .second, .val (.int p1), .val (.int p2), .val (.int p3), .val (.int p4), .val (.int p5), .val (.long x1), .second, .val (.long x2), .second, .val (.long x3), .second, .val (.long x4), .second, .val (.long x5), .second, .val (.long x6), .second, .val (.ref ob7), .val (.ref bq21), .val (.ref ob22), .val (.int (0 : Int32)), .val (.long (8 : Int64)), .second] [(.long (x6 - (8 : Int64)))])
        refine own_go (fun _ => X22.ldc2Long hx hown (mvT hZ (hw _ (List.mem_of_getElem? (i := 40) rfl))) (g := (mkF m 205 #[.val (.long q0), .second, .val (.int p1), .val (.int p2), .val (.int p3), .val (.int p4), .val (.int p5), .val (.long x1), .second, .val (.long x2), .second, .val (.long x3), .second, .val (.long x4), .second, .val (.long x5), .second, .val (.long x6), .second, .val (.ref ob7), .val (.ref bq21), .val (.ref ob22), .val (.int (0 : Int32)), .val (.long (8 : Int64)), .second] [(.long (x6 - (8 : Int64)))])) rfl (hb hby at_205) _) ?_
        show GG _ _ _ _ _ _ _ T22 (mkF m 208 #[.val (.long q0), .second, .val (.int p1), .val (.int p2), .val (.int p3), .val (.int p4), .val (.int p5), .val (.long x1), .second, .val (.long x2), .second, .val (.long x3), .second, .val (.long x4), .second, .val (.long x5), .second, .val (.long x6), .second, .val (.ref ob7), .val (.ref bq21), .val (.ref ob22), .val (.int (0 : Int32)), .val (.long (8 : Int64)), .second] [(.long (65536 : Int64)), (.long (x6 - (8 : Int64)))])
        refine own_go (fun _ => XS.lcmp X22.here hx rfl (hb hby at_208) rfl) ?_
        show GG _ _ _ _ _ _ _ T22 (mkF m 209 #[.val (.long q0), .second, .val (.int p1), .val (.int p2), .val (.int p3), .val (.int p4), .val (.int p5), .val (.long x1), .second, .val (.long x2), .second, .val (.long x3), .second, .val (.long x4), .second, .val (.long x5), .second, .val (.long x6), .second, .val (.ref ob7), .val (.ref bq21), .val (.ref ob22), .val (.int (0 : Int32)), .val (.long (8 : Int64)), .second] [(.int (lcmpW (x6 - (8 : Int64)) (65536 : Int64)))])
        have hc209 : ¬ ((x6 - (8 : Int64)) < (65536 : Int64)) := hp100
        refine own_go (fun _ => XS.ifNo X22.here hx rfl (hb hby at_209) rfl ((if0 _ _).trans (flt (fun q => hc209 ((lw_lt _ _).mp q))).1)) ?_
        show GG _ _ _ _ _ _ _ T22 (mkF m 212 #[.val (.long q0), .second, .val (.int p1), .val (.int p2), .val (.int p3), .val (.int p4), .val (.int p5), .val (.long x1), .second, .val (.long x2), .second, .val (.long x3), .second, .val (.long x4), .second, .val (.long x5), .second, .val (.long x6), .second, .val (.ref ob7), .val (.ref bq21), .val (.ref ob22), .val (.int (0 : Int32)), .val (.long (8 : Int64)), .second] [])
        refine own_go (fun _ => XS.aload X22.here hx rfl (hb hby at_212) rfl rfl) ?_
        show GG _ _ _ _ _ _ _ T22 (mkF m 214 #[.val (.long q0), .second, .val (.int p1), .val (.int p2), .val (.int p3), .val (.int p4), .val (.int p5), .val (.long x1), .second, .val (.long x2), .second, .val (.long x3), .second, .val (.long x4), .second, .val (.long x5), .second, .val (.long x6), .second, .val (.ref ob7), .val (.ref bq21), .val (.ref ob22), .val (.int (0 : Int32)), .val (.long (8 : Int64)), .second] [(.ref ob22)])
        refine own_go (fun _ => XS.iload X22.here hx rfl (hb hby at_214) rfl) ?_
        show GG _ _ _ _ _ _ _ T22 (mkF m 216 #[.val (.long q0), .second, .val (.int p1), .val (.int p2), .val (.int p3), .val (.int p4), .val (.int p5), .val (.long x1), .second, .val (.long x2), .second, .val (.long x3), .second, .val (.long x4), .second, .val (.long x5), .second, .val (.long x6), .second, .val (.ref ob7), .val (.ref bq21), .val (.ref ob22), .val (.int (0 : Int32)), .val (.long (8 : Int64)), .second] [(.int (0 : Int32)), (.ref ob22)])
        refine own_go (fun _ => XS.lload X22.here hx rfl (hb hby at_216) rfl) ?_
        show GG _ _ _ _ _ _ _ T22 (mkF m 218 #[.val (.long q0), .second, .val (.int p1), .val (.int p2), .val (.int p3), .val (.int p4), .val (.int p5), .val (.long x1), .second, .val (.long x2), .second, .val (.long x3), .second, .val (.long x4), .second, .val (.long x5), .second, .val (.long x6), .second, .val (.ref ob7), .val (.ref bq21), .val (.ref ob22), .val (.int (0 : Int32)), .val (.long (8 : Int64)), .second] [(.long x3), (.int (0 : Int32)), (.ref ob22)])
        obtain ⟨T23, h23, X23, e23, W23, V23, st23⟩ := own_lastore X22 hx hZ e22 V_ob22 (by decide) (Nat.le_of_ble_eq_true rfl) (g := (mkF m 218 #[.val (.long q0), .second, .val (.int p1), .val (.int p2), .val (.int p3), .val (.int p4), .val (.int p5), .val (.long x1), .second, .val (.long x2), .second, .val (.long x3), .second, .val (.long x4), .second, .val (.long x5), .second, .val (.long x6), .second, .val (.ref ob7), .val (.ref bq21), .val (.ref ob22), .val (.int (0 : Int32)), .val (.long (8 : Int64)), .second] [(.long x3), (.int (0 : Int32)), (.ref ob22)])) rfl rfl (hb hby at_218)
        have K0 := K0.wr W23 (Or.inr sz_ob22)
        have Eq8 := Eq8.wr W23
        have Fs20 := Fs20.other W23 (Or.inl ne_ob7_ob22)
        have Fr20 := Fr20.other W23 (Or.inl ne_ob7_ob22)
        have Fp20 := Fp20.other W23 (Or.inl ne_ob7_ob22)
        have Vr20 := Vr20.other W23 ne_c1_8_ob22
        have Vp20 := Vp20.other W23 ne_c2_8_ob22
        have Vq21 := Vq21.other W23 ne_bq21_ob22
        have E_ob22 := E_ob22.wr W23
        have V_ob22 : Arx Z h23 ob22 .long [(.long x3), (.long (0 : Int64)), (.long (0 : Int64)), (.long (0 : Int64)), (.long (0 : Int64)), (.long (0 : Int64))] := V23
        have N23 := Fr.snoc X23 N21 g_ob22
        refine own_go (fun _ => st23 _) ?_
        show GG _ _ _ _ _ _ _ T23 (mkF m 219 #[.val (.long q0), .second, .val (.int p1), .val (.int p2), .val (.int p3), .val (.int p4), .val (.int p5), .val (.long x1), .second, .val (.long x2), .second, .val (.long x3), .second, .val (.long x4), .second, .val (.long x5), .second, .val (.long x6), .second, .val (.ref ob7), .val (.ref bq21), .val (.ref ob22), .val (.int (0 : Int32)), .val (.long (8 : Int64)), .second] [])
        refine own_go (fun _ => XS.aload X23.here hx rfl (hb hby at_219) rfl rfl) ?_
        show GG _ _ _ _ _ _ _ T23 (mkF m 221 #[.val (.long q0), .second, .val (.int p1), .val (.int p2), .val (.int p3), .val (.int p4), .val (.int p5), .val (.long x1), .second, .val (.long x2), .second, .val (.long x3), .second, .val (.long x4), .second, .val (.long x5), .second, .val (.long x6), .second, .val (.ref ob7), .val (.ref bq21), .val (.ref ob22), .val (.int (0 : Int32)), .val (.long (8 : Int64)), .second] [(.ref ob22)])
        refine own_go (fun _ => XS.iload X23.here hx rfl (hb hby at_221) rfl) ?_
        show GG _ _ _ _ _ _ _ T23 (mkF m 223 #[.val (.long q0), .second, .val (.int p1), .val (.int p2), .val (.int p3), .val (.int p4), .val (.int p5), .val (.long x1), .second, .val (.long x2), .second, .val (.long x3), .second, .val (.long x4), .second, .val (.long x5), .second, .val (.long x6), .second, .val (.ref ob7), .val (.ref bq21), .val (.ref ob22), .val (.int (0 : Int32)), .val (.long (8 : Int64)), .second] [(.int (0 : Int32)), (.ref ob22)])
        refine own_go (fun _ => XS.iconst X23.here hx rfl (hb hby at_223)) ?_
        show GG _ _ _ _ _ _ _ T23 (mkF m 224 #[.val (.long q0), .second, .val (.int p1), .val (.int p2), .val (.int p3), .val (.int p4), .val (.int p5), .val (.long x1), .second, .val (.long x2), .second, .val (.long x3), .second, .val (.long x4), .second, .val (.long x5), .second, .val (.long x6), .second, .val (.ref ob7), .val (.ref bq21), .val (.ref ob22), .val (.int (0 : Int32)), .val (.long (8 : Int64)), .second] [(.int (1 : Int32)), (.int (0 : Int32)), (.ref ob22)])
        refine own_go (fun _ => XS.iadd X23.here hx rfl (hb hby at_224) rfl) ?_
        show GG _ _ _ _ _ _ _ T23 (mkF m 225 #[.val (.long q0), .second, .val (.int p1), .val (.int p2), .val (.int p3), .val (.int p4), .val (.int p5), .val (.long x1), .second, .val (.long x2), .second, .val (.long x3), .second, .val (.long x4), .second, .val (.long x5), .second, .val (.long x6), .second, .val (.ref ob7), .val (.ref bq21), .val (.ref ob22), .val (.int (0 : Int32)), .val (.long (8 : Int64)), .second] [(.int (1 : Int32)), (.ref ob22)])
        refine own_go (fun _ => XS.lload X23.here hx rfl (hb hby at_225) rfl) ?_
        show GG _ _ _ _ _ _ _ T23 (mkF m 227 #[.val (.long q0), .second, .val (.int p1), .val (.int p2), .val (.int p3), .val (.int p4), .val (.int p5), .val (.long x1), .second, .val (.long x2), .second, .val (.long x3), .second, .val (.long x4), .second, .val (.long x5), .second, .val (.long x6), .second, .val (.ref ob7), .val (.ref bq21), .val (.ref ob22), .val (.int (0 : Int32)), .val (.long (8 : Int64)), .second] [(.long x6), (.int (1 : Int32)), (.ref ob22)])
        obtain ⟨T24, h24, X24, e24, W24, V24, st24⟩ := own_lastore X23 hx hZ e23 V_ob22 (by decide) (Nat.le_of_ble_eq_true rfl) (g := (mkF m 227 #[.val (.long q0), .second, .val (.int p1), .val (.int p2), .val (.int p3), .val (.int p4), .val (.int p5), .val (.long x1), .second, .val (.long x2), .second, .val (.long x3), .second, .val (.long x4), .second, .val (.long x5), .second, .val (.long x6), .second, .val (.ref ob7), .val (.ref bq21), .val (.ref ob22), .val (.int (0 : Int32)), .val (.long (8 : Int64)), .second] [(.long x6), (.int (1 : Int32)), (.ref ob22)])) rfl rfl (hb hby at_227)
        have K0 := K0.wr W24 (Or.inr sz_ob22)
        have Eq8 := Eq8.wr W24
        have Fs20 := Fs20.other W24 (Or.inl ne_ob7_ob22)
        have Fr20 := Fr20.other W24 (Or.inl ne_ob7_ob22)
        have Fp20 := Fp20.other W24 (Or.inl ne_ob7_ob22)
        have Vr20 := Vr20.other W24 ne_c1_8_ob22
        have Vp20 := Vp20.other W24 ne_c2_8_ob22
        have Vq21 := Vq21.other W24 ne_bq21_ob22
        have E_ob22 := E_ob22.wr W24
        have V_ob22 : Arx Z h24 ob22 .long [(.long x3), (.long x6), (.long (0 : Int64)), (.long (0 : Int64)), (.long (0 : Int64)), (.long (0 : Int64))] := V24
        have N24 := Fr.snoc X24 N23 g_ob22
        refine own_go (fun _ => st24 _) ?_
        show GG _ _ _ _ _ _ _ T24 (mkF m 228 #[.val (.long q0), .second, .val (.int p1), .val (.int p2), .val (.int p3), .val (.int p4), .val (.int p5), .val (.long x1), .second, .val (.long x2), .second, .val (.long x3), .second, .val (.long x4), .second, .val (.long x5), .second, .val (.long x6), .second, .val (.ref ob7), .val (.ref bq21), .val (.ref ob22), .val (.int (0 : Int32)), .val (.long (8 : Int64)), .second] [])
        refine own_go (fun _ => XS.iload X24.here hx rfl (hb hby at_228) rfl) ?_
        show GG _ _ _ _ _ _ _ T24 (mkF m 230 #[.val (.long q0), .second, .val (.int p1), .val (.int p2), .val (.int p3), .val (.int p4), .val (.int p5), .val (.long x1), .second, .val (.long x2), .second, .val (.long x3), .second, .val (.long x4), .second, .val (.long x5), .second, .val (.long x6), .second, .val (.ref ob7), .val (.ref bq21), .val (.ref ob22), .val (.int (0 : Int32)), .val (.long (8 : Int64)), .second] [(.int (0 : Int32))])
        refine own_go (fun _ => XS.iconst X24.here hx rfl (hb hby at_230)) ?_
        show GG _ _ _ _ _ _ _ T24 (mkF m 231 #[.val (.long q0), .second, .val (.int p1), .val (.int p2), .val (.int p3), .val (.int p4), .val (.int p5), .val (.long x1), .second, .val (.long x2), .second, .val (.long x3), .second, .val (.long x4), .second, .val (.long x5), .second, .val (.long x6), .second, .val (.ref ob7), .val (.ref bq21), .val (.ref ob22), .val (.int (0 : Int32)), .val (.long (8 : Int64)), .second] [(.int (2 : Int32)), (.int (0 : Int32))])
        refine own_go (fun _ => XS.iadd X24.here hx rfl (hb hby at_231) rfl) ?_
        show GG _ _ _ _ _ _ _ T24 (mkF m 232 #[.val (.long q0), .second, .val (.int p1), .val (.int p2), .val (.int p3), .val (.int p4), .val (.int p5), .val (.long x1), .second, .val (.long x2), .second, .val (.long x3), .second, .val (.long x4), .second, .val (.long x5), .second, .val (.long x6), .second, .val (.ref ob7), .val (.ref bq21), .val (.ref ob22), .val (.int (0 : Int32)), .val (.long (8 : Int64)), .second] [(.int (2 : Int32))])
        refine own_go (fun _ => XS.istore X24.here hx rfl (hb hby at_232) rfl (l' := #[.val (.long q0), .second, .val (.int p1), .val (.int p2), .val (.int p3), .val (.int p4), .val (.int p5), .val (.long x1), .second, .val (.long x2), .second, .val (.long x3), .second, .val (.long x4), .second, .val (.long x5), .second, .val (.long x6), .second, .val (.ref ob7), .val (.ref bq21), .val (.ref ob22), .val (.int (2 : Int32)), .val (.long (8 : Int64)), .second]) rfl) ?_
        show GG _ _ _ _ _ _ _ T24 (mkF m 234 #[.val (.long q0), .second, .val (.int p1), .val (.int p2), .val (.int p3), .val (.int p4), .val (.int p5), .val (.long x1), .second, .val (.long x2), .second, .val (.long x3), .second, .val (.long x4), .second, .val (.long x5), .second, .val (.long x6), .second, .val (.ref ob7), .val (.ref bq21), .val (.ref ob22), .val (.int (2 : Int32)), .val (.long (8 : Int64)), .second] [])
        refine own_go (fun _ => XS.lload X24.here hx rfl (hb hby at_234) rfl) ?_
        show GG _ _ _ _ _ _ _ T24 (mkF m 236 #[.val (.long q0), .second, .val (.int p1), .val (.int p2), .val (.int p3), .val (.int p4), .val (.int p5), .val (.long x1), .second, .val (.long x2), .second, .val (.long x3), .second, .val (.long x4), .second, .val (.long x5), .second, .val (.long x6), .second, .val (.ref ob7), .val (.ref bq21), .val (.ref ob22), .val (.int (2 : Int32)), .val (.long (8 : Int64)), .second] [(.long x6)])
        refine own_go (fun _ => XS.lstore X24.here hx rfl (hb hby at_236) rfl (l' := #[.val (.long q0), .second, .val (.int p1), .val (.int p2), .val (.int p3), .val (.int p4), .val (.int p5), .val (.long x1), .second, .val (.long x2), .second, .val (.long x3), .second, .val (.long x4), .second, .val (.long x5), .second, .val (.long x6), .second, .val (.ref ob7), .val (.ref bq21), .val (.ref ob22), .val (.int (2 : Int32)), .val (.long x6), .second]) rfl) ?_
        show GG _ _ _ _ _ _ _ T24 (mkF m 238 #[.val (.long q0), .second, .val (.int p1), .val (.int p2), .val (.int p3), .val (.int p4), .val (.int p5), .val (.long x1), .second, .val (.long x2), .second, .val (.long x3), .second, .val (.long x4), .second, .val (.long x5), .second, .val (.long x6), .second, .val (.ref ob7), .val (.ref bq21), .val (.ref ob22), .val (.int (2 : Int32)), .val (.long x6), .second] [])
        refine own_go (fun _ => XS.aload X24.here hx rfl (hb hby at_238) rfl rfl) ?_
        show GG _ _ _ _ _ _ _ T24 (mkF m 240 #[.val (.long q0), .second, .val (.int p1), .val (.int p2), .val (.int p3), .val (.int p4), .val (.int p5), .val (.long x1), .second, .val (.long x2), .second, .val (.long x3), .second, .val (.long x4), .second, .val (.long x5), .second, .val (.long x6), .second, .val (.ref ob7), .val (.ref bq21), .val (.ref ob22), .val (.int (2 : Int32)), .val (.long x6), .second] [(.ref bq21)])
        refine own_go (fun _ => own_len X24 hx hZ e24 Vq21 (g := (mkF m 240 #[.val (.long q0), .second, .val (.int p1), .val (.int p2), .val (.int p3), .val (.int p4), .val (.int p5), .val (.long x1), .second, .val (.long x2), .second, .val (.long x3), .second, .val (.long x4), .second, .val (.long x5), .second, .val (.long x6), .second, .val (.ref ob7), .val (.ref bq21), .val (.ref ob22), .val (.int (2 : Int32)), .val (.long x6), .second] [(.ref bq21)])) rfl rfl (hb hby at_240) _) ?_
        show GG _ _ _ _ _ _ _ T24 (mkF m 241 #[.val (.long q0), .second, .val (.int p1), .val (.int p2), .val (.int p3), .val (.int p4), .val (.int p5), .val (.long x1), .second, .val (.long x2), .second, .val (.long x3), .second, .val (.long x4), .second, .val (.long x5), .second, .val (.long x6), .second, .val (.ref ob7), .val (.ref bq21), .val (.ref ob22), .val (.int (2 : Int32)), .val (.long x6), .second] [(.int (2 : Int32))])
        refine own_go (fun _ => XS.iload X24.here hx rfl (hb hby at_241) rfl) ?_
        show GG _ _ _ _ _ _ _ T24 (mkF m 243 #[.val (.long q0), .second, .val (.int p1), .val (.int p2), .val (.int p3), .val (.int p4), .val (.int p5), .val (.long x1), .second, .val (.long x2), .second, .val (.long x3), .second, .val (.long x4), .second, .val (.long x5), .second, .val (.long x6), .second, .val (.ref ob7), .val (.ref bq21), .val (.ref ob22), .val (.int (2 : Int32)), .val (.long x6), .second] [(.int (2 : Int32)), (.int (2 : Int32))])
        have hc243 : (2 : Int32) = (2 : Int32) := by decide
        refine own_go (fun _ => XS.icmpNo X24.here hx rfl (hb hby at_243) rfl (teq hc243).2) ?_
        show GG _ _ _ _ _ _ _ T24 (mkF m 246 #[.val (.long q0), .second, .val (.int p1), .val (.int p2), .val (.int p3), .val (.int p4), .val (.int p5), .val (.long x1), .second, .val (.long x2), .second, .val (.long x3), .second, .val (.long x4), .second, .val (.long x5), .second, .val (.long x6), .second, .val (.ref ob7), .val (.ref bq21), .val (.ref ob22), .val (.int (2 : Int32)), .val (.long x6), .second] [])
        refine own_go (fun _ => XS.aload X24.here hx rfl (hb hby at_246) rfl rfl) ?_
        show GG _ _ _ _ _ _ _ T24 (mkF m 248 #[.val (.long q0), .second, .val (.int p1), .val (.int p2), .val (.int p3), .val (.int p4), .val (.int p5), .val (.long x1), .second, .val (.long x2), .second, .val (.long x3), .second, .val (.long x4), .second, .val (.long x5), .second, .val (.long x6), .second, .val (.ref ob7), .val (.ref bq21), .val (.ref ob22), .val (.int (2 : Int32)), .val (.long x6), .second] [(.ref bq21)])
        refine own_go (fun _ => XS.aload X24.here hx rfl (hb hby at_248) rfl rfl) ?_
        show GG _ _ _ _ _ _ _ T24 (mkF m 250 #[.val (.long q0), .second, .val (.int p1), .val (.int p2), .val (.int p3), .val (.int p4), .val (.int p5), .val (.long x1), .second, .val (.long x2), .second, .val (.long x3), .second, .val (.long x4), .second, .val (.long x5), .second, .val (.long x6), .second, .val (.ref ob7), .val (.ref bq21), .val (.ref ob22), .val (.int (2 : Int32)), .val (.long x6), .second] [(.ref ob22), (.ref bq21)])
        refine own_go (fun _ => XS.iconst X24.here hx rfl (hb hby at_250)) ?_
        show GG _ _ _ _ _ _ _ T24 (mkF m 251 #[.val (.long q0), .second, .val (.int p1), .val (.int p2), .val (.int p3), .val (.int p4), .val (.int p5), .val (.long x1), .second, .val (.long x2), .second, .val (.long x3), .second, .val (.long x4), .second, .val (.long x5), .second, .val (.long x6), .second, .val (.ref ob7), .val (.ref bq21), .val (.ref ob22), .val (.int (2 : Int32)), .val (.long x6), .second] [(.int (0 : Int32)), (.ref ob22), (.ref bq21)])
        refine own_go (fun _ => XS.iload X24.here hx rfl (hb hby at_251) rfl) ?_
        show GG _ _ _ _ _ _ _ T24 (mkF m 253 #[.val (.long q0), .second, .val (.int p1), .val (.int p2), .val (.int p3), .val (.int p4), .val (.int p5), .val (.long x1), .second, .val (.long x2), .second, .val (.long x3), .second, .val (.long x4), .second, .val (.long x5), .second, .val (.long x6), .second, .val (.ref ob7), .val (.ref bq21), .val (.ref ob22), .val (.int (2 : Int32)), .val (.long x6), .second] [(.int (2 : Int32)), (.int (0 : Int32)), (.ref ob22), (.ref bq21)])
        refine own_callS X24 hx hZ (y := (⟨"com/example/obliv/obliv/io/SegmentIndexToArrayPinLaw", "eqAt", "([J[JII)Z"⟩ : MethodName)) 0 hown (hw _ (List.mem_of_getElem? (i := 41) rfl)) (hw _ (List.mem_of_getElem? (i := 42) rfl)) (hw _ (List.mem_of_getElem? (i := 43) rfl)) (hw _ (List.mem_of_getElem? (i := 44) rfl)) (by decide) (argsL := [(.ref bq21), (.ref ob22), (.int (0 : Int32)), (.int (2 : Int32))]) (rest := []) (rm7 l Z a0 hw [] bq21 ob22 (0 : Int32) (2 : Int32) [(.long x3), (.long x6)] [(.long x3), (.long x6), (.long (0 : Int64)), (.long (0 : Int64)), (.long (0 : Int64)), (.long (0 : Int64))] h24 n0 (Nat.le_trans Z0 K0.1) Vq21 V_ob22 (Or.inr ⟨by decide, _, rfl, rfl⟩)) (by decide) (by decide) (by decide) (by decide) (g := (mkF m 253 #[.val (.long q0), .second, .val (.int p1), .val (.int p2), .val (.int p3), .val (.int p4), .val (.int p5), .val (.long x1), .second, .val (.long x2), .second, .val (.long x3), .second, .val (.long x4), .second, .val (.long x5), .second, .val (.long x6), .second, .val (.ref ob7), .val (.ref bq21), .val (.ref ob22), .val (.int (2 : Int32)), .val (.long x6), .second] [(.int (2 : Int32)), (.int (0 : Int32)), (.ref ob22), (.ref bq21)])) rfl (by rw [hml]; rfl) (lenOf pd___J_JII_Z_647 rfl) rfl (by show 2 * 0 + _ ≤ _; exact Nat.le_of_eq rfl) (hb hby at_253) e24 ?_
        rintro v25 T25 L25 X25 ⟨rfl, N25q, hh25⟩
        have N25 := Fr.app N24 N25q
        show GG _ _ _ _ _ _ _ T25 (mkF m 256 #[.val (.long q0), .second, .val (.int p1), .val (.int p2), .val (.int p3), .val (.int p4), .val (.int p5), .val (.long x1), .second, .val (.long x2), .second, .val (.long x3), .second, .val (.long x4), .second, .val (.long x5), .second, .val (.long x6), .second, .val (.ref ob7), .val (.ref bq21), .val (.ref ob22), .val (.int (2 : Int32)), .val (.long x6), .second] [(.int (1 : Int32))])
        have hc256 : ¬ ((1 : Int32) = (0 : Int32)) := by decide
        refine own_go (fun _ => XS.ifNo X25.here hx rfl (hb hby at_256) rfl ((if0 _ _).trans (feq hc256).1)) ?_
        show GG _ _ _ _ _ _ _ T25 (mkF m 259 #[.val (.long q0), .second, .val (.int p1), .val (.int p2), .val (.int p3), .val (.int p4), .val (.int p5), .val (.long x1), .second, .val (.long x2), .second, .val (.long x3), .second, .val (.long x4), .second, .val (.long x5), .second, .val (.long x6), .second, .val (.ref ob7), .val (.ref bq21), .val (.ref ob22), .val (.int (2 : Int32)), .val (.long x6), .second] [])
        refine own_go (fun _ => XS.aload X25.here hx rfl (hb hby at_259) rfl rfl) ?_
        show GG _ _ _ _ _ _ _ T25 (mkF m 261 #[.val (.long q0), .second, .val (.int p1), .val (.int p2), .val (.int p3), .val (.int p4), .val (.int p5), .val (.long x1), .second, .val (.long x2), .second, .val (.long x3), .second, .val (.long x4), .second, .val (.long x5), .second, .val (.long x6), .second, .val (.ref ob7), .val (.ref bq21), .val (.ref ob22), .val (.int (2 : Int32)), .val (.long x6), .second] [(.ref bq21)])
        refine own_go (fun _ => XS.aload X25.here hx rfl (hb hby at_261) rfl rfl) ?_
        show GG _ _ _ _ _ _ _ T25 (mkF m 263 #[.val (.long q0), .second, .val (.int p1), .val (.int p2), .val (.int p3), .val (.int p4), .val (.int p5), .val (.long x1), .second, .val (.long x2), .second, .val (.long x3), .second, .val (.long x4), .second, .val (.long x5), .second, .val (.long x6), .second, .val (.ref ob7), .val (.ref bq21), .val (.ref ob22), .val (.int (2 : Int32)), .val (.long x6), .second] [(.ref ob22), (.ref bq21)])
        refine own_go (fun _ => XS.iconst X25.here hx rfl (hb hby at_263)) ?_
        show GG _ _ _ _ _ _ _ T25 (mkF m 264 #[.val (.long q0), .second, .val (.int p1), .val (.int p2), .val (.int p3), .val (.int p4), .val (.int p5), .val (.long x1), .second, .val (.long x2), .second, .val (.long x3), .second, .val (.long x4), .second, .val (.long x5), .second, .val (.long x6), .second, .val (.ref ob7), .val (.ref bq21), .val (.ref ob22), .val (.int (2 : Int32)), .val (.long x6), .second] [(.int (1 : Int32)), (.ref ob22), (.ref bq21)])
        refine own_go (fun _ => XS.iload X25.here hx rfl (hb hby at_264) rfl) ?_
        show GG _ _ _ _ _ _ _ T25 (mkF m 266 #[.val (.long q0), .second, .val (.int p1), .val (.int p2), .val (.int p3), .val (.int p4), .val (.int p5), .val (.long x1), .second, .val (.long x2), .second, .val (.long x3), .second, .val (.long x4), .second, .val (.long x5), .second, .val (.long x6), .second, .val (.ref ob7), .val (.ref bq21), .val (.ref ob22), .val (.int (2 : Int32)), .val (.long x6), .second] [(.int (2 : Int32)), (.int (1 : Int32)), (.ref ob22), (.ref bq21)])
        refine own_callS X25 hx hZ (y := (⟨"com/example/obliv/obliv/io/SegmentIndexToArrayPinLaw", "eqAt", "([J[JII)Z"⟩ : MethodName)) 0 hown (hw _ (List.mem_of_getElem? (i := 41) rfl)) (hw _ (List.mem_of_getElem? (i := 42) rfl)) (hw _ (List.mem_of_getElem? (i := 43) rfl)) (hw _ (List.mem_of_getElem? (i := 44) rfl)) (by decide) (argsL := [(.ref bq21), (.ref ob22), (.int (1 : Int32)), (.int (2 : Int32))]) (rest := []) (rm7 l Z a0 hw [] bq21 ob22 (1 : Int32) (2 : Int32) [(.long x3), (.long x6)] [(.long x3), (.long x6), (.long (0 : Int64)), (.long (0 : Int64)), (.long (0 : Int64)), (.long (0 : Int64))] h24 n0 (Nat.le_trans Z0 K0.1) Vq21 V_ob22 (Or.inr ⟨by decide, _, rfl, rfl⟩)) (by decide) (by decide) (by decide) (by decide) (g := (mkF m 266 #[.val (.long q0), .second, .val (.int p1), .val (.int p2), .val (.int p3), .val (.int p4), .val (.int p5), .val (.long x1), .second, .val (.long x2), .second, .val (.long x3), .second, .val (.long x4), .second, .val (.long x5), .second, .val (.long x6), .second, .val (.ref ob7), .val (.ref bq21), .val (.ref ob22), .val (.int (2 : Int32)), .val (.long x6), .second] [(.int (2 : Int32)), (.int (1 : Int32)), (.ref ob22), (.ref bq21)])) rfl (by rw [hml]; rfl) (lenOf pd___J_JII_Z_647 rfl) rfl (by show 2 * 0 + _ ≤ _; exact Nat.le_of_eq rfl) (hb hby at_266) hh25 ?_
        rintro v26 T26 L26 X26 ⟨rfl, N26q, hh26⟩
        have N26 := Fr.app N25 N26q
        show GG _ _ _ _ _ _ _ T26 (mkF m 269 #[.val (.long q0), .second, .val (.int p1), .val (.int p2), .val (.int p3), .val (.int p4), .val (.int p5), .val (.long x1), .second, .val (.long x2), .second, .val (.long x3), .second, .val (.long x4), .second, .val (.long x5), .second, .val (.long x6), .second, .val (.ref ob7), .val (.ref bq21), .val (.ref ob22), .val (.int (2 : Int32)), .val (.long x6), .second] [(.int (1 : Int32))])
        have hc269 : ¬ ((1 : Int32) = (0 : Int32)) := by decide
        refine own_go (fun _ => XS.ifNo X26.here hx rfl (hb hby at_269) rfl ((if0 _ _).trans (feq hc269).1)) ?_
        show GG _ _ _ _ _ _ _ T26 (mkF m 272 #[.val (.long q0), .second, .val (.int p1), .val (.int p2), .val (.int p3), .val (.int p4), .val (.int p5), .val (.long x1), .second, .val (.long x2), .second, .val (.long x3), .second, .val (.long x4), .second, .val (.long x5), .second, .val (.long x6), .second, .val (.ref ob7), .val (.ref bq21), .val (.ref ob22), .val (.int (2 : Int32)), .val (.long x6), .second] [])
        refine own_go (fun _ => XS.aload X26.here hx rfl (hb hby at_272) rfl rfl) ?_
        show GG _ _ _ _ _ _ _ T26 (mkF m 274 #[.val (.long q0), .second, .val (.int p1), .val (.int p2), .val (.int p3), .val (.int p4), .val (.int p5), .val (.long x1), .second, .val (.long x2), .second, .val (.long x3), .second, .val (.long x4), .second, .val (.long x5), .second, .val (.long x6), .second, .val (.ref ob7), .val (.ref bq21), .val (.ref ob22), .val (.int (2 : Int32)), .val (.long x6), .second] [(.ref bq21)])
        refine own_go (fun _ => XS.aload X26.here hx rfl (hb hby at_274) rfl rfl) ?_
        show GG _ _ _ _ _ _ _ T26 (mkF m 276 #[.val (.long q0), .second, .val (.int p1), .val (.int p2), .val (.int p3), .val (.int p4), .val (.int p5), .val (.long x1), .second, .val (.long x2), .second, .val (.long x3), .second, .val (.long x4), .second, .val (.long x5), .second, .val (.long x6), .second, .val (.ref ob7), .val (.ref bq21), .val (.ref ob22), .val (.int (2 : Int32)), .val (.long x6), .second] [(.ref ob22), (.ref bq21)])
        refine own_go (fun _ => XS.iconst X26.here hx rfl (hb hby at_276)) ?_
        show GG _ _ _ _ _ _ _ T26 (mkF m 277 #[.val (.long q0), .second, .val (.int p1), .val (.int p2), .val (.int p3), .val (.int p4), .val (.int p5), .val (.long x1), .second, .val (.long x2), .second, .val (.long x3), .second, .val (.long x4), .second, .val (.long x5), .second, .val (.long x6), .second, .val (.ref ob7), .val (.ref bq21), .val (.ref ob22), .val (.int (2 : Int32)), .val (.long x6), .second] [(.int (2 : Int32)), (.ref ob22), (.ref bq21)])
        refine own_go (fun _ => XS.iload X26.here hx rfl (hb hby at_277) rfl) ?_
        show GG _ _ _ _ _ _ _ T26 (mkF m 279 #[.val (.long q0), .second, .val (.int p1), .val (.int p2), .val (.int p3), .val (.int p4), .val (.int p5), .val (.long x1), .second, .val (.long x2), .second, .val (.long x3), .second, .val (.long x4), .second, .val (.long x5), .second, .val (.long x6), .second, .val (.ref ob7), .val (.ref bq21), .val (.ref ob22), .val (.int (2 : Int32)), .val (.long x6), .second] [(.int (2 : Int32)), (.int (2 : Int32)), (.ref ob22), (.ref bq21)])
        refine own_callS X26 hx hZ (y := (⟨"com/example/obliv/obliv/io/SegmentIndexToArrayPinLaw", "eqAt", "([J[JII)Z"⟩ : MethodName)) 0 hown (hw _ (List.mem_of_getElem? (i := 41) rfl)) (hw _ (List.mem_of_getElem? (i := 42) rfl)) (hw _ (List.mem_of_getElem? (i := 43) rfl)) (hw _ (List.mem_of_getElem? (i := 44) rfl)) (by decide) (argsL := [(.ref bq21), (.ref ob22), (.int (2 : Int32)), (.int (2 : Int32))]) (rest := []) (rm7 l Z a0 hw [] bq21 ob22 (2 : Int32) (2 : Int32) [(.long x3), (.long x6)] [(.long x3), (.long x6), (.long (0 : Int64)), (.long (0 : Int64)), (.long (0 : Int64)), (.long (0 : Int64))] h24 n0 (Nat.le_trans Z0 K0.1) Vq21 V_ob22 (Or.inl (by decide))) (by decide) (by decide) (by decide) (by decide) (g := (mkF m 279 #[.val (.long q0), .second, .val (.int p1), .val (.int p2), .val (.int p3), .val (.int p4), .val (.int p5), .val (.long x1), .second, .val (.long x2), .second, .val (.long x3), .second, .val (.long x4), .second, .val (.long x5), .second, .val (.long x6), .second, .val (.ref ob7), .val (.ref bq21), .val (.ref ob22), .val (.int (2 : Int32)), .val (.long x6), .second] [(.int (2 : Int32)), (.int (2 : Int32)), (.ref ob22), (.ref bq21)])) rfl (by rw [hml]; rfl) (lenOf pd___J_JII_Z_647 rfl) rfl (by show 2 * 0 + _ ≤ _; exact Nat.le_of_eq rfl) (hb hby at_279) hh26 ?_
        rintro v27 T27 L27 X27 ⟨rfl, N27q, hh27⟩
        have N27 := Fr.app N26 N27q
        show GG _ _ _ _ _ _ _ T27 (mkF m 282 #[.val (.long q0), .second, .val (.int p1), .val (.int p2), .val (.int p3), .val (.int p4), .val (.int p5), .val (.long x1), .second, .val (.long x2), .second, .val (.long x3), .second, .val (.long x4), .second, .val (.long x5), .second, .val (.long x6), .second, .val (.ref ob7), .val (.ref bq21), .val (.ref ob22), .val (.int (2 : Int32)), .val (.long x6), .second] [(.int (1 : Int32))])
        have hc282 : ¬ ((1 : Int32) = (0 : Int32)) := by decide
        refine own_go (fun _ => XS.ifNo X27.here hx rfl (hb hby at_282) rfl ((if0 _ _).trans (feq hc282).1)) ?_
        show GG _ _ _ _ _ _ _ T27 (mkF m 285 #[.val (.long q0), .second, .val (.int p1), .val (.int p2), .val (.int p3), .val (.int p4), .val (.int p5), .val (.long x1), .second, .val (.long x2), .second, .val (.long x3), .second, .val (.long x4), .second, .val (.long x5), .second, .val (.long x6), .second, .val (.ref ob7), .val (.ref bq21), .val (.ref ob22), .val (.int (2 : Int32)), .val (.long x6), .second] [])
        refine own_go (fun _ => XS.aload X27.here hx rfl (hb hby at_285) rfl rfl) ?_
        show GG _ _ _ _ _ _ _ T27 (mkF m 287 #[.val (.long q0), .second, .val (.int p1), .val (.int p2), .val (.int p3), .val (.int p4), .val (.int p5), .val (.long x1), .second, .val (.long x2), .second, .val (.long x3), .second, .val (.long x4), .second, .val (.long x5), .second, .val (.long x6), .second, .val (.ref ob7), .val (.ref bq21), .val (.ref ob22), .val (.int (2 : Int32)), .val (.long x6), .second] [(.ref bq21)])
        refine own_go (fun _ => XS.aload X27.here hx rfl (hb hby at_287) rfl rfl) ?_
        show GG _ _ _ _ _ _ _ T27 (mkF m 289 #[.val (.long q0), .second, .val (.int p1), .val (.int p2), .val (.int p3), .val (.int p4), .val (.int p5), .val (.long x1), .second, .val (.long x2), .second, .val (.long x3), .second, .val (.long x4), .second, .val (.long x5), .second, .val (.long x6), .second, .val (.ref ob7), .val (.ref bq21), .val (.ref ob22), .val (.int (2 : Int32)), .val (.long x6), .second] [(.ref ob22), (.ref bq21)])
        refine own_go (fun _ => XS.iconst X27.here hx rfl (hb hby at_289)) ?_
        show GG _ _ _ _ _ _ _ T27 (mkF m 290 #[.val (.long q0), .second, .val (.int p1), .val (.int p2), .val (.int p3), .val (.int p4), .val (.int p5), .val (.long x1), .second, .val (.long x2), .second, .val (.long x3), .second, .val (.long x4), .second, .val (.long x5), .second, .val (.long x6), .second, .val (.ref ob7), .val (.ref bq21), .val (.ref ob22), .val (.int (2 : Int32)), .val (.long x6), .second] [(.int (3 : Int32)), (.ref ob22), (.ref bq21)])
        refine own_go (fun _ => XS.iload X27.here hx rfl (hb hby at_290) rfl) ?_
        show GG _ _ _ _ _ _ _ T27 (mkF m 292 #[.val (.long q0), .second, .val (.int p1), .val (.int p2), .val (.int p3), .val (.int p4), .val (.int p5), .val (.long x1), .second, .val (.long x2), .second, .val (.long x3), .second, .val (.long x4), .second, .val (.long x5), .second, .val (.long x6), .second, .val (.ref ob7), .val (.ref bq21), .val (.ref ob22), .val (.int (2 : Int32)), .val (.long x6), .second] [(.int (2 : Int32)), (.int (3 : Int32)), (.ref ob22), (.ref bq21)])
        refine own_callS X27 hx hZ (y := (⟨"com/example/obliv/obliv/io/SegmentIndexToArrayPinLaw", "eqAt", "([J[JII)Z"⟩ : MethodName)) 0 hown (hw _ (List.mem_of_getElem? (i := 41) rfl)) (hw _ (List.mem_of_getElem? (i := 42) rfl)) (hw _ (List.mem_of_getElem? (i := 43) rfl)) (hw _ (List.mem_of_getElem? (i := 44) rfl)) (by decide) (argsL := [(.ref bq21), (.ref ob22), (.int (3 : Int32)), (.int (2 : Int32))]) (rest := []) (rm7 l Z a0 hw [] bq21 ob22 (3 : Int32) (2 : Int32) [(.long x3), (.long x6)] [(.long x3), (.long x6), (.long (0 : Int64)), (.long (0 : Int64)), (.long (0 : Int64)), (.long (0 : Int64))] h24 n0 (Nat.le_trans Z0 K0.1) Vq21 V_ob22 (Or.inl (by decide))) (by decide) (by decide) (by decide) (by decide) (g := (mkF m 292 #[.val (.long q0), .second, .val (.int p1), .val (.int p2), .val (.int p3), .val (.int p4), .val (.int p5), .val (.long x1), .second, .val (.long x2), .second, .val (.long x3), .second, .val (.long x4), .second, .val (.long x5), .second, .val (.long x6), .second, .val (.ref ob7), .val (.ref bq21), .val (.ref ob22), .val (.int (2 : Int32)), .val (.long x6), .second] [(.int (2 : Int32)), (.int (3 : Int32)), (.ref ob22), (.ref bq21)])) rfl (by rw [hml]; rfl) (lenOf pd___J_JII_Z_647 rfl) rfl (by show 2 * 0 + _ ≤ _; exact Nat.le_of_eq rfl) (hb hby at_292) hh27 ?_
        rintro v28 T28 L28 X28 ⟨rfl, N28q, hh28⟩
        have N28 := Fr.app N27 N28q
        show GG _ _ _ _ _ _ _ T28 (mkF m 295 #[.val (.long q0), .second, .val (.int p1), .val (.int p2), .val (.int p3), .val (.int p4), .val (.int p5), .val (.long x1), .second, .val (.long x2), .second, .val (.long x3), .second, .val (.long x4), .second, .val (.long x5), .second, .val (.long x6), .second, .val (.ref ob7), .val (.ref bq21), .val (.ref ob22), .val (.int (2 : Int32)), .val (.long x6), .second] [(.int (1 : Int32))])
        have hc295 : ¬ ((1 : Int32) = (0 : Int32)) := by decide
        refine own_go (fun _ => XS.ifNo X28.here hx rfl (hb hby at_295) rfl ((if0 _ _).trans (feq hc295).1)) ?_
        show GG _ _ _ _ _ _ _ T28 (mkF m 298 #[.val (.long q0), .second, .val (.int p1), .val (.int p2), .val (.int p3), .val (.int p4), .val (.int p5), .val (.long x1), .second, .val (.long x2), .second, .val (.long x3), .second, .val (.long x4), .second, .val (.long x5), .second, .val (.long x6), .second, .val (.ref ob7), .val (.ref bq21), .val (.ref ob22), .val (.int (2 : Int32)), .val (.long x6), .second] [])
        refine own_go (fun _ => XS.aload X28.here hx rfl (hb hby at_298) rfl rfl) ?_
        show GG _ _ _ _ _ _ _ T28 (mkF m 300 #[.val (.long q0), .second, .val (.int p1), .val (.int p2), .val (.int p3), .val (.int p4), .val (.int p5), .val (.long x1), .second, .val (.long x2), .second, .val (.long x3), .second, .val (.long x4), .second, .val (.long x5), .second, .val (.long x6), .second, .val (.ref ob7), .val (.ref bq21), .val (.ref ob22), .val (.int (2 : Int32)), .val (.long x6), .second] [(.ref bq21)])
        refine own_go (fun _ => XS.aload X28.here hx rfl (hb hby at_300) rfl rfl) ?_
        show GG _ _ _ _ _ _ _ T28 (mkF m 302 #[.val (.long q0), .second, .val (.int p1), .val (.int p2), .val (.int p3), .val (.int p4), .val (.int p5), .val (.long x1), .second, .val (.long x2), .second, .val (.long x3), .second, .val (.long x4), .second, .val (.long x5), .second, .val (.long x6), .second, .val (.ref ob7), .val (.ref bq21), .val (.ref ob22), .val (.int (2 : Int32)), .val (.long x6), .second] [(.ref ob22), (.ref bq21)])
        refine own_go (fun _ => XS.iconst X28.here hx rfl (hb hby at_302)) ?_
        show GG _ _ _ _ _ _ _ T28 (mkF m 303 #[.val (.long q0), .second, .val (.int p1), .val (.int p2), .val (.int p3), .val (.int p4), .val (.int p5), .val (.long x1), .second, .val (.long x2), .second, .val (.long x3), .second, .val (.long x4), .second, .val (.long x5), .second, .val (.long x6), .second, .val (.ref ob7), .val (.ref bq21), .val (.ref ob22), .val (.int (2 : Int32)), .val (.long x6), .second] [(.int (4 : Int32)), (.ref ob22), (.ref bq21)])
        refine own_go (fun _ => XS.iload X28.here hx rfl (hb hby at_303) rfl) ?_
        show GG _ _ _ _ _ _ _ T28 (mkF m 305 #[.val (.long q0), .second, .val (.int p1), .val (.int p2), .val (.int p3), .val (.int p4), .val (.int p5), .val (.long x1), .second, .val (.long x2), .second, .val (.long x3), .second, .val (.long x4), .second, .val (.long x5), .second, .val (.long x6), .second, .val (.ref ob7), .val (.ref bq21), .val (.ref ob22), .val (.int (2 : Int32)), .val (.long x6), .second] [(.int (2 : Int32)), (.int (4 : Int32)), (.ref ob22), (.ref bq21)])
        refine own_callS X28 hx hZ (y := (⟨"com/example/obliv/obliv/io/SegmentIndexToArrayPinLaw", "eqAt", "([J[JII)Z"⟩ : MethodName)) 0 hown (hw _ (List.mem_of_getElem? (i := 41) rfl)) (hw _ (List.mem_of_getElem? (i := 42) rfl)) (hw _ (List.mem_of_getElem? (i := 43) rfl)) (hw _ (List.mem_of_getElem? (i := 44) rfl)) (by decide) (argsL := [(.ref bq21), (.ref ob22), (.int (4 : Int32)), (.int (2 : Int32))]) (rest := []) (rm7 l Z a0 hw [] bq21 ob22 (4 : Int32) (2 : Int32) [(.long x3), (.long x6)] [(.long x3), (.long x6), (.long (0 : Int64)), (.long (0 : Int64)), (.long (0 : Int64)), (.long (0 : Int64))] h24 n0 (Nat.le_trans Z0 K0.1) Vq21 V_ob22 (Or.inl (by decide))) (by decide) (by decide) (by decide) (by decide) (g := (mkF m 305 #[.val (.long q0), .second, .val (.int p1), .val (.int p2), .val (.int p3), .val (.int p4), .val (.int p5), .val (.long x1), .second, .val (.long x2), .second, .val (.long x3), .second, .val (.long x4), .second, .val (.long x5), .second, .val (.long x6), .second, .val (.ref ob7), .val (.ref bq21), .val (.ref ob22), .val (.int (2 : Int32)), .val (.long x6), .second] [(.int (2 : Int32)), (.int (4 : Int32)), (.ref ob22), (.ref bq21)])) rfl (by rw [hml]; rfl) (lenOf pd___J_JII_Z_647 rfl) rfl (by show 2 * 0 + _ ≤ _; exact Nat.le_of_eq rfl) (hb hby at_305) hh28 ?_
        rintro v29 T29 L29 X29 ⟨rfl, N29q, hh29⟩
        have N29 := Fr.app N28 N29q
        show GG _ _ _ _ _ _ _ T29 (mkF m 308 #[.val (.long q0), .second, .val (.int p1), .val (.int p2), .val (.int p3), .val (.int p4), .val (.int p5), .val (.long x1), .second, .val (.long x2), .second, .val (.long x3), .second, .val (.long x4), .second, .val (.long x5), .second, .val (.long x6), .second, .val (.ref ob7), .val (.ref bq21), .val (.ref ob22), .val (.int (2 : Int32)), .val (.long x6), .second] [(.int (1 : Int32))])
        have hc308 : ¬ ((1 : Int32) = (0 : Int32)) := by decide
        refine own_go (fun _ => XS.ifNo X29.here hx rfl (hb hby at_308) rfl ((if0 _ _).trans (feq hc308).1)) ?_
        show GG _ _ _ _ _ _ _ T29 (mkF m 311 #[.val (.long q0), .second, .val (.int p1), .val (.int p2), .val (.int p3), .val (.int p4), .val (.int p5), .val (.long x1), .second, .val (.long x2), .second, .val (.long x3), .second, .val (.long x4), .second, .val (.long x5), .second, .val (.long x6), .second, .val (.ref ob7), .val (.ref bq21), .val (.ref ob22), .val (.int (2 : Int32)), .val (.long x6), .second] [])
        refine own_go (fun _ => XS.aload X29.here hx rfl (hb hby at_311) rfl rfl) ?_
        show GG _ _ _ _ _ _ _ T29 (mkF m 313 #[.val (.long q0), .second, .val (.int p1), .val (.int p2), .val (.int p3), .val (.int p4), .val (.int p5), .val (.long x1), .second, .val (.long x2), .second, .val (.long x3), .second, .val (.long x4), .second, .val (.long x5), .second, .val (.long x6), .second, .val (.ref ob7), .val (.ref bq21), .val (.ref ob22), .val (.int (2 : Int32)), .val (.long x6), .second] [(.ref bq21)])
        refine own_go (fun _ => XS.aload X29.here hx rfl (hb hby at_313) rfl rfl) ?_
        show GG _ _ _ _ _ _ _ T29 (mkF m 315 #[.val (.long q0), .second, .val (.int p1), .val (.int p2), .val (.int p3), .val (.int p4), .val (.int p5), .val (.long x1), .second, .val (.long x2), .second, .val (.long x3), .second, .val (.long x4), .second, .val (.long x5), .second, .val (.long x6), .second, .val (.ref ob7), .val (.ref bq21), .val (.ref ob22), .val (.int (2 : Int32)), .val (.long x6), .second] [(.ref ob22), (.ref bq21)])
        refine own_go (fun _ => XS.iconst X29.here hx rfl (hb hby at_315)) ?_
        show GG _ _ _ _ _ _ _ T29 (mkF m 316 #[.val (.long q0), .second, .val (.int p1), .val (.int p2), .val (.int p3), .val (.int p4), .val (.int p5), .val (.long x1), .second, .val (.long x2), .second, .val (.long x3), .second, .val (.long x4), .second, .val (.long x5), .second, .val (.long x6), .second, .val (.ref ob7), .val (.ref bq21), .val (.ref ob22), .val (.int (2 : Int32)), .val (.long x6), .second] [(.int (5 : Int32)), (.ref ob22), (.ref bq21)])
        refine own_go (fun _ => XS.iload X29.here hx rfl (hb hby at_316) rfl) ?_
        show GG _ _ _ _ _ _ _ T29 (mkF m 318 #[.val (.long q0), .second, .val (.int p1), .val (.int p2), .val (.int p3), .val (.int p4), .val (.int p5), .val (.long x1), .second, .val (.long x2), .second, .val (.long x3), .second, .val (.long x4), .second, .val (.long x5), .second, .val (.long x6), .second, .val (.ref ob7), .val (.ref bq21), .val (.ref ob22), .val (.int (2 : Int32)), .val (.long x6), .second] [(.int (2 : Int32)), (.int (5 : Int32)), (.ref ob22), (.ref bq21)])
        refine own_callS X29 hx hZ (y := (⟨"com/example/obliv/obliv/io/SegmentIndexToArrayPinLaw", "eqAt", "([J[JII)Z"⟩ : MethodName)) 0 hown (hw _ (List.mem_of_getElem? (i := 41) rfl)) (hw _ (List.mem_of_getElem? (i := 42) rfl)) (hw _ (List.mem_of_getElem? (i := 43) rfl)) (hw _ (List.mem_of_getElem? (i := 44) rfl)) (by decide) (argsL := [(.ref bq21), (.ref ob22), (.int (5 : Int32)), (.int (2 : Int32))]) (rest := []) (rm7 l Z a0 hw [] bq21 ob22 (5 : Int32) (2 : Int32) [(.long x3), (.long x6)] [(.long x3), (.long x6), (.long (0 : Int64)), (.long (0 : Int64)), (.long (0 : Int64)), (.long (0 : Int64))] h24 n0 (Nat.le_trans Z0 K0.1) Vq21 V_ob22 (Or.inl (by decide))) (by decide) (by decide) (by decide) (by decide) (g := (mkF m 318 #[.val (.long q0), .second, .val (.int p1), .val (.int p2), .val (.int p3), .val (.int p4), .val (.int p5), .val (.long x1), .second, .val (.long x2), .second, .val (.long x3), .second, .val (.long x4), .second, .val (.long x5), .second, .val (.long x6), .second, .val (.ref ob7), .val (.ref bq21), .val (.ref ob22), .val (.int (2 : Int32)), .val (.long x6), .second] [(.int (2 : Int32)), (.int (5 : Int32)), (.ref ob22), (.ref bq21)])) rfl (by rw [hml]; rfl) (lenOf pd___J_JII_Z_647 rfl) rfl (by show 2 * 0 + _ ≤ _; exact Nat.le_of_eq rfl) (hb hby at_318) hh29 ?_
        rintro v30 T30 L30 X30 ⟨rfl, N30q, hh30⟩
        have N30 := Fr.app N29 N30q
        show GG _ _ _ _ _ _ _ T30 (mkF m 321 #[.val (.long q0), .second, .val (.int p1), .val (.int p2), .val (.int p3), .val (.int p4), .val (.int p5), .val (.long x1), .second, .val (.long x2), .second, .val (.long x3), .second, .val (.long x4), .second, .val (.long x5), .second, .val (.long x6), .second, .val (.ref ob7), .val (.ref bq21), .val (.ref ob22), .val (.int (2 : Int32)), .val (.long x6), .second] [(.int (1 : Int32))])
        have hc321 : ¬ ((1 : Int32) = (0 : Int32)) := by decide
        refine own_go (fun _ => XS.ifNo X30.here hx rfl (hb hby at_321) rfl ((if0 _ _).trans (feq hc321).1)) ?_
        show GG _ _ _ _ _ _ _ T30 (mkF m 324 #[.val (.long q0), .second, .val (.int p1), .val (.int p2), .val (.int p3), .val (.int p4), .val (.int p5), .val (.long x1), .second, .val (.long x2), .second, .val (.long x3), .second, .val (.long x4), .second, .val (.long x5), .second, .val (.long x6), .second, .val (.ref ob7), .val (.ref bq21), .val (.ref ob22), .val (.int (2 : Int32)), .val (.long x6), .second] [])
        refine own_go (fun _ => XS.iconst X30.here hx rfl (hb hby at_324)) ?_
        show GG _ _ _ _ _ _ _ T30 (mkF m 325 #[.val (.long q0), .second, .val (.int p1), .val (.int p2), .val (.int p3), .val (.int p4), .val (.int p5), .val (.long x1), .second, .val (.long x2), .second, .val (.long x3), .second, .val (.long x4), .second, .val (.long x5), .second, .val (.long x6), .second, .val (.ref ob7), .val (.ref bq21), .val (.ref ob22), .val (.int (2 : Int32)), .val (.long x6), .second] [(.int (1 : Int32))])
        refine own_go (fun _ => XS.goto X30.here hx rfl (pc0 := 325) (pc' := 329) rfl (hb hby at_325) (by decide) (by decide)) ?_
        show GG _ _ _ _ _ _ _ T30 (mkF m 329 #[.val (.long q0), .second, .val (.int p1), .val (.int p2), .val (.int p3), .val (.int p4), .val (.int p5), .val (.long x1), .second, .val (.long x2), .second, .val (.long x3), .second, .val (.long x4), .second, .val (.long x5), .second, .val (.long x6), .second, .val (.ref ob7), .val (.ref bq21), .val (.ref ob22), .val (.int (2 : Int32)), .val (.long x6), .second] [(.int (1 : Int32))])
        refine own_ret X30 hx hlk (t := .boolean) (w := (.int (1 : Int32))) Bd.returns rfl (Or.inl ⟨rfl, by simp, _, rfl⟩) (hb hby at_329) (by decide) (by decide) ?_
        show Q0 Z q0 p1 p2 p3 p4 p5 h0 n0 (some (.int (1 : Int32))) T30.heap _
        rw [hh30]
        exact ⟨rfl, N30⟩
    · skip
      refine own_callV X9 hx hZ (y := (⟨"com/example/obliv/obliv/io/SegmentIndex", "add", "(JJ)V"⟩ : MethodName)) (z := (⟨"com/example/obliv/obliv/io/SegmentIndex", "add", "(JJ)V"⟩ : MethodName)) 0 hown (hw _ (List.mem_of_getElem? (i := 25) rfl)) (hw _ (List.mem_of_getElem? (i := 26) rfl)) (notFace_of_selects (args := #[]) (mvT hZ (hw _ (List.mem_of_getElem? (i := 28) rfl)))) (hw _ (List.mem_of_getElem? (i := 28) rfl)) (hw _ (List.mem_of_getElem? (i := 27) rfl)) (hw _ (List.mem_of_getElem? (i := 6) rfl)) (hw _ (List.mem_of_getElem? (i := 29) rfl)) (by decide) (a := ob7) (argsL := [(.long x2), (.long x5)]) (rest := []) (rm4_1h l Z a0 hw [] ob7 x2 x5 c1_8 c2_8 (0 : Int64) (0 : Int64) (0 : Int64) (0 : Int64) (0 : Int64) (0 : Int64) (0 : Int64) (0 : Int64) (0 : Int64) (0 : Int64) (0 : Int64) (0 : Int64) (0 : Int64) (0 : Int64) (0 : Int64) (0 : Int64) (8 : Int64) (0 : Int64) (0 : Int64) (0 : Int64) (0 : Int64) (0 : Int64) (0 : Int64) (0 : Int64) (0 : Int64) (0 : Int64) (0 : Int64) (0 : Int64) (0 : Int64) (0 : Int64) (0 : Int64) (0 : Int64) T8.heap n0 (Nat.le_trans Z0 K0.1) hp91 Eq8 Fs8 Fr8 Fp8 Vr8 Vp8 n12_8 ne1_8 ne2_8 g_ob7 g_c1_8 g_c2_8) (by decide) (by decide) (by decide) (by decide) Eq8 (g := (mkF m 91 #[.val (.long q0), .second, .val (.int p1), .val (.int p2), .val (.int p3), .val (.int p4), .val (.int p5), .val (.long x1), .second, .val (.long x2), .second, .val (.long x3), .second, .val (.long x4), .second, .val (.long x5), .second, .val (.long x6), .second, .val (.ref ob7), .unset, .unset, .unset, .unset, .unset] [(.long x5), (.long x2), (.ref ob7)])) rfl (by rw [hml]; rfl) (lenOf pd__JJ_V_315 rfl) rfl (by show 2 * 0 + _ ≤ _; exact Nat.le_of_eq rfl) (hb hby at_91) hh9 ?_
      rintro v31 T31 L31 X31 ⟨rfl, N31q, Kq31, Fs31, Fr31, Fp31, Vr31, Vp31⟩
      have N31 := Fr.app N9 N31q
      have K0 := K0.trans Kq31 (allS (Or.inr sz_ob7) (allS (Or.inr sz_c1_8) (allS (Or.inr sz_c2_8) all0)))
      have Eq8 := Eq8.keep Kq31
      show GG _ _ _ _ _ _ _ T31 (mkF m 94 #[.val (.long q0), .second, .val (.int p1), .val (.int p2), .val (.int p3), .val (.int p4), .val (.int p5), .val (.long x1), .second, .val (.long x2), .second, .val (.long x3), .second, .val (.long x4), .second, .val (.long x5), .second, .val (.long x6), .second, .val (.ref ob7), .unset, .unset, .unset, .unset, .unset] [])
      refine own_go (fun _ => XS.aload X31.here hx rfl (hb hby at_94) rfl rfl) ?_
      show GG _ _ _ _ _ _ _ T31 (mkF m 96 #[.val (.long q0), .second, .val (.int p1), .val (.int p2), .val (.int p3), .val (.int p4), .val (.int p5), .val (.long x1), .second, .val (.long x2), .second, .val (.long x3), .second, .val (.long x4), .second, .val (.long x5), .second, .val (.long x6), .second, .val (.ref ob7), .unset, .unset, .unset, .unset, .unset] [(.ref ob7)])
      refine own_go (fun _ => XS.lload X31.here hx rfl (hb hby at_96) rfl) ?_
      show GG _ _ _ _ _ _ _ T31 (mkF m 98 #[.val (.long q0), .second, .val (.int p1), .val (.int p2), .val (.int p3), .val (.int p4), .val (.int p5), .val (.long x1), .second, .val (.long x2), .second, .val (.long x3), .second, .val (.long x4), .second, .val (.long x5), .second, .val (.long x6), .second, .val (.ref ob7), .unset, .unset, .unset, .unset, .unset] [(.long x3), (.ref ob7)])
      refine own_go (fun _ => XS.lload X31.here hx rfl (hb hby at_98) rfl) ?_
      show GG _ _ _ _ _ _ _ T31 (mkF m 100 #[.val (.long q0), .second, .val (.int p1), .val (.int p2), .val (.int p3), .val (.int p4), .val (.int p5), .val (.long x1), .second, .val (.long x2), .second, .val (.long x3), .second, .val (.long x4), .second, .val (.long x5), .second, .val (.long x6), .second, .val (.ref ob7), .unset, .unset, .unset, .unset, .unset] [(.long x6), (.long x3), (.ref ob7)])
      by_cases hp100 : (x6 - x5) < (65536 : Int64)
      · skip
        refine own_callV X31 hx hZ (y := (⟨"com/example/obliv/obliv/io/SegmentIndex", "add", "(JJ)V"⟩ : MethodName)) (z := (⟨"com/example/obliv/obliv/io/SegmentIndex", "add", "(JJ)V"⟩ : MethodName)) 0 hown (hw _ (List.mem_of_getElem? (i := 25) rfl)) (hw _ (List.mem_of_getElem? (i := 26) rfl)) (notFace_of_selects (args := #[]) (mvT hZ (hw _ (List.mem_of_getElem? (i := 28) rfl)))) (hw _ (List.mem_of_getElem? (i := 28) rfl)) (hw _ (List.mem_of_getElem? (i := 27) rfl)) (hw _ (List.mem_of_getElem? (i := 6) rfl)) (hw _ (List.mem_of_getElem? (i := 29) rfl)) (by decide) (a := ob7) (argsL := [(.long x3), (.long x6)]) (rest := []) (rm4_2x l Z a0 hw [] ob7 x3 x6 c1_8 c2_8 (0 : Int64) x2 (0 : Int64) (0 : Int64) (0 : Int64) (0 : Int64) (0 : Int64) (0 : Int64) (0 : Int64) (0 : Int64) (0 : Int64) (0 : Int64) (0 : Int64) (0 : Int64) (0 : Int64) (0 : Int64) (8 : Int64) x5 (0 : Int64) (0 : Int64) (0 : Int64) (0 : Int64) (0 : Int64) (0 : Int64) (0 : Int64) (0 : Int64) (0 : Int64) (0 : Int64) (0 : Int64) (0 : Int64) (0 : Int64) (0 : Int64) T31.heap n0 (Nat.le_trans Z0 K0.1) hp100 Eq8 Fs31 Fr31 Fp31 Vr31 Vp31 n12_8 ne1_8 ne2_8 g_ob7 g_c1_8 g_c2_8) (by decide) (by decide) (by decide) (by decide) Eq8 (g := (mkF m 100 #[.val (.long q0), .second, .val (.int p1), .val (.int p2), .val (.int p3), .val (.int p4), .val (.int p5), .val (.long x1), .second, .val (.long x2), .second, .val (.long x3), .second, .val (.long x4), .second, .val (.long x5), .second, .val (.long x6), .second, .val (.ref ob7), .unset, .unset, .unset, .unset, .unset] [(.long x6), (.long x3), (.ref ob7)])) rfl (by rw [hml]; rfl) (lenOf pd__JJ_V_315 rfl) rfl (by show 2 * 0 + _ ≤ _; exact Nat.le_of_eq rfl) (hb hby at_100) rfl ?_
        rintro v32 T32 L32 X32 ⟨rfl, N32q, hh32⟩
        have N32 := Fr.app N31 N32q
        show GG _ _ _ _ _ _ _ T32 (mkF m 103 #[.val (.long q0), .second, .val (.int p1), .val (.int p2), .val (.int p3), .val (.int p4), .val (.int p5), .val (.long x1), .second, .val (.long x2), .second, .val (.long x3), .second, .val (.long x4), .second, .val (.long x5), .second, .val (.long x6), .second, .val (.ref ob7), .unset, .unset, .unset, .unset, .unset] [])
        refine own_go (fun _ => XS.aload X32.here hx rfl (hb hby at_103) rfl rfl) ?_
        show GG _ _ _ _ _ _ _ T32 (mkF m 105 #[.val (.long q0), .second, .val (.int p1), .val (.int p2), .val (.int p3), .val (.int p4), .val (.int p5), .val (.long x1), .second, .val (.long x2), .second, .val (.long x3), .second, .val (.long x4), .second, .val (.long x5), .second, .val (.long x6), .second, .val (.ref ob7), .unset, .unset, .unset, .unset, .unset] [(.ref ob7)])
        refine own_callV X32 hx hZ (y := (⟨"com/example/obliv/obliv/io/SegmentIndex", "toArray", "()[J"⟩ : MethodName)) (z := (⟨"com/example/obliv/obliv/io/SegmentIndex", "toArray", "()[J"⟩ : MethodName)) 0 hown (hw _ (List.mem_of_getElem? (i := 35) rfl)) (hw _ (List.mem_of_getElem? (i := 36) rfl)) (notFace_of_selects (args := #[]) (mvT hZ (hw _ (List.mem_of_getElem? (i := 38) rfl)))) (hw _ (List.mem_of_getElem? (i := 38) rfl)) (hw _ (List.mem_of_getElem? (i := 37) rfl)) (hw _ (List.mem_of_getElem? (i := 6) rfl)) (hw _ (List.mem_of_getElem? (i := 39) rfl)) (by decide) (a := ob7) (argsL := []) (rest := []) (rm6_2 l Z a0 hw [] ob7 c1_8 c2_8 (0 : Int64) x2 (0 : Int64) (0 : Int64) (0 : Int64) (0 : Int64) (0 : Int64) (0 : Int64) (0 : Int64) (0 : Int64) (0 : Int64) (0 : Int64) (0 : Int64) (0 : Int64) (0 : Int64) (0 : Int64) (8 : Int64) x5 (0 : Int64) (0 : Int64) (0 : Int64) (0 : Int64) (0 : Int64) (0 : Int64) (0 : Int64) (0 : Int64) (0 : Int64) (0 : Int64) (0 : Int64) (0 : Int64) (0 : Int64) (0 : Int64) T31.heap n0 (Nat.le_trans Z0 K0.1) Fs31 Fr31 Fp31 Vr31 Vp31) (by decide) (by decide) (by decide) (by decide) Eq8 (g := (mkF m 105 #[.val (.long q0), .second, .val (.int p1), .val (.int p2), .val (.int p3), .val (.int p4), .val (.int p5), .val (.long x1), .second, .val (.long x2), .second, .val (.long x3), .second, .val (.long x4), .second, .val (.long x5), .second, .val (.long x6), .second, .val (.ref ob7), .unset, .unset, .unset, .unset, .unset] [(.ref ob7)])) rfl (by rw [hml]; rfl) (lenOf pd____J_246 rfl) rfl (by show 2 * 0 + _ ≤ _; exact Nat.le_of_eq rfl) (hb hby at_105) hh32 ?_
        rintro v33 T33 L33 X33 ⟨bq33, rfl, N33q, szq33, Kq33, Vq33⟩
        have N33 := Fr.app N32 N33q
        have K0 := K0.trans Kq33 all0
        have Eq8 := Eq8.keep Kq33
        have Fs31 := Fs31.keep Kq33 nin0
        have Fr31 := Fr31.keep Kq33 nin0
        have Fp31 := Fp31.keep Kq33 nin0
        have Vr31 := Vr31.keep Kq33 nin0
        have Vp31 := Vp31.keep Kq33 nin0
        show GG _ _ _ _ _ _ _ T33 (mkF m 108 #[.val (.long q0), .second, .val (.int p1), .val (.int p2), .val (.int p3), .val (.int p4), .val (.int p5), .val (.long x1), .second, .val (.long x2), .second, .val (.long x3), .second, .val (.long x4), .second, .val (.long x5), .second, .val (.long x6), .second, .val (.ref ob7), .unset, .unset, .unset, .unset, .unset] [(.ref bq33)])
        refine own_go (fun _ => XS.astore X33.here hx rfl (hb hby at_108) rfl rfl (l' := #[.val (.long q0), .second, .val (.int p1), .val (.int p2), .val (.int p3), .val (.int p4), .val (.int p5), .val (.long x1), .second, .val (.long x2), .second, .val (.long x3), .second, .val (.long x4), .second, .val (.long x5), .second, .val (.long x6), .second, .val (.ref ob7), .val (.ref bq33), .unset, .unset, .unset, .unset]) rfl) ?_
        show GG _ _ _ _ _ _ _ T33 (mkF m 110 #[.val (.long q0), .second, .val (.int p1), .val (.int p2), .val (.int p3), .val (.int p4), .val (.int p5), .val (.long x1), .second, .val (.long x2), .second, .val (.long x3), .second, .val (.long x4), .second, .val (.long x5), .second, .val (.long x6), .second, .val (.ref ob7), .val (.ref bq33), .unset, .unset, .unset, .unset] [])
        refine own_go (fun _ => XS.bipush X33.here hx rfl (hb hby at_110)) ?_
        show GG _ _ _ _ _ _ _ T33 (mkF m 112 #[.val (.long q0), .second, .val (.int p1), .val (.int p2), .val (.int p3), .val (.int p4), .val (.int p5), .val (.long x1), .second, .val (.long x2), .second, .val (.long x3), .second, .val (.long x4), .second, .val (.long x5), .second, .val (.long x6), .second, .val (.ref ob7), .val (.ref bq33), .unset, .unset, .unset, .unset] [(.int (6 : Int32))])
        obtain ⟨T34, h34, ob34, g34, X34, e34, E34, V_ob34, E_ob34, st34⟩ := own_newarr X33 hx hZ (hw _ (List.mem_of_getElem? (i := 13) rfl)) rfl (g := (mkF m 112 #[.val (.long q0), .second, .val (.int p1), .val (.int p2), .val (.int p3), .val (.int p4), .val (.int p5), .val (.long x1), .second, .val (.long x2), .second, .val (.long x3), .second, .val (.long x4), .second, .val (.long x5), .second, .val (.long x6), .second, .val (.ref ob7), .val (.ref bq33), .unset, .unset, .unset, .unset] [(.int (6 : Int32))])) rfl (hb hby at_112) rfl (by decide) (cap := 6) (by decide) (by decide) (by decide) (by decide) (ad := "[J") (by decide)
        have ne_ob7_ob34 : ob7 ≠ ob34 := Nat.ne_of_lt (Nat.lt_of_lt_of_le Eq8.lt (Nat.le_of_eq g34.symm))
        have ne_c1_8_ob34 : c1_8 ≠ ob34 := Nat.ne_of_lt (Nat.lt_of_lt_of_le Vr31.lt (Nat.le_of_eq g34.symm))
        have ne_c2_8_ob34 : c2_8 ≠ ob34 := Nat.ne_of_lt (Nat.lt_of_lt_of_le Vp31.lt (Nat.le_of_eq g34.symm))
        have ne_bq33_ob34 : bq33 ≠ ob34 := Nat.ne_of_lt (Nat.lt_of_lt_of_le Vq33.lt (Nat.le_of_eq g34.symm))
        have sz_ob34 : h0.size ≤ ob34 := Nat.le_trans K0.1 (Nat.le_of_eq g34.symm)
        have g_ob34 : n0 ≤ ob34 := Nat.le_trans Z0 sz_ob34
        have K0 := K0.ext E34
        have Eq8 := Eq8.ext E34
        have Fs31 := Fs31.ext E34
        have Fr31 := Fr31.ext E34
        have Fp31 := Fp31.ext E34
        have Vr31 := Vr31.ext E34
        have Vp31 := Vp31.ext E34
        have Vq33 := Vq33.ext E34
        have V_ob34 : Arx Z h34 ob34 .long [(.long (0 : Int64)), (.long (0 : Int64)), (.long (0 : Int64)), (.long (0 : Int64)), (.long (0 : Int64)), (.long (0 : Int64))] := V_ob34
        refine own_go (fun _ => st34 _) ?_
        show GG _ _ _ _ _ _ _ T34 (mkF m 114 #[.val (.long q0), .second, .val (.int p1), .val (.int p2), .val (.int p3), .val (.int p4), .val (.int p5), .val (.long x1), .second, .val (.long x2), .second, .val (.long x3), .second, .val (.long x4), .second, .val (.long x5), .second, .val (.long x6), .second, .val (.ref ob7), .val (.ref bq33), .unset, .unset, .unset, .unset] [(.ref ob34)])
        refine own_go (fun _ => XS.astore X34.here hx rfl (hb hby at_114) rfl rfl (l' := #[.val (.long q0), .second, .val (.int p1), .val (.int p2), .val (.int p3), .val (.int p4), .val (.int p5), .val (.long x1), .second, .val (.long x2), .second, .val (.long x3), .second, .val (.long x4), .second, .val (.long x5), .second, .val (.long x6), .second, .val (.ref ob7), .val (.ref bq33), .val (.ref ob34), .unset, .unset, .unset]) rfl) ?_
        show GG _ _ _ _ _ _ _ T34 (mkF m 116 #[.val (.long q0), .second, .val (.int p1), .val (.int p2), .val (.int p3), .val (.int p4), .val (.int p5), .val (.long x1), .second, .val (.long x2), .second, .val (.long x3), .second, .val (.long x4), .second, .val (.long x5), .second, .val (.long x6), .second, .val (.ref ob7), .val (.ref bq33), .val (.ref ob34), .unset, .unset, .unset] [])
        refine own_go (fun _ => XS.iconst X34.here hx rfl (hb hby at_116)) ?_
        show GG _ _ _ _ _ _ _ T34 (mkF m 117 #[.val (.long q0), .second, .val (.int p1), .val (.int p2), .val (.int p3), .val (.int p4), .val (.int p5), .val (.long x1), .second, .val (.long x2), .second, .val (.long x3), .second, .val (.long x4), .second, .val (.long x5), .second, .val (.long x6), .second, .val (.ref ob7), .val (.ref bq33), .val (.ref ob34), .unset, .unset, .unset] [(.int (0 : Int32))])
        refine own_go (fun _ => XS.istore X34.here hx rfl (hb hby at_117) rfl (l' := #[.val (.long q0), .second, .val (.int p1), .val (.int p2), .val (.int p3), .val (.int p4), .val (.int p5), .val (.long x1), .second, .val (.long x2), .second, .val (.long x3), .second, .val (.long x4), .second, .val (.long x5), .second, .val (.long x6), .second, .val (.ref ob7), .val (.ref bq33), .val (.ref ob34), .val (.int (0 : Int32)), .unset, .unset]) rfl) ?_
        show GG _ _ _ _ _ _ _ T34 (mkF m 119 #[.val (.long q0), .second, .val (.int p1), .val (.int p2), .val (.int p3), .val (.int p4), .val (.int p5), .val (.long x1), .second, .val (.long x2), .second, .val (.long x3), .second, .val (.long x4), .second, .val (.long x5), .second, .val (.long x6), .second, .val (.ref ob7), .val (.ref bq33), .val (.ref ob34), .val (.int (0 : Int32)), .unset, .unset] [])
        refine own_go (fun _ => X34.ldc2Long hx hown (mvT hZ (hw _ (List.mem_of_getElem? (i := 2) rfl))) (g := (mkF m 119 #[.val (.long q0), .second, .val (.int p1), .val (.int p2), .val (.int p3), .val (.int p4), .val (.int p5), .val (.long x1), .second, .val (.long x2), .second, .val (.long x3), .second, .val (.long x4), .second, .val (.long x5), .second, .val (.long x6), .second, .val (.ref ob7), .val (.ref bq33), .val (.ref ob34), .val (.int (0 : Int32)), .unset, .unset] [])) rfl (hb hby at_119) _) ?_
        show GG _ _ _ _ _ _ _ T34 (mkF m 122 #[.val (.long q0), .second, .val (.int p1), .val (.int p2), .val (.int p3), .val (.int p4), .val (.int p5), .val (.long x1), .second, .val (.long x2), .second, .val (.long x3), .second, .val (.long x4), .second, .val (.long x5), .second, .val (.long x6), .second, .val (.ref ob7), .val (.ref bq33), .val (.ref ob34), .val (.int (0 : Int32)), .unset, .unset] [(.long (8 : Int64))])
        refine own_go (fun _ => XS.lstore X34.here hx rfl (hb hby at_122) rfl (l' := #[.val (.long q0), .second, .val (.int p1), .val (.int p2), .val (.int p3), .val (.int p4), .val (.int p5), .val (.long x1), .second, .val (.long x2), .second, .val (.long x3), .second, .val (.long x4), .second, .val (.long x5), .second, .val (.long x6), .second, .val (.ref ob7), .val (.ref bq33), .val (.ref ob34), .val (.int (0 : Int32)), .val (.long (8 : Int64)), .second]) rfl) ?_
        show GG _ _ _ _ _ _ _ T34 (mkF m 124 #[.val (.long q0), .second, .val (.int p1), .val (.int p2), .val (.int p3), .val (.int p4), .val (.int p5), .val (.long x1), .second, .val (.long x2), .second, .val (.long x3), .second, .val (.long x4), .second, .val (.long x5), .second, .val (.long x6), .second, .val (.ref ob7), .val (.ref bq33), .val (.ref ob34), .val (.int (0 : Int32)), .val (.long (8 : Int64)), .second] [])
        refine own_go (fun _ => XS.lload X34.here hx rfl (hb hby at_124) rfl) ?_
        show GG _ _ _ _ _ _ _ T34 (mkF m 126 #[.val (.long q0), .second, .val (.int p1), .val (.int p2), .val (.int p3), .val (.int p4), .val (.int p5), .val (.long x1), .second, .val (.long x2), .second, .val (.long x3), .second, .val (.long x4), .second, .val (.long x5), .second, .val (.long x6), .second, .val (.ref ob7), .val (.ref bq33), .val (.ref ob34), .val (.int (0 : Int32)), .val (.long (8 : Int64)), .second] [(.long x4)])
        refine own_go (fun _ => XS.lload X34.here hx rfl (hb hby at_126) rfl) ?_
        show GG _ _ _ _ _ _ _ T34 (mkF m 128 #[.val (.long q0), .second, .val (.int p1), .val (.int p2), .val (.int p3), .val (.int p4), .val (.int p5), .val (.long x1), .second, .val (.long x2), .second, .val (.long x3), .second, .val (.long x4), .second, .val (.long x5), .second, .val (.long x6), .second, .val (.ref ob7), .val (.ref bq33), .val (.ref ob34), .val (.int (0 : Int32)), .val (.long (8 : Int64)), .second] [(.long (8 : Int64)), (.long x4)])
        refine own_go (fun _ => XS.lsub X34.here hx rfl (hb hby at_128) rfl) ?_
        show GG _ _ _ _ _ _ _ T34 (mkF m 129 #[.val (.long q0), .second, .val (.int p1), .val (.int p2), .val (.int p3), .val (.int p4), .val (.int p5), .val (.long x1), .second, .val (.long x2), .second, .val (.long x3), .second, .val (.long x4), .second, .val (.long x5), .second, .val (.long x6), .second, .val (.ref ob7), .val (.ref bq33), .val (.ref ob34), .val (.int (0 : Int32)), .val (.long (8 : Int64)), .second] [(.long (x4 - (8 : Int64)))])
        refine own_go (fun _ => X34.ldc2Long hx hown (mvT hZ (hw _ (List.mem_of_getElem? (i := 40) rfl))) (g := (mkF m 129 #[.val (.long q0), .second, .val (.int p1), .val (.int p2), .val (.int p3), .val (.int p4), .val (.int p5), .val (.long x1), .second, .val (.long x2), .second, .val (.long x3), .second, .val (.long x4), .second, .val (.long x5), .second, .val (.long x6), .second, .val (.ref ob7), .val (.ref bq33), .val (.ref ob34), .val (.int (0 : Int32)), .val (.long (8 : Int64)), .second] [(.long (x4 - (8 : Int64)))])) rfl (hb hby at_129) _) ?_
        show GG _ _ _ _ _ _ _ T34 (mkF m 132 #[.val (.long q0), .second, .val (.int p1), .val (.int p2), .val (.int p3), .val (.int p4), .val (.int p5), .val (.long x1), .second, .val (.long x2), .second, .val (.long x3), .second, .val (.long x4), .second, .val (.long x5), .second, .val (.long x6), .second, .val (.ref ob7), .val (.ref bq33), .val (.ref ob34), .val (.int (0 : Int32)), .val (.long (8 : Int64)), .second] [(.long (65536 : Int64)), (.long (x4 - (8 : Int64)))])
        refine own_go (fun _ => XS.lcmp X34.here hx rfl (hb hby at_132) rfl) ?_
        show GG _ _ _ _ _ _ _ T34 (mkF m 133 #[.val (.long q0), .second, .val (.int p1), .val (.int p2), .val (.int p3), .val (.int p4), .val (.int p5), .val (.long x1), .second, .val (.long x2), .second, .val (.long x3), .second, .val (.long x4), .second, .val (.long x5), .second, .val (.long x6), .second, .val (.ref ob7), .val (.ref bq33), .val (.ref ob34), .val (.int (0 : Int32)), .val (.long (8 : Int64)), .second] [(.int (lcmpW (x4 - (8 : Int64)) (65536 : Int64)))])
        have hc133 : (x4 - (8 : Int64)) < (65536 : Int64) := hp82
        refine own_go (fun _ => XS.ifYes X34.here hx rfl (pc0 := 133) (pc' := 162) rfl (hb hby at_133) rfl ((if0 _ _).trans (tlt ((lw_lt _ _).mpr hc133)).1) (by decide) (by decide)) ?_
        show GG _ _ _ _ _ _ _ T34 (mkF m 162 #[.val (.long q0), .second, .val (.int p1), .val (.int p2), .val (.int p3), .val (.int p4), .val (.int p5), .val (.long x1), .second, .val (.long x2), .second, .val (.long x3), .second, .val (.long x4), .second, .val (.long x5), .second, .val (.long x6), .second, .val (.ref ob7), .val (.ref bq33), .val (.ref ob34), .val (.int (0 : Int32)), .val (.long (8 : Int64)), .second] [])
        refine own_go (fun _ => XS.lload X34.here hx rfl (hb hby at_162) rfl) ?_
        show GG _ _ _ _ _ _ _ T34 (mkF m 164 #[.val (.long q0), .second, .val (.int p1), .val (.int p2), .val (.int p3), .val (.int p4), .val (.int p5), .val (.long x1), .second, .val (.long x2), .second, .val (.long x3), .second, .val (.long x4), .second, .val (.long x5), .second, .val (.long x6), .second, .val (.ref ob7), .val (.ref bq33), .val (.ref ob34), .val (.int (0 : Int32)), .val (.long (8 : Int64)), .second] [(.long x5)])
        refine own_go (fun _ => XS.lload X34.here hx rfl (hb hby at_164) rfl) ?_
        show GG _ _ _ _ _ _ _ T34 (mkF m 166 #[.val (.long q0), .second, .val (.int p1), .val (.int p2), .val (.int p3), .val (.int p4), .val (.int p5), .val (.long x1), .second, .val (.long x2), .second, .val (.long x3), .second, .val (.long x4), .second, .val (.long x5), .second, .val (.long x6), .second, .val (.ref ob7), .val (.ref bq33), .val (.ref ob34), .val (.int (0 : Int32)), .val (.long (8 : Int64)), .second] [(.long (8 : Int64)), (.long x5)])
        refine own_go (fun _ => XS.lsub X34.here hx rfl (hb hby at_166) rfl) ?_
        show GG _ _ _ _ _ _ _ T34 (mkF m 167 #[.val (.long q0), .second, .val (.int p1), .val (.int p2), .val (.int p3), .val (.int p4), .val (.int p5), .val (.long x1), .second, .val (.long x2), .second, .val (.long x3), .second, .val (.long x4), .second, .val (.long x5), .second, .val (.long x6), .second, .val (.ref ob7), .val (.ref bq33), .val (.ref ob34), .val (.int (0 : Int32)), .val (.long (8 : Int64)), .second] [(.long (x5 - (8 : Int64)))])
        refine own_go (fun _ => X34.ldc2Long hx hown (mvT hZ (hw _ (List.mem_of_getElem? (i := 40) rfl))) (g := (mkF m 167 #[.val (.long q0), .second, .val (.int p1), .val (.int p2), .val (.int p3), .val (.int p4), .val (.int p5), .val (.long x1), .second, .val (.long x2), .second, .val (.long x3), .second, .val (.long x4), .second, .val (.long x5), .second, .val (.long x6), .second, .val (.ref ob7), .val (.ref bq33), .val (.ref ob34), .val (.int (0 : Int32)), .val (.long (8 : Int64)), .second] [(.long (x5 - (8 : Int64)))])) rfl (hb hby at_167) _) ?_
        show GG _ _ _ _ _ _ _ T34 (mkF m 170 #[.val (.long q0), .second, .val (.int p1), .val (.int p2), .val (.int p3), .val (.int p4), .val (.int p5), .val (.long x1), .second, .val (.long x2), .second, .val (.long x3), .second, .val (.long x4), .second, .val (.long x5), .second, .val (.long x6), .second, .val (.ref ob7), .val (.ref bq33), .val (.ref ob34), .val (.int (0 : Int32)), .val (.long (8 : Int64)), .second] [(.long (65536 : Int64)), (.long (x5 - (8 : Int64)))])
        refine own_go (fun _ => XS.lcmp X34.here hx rfl (hb hby at_170) rfl) ?_
        show GG _ _ _ _ _ _ _ T34 (mkF m 171 #[.val (.long q0), .second, .val (.int p1), .val (.int p2), .val (.int p3), .val (.int p4), .val (.int p5), .val (.long x1), .second, .val (.long x2), .second, .val (.long x3), .second, .val (.long x4), .second, .val (.long x5), .second, .val (.long x6), .second, .val (.ref ob7), .val (.ref bq33), .val (.ref ob34), .val (.int (0 : Int32)), .val (.long (8 : Int64)), .second] [(.int (lcmpW (x5 - (8 : Int64)) (65536 : Int64)))])
        have hc171 : ¬ ((x5 - (8 : Int64)) < (65536 : Int64)) := hp91
        refine own_go (fun _ => XS.ifNo X34.here hx rfl (hb hby at_171) rfl ((if0 _ _).trans (flt (fun q => hc171 ((lw_lt _ _).mp q))).1)) ?_
        show GG _ _ _ _ _ _ _ T34 (mkF m 174 #[.val (.long q0), .second, .val (.int p1), .val (.int p2), .val (.int p3), .val (.int p4), .val (.int p5), .val (.long x1), .second, .val (.long x2), .second, .val (.long x3), .second, .val (.long x4), .second, .val (.long x5), .second, .val (.long x6), .second, .val (.ref ob7), .val (.ref bq33), .val (.ref ob34), .val (.int (0 : Int32)), .val (.long (8 : Int64)), .second] [])
        refine own_go (fun _ => XS.aload X34.here hx rfl (hb hby at_174) rfl rfl) ?_
        show GG _ _ _ _ _ _ _ T34 (mkF m 176 #[.val (.long q0), .second, .val (.int p1), .val (.int p2), .val (.int p3), .val (.int p4), .val (.int p5), .val (.long x1), .second, .val (.long x2), .second, .val (.long x3), .second, .val (.long x4), .second, .val (.long x5), .second, .val (.long x6), .second, .val (.ref ob7), .val (.ref bq33), .val (.ref ob34), .val (.int (0 : Int32)), .val (.long (8 : Int64)), .second] [(.ref ob34)])
        refine own_go (fun _ => XS.iload X34.here hx rfl (hb hby at_176) rfl) ?_
        show GG _ _ _ _ _ _ _ T34 (mkF m 178 #[.val (.long q0), .second, .val (.int p1), .val (.int p2), .val (.int p3), .val (.int p4), .val (.int p5), .val (.long x1), .second, .val (.long x2), .second, .val (.long x3), .second, .val (.long x4), .second, .val (.long x5), .second, .val (.long x6), .second, .val (.ref ob7), .val (.ref bq33), .val (.ref ob34), .val (.int (0 : Int32)), .val (.long (8 : Int64)), .second] [(.int (0 : Int32)), (.ref ob34)])
        refine own_go (fun _ => XS.lload X34.here hx rfl (hb hby at_178) rfl) ?_
        show GG _ _ _ _ _ _ _ T34 (mkF m 180 #[.val (.long q0), .second, .val (.int p1), .val (.int p2), .val (.int p3), .val (.int p4), .val (.int p5), .val (.long x1), .second, .val (.long x2), .second, .val (.long x3), .second, .val (.long x4), .second, .val (.long x5), .second, .val (.long x6), .second, .val (.ref ob7), .val (.ref bq33), .val (.ref ob34), .val (.int (0 : Int32)), .val (.long (8 : Int64)), .second] [(.long x2), (.int (0 : Int32)), (.ref ob34)])
        obtain ⟨T35, h35, X35, e35, W35, V35, st35⟩ := own_lastore X34 hx hZ e34 V_ob34 (by decide) (Nat.le_of_ble_eq_true rfl) (g := (mkF m 180 #[.val (.long q0), .second, .val (.int p1), .val (.int p2), .val (.int p3), .val (.int p4), .val (.int p5), .val (.long x1), .second, .val (.long x2), .second, .val (.long x3), .second, .val (.long x4), .second, .val (.long x5), .second, .val (.long x6), .second, .val (.ref ob7), .val (.ref bq33), .val (.ref ob34), .val (.int (0 : Int32)), .val (.long (8 : Int64)), .second] [(.long x2), (.int (0 : Int32)), (.ref ob34)])) rfl rfl (hb hby at_180)
        have K0 := K0.wr W35 (Or.inr sz_ob34)
        have Eq8 := Eq8.wr W35
        have Fs31 := Fs31.other W35 (Or.inl ne_ob7_ob34)
        have Fr31 := Fr31.other W35 (Or.inl ne_ob7_ob34)
        have Fp31 := Fp31.other W35 (Or.inl ne_ob7_ob34)
        have Vr31 := Vr31.other W35 ne_c1_8_ob34
        have Vp31 := Vp31.other W35 ne_c2_8_ob34
        have Vq33 := Vq33.other W35 ne_bq33_ob34
        have E_ob34 := E_ob34.wr W35
        have V_ob34 : Arx Z h35 ob34 .long [(.long x2), (.long (0 : Int64)), (.long (0 : Int64)), (.long (0 : Int64)), (.long (0 : Int64)), (.long (0 : Int64))] := V35
        have N35 := Fr.snoc X35 N33 g_ob34
        refine own_go (fun _ => st35 _) ?_
        show GG _ _ _ _ _ _ _ T35 (mkF m 181 #[.val (.long q0), .second, .val (.int p1), .val (.int p2), .val (.int p3), .val (.int p4), .val (.int p5), .val (.long x1), .second, .val (.long x2), .second, .val (.long x3), .second, .val (.long x4), .second, .val (.long x5), .second, .val (.long x6), .second, .val (.ref ob7), .val (.ref bq33), .val (.ref ob34), .val (.int (0 : Int32)), .val (.long (8 : Int64)), .second] [])
        refine own_go (fun _ => XS.aload X35.here hx rfl (hb hby at_181) rfl rfl) ?_
        show GG _ _ _ _ _ _ _ T35 (mkF m 183 #[.val (.long q0), .second, .val (.int p1), .val (.int p2), .val (.int p3), .val (.int p4), .val (.int p5), .val (.long x1), .second, .val (.long x2), .second, .val (.long x3), .second, .val (.long x4), .second, .val (.long x5), .second, .val (.long x6), .second, .val (.ref ob7), .val (.ref bq33), .val (.ref ob34), .val (.int (0 : Int32)), .val (.long (8 : Int64)), .second] [(.ref ob34)])
        refine own_go (fun _ => XS.iload X35.here hx rfl (hb hby at_183) rfl) ?_
        show GG _ _ _ _ _ _ _ T35 (mkF m 185 #[.val (.long q0), .second, .val (.int p1), .val (.int p2), .val (.int p3), .val (.int p4), .val (.int p5), .val (.long x1), .second, .val (.long x2), .second, .val (.long x3), .second, .val (.long x4), .second, .val (.long x5), .second, .val (.long x6), .second, .val (.ref ob7), .val (.ref bq33), .val (.ref ob34), .val (.int (0 : Int32)), .val (.long (8 : Int64)), .second] [(.int (0 : Int32)), (.ref ob34)])
        refine own_go (fun _ => XS.iconst X35.here hx rfl (hb hby at_185)) ?_
        show GG _ _ _ _ _ _ _ T35 (mkF m 186 #[.val (.long q0), .second, .val (.int p1), .val (.int p2), .val (.int p3), .val (.int p4), .val (.int p5), .val (.long x1), .second, .val (.long x2), .second, .val (.long x3), .second, .val (.long x4), .second, .val (.long x5), .second, .val (.long x6), .second, .val (.ref ob7), .val (.ref bq33), .val (.ref ob34), .val (.int (0 : Int32)), .val (.long (8 : Int64)), .second] [(.int (1 : Int32)), (.int (0 : Int32)), (.ref ob34)])
        refine own_go (fun _ => XS.iadd X35.here hx rfl (hb hby at_186) rfl) ?_
        show GG _ _ _ _ _ _ _ T35 (mkF m 187 #[.val (.long q0), .second, .val (.int p1), .val (.int p2), .val (.int p3), .val (.int p4), .val (.int p5), .val (.long x1), .second, .val (.long x2), .second, .val (.long x3), .second, .val (.long x4), .second, .val (.long x5), .second, .val (.long x6), .second, .val (.ref ob7), .val (.ref bq33), .val (.ref ob34), .val (.int (0 : Int32)), .val (.long (8 : Int64)), .second] [(.int (1 : Int32)), (.ref ob34)])
        refine own_go (fun _ => XS.lload X35.here hx rfl (hb hby at_187) rfl) ?_
        show GG _ _ _ _ _ _ _ T35 (mkF m 189 #[.val (.long q0), .second, .val (.int p1), .val (.int p2), .val (.int p3), .val (.int p4), .val (.int p5), .val (.long x1), .second, .val (.long x2), .second, .val (.long x3), .second, .val (.long x4), .second, .val (.long x5), .second, .val (.long x6), .second, .val (.ref ob7), .val (.ref bq33), .val (.ref ob34), .val (.int (0 : Int32)), .val (.long (8 : Int64)), .second] [(.long x5), (.int (1 : Int32)), (.ref ob34)])
        obtain ⟨T36, h36, X36, e36, W36, V36, st36⟩ := own_lastore X35 hx hZ e35 V_ob34 (by decide) (Nat.le_of_ble_eq_true rfl) (g := (mkF m 189 #[.val (.long q0), .second, .val (.int p1), .val (.int p2), .val (.int p3), .val (.int p4), .val (.int p5), .val (.long x1), .second, .val (.long x2), .second, .val (.long x3), .second, .val (.long x4), .second, .val (.long x5), .second, .val (.long x6), .second, .val (.ref ob7), .val (.ref bq33), .val (.ref ob34), .val (.int (0 : Int32)), .val (.long (8 : Int64)), .second] [(.long x5), (.int (1 : Int32)), (.ref ob34)])) rfl rfl (hb hby at_189)
        have K0 := K0.wr W36 (Or.inr sz_ob34)
        have Eq8 := Eq8.wr W36
        have Fs31 := Fs31.other W36 (Or.inl ne_ob7_ob34)
        have Fr31 := Fr31.other W36 (Or.inl ne_ob7_ob34)
        have Fp31 := Fp31.other W36 (Or.inl ne_ob7_ob34)
        have Vr31 := Vr31.other W36 ne_c1_8_ob34
        have Vp31 := Vp31.other W36 ne_c2_8_ob34
        have Vq33 := Vq33.other W36 ne_bq33_ob34
        have E_ob34 := E_ob34.wr W36
        have V_ob34 : Arx Z h36 ob34 .long [(.long x2), (.long x5), (.long (0 : Int64)), (.long (0 : Int64)), (.long (0 : Int64)), (.long (0 : Int64))] := V36
        have N36 := Fr.snoc X36 N35 g_ob34
        refine own_go (fun _ => st36 _) ?_
        show GG _ _ _ _ _ _ _ T36 (mkF m 190 #[.val (.long q0), .second, .val (.int p1), .val (.int p2), .val (.int p3), .val (.int p4), .val (.int p5), .val (.long x1), .second, .val (.long x2), .second, .val (.long x3), .second, .val (.long x4), .second, .val (.long x5), .second, .val (.long x6), .second, .val (.ref ob7), .val (.ref bq33), .val (.ref ob34), .val (.int (0 : Int32)), .val (.long (8 : Int64)), .second] [])
        refine own_go (fun _ => XS.iload X36.here hx rfl (hb hby at_190) rfl) ?_
        show GG _ _ _ _ _ _ _ T36 (mkF m 192 #[.val (.long q0), .second, .val (.int p1), .val (.int p2), .val (.int p3), .val (.int p4), .val (.int p5), .val (.long x1), .second, .val (.long x2), .second, .val (.long x3), .second, .val (.long x4), .second, .val (.long x5), .second, .val (.long x6), .second, .val (.ref ob7), .val (.ref bq33), .val (.ref ob34), .val (.int (0 : Int32)), .val (.long (8 : Int64)), .second] [(.int (0 : Int32))])
        refine own_go (fun _ => XS.iconst X36.here hx rfl (hb hby at_192)) ?_
        show GG _ _ _ _ _ _ _ T36 (mkF m 193 #[.val (.long q0), .second, .val (.int p1), .val (.int p2), .val (.int p3), .val (.int p4), .val (.int p5), .val (.long x1), .second, .val (.long x2), .second, .val (.long x3), .second, .val (.long x4), .second, .val (.long x5), .second, .val (.long x6), .second, .val (.ref ob7), .val (.ref bq33), .val (.ref ob34), .val (.int (0 : Int32)), .val (.long (8 : Int64)), .second] [(.int (2 : Int32)), (.int (0 : Int32))])
        refine own_go (fun _ => XS.iadd X36.here hx rfl (hb hby at_193) rfl) ?_
        show GG _ _ _ _ _ _ _ T36 (mkF m 194 #[.val (.long q0), .second, .val (.int p1), .val (.int p2), .val (.int p3), .val (.int p4), .val (.int p5), .val (.long x1), .second, .val (.long x2), .second, .val (.long x3), .second, .val (.long x4), .second, .val (.long x5), .second, .val (.long x6), .second, .val (.ref ob7), .val (.ref bq33), .val (.ref ob34), .val (.int (0 : Int32)), .val (.long (8 : Int64)), .second] [(.int (2 : Int32))])
        refine own_go (fun _ => XS.istore X36.here hx rfl (hb hby at_194) rfl (l' := #[.val (.long q0), .second, .val (.int p1), .val (.int p2), .val (.int p3), .val (.int p4), .val (.int p5), .val (.long x1), .second, .val (.long x2), .second, .val (.long x3), .second, .val (.long x4), .second, .val (.long x5), .second, .val (.long x6), .second, .val (.ref ob7), .val (.ref bq33), .val (.ref ob34), .val (.int (2 : Int32)), .val (.long (8 : Int64)), .second]) rfl) ?_
        show GG _ _ _ _ _ _ _ T36 (mkF m 196 #[.val (.long q0), .second, .val (.int p1), .val (.int p2), .val (.int p3), .val (.int p4), .val (.int p5), .val (.long x1), .second, .val (.long x2), .second, .val (.long x3), .second, .val (.long x4), .second, .val (.long x5), .second, .val (.long x6), .second, .val (.ref ob7), .val (.ref bq33), .val (.ref ob34), .val (.int (2 : Int32)), .val (.long (8 : Int64)), .second] [])
        refine own_go (fun _ => XS.lload X36.here hx rfl (hb hby at_196) rfl) ?_
        show GG _ _ _ _ _ _ _ T36 (mkF m 198 #[.val (.long q0), .second, .val (.int p1), .val (.int p2), .val (.int p3), .val (.int p4), .val (.int p5), .val (.long x1), .second, .val (.long x2), .second, .val (.long x3), .second, .val (.long x4), .second, .val (.long x5), .second, .val (.long x6), .second, .val (.ref ob7), .val (.ref bq33), .val (.ref ob34), .val (.int (2 : Int32)), .val (.long (8 : Int64)), .second] [(.long x5)])
        refine own_go (fun _ => XS.lstore X36.here hx rfl (hb hby at_198) rfl (l' := #[.val (.long q0), .second, .val (.int p1), .val (.int p2), .val (.int p3), .val (.int p4), .val (.int p5), .val (.long x1), .second, .val (.long x2), .second, .val (.long x3), .second, .val (.long x4), .second, .val (.long x5), .second, .val (.long x6), .second, .val (.ref ob7), .val (.ref bq33), .val (.ref ob34), .val (.int (2 : Int32)), .val (.long x5), .second]) rfl) ?_
        show GG _ _ _ _ _ _ _ T36 (mkF m 200 #[.val (.long q0), .second, .val (.int p1), .val (.int p2), .val (.int p3), .val (.int p4), .val (.int p5), .val (.long x1), .second, .val (.long x2), .second, .val (.long x3), .second, .val (.long x4), .second, .val (.long x5), .second, .val (.long x6), .second, .val (.ref ob7), .val (.ref bq33), .val (.ref ob34), .val (.int (2 : Int32)), .val (.long x5), .second] [])
        refine own_go (fun _ => XS.lload X36.here hx rfl (hb hby at_200) rfl) ?_
        show GG _ _ _ _ _ _ _ T36 (mkF m 202 #[.val (.long q0), .second, .val (.int p1), .val (.int p2), .val (.int p3), .val (.int p4), .val (.int p5), .val (.long x1), .second, .val (.long x2), .second, .val (.long x3), .second, .val (.long x4), .second, .val (.long x5), .second, .val (.long x6), .second, .val (.ref ob7), .val (.ref bq33), .val (.ref ob34), .val (.int (2 : Int32)), .val (.long x5), .second] [(.long x6)])
        refine own_go (fun _ => XS.lload X36.here hx rfl (hb hby at_202) rfl) ?_
        show GG _ _ _ _ _ _ _ T36 (mkF m 204 #[.val (.long q0), .second, .val (.int p1), .val (.int p2), .val (.int p3), .val (.int p4), .val (.int p5), .val (.long x1), .second, .val (.long x2), .second, .val (.long x3), .second, .val (.long x4), .second, .val (.long x5), .second, .val (.long x6), .second, .val (.ref ob7), .val (.ref bq33), .val (.ref ob34), .val (.int (2 : Int32)), .val (.long x5), .second] [(.long x5), (.long x6)])
        refine own_go (fun _ => XS.lsub X36.here hx rfl (hb hby at_204) rfl) ?_
        show GG _ _ _ _ _ _ _ T36 (mkF m 205 #[.val (.long q0), .second, .val (.int p1), .val (.int p2), .val (.int p3), .val (.int p4), .val (.int p5), .val (.long x1), .second, .val (.long x2), .second, .val (.long x3), .second, .val (.long x4), .second, .val (.long x5), .second, .val (.long x6), .second, .val (.ref ob7), .val (.ref bq33), .val (.ref ob34), .val (.int (2 : Int32)), .val (.long x5), .second] [(.long (x6 - x5))])
        refine own_go (fun _ => X36.ldc2Long hx hown (mvT hZ (hw _ (List.mem_of_getElem? (i := 40) rfl))) (g := (mkF m 205 #[.val (.long q0), .second, .val (.int p1), .val (.int p2), .val (.int p3), .val (.int p4), .val (.int p5), .val (.long x1), .second, .val (.long x2), .second, .val (.long x3), .second, .val (.long x4), .second, .val (.long x5), .second, .val (.long x6), .second, .val (.ref ob7), .val (.ref bq33), .val (.ref ob34), .val (.int (2 : Int32)), .val (.long x5), .second] [(.long (x6 - x5))])) rfl (hb hby at_205) _) ?_
        show GG _ _ _ _ _ _ _ T36 (mkF m 208 #[.val (.long q0), .second, .val (.int p1), .val (.int p2), .val (.int p3), .val (.int p4), .val (.int p5), .val (.long x1), .second, .val (.long x2), .second, .val (.long x3), .second, .val (.long x4), .second, .val (.long x5), .second, .val (.long x6), .second, .val (.ref ob7), .val (.ref bq33), .val (.ref ob34), .val (.int (2 : Int32)), .val (.long x5), .second] [(.long (65536 : Int64)), (.long (x6 - x5))])
        refine own_go (fun _ => XS.lcmp X36.here hx rfl (hb hby at_208) rfl) ?_
        show GG _ _ _ _ _ _ _ T36 (mkF m 209 #[.val (.long q0), .second, .val (.int p1), .val (.int p2), .val (.int p3), .val (.int p4), .val (.int p5), .val (.long x1), .second, .val (.long x2), .second, .val (.long x3), .second, .val (.long x4), .second, .val (.long x5), .second, .val (.long x6), .second, .val (.ref ob7), .val (.ref bq33), .val (.ref ob34), .val (.int (2 : Int32)), .val (.long x5), .second] [(.int (lcmpW (x6 - x5) (65536 : Int64)))])
        have hc209 : (x6 - x5) < (65536 : Int64) := hp100
        refine own_go (fun _ => XS.ifYes X36.here hx rfl (pc0 := 209) (pc' := 238) rfl (hb hby at_209) rfl ((if0 _ _).trans (tlt ((lw_lt _ _).mpr hc209)).1) (by decide) (by decide)) ?_
        show GG _ _ _ _ _ _ _ T36 (mkF m 238 #[.val (.long q0), .second, .val (.int p1), .val (.int p2), .val (.int p3), .val (.int p4), .val (.int p5), .val (.long x1), .second, .val (.long x2), .second, .val (.long x3), .second, .val (.long x4), .second, .val (.long x5), .second, .val (.long x6), .second, .val (.ref ob7), .val (.ref bq33), .val (.ref ob34), .val (.int (2 : Int32)), .val (.long x5), .second] [])
        refine own_go (fun _ => XS.aload X36.here hx rfl (hb hby at_238) rfl rfl) ?_
        show GG _ _ _ _ _ _ _ T36 (mkF m 240 #[.val (.long q0), .second, .val (.int p1), .val (.int p2), .val (.int p3), .val (.int p4), .val (.int p5), .val (.long x1), .second, .val (.long x2), .second, .val (.long x3), .second, .val (.long x4), .second, .val (.long x5), .second, .val (.long x6), .second, .val (.ref ob7), .val (.ref bq33), .val (.ref ob34), .val (.int (2 : Int32)), .val (.long x5), .second] [(.ref bq33)])
        refine own_go (fun _ => own_len X36 hx hZ e36 Vq33 (g := (mkF m 240 #[.val (.long q0), .second, .val (.int p1), .val (.int p2), .val (.int p3), .val (.int p4), .val (.int p5), .val (.long x1), .second, .val (.long x2), .second, .val (.long x3), .second, .val (.long x4), .second, .val (.long x5), .second, .val (.long x6), .second, .val (.ref ob7), .val (.ref bq33), .val (.ref ob34), .val (.int (2 : Int32)), .val (.long x5), .second] [(.ref bq33)])) rfl rfl (hb hby at_240) _) ?_
        show GG _ _ _ _ _ _ _ T36 (mkF m 241 #[.val (.long q0), .second, .val (.int p1), .val (.int p2), .val (.int p3), .val (.int p4), .val (.int p5), .val (.long x1), .second, .val (.long x2), .second, .val (.long x3), .second, .val (.long x4), .second, .val (.long x5), .second, .val (.long x6), .second, .val (.ref ob7), .val (.ref bq33), .val (.ref ob34), .val (.int (2 : Int32)), .val (.long x5), .second] [(.int (2 : Int32))])
        refine own_go (fun _ => XS.iload X36.here hx rfl (hb hby at_241) rfl) ?_
        show GG _ _ _ _ _ _ _ T36 (mkF m 243 #[.val (.long q0), .second, .val (.int p1), .val (.int p2), .val (.int p3), .val (.int p4), .val (.int p5), .val (.long x1), .second, .val (.long x2), .second, .val (.long x3), .second, .val (.long x4), .second, .val (.long x5), .second, .val (.long x6), .second, .val (.ref ob7), .val (.ref bq33), .val (.ref ob34), .val (.int (2 : Int32)), .val (.long x5), .second] [(.int (2 : Int32)), (.int (2 : Int32))])
        have hc243 : (2 : Int32) = (2 : Int32) := by decide
        refine own_go (fun _ => XS.icmpNo X36.here hx rfl (hb hby at_243) rfl (teq hc243).2) ?_
        show GG _ _ _ _ _ _ _ T36 (mkF m 246 #[.val (.long q0), .second, .val (.int p1), .val (.int p2), .val (.int p3), .val (.int p4), .val (.int p5), .val (.long x1), .second, .val (.long x2), .second, .val (.long x3), .second, .val (.long x4), .second, .val (.long x5), .second, .val (.long x6), .second, .val (.ref ob7), .val (.ref bq33), .val (.ref ob34), .val (.int (2 : Int32)), .val (.long x5), .second] [])
        refine own_go (fun _ => XS.aload X36.here hx rfl (hb hby at_246) rfl rfl) ?_
        show GG _ _ _ _ _ _ _ T36 (mkF m 248 #[.val (.long q0), .second, .val (.int p1), .val (.int p2), .val (.int p3), .val (.int p4), .val (.int p5), .val (.long x1), .second, .val (.long x2), .second, .val (.long x3), .second, .val (.long x4), .second, .val (.long x5), .second, .val (.long x6), .second, .val (.ref ob7), .val (.ref bq33), .val (.ref ob34), .val (.int (2 : Int32)), .val (.long x5), .second] [(.ref bq33)])
        refine own_go (fun _ => XS.aload X36.here hx rfl (hb hby at_248) rfl rfl) ?_
        show GG _ _ _ _ _ _ _ T36 (mkF m 250 #[.val (.long q0), .second, .val (.int p1), .val (.int p2), .val (.int p3), .val (.int p4), .val (.int p5), .val (.long x1), .second, .val (.long x2), .second, .val (.long x3), .second, .val (.long x4), .second, .val (.long x5), .second, .val (.long x6), .second, .val (.ref ob7), .val (.ref bq33), .val (.ref ob34), .val (.int (2 : Int32)), .val (.long x5), .second] [(.ref ob34), (.ref bq33)])
        refine own_go (fun _ => XS.iconst X36.here hx rfl (hb hby at_250)) ?_
        show GG _ _ _ _ _ _ _ T36 (mkF m 251 #[.val (.long q0), .second, .val (.int p1), .val (.int p2), .val (.int p3), .val (.int p4), .val (.int p5), .val (.long x1), .second, .val (.long x2), .second, .val (.long x3), .second, .val (.long x4), .second, .val (.long x5), .second, .val (.long x6), .second, .val (.ref ob7), .val (.ref bq33), .val (.ref ob34), .val (.int (2 : Int32)), .val (.long x5), .second] [(.int (0 : Int32)), (.ref ob34), (.ref bq33)])
        refine own_go (fun _ => XS.iload X36.here hx rfl (hb hby at_251) rfl) ?_
        show GG _ _ _ _ _ _ _ T36 (mkF m 253 #[.val (.long q0), .second, .val (.int p1), .val (.int p2), .val (.int p3), .val (.int p4), .val (.int p5), .val (.long x1), .second, .val (.long x2), .second, .val (.long x3), .second, .val (.long x4), .second, .val (.long x5), .second, .val (.long x6), .second, .val (.ref ob7), .val (.ref bq33), .val (.ref ob34), .val (.int (2 : Int32)), .val (.long x5), .second] [(.int (2 : Int32)), (.int (0 : Int32)), (.ref ob34), (.ref bq33)])
        refine own_callS X36 hx hZ (y := (⟨"com/example/obliv/obliv/io/SegmentIndexToArrayPinLaw", "eqAt", "([J[JII)Z"⟩ : MethodName)) 0 hown (hw _ (List.mem_of_getElem? (i := 41) rfl)) (hw _ (List.mem_of_getElem? (i := 42) rfl)) (hw _ (List.mem_of_getElem? (i := 43) rfl)) (hw _ (List.mem_of_getElem? (i := 44) rfl)) (by decide) (argsL := [(.ref bq33), (.ref ob34), (.int (0 : Int32)), (.int (2 : Int32))]) (rest := []) (rm7 l Z a0 hw [] bq33 ob34 (0 : Int32) (2 : Int32) [(.long x2), (.long x5)] [(.long x2), (.long x5), (.long (0 : Int64)), (.long (0 : Int64)), (.long (0 : Int64)), (.long (0 : Int64))] h36 n0 (Nat.le_trans Z0 K0.1) Vq33 V_ob34 (Or.inr ⟨by decide, _, rfl, rfl⟩)) (by decide) (by decide) (by decide) (by decide) (g := (mkF m 253 #[.val (.long q0), .second, .val (.int p1), .val (.int p2), .val (.int p3), .val (.int p4), .val (.int p5), .val (.long x1), .second, .val (.long x2), .second, .val (.long x3), .second, .val (.long x4), .second, .val (.long x5), .second, .val (.long x6), .second, .val (.ref ob7), .val (.ref bq33), .val (.ref ob34), .val (.int (2 : Int32)), .val (.long x5), .second] [(.int (2 : Int32)), (.int (0 : Int32)), (.ref ob34), (.ref bq33)])) rfl (by rw [hml]; rfl) (lenOf pd___J_JII_Z_647 rfl) rfl (by show 2 * 0 + _ ≤ _; exact Nat.le_of_eq rfl) (hb hby at_253) e36 ?_
        rintro v37 T37 L37 X37 ⟨rfl, N37q, hh37⟩
        have N37 := Fr.app N36 N37q
        show GG _ _ _ _ _ _ _ T37 (mkF m 256 #[.val (.long q0), .second, .val (.int p1), .val (.int p2), .val (.int p3), .val (.int p4), .val (.int p5), .val (.long x1), .second, .val (.long x2), .second, .val (.long x3), .second, .val (.long x4), .second, .val (.long x5), .second, .val (.long x6), .second, .val (.ref ob7), .val (.ref bq33), .val (.ref ob34), .val (.int (2 : Int32)), .val (.long x5), .second] [(.int (1 : Int32))])
        have hc256 : ¬ ((1 : Int32) = (0 : Int32)) := by decide
        refine own_go (fun _ => XS.ifNo X37.here hx rfl (hb hby at_256) rfl ((if0 _ _).trans (feq hc256).1)) ?_
        show GG _ _ _ _ _ _ _ T37 (mkF m 259 #[.val (.long q0), .second, .val (.int p1), .val (.int p2), .val (.int p3), .val (.int p4), .val (.int p5), .val (.long x1), .second, .val (.long x2), .second, .val (.long x3), .second, .val (.long x4), .second, .val (.long x5), .second, .val (.long x6), .second, .val (.ref ob7), .val (.ref bq33), .val (.ref ob34), .val (.int (2 : Int32)), .val (.long x5), .second] [])
        refine own_go (fun _ => XS.aload X37.here hx rfl (hb hby at_259) rfl rfl) ?_
        show GG _ _ _ _ _ _ _ T37 (mkF m 261 #[.val (.long q0), .second, .val (.int p1), .val (.int p2), .val (.int p3), .val (.int p4), .val (.int p5), .val (.long x1), .second, .val (.long x2), .second, .val (.long x3), .second, .val (.long x4), .second, .val (.long x5), .second, .val (.long x6), .second, .val (.ref ob7), .val (.ref bq33), .val (.ref ob34), .val (.int (2 : Int32)), .val (.long x5), .second] [(.ref bq33)])
        refine own_go (fun _ => XS.aload X37.here hx rfl (hb hby at_261) rfl rfl) ?_
        show GG _ _ _ _ _ _ _ T37 (mkF m 263 #[.val (.long q0), .second, .val (.int p1), .val (.int p2), .val (.int p3), .val (.int p4), .val (.int p5), .val (.long x1), .second, .val (.long x2), .second, .val (.long x3), .second, .val (.long x4), .second, .val (.long x5), .second, .val (.long x6), .second, .val (.ref ob7), .val (.ref bq33), .val (.ref ob34), .val (.int (2 : Int32)), .val (.long x5), .second] [(.ref ob34), (.ref bq33)])
        refine own_go (fun _ => XS.iconst X37.here hx rfl (hb hby at_263)) ?_
        show GG _ _ _ _ _ _ _ T37 (mkF m 264 #[.val (.long q0), .second, .val (.int p1), .val (.int p2), .val (.int p3), .val (.int p4), .val (.int p5), .val (.long x1), .second, .val (.long x2), .second, .val (.long x3), .second, .val (.long x4), .second, .val (.long x5), .second, .val (.long x6), .second, .val (.ref ob7), .val (.ref bq33), .val (.ref ob34), .val (.int (2 : Int32)), .val (.long x5), .second] [(.int (1 : Int32)), (.ref ob34), (.ref bq33)])
        refine own_go (fun _ => XS.iload X37.here hx rfl (hb hby at_264) rfl) ?_
        show GG _ _ _ _ _ _ _ T37 (mkF m 266 #[.val (.long q0), .second, .val (.int p1), .val (.int p2), .val (.int p3), .val (.int p4), .val (.int p5), .val (.long x1), .second, .val (.long x2), .second, .val (.long x3), .second, .val (.long x4), .second, .val (.long x5), .second, .val (.long x6), .second, .val (.ref ob7), .val (.ref bq33), .val (.ref ob34), .val (.int (2 : Int32)), .val (.long x5), .second] [(.int (2 : Int32)), (.int (1 : Int32)), (.ref ob34), (.ref bq33)])
        refine own_callS X37 hx hZ (y := (⟨"com/example/obliv/obliv/io/SegmentIndexToArrayPinLaw", "eqAt", "([J[JII)Z"⟩ : MethodName)) 0 hown (hw _ (List.mem_of_getElem? (i := 41) rfl)) (hw _ (List.mem_of_getElem? (i := 42) rfl)) (hw _ (List.mem_of_getElem? (i := 43) rfl)) (hw _ (List.mem_of_getElem? (i := 44) rfl)) (by decide) (argsL := [(.ref bq33), (.ref ob34), (.int (1 : Int32)), (.int (2 : Int32))]) (rest := []) (rm7 l Z a0 hw [] bq33 ob34 (1 : Int32) (2 : Int32) [(.long x2), (.long x5)] [(.long x2), (.long x5), (.long (0 : Int64)), (.long (0 : Int64)), (.long (0 : Int64)), (.long (0 : Int64))] h36 n0 (Nat.le_trans Z0 K0.1) Vq33 V_ob34 (Or.inr ⟨by decide, _, rfl, rfl⟩)) (by decide) (by decide) (by decide) (by decide) (g := (mkF m 266 #[.val (.long q0), .second, .val (.int p1), .val (.int p2), .val (.int p3), .val (.int p4), .val (.int p5), .val (.long x1), .second, .val (.long x2), .second, .val (.long x3), .second, .val (.long x4), .second, .val (.long x5), .second, .val (.long x6), .second, .val (.ref ob7), .val (.ref bq33), .val (.ref ob34), .val (.int (2 : Int32)), .val (.long x5), .second] [(.int (2 : Int32)), (.int (1 : Int32)), (.ref ob34), (.ref bq33)])) rfl (by rw [hml]; rfl) (lenOf pd___J_JII_Z_647 rfl) rfl (by show 2 * 0 + _ ≤ _; exact Nat.le_of_eq rfl) (hb hby at_266) hh37 ?_
        rintro v38 T38 L38 X38 ⟨rfl, N38q, hh38⟩
        have N38 := Fr.app N37 N38q
        show GG _ _ _ _ _ _ _ T38 (mkF m 269 #[.val (.long q0), .second, .val (.int p1), .val (.int p2), .val (.int p3), .val (.int p4), .val (.int p5), .val (.long x1), .second, .val (.long x2), .second, .val (.long x3), .second, .val (.long x4), .second, .val (.long x5), .second, .val (.long x6), .second, .val (.ref ob7), .val (.ref bq33), .val (.ref ob34), .val (.int (2 : Int32)), .val (.long x5), .second] [(.int (1 : Int32))])
        have hc269 : ¬ ((1 : Int32) = (0 : Int32)) := by decide
        refine own_go (fun _ => XS.ifNo X38.here hx rfl (hb hby at_269) rfl ((if0 _ _).trans (feq hc269).1)) ?_
        show GG _ _ _ _ _ _ _ T38 (mkF m 272 #[.val (.long q0), .second, .val (.int p1), .val (.int p2), .val (.int p3), .val (.int p4), .val (.int p5), .val (.long x1), .second, .val (.long x2), .second, .val (.long x3), .second, .val (.long x4), .second, .val (.long x5), .second, .val (.long x6), .second, .val (.ref ob7), .val (.ref bq33), .val (.ref ob34), .val (.int (2 : Int32)), .val (.long x5), .second] [])
        refine own_go (fun _ => XS.aload X38.here hx rfl (hb hby at_272) rfl rfl) ?_
        show GG _ _ _ _ _ _ _ T38 (mkF m 274 #[.val (.long q0), .second, .val (.int p1), .val (.int p2), .val (.int p3), .val (.int p4), .val (.int p5), .val (.long x1), .second, .val (.long x2), .second, .val (.long x3), .second, .val (.long x4), .second, .val (.long x5), .second, .val (.long x6), .second, .val (.ref ob7), .val (.ref bq33), .val (.ref ob34), .val (.int (2 : Int32)), .val (.long x5), .second] [(.ref bq33)])
        refine own_go (fun _ => XS.aload X38.here hx rfl (hb hby at_274) rfl rfl) ?_
        show GG _ _ _ _ _ _ _ T38 (mkF m 276 #[.val (.long q0), .second, .val (.int p1), .val (.int p2), .val (.int p3), .val (.int p4), .val (.int p5), .val (.long x1), .second, .val (.long x2), .second, .val (.long x3), .second, .val (.long x4), .second, .val (.long x5), .second, .val (.long x6), .second, .val (.ref ob7), .val (.ref bq33), .val (.ref ob34), .val (.int (2 : Int32)), .val (.long x5), .second] [(.ref ob34), (.ref bq33)])
        refine own_go (fun _ => XS.iconst X38.here hx rfl (hb hby at_276)) ?_
        show GG _ _ _ _ _ _ _ T38 (mkF m 277 #[.val (.long q0), .second, .val (.int p1), .val (.int p2), .val (.int p3), .val (.int p4), .val (.int p5), .val (.long x1), .second, .val (.long x2), .second, .val (.long x3), .second, .val (.long x4), .second, .val (.long x5), .second, .val (.long x6), .second, .val (.ref ob7), .val (.ref bq33), .val (.ref ob34), .val (.int (2 : Int32)), .val (.long x5), .second] [(.int (2 : Int32)), (.ref ob34), (.ref bq33)])
        refine own_go (fun _ => XS.iload X38.here hx rfl (hb hby at_277) rfl) ?_
        show GG _ _ _ _ _ _ _ T38 (mkF m 279 #[.val (.long q0), .second, .val (.int p1), .val (.int p2), .val (.int p3), .val (.int p4), .val (.int p5), .val (.long x1), .second, .val (.long x2), .second, .val (.long x3), .second, .val (.long x4), .second, .val (.long x5), .second, .val (.long x6), .second, .val (.ref ob7), .val (.ref bq33), .val (.ref ob34), .val (.int (2 : Int32)), .val (.long x5), .second] [(.int (2 : Int32)), (.int (2 : Int32)), (.ref ob34), (.ref bq33)])
        refine own_callS X38 hx hZ (y := (⟨"com/example/obliv/obliv/io/SegmentIndexToArrayPinLaw", "eqAt", "([J[JII)Z"⟩ : MethodName)) 0 hown (hw _ (List.mem_of_getElem? (i := 41) rfl)) (hw _ (List.mem_of_getElem? (i := 42) rfl)) (hw _ (List.mem_of_getElem? (i := 43) rfl)) (hw _ (List.mem_of_getElem? (i := 44) rfl)) (by decide) (argsL := [(.ref bq33), (.ref ob34), (.int (2 : Int32)), (.int (2 : Int32))]) (rest := []) (rm7 l Z a0 hw [] bq33 ob34 (2 : Int32) (2 : Int32) [(.long x2), (.long x5)] [(.long x2), (.long x5), (.long (0 : Int64)), (.long (0 : Int64)), (.long (0 : Int64)), (.long (0 : Int64))] h36 n0 (Nat.le_trans Z0 K0.1) Vq33 V_ob34 (Or.inl (by decide))) (by decide) (by decide) (by decide) (by decide) (g := (mkF m 279 #[.val (.long q0), .second, .val (.int p1), .val (.int p2), .val (.int p3), .val (.int p4), .val (.int p5), .val (.long x1), .second, .val (.long x2), .second, .val (.long x3), .second, .val (.long x4), .second, .val (.long x5), .second, .val (.long x6), .second, .val (.ref ob7), .val (.ref bq33), .val (.ref ob34), .val (.int (2 : Int32)), .val (.long x5), .second] [(.int (2 : Int32)), (.int (2 : Int32)), (.ref ob34), (.ref bq33)])) rfl (by rw [hml]; rfl) (lenOf pd___J_JII_Z_647 rfl) rfl (by show 2 * 0 + _ ≤ _; exact Nat.le_of_eq rfl) (hb hby at_279) hh38 ?_
        rintro v39 T39 L39 X39 ⟨rfl, N39q, hh39⟩
        have N39 := Fr.app N38 N39q
        show GG _ _ _ _ _ _ _ T39 (mkF m 282 #[.val (.long q0), .second, .val (.int p1), .val (.int p2), .val (.int p3), .val (.int p4), .val (.int p5), .val (.long x1), .second, .val (.long x2), .second, .val (.long x3), .second, .val (.long x4), .second, .val (.long x5), .second, .val (.long x6), .second, .val (.ref ob7), .val (.ref bq33), .val (.ref ob34), .val (.int (2 : Int32)), .val (.long x5), .second] [(.int (1 : Int32))])
        have hc282 : ¬ ((1 : Int32) = (0 : Int32)) := by decide
        refine own_go (fun _ => XS.ifNo X39.here hx rfl (hb hby at_282) rfl ((if0 _ _).trans (feq hc282).1)) ?_
        show GG _ _ _ _ _ _ _ T39 (mkF m 285 #[.val (.long q0), .second, .val (.int p1), .val (.int p2), .val (.int p3), .val (.int p4), .val (.int p5), .val (.long x1), .second, .val (.long x2), .second, .val (.long x3), .second, .val (.long x4), .second, .val (.long x5), .second, .val (.long x6), .second, .val (.ref ob7), .val (.ref bq33), .val (.ref ob34), .val (.int (2 : Int32)), .val (.long x5), .second] [])
        refine own_go (fun _ => XS.aload X39.here hx rfl (hb hby at_285) rfl rfl) ?_
        show GG _ _ _ _ _ _ _ T39 (mkF m 287 #[.val (.long q0), .second, .val (.int p1), .val (.int p2), .val (.int p3), .val (.int p4), .val (.int p5), .val (.long x1), .second, .val (.long x2), .second, .val (.long x3), .second, .val (.long x4), .second, .val (.long x5), .second, .val (.long x6), .second, .val (.ref ob7), .val (.ref bq33), .val (.ref ob34), .val (.int (2 : Int32)), .val (.long x5), .second] [(.ref bq33)])
        refine own_go (fun _ => XS.aload X39.here hx rfl (hb hby at_287) rfl rfl) ?_
        show GG _ _ _ _ _ _ _ T39 (mkF m 289 #[.val (.long q0), .second, .val (.int p1), .val (.int p2), .val (.int p3), .val (.int p4), .val (.int p5), .val (.long x1), .second, .val (.long x2), .second, .val (.long x3), .second, .val (.long x4), .second, .val (.long x5), .second, .val (.long x6), .second, .val (.ref ob7), .val (.ref bq33), .val (.ref ob34), .val (.int (2 : Int32)), .val (.long x5), .second] [(.ref ob34), (.ref bq33)])
        refine own_go (fun _ => XS.iconst X39.here hx rfl (hb hby at_289)) ?_
        show GG _ _ _ _ _ _ _ T39 (mkF m 290 #[.val (.long q0), .second, .val (.int p1), .val (.int p2), .val (.int p3), .val (.int p4), .val (.int p5), .val (.long x1), .second, .val (.long x2), .second, .val (.long x3), .second, .val (.long x4), .second, .val (.long x5), .second, .val (.long x6), .second, .val (.ref ob7), .val (.ref bq33), .val (.ref ob34), .val (.int (2 : Int32)), .val (.long x5), .second] [(.int (3 : Int32)), (.ref ob34), (.ref bq33)])
        refine own_go (fun _ => XS.iload X39.here hx rfl (hb hby at_290) rfl) ?_
        show GG _ _ _ _ _ _ _ T39 (mkF m 292 #[.val (.long q0), .second, .val (.int p1), .val (.int p2), .val (.int p3), .val (.int p4), .val (.int p5), .val (.long x1), .second, .val (.long x2), .second, .val (.long x3), .second, .val (.long x4), .second, .val (.long x5), .second, .val (.long x6), .second, .val (.ref ob7), .val (.ref bq33), .val (.ref ob34), .val (.int (2 : Int32)), .val (.long x5), .second] [(.int (2 : Int32)), (.int (3 : Int32)), (.ref ob34), (.ref bq33)])
        refine own_callS X39 hx hZ (y := (⟨"com/example/obliv/obliv/io/SegmentIndexToArrayPinLaw", "eqAt", "([J[JII)Z"⟩ : MethodName)) 0 hown (hw _ (List.mem_of_getElem? (i := 41) rfl)) (hw _ (List.mem_of_getElem? (i := 42) rfl)) (hw _ (List.mem_of_getElem? (i := 43) rfl)) (hw _ (List.mem_of_getElem? (i := 44) rfl)) (by decide) (argsL := [(.ref bq33), (.ref ob34), (.int (3 : Int32)), (.int (2 : Int32))]) (rest := []) (rm7 l Z a0 hw [] bq33 ob34 (3 : Int32) (2 : Int32) [(.long x2), (.long x5)] [(.long x2), (.long x5), (.long (0 : Int64)), (.long (0 : Int64)), (.long (0 : Int64)), (.long (0 : Int64))] h36 n0 (Nat.le_trans Z0 K0.1) Vq33 V_ob34 (Or.inl (by decide))) (by decide) (by decide) (by decide) (by decide) (g := (mkF m 292 #[.val (.long q0), .second, .val (.int p1), .val (.int p2), .val (.int p3), .val (.int p4), .val (.int p5), .val (.long x1), .second, .val (.long x2), .second, .val (.long x3), .second, .val (.long x4), .second, .val (.long x5), .second, .val (.long x6), .second, .val (.ref ob7), .val (.ref bq33), .val (.ref ob34), .val (.int (2 : Int32)), .val (.long x5), .second] [(.int (2 : Int32)), (.int (3 : Int32)), (.ref ob34), (.ref bq33)])) rfl (by rw [hml]; rfl) (lenOf pd___J_JII_Z_647 rfl) rfl (by show 2 * 0 + _ ≤ _; exact Nat.le_of_eq rfl) (hb hby at_292) hh39 ?_
        rintro v40 T40 L40 X40 ⟨rfl, N40q, hh40⟩
        have N40 := Fr.app N39 N40q
        show GG _ _ _ _ _ _ _ T40 (mkF m 295 #[.val (.long q0), .second, .val (.int p1), .val (.int p2), .val (.int p3), .val (.int p4), .val (.int p5), .val (.long x1), .second, .val (.long x2), .second, .val (.long x3), .second, .val (.long x4), .second, .val (.long x5), .second, .val (.long x6), .second, .val (.ref ob7), .val (.ref bq33), .val (.ref ob34), .val (.int (2 : Int32)), .val (.long x5), .second] [(.int (1 : Int32))])
        have hc295 : ¬ ((1 : Int32) = (0 : Int32)) := by decide
        refine own_go (fun _ => XS.ifNo X40.here hx rfl (hb hby at_295) rfl ((if0 _ _).trans (feq hc295).1)) ?_
        show GG _ _ _ _ _ _ _ T40 (mkF m 298 #[.val (.long q0), .second, .val (.int p1), .val (.int p2), .val (.int p3), .val (.int p4), .val (.int p5), .val (.long x1), .second, .val (.long x2), .second, .val (.long x3), .second, .val (.long x4), .second, .val (.long x5), .second, .val (.long x6), .second, .val (.ref ob7), .val (.ref bq33), .val (.ref ob34), .val (.int (2 : Int32)), .val (.long x5), .second] [])
        refine own_go (fun _ => XS.aload X40.here hx rfl (hb hby at_298) rfl rfl) ?_
        show GG _ _ _ _ _ _ _ T40 (mkF m 300 #[.val (.long q0), .second, .val (.int p1), .val (.int p2), .val (.int p3), .val (.int p4), .val (.int p5), .val (.long x1), .second, .val (.long x2), .second, .val (.long x3), .second, .val (.long x4), .second, .val (.long x5), .second, .val (.long x6), .second, .val (.ref ob7), .val (.ref bq33), .val (.ref ob34), .val (.int (2 : Int32)), .val (.long x5), .second] [(.ref bq33)])
        refine own_go (fun _ => XS.aload X40.here hx rfl (hb hby at_300) rfl rfl) ?_
        show GG _ _ _ _ _ _ _ T40 (mkF m 302 #[.val (.long q0), .second, .val (.int p1), .val (.int p2), .val (.int p3), .val (.int p4), .val (.int p5), .val (.long x1), .second, .val (.long x2), .second, .val (.long x3), .second, .val (.long x4), .second, .val (.long x5), .second, .val (.long x6), .second, .val (.ref ob7), .val (.ref bq33), .val (.ref ob34), .val (.int (2 : Int32)), .val (.long x5), .second] [(.ref ob34), (.ref bq33)])
        refine own_go (fun _ => XS.iconst X40.here hx rfl (hb hby at_302)) ?_
        show GG _ _ _ _ _ _ _ T40 (mkF m 303 #[.val (.long q0), .second, .val (.int p1), .val (.int p2), .val (.int p3), .val (.int p4), .val (.int p5), .val (.long x1), .second, .val (.long x2), .second, .val (.long x3), .second, .val (.long x4), .second, .val (.long x5), .second, .val (.long x6), .second, .val (.ref ob7), .val (.ref bq33), .val (.ref ob34), .val (.int (2 : Int32)), .val (.long x5), .second] [(.int (4 : Int32)), (.ref ob34), (.ref bq33)])
        refine own_go (fun _ => XS.iload X40.here hx rfl (hb hby at_303) rfl) ?_
        show GG _ _ _ _ _ _ _ T40 (mkF m 305 #[.val (.long q0), .second, .val (.int p1), .val (.int p2), .val (.int p3), .val (.int p4), .val (.int p5), .val (.long x1), .second, .val (.long x2), .second, .val (.long x3), .second, .val (.long x4), .second, .val (.long x5), .second, .val (.long x6), .second, .val (.ref ob7), .val (.ref bq33), .val (.ref ob34), .val (.int (2 : Int32)), .val (.long x5), .second] [(.int (2 : Int32)), (.int (4 : Int32)), (.ref ob34), (.ref bq33)])
        refine own_callS X40 hx hZ (y := (⟨"com/example/obliv/obliv/io/SegmentIndexToArrayPinLaw", "eqAt", "([J[JII)Z"⟩ : MethodName)) 0 hown (hw _ (List.mem_of_getElem? (i := 41) rfl)) (hw _ (List.mem_of_getElem? (i := 42) rfl)) (hw _ (List.mem_of_getElem? (i := 43) rfl)) (hw _ (List.mem_of_getElem? (i := 44) rfl)) (by decide) (argsL := [(.ref bq33), (.ref ob34), (.int (4 : Int32)), (.int (2 : Int32))]) (rest := []) (rm7 l Z a0 hw [] bq33 ob34 (4 : Int32) (2 : Int32) [(.long x2), (.long x5)] [(.long x2), (.long x5), (.long (0 : Int64)), (.long (0 : Int64)), (.long (0 : Int64)), (.long (0 : Int64))] h36 n0 (Nat.le_trans Z0 K0.1) Vq33 V_ob34 (Or.inl (by decide))) (by decide) (by decide) (by decide) (by decide) (g := (mkF m 305 #[.val (.long q0), .second, .val (.int p1), .val (.int p2), .val (.int p3), .val (.int p4), .val (.int p5), .val (.long x1), .second, .val (.long x2), .second, .val (.long x3), .second, .val (.long x4), .second, .val (.long x5), .second, .val (.long x6), .second, .val (.ref ob7), .val (.ref bq33), .val (.ref ob34), .val (.int (2 : Int32)), .val (.long x5), .second] [(.int (2 : Int32)), (.int (4 : Int32)), (.ref ob34), (.ref bq33)])) rfl (by rw [hml]; rfl) (lenOf pd___J_JII_Z_647 rfl) rfl (by show 2 * 0 + _ ≤ _; exact Nat.le_of_eq rfl) (hb hby at_305) hh40 ?_
        rintro v41 T41 L41 X41 ⟨rfl, N41q, hh41⟩
        have N41 := Fr.app N40 N41q
        show GG _ _ _ _ _ _ _ T41 (mkF m 308 #[.val (.long q0), .second, .val (.int p1), .val (.int p2), .val (.int p3), .val (.int p4), .val (.int p5), .val (.long x1), .second, .val (.long x2), .second, .val (.long x3), .second, .val (.long x4), .second, .val (.long x5), .second, .val (.long x6), .second, .val (.ref ob7), .val (.ref bq33), .val (.ref ob34), .val (.int (2 : Int32)), .val (.long x5), .second] [(.int (1 : Int32))])
        have hc308 : ¬ ((1 : Int32) = (0 : Int32)) := by decide
        refine own_go (fun _ => XS.ifNo X41.here hx rfl (hb hby at_308) rfl ((if0 _ _).trans (feq hc308).1)) ?_
        show GG _ _ _ _ _ _ _ T41 (mkF m 311 #[.val (.long q0), .second, .val (.int p1), .val (.int p2), .val (.int p3), .val (.int p4), .val (.int p5), .val (.long x1), .second, .val (.long x2), .second, .val (.long x3), .second, .val (.long x4), .second, .val (.long x5), .second, .val (.long x6), .second, .val (.ref ob7), .val (.ref bq33), .val (.ref ob34), .val (.int (2 : Int32)), .val (.long x5), .second] [])
        refine own_go (fun _ => XS.aload X41.here hx rfl (hb hby at_311) rfl rfl) ?_
        show GG _ _ _ _ _ _ _ T41 (mkF m 313 #[.val (.long q0), .second, .val (.int p1), .val (.int p2), .val (.int p3), .val (.int p4), .val (.int p5), .val (.long x1), .second, .val (.long x2), .second, .val (.long x3), .second, .val (.long x4), .second, .val (.long x5), .second, .val (.long x6), .second, .val (.ref ob7), .val (.ref bq33), .val (.ref ob34), .val (.int (2 : Int32)), .val (.long x5), .second] [(.ref bq33)])
        refine own_go (fun _ => XS.aload X41.here hx rfl (hb hby at_313) rfl rfl) ?_
        show GG _ _ _ _ _ _ _ T41 (mkF m 315 #[.val (.long q0), .second, .val (.int p1), .val (.int p2), .val (.int p3), .val (.int p4), .val (.int p5), .val (.long x1), .second, .val (.long x2), .second, .val (.long x3), .second, .val (.long x4), .second, .val (.long x5), .second, .val (.long x6), .second, .val (.ref ob7), .val (.ref bq33), .val (.ref ob34), .val (.int (2 : Int32)), .val (.long x5), .second] [(.ref ob34), (.ref bq33)])
        refine own_go (fun _ => XS.iconst X41.here hx rfl (hb hby at_315)) ?_
        show GG _ _ _ _ _ _ _ T41 (mkF m 316 #[.val (.long q0), .second, .val (.int p1), .val (.int p2), .val (.int p3), .val (.int p4), .val (.int p5), .val (.long x1), .second, .val (.long x2), .second, .val (.long x3), .second, .val (.long x4), .second, .val (.long x5), .second, .val (.long x6), .second, .val (.ref ob7), .val (.ref bq33), .val (.ref ob34), .val (.int (2 : Int32)), .val (.long x5), .second] [(.int (5 : Int32)), (.ref ob34), (.ref bq33)])
        refine own_go (fun _ => XS.iload X41.here hx rfl (hb hby at_316) rfl) ?_
        show GG _ _ _ _ _ _ _ T41 (mkF m 318 #[.val (.long q0), .second, .val (.int p1), .val (.int p2), .val (.int p3), .val (.int p4), .val (.int p5), .val (.long x1), .second, .val (.long x2), .second, .val (.long x3), .second, .val (.long x4), .second, .val (.long x5), .second, .val (.long x6), .second, .val (.ref ob7), .val (.ref bq33), .val (.ref ob34), .val (.int (2 : Int32)), .val (.long x5), .second] [(.int (2 : Int32)), (.int (5 : Int32)), (.ref ob34), (.ref bq33)])
        refine own_callS X41 hx hZ (y := (⟨"com/example/obliv/obliv/io/SegmentIndexToArrayPinLaw", "eqAt", "([J[JII)Z"⟩ : MethodName)) 0 hown (hw _ (List.mem_of_getElem? (i := 41) rfl)) (hw _ (List.mem_of_getElem? (i := 42) rfl)) (hw _ (List.mem_of_getElem? (i := 43) rfl)) (hw _ (List.mem_of_getElem? (i := 44) rfl)) (by decide) (argsL := [(.ref bq33), (.ref ob34), (.int (5 : Int32)), (.int (2 : Int32))]) (rest := []) (rm7 l Z a0 hw [] bq33 ob34 (5 : Int32) (2 : Int32) [(.long x2), (.long x5)] [(.long x2), (.long x5), (.long (0 : Int64)), (.long (0 : Int64)), (.long (0 : Int64)), (.long (0 : Int64))] h36 n0 (Nat.le_trans Z0 K0.1) Vq33 V_ob34 (Or.inl (by decide))) (by decide) (by decide) (by decide) (by decide) (g := (mkF m 318 #[.val (.long q0), .second, .val (.int p1), .val (.int p2), .val (.int p3), .val (.int p4), .val (.int p5), .val (.long x1), .second, .val (.long x2), .second, .val (.long x3), .second, .val (.long x4), .second, .val (.long x5), .second, .val (.long x6), .second, .val (.ref ob7), .val (.ref bq33), .val (.ref ob34), .val (.int (2 : Int32)), .val (.long x5), .second] [(.int (2 : Int32)), (.int (5 : Int32)), (.ref ob34), (.ref bq33)])) rfl (by rw [hml]; rfl) (lenOf pd___J_JII_Z_647 rfl) rfl (by show 2 * 0 + _ ≤ _; exact Nat.le_of_eq rfl) (hb hby at_318) hh41 ?_
        rintro v42 T42 L42 X42 ⟨rfl, N42q, hh42⟩
        have N42 := Fr.app N41 N42q
        show GG _ _ _ _ _ _ _ T42 (mkF m 321 #[.val (.long q0), .second, .val (.int p1), .val (.int p2), .val (.int p3), .val (.int p4), .val (.int p5), .val (.long x1), .second, .val (.long x2), .second, .val (.long x3), .second, .val (.long x4), .second, .val (.long x5), .second, .val (.long x6), .second, .val (.ref ob7), .val (.ref bq33), .val (.ref ob34), .val (.int (2 : Int32)), .val (.long x5), .second] [(.int (1 : Int32))])
        have hc321 : ¬ ((1 : Int32) = (0 : Int32)) := by decide
        refine own_go (fun _ => XS.ifNo X42.here hx rfl (hb hby at_321) rfl ((if0 _ _).trans (feq hc321).1)) ?_
        show GG _ _ _ _ _ _ _ T42 (mkF m 324 #[.val (.long q0), .second, .val (.int p1), .val (.int p2), .val (.int p3), .val (.int p4), .val (.int p5), .val (.long x1), .second, .val (.long x2), .second, .val (.long x3), .second, .val (.long x4), .second, .val (.long x5), .second, .val (.long x6), .second, .val (.ref ob7), .val (.ref bq33), .val (.ref ob34), .val (.int (2 : Int32)), .val (.long x5), .second] [])
        refine own_go (fun _ => XS.iconst X42.here hx rfl (hb hby at_324)) ?_
        show GG _ _ _ _ _ _ _ T42 (mkF m 325 #[.val (.long q0), .second, .val (.int p1), .val (.int p2), .val (.int p3), .val (.int p4), .val (.int p5), .val (.long x1), .second, .val (.long x2), .second, .val (.long x3), .second, .val (.long x4), .second, .val (.long x5), .second, .val (.long x6), .second, .val (.ref ob7), .val (.ref bq33), .val (.ref ob34), .val (.int (2 : Int32)), .val (.long x5), .second] [(.int (1 : Int32))])
        refine own_go (fun _ => XS.goto X42.here hx rfl (pc0 := 325) (pc' := 329) rfl (hb hby at_325) (by decide) (by decide)) ?_
        show GG _ _ _ _ _ _ _ T42 (mkF m 329 #[.val (.long q0), .second, .val (.int p1), .val (.int p2), .val (.int p3), .val (.int p4), .val (.int p5), .val (.long x1), .second, .val (.long x2), .second, .val (.long x3), .second, .val (.long x4), .second, .val (.long x5), .second, .val (.long x6), .second, .val (.ref ob7), .val (.ref bq33), .val (.ref ob34), .val (.int (2 : Int32)), .val (.long x5), .second] [(.int (1 : Int32))])
        refine own_ret X42 hx hlk (t := .boolean) (w := (.int (1 : Int32))) Bd.returns rfl (Or.inl ⟨rfl, by simp, _, rfl⟩) (hb hby at_329) (by decide) (by decide) ?_
        show Q0 Z q0 p1 p2 p3 p4 p5 h0 n0 (some (.int (1 : Int32))) T42.heap _
        rw [hh42]
        exact ⟨rfl, N42⟩
      · skip
        refine own_callV X31 hx hZ (y := (⟨"com/example/obliv/obliv/io/SegmentIndex", "add", "(JJ)V"⟩ : MethodName)) (z := (⟨"com/example/obliv/obliv/io/SegmentIndex", "add", "(JJ)V"⟩ : MethodName)) 0 hown (hw _ (List.mem_of_getElem? (i := 25) rfl)) (hw _ (List.mem_of_getElem? (i := 26) rfl)) (notFace_of_selects (args := #[]) (mvT hZ (hw _ (List.mem_of_getElem? (i := 28) rfl)))) (hw _ (List.mem_of_getElem? (i := 28) rfl)) (hw _ (List.mem_of_getElem? (i := 27) rfl)) (hw _ (List.mem_of_getElem? (i := 6) rfl)) (hw _ (List.mem_of_getElem? (i := 29) rfl)) (by decide) (a := ob7) (argsL := [(.long x3), (.long x6)]) (rest := []) (rm4_2h l Z a0 hw [] ob7 x3 x6 c1_8 c2_8 (0 : Int64) x2 (0 : Int64) (0 : Int64) (0 : Int64) (0 : Int64) (0 : Int64) (0 : Int64) (0 : Int64) (0 : Int64) (0 : Int64) (0 : Int64) (0 : Int64) (0 : Int64) (0 : Int64) (0 : Int64) (8 : Int64) x5 (0 : Int64) (0 : Int64) (0 : Int64) (0 : Int64) (0 : Int64) (0 : Int64) (0 : Int64) (0 : Int64) (0 : Int64) (0 : Int64) (0 : Int64) (0 : Int64) (0 : Int64) (0 : Int64) T31.heap n0 (Nat.le_trans Z0 K0.1) hp100 Eq8 Fs31 Fr31 Fp31 Vr31 Vp31 n12_8 ne1_8 ne2_8 g_ob7 g_c1_8 g_c2_8) (by decide) (by decide) (by decide) (by decide) Eq8 (g := (mkF m 100 #[.val (.long q0), .second, .val (.int p1), .val (.int p2), .val (.int p3), .val (.int p4), .val (.int p5), .val (.long x1), .second, .val (.long x2), .second, .val (.long x3), .second, .val (.long x4), .second, .val (.long x5), .second, .val (.long x6), .second, .val (.ref ob7), .unset, .unset, .unset, .unset, .unset] [(.long x6), (.long x3), (.ref ob7)])) rfl (by rw [hml]; rfl) (lenOf pd__JJ_V_315 rfl) rfl (by show 2 * 0 + _ ≤ _; exact Nat.le_of_eq rfl) (hb hby at_100) rfl ?_
        rintro v43 T43 L43 X43 ⟨rfl, N43q, Kq43, Fs43, Fr43, Fp43, Vr43, Vp43⟩
        have N43 := Fr.app N31 N43q
        have K0 := K0.trans Kq43 (allS (Or.inr sz_ob7) (allS (Or.inr sz_c1_8) (allS (Or.inr sz_c2_8) all0)))
        have Eq8 := Eq8.keep Kq43
        show GG _ _ _ _ _ _ _ T43 (mkF m 103 #[.val (.long q0), .second, .val (.int p1), .val (.int p2), .val (.int p3), .val (.int p4), .val (.int p5), .val (.long x1), .second, .val (.long x2), .second, .val (.long x3), .second, .val (.long x4), .second, .val (.long x5), .second, .val (.long x6), .second, .val (.ref ob7), .unset, .unset, .unset, .unset, .unset] [])
        refine own_go (fun _ => XS.aload X43.here hx rfl (hb hby at_103) rfl rfl) ?_
        show GG _ _ _ _ _ _ _ T43 (mkF m 105 #[.val (.long q0), .second, .val (.int p1), .val (.int p2), .val (.int p3), .val (.int p4), .val (.int p5), .val (.long x1), .second, .val (.long x2), .second, .val (.long x3), .second, .val (.long x4), .second, .val (.long x5), .second, .val (.long x6), .second, .val (.ref ob7), .unset, .unset, .unset, .unset, .unset] [(.ref ob7)])
        refine own_callV X43 hx hZ (y := (⟨"com/example/obliv/obliv/io/SegmentIndex", "toArray", "()[J"⟩ : MethodName)) (z := (⟨"com/example/obliv/obliv/io/SegmentIndex", "toArray", "()[J"⟩ : MethodName)) 0 hown (hw _ (List.mem_of_getElem? (i := 35) rfl)) (hw _ (List.mem_of_getElem? (i := 36) rfl)) (notFace_of_selects (args := #[]) (mvT hZ (hw _ (List.mem_of_getElem? (i := 38) rfl)))) (hw _ (List.mem_of_getElem? (i := 38) rfl)) (hw _ (List.mem_of_getElem? (i := 37) rfl)) (hw _ (List.mem_of_getElem? (i := 6) rfl)) (hw _ (List.mem_of_getElem? (i := 39) rfl)) (by decide) (a := ob7) (argsL := []) (rest := []) (rm6_3 l Z a0 hw [] ob7 c1_8 c2_8 (0 : Int64) x2 x3 (0 : Int64) (0 : Int64) (0 : Int64) (0 : Int64) (0 : Int64) (0 : Int64) (0 : Int64) (0 : Int64) (0 : Int64) (0 : Int64) (0 : Int64) (0 : Int64) (0 : Int64) (8 : Int64) x5 x6 (0 : Int64) (0 : Int64) (0 : Int64) (0 : Int64) (0 : Int64) (0 : Int64) (0 : Int64) (0 : Int64) (0 : Int64) (0 : Int64) (0 : Int64) (0 : Int64) (0 : Int64) T43.heap n0 (Nat.le_trans Z0 K0.1) Fs43 Fr43 Fp43 Vr43 Vp43) (by decide) (by decide) (by decide) (by decide) Eq8 (g := (mkF m 105 #[.val (.long q0), .second, .val (.int p1), .val (.int p2), .val (.int p3), .val (.int p4), .val (.int p5), .val (.long x1), .second, .val (.long x2), .second, .val (.long x3), .second, .val (.long x4), .second, .val (.long x5), .second, .val (.long x6), .second, .val (.ref ob7), .unset, .unset, .unset, .unset, .unset] [(.ref ob7)])) rfl (by rw [hml]; rfl) (lenOf pd____J_246 rfl) rfl (by show 2 * 0 + _ ≤ _; exact Nat.le_of_eq rfl) (hb hby at_105) rfl ?_
        rintro v44 T44 L44 X44 ⟨bq44, rfl, N44q, szq44, Kq44, Vq44⟩
        have N44 := Fr.app N43 N44q
        have K0 := K0.trans Kq44 all0
        have Eq8 := Eq8.keep Kq44
        have Fs43 := Fs43.keep Kq44 nin0
        have Fr43 := Fr43.keep Kq44 nin0
        have Fp43 := Fp43.keep Kq44 nin0
        have Vr43 := Vr43.keep Kq44 nin0
        have Vp43 := Vp43.keep Kq44 nin0
        show GG _ _ _ _ _ _ _ T44 (mkF m 108 #[.val (.long q0), .second, .val (.int p1), .val (.int p2), .val (.int p3), .val (.int p4), .val (.int p5), .val (.long x1), .second, .val (.long x2), .second, .val (.long x3), .second, .val (.long x4), .second, .val (.long x5), .second, .val (.long x6), .second, .val (.ref ob7), .unset, .unset, .unset, .unset, .unset] [(.ref bq44)])
        refine own_go (fun _ => XS.astore X44.here hx rfl (hb hby at_108) rfl rfl (l' := #[.val (.long q0), .second, .val (.int p1), .val (.int p2), .val (.int p3), .val (.int p4), .val (.int p5), .val (.long x1), .second, .val (.long x2), .second, .val (.long x3), .second, .val (.long x4), .second, .val (.long x5), .second, .val (.long x6), .second, .val (.ref ob7), .val (.ref bq44), .unset, .unset, .unset, .unset]) rfl) ?_
        show GG _ _ _ _ _ _ _ T44 (mkF m 110 #[.val (.long q0), .second, .val (.int p1), .val (.int p2), .val (.int p3), .val (.int p4), .val (.int p5), .val (.long x1), .second, .val (.long x2), .second, .val (.long x3), .second, .val (.long x4), .second, .val (.long x5), .second, .val (.long x6), .second, .val (.ref ob7), .val (.ref bq44), .unset, .unset, .unset, .unset] [])
        refine own_go (fun _ => XS.bipush X44.here hx rfl (hb hby at_110)) ?_
        show GG _ _ _ _ _ _ _ T44 (mkF m 112 #[.val (.long q0), .second, .val (.int p1), .val (.int p2), .val (.int p3), .val (.int p4), .val (.int p5), .val (.long x1), .second, .val (.long x2), .second, .val (.long x3), .second, .val (.long x4), .second, .val (.long x5), .second, .val (.long x6), .second, .val (.ref ob7), .val (.ref bq44), .unset, .unset, .unset, .unset] [(.int (6 : Int32))])
        obtain ⟨T45, h45, ob45, g45, X45, e45, E45, V_ob45, E_ob45, st45⟩ := own_newarr X44 hx hZ (hw _ (List.mem_of_getElem? (i := 13) rfl)) rfl (g := (mkF m 112 #[.val (.long q0), .second, .val (.int p1), .val (.int p2), .val (.int p3), .val (.int p4), .val (.int p5), .val (.long x1), .second, .val (.long x2), .second, .val (.long x3), .second, .val (.long x4), .second, .val (.long x5), .second, .val (.long x6), .second, .val (.ref ob7), .val (.ref bq44), .unset, .unset, .unset, .unset] [(.int (6 : Int32))])) rfl (hb hby at_112) rfl (by decide) (cap := 6) (by decide) (by decide) (by decide) (by decide) (ad := "[J") (by decide)
        have ne_ob7_ob45 : ob7 ≠ ob45 := Nat.ne_of_lt (Nat.lt_of_lt_of_le Eq8.lt (Nat.le_of_eq g45.symm))
        have ne_c1_8_ob45 : c1_8 ≠ ob45 := Nat.ne_of_lt (Nat.lt_of_lt_of_le Vr43.lt (Nat.le_of_eq g45.symm))
        have ne_c2_8_ob45 : c2_8 ≠ ob45 := Nat.ne_of_lt (Nat.lt_of_lt_of_le Vp43.lt (Nat.le_of_eq g45.symm))
        have ne_bq44_ob45 : bq44 ≠ ob45 := Nat.ne_of_lt (Nat.lt_of_lt_of_le Vq44.lt (Nat.le_of_eq g45.symm))
        have sz_ob45 : h0.size ≤ ob45 := Nat.le_trans K0.1 (Nat.le_of_eq g45.symm)
        have g_ob45 : n0 ≤ ob45 := Nat.le_trans Z0 sz_ob45
        have K0 := K0.ext E45
        have Eq8 := Eq8.ext E45
        have Fs43 := Fs43.ext E45
        have Fr43 := Fr43.ext E45
        have Fp43 := Fp43.ext E45
        have Vr43 := Vr43.ext E45
        have Vp43 := Vp43.ext E45
        have Vq44 := Vq44.ext E45
        have V_ob45 : Arx Z h45 ob45 .long [(.long (0 : Int64)), (.long (0 : Int64)), (.long (0 : Int64)), (.long (0 : Int64)), (.long (0 : Int64)), (.long (0 : Int64))] := V_ob45
        refine own_go (fun _ => st45 _) ?_
        show GG _ _ _ _ _ _ _ T45 (mkF m 114 #[.val (.long q0), .second, .val (.int p1), .val (.int p2), .val (.int p3), .val (.int p4), .val (.int p5), .val (.long x1), .second, .val (.long x2), .second, .val (.long x3), .second, .val (.long x4), .second, .val (.long x5), .second, .val (.long x6), .second, .val (.ref ob7), .val (.ref bq44), .unset, .unset, .unset, .unset] [(.ref ob45)])
        refine own_go (fun _ => XS.astore X45.here hx rfl (hb hby at_114) rfl rfl (l' := #[.val (.long q0), .second, .val (.int p1), .val (.int p2), .val (.int p3), .val (.int p4), .val (.int p5), .val (.long x1), .second, .val (.long x2), .second, .val (.long x3), .second, .val (.long x4), .second, .val (.long x5), .second, .val (.long x6), .second, .val (.ref ob7), .val (.ref bq44), .val (.ref ob45), .unset, .unset, .unset]) rfl) ?_
        show GG _ _ _ _ _ _ _ T45 (mkF m 116 #[.val (.long q0), .second, .val (.int p1), .val (.int p2), .val (.int p3), .val (.int p4), .val (.int p5), .val (.long x1), .second, .val (.long x2), .second, .val (.long x3), .second, .val (.long x4), .second, .val (.long x5), .second, .val (.long x6), .second, .val (.ref ob7), .val (.ref bq44), .val (.ref ob45), .unset, .unset, .unset] [])
        refine own_go (fun _ => XS.iconst X45.here hx rfl (hb hby at_116)) ?_
        show GG _ _ _ _ _ _ _ T45 (mkF m 117 #[.val (.long q0), .second, .val (.int p1), .val (.int p2), .val (.int p3), .val (.int p4), .val (.int p5), .val (.long x1), .second, .val (.long x2), .second, .val (.long x3), .second, .val (.long x4), .second, .val (.long x5), .second, .val (.long x6), .second, .val (.ref ob7), .val (.ref bq44), .val (.ref ob45), .unset, .unset, .unset] [(.int (0 : Int32))])
        refine own_go (fun _ => XS.istore X45.here hx rfl (hb hby at_117) rfl (l' := #[.val (.long q0), .second, .val (.int p1), .val (.int p2), .val (.int p3), .val (.int p4), .val (.int p5), .val (.long x1), .second, .val (.long x2), .second, .val (.long x3), .second, .val (.long x4), .second, .val (.long x5), .second, .val (.long x6), .second, .val (.ref ob7), .val (.ref bq44), .val (.ref ob45), .val (.int (0 : Int32)), .unset, .unset]) rfl) ?_
        show GG _ _ _ _ _ _ _ T45 (mkF m 119 #[.val (.long q0), .second, .val (.int p1), .val (.int p2), .val (.int p3), .val (.int p4), .val (.int p5), .val (.long x1), .second, .val (.long x2), .second, .val (.long x3), .second, .val (.long x4), .second, .val (.long x5), .second, .val (.long x6), .second, .val (.ref ob7), .val (.ref bq44), .val (.ref ob45), .val (.int (0 : Int32)), .unset, .unset] [])
        refine own_go (fun _ => X45.ldc2Long hx hown (mvT hZ (hw _ (List.mem_of_getElem? (i := 2) rfl))) (g := (mkF m 119 #[.val (.long q0), .second, .val (.int p1), .val (.int p2), .val (.int p3), .val (.int p4), .val (.int p5), .val (.long x1), .second, .val (.long x2), .second, .val (.long x3), .second, .val (.long x4), .second, .val (.long x5), .second, .val (.long x6), .second, .val (.ref ob7), .val (.ref bq44), .val (.ref ob45), .val (.int (0 : Int32)), .unset, .unset] [])) rfl (hb hby at_119) _) ?_
        show GG _ _ _ _ _ _ _ T45 (mkF m 122 #[.val (.long q0), .second, .val (.int p1), .val (.int p2), .val (.int p3), .val (.int p4), .val (.int p5), .val (.long x1), .second, .val (.long x2), .second, .val (.long x3), .second, .val (.long x4), .second, .val (.long x5), .second, .val (.long x6), .second, .val (.ref ob7), .val (.ref bq44), .val (.ref ob45), .val (.int (0 : Int32)), .unset, .unset] [(.long (8 : Int64))])
        refine own_go (fun _ => XS.lstore X45.here hx rfl (hb hby at_122) rfl (l' := #[.val (.long q0), .second, .val (.int p1), .val (.int p2), .val (.int p3), .val (.int p4), .val (.int p5), .val (.long x1), .second, .val (.long x2), .second, .val (.long x3), .second, .val (.long x4), .second, .val (.long x5), .second, .val (.long x6), .second, .val (.ref ob7), .val (.ref bq44), .val (.ref ob45), .val (.int (0 : Int32)), .val (.long (8 : Int64)), .second]) rfl) ?_
        show GG _ _ _ _ _ _ _ T45 (mkF m 124 #[.val (.long q0), .second, .val (.int p1), .val (.int p2), .val (.int p3), .val (.int p4), .val (.int p5), .val (.long x1), .second, .val (.long x2), .second, .val (.long x3), .second, .val (.long x4), .second, .val (.long x5), .second, .val (.long x6), .second, .val (.ref ob7), .val (.ref bq44), .val (.ref ob45), .val (.int (0 : Int32)), .val (.long (8 : Int64)), .second] [])
        refine own_go (fun _ => XS.lload X45.here hx rfl (hb hby at_124) rfl) ?_
        show GG _ _ _ _ _ _ _ T45 (mkF m 126 #[.val (.long q0), .second, .val (.int p1), .val (.int p2), .val (.int p3), .val (.int p4), .val (.int p5), .val (.long x1), .second, .val (.long x2), .second, .val (.long x3), .second, .val (.long x4), .second, .val (.long x5), .second, .val (.long x6), .second, .val (.ref ob7), .val (.ref bq44), .val (.ref ob45), .val (.int (0 : Int32)), .val (.long (8 : Int64)), .second] [(.long x4)])
        refine own_go (fun _ => XS.lload X45.here hx rfl (hb hby at_126) rfl) ?_
        show GG _ _ _ _ _ _ _ T45 (mkF m 128 #[.val (.long q0), .second, .val (.int p1), .val (.int p2), .val (.int p3), .val (.int p4), .val (.int p5), .val (.long x1), .second, .val (.long x2), .second, .val (.long x3), .second, .val (.long x4), .second, .val (.long x5), .second, .val (.long x6), .second, .val (.ref ob7), .val (.ref bq44), .val (.ref ob45), .val (.int (0 : Int32)), .val (.long (8 : Int64)), .second] [(.long (8 : Int64)), (.long x4)])
        refine own_go (fun _ => XS.lsub X45.here hx rfl (hb hby at_128) rfl) ?_
        show GG _ _ _ _ _ _ _ T45 (mkF m 129 #[.val (.long q0), .second, .val (.int p1), .val (.int p2), .val (.int p3), .val (.int p4), .val (.int p5), .val (.long x1), .second, .val (.long x2), .second, .val (.long x3), .second, .val (.long x4), .second, .val (.long x5), .second, .val (.long x6), .second, .val (.ref ob7), .val (.ref bq44), .val (.ref ob45), .val (.int (0 : Int32)), .val (.long (8 : Int64)), .second] [(.long (x4 - (8 : Int64)))])
        refine own_go (fun _ => X45.ldc2Long hx hown (mvT hZ (hw _ (List.mem_of_getElem? (i := 40) rfl))) (g := (mkF m 129 #[.val (.long q0), .second, .val (.int p1), .val (.int p2), .val (.int p3), .val (.int p4), .val (.int p5), .val (.long x1), .second, .val (.long x2), .second, .val (.long x3), .second, .val (.long x4), .second, .val (.long x5), .second, .val (.long x6), .second, .val (.ref ob7), .val (.ref bq44), .val (.ref ob45), .val (.int (0 : Int32)), .val (.long (8 : Int64)), .second] [(.long (x4 - (8 : Int64)))])) rfl (hb hby at_129) _) ?_
        show GG _ _ _ _ _ _ _ T45 (mkF m 132 #[.val (.long q0), .second, .val (.int p1), .val (.int p2), .val (.int p3), .val (.int p4), .val (.int p5), .val (.long x1), .second, .val (.long x2), .second, .val (.long x3), .second, .val (.long x4), .second, .val (.long x5), .second, .val (.long x6), .second, .val (.ref ob7), .val (.ref bq44), .val (.ref ob45), .val (.int (0 : Int32)), .val (.long (8 : Int64)), .second] [(.long (65536 : Int64)), (.long (x4 - (8 : Int64)))])
        refine own_go (fun _ => XS.lcmp X45.here hx rfl (hb hby at_132) rfl) ?_
        show GG _ _ _ _ _ _ _ T45 (mkF m 133 #[.val (.long q0), .second, .val (.int p1), .val (.int p2), .val (.int p3), .val (.int p4), .val (.int p5), .val (.long x1), .second, .val (.long x2), .second, .val (.long x3), .second, .val (.long x4), .second, .val (.long x5), .second, .val (.long x6), .second, .val (.ref ob7), .val (.ref bq44), .val (.ref ob45), .val (.int (0 : Int32)), .val (.long (8 : Int64)), .second] [(.int (lcmpW (x4 - (8 : Int64)) (65536 : Int64)))])
        have hc133 : (x4 - (8 : Int64)) < (65536 : Int64) := hp82
        refine own_go (fun _ => XS.ifYes X45.here hx rfl (pc0 := 133) (pc' := 162) rfl (hb hby at_133) rfl ((if0 _ _).trans (tlt ((lw_lt _ _).mpr hc133)).1) (by decide) (by decide)) ?_
        show GG _ _ _ _ _ _ _ T45 (mkF m 162 #[.val (.long q0), .second, .val (.int p1), .val (.int p2), .val (.int p3), .val (.int p4), .val (.int p5), .val (.long x1), .second, .val (.long x2), .second, .val (.long x3), .second, .val (.long x4), .second, .val (.long x5), .second, .val (.long x6), .second, .val (.ref ob7), .val (.ref bq44), .val (.ref ob45), .val (.int (0 : Int32)), .val (.long (8 : Int64)), .second] [])
        refine own_go (fun _ => XS.lload X45.here hx rfl (hb hby at_162) rfl) ?_
        show GG _ _ _ _ _ _ _ T45 (mkF m 164 #[.val (.long q0), .second, .val (.int p1), .val (.int p2), .val (.int p3), .val (.int p4), .val (.int p5), .val (.long x1), .second, .val (.long x2), .second, .val (.long x3), .second, .val (.long x4), .second, .val (.long x5), .second, .val (.long x6), .second, .val (.ref ob7), .val (.ref bq44), .val (.ref ob45), .val (.int (0 : Int32)), .val (.long (8 : Int64)), .second] [(.long x5)])
        refine own_go (fun _ => XS.lload X45.here hx rfl (hb hby at_164) rfl) ?_
        show GG _ _ _ _ _ _ _ T45 (mkF m 166 #[.val (.long q0), .second, .val (.int p1), .val (.int p2), .val (.int p3), .val (.int p4), .val (.int p5), .val (.long x1), .second, .val (.long x2), .second, .val (.long x3), .second, .val (.long x4), .second, .val (.long x5), .second, .val (.long x6), .second, .val (.ref ob7), .val (.ref bq44), .val (.ref ob45), .val (.int (0 : Int32)), .val (.long (8 : Int64)), .second] [(.long (8 : Int64)), (.long x5)])
        refine own_go (fun _ => XS.lsub X45.here hx rfl (hb hby at_166) rfl) ?_
        show GG _ _ _ _ _ _ _ T45 (mkF m 167 #[.val (.long q0), .second, .val (.int p1), .val (.int p2), .val (.int p3), .val (.int p4), .val (.int p5), .val (.long x1), .second, .val (.long x2), .second, .val (.long x3), .second, .val (.long x4), .second, .val (.long x5), .second, .val (.long x6), .second, .val (.ref ob7), .val (.ref bq44), .val (.ref ob45), .val (.int (0 : Int32)), .val (.long (8 : Int64)), .second] [(.long (x5 - (8 : Int64)))])
        refine own_go (fun _ => X45.ldc2Long hx hown (mvT hZ (hw _ (List.mem_of_getElem? (i := 40) rfl))) (g := (mkF m 167 #[.val (.long q0), .second, .val (.int p1), .val (.int p2), .val (.int p3), .val (.int p4), .val (.int p5), .val (.long x1), .second, .val (.long x2), .second, .val (.long x3), .second, .val (.long x4), .second, .val (.long x5), .second, .val (.long x6), .second, .val (.ref ob7), .val (.ref bq44), .val (.ref ob45), .val (.int (0 : Int32)), .val (.long (8 : Int64)), .second] [(.long (x5 - (8 : Int64)))])) rfl (hb hby at_167) _) ?_
        show GG _ _ _ _ _ _ _ T45 (mkF m 170 #[.val (.long q0), .second, .val (.int p1), .val (.int p2), .val (.int p3), .val (.int p4), .val (.int p5), .val (.long x1), .second, .val (.long x2), .second, .val (.long x3), .second, .val (.long x4), .second, .val (.long x5), .second, .val (.long x6), .second, .val (.ref ob7), .val (.ref bq44), .val (.ref ob45), .val (.int (0 : Int32)), .val (.long (8 : Int64)), .second] [(.long (65536 : Int64)), (.long (x5 - (8 : Int64)))])
        refine own_go (fun _ => XS.lcmp X45.here hx rfl (hb hby at_170) rfl) ?_
        show GG _ _ _ _ _ _ _ T45 (mkF m 171 #[.val (.long q0), .second, .val (.int p1), .val (.int p2), .val (.int p3), .val (.int p4), .val (.int p5), .val (.long x1), .second, .val (.long x2), .second, .val (.long x3), .second, .val (.long x4), .second, .val (.long x5), .second, .val (.long x6), .second, .val (.ref ob7), .val (.ref bq44), .val (.ref ob45), .val (.int (0 : Int32)), .val (.long (8 : Int64)), .second] [(.int (lcmpW (x5 - (8 : Int64)) (65536 : Int64)))])
        have hc171 : ¬ ((x5 - (8 : Int64)) < (65536 : Int64)) := hp91
        refine own_go (fun _ => XS.ifNo X45.here hx rfl (hb hby at_171) rfl ((if0 _ _).trans (flt (fun q => hc171 ((lw_lt _ _).mp q))).1)) ?_
        show GG _ _ _ _ _ _ _ T45 (mkF m 174 #[.val (.long q0), .second, .val (.int p1), .val (.int p2), .val (.int p3), .val (.int p4), .val (.int p5), .val (.long x1), .second, .val (.long x2), .second, .val (.long x3), .second, .val (.long x4), .second, .val (.long x5), .second, .val (.long x6), .second, .val (.ref ob7), .val (.ref bq44), .val (.ref ob45), .val (.int (0 : Int32)), .val (.long (8 : Int64)), .second] [])
        refine own_go (fun _ => XS.aload X45.here hx rfl (hb hby at_174) rfl rfl) ?_
        show GG _ _ _ _ _ _ _ T45 (mkF m 176 #[.val (.long q0), .second, .val (.int p1), .val (.int p2), .val (.int p3), .val (.int p4), .val (.int p5), .val (.long x1), .second, .val (.long x2), .second, .val (.long x3), .second, .val (.long x4), .second, .val (.long x5), .second, .val (.long x6), .second, .val (.ref ob7), .val (.ref bq44), .val (.ref ob45), .val (.int (0 : Int32)), .val (.long (8 : Int64)), .second] [(.ref ob45)])
        refine own_go (fun _ => XS.iload X45.here hx rfl (hb hby at_176) rfl) ?_
        show GG _ _ _ _ _ _ _ T45 (mkF m 178 #[.val (.long q0), .second, .val (.int p1), .val (.int p2), .val (.int p3), .val (.int p4), .val (.int p5), .val (.long x1), .second, .val (.long x2), .second, .val (.long x3), .second, .val (.long x4), .second, .val (.long x5), .second, .val (.long x6), .second, .val (.ref ob7), .val (.ref bq44), .val (.ref ob45), .val (.int (0 : Int32)), .val (.long (8 : Int64)), .second] [(.int (0 : Int32)), (.ref ob45)])
        refine own_go (fun _ => XS.lload X45.here hx rfl (hb hby at_178) rfl) ?_
        show GG _ _ _ _ _ _ _ T45 (mkF m 180 #[.val (.long q0), .second, .val (.int p1), .val (.int p2), .val (.int p3), .val (.int p4), .val (.int p5), .val (.long x1), .second, .val (.long x2), .second, .val (.long x3), .second, .val (.long x4), .second, .val (.long x5), .second, .val (.long x6), .second, .val (.ref ob7), .val (.ref bq44), .val (.ref ob45), .val (.int (0 : Int32)), .val (.long (8 : Int64)), .second] [(.long x2), (.int (0 : Int32)), (.ref ob45)])
        obtain ⟨T46, h46, X46, e46, W46, V46, st46⟩ := own_lastore X45 hx hZ e45 V_ob45 (by decide) (Nat.le_of_ble_eq_true rfl) (g := (mkF m 180 #[.val (.long q0), .second, .val (.int p1), .val (.int p2), .val (.int p3), .val (.int p4), .val (.int p5), .val (.long x1), .second, .val (.long x2), .second, .val (.long x3), .second, .val (.long x4), .second, .val (.long x5), .second, .val (.long x6), .second, .val (.ref ob7), .val (.ref bq44), .val (.ref ob45), .val (.int (0 : Int32)), .val (.long (8 : Int64)), .second] [(.long x2), (.int (0 : Int32)), (.ref ob45)])) rfl rfl (hb hby at_180)
        have K0 := K0.wr W46 (Or.inr sz_ob45)
        have Eq8 := Eq8.wr W46
        have Fs43 := Fs43.other W46 (Or.inl ne_ob7_ob45)
        have Fr43 := Fr43.other W46 (Or.inl ne_ob7_ob45)
        have Fp43 := Fp43.other W46 (Or.inl ne_ob7_ob45)
        have Vr43 := Vr43.other W46 ne_c1_8_ob45
        have Vp43 := Vp43.other W46 ne_c2_8_ob45
        have Vq44 := Vq44.other W46 ne_bq44_ob45
        have E_ob45 := E_ob45.wr W46
        have V_ob45 : Arx Z h46 ob45 .long [(.long x2), (.long (0 : Int64)), (.long (0 : Int64)), (.long (0 : Int64)), (.long (0 : Int64)), (.long (0 : Int64))] := V46
        have N46 := Fr.snoc X46 N44 g_ob45
        refine own_go (fun _ => st46 _) ?_
        show GG _ _ _ _ _ _ _ T46 (mkF m 181 #[.val (.long q0), .second, .val (.int p1), .val (.int p2), .val (.int p3), .val (.int p4), .val (.int p5), .val (.long x1), .second, .val (.long x2), .second, .val (.long x3), .second, .val (.long x4), .second, .val (.long x5), .second, .val (.long x6), .second, .val (.ref ob7), .val (.ref bq44), .val (.ref ob45), .val (.int (0 : Int32)), .val (.long (8 : Int64)), .second] [])
        refine own_go (fun _ => XS.aload X46.here hx rfl (hb hby at_181) rfl rfl) ?_
        show GG _ _ _ _ _ _ _ T46 (mkF m 183 #[.val (.long q0), .second, .val (.int p1), .val (.int p2), .val (.int p3), .val (.int p4), .val (.int p5), .val (.long x1), .second, .val (.long x2), .second, .val (.long x3), .second, .val (.long x4), .second, .val (.long x5), .second, .val (.long x6), .second, .val (.ref ob7), .val (.ref bq44), .val (.ref ob45), .val (.int (0 : Int32)), .val (.long (8 : Int64)), .second] [(.ref ob45)])
        refine own_go (fun _ => XS.iload X46.here hx rfl (hb hby at_183) rfl) ?_
        show GG _ _ _ _ _ _ _ T46 (mkF m 185 #[.val (.long q0), .second, .val (.int p1), .val (.int p2), .val (.int p3), .val (.int p4), .val (.int p5), .val (.long x1), .second, .val (.long x2), .second, .val (.long x3), .second, .val (.long x4), .second, .val (.long x5), .second, .val (.long x6), .second, .val (.ref ob7), .val (.ref bq44), .val (.ref ob45), .val (.int (0 : Int32)), .val (.long (8 : Int64)), .second] [(.int (0 : Int32)), (.ref ob45)])
        refine own_go (fun _ => XS.iconst X46.here hx rfl (hb hby at_185)) ?_
        show GG _ _ _ _ _ _ _ T46 (mkF m 186 #[.val (.long q0), .second, .val (.int p1), .val (.int p2), .val (.int p3), .val (.int p4), .val (.int p5), .val (.long x1), .second, .val (.long x2), .second, .val (.long x3), .second, .val (.long x4), .second, .val (.long x5), .second, .val (.long x6), .second, .val (.ref ob7), .val (.ref bq44), .val (.ref ob45), .val (.int (0 : Int32)), .val (.long (8 : Int64)), .second] [(.int (1 : Int32)), (.int (0 : Int32)), (.ref ob45)])
        refine own_go (fun _ => XS.iadd X46.here hx rfl (hb hby at_186) rfl) ?_
        show GG _ _ _ _ _ _ _ T46 (mkF m 187 #[.val (.long q0), .second, .val (.int p1), .val (.int p2), .val (.int p3), .val (.int p4), .val (.int p5), .val (.long x1), .second, .val (.long x2), .second, .val (.long x3), .second, .val (.long x4), .second, .val (.long x5), .second, .val (.long x6), .second, .val (.ref ob7), .val (.ref bq44), .val (.ref ob45), .val (.int (0 : Int32)), .val (.long (8 : Int64)), .second] [(.int (1 : Int32)), (.ref ob45)])
        refine own_go (fun _ => XS.lload X46.here hx rfl (hb hby at_187) rfl) ?_
        show GG _ _ _ _ _ _ _ T46 (mkF m 189 #[.val (.long q0), .second, .val (.int p1), .val (.int p2), .val (.int p3), .val (.int p4), .val (.int p5), .val (.long x1), .second, .val (.long x2), .second, .val (.long x3), .second, .val (.long x4), .second, .val (.long x5), .second, .val (.long x6), .second, .val (.ref ob7), .val (.ref bq44), .val (.ref ob45), .val (.int (0 : Int32)), .val (.long (8 : Int64)), .second] [(.long x5), (.int (1 : Int32)), (.ref ob45)])
        obtain ⟨T47, h47, X47, e47, W47, V47, st47⟩ := own_lastore X46 hx hZ e46 V_ob45 (by decide) (Nat.le_of_ble_eq_true rfl) (g := (mkF m 189 #[.val (.long q0), .second, .val (.int p1), .val (.int p2), .val (.int p3), .val (.int p4), .val (.int p5), .val (.long x1), .second, .val (.long x2), .second, .val (.long x3), .second, .val (.long x4), .second, .val (.long x5), .second, .val (.long x6), .second, .val (.ref ob7), .val (.ref bq44), .val (.ref ob45), .val (.int (0 : Int32)), .val (.long (8 : Int64)), .second] [(.long x5), (.int (1 : Int32)), (.ref ob45)])) rfl rfl (hb hby at_189)
        have K0 := K0.wr W47 (Or.inr sz_ob45)
        have Eq8 := Eq8.wr W47
        have Fs43 := Fs43.other W47 (Or.inl ne_ob7_ob45)
        have Fr43 := Fr43.other W47 (Or.inl ne_ob7_ob45)
        have Fp43 := Fp43.other W47 (Or.inl ne_ob7_ob45)
        have Vr43 := Vr43.other W47 ne_c1_8_ob45
        have Vp43 := Vp43.other W47 ne_c2_8_ob45
        have Vq44 := Vq44.other W47 ne_bq44_ob45
        have E_ob45 := E_ob45.wr W47
        have V_ob45 : Arx Z h47 ob45 .long [(.long x2), (.long x5), (.long (0 : Int64)), (.long (0 : Int64)), (.long (0 : Int64)), (.long (0 : Int64))] := V47
        have N47 := Fr.snoc X47 N46 g_ob45
        refine own_go (fun _ => st47 _) ?_
        show GG _ _ _ _ _ _ _ T47 (mkF m 190 #[.val (.long q0), .second, .val (.int p1), .val (.int p2), .val (.int p3), .val (.int p4), .val (.int p5), .val (.long x1), .second, .val (.long x2), .second, .val (.long x3), .second, .val (.long x4), .second, .val (.long x5), .second, .val (.long x6), .second, .val (.ref ob7), .val (.ref bq44), .val (.ref ob45), .val (.int (0 : Int32)), .val (.long (8 : Int64)), .second] [])
        refine own_go (fun _ => XS.iload X47.here hx rfl (hb hby at_190) rfl) ?_
        show GG _ _ _ _ _ _ _ T47 (mkF m 192 #[.val (.long q0), .second, .val (.int p1), .val (.int p2), .val (.int p3), .val (.int p4), .val (.int p5), .val (.long x1), .second, .val (.long x2), .second, .val (.long x3), .second, .val (.long x4), .second, .val (.long x5), .second, .val (.long x6), .second, .val (.ref ob7), .val (.ref bq44), .val (.ref ob45), .val (.int (0 : Int32)), .val (.long (8 : Int64)), .second] [(.int (0 : Int32))])
        refine own_go (fun _ => XS.iconst X47.here hx rfl (hb hby at_192)) ?_
        show GG _ _ _ _ _ _ _ T47 (mkF m 193 #[.val (.long q0), .second, .val (.int p1), .val (.int p2), .val (.int p3), .val (.int p4), .val (.int p5), .val (.long x1), .second, .val (.long x2), .second, .val (.long x3), .second, .val (.long x4), .second, .val (.long x5), .second, .val (.long x6), .second, .val (.ref ob7), .val (.ref bq44), .val (.ref ob45), .val (.int (0 : Int32)), .val (.long (8 : Int64)), .second] [(.int (2 : Int32)), (.int (0 : Int32))])
        refine own_go (fun _ => XS.iadd X47.here hx rfl (hb hby at_193) rfl) ?_
        show GG _ _ _ _ _ _ _ T47 (mkF m 194 #[.val (.long q0), .second, .val (.int p1), .val (.int p2), .val (.int p3), .val (.int p4), .val (.int p5), .val (.long x1), .second, .val (.long x2), .second, .val (.long x3), .second, .val (.long x4), .second, .val (.long x5), .second, .val (.long x6), .second, .val (.ref ob7), .val (.ref bq44), .val (.ref ob45), .val (.int (0 : Int32)), .val (.long (8 : Int64)), .second] [(.int (2 : Int32))])
        refine own_go (fun _ => XS.istore X47.here hx rfl (hb hby at_194) rfl (l' := #[.val (.long q0), .second, .val (.int p1), .val (.int p2), .val (.int p3), .val (.int p4), .val (.int p5), .val (.long x1), .second, .val (.long x2), .second, .val (.long x3), .second, .val (.long x4), .second, .val (.long x5), .second, .val (.long x6), .second, .val (.ref ob7), .val (.ref bq44), .val (.ref ob45), .val (.int (2 : Int32)), .val (.long (8 : Int64)), .second]) rfl) ?_
        show GG _ _ _ _ _ _ _ T47 (mkF m 196 #[.val (.long q0), .second, .val (.int p1), .val (.int p2), .val (.int p3), .val (.int p4), .val (.int p5), .val (.long x1), .second, .val (.long x2), .second, .val (.long x3), .second, .val (.long x4), .second, .val (.long x5), .second, .val (.long x6), .second, .val (.ref ob7), .val (.ref bq44), .val (.ref ob45), .val (.int (2 : Int32)), .val (.long (8 : Int64)), .second] [])
        refine own_go (fun _ => XS.lload X47.here hx rfl (hb hby at_196) rfl) ?_
        show GG _ _ _ _ _ _ _ T47 (mkF m 198 #[.val (.long q0), .second, .val (.int p1), .val (.int p2), .val (.int p3), .val (.int p4), .val (.int p5), .val (.long x1), .second, .val (.long x2), .second, .val (.long x3), .second, .val (.long x4), .second, .val (.long x5), .second, .val (.long x6), .second, .val (.ref ob7), .val (.ref bq44), .val (.ref ob45), .val (.int (2 : Int32)), .val (.long (8 : Int64)), .second] [(.long x5)])
        refine own_go (fun _ => XS.lstore X47.here hx rfl (hb hby at_198) rfl (l' := #[.val (.long q0), .second, .val (.int p1), .val (.int p2), .val (.int p3), .val (.int p4), .val (.int p5), .val (.long x1), .second, .val (.long x2), .second, .val (.long x3), .second, .val (.long x4), .second, .val (.long x5), .second, .val (.long x6), .second, .val (.ref ob7), .val (.ref bq44), .val (.ref ob45), .val (.int (2 : Int32)), .val (.long x5), .second]) rfl) ?_
        show GG _ _ _ _ _ _ _ T47 (mkF m 200 #[.val (.long q0), .second, .val (.int p1), .val (.int p2), .val (.int p3), .val (.int p4), .val (.int p5), .val (.long x1), .second, .val (.long x2), .second, .val (.long x3), .second, .val (.long x4), .second, .val (.long x5), .second, .val (.long x6), .second, .val (.ref ob7), .val (.ref bq44), .val (.ref ob45), .val (.int (2 : Int32)), .val (.long x5), .second] [])
        refine own_go (fun _ => XS.lload X47.here hx rfl (hb hby at_200) rfl) ?_
        show GG _ _ _ _ _ _ _ T47 (mkF m 202 #[.val (.long q0), .second, .val (.int p1), .val (.int p2), .val (.int p3), .val (.int p4), .val (.int p5), .val (.long x1), .second, .val (.long x2), .second, .val (.long x3), .second, .val (.long x4), .second, .val (.long x5), .second, .val (.long x6), .second, .val (.ref ob7), .val (.ref bq44), .val (.ref ob45), .val (.int (2 : Int32)), .val (.long x5), .second] [(.long x6)])
        refine own_go (fun _ => XS.lload X47.here hx rfl (hb hby at_202) rfl) ?_
        show GG _ _ _ _ _ _ _ T47 (mkF m 204 #[.val (.long q0), .second, .val (.int p1), .val (.int p2), .val (.int p3), .val (.int p4), .val (.int p5), .val (.long x1), .second, .val (.long x2), .second, .val (.long x3), .second, .val (.long x4), .second, .val (.long x5), .second, .val (.long x6), .second, .val (.ref ob7), .val (.ref bq44), .val (.ref ob45), .val (.int (2 : Int32)), .val (.long x5), .second] [(.long x5), (.long x6)])
        refine own_go (fun _ => XS.lsub X47.here hx rfl (hb hby at_204) rfl) ?_
        show GG _ _ _ _ _ _ _ T47 (mkF m 205 #[.val (.long q0), .second, .val (.int p1), .val (.int p2), .val (.int p3), .val (.int p4), .val (.int p5), .val (.long x1), .second, .val (.long x2), .second, .val (.long x3), .second, .val (.long x4), .second, .val (.long x5), .second, .val (.long x6), .second, .val (.ref ob7), .val (.ref bq44), .val (.ref ob45), .val (.int (2 : Int32)), .val (.long x5), .second] [(.long (x6 - x5))])
        refine own_go (fun _ => X47.ldc2Long hx hown (mvT hZ (hw _ (List.mem_of_getElem? (i := 40) rfl))) (g := (mkF m 205 #[.val (.long q0), .second, .val (.int p1), .val (.int p2), .val (.int p3), .val (.int p4), .val (.int p5), .val (.long x1), .second, .val (.long x2), .second, .val (.long x3), .second, .val (.long x4), .second, .val (.long x5), .second, .val (.long x6), .second, .val (.ref ob7), .val (.ref bq44), .val (.ref ob45), .val (.int (2 : Int32)), .val (.long x5), .second] [(.long (x6 - x5))])) rfl (hb hby at_205) _) ?_
        show GG _ _ _ _ _ _ _ T47 (mkF m 208 #[.val (.long q0), .second, .val (.int p1), .val (.int p2), .val (.int p3), .val (.int p4), .val (.int p5), .val (.long x1), .second, .val (.long x2), .second, .val (.long x3), .second, .val (.long x4), .second, .val (.long x5), .second, .val (.long x6), .second, .val (.ref ob7), .val (.ref bq44), .val (.ref ob45), .val (.int (2 : Int32)), .val (.long x5), .second] [(.long (65536 : Int64)), (.long (x6 - x5))])
        refine own_go (fun _ => XS.lcmp X47.here hx rfl (hb hby at_208) rfl) ?_
        show GG _ _ _ _ _ _ _ T47 (mkF m 209 #[.val (.long q0), .second, .val (.int p1), .val (.int p2), .val (.int p3), .val (.int p4), .val (.int p5), .val (.long x1), .second, .val (.long x2), .second, .val (.long x3), .second, .val (.long x4), .second, .val (.long x5), .second, .val (.long x6), .second, .val (.ref ob7), .val (.ref bq44), .val (.ref ob45), .val (.int (2 : Int32)), .val (.long x5), .second] [(.int (lcmpW (x6 - x5) (65536 : Int64)))])
        have hc209 : ¬ ((x6 - x5) < (65536 : Int64)) := hp100
        refine own_go (fun _ => XS.ifNo X47.here hx rfl (hb hby at_209) rfl ((if0 _ _).trans (flt (fun q => hc209 ((lw_lt _ _).mp q))).1)) ?_
        show GG _ _ _ _ _ _ _ T47 (mkF m 212 #[.val (.long q0), .second, .val (.int p1), .val (.int p2), .val (.int p3), .val (.int p4), .val (.int p5), .val (.long x1), .second, .val (.long x2), .second, .val (.long x3), .second, .val (.long x4), .second, .val (.long x5), .second, .val (.long x6), .second, .val (.ref ob7), .val (.ref bq44), .val (.ref ob45), .val (.int (2 : Int32)), .val (.long x5), .second] [])
        refine own_go (fun _ => XS.aload X47.here hx rfl (hb hby at_212) rfl rfl) ?_
        show GG _ _ _ _ _ _ _ T47 (mkF m 214 #[.val (.long q0), .second, .val (.int p1), .val (.int p2), .val (.int p3), .val (.int p4), .val (.int p5), .val (.long x1), .second, .val (.long x2), .second, .val (.long x3), .second, .val (.long x4), .second, .val (.long x5), .second, .val (.long x6), .second, .val (.ref ob7), .val (.ref bq44), .val (.ref ob45), .val (.int (2 : Int32)), .val (.long x5), .second] [(.ref ob45)])
        refine own_go (fun _ => XS.iload X47.here hx rfl (hb hby at_214) rfl) ?_
        show GG _ _ _ _ _ _ _ T47 (mkF m 216 #[.val (.long q0), .second, .val (.int p1), .val (.int p2), .val (.int p3), .val (.int p4), .val (.int p5), .val (.long x1), .second, .val (.long x2), .second, .val (.long x3), .second, .val (.long x4), .second, .val (.long x5), .second, .val (.long x6), .second, .val (.ref ob7), .val (.ref bq44), .val (.ref ob45), .val (.int (2 : Int32)), .val (.long x5), .second] [(.int (2 : Int32)), (.ref ob45)])
        refine own_go (fun _ => XS.lload X47.here hx rfl (hb hby at_216) rfl) ?_
        show GG _ _ _ _ _ _ _ T47 (mkF m 218 #[.val (.long q0), .second, .val (.int p1), .val (.int p2), .val (.int p3), .val (.int p4), .val (.int p5), .val (.long x1), .second, .val (.long x2), .second, .val (.long x3), .second, .val (.long x4), .second, .val (.long x5), .second, .val (.long x6), .second, .val (.ref ob7), .val (.ref bq44), .val (.ref ob45), .val (.int (2 : Int32)), .val (.long x5), .second] [(.long x3), (.int (2 : Int32)), (.ref ob45)])
        obtain ⟨T48, h48, X48, e48, W48, V48, st48⟩ := own_lastore X47 hx hZ e47 V_ob45 (by decide) (Nat.le_of_ble_eq_true rfl) (g := (mkF m 218 #[.val (.long q0), .second, .val (.int p1), .val (.int p2), .val (.int p3), .val (.int p4), .val (.int p5), .val (.long x1), .second, .val (.long x2), .second, .val (.long x3), .second, .val (.long x4), .second, .val (.long x5), .second, .val (.long x6), .second, .val (.ref ob7), .val (.ref bq44), .val (.ref ob45), .val (.int (2 : Int32)), .val (.long x5), .second] [(.long x3), (.int (2 : Int32)), (.ref ob45)])) rfl rfl (hb hby at_218)
        have K0 := K0.wr W48 (Or.inr sz_ob45)
        have Eq8 := Eq8.wr W48
        have Fs43 := Fs43.other W48 (Or.inl ne_ob7_ob45)
        have Fr43 := Fr43.other W48 (Or.inl ne_ob7_ob45)
        have Fp43 := Fp43.other W48 (Or.inl ne_ob7_ob45)
        have Vr43 := Vr43.other W48 ne_c1_8_ob45
        have Vp43 := Vp43.other W48 ne_c2_8_ob45
        have Vq44 := Vq44.other W48 ne_bq44_ob45
        have E_ob45 := E_ob45.wr W48
        have V_ob45 : Arx Z h48 ob45 .long [(.long x2), (.long x5), (.long x3), (.long (0 : Int64)), (.long (0 : Int64)), (.long (0 : Int64))] := V48
        have N48 := Fr.snoc X48 N47 g_ob45
        refine own_go (fun _ => st48 _) ?_
        show GG _ _ _ _ _ _ _ T48 (mkF m 219 #[.val (.long q0), .second, .val (.int p1), .val (.int p2), .val (.int p3), .val (.int p4), .val (.int p5), .val (.long x1), .second, .val (.long x2), .second, .val (.long x3), .second, .val (.long x4), .second, .val (.long x5), .second, .val (.long x6), .second, .val (.ref ob7), .val (.ref bq44), .val (.ref ob45), .val (.int (2 : Int32)), .val (.long x5), .second] [])
        refine own_go (fun _ => XS.aload X48.here hx rfl (hb hby at_219) rfl rfl) ?_
        show GG _ _ _ _ _ _ _ T48 (mkF m 221 #[.val (.long q0), .second, .val (.int p1), .val (.int p2), .val (.int p3), .val (.int p4), .val (.int p5), .val (.long x1), .second, .val (.long x2), .second, .val (.long x3), .second, .val (.long x4), .second, .val (.long x5), .second, .val (.long x6), .second, .val (.ref ob7), .val (.ref bq44), .val (.ref ob45), .val (.int (2 : Int32)), .val (.long x5), .second] [(.ref ob45)])
        refine own_go (fun _ => XS.iload X48.here hx rfl (hb hby at_221) rfl) ?_
        show GG _ _ _ _ _ _ _ T48 (mkF m 223 #[.val (.long q0), .second, .val (.int p1), .val (.int p2), .val (.int p3), .val (.int p4), .val (.int p5), .val (.long x1), .second, .val (.long x2), .second, .val (.long x3), .second, .val (.long x4), .second, .val (.long x5), .second, .val (.long x6), .second, .val (.ref ob7), .val (.ref bq44), .val (.ref ob45), .val (.int (2 : Int32)), .val (.long x5), .second] [(.int (2 : Int32)), (.ref ob45)])
        refine own_go (fun _ => XS.iconst X48.here hx rfl (hb hby at_223)) ?_
        show GG _ _ _ _ _ _ _ T48 (mkF m 224 #[.val (.long q0), .second, .val (.int p1), .val (.int p2), .val (.int p3), .val (.int p4), .val (.int p5), .val (.long x1), .second, .val (.long x2), .second, .val (.long x3), .second, .val (.long x4), .second, .val (.long x5), .second, .val (.long x6), .second, .val (.ref ob7), .val (.ref bq44), .val (.ref ob45), .val (.int (2 : Int32)), .val (.long x5), .second] [(.int (1 : Int32)), (.int (2 : Int32)), (.ref ob45)])
        refine own_go (fun _ => XS.iadd X48.here hx rfl (hb hby at_224) rfl) ?_
        show GG _ _ _ _ _ _ _ T48 (mkF m 225 #[.val (.long q0), .second, .val (.int p1), .val (.int p2), .val (.int p3), .val (.int p4), .val (.int p5), .val (.long x1), .second, .val (.long x2), .second, .val (.long x3), .second, .val (.long x4), .second, .val (.long x5), .second, .val (.long x6), .second, .val (.ref ob7), .val (.ref bq44), .val (.ref ob45), .val (.int (2 : Int32)), .val (.long x5), .second] [(.int (3 : Int32)), (.ref ob45)])
        refine own_go (fun _ => XS.lload X48.here hx rfl (hb hby at_225) rfl) ?_
        show GG _ _ _ _ _ _ _ T48 (mkF m 227 #[.val (.long q0), .second, .val (.int p1), .val (.int p2), .val (.int p3), .val (.int p4), .val (.int p5), .val (.long x1), .second, .val (.long x2), .second, .val (.long x3), .second, .val (.long x4), .second, .val (.long x5), .second, .val (.long x6), .second, .val (.ref ob7), .val (.ref bq44), .val (.ref ob45), .val (.int (2 : Int32)), .val (.long x5), .second] [(.long x6), (.int (3 : Int32)), (.ref ob45)])
        obtain ⟨T49, h49, X49, e49, W49, V49, st49⟩ := own_lastore X48 hx hZ e48 V_ob45 (by decide) (Nat.le_of_ble_eq_true rfl) (g := (mkF m 227 #[.val (.long q0), .second, .val (.int p1), .val (.int p2), .val (.int p3), .val (.int p4), .val (.int p5), .val (.long x1), .second, .val (.long x2), .second, .val (.long x3), .second, .val (.long x4), .second, .val (.long x5), .second, .val (.long x6), .second, .val (.ref ob7), .val (.ref bq44), .val (.ref ob45), .val (.int (2 : Int32)), .val (.long x5), .second] [(.long x6), (.int (3 : Int32)), (.ref ob45)])) rfl rfl (hb hby at_227)
        have K0 := K0.wr W49 (Or.inr sz_ob45)
        have Eq8 := Eq8.wr W49
        have Fs43 := Fs43.other W49 (Or.inl ne_ob7_ob45)
        have Fr43 := Fr43.other W49 (Or.inl ne_ob7_ob45)
        have Fp43 := Fp43.other W49 (Or.inl ne_ob7_ob45)
        have Vr43 := Vr43.other W49 ne_c1_8_ob45
        have Vp43 := Vp43.other W49 ne_c2_8_ob45
        have Vq44 := Vq44.other W49 ne_bq44_ob45
        have E_ob45 := E_ob45.wr W49
        have V_ob45 : Arx Z h49 ob45 .long [(.long x2), (.long x5), (.long x3), (.long x6), (.long (0 : Int64)), (.long (0 : Int64))] := V49
        have N49 := Fr.snoc X49 N48 g_ob45
        refine own_go (fun _ => st49 _) ?_
        show GG _ _ _ _ _ _ _ T49 (mkF m 228 #[.val (.long q0), .second, .val (.int p1), .val (.int p2), .val (.int p3), .val (.int p4), .val (.int p5), .val (.long x1), .second, .val (.long x2), .second, .val (.long x3), .second, .val (.long x4), .second, .val (.long x5), .second, .val (.long x6), .second, .val (.ref ob7), .val (.ref bq44), .val (.ref ob45), .val (.int (2 : Int32)), .val (.long x5), .second] [])
        refine own_go (fun _ => XS.iload X49.here hx rfl (hb hby at_228) rfl) ?_
        show GG _ _ _ _ _ _ _ T49 (mkF m 230 #[.val (.long q0), .second, .val (.int p1), .val (.int p2), .val (.int p3), .val (.int p4), .val (.int p5), .val (.long x1), .second, .val (.long x2), .second, .val (.long x3), .second, .val (.long x4), .second, .val (.long x5), .second, .val (.long x6), .second, .val (.ref ob7), .val (.ref bq44), .val (.ref ob45), .val (.int (2 : Int32)), .val (.long x5), .second] [(.int (2 : Int32))])
        refine own_go (fun _ => XS.iconst X49.here hx rfl (hb hby at_230)) ?_
        show GG _ _ _ _ _ _ _ T49 (mkF m 231 #[.val (.long q0), .second, .val (.int p1), .val (.int p2), .val (.int p3), .val (.int p4), .val (.int p5), .val (.long x1), .second, .val (.long x2), .second, .val (.long x3), .second, .val (.long x4), .second, .val (.long x5), .second, .val (.long x6), .second, .val (.ref ob7), .val (.ref bq44), .val (.ref ob45), .val (.int (2 : Int32)), .val (.long x5), .second] [(.int (2 : Int32)), (.int (2 : Int32))])
        refine own_go (fun _ => XS.iadd X49.here hx rfl (hb hby at_231) rfl) ?_
        show GG _ _ _ _ _ _ _ T49 (mkF m 232 #[.val (.long q0), .second, .val (.int p1), .val (.int p2), .val (.int p3), .val (.int p4), .val (.int p5), .val (.long x1), .second, .val (.long x2), .second, .val (.long x3), .second, .val (.long x4), .second, .val (.long x5), .second, .val (.long x6), .second, .val (.ref ob7), .val (.ref bq44), .val (.ref ob45), .val (.int (2 : Int32)), .val (.long x5), .second] [(.int (4 : Int32))])
        refine own_go (fun _ => XS.istore X49.here hx rfl (hb hby at_232) rfl (l' := #[.val (.long q0), .second, .val (.int p1), .val (.int p2), .val (.int p3), .val (.int p4), .val (.int p5), .val (.long x1), .second, .val (.long x2), .second, .val (.long x3), .second, .val (.long x4), .second, .val (.long x5), .second, .val (.long x6), .second, .val (.ref ob7), .val (.ref bq44), .val (.ref ob45), .val (.int (4 : Int32)), .val (.long x5), .second]) rfl) ?_
        show GG _ _ _ _ _ _ _ T49 (mkF m 234 #[.val (.long q0), .second, .val (.int p1), .val (.int p2), .val (.int p3), .val (.int p4), .val (.int p5), .val (.long x1), .second, .val (.long x2), .second, .val (.long x3), .second, .val (.long x4), .second, .val (.long x5), .second, .val (.long x6), .second, .val (.ref ob7), .val (.ref bq44), .val (.ref ob45), .val (.int (4 : Int32)), .val (.long x5), .second] [])
        refine own_go (fun _ => XS.lload X49.here hx rfl (hb hby at_234) rfl) ?_
        show GG _ _ _ _ _ _ _ T49 (mkF m 236 #[.val (.long q0), .second, .val (.int p1), .val (.int p2), .val (.int p3), .val (.int p4), .val (.int p5), .val (.long x1), .second, .val (.long x2), .second, .val (.long x3), .second, .val (.long x4), .second, .val (.long x5), .second, .val (.long x6), .second, .val (.ref ob7), .val (.ref bq44), .val (.ref ob45), .val (.int (4 : Int32)), .val (.long x5), .second] [(.long x6)])
        refine own_go (fun _ => XS.lstore X49.here hx rfl (hb hby at_236) rfl (l' := #[.val (.long q0), .second, .val (.int p1), .val (.int p2), .val (.int p3), .val (.int p4), .val (.int p5), .val (.long x1), .second, .val (.long x2), .second, .val (.long x3), .second, .val (.long x4), .second, .val (.long x5), .second, .val (.long x6), .second, .val (.ref ob7), .val (.ref bq44), .val (.ref ob45), .val (.int (4 : Int32)), .val (.long x6), .second]) rfl) ?_
        show GG _ _ _ _ _ _ _ T49 (mkF m 238 #[.val (.long q0), .second, .val (.int p1), .val (.int p2), .val (.int p3), .val (.int p4), .val (.int p5), .val (.long x1), .second, .val (.long x2), .second, .val (.long x3), .second, .val (.long x4), .second, .val (.long x5), .second, .val (.long x6), .second, .val (.ref ob7), .val (.ref bq44), .val (.ref ob45), .val (.int (4 : Int32)), .val (.long x6), .second] [])
        refine own_go (fun _ => XS.aload X49.here hx rfl (hb hby at_238) rfl rfl) ?_
        show GG _ _ _ _ _ _ _ T49 (mkF m 240 #[.val (.long q0), .second, .val (.int p1), .val (.int p2), .val (.int p3), .val (.int p4), .val (.int p5), .val (.long x1), .second, .val (.long x2), .second, .val (.long x3), .second, .val (.long x4), .second, .val (.long x5), .second, .val (.long x6), .second, .val (.ref ob7), .val (.ref bq44), .val (.ref ob45), .val (.int (4 : Int32)), .val (.long x6), .second] [(.ref bq44)])
        refine own_go (fun _ => own_len X49 hx hZ e49 Vq44 (g := (mkF m 240 #[.val (.long q0), .second, .val (.int p1), .val (.int p2), .val (.int p3), .val (.int p4), .val (.int p5), .val (.long x1), .second, .val (.long x2), .second, .val (.long x3), .second, .val (.long x4), .second, .val (.long x5), .second, .val (.long x6), .second, .val (.ref ob7), .val (.ref bq44), .val (.ref ob45), .val (.int (4 : Int32)), .val (.long x6), .second] [(.ref bq44)])) rfl rfl (hb hby at_240) _) ?_
        show GG _ _ _ _ _ _ _ T49 (mkF m 241 #[.val (.long q0), .second, .val (.int p1), .val (.int p2), .val (.int p3), .val (.int p4), .val (.int p5), .val (.long x1), .second, .val (.long x2), .second, .val (.long x3), .second, .val (.long x4), .second, .val (.long x5), .second, .val (.long x6), .second, .val (.ref ob7), .val (.ref bq44), .val (.ref ob45), .val (.int (4 : Int32)), .val (.long x6), .second] [(.int (4 : Int32))])
        refine own_go (fun _ => XS.iload X49.here hx rfl (hb hby at_241) rfl) ?_
        show GG _ _ _ _ _ _ _ T49 (mkF m 243 #[.val (.long q0), .second, .val (.int p1), .val (.int p2), .val (.int p3), .val (.int p4), .val (.int p5), .val (.long x1), .second, .val (.long x2), .second, .val (.long x3), .second, .val (.long x4), .second, .val (.long x5), .second, .val (.long x6), .second, .val (.ref ob7), .val (.ref bq44), .val (.ref ob45), .val (.int (4 : Int32)), .val (.long x6), .second] [(.int (4 : Int32)), (.int (4 : Int32))])
        have hc243 : (4 : Int32) = (4 : Int32) := by decide
        refine own_go (fun _ => XS.icmpNo X49.here hx rfl (hb hby at_243) rfl (teq hc243).2) ?_
        show GG _ _ _ _ _ _ _ T49 (mkF m 246 #[.val (.long q0), .second, .val (.int p1), .val (.int p2), .val (.int p3), .val (.int p4), .val (.int p5), .val (.long x1), .second, .val (.long x2), .second, .val (.long x3), .second, .val (.long x4), .second, .val (.long x5), .second, .val (.long x6), .second, .val (.ref ob7), .val (.ref bq44), .val (.ref ob45), .val (.int (4 : Int32)), .val (.long x6), .second] [])
        refine own_go (fun _ => XS.aload X49.here hx rfl (hb hby at_246) rfl rfl) ?_
        show GG _ _ _ _ _ _ _ T49 (mkF m 248 #[.val (.long q0), .second, .val (.int p1), .val (.int p2), .val (.int p3), .val (.int p4), .val (.int p5), .val (.long x1), .second, .val (.long x2), .second, .val (.long x3), .second, .val (.long x4), .second, .val (.long x5), .second, .val (.long x6), .second, .val (.ref ob7), .val (.ref bq44), .val (.ref ob45), .val (.int (4 : Int32)), .val (.long x6), .second] [(.ref bq44)])
        refine own_go (fun _ => XS.aload X49.here hx rfl (hb hby at_248) rfl rfl) ?_
        show GG _ _ _ _ _ _ _ T49 (mkF m 250 #[.val (.long q0), .second, .val (.int p1), .val (.int p2), .val (.int p3), .val (.int p4), .val (.int p5), .val (.long x1), .second, .val (.long x2), .second, .val (.long x3), .second, .val (.long x4), .second, .val (.long x5), .second, .val (.long x6), .second, .val (.ref ob7), .val (.ref bq44), .val (.ref ob45), .val (.int (4 : Int32)), .val (.long x6), .second] [(.ref ob45), (.ref bq44)])
        refine own_go (fun _ => XS.iconst X49.here hx rfl (hb hby at_250)) ?_
        show GG _ _ _ _ _ _ _ T49 (mkF m 251 #[.val (.long q0), .second, .val (.int p1), .val (.int p2), .val (.int p3), .val (.int p4), .val (.int p5), .val (.long x1), .second, .val (.long x2), .second, .val (.long x3), .second, .val (.long x4), .second, .val (.long x5), .second, .val (.long x6), .second, .val (.ref ob7), .val (.ref bq44), .val (.ref ob45), .val (.int (4 : Int32)), .val (.long x6), .second] [(.int (0 : Int32)), (.ref ob45), (.ref bq44)])
        refine own_go (fun _ => XS.iload X49.here hx rfl (hb hby at_251) rfl) ?_
        show GG _ _ _ _ _ _ _ T49 (mkF m 253 #[.val (.long q0), .second, .val (.int p1), .val (.int p2), .val (.int p3), .val (.int p4), .val (.int p5), .val (.long x1), .second, .val (.long x2), .second, .val (.long x3), .second, .val (.long x4), .second, .val (.long x5), .second, .val (.long x6), .second, .val (.ref ob7), .val (.ref bq44), .val (.ref ob45), .val (.int (4 : Int32)), .val (.long x6), .second] [(.int (4 : Int32)), (.int (0 : Int32)), (.ref ob45), (.ref bq44)])
        refine own_callS X49 hx hZ (y := (⟨"com/example/obliv/obliv/io/SegmentIndexToArrayPinLaw", "eqAt", "([J[JII)Z"⟩ : MethodName)) 0 hown (hw _ (List.mem_of_getElem? (i := 41) rfl)) (hw _ (List.mem_of_getElem? (i := 42) rfl)) (hw _ (List.mem_of_getElem? (i := 43) rfl)) (hw _ (List.mem_of_getElem? (i := 44) rfl)) (by decide) (argsL := [(.ref bq44), (.ref ob45), (.int (0 : Int32)), (.int (4 : Int32))]) (rest := []) (rm7 l Z a0 hw [] bq44 ob45 (0 : Int32) (4 : Int32) [(.long x2), (.long x5), (.long x3), (.long x6)] [(.long x2), (.long x5), (.long x3), (.long x6), (.long (0 : Int64)), (.long (0 : Int64))] h49 n0 (Nat.le_trans Z0 K0.1) Vq44 V_ob45 (Or.inr ⟨by decide, _, rfl, rfl⟩)) (by decide) (by decide) (by decide) (by decide) (g := (mkF m 253 #[.val (.long q0), .second, .val (.int p1), .val (.int p2), .val (.int p3), .val (.int p4), .val (.int p5), .val (.long x1), .second, .val (.long x2), .second, .val (.long x3), .second, .val (.long x4), .second, .val (.long x5), .second, .val (.long x6), .second, .val (.ref ob7), .val (.ref bq44), .val (.ref ob45), .val (.int (4 : Int32)), .val (.long x6), .second] [(.int (4 : Int32)), (.int (0 : Int32)), (.ref ob45), (.ref bq44)])) rfl (by rw [hml]; rfl) (lenOf pd___J_JII_Z_647 rfl) rfl (by show 2 * 0 + _ ≤ _; exact Nat.le_of_eq rfl) (hb hby at_253) e49 ?_
        rintro v50 T50 L50 X50 ⟨rfl, N50q, hh50⟩
        have N50 := Fr.app N49 N50q
        show GG _ _ _ _ _ _ _ T50 (mkF m 256 #[.val (.long q0), .second, .val (.int p1), .val (.int p2), .val (.int p3), .val (.int p4), .val (.int p5), .val (.long x1), .second, .val (.long x2), .second, .val (.long x3), .second, .val (.long x4), .second, .val (.long x5), .second, .val (.long x6), .second, .val (.ref ob7), .val (.ref bq44), .val (.ref ob45), .val (.int (4 : Int32)), .val (.long x6), .second] [(.int (1 : Int32))])
        have hc256 : ¬ ((1 : Int32) = (0 : Int32)) := by decide
        refine own_go (fun _ => XS.ifNo X50.here hx rfl (hb hby at_256) rfl ((if0 _ _).trans (feq hc256).1)) ?_
        show GG _ _ _ _ _ _ _ T50 (mkF m 259 #[.val (.long q0), .second, .val (.int p1), .val (.int p2), .val (.int p3), .val (.int p4), .val (.int p5), .val (.long x1), .second, .val (.long x2), .second, .val (.long x3), .second, .val (.long x4), .second, .val (.long x5), .second, .val (.long x6), .second, .val (.ref ob7), .val (.ref bq44), .val (.ref ob45), .val (.int (4 : Int32)), .val (.long x6), .second] [])
        refine own_go (fun _ => XS.aload X50.here hx rfl (hb hby at_259) rfl rfl) ?_
        show GG _ _ _ _ _ _ _ T50 (mkF m 261 #[.val (.long q0), .second, .val (.int p1), .val (.int p2), .val (.int p3), .val (.int p4), .val (.int p5), .val (.long x1), .second, .val (.long x2), .second, .val (.long x3), .second, .val (.long x4), .second, .val (.long x5), .second, .val (.long x6), .second, .val (.ref ob7), .val (.ref bq44), .val (.ref ob45), .val (.int (4 : Int32)), .val (.long x6), .second] [(.ref bq44)])
        refine own_go (fun _ => XS.aload X50.here hx rfl (hb hby at_261) rfl rfl) ?_
        show GG _ _ _ _ _ _ _ T50 (mkF m 263 #[.val (.long q0), .second, .val (.int p1), .val (.int p2), .val (.int p3), .val (.int p4), .val (.int p5), .val (.long x1), .second, .val (.long x2), .second, .val (.long x3), .second, .val (.long x4), .second, .val (.long x5), .second, .val (.long x6), .second, .val (.ref ob7), .val (.ref bq44), .val (.ref ob45), .val (.int (4 : Int32)), .val (.long x6), .second] [(.ref ob45), (.ref bq44)])
        refine own_go (fun _ => XS.iconst X50.here hx rfl (hb hby at_263)) ?_
        show GG _ _ _ _ _ _ _ T50 (mkF m 264 #[.val (.long q0), .second, .val (.int p1), .val (.int p2), .val (.int p3), .val (.int p4), .val (.int p5), .val (.long x1), .second, .val (.long x2), .second, .val (.long x3), .second, .val (.long x4), .second, .val (.long x5), .second, .val (.long x6), .second, .val (.ref ob7), .val (.ref bq44), .val (.ref ob45), .val (.int (4 : Int32)), .val (.long x6), .second] [(.int (1 : Int32)), (.ref ob45), (.ref bq44)])
        refine own_go (fun _ => XS.iload X50.here hx rfl (hb hby at_264) rfl) ?_
        show GG _ _ _ _ _ _ _ T50 (mkF m 266 #[.val (.long q0), .second, .val (.int p1), .val (.int p2), .val (.int p3), .val (.int p4), .val (.int p5), .val (.long x1), .second, .val (.long x2), .second, .val (.long x3), .second, .val (.long x4), .second, .val (.long x5), .second, .val (.long x6), .second, .val (.ref ob7), .val (.ref bq44), .val (.ref ob45), .val (.int (4 : Int32)), .val (.long x6), .second] [(.int (4 : Int32)), (.int (1 : Int32)), (.ref ob45), (.ref bq44)])
        refine own_callS X50 hx hZ (y := (⟨"com/example/obliv/obliv/io/SegmentIndexToArrayPinLaw", "eqAt", "([J[JII)Z"⟩ : MethodName)) 0 hown (hw _ (List.mem_of_getElem? (i := 41) rfl)) (hw _ (List.mem_of_getElem? (i := 42) rfl)) (hw _ (List.mem_of_getElem? (i := 43) rfl)) (hw _ (List.mem_of_getElem? (i := 44) rfl)) (by decide) (argsL := [(.ref bq44), (.ref ob45), (.int (1 : Int32)), (.int (4 : Int32))]) (rest := []) (rm7 l Z a0 hw [] bq44 ob45 (1 : Int32) (4 : Int32) [(.long x2), (.long x5), (.long x3), (.long x6)] [(.long x2), (.long x5), (.long x3), (.long x6), (.long (0 : Int64)), (.long (0 : Int64))] h49 n0 (Nat.le_trans Z0 K0.1) Vq44 V_ob45 (Or.inr ⟨by decide, _, rfl, rfl⟩)) (by decide) (by decide) (by decide) (by decide) (g := (mkF m 266 #[.val (.long q0), .second, .val (.int p1), .val (.int p2), .val (.int p3), .val (.int p4), .val (.int p5), .val (.long x1), .second, .val (.long x2), .second, .val (.long x3), .second, .val (.long x4), .second, .val (.long x5), .second, .val (.long x6), .second, .val (.ref ob7), .val (.ref bq44), .val (.ref ob45), .val (.int (4 : Int32)), .val (.long x6), .second] [(.int (4 : Int32)), (.int (1 : Int32)), (.ref ob45), (.ref bq44)])) rfl (by rw [hml]; rfl) (lenOf pd___J_JII_Z_647 rfl) rfl (by show 2 * 0 + _ ≤ _; exact Nat.le_of_eq rfl) (hb hby at_266) hh50 ?_
        rintro v51 T51 L51 X51 ⟨rfl, N51q, hh51⟩
        have N51 := Fr.app N50 N51q
        show GG _ _ _ _ _ _ _ T51 (mkF m 269 #[.val (.long q0), .second, .val (.int p1), .val (.int p2), .val (.int p3), .val (.int p4), .val (.int p5), .val (.long x1), .second, .val (.long x2), .second, .val (.long x3), .second, .val (.long x4), .second, .val (.long x5), .second, .val (.long x6), .second, .val (.ref ob7), .val (.ref bq44), .val (.ref ob45), .val (.int (4 : Int32)), .val (.long x6), .second] [(.int (1 : Int32))])
        have hc269 : ¬ ((1 : Int32) = (0 : Int32)) := by decide
        refine own_go (fun _ => XS.ifNo X51.here hx rfl (hb hby at_269) rfl ((if0 _ _).trans (feq hc269).1)) ?_
        show GG _ _ _ _ _ _ _ T51 (mkF m 272 #[.val (.long q0), .second, .val (.int p1), .val (.int p2), .val (.int p3), .val (.int p4), .val (.int p5), .val (.long x1), .second, .val (.long x2), .second, .val (.long x3), .second, .val (.long x4), .second, .val (.long x5), .second, .val (.long x6), .second, .val (.ref ob7), .val (.ref bq44), .val (.ref ob45), .val (.int (4 : Int32)), .val (.long x6), .second] [])
        refine own_go (fun _ => XS.aload X51.here hx rfl (hb hby at_272) rfl rfl) ?_
        show GG _ _ _ _ _ _ _ T51 (mkF m 274 #[.val (.long q0), .second, .val (.int p1), .val (.int p2), .val (.int p3), .val (.int p4), .val (.int p5), .val (.long x1), .second, .val (.long x2), .second, .val (.long x3), .second, .val (.long x4), .second, .val (.long x5), .second, .val (.long x6), .second, .val (.ref ob7), .val (.ref bq44), .val (.ref ob45), .val (.int (4 : Int32)), .val (.long x6), .second] [(.ref bq44)])
        refine own_go (fun _ => XS.aload X51.here hx rfl (hb hby at_274) rfl rfl) ?_
        show GG _ _ _ _ _ _ _ T51 (mkF m 276 #[.val (.long q0), .second, .val (.int p1), .val (.int p2), .val (.int p3), .val (.int p4), .val (.int p5), .val (.long x1), .second, .val (.long x2), .second, .val (.long x3), .second, .val (.long x4), .second, .val (.long x5), .second, .val (.long x6), .second, .val (.ref ob7), .val (.ref bq44), .val (.ref ob45), .val (.int (4 : Int32)), .val (.long x6), .second] [(.ref ob45), (.ref bq44)])
        refine own_go (fun _ => XS.iconst X51.here hx rfl (hb hby at_276)) ?_
        show GG _ _ _ _ _ _ _ T51 (mkF m 277 #[.val (.long q0), .second, .val (.int p1), .val (.int p2), .val (.int p3), .val (.int p4), .val (.int p5), .val (.long x1), .second, .val (.long x2), .second, .val (.long x3), .second, .val (.long x4), .second, .val (.long x5), .second, .val (.long x6), .second, .val (.ref ob7), .val (.ref bq44), .val (.ref ob45), .val (.int (4 : Int32)), .val (.long x6), .second] [(.int (2 : Int32)), (.ref ob45), (.ref bq44)])
        refine own_go (fun _ => XS.iload X51.here hx rfl (hb hby at_277) rfl) ?_
        show GG _ _ _ _ _ _ _ T51 (mkF m 279 #[.val (.long q0), .second, .val (.int p1), .val (.int p2), .val (.int p3), .val (.int p4), .val (.int p5), .val (.long x1), .second, .val (.long x2), .second, .val (.long x3), .second, .val (.long x4), .second, .val (.long x5), .second, .val (.long x6), .second, .val (.ref ob7), .val (.ref bq44), .val (.ref ob45), .val (.int (4 : Int32)), .val (.long x6), .second] [(.int (4 : Int32)), (.int (2 : Int32)), (.ref ob45), (.ref bq44)])
        refine own_callS X51 hx hZ (y := (⟨"com/example/obliv/obliv/io/SegmentIndexToArrayPinLaw", "eqAt", "([J[JII)Z"⟩ : MethodName)) 0 hown (hw _ (List.mem_of_getElem? (i := 41) rfl)) (hw _ (List.mem_of_getElem? (i := 42) rfl)) (hw _ (List.mem_of_getElem? (i := 43) rfl)) (hw _ (List.mem_of_getElem? (i := 44) rfl)) (by decide) (argsL := [(.ref bq44), (.ref ob45), (.int (2 : Int32)), (.int (4 : Int32))]) (rest := []) (rm7 l Z a0 hw [] bq44 ob45 (2 : Int32) (4 : Int32) [(.long x2), (.long x5), (.long x3), (.long x6)] [(.long x2), (.long x5), (.long x3), (.long x6), (.long (0 : Int64)), (.long (0 : Int64))] h49 n0 (Nat.le_trans Z0 K0.1) Vq44 V_ob45 (Or.inr ⟨by decide, _, rfl, rfl⟩)) (by decide) (by decide) (by decide) (by decide) (g := (mkF m 279 #[.val (.long q0), .second, .val (.int p1), .val (.int p2), .val (.int p3), .val (.int p4), .val (.int p5), .val (.long x1), .second, .val (.long x2), .second, .val (.long x3), .second, .val (.long x4), .second, .val (.long x5), .second, .val (.long x6), .second, .val (.ref ob7), .val (.ref bq44), .val (.ref ob45), .val (.int (4 : Int32)), .val (.long x6), .second] [(.int (4 : Int32)), (.int (2 : Int32)), (.ref ob45), (.ref bq44)])) rfl (by rw [hml]; rfl) (lenOf pd___J_JII_Z_647 rfl) rfl (by show 2 * 0 + _ ≤ _; exact Nat.le_of_eq rfl) (hb hby at_279) hh51 ?_
        rintro v52 T52 L52 X52 ⟨rfl, N52q, hh52⟩
        have N52 := Fr.app N51 N52q
        show GG _ _ _ _ _ _ _ T52 (mkF m 282 #[.val (.long q0), .second, .val (.int p1), .val (.int p2), .val (.int p3), .val (.int p4), .val (.int p5), .val (.long x1), .second, .val (.long x2), .second, .val (.long x3), .second, .val (.long x4), .second, .val (.long x5), .second, .val (.long x6), .second, .val (.ref ob7), .val (.ref bq44), .val (.ref ob45), .val (.int (4 : Int32)), .val (.long x6), .second] [(.int (1 : Int32))])
        have hc282 : ¬ ((1 : Int32) = (0 : Int32)) := by decide
        refine own_go (fun _ => XS.ifNo X52.here hx rfl (hb hby at_282) rfl ((if0 _ _).trans (feq hc282).1)) ?_
        show GG _ _ _ _ _ _ _ T52 (mkF m 285 #[.val (.long q0), .second, .val (.int p1), .val (.int p2), .val (.int p3), .val (.int p4), .val (.int p5), .val (.long x1), .second, .val (.long x2), .second, .val (.long x3), .second, .val (.long x4), .second, .val (.long x5), .second, .val (.long x6), .second, .val (.ref ob7), .val (.ref bq44), .val (.ref ob45), .val (.int (4 : Int32)), .val (.long x6), .second] [])
        refine own_go (fun _ => XS.aload X52.here hx rfl (hb hby at_285) rfl rfl) ?_
        show GG _ _ _ _ _ _ _ T52 (mkF m 287 #[.val (.long q0), .second, .val (.int p1), .val (.int p2), .val (.int p3), .val (.int p4), .val (.int p5), .val (.long x1), .second, .val (.long x2), .second, .val (.long x3), .second, .val (.long x4), .second, .val (.long x5), .second, .val (.long x6), .second, .val (.ref ob7), .val (.ref bq44), .val (.ref ob45), .val (.int (4 : Int32)), .val (.long x6), .second] [(.ref bq44)])
        refine own_go (fun _ => XS.aload X52.here hx rfl (hb hby at_287) rfl rfl) ?_
        show GG _ _ _ _ _ _ _ T52 (mkF m 289 #[.val (.long q0), .second, .val (.int p1), .val (.int p2), .val (.int p3), .val (.int p4), .val (.int p5), .val (.long x1), .second, .val (.long x2), .second, .val (.long x3), .second, .val (.long x4), .second, .val (.long x5), .second, .val (.long x6), .second, .val (.ref ob7), .val (.ref bq44), .val (.ref ob45), .val (.int (4 : Int32)), .val (.long x6), .second] [(.ref ob45), (.ref bq44)])
        refine own_go (fun _ => XS.iconst X52.here hx rfl (hb hby at_289)) ?_
        show GG _ _ _ _ _ _ _ T52 (mkF m 290 #[.val (.long q0), .second, .val (.int p1), .val (.int p2), .val (.int p3), .val (.int p4), .val (.int p5), .val (.long x1), .second, .val (.long x2), .second, .val (.long x3), .second, .val (.long x4), .second, .val (.long x5), .second, .val (.long x6), .second, .val (.ref ob7), .val (.ref bq44), .val (.ref ob45), .val (.int (4 : Int32)), .val (.long x6), .second] [(.int (3 : Int32)), (.ref ob45), (.ref bq44)])
        refine own_go (fun _ => XS.iload X52.here hx rfl (hb hby at_290) rfl) ?_
        show GG _ _ _ _ _ _ _ T52 (mkF m 292 #[.val (.long q0), .second, .val (.int p1), .val (.int p2), .val (.int p3), .val (.int p4), .val (.int p5), .val (.long x1), .second, .val (.long x2), .second, .val (.long x3), .second, .val (.long x4), .second, .val (.long x5), .second, .val (.long x6), .second, .val (.ref ob7), .val (.ref bq44), .val (.ref ob45), .val (.int (4 : Int32)), .val (.long x6), .second] [(.int (4 : Int32)), (.int (3 : Int32)), (.ref ob45), (.ref bq44)])
        refine own_callS X52 hx hZ (y := (⟨"com/example/obliv/obliv/io/SegmentIndexToArrayPinLaw", "eqAt", "([J[JII)Z"⟩ : MethodName)) 0 hown (hw _ (List.mem_of_getElem? (i := 41) rfl)) (hw _ (List.mem_of_getElem? (i := 42) rfl)) (hw _ (List.mem_of_getElem? (i := 43) rfl)) (hw _ (List.mem_of_getElem? (i := 44) rfl)) (by decide) (argsL := [(.ref bq44), (.ref ob45), (.int (3 : Int32)), (.int (4 : Int32))]) (rest := []) (rm7 l Z a0 hw [] bq44 ob45 (3 : Int32) (4 : Int32) [(.long x2), (.long x5), (.long x3), (.long x6)] [(.long x2), (.long x5), (.long x3), (.long x6), (.long (0 : Int64)), (.long (0 : Int64))] h49 n0 (Nat.le_trans Z0 K0.1) Vq44 V_ob45 (Or.inr ⟨by decide, _, rfl, rfl⟩)) (by decide) (by decide) (by decide) (by decide) (g := (mkF m 292 #[.val (.long q0), .second, .val (.int p1), .val (.int p2), .val (.int p3), .val (.int p4), .val (.int p5), .val (.long x1), .second, .val (.long x2), .second, .val (.long x3), .second, .val (.long x4), .second, .val (.long x5), .second, .val (.long x6), .second, .val (.ref ob7), .val (.ref bq44), .val (.ref ob45), .val (.int (4 : Int32)), .val (.long x6), .second] [(.int (4 : Int32)), (.int (3 : Int32)), (.ref ob45), (.ref bq44)])) rfl (by rw [hml]; rfl) (lenOf pd___J_JII_Z_647 rfl) rfl (by show 2 * 0 + _ ≤ _; exact Nat.le_of_eq rfl) (hb hby at_292) hh52 ?_
        rintro v53 T53 L53 X53 ⟨rfl, N53q, hh53⟩
        have N53 := Fr.app N52 N53q
        show GG _ _ _ _ _ _ _ T53 (mkF m 295 #[.val (.long q0), .second, .val (.int p1), .val (.int p2), .val (.int p3), .val (.int p4), .val (.int p5), .val (.long x1), .second, .val (.long x2), .second, .val (.long x3), .second, .val (.long x4), .second, .val (.long x5), .second, .val (.long x6), .second, .val (.ref ob7), .val (.ref bq44), .val (.ref ob45), .val (.int (4 : Int32)), .val (.long x6), .second] [(.int (1 : Int32))])
        have hc295 : ¬ ((1 : Int32) = (0 : Int32)) := by decide
        refine own_go (fun _ => XS.ifNo X53.here hx rfl (hb hby at_295) rfl ((if0 _ _).trans (feq hc295).1)) ?_
        show GG _ _ _ _ _ _ _ T53 (mkF m 298 #[.val (.long q0), .second, .val (.int p1), .val (.int p2), .val (.int p3), .val (.int p4), .val (.int p5), .val (.long x1), .second, .val (.long x2), .second, .val (.long x3), .second, .val (.long x4), .second, .val (.long x5), .second, .val (.long x6), .second, .val (.ref ob7), .val (.ref bq44), .val (.ref ob45), .val (.int (4 : Int32)), .val (.long x6), .second] [])
        refine own_go (fun _ => XS.aload X53.here hx rfl (hb hby at_298) rfl rfl) ?_
        show GG _ _ _ _ _ _ _ T53 (mkF m 300 #[.val (.long q0), .second, .val (.int p1), .val (.int p2), .val (.int p3), .val (.int p4), .val (.int p5), .val (.long x1), .second, .val (.long x2), .second, .val (.long x3), .second, .val (.long x4), .second, .val (.long x5), .second, .val (.long x6), .second, .val (.ref ob7), .val (.ref bq44), .val (.ref ob45), .val (.int (4 : Int32)), .val (.long x6), .second] [(.ref bq44)])
        refine own_go (fun _ => XS.aload X53.here hx rfl (hb hby at_300) rfl rfl) ?_
        show GG _ _ _ _ _ _ _ T53 (mkF m 302 #[.val (.long q0), .second, .val (.int p1), .val (.int p2), .val (.int p3), .val (.int p4), .val (.int p5), .val (.long x1), .second, .val (.long x2), .second, .val (.long x3), .second, .val (.long x4), .second, .val (.long x5), .second, .val (.long x6), .second, .val (.ref ob7), .val (.ref bq44), .val (.ref ob45), .val (.int (4 : Int32)), .val (.long x6), .second] [(.ref ob45), (.ref bq44)])
        refine own_go (fun _ => XS.iconst X53.here hx rfl (hb hby at_302)) ?_
        show GG _ _ _ _ _ _ _ T53 (mkF m 303 #[.val (.long q0), .second, .val (.int p1), .val (.int p2), .val (.int p3), .val (.int p4), .val (.int p5), .val (.long x1), .second, .val (.long x2), .second, .val (.long x3), .second, .val (.long x4), .second, .val (.long x5), .second, .val (.long x6), .second, .val (.ref ob7), .val (.ref bq44), .val (.ref ob45), .val (.int (4 : Int32)), .val (.long x6), .second] [(.int (4 : Int32)), (.ref ob45), (.ref bq44)])
        refine own_go (fun _ => XS.iload X53.here hx rfl (hb hby at_303) rfl) ?_
        show GG _ _ _ _ _ _ _ T53 (mkF m 305 #[.val (.long q0), .second, .val (.int p1), .val (.int p2), .val (.int p3), .val (.int p4), .val (.int p5), .val (.long x1), .second, .val (.long x2), .second, .val (.long x3), .second, .val (.long x4), .second, .val (.long x5), .second, .val (.long x6), .second, .val (.ref ob7), .val (.ref bq44), .val (.ref ob45), .val (.int (4 : Int32)), .val (.long x6), .second] [(.int (4 : Int32)), (.int (4 : Int32)), (.ref ob45), (.ref bq44)])
        refine own_callS X53 hx hZ (y := (⟨"com/example/obliv/obliv/io/SegmentIndexToArrayPinLaw", "eqAt", "([J[JII)Z"⟩ : MethodName)) 0 hown (hw _ (List.mem_of_getElem? (i := 41) rfl)) (hw _ (List.mem_of_getElem? (i := 42) rfl)) (hw _ (List.mem_of_getElem? (i := 43) rfl)) (hw _ (List.mem_of_getElem? (i := 44) rfl)) (by decide) (argsL := [(.ref bq44), (.ref ob45), (.int (4 : Int32)), (.int (4 : Int32))]) (rest := []) (rm7 l Z a0 hw [] bq44 ob45 (4 : Int32) (4 : Int32) [(.long x2), (.long x5), (.long x3), (.long x6)] [(.long x2), (.long x5), (.long x3), (.long x6), (.long (0 : Int64)), (.long (0 : Int64))] h49 n0 (Nat.le_trans Z0 K0.1) Vq44 V_ob45 (Or.inl (by decide))) (by decide) (by decide) (by decide) (by decide) (g := (mkF m 305 #[.val (.long q0), .second, .val (.int p1), .val (.int p2), .val (.int p3), .val (.int p4), .val (.int p5), .val (.long x1), .second, .val (.long x2), .second, .val (.long x3), .second, .val (.long x4), .second, .val (.long x5), .second, .val (.long x6), .second, .val (.ref ob7), .val (.ref bq44), .val (.ref ob45), .val (.int (4 : Int32)), .val (.long x6), .second] [(.int (4 : Int32)), (.int (4 : Int32)), (.ref ob45), (.ref bq44)])) rfl (by rw [hml]; rfl) (lenOf pd___J_JII_Z_647 rfl) rfl (by show 2 * 0 + _ ≤ _; exact Nat.le_of_eq rfl) (hb hby at_305) hh53 ?_
        rintro v54 T54 L54 X54 ⟨rfl, N54q, hh54⟩
        have N54 := Fr.app N53 N54q
        show GG _ _ _ _ _ _ _ T54 (mkF m 308 #[.val (.long q0), .second, .val (.int p1), .val (.int p2), .val (.int p3), .val (.int p4), .val (.int p5), .val (.long x1), .second, .val (.long x2), .second, .val (.long x3), .second, .val (.long x4), .second, .val (.long x5), .second, .val (.long x6), .second, .val (.ref ob7), .val (.ref bq44), .val (.ref ob45), .val (.int (4 : Int32)), .val (.long x6), .second] [(.int (1 : Int32))])
        have hc308 : ¬ ((1 : Int32) = (0 : Int32)) := by decide
        refine own_go (fun _ => XS.ifNo X54.here hx rfl (hb hby at_308) rfl ((if0 _ _).trans (feq hc308).1)) ?_
        show GG _ _ _ _ _ _ _ T54 (mkF m 311 #[.val (.long q0), .second, .val (.int p1), .val (.int p2), .val (.int p3), .val (.int p4), .val (.int p5), .val (.long x1), .second, .val (.long x2), .second, .val (.long x3), .second, .val (.long x4), .second, .val (.long x5), .second, .val (.long x6), .second, .val (.ref ob7), .val (.ref bq44), .val (.ref ob45), .val (.int (4 : Int32)), .val (.long x6), .second] [])
        refine own_go (fun _ => XS.aload X54.here hx rfl (hb hby at_311) rfl rfl) ?_
        show GG _ _ _ _ _ _ _ T54 (mkF m 313 #[.val (.long q0), .second, .val (.int p1), .val (.int p2), .val (.int p3), .val (.int p4), .val (.int p5), .val (.long x1), .second, .val (.long x2), .second, .val (.long x3), .second, .val (.long x4), .second, .val (.long x5), .second, .val (.long x6), .second, .val (.ref ob7), .val (.ref bq44), .val (.ref ob45), .val (.int (4 : Int32)), .val (.long x6), .second] [(.ref bq44)])
        refine own_go (fun _ => XS.aload X54.here hx rfl (hb hby at_313) rfl rfl) ?_
        show GG _ _ _ _ _ _ _ T54 (mkF m 315 #[.val (.long q0), .second, .val (.int p1), .val (.int p2), .val (.int p3), .val (.int p4), .val (.int p5), .val (.long x1), .second, .val (.long x2), .second, .val (.long x3), .second, .val (.long x4), .second, .val (.long x5), .second, .val (.long x6), .second, .val (.ref ob7), .val (.ref bq44), .val (.ref ob45), .val (.int (4 : Int32)), .val (.long x6), .second] [(.ref ob45), (.ref bq44)])
        refine own_go (fun _ => XS.iconst X54.here hx rfl (hb hby at_315)) ?_
        show GG _ _ _ _ _ _ _ T54 (mkF m 316 #[.val (.long q0), .second, .val (.int p1), .val (.int p2), .val (.int p3), .val (.int p4), .val (.int p5), .val (.long x1), .second, .val (.long x2), .second, .val (.long x3), .second, .val (.long x4), .second, .val (.long x5), .second, .val (.long x6), .second, .val (.ref ob7), .val (.ref bq44), .val (.ref ob45), .val (.int (4 : Int32)), .val (.long x6), .second] [(.int (5 : Int32)), (.ref ob45), (.ref bq44)])
        refine own_go (fun _ => XS.iload X54.here hx rfl (hb hby at_316) rfl) ?_
        show GG _ _ _ _ _ _ _ T54 (mkF m 318 #[.val (.long q0), .second, .val (.int p1), .val (.int p2), .val (.int p3), .val (.int p4), .val (.int p5), .val (.long x1), .second, .val (.long x2), .second, .val (.long x3), .second, .val (.long x4), .second, .val (.long x5), .second, .val (.long x6), .second, .val (.ref ob7), .val (.ref bq44), .val (.ref ob45), .val (.int (4 : Int32)), .val (.long x6), .second] [(.int (4 : Int32)), (.int (5 : Int32)), (.ref ob45), (.ref bq44)])
        refine own_callS X54 hx hZ (y := (⟨"com/example/obliv/obliv/io/SegmentIndexToArrayPinLaw", "eqAt", "([J[JII)Z"⟩ : MethodName)) 0 hown (hw _ (List.mem_of_getElem? (i := 41) rfl)) (hw _ (List.mem_of_getElem? (i := 42) rfl)) (hw _ (List.mem_of_getElem? (i := 43) rfl)) (hw _ (List.mem_of_getElem? (i := 44) rfl)) (by decide) (argsL := [(.ref bq44), (.ref ob45), (.int (5 : Int32)), (.int (4 : Int32))]) (rest := []) (rm7 l Z a0 hw [] bq44 ob45 (5 : Int32) (4 : Int32) [(.long x2), (.long x5), (.long x3), (.long x6)] [(.long x2), (.long x5), (.long x3), (.long x6), (.long (0 : Int64)), (.long (0 : Int64))] h49 n0 (Nat.le_trans Z0 K0.1) Vq44 V_ob45 (Or.inl (by decide))) (by decide) (by decide) (by decide) (by decide) (g := (mkF m 318 #[.val (.long q0), .second, .val (.int p1), .val (.int p2), .val (.int p3), .val (.int p4), .val (.int p5), .val (.long x1), .second, .val (.long x2), .second, .val (.long x3), .second, .val (.long x4), .second, .val (.long x5), .second, .val (.long x6), .second, .val (.ref ob7), .val (.ref bq44), .val (.ref ob45), .val (.int (4 : Int32)), .val (.long x6), .second] [(.int (4 : Int32)), (.int (5 : Int32)), (.ref ob45), (.ref bq44)])) rfl (by rw [hml]; rfl) (lenOf pd___J_JII_Z_647 rfl) rfl (by show 2 * 0 + _ ≤ _; exact Nat.le_of_eq rfl) (hb hby at_318) hh54 ?_
        rintro v55 T55 L55 X55 ⟨rfl, N55q, hh55⟩
        have N55 := Fr.app N54 N55q
        show GG _ _ _ _ _ _ _ T55 (mkF m 321 #[.val (.long q0), .second, .val (.int p1), .val (.int p2), .val (.int p3), .val (.int p4), .val (.int p5), .val (.long x1), .second, .val (.long x2), .second, .val (.long x3), .second, .val (.long x4), .second, .val (.long x5), .second, .val (.long x6), .second, .val (.ref ob7), .val (.ref bq44), .val (.ref ob45), .val (.int (4 : Int32)), .val (.long x6), .second] [(.int (1 : Int32))])
        have hc321 : ¬ ((1 : Int32) = (0 : Int32)) := by decide
        refine own_go (fun _ => XS.ifNo X55.here hx rfl (hb hby at_321) rfl ((if0 _ _).trans (feq hc321).1)) ?_
        show GG _ _ _ _ _ _ _ T55 (mkF m 324 #[.val (.long q0), .second, .val (.int p1), .val (.int p2), .val (.int p3), .val (.int p4), .val (.int p5), .val (.long x1), .second, .val (.long x2), .second, .val (.long x3), .second, .val (.long x4), .second, .val (.long x5), .second, .val (.long x6), .second, .val (.ref ob7), .val (.ref bq44), .val (.ref ob45), .val (.int (4 : Int32)), .val (.long x6), .second] [])
        refine own_go (fun _ => XS.iconst X55.here hx rfl (hb hby at_324)) ?_
        show GG _ _ _ _ _ _ _ T55 (mkF m 325 #[.val (.long q0), .second, .val (.int p1), .val (.int p2), .val (.int p3), .val (.int p4), .val (.int p5), .val (.long x1), .second, .val (.long x2), .second, .val (.long x3), .second, .val (.long x4), .second, .val (.long x5), .second, .val (.long x6), .second, .val (.ref ob7), .val (.ref bq44), .val (.ref ob45), .val (.int (4 : Int32)), .val (.long x6), .second] [(.int (1 : Int32))])
        refine own_go (fun _ => XS.goto X55.here hx rfl (pc0 := 325) (pc' := 329) rfl (hb hby at_325) (by decide) (by decide)) ?_
        show GG _ _ _ _ _ _ _ T55 (mkF m 329 #[.val (.long q0), .second, .val (.int p1), .val (.int p2), .val (.int p3), .val (.int p4), .val (.int p5), .val (.long x1), .second, .val (.long x2), .second, .val (.long x3), .second, .val (.long x4), .second, .val (.long x5), .second, .val (.long x6), .second, .val (.ref ob7), .val (.ref bq44), .val (.ref ob45), .val (.int (4 : Int32)), .val (.long x6), .second] [(.int (1 : Int32))])
        refine own_ret X55 hx hlk (t := .boolean) (w := (.int (1 : Int32))) Bd.returns rfl (Or.inl ⟨rfl, by simp, _, rfl⟩) (hb hby at_329) (by decide) (by decide) ?_
        show Q0 Z q0 p1 p2 p3 p4 p5 h0 n0 (some (.int (1 : Int32))) T55.heap _
        rw [hh55]
        exact ⟨rfl, N55⟩
  · skip
    refine own_callV X8 hx hZ (y := (⟨"com/example/obliv/obliv/io/SegmentIndex", "add", "(JJ)V"⟩ : MethodName)) (z := (⟨"com/example/obliv/obliv/io/SegmentIndex", "add", "(JJ)V"⟩ : MethodName)) 0 hown (hw _ (List.mem_of_getElem? (i := 25) rfl)) (hw _ (List.mem_of_getElem? (i := 26) rfl)) (notFace_of_selects (args := #[]) (mvT hZ (hw _ (List.mem_of_getElem? (i := 28) rfl)))) (hw _ (List.mem_of_getElem? (i := 28) rfl)) (hw _ (List.mem_of_getElem? (i := 27) rfl)) (hw _ (List.mem_of_getElem? (i := 6) rfl)) (hw _ (List.mem_of_getElem? (i := 29) rfl)) (by decide) (a := ob7) (argsL := [(.long x1), (.long x4)]) (rest := []) (rm4_1h l Z a0 hw [] ob7 x1 x4 c1_8 c2_8 (0 : Int64) (0 : Int64) (0 : Int64) (0 : Int64) (0 : Int64) (0 : Int64) (0 : Int64) (0 : Int64) (0 : Int64) (0 : Int64) (0 : Int64) (0 : Int64) (0 : Int64) (0 : Int64) (0 : Int64) (0 : Int64) (8 : Int64) (0 : Int64) (0 : Int64) (0 : Int64) (0 : Int64) (0 : Int64) (0 : Int64) (0 : Int64) (0 : Int64) (0 : Int64) (0 : Int64) (0 : Int64) (0 : Int64) (0 : Int64) (0 : Int64) (0 : Int64) T8.heap n0 (Nat.le_trans Z0 K0.1) hp82 Eq8 Fs8 Fr8 Fp8 Vr8 Vp8 n12_8 ne1_8 ne2_8 g_ob7 g_c1_8 g_c2_8) (by decide) (by decide) (by decide) (by decide) Eq8 (g := (mkF m 82 #[.val (.long q0), .second, .val (.int p1), .val (.int p2), .val (.int p3), .val (.int p4), .val (.int p5), .val (.long x1), .second, .val (.long x2), .second, .val (.long x3), .second, .val (.long x4), .second, .val (.long x5), .second, .val (.long x6), .second, .val (.ref ob7), .unset, .unset, .unset, .unset, .unset] [(.long x4), (.long x1), (.ref ob7)])) rfl (by rw [hml]; rfl) (lenOf pd__JJ_V_315 rfl) rfl (by show 2 * 0 + _ ≤ _; exact Nat.le_of_eq rfl) (hb hby at_82) rfl ?_
    rintro v56 T56 L56 X56 ⟨rfl, N56q, Kq56, Fs56, Fr56, Fp56, Vr56, Vp56⟩
    have N56 := Fr.app N8 N56q
    have K0 := K0.trans Kq56 (allS (Or.inr sz_ob7) (allS (Or.inr sz_c1_8) (allS (Or.inr sz_c2_8) all0)))
    have Eq8 := Eq8.keep Kq56
    show GG _ _ _ _ _ _ _ T56 (mkF m 85 #[.val (.long q0), .second, .val (.int p1), .val (.int p2), .val (.int p3), .val (.int p4), .val (.int p5), .val (.long x1), .second, .val (.long x2), .second, .val (.long x3), .second, .val (.long x4), .second, .val (.long x5), .second, .val (.long x6), .second, .val (.ref ob7), .unset, .unset, .unset, .unset, .unset] [])
    refine own_go (fun _ => XS.aload X56.here hx rfl (hb hby at_85) rfl rfl) ?_
    show GG _ _ _ _ _ _ _ T56 (mkF m 87 #[.val (.long q0), .second, .val (.int p1), .val (.int p2), .val (.int p3), .val (.int p4), .val (.int p5), .val (.long x1), .second, .val (.long x2), .second, .val (.long x3), .second, .val (.long x4), .second, .val (.long x5), .second, .val (.long x6), .second, .val (.ref ob7), .unset, .unset, .unset, .unset, .unset] [(.ref ob7)])
    refine own_go (fun _ => XS.lload X56.here hx rfl (hb hby at_87) rfl) ?_
    show GG _ _ _ _ _ _ _ T56 (mkF m 89 #[.val (.long q0), .second, .val (.int p1), .val (.int p2), .val (.int p3), .val (.int p4), .val (.int p5), .val (.long x1), .second, .val (.long x2), .second, .val (.long x3), .second, .val (.long x4), .second, .val (.long x5), .second, .val (.long x6), .second, .val (.ref ob7), .unset, .unset, .unset, .unset, .unset] [(.long x2), (.ref ob7)])
    refine own_go (fun _ => XS.lload X56.here hx rfl (hb hby at_89) rfl) ?_
    show GG _ _ _ _ _ _ _ T56 (mkF m 91 #[.val (.long q0), .second, .val (.int p1), .val (.int p2), .val (.int p3), .val (.int p4), .val (.int p5), .val (.long x1), .second, .val (.long x2), .second, .val (.long x3), .second, .val (.long x4), .second, .val (.long x5), .second, .val (.long x6), .second, .val (.ref ob7), .unset, .unset, .unset, .unset, .unset] [(.long x5), (.long x2), (.ref ob7)])
    by_cases hp91 : (x5 - x4) < (65536 : Int64)
    · skip
      refine own_callV X56 hx hZ (y := (⟨"com/example/obliv/obliv/io/SegmentIndex", "add", "(JJ)V"⟩ : MethodName)) (z := (⟨"com/example/obliv/obliv/io/SegmentIndex", "add", "(JJ)V"⟩ : MethodName)) 0 hown (hw _ (List.mem_of_getElem? (i := 25) rfl)) (hw _ (List.mem_of_getElem? (i := 26) rfl)) (notFace_of_selects (args := #[]) (mvT hZ (hw _ (List.mem_of_getElem? (i := 28) rfl)))) (hw _ (List.mem_of_getElem? (i := 28) rfl)) (hw _ (List.mem_of_getElem? (i := 27) rfl)) (hw _ (List.mem_of_getElem? (i := 6) rfl)) (hw _ (List.mem_of_getElem? (i := 29) rfl)) (by decide) (a := ob7) (argsL := [(.long x2), (.long x5)]) (rest := []) (rm4_2x l Z a0 hw [] ob7 x2 x5 c1_8 c2_8 (0 : Int64) x1 (0 : Int64) (0 : Int64) (0 : Int64) (0 : Int64) (0 : Int64) (0 : Int64) (0 : Int64) (0 : Int64) (0 : Int64) (0 : Int64) (0 : Int64) (0 : Int64) (0 : Int64) (0 : Int64) (8 : Int64) x4 (0 : Int64) (0 : Int64) (0 : Int64) (0 : Int64) (0 : Int64) (0 : Int64) (0 : Int64) (0 : Int64) (0 : Int64) (0 : Int64) (0 : Int64) (0 : Int64) (0 : Int64) (0 : Int64) T56.heap n0 (Nat.le_trans Z0 K0.1) hp91 Eq8 Fs56 Fr56 Fp56 Vr56 Vp56 n12_8 ne1_8 ne2_8 g_ob7 g_c1_8 g_c2_8) (by decide) (by decide) (by decide) (by decide) Eq8 (g := (mkF m 91 #[.val (.long q0), .second, .val (.int p1), .val (.int p2), .val (.int p3), .val (.int p4), .val (.int p5), .val (.long x1), .second, .val (.long x2), .second, .val (.long x3), .second, .val (.long x4), .second, .val (.long x5), .second, .val (.long x6), .second, .val (.ref ob7), .unset, .unset, .unset, .unset, .unset] [(.long x5), (.long x2), (.ref ob7)])) rfl (by rw [hml]; rfl) (lenOf pd__JJ_V_315 rfl) rfl (by show 2 * 0 + _ ≤ _; exact Nat.le_of_eq rfl) (hb hby at_91) rfl ?_
      rintro v57 T57 L57 X57 ⟨rfl, N57q, hh57⟩
      have N57 := Fr.app N56 N57q
      show GG _ _ _ _ _ _ _ T57 (mkF m 94 #[.val (.long q0), .second, .val (.int p1), .val (.int p2), .val (.int p3), .val (.int p4), .val (.int p5), .val (.long x1), .second, .val (.long x2), .second, .val (.long x3), .second, .val (.long x4), .second, .val (.long x5), .second, .val (.long x6), .second, .val (.ref ob7), .unset, .unset, .unset, .unset, .unset] [])
      refine own_go (fun _ => XS.aload X57.here hx rfl (hb hby at_94) rfl rfl) ?_
      show GG _ _ _ _ _ _ _ T57 (mkF m 96 #[.val (.long q0), .second, .val (.int p1), .val (.int p2), .val (.int p3), .val (.int p4), .val (.int p5), .val (.long x1), .second, .val (.long x2), .second, .val (.long x3), .second, .val (.long x4), .second, .val (.long x5), .second, .val (.long x6), .second, .val (.ref ob7), .unset, .unset, .unset, .unset, .unset] [(.ref ob7)])
      refine own_go (fun _ => XS.lload X57.here hx rfl (hb hby at_96) rfl) ?_
      show GG _ _ _ _ _ _ _ T57 (mkF m 98 #[.val (.long q0), .second, .val (.int p1), .val (.int p2), .val (.int p3), .val (.int p4), .val (.int p5), .val (.long x1), .second, .val (.long x2), .second, .val (.long x3), .second, .val (.long x4), .second, .val (.long x5), .second, .val (.long x6), .second, .val (.ref ob7), .unset, .unset, .unset, .unset, .unset] [(.long x3), (.ref ob7)])
      refine own_go (fun _ => XS.lload X57.here hx rfl (hb hby at_98) rfl) ?_
      show GG _ _ _ _ _ _ _ T57 (mkF m 100 #[.val (.long q0), .second, .val (.int p1), .val (.int p2), .val (.int p3), .val (.int p4), .val (.int p5), .val (.long x1), .second, .val (.long x2), .second, .val (.long x3), .second, .val (.long x4), .second, .val (.long x5), .second, .val (.long x6), .second, .val (.ref ob7), .unset, .unset, .unset, .unset, .unset] [(.long x6), (.long x3), (.ref ob7)])
      by_cases hp100 : (x6 - x4) < (65536 : Int64)
      · skip
        refine own_callV X57 hx hZ (y := (⟨"com/example/obliv/obliv/io/SegmentIndex", "add", "(JJ)V"⟩ : MethodName)) (z := (⟨"com/example/obliv/obliv/io/SegmentIndex", "add", "(JJ)V"⟩ : MethodName)) 0 hown (hw _ (List.mem_of_getElem? (i := 25) rfl)) (hw _ (List.mem_of_getElem? (i := 26) rfl)) (notFace_of_selects (args := #[]) (mvT hZ (hw _ (List.mem_of_getElem? (i := 28) rfl)))) (hw _ (List.mem_of_getElem? (i := 28) rfl)) (hw _ (List.mem_of_getElem? (i := 27) rfl)) (hw _ (List.mem_of_getElem? (i := 6) rfl)) (hw _ (List.mem_of_getElem? (i := 29) rfl)) (by decide) (a := ob7) (argsL := [(.long x3), (.long x6)]) (rest := []) (rm4_2x l Z a0 hw [] ob7 x3 x6 c1_8 c2_8 (0 : Int64) x1 (0 : Int64) (0 : Int64) (0 : Int64) (0 : Int64) (0 : Int64) (0 : Int64) (0 : Int64) (0 : Int64) (0 : Int64) (0 : Int64) (0 : Int64) (0 : Int64) (0 : Int64) (0 : Int64) (8 : Int64) x4 (0 : Int64) (0 : Int64) (0 : Int64) (0 : Int64) (0 : Int64) (0 : Int64) (0 : Int64) (0 : Int64) (0 : Int64) (0 : Int64) (0 : Int64) (0 : Int64) (0 : Int64) (0 : Int64) T56.heap n0 (Nat.le_trans Z0 K0.1) hp100 Eq8 Fs56 Fr56 Fp56 Vr56 Vp56 n12_8 ne1_8 ne2_8 g_ob7 g_c1_8 g_c2_8) (by decide) (by decide) (by decide) (by decide) Eq8 (g := (mkF m 100 #[.val (.long q0), .second, .val (.int p1), .val (.int p2), .val (.int p3), .val (.int p4), .val (.int p5), .val (.long x1), .second, .val (.long x2), .second, .val (.long x3), .second, .val (.long x4), .second, .val (.long x5), .second, .val (.long x6), .second, .val (.ref ob7), .unset, .unset, .unset, .unset, .unset] [(.long x6), (.long x3), (.ref ob7)])) rfl (by rw [hml]; rfl) (lenOf pd__JJ_V_315 rfl) rfl (by show 2 * 0 + _ ≤ _; exact Nat.le_of_eq rfl) (hb hby at_100) hh57 ?_
        rintro v58 T58 L58 X58 ⟨rfl, N58q, hh58⟩
        have N58 := Fr.app N57 N58q
        show GG _ _ _ _ _ _ _ T58 (mkF m 103 #[.val (.long q0), .second, .val (.int p1), .val (.int p2), .val (.int p3), .val (.int p4), .val (.int p5), .val (.long x1), .second, .val (.long x2), .second, .val (.long x3), .second, .val (.long x4), .second, .val (.long x5), .second, .val (.long x6), .second, .val (.ref ob7), .unset, .unset, .unset, .unset, .unset] [])
        refine own_go (fun _ => XS.aload X58.here hx rfl (hb hby at_103) rfl rfl) ?_
        show GG _ _ _ _ _ _ _ T58 (mkF m 105 #[.val (.long q0), .second, .val (.int p1), .val (.int p2), .val (.int p3), .val (.int p4), .val (.int p5), .val (.long x1), .second, .val (.long x2), .second, .val (.long x3), .second, .val (.long x4), .second, .val (.long x5), .second, .val (.long x6), .second, .val (.ref ob7), .unset, .unset, .unset, .unset, .unset] [(.ref ob7)])
        refine own_callV X58 hx hZ (y := (⟨"com/example/obliv/obliv/io/SegmentIndex", "toArray", "()[J"⟩ : MethodName)) (z := (⟨"com/example/obliv/obliv/io/SegmentIndex", "toArray", "()[J"⟩ : MethodName)) 0 hown (hw _ (List.mem_of_getElem? (i := 35) rfl)) (hw _ (List.mem_of_getElem? (i := 36) rfl)) (notFace_of_selects (args := #[]) (mvT hZ (hw _ (List.mem_of_getElem? (i := 38) rfl)))) (hw _ (List.mem_of_getElem? (i := 38) rfl)) (hw _ (List.mem_of_getElem? (i := 37) rfl)) (hw _ (List.mem_of_getElem? (i := 6) rfl)) (hw _ (List.mem_of_getElem? (i := 39) rfl)) (by decide) (a := ob7) (argsL := []) (rest := []) (rm6_2 l Z a0 hw [] ob7 c1_8 c2_8 (0 : Int64) x1 (0 : Int64) (0 : Int64) (0 : Int64) (0 : Int64) (0 : Int64) (0 : Int64) (0 : Int64) (0 : Int64) (0 : Int64) (0 : Int64) (0 : Int64) (0 : Int64) (0 : Int64) (0 : Int64) (8 : Int64) x4 (0 : Int64) (0 : Int64) (0 : Int64) (0 : Int64) (0 : Int64) (0 : Int64) (0 : Int64) (0 : Int64) (0 : Int64) (0 : Int64) (0 : Int64) (0 : Int64) (0 : Int64) (0 : Int64) T56.heap n0 (Nat.le_trans Z0 K0.1) Fs56 Fr56 Fp56 Vr56 Vp56) (by decide) (by decide) (by decide) (by decide) Eq8 (g := (mkF m 105 #[.val (.long q0), .second, .val (.int p1), .val (.int p2), .val (.int p3), .val (.int p4), .val (.int p5), .val (.long x1), .second, .val (.long x2), .second, .val (.long x3), .second, .val (.long x4), .second, .val (.long x5), .second, .val (.long x6), .second, .val (.ref ob7), .unset, .unset, .unset, .unset, .unset] [(.ref ob7)])) rfl (by rw [hml]; rfl) (lenOf pd____J_246 rfl) rfl (by show 2 * 0 + _ ≤ _; exact Nat.le_of_eq rfl) (hb hby at_105) hh58 ?_
        rintro v59 T59 L59 X59 ⟨bq59, rfl, N59q, szq59, Kq59, Vq59⟩
        have N59 := Fr.app N58 N59q
        have K0 := K0.trans Kq59 all0
        have Eq8 := Eq8.keep Kq59
        have Fs56 := Fs56.keep Kq59 nin0
        have Fr56 := Fr56.keep Kq59 nin0
        have Fp56 := Fp56.keep Kq59 nin0
        have Vr56 := Vr56.keep Kq59 nin0
        have Vp56 := Vp56.keep Kq59 nin0
        show GG _ _ _ _ _ _ _ T59 (mkF m 108 #[.val (.long q0), .second, .val (.int p1), .val (.int p2), .val (.int p3), .val (.int p4), .val (.int p5), .val (.long x1), .second, .val (.long x2), .second, .val (.long x3), .second, .val (.long x4), .second, .val (.long x5), .second, .val (.long x6), .second, .val (.ref ob7), .unset, .unset, .unset, .unset, .unset] [(.ref bq59)])
        refine own_go (fun _ => XS.astore X59.here hx rfl (hb hby at_108) rfl rfl (l' := #[.val (.long q0), .second, .val (.int p1), .val (.int p2), .val (.int p3), .val (.int p4), .val (.int p5), .val (.long x1), .second, .val (.long x2), .second, .val (.long x3), .second, .val (.long x4), .second, .val (.long x5), .second, .val (.long x6), .second, .val (.ref ob7), .val (.ref bq59), .unset, .unset, .unset, .unset]) rfl) ?_
        show GG _ _ _ _ _ _ _ T59 (mkF m 110 #[.val (.long q0), .second, .val (.int p1), .val (.int p2), .val (.int p3), .val (.int p4), .val (.int p5), .val (.long x1), .second, .val (.long x2), .second, .val (.long x3), .second, .val (.long x4), .second, .val (.long x5), .second, .val (.long x6), .second, .val (.ref ob7), .val (.ref bq59), .unset, .unset, .unset, .unset] [])
        refine own_go (fun _ => XS.bipush X59.here hx rfl (hb hby at_110)) ?_
        show GG _ _ _ _ _ _ _ T59 (mkF m 112 #[.val (.long q0), .second, .val (.int p1), .val (.int p2), .val (.int p3), .val (.int p4), .val (.int p5), .val (.long x1), .second, .val (.long x2), .second, .val (.long x3), .second, .val (.long x4), .second, .val (.long x5), .second, .val (.long x6), .second, .val (.ref ob7), .val (.ref bq59), .unset, .unset, .unset, .unset] [(.int (6 : Int32))])
        obtain ⟨T60, h60, ob60, g60, X60, e60, E60, V_ob60, E_ob60, st60⟩ := own_newarr X59 hx hZ (hw _ (List.mem_of_getElem? (i := 13) rfl)) rfl (g := (mkF m 112 #[.val (.long q0), .second, .val (.int p1), .val (.int p2), .val (.int p3), .val (.int p4), .val (.int p5), .val (.long x1), .second, .val (.long x2), .second, .val (.long x3), .second, .val (.long x4), .second, .val (.long x5), .second, .val (.long x6), .second, .val (.ref ob7), .val (.ref bq59), .unset, .unset, .unset, .unset] [(.int (6 : Int32))])) rfl (hb hby at_112) rfl (by decide) (cap := 6) (by decide) (by decide) (by decide) (by decide) (ad := "[J") (by decide)
        have ne_ob7_ob60 : ob7 ≠ ob60 := Nat.ne_of_lt (Nat.lt_of_lt_of_le Eq8.lt (Nat.le_of_eq g60.symm))
        have ne_c1_8_ob60 : c1_8 ≠ ob60 := Nat.ne_of_lt (Nat.lt_of_lt_of_le Vr56.lt (Nat.le_of_eq g60.symm))
        have ne_c2_8_ob60 : c2_8 ≠ ob60 := Nat.ne_of_lt (Nat.lt_of_lt_of_le Vp56.lt (Nat.le_of_eq g60.symm))
        have ne_bq59_ob60 : bq59 ≠ ob60 := Nat.ne_of_lt (Nat.lt_of_lt_of_le Vq59.lt (Nat.le_of_eq g60.symm))
        have sz_ob60 : h0.size ≤ ob60 := Nat.le_trans K0.1 (Nat.le_of_eq g60.symm)
        have g_ob60 : n0 ≤ ob60 := Nat.le_trans Z0 sz_ob60
        have K0 := K0.ext E60
        have Eq8 := Eq8.ext E60
        have Fs56 := Fs56.ext E60
        have Fr56 := Fr56.ext E60
        have Fp56 := Fp56.ext E60
        have Vr56 := Vr56.ext E60
        have Vp56 := Vp56.ext E60
        have Vq59 := Vq59.ext E60
        have V_ob60 : Arx Z h60 ob60 .long [(.long (0 : Int64)), (.long (0 : Int64)), (.long (0 : Int64)), (.long (0 : Int64)), (.long (0 : Int64)), (.long (0 : Int64))] := V_ob60
        refine own_go (fun _ => st60 _) ?_
        show GG _ _ _ _ _ _ _ T60 (mkF m 114 #[.val (.long q0), .second, .val (.int p1), .val (.int p2), .val (.int p3), .val (.int p4), .val (.int p5), .val (.long x1), .second, .val (.long x2), .second, .val (.long x3), .second, .val (.long x4), .second, .val (.long x5), .second, .val (.long x6), .second, .val (.ref ob7), .val (.ref bq59), .unset, .unset, .unset, .unset] [(.ref ob60)])
        refine own_go (fun _ => XS.astore X60.here hx rfl (hb hby at_114) rfl rfl (l' := #[.val (.long q0), .second, .val (.int p1), .val (.int p2), .val (.int p3), .val (.int p4), .val (.int p5), .val (.long x1), .second, .val (.long x2), .second, .val (.long x3), .second, .val (.long x4), .second, .val (.long x5), .second, .val (.long x6), .second, .val (.ref ob7), .val (.ref bq59), .val (.ref ob60), .unset, .unset, .unset]) rfl) ?_
        show GG _ _ _ _ _ _ _ T60 (mkF m 116 #[.val (.long q0), .second, .val (.int p1), .val (.int p2), .val (.int p3), .val (.int p4), .val (.int p5), .val (.long x1), .second, .val (.long x2), .second, .val (.long x3), .second, .val (.long x4), .second, .val (.long x5), .second, .val (.long x6), .second, .val (.ref ob7), .val (.ref bq59), .val (.ref ob60), .unset, .unset, .unset] [])
        refine own_go (fun _ => XS.iconst X60.here hx rfl (hb hby at_116)) ?_
        show GG _ _ _ _ _ _ _ T60 (mkF m 117 #[.val (.long q0), .second, .val (.int p1), .val (.int p2), .val (.int p3), .val (.int p4), .val (.int p5), .val (.long x1), .second, .val (.long x2), .second, .val (.long x3), .second, .val (.long x4), .second, .val (.long x5), .second, .val (.long x6), .second, .val (.ref ob7), .val (.ref bq59), .val (.ref ob60), .unset, .unset, .unset] [(.int (0 : Int32))])
        refine own_go (fun _ => XS.istore X60.here hx rfl (hb hby at_117) rfl (l' := #[.val (.long q0), .second, .val (.int p1), .val (.int p2), .val (.int p3), .val (.int p4), .val (.int p5), .val (.long x1), .second, .val (.long x2), .second, .val (.long x3), .second, .val (.long x4), .second, .val (.long x5), .second, .val (.long x6), .second, .val (.ref ob7), .val (.ref bq59), .val (.ref ob60), .val (.int (0 : Int32)), .unset, .unset]) rfl) ?_
        show GG _ _ _ _ _ _ _ T60 (mkF m 119 #[.val (.long q0), .second, .val (.int p1), .val (.int p2), .val (.int p3), .val (.int p4), .val (.int p5), .val (.long x1), .second, .val (.long x2), .second, .val (.long x3), .second, .val (.long x4), .second, .val (.long x5), .second, .val (.long x6), .second, .val (.ref ob7), .val (.ref bq59), .val (.ref ob60), .val (.int (0 : Int32)), .unset, .unset] [])
        refine own_go (fun _ => X60.ldc2Long hx hown (mvT hZ (hw _ (List.mem_of_getElem? (i := 2) rfl))) (g := (mkF m 119 #[.val (.long q0), .second, .val (.int p1), .val (.int p2), .val (.int p3), .val (.int p4), .val (.int p5), .val (.long x1), .second, .val (.long x2), .second, .val (.long x3), .second, .val (.long x4), .second, .val (.long x5), .second, .val (.long x6), .second, .val (.ref ob7), .val (.ref bq59), .val (.ref ob60), .val (.int (0 : Int32)), .unset, .unset] [])) rfl (hb hby at_119) _) ?_
        show GG _ _ _ _ _ _ _ T60 (mkF m 122 #[.val (.long q0), .second, .val (.int p1), .val (.int p2), .val (.int p3), .val (.int p4), .val (.int p5), .val (.long x1), .second, .val (.long x2), .second, .val (.long x3), .second, .val (.long x4), .second, .val (.long x5), .second, .val (.long x6), .second, .val (.ref ob7), .val (.ref bq59), .val (.ref ob60), .val (.int (0 : Int32)), .unset, .unset] [(.long (8 : Int64))])
        refine own_go (fun _ => XS.lstore X60.here hx rfl (hb hby at_122) rfl (l' := #[.val (.long q0), .second, .val (.int p1), .val (.int p2), .val (.int p3), .val (.int p4), .val (.int p5), .val (.long x1), .second, .val (.long x2), .second, .val (.long x3), .second, .val (.long x4), .second, .val (.long x5), .second, .val (.long x6), .second, .val (.ref ob7), .val (.ref bq59), .val (.ref ob60), .val (.int (0 : Int32)), .val (.long (8 : Int64)), .second]) rfl) ?_
        show GG _ _ _ _ _ _ _ T60 (mkF m 124 #[.val (.long q0), .second, .val (.int p1), .val (.int p2), .val (.int p3), .val (.int p4), .val (.int p5), .val (.long x1), .second, .val (.long x2), .second, .val (.long x3), .second, .val (.long x4), .second, .val (.long x5), .second, .val (.long x6), .second, .val (.ref ob7), .val (.ref bq59), .val (.ref ob60), .val (.int (0 : Int32)), .val (.long (8 : Int64)), .second] [])
        refine own_go (fun _ => XS.lload X60.here hx rfl (hb hby at_124) rfl) ?_
        show GG _ _ _ _ _ _ _ T60 (mkF m 126 #[.val (.long q0), .second, .val (.int p1), .val (.int p2), .val (.int p3), .val (.int p4), .val (.int p5), .val (.long x1), .second, .val (.long x2), .second, .val (.long x3), .second, .val (.long x4), .second, .val (.long x5), .second, .val (.long x6), .second, .val (.ref ob7), .val (.ref bq59), .val (.ref ob60), .val (.int (0 : Int32)), .val (.long (8 : Int64)), .second] [(.long x4)])
        refine own_go (fun _ => XS.lload X60.here hx rfl (hb hby at_126) rfl) ?_
        show GG _ _ _ _ _ _ _ T60 (mkF m 128 #[.val (.long q0), .second, .val (.int p1), .val (.int p2), .val (.int p3), .val (.int p4), .val (.int p5), .val (.long x1), .second, .val (.long x2), .second, .val (.long x3), .second, .val (.long x4), .second, .val (.long x5), .second, .val (.long x6), .second, .val (.ref ob7), .val (.ref bq59), .val (.ref ob60), .val (.int (0 : Int32)), .val (.long (8 : Int64)), .second] [(.long (8 : Int64)), (.long x4)])
        refine own_go (fun _ => XS.lsub X60.here hx rfl (hb hby at_128) rfl) ?_
        show GG _ _ _ _ _ _ _ T60 (mkF m 129 #[.val (.long q0), .second, .val (.int p1), .val (.int p2), .val (.int p3), .val (.int p4), .val (.int p5), .val (.long x1), .second, .val (.long x2), .second, .val (.long x3), .second, .val (.long x4), .second, .val (.long x5), .second, .val (.long x6), .second, .val (.ref ob7), .val (.ref bq59), .val (.ref ob60), .val (.int (0 : Int32)), .val (.long (8 : Int64)), .second] [(.long (x4 - (8 : Int64)))])
        refine own_go (fun _ => X60.ldc2Long hx hown (mvT hZ (hw _ (List.mem_of_getElem? (i := 40) rfl))) (g := (mkF m 129 #[.val (.long q0), .second, .val (.int p1), .val (.int p2), .val (.int p3), .val (.int p4), .val (.int p5), .val (.long x1), .second, .val (.long x2), .second, .val (.long x3), .second, .val (.long x4), .second, .val (.long x5), .second, .val (.long x6), .second, .val (.ref ob7), .val (.ref bq59), .val (.ref ob60), .val (.int (0 : Int32)), .val (.long (8 : Int64)), .second] [(.long (x4 - (8 : Int64)))])) rfl (hb hby at_129) _) ?_
        show GG _ _ _ _ _ _ _ T60 (mkF m 132 #[.val (.long q0), .second, .val (.int p1), .val (.int p2), .val (.int p3), .val (.int p4), .val (.int p5), .val (.long x1), .second, .val (.long x2), .second, .val (.long x3), .second, .val (.long x4), .second, .val (.long x5), .second, .val (.long x6), .second, .val (.ref ob7), .val (.ref bq59), .val (.ref ob60), .val (.int (0 : Int32)), .val (.long (8 : Int64)), .second] [(.long (65536 : Int64)), (.long (x4 - (8 : Int64)))])
        refine own_go (fun _ => XS.lcmp X60.here hx rfl (hb hby at_132) rfl) ?_
        show GG _ _ _ _ _ _ _ T60 (mkF m 133 #[.val (.long q0), .second, .val (.int p1), .val (.int p2), .val (.int p3), .val (.int p4), .val (.int p5), .val (.long x1), .second, .val (.long x2), .second, .val (.long x3), .second, .val (.long x4), .second, .val (.long x5), .second, .val (.long x6), .second, .val (.ref ob7), .val (.ref bq59), .val (.ref ob60), .val (.int (0 : Int32)), .val (.long (8 : Int64)), .second] [(.int (lcmpW (x4 - (8 : Int64)) (65536 : Int64)))])
        have hc133 : ¬ ((x4 - (8 : Int64)) < (65536 : Int64)) := hp82
        refine own_go (fun _ => XS.ifNo X60.here hx rfl (hb hby at_133) rfl ((if0 _ _).trans (flt (fun q => hc133 ((lw_lt _ _).mp q))).1)) ?_
        show GG _ _ _ _ _ _ _ T60 (mkF m 136 #[.val (.long q0), .second, .val (.int p1), .val (.int p2), .val (.int p3), .val (.int p4), .val (.int p5), .val (.long x1), .second, .val (.long x2), .second, .val (.long x3), .second, .val (.long x4), .second, .val (.long x5), .second, .val (.long x6), .second, .val (.ref ob7), .val (.ref bq59), .val (.ref ob60), .val (.int (0 : Int32)), .val (.long (8 : Int64)), .second] [])
        refine own_go (fun _ => XS.aload X60.here hx rfl (hb hby at_136) rfl rfl) ?_
        show GG _ _ _ _ _ _ _ T60 (mkF m 138 #[.val (.long q0), .second, .val (.int p1), .val (.int p2), .val (.int p3), .val (.int p4), .val (.int p5), .val (.long x1), .second, .val (.long x2), .second, .val (.long x3), .second, .val (.long x4), .second, .val (.long x5), .second, .val (.long x6), .second, .val (.ref ob7), .val (.ref bq59), .val (.ref ob60), .val (.int (0 : Int32)), .val (.long (8 : Int64)), .second] [(.ref ob60)])
        refine own_go (fun _ => XS.iload X60.here hx rfl (hb hby at_138) rfl) ?_
        show GG _ _ _ _ _ _ _ T60 (mkF m 140 #[.val (.long q0), .second, .val (.int p1), .val (.int p2), .val (.int p3), .val (.int p4), .val (.int p5), .val (.long x1), .second, .val (.long x2), .second, .val (.long x3), .second, .val (.long x4), .second, .val (.long x5), .second, .val (.long x6), .second, .val (.ref ob7), .val (.ref bq59), .val (.ref ob60), .val (.int (0 : Int32)), .val (.long (8 : Int64)), .second] [(.int (0 : Int32)), (.ref ob60)])
        refine own_go (fun _ => XS.lload X60.here hx rfl (hb hby at_140) rfl) ?_
        show GG _ _ _ _ _ _ _ T60 (mkF m 142 #[.val (.long q0), .second, .val (.int p1), .val (.int p2), .val (.int p3), .val (.int p4), .val (.int p5), .val (.long x1), .second, .val (.long x2), .second, .val (.long x3), .second, .val (.long x4), .second, .val (.long x5), .second, .val (.long x6), .second, .val (.ref ob7), .val (.ref bq59), .val (.ref ob60), .val (.int (0 : Int32)), .val (.long (8 : Int64)), .second] [(.long x1), (.int (0 : Int32)), (.ref ob60)])
        obtain ⟨T61, h61, X61, e61, W61, V61, st61⟩ := own_lastore X60 hx hZ e60 V_ob60 (by decide) (Nat.le_of_ble_eq_true rfl) (g := (mkF m 142 #[.val (.long q0), .second, .val (.int p1), .val (.int p2), .val (.int p3), .val (.int p4), .val (.int p5), .val (.long x1), .second, .val (.long x2), .second, .val (.long x3), .second, .val (.long x4), .second, .val (.long x5), .second, .val (.long x6), .second, .val (.ref ob7), .val (.ref bq59), .val (.ref ob60), .val (.int (0 : Int32)), .val (.long (8 : Int64)), .second] [(.long x1), (.int (0 : Int32)), (.ref ob60)])) rfl rfl (hb hby at_142)
        have K0 := K0.wr W61 (Or.inr sz_ob60)
        have Eq8 := Eq8.wr W61
        have Fs56 := Fs56.other W61 (Or.inl ne_ob7_ob60)
        have Fr56 := Fr56.other W61 (Or.inl ne_ob7_ob60)
        have Fp56 := Fp56.other W61 (Or.inl ne_ob7_ob60)
        have Vr56 := Vr56.other W61 ne_c1_8_ob60
        have Vp56 := Vp56.other W61 ne_c2_8_ob60
        have Vq59 := Vq59.other W61 ne_bq59_ob60
        have E_ob60 := E_ob60.wr W61
        have V_ob60 : Arx Z h61 ob60 .long [(.long x1), (.long (0 : Int64)), (.long (0 : Int64)), (.long (0 : Int64)), (.long (0 : Int64)), (.long (0 : Int64))] := V61
        have N61 := Fr.snoc X61 N59 g_ob60
        refine own_go (fun _ => st61 _) ?_
        show GG _ _ _ _ _ _ _ T61 (mkF m 143 #[.val (.long q0), .second, .val (.int p1), .val (.int p2), .val (.int p3), .val (.int p4), .val (.int p5), .val (.long x1), .second, .val (.long x2), .second, .val (.long x3), .second, .val (.long x4), .second, .val (.long x5), .second, .val (.long x6), .second, .val (.ref ob7), .val (.ref bq59), .val (.ref ob60), .val (.int (0 : Int32)), .val (.long (8 : Int64)), .second] [])
        refine own_go (fun _ => XS.aload X61.here hx rfl (hb hby at_143) rfl rfl) ?_
        show GG _ _ _ _ _ _ _ T61 (mkF m 145 #[.val (.long q0), .second, .val (.int p1), .val (.int p2), .val (.int p3), .val (.int p4), .val (.int p5), .val (.long x1), .second, .val (.long x2), .second, .val (.long x3), .second, .val (.long x4), .second, .val (.long x5), .second, .val (.long x6), .second, .val (.ref ob7), .val (.ref bq59), .val (.ref ob60), .val (.int (0 : Int32)), .val (.long (8 : Int64)), .second] [(.ref ob60)])
        refine own_go (fun _ => XS.iload X61.here hx rfl (hb hby at_145) rfl) ?_
        show GG _ _ _ _ _ _ _ T61 (mkF m 147 #[.val (.long q0), .second, .val (.int p1), .val (.int p2), .val (.int p3), .val (.int p4), .val (.int p5), .val (.long x1), .second, .val (.long x2), .second, .val (.long x3), .second, .val (.long x4), .second, .val (.long x5), .second, .val (.long x6), .second, .val (.ref ob7), .val (.ref bq59), .val (.ref ob60), .val (.int (0 : Int32)), .val (.long (8 : Int64)), .second] [(.int (0 : Int32)), (.ref ob60)])
        refine own_go (fun _ => XS.iconst X61.here hx rfl (hb hby at_147)) ?_
        show GG _ _ _ _ _ _ _ T61 (mkF m 148 #[.val (.long q0), .second, .val (.int p1), .val (.int p2), .val (.int p3), .val (.int p4), .val (.int p5), .val (.long x1), .second, .val (.long x2), .second, .val (.long x3), .second, .val (.long x4), .second, .val (.long x5), .second, .val (.long x6), .second, .val (.ref ob7), .val (.ref bq59), .val (.ref ob60), .val (.int (0 : Int32)), .val (.long (8 : Int64)), .second] [(.int (1 : Int32)), (.int (0 : Int32)), (.ref ob60)])
        refine own_go (fun _ => XS.iadd X61.here hx rfl (hb hby at_148) rfl) ?_
        show GG _ _ _ _ _ _ _ T61 (mkF m 149 #[.val (.long q0), .second, .val (.int p1), .val (.int p2), .val (.int p3), .val (.int p4), .val (.int p5), .val (.long x1), .second, .val (.long x2), .second, .val (.long x3), .second, .val (.long x4), .second, .val (.long x5), .second, .val (.long x6), .second, .val (.ref ob7), .val (.ref bq59), .val (.ref ob60), .val (.int (0 : Int32)), .val (.long (8 : Int64)), .second] [(.int (1 : Int32)), (.ref ob60)])
        refine own_go (fun _ => XS.lload X61.here hx rfl (hb hby at_149) rfl) ?_
        show GG _ _ _ _ _ _ _ T61 (mkF m 151 #[.val (.long q0), .second, .val (.int p1), .val (.int p2), .val (.int p3), .val (.int p4), .val (.int p5), .val (.long x1), .second, .val (.long x2), .second, .val (.long x3), .second, .val (.long x4), .second, .val (.long x5), .second, .val (.long x6), .second, .val (.ref ob7), .val (.ref bq59), .val (.ref ob60), .val (.int (0 : Int32)), .val (.long (8 : Int64)), .second] [(.long x4), (.int (1 : Int32)), (.ref ob60)])
        obtain ⟨T62, h62, X62, e62, W62, V62, st62⟩ := own_lastore X61 hx hZ e61 V_ob60 (by decide) (Nat.le_of_ble_eq_true rfl) (g := (mkF m 151 #[.val (.long q0), .second, .val (.int p1), .val (.int p2), .val (.int p3), .val (.int p4), .val (.int p5), .val (.long x1), .second, .val (.long x2), .second, .val (.long x3), .second, .val (.long x4), .second, .val (.long x5), .second, .val (.long x6), .second, .val (.ref ob7), .val (.ref bq59), .val (.ref ob60), .val (.int (0 : Int32)), .val (.long (8 : Int64)), .second] [(.long x4), (.int (1 : Int32)), (.ref ob60)])) rfl rfl (hb hby at_151)
        have K0 := K0.wr W62 (Or.inr sz_ob60)
        have Eq8 := Eq8.wr W62
        have Fs56 := Fs56.other W62 (Or.inl ne_ob7_ob60)
        have Fr56 := Fr56.other W62 (Or.inl ne_ob7_ob60)
        have Fp56 := Fp56.other W62 (Or.inl ne_ob7_ob60)
        have Vr56 := Vr56.other W62 ne_c1_8_ob60
        have Vp56 := Vp56.other W62 ne_c2_8_ob60
        have Vq59 := Vq59.other W62 ne_bq59_ob60
        have E_ob60 := E_ob60.wr W62
        have V_ob60 : Arx Z h62 ob60 .long [(.long x1), (.long x4), (.long (0 : Int64)), (.long (0 : Int64)), (.long (0 : Int64)), (.long (0 : Int64))] := V62
        have N62 := Fr.snoc X62 N61 g_ob60
        refine own_go (fun _ => st62 _) ?_
        show GG _ _ _ _ _ _ _ T62 (mkF m 152 #[.val (.long q0), .second, .val (.int p1), .val (.int p2), .val (.int p3), .val (.int p4), .val (.int p5), .val (.long x1), .second, .val (.long x2), .second, .val (.long x3), .second, .val (.long x4), .second, .val (.long x5), .second, .val (.long x6), .second, .val (.ref ob7), .val (.ref bq59), .val (.ref ob60), .val (.int (0 : Int32)), .val (.long (8 : Int64)), .second] [])
        refine own_go (fun _ => XS.iload X62.here hx rfl (hb hby at_152) rfl) ?_
        show GG _ _ _ _ _ _ _ T62 (mkF m 154 #[.val (.long q0), .second, .val (.int p1), .val (.int p2), .val (.int p3), .val (.int p4), .val (.int p5), .val (.long x1), .second, .val (.long x2), .second, .val (.long x3), .second, .val (.long x4), .second, .val (.long x5), .second, .val (.long x6), .second, .val (.ref ob7), .val (.ref bq59), .val (.ref ob60), .val (.int (0 : Int32)), .val (.long (8 : Int64)), .second] [(.int (0 : Int32))])
        refine own_go (fun _ => XS.iconst X62.here hx rfl (hb hby at_154)) ?_
        show GG _ _ _ _ _ _ _ T62 (mkF m 155 #[.val (.long q0), .second, .val (.int p1), .val (.int p2), .val (.int p3), .val (.int p4), .val (.int p5), .val (.long x1), .second, .val (.long x2), .second, .val (.long x3), .second, .val (.long x4), .second, .val (.long x5), .second, .val (.long x6), .second, .val (.ref ob7), .val (.ref bq59), .val (.ref ob60), .val (.int (0 : Int32)), .val (.long (8 : Int64)), .second] [(.int (2 : Int32)), (.int (0 : Int32))])
        refine own_go (fun _ => XS.iadd X62.here hx rfl (hb hby at_155) rfl) ?_
        show GG _ _ _ _ _ _ _ T62 (mkF m 156 #[.val (.long q0), .second, .val (.int p1), .val (.int p2), .val (.int p3), .val (.int p4), .val (.int p5), .val (.long x1), .second, .val (.long x2), .second, .val (.long x3), .second, .val (.long x4), .second, .val (.long x5), .second, .val (.long x6), .second, .val (.ref ob7), .val (.ref bq59), .val (.ref ob60), .val (.int (0 : Int32)), .val (.long (8 : Int64)), .second] [(.int (2 : Int32))])
        refine own_go (fun _ => XS.istore X62.here hx rfl (hb hby at_156) rfl (l' := #[.val (.long q0), .second, .val (.int p1), .val (.int p2), .val (.int p3), .val (.int p4), .val (.int p5), .val (.long x1), .second, .val (.long x2), .second, .val (.long x3), .second, .val (.long x4), .second, .val (.long x5), .second, .val (.long x6), .second, .val (.ref ob7), .val (.ref bq59), .val (.ref ob60), .val (.int (2 : Int32)), .val (.long (8 : Int64)), .second]) rfl) ?_
        show GG _ _ _ _ _ _ _ T62 (mkF m 158 #[.val (.long q0), .second, .val (.int p1), .val (.int p2), .val (.int p3), .val (.int p4), .val (.int p5), .val (.long x1), .second, .val (.long x2), .second, .val (.long x3), .second, .val (.long x4), .second, .val (.long x5), .second, .val (.long x6), .second, .val (.ref ob7), .val (.ref bq59), .val (.ref ob60), .val (.int (2 : Int32)), .val (.long (8 : Int64)), .second] [])
        refine own_go (fun _ => XS.lload X62.here hx rfl (hb hby at_158) rfl) ?_
        show GG _ _ _ _ _ _ _ T62 (mkF m 160 #[.val (.long q0), .second, .val (.int p1), .val (.int p2), .val (.int p3), .val (.int p4), .val (.int p5), .val (.long x1), .second, .val (.long x2), .second, .val (.long x3), .second, .val (.long x4), .second, .val (.long x5), .second, .val (.long x6), .second, .val (.ref ob7), .val (.ref bq59), .val (.ref ob60), .val (.int (2 : Int32)), .val (.long (8 : Int64)), .second] [(.long x4)])
        refine own_go (fun _ => XS.lstore X62.here hx rfl (hb hby at_160) rfl (l' := #[.val (.long q0), .second, .val (.int p1), .val (.int p2), .val (.int p3), .val (.int p4), .val (.int p5), .val (.long x1), .second, .val (.long x2), .second, .val (.long x3), .second, .val (.long x4), .second, .val (.long x5), .second, .val (.long x6), .second, .val (.ref ob7), .val (.ref bq59), .val (.ref ob60), .val (.int (2 : Int32)), .val (.long x4), .second]) rfl) ?_
        show GG _ _ _ _ _ _ _ T62 (mkF m 162 #[.val (.long q0), .second, .val (.int p1), .val (.int p2), .val (.int p3), .val (.int p4), .val (.int p5), .val (.long x1), .second, .val (.long x2), .second, .val (.long x3), .second, .val (.long x4), .second, .val (.long x5), .second, .val (.long x6), .second, .val (.ref ob7), .val (.ref bq59), .val (.ref ob60), .val (.int (2 : Int32)), .val (.long x4), .second] [])
        refine own_go (fun _ => XS.lload X62.here hx rfl (hb hby at_162) rfl) ?_
        show GG _ _ _ _ _ _ _ T62 (mkF m 164 #[.val (.long q0), .second, .val (.int p1), .val (.int p2), .val (.int p3), .val (.int p4), .val (.int p5), .val (.long x1), .second, .val (.long x2), .second, .val (.long x3), .second, .val (.long x4), .second, .val (.long x5), .second, .val (.long x6), .second, .val (.ref ob7), .val (.ref bq59), .val (.ref ob60), .val (.int (2 : Int32)), .val (.long x4), .second] [(.long x5)])
        refine own_go (fun _ => XS.lload X62.here hx rfl (hb hby at_164) rfl) ?_
        show GG _ _ _ _ _ _ _ T62 (mkF m 166 #[.val (.long q0), .second, .val (.int p1), .val (.int p2), .val (.int p3), .val (.int p4), .val (.int p5), .val (.long x1), .second, .val (.long x2), .second, .val (.long x3), .second, .val (.long x4), .second, .val (.long x5), .second, .val (.long x6), .second, .val (.ref ob7), .val (.ref bq59), .val (.ref ob60), .val (.int (2 : Int32)), .val (.long x4), .second] [(.long x4), (.long x5)])
        refine own_go (fun _ => XS.lsub X62.here hx rfl (hb hby at_166) rfl) ?_
        show GG _ _ _ _ _ _ _ T62 (mkF m 167 #[.val (.long q0), .second, .val (.int p1), .val (.int p2), .val (.int p3), .val (.int p4), .val (.int p5), .val (.long x1), .second, .val (.long x2), .second, .val (.long x3), .second, .val (.long x4), .second, .val (.long x5), .second, .val (.long x6), .second, .val (.ref ob7), .val (.ref bq59), .val (.ref ob60), .val (.int (2 : Int32)), .val (.long x4), .second] [(.long (x5 - x4))])
        refine own_go (fun _ => X62.ldc2Long hx hown (mvT hZ (hw _ (List.mem_of_getElem? (i := 40) rfl))) (g := (mkF m 167 #[.val (.long q0), .second, .val (.int p1), .val (.int p2), .val (.int p3), .val (.int p4), .val (.int p5), .val (.long x1), .second, .val (.long x2), .second, .val (.long x3), .second, .val (.long x4), .second, .val (.long x5), .second, .val (.long x6), .second, .val (.ref ob7), .val (.ref bq59), .val (.ref ob60), .val (.int (2 : Int32)), .val (.long x4), .second] [(.long (x5 - x4))])) rfl (hb hby at_167) _) ?_
        show GG _ _ _ _ _ _ _ T62 (mkF m 170 #[.val (.long q0), .second, .val (.int p1), .val (.int p2), .val (.int p3), .val (.int p4), .val (.int p5), .val (.long x1), .second, .val (.long x2), .second, .val (.long x3), .second, .val (.long x4), .second, .val (.long x5), .second, .val (.long x6), .second, .val (.ref ob7), .val (.ref bq59), .val (.ref ob60), .val (.int (2 : Int32)), .val (.long x4), .second] [(.long (65536 : Int64)), (.long (x5 - x4))])
        refine own_go (fun _ => XS.lcmp X62.here hx rfl (hb hby at_170) rfl) ?_
        show GG _ _ _ _ _ _ _ T62 (mkF m 171 #[.val (.long q0), .second, .val (.int p1), .val (.int p2), .val (.int p3), .val (.int p4), .val (.int p5), .val (.long x1), .second, .val (.long x2), .second, .val (.long x3), .second, .val (.long x4), .second, .val (.long x5), .second, .val (.long x6), .second, .val (.ref ob7), .val (.ref bq59), .val (.ref ob60), .val (.int (2 : Int32)), .val (.long x4), .second] [(.int (lcmpW (x5 - x4) (65536 : Int64)))])
        have hc171 : (x5 - x4) < (65536 : Int64) := hp91
        refine own_go (fun _ => XS.ifYes X62.here hx rfl (pc0 := 171) (pc' := 200) rfl (hb hby at_171) rfl ((if0 _ _).trans (tlt ((lw_lt _ _).mpr hc171)).1) (by decide) (by decide)) ?_
        show GG _ _ _ _ _ _ _ T62 (mkF m 200 #[.val (.long q0), .second, .val (.int p1), .val (.int p2), .val (.int p3), .val (.int p4), .val (.int p5), .val (.long x1), .second, .val (.long x2), .second, .val (.long x3), .second, .val (.long x4), .second, .val (.long x5), .second, .val (.long x6), .second, .val (.ref ob7), .val (.ref bq59), .val (.ref ob60), .val (.int (2 : Int32)), .val (.long x4), .second] [])
        refine own_go (fun _ => XS.lload X62.here hx rfl (hb hby at_200) rfl) ?_
        show GG _ _ _ _ _ _ _ T62 (mkF m 202 #[.val (.long q0), .second, .val (.int p1), .val (.int p2), .val (.int p3), .val (.int p4), .val (.int p5), .val (.long x1), .second, .val (.long x2), .second, .val (.long x3), .second, .val (.long x4), .second, .val (.long x5), .second, .val (.long x6), .second, .val (.ref ob7), .val (.ref bq59), .val (.ref ob60), .val (.int (2 : Int32)), .val (.long x4), .second] [(.long x6)])
        refine own_go (fun _ => XS.lload X62.here hx rfl (hb hby at_202) rfl) ?_
        show GG _ _ _ _ _ _ _ T62 (mkF m 204 #[.val (.long q0), .second, .val (.int p1), .val (.int p2), .val (.int p3), .val (.int p4), .val (.int p5), .val (.long x1), .second, .val (.long x2), .second, .val (.long x3), .second, .val (.long x4), .second, .val (.long x5), .second, .val (.long x6), .second, .val (.ref ob7), .val (.ref bq59), .val (.ref ob60), .val (.int (2 : Int32)), .val (.long x4), .second] [(.long x4), (.long x6)])
        refine own_go (fun _ => XS.lsub X62.here hx rfl (hb hby at_204) rfl) ?_
        show GG _ _ _ _ _ _ _ T62 (mkF m 205 #[.val (.long q0), .second, .val (.int p1), .val (.int p2), .val (.int p3), .val (.int p4), .val (.int p5), .val (.long x1), .second, .val (.long x2), .second, .val (.long x3), .second, .val (.long x4), .second, .val (.long x5), .second, .val (.long x6), .second, .val (.ref ob7), .val (.ref bq59), .val (.ref ob60), .val (.int (2 : Int32)), .val (.long x4), .second] [(.long (x6 - x4))])
        refine own_go (fun _ => X62.ldc2Long hx hown (mvT hZ (hw _ (List.mem_of_getElem? (i := 40) rfl))) (g := (mkF m 205 #[.val (.long q0), .second, .val (.int p1), .val (.int p2), .val (.int p3), .val (.int p4), .val (.int p5), .val (.long x1), .second, .val (.long x2), .second, .val (.long x3), .second, .val (.long x4), .second, .val (.long x5), .second, .val (.long x6), .second, .val (.ref ob7), .val (.ref bq59), .val (.ref ob60), .val (.int (2 : Int32)), .val (.long x4), .second] [(.long (x6 - x4))])) rfl (hb hby at_205) _) ?_
        show GG _ _ _ _ _ _ _ T62 (mkF m 208 #[.val (.long q0), .second, .val (.int p1), .val (.int p2), .val (.int p3), .val (.int p4), .val (.int p5), .val (.long x1), .second, .val (.long x2), .second, .val (.long x3), .second, .val (.long x4), .second, .val (.long x5), .second, .val (.long x6), .second, .val (.ref ob7), .val (.ref bq59), .val (.ref ob60), .val (.int (2 : Int32)), .val (.long x4), .second] [(.long (65536 : Int64)), (.long (x6 - x4))])
        refine own_go (fun _ => XS.lcmp X62.here hx rfl (hb hby at_208) rfl) ?_
        show GG _ _ _ _ _ _ _ T62 (mkF m 209 #[.val (.long q0), .second, .val (.int p1), .val (.int p2), .val (.int p3), .val (.int p4), .val (.int p5), .val (.long x1), .second, .val (.long x2), .second, .val (.long x3), .second, .val (.long x4), .second, .val (.long x5), .second, .val (.long x6), .second, .val (.ref ob7), .val (.ref bq59), .val (.ref ob60), .val (.int (2 : Int32)), .val (.long x4), .second] [(.int (lcmpW (x6 - x4) (65536 : Int64)))])
        have hc209 : (x6 - x4) < (65536 : Int64) := hp100
        refine own_go (fun _ => XS.ifYes X62.here hx rfl (pc0 := 209) (pc' := 238) rfl (hb hby at_209) rfl ((if0 _ _).trans (tlt ((lw_lt _ _).mpr hc209)).1) (by decide) (by decide)) ?_
        show GG _ _ _ _ _ _ _ T62 (mkF m 238 #[.val (.long q0), .second, .val (.int p1), .val (.int p2), .val (.int p3), .val (.int p4), .val (.int p5), .val (.long x1), .second, .val (.long x2), .second, .val (.long x3), .second, .val (.long x4), .second, .val (.long x5), .second, .val (.long x6), .second, .val (.ref ob7), .val (.ref bq59), .val (.ref ob60), .val (.int (2 : Int32)), .val (.long x4), .second] [])
        refine own_go (fun _ => XS.aload X62.here hx rfl (hb hby at_238) rfl rfl) ?_
        show GG _ _ _ _ _ _ _ T62 (mkF m 240 #[.val (.long q0), .second, .val (.int p1), .val (.int p2), .val (.int p3), .val (.int p4), .val (.int p5), .val (.long x1), .second, .val (.long x2), .second, .val (.long x3), .second, .val (.long x4), .second, .val (.long x5), .second, .val (.long x6), .second, .val (.ref ob7), .val (.ref bq59), .val (.ref ob60), .val (.int (2 : Int32)), .val (.long x4), .second] [(.ref bq59)])
        refine own_go (fun _ => own_len X62 hx hZ e62 Vq59 (g := (mkF m 240 #[.val (.long q0), .second, .val (.int p1), .val (.int p2), .val (.int p3), .val (.int p4), .val (.int p5), .val (.long x1), .second, .val (.long x2), .second, .val (.long x3), .second, .val (.long x4), .second, .val (.long x5), .second, .val (.long x6), .second, .val (.ref ob7), .val (.ref bq59), .val (.ref ob60), .val (.int (2 : Int32)), .val (.long x4), .second] [(.ref bq59)])) rfl rfl (hb hby at_240) _) ?_
        show GG _ _ _ _ _ _ _ T62 (mkF m 241 #[.val (.long q0), .second, .val (.int p1), .val (.int p2), .val (.int p3), .val (.int p4), .val (.int p5), .val (.long x1), .second, .val (.long x2), .second, .val (.long x3), .second, .val (.long x4), .second, .val (.long x5), .second, .val (.long x6), .second, .val (.ref ob7), .val (.ref bq59), .val (.ref ob60), .val (.int (2 : Int32)), .val (.long x4), .second] [(.int (2 : Int32))])
        refine own_go (fun _ => XS.iload X62.here hx rfl (hb hby at_241) rfl) ?_
        show GG _ _ _ _ _ _ _ T62 (mkF m 243 #[.val (.long q0), .second, .val (.int p1), .val (.int p2), .val (.int p3), .val (.int p4), .val (.int p5), .val (.long x1), .second, .val (.long x2), .second, .val (.long x3), .second, .val (.long x4), .second, .val (.long x5), .second, .val (.long x6), .second, .val (.ref ob7), .val (.ref bq59), .val (.ref ob60), .val (.int (2 : Int32)), .val (.long x4), .second] [(.int (2 : Int32)), (.int (2 : Int32))])
        have hc243 : (2 : Int32) = (2 : Int32) := by decide
        refine own_go (fun _ => XS.icmpNo X62.here hx rfl (hb hby at_243) rfl (teq hc243).2) ?_
        show GG _ _ _ _ _ _ _ T62 (mkF m 246 #[.val (.long q0), .second, .val (.int p1), .val (.int p2), .val (.int p3), .val (.int p4), .val (.int p5), .val (.long x1), .second, .val (.long x2), .second, .val (.long x3), .second, .val (.long x4), .second, .val (.long x5), .second, .val (.long x6), .second, .val (.ref ob7), .val (.ref bq59), .val (.ref ob60), .val (.int (2 : Int32)), .val (.long x4), .second] [])
        refine own_go (fun _ => XS.aload X62.here hx rfl (hb hby at_246) rfl rfl) ?_
        show GG _ _ _ _ _ _ _ T62 (mkF m 248 #[.val (.long q0), .second, .val (.int p1), .val (.int p2), .val (.int p3), .val (.int p4), .val (.int p5), .val (.long x1), .second, .val (.long x2), .second, .val (.long x3), .second, .val (.long x4), .second, .val (.long x5), .second, .val (.long x6), .second, .val (.ref ob7), .val (.ref bq59), .val (.ref ob60), .val (.int (2 : Int32)), .val (.long x4), .second] [(.ref bq59)])
        refine own_go (fun _ => XS.aload X62.here hx rfl (hb hby at_248) rfl rfl) ?_
        show GG _ _ _ _ _ _ _ T62 (mkF m 250 #[.val (.long q0), .second, .val (.int p1), .val (.int p2), .val (.int p3), .val (.int p4), .val (.int p5), .val (.long x1), .second, .val (.long x2), .second, .val (.long x3), .second, .val (.long x4), .second, .val (.long x5), .second, .val (.long x6), .second, .val (.ref ob7), .val (.ref bq59), .val (.ref ob60), .val (.int (2 : Int32)), .val (.long x4), .second] [(.ref ob60), (.ref bq59)])
        refine own_go (fun _ => XS.iconst X62.here hx rfl (hb hby at_250)) ?_
        show GG _ _ _ _ _ _ _ T62 (mkF m 251 #[.val (.long q0), .second, .val (.int p1), .val (.int p2), .val (.int p3), .val (.int p4), .val (.int p5), .val (.long x1), .second, .val (.long x2), .second, .val (.long x3), .second, .val (.long x4), .second, .val (.long x5), .second, .val (.long x6), .second, .val (.ref ob7), .val (.ref bq59), .val (.ref ob60), .val (.int (2 : Int32)), .val (.long x4), .second] [(.int (0 : Int32)), (.ref ob60), (.ref bq59)])
        refine own_go (fun _ => XS.iload X62.here hx rfl (hb hby at_251) rfl) ?_
        show GG _ _ _ _ _ _ _ T62 (mkF m 253 #[.val (.long q0), .second, .val (.int p1), .val (.int p2), .val (.int p3), .val (.int p4), .val (.int p5), .val (.long x1), .second, .val (.long x2), .second, .val (.long x3), .second, .val (.long x4), .second, .val (.long x5), .second, .val (.long x6), .second, .val (.ref ob7), .val (.ref bq59), .val (.ref ob60), .val (.int (2 : Int32)), .val (.long x4), .second] [(.int (2 : Int32)), (.int (0 : Int32)), (.ref ob60), (.ref bq59)])
        refine own_callS X62 hx hZ (y := (⟨"com/example/obliv/obliv/io/SegmentIndexToArrayPinLaw", "eqAt", "([J[JII)Z"⟩ : MethodName)) 0 hown (hw _ (List.mem_of_getElem? (i := 41) rfl)) (hw _ (List.mem_of_getElem? (i := 42) rfl)) (hw _ (List.mem_of_getElem? (i := 43) rfl)) (hw _ (List.mem_of_getElem? (i := 44) rfl)) (by decide) (argsL := [(.ref bq59), (.ref ob60), (.int (0 : Int32)), (.int (2 : Int32))]) (rest := []) (rm7 l Z a0 hw [] bq59 ob60 (0 : Int32) (2 : Int32) [(.long x1), (.long x4)] [(.long x1), (.long x4), (.long (0 : Int64)), (.long (0 : Int64)), (.long (0 : Int64)), (.long (0 : Int64))] h62 n0 (Nat.le_trans Z0 K0.1) Vq59 V_ob60 (Or.inr ⟨by decide, _, rfl, rfl⟩)) (by decide) (by decide) (by decide) (by decide) (g := (mkF m 253 #[.val (.long q0), .second, .val (.int p1), .val (.int p2), .val (.int p3), .val (.int p4), .val (.int p5), .val (.long x1), .second, .val (.long x2), .second, .val (.long x3), .second, .val (.long x4), .second, .val (.long x5), .second, .val (.long x6), .second, .val (.ref ob7), .val (.ref bq59), .val (.ref ob60), .val (.int (2 : Int32)), .val (.long x4), .second] [(.int (2 : Int32)), (.int (0 : Int32)), (.ref ob60), (.ref bq59)])) rfl (by rw [hml]; rfl) (lenOf pd___J_JII_Z_647 rfl) rfl (by show 2 * 0 + _ ≤ _; exact Nat.le_of_eq rfl) (hb hby at_253) e62 ?_
        rintro v63 T63 L63 X63 ⟨rfl, N63q, hh63⟩
        have N63 := Fr.app N62 N63q
        show GG _ _ _ _ _ _ _ T63 (mkF m 256 #[.val (.long q0), .second, .val (.int p1), .val (.int p2), .val (.int p3), .val (.int p4), .val (.int p5), .val (.long x1), .second, .val (.long x2), .second, .val (.long x3), .second, .val (.long x4), .second, .val (.long x5), .second, .val (.long x6), .second, .val (.ref ob7), .val (.ref bq59), .val (.ref ob60), .val (.int (2 : Int32)), .val (.long x4), .second] [(.int (1 : Int32))])
        have hc256 : ¬ ((1 : Int32) = (0 : Int32)) := by decide
        refine own_go (fun _ => XS.ifNo X63.here hx rfl (hb hby at_256) rfl ((if0 _ _).trans (feq hc256).1)) ?_
        show GG _ _ _ _ _ _ _ T63 (mkF m 259 #[.val (.long q0), .second, .val (.int p1), .val (.int p2), .val (.int p3), .val (.int p4), .val (.int p5), .val (.long x1), .second, .val (.long x2), .second, .val (.long x3), .second, .val (.long x4), .second, .val (.long x5), .second, .val (.long x6), .second, .val (.ref ob7), .val (.ref bq59), .val (.ref ob60), .val (.int (2 : Int32)), .val (.long x4), .second] [])
        refine own_go (fun _ => XS.aload X63.here hx rfl (hb hby at_259) rfl rfl) ?_
        show GG _ _ _ _ _ _ _ T63 (mkF m 261 #[.val (.long q0), .second, .val (.int p1), .val (.int p2), .val (.int p3), .val (.int p4), .val (.int p5), .val (.long x1), .second, .val (.long x2), .second, .val (.long x3), .second, .val (.long x4), .second, .val (.long x5), .second, .val (.long x6), .second, .val (.ref ob7), .val (.ref bq59), .val (.ref ob60), .val (.int (2 : Int32)), .val (.long x4), .second] [(.ref bq59)])
        refine own_go (fun _ => XS.aload X63.here hx rfl (hb hby at_261) rfl rfl) ?_
        show GG _ _ _ _ _ _ _ T63 (mkF m 263 #[.val (.long q0), .second, .val (.int p1), .val (.int p2), .val (.int p3), .val (.int p4), .val (.int p5), .val (.long x1), .second, .val (.long x2), .second, .val (.long x3), .second, .val (.long x4), .second, .val (.long x5), .second, .val (.long x6), .second, .val (.ref ob7), .val (.ref bq59), .val (.ref ob60), .val (.int (2 : Int32)), .val (.long x4), .second] [(.ref ob60), (.ref bq59)])
        refine own_go (fun _ => XS.iconst X63.here hx rfl (hb hby at_263)) ?_
        show GG _ _ _ _ _ _ _ T63 (mkF m 264 #[.val (.long q0), .second, .val (.int p1), .val (.int p2), .val (.int p3), .val (.int p4), .val (.int p5), .val (.long x1), .second, .val (.long x2), .second, .val (.long x3), .second, .val (.long x4), .second, .val (.long x5), .second, .val (.long x6), .second, .val (.ref ob7), .val (.ref bq59), .val (.ref ob60), .val (.int (2 : Int32)), .val (.long x4), .second] [(.int (1 : Int32)), (.ref ob60), (.ref bq59)])
        refine own_go (fun _ => XS.iload X63.here hx rfl (hb hby at_264) rfl) ?_
        show GG _ _ _ _ _ _ _ T63 (mkF m 266 #[.val (.long q0), .second, .val (.int p1), .val (.int p2), .val (.int p3), .val (.int p4), .val (.int p5), .val (.long x1), .second, .val (.long x2), .second, .val (.long x3), .second, .val (.long x4), .second, .val (.long x5), .second, .val (.long x6), .second, .val (.ref ob7), .val (.ref bq59), .val (.ref ob60), .val (.int (2 : Int32)), .val (.long x4), .second] [(.int (2 : Int32)), (.int (1 : Int32)), (.ref ob60), (.ref bq59)])
        refine own_callS X63 hx hZ (y := (⟨"com/example/obliv/obliv/io/SegmentIndexToArrayPinLaw", "eqAt", "([J[JII)Z"⟩ : MethodName)) 0 hown (hw _ (List.mem_of_getElem? (i := 41) rfl)) (hw _ (List.mem_of_getElem? (i := 42) rfl)) (hw _ (List.mem_of_getElem? (i := 43) rfl)) (hw _ (List.mem_of_getElem? (i := 44) rfl)) (by decide) (argsL := [(.ref bq59), (.ref ob60), (.int (1 : Int32)), (.int (2 : Int32))]) (rest := []) (rm7 l Z a0 hw [] bq59 ob60 (1 : Int32) (2 : Int32) [(.long x1), (.long x4)] [(.long x1), (.long x4), (.long (0 : Int64)), (.long (0 : Int64)), (.long (0 : Int64)), (.long (0 : Int64))] h62 n0 (Nat.le_trans Z0 K0.1) Vq59 V_ob60 (Or.inr ⟨by decide, _, rfl, rfl⟩)) (by decide) (by decide) (by decide) (by decide) (g := (mkF m 266 #[.val (.long q0), .second, .val (.int p1), .val (.int p2), .val (.int p3), .val (.int p4), .val (.int p5), .val (.long x1), .second, .val (.long x2), .second, .val (.long x3), .second, .val (.long x4), .second, .val (.long x5), .second, .val (.long x6), .second, .val (.ref ob7), .val (.ref bq59), .val (.ref ob60), .val (.int (2 : Int32)), .val (.long x4), .second] [(.int (2 : Int32)), (.int (1 : Int32)), (.ref ob60), (.ref bq59)])) rfl (by rw [hml]; rfl) (lenOf pd___J_JII_Z_647 rfl) rfl (by show 2 * 0 + _ ≤ _; exact Nat.le_of_eq rfl) (hb hby at_266) hh63 ?_
        rintro v64 T64 L64 X64 ⟨rfl, N64q, hh64⟩
        have N64 := Fr.app N63 N64q
        show GG _ _ _ _ _ _ _ T64 (mkF m 269 #[.val (.long q0), .second, .val (.int p1), .val (.int p2), .val (.int p3), .val (.int p4), .val (.int p5), .val (.long x1), .second, .val (.long x2), .second, .val (.long x3), .second, .val (.long x4), .second, .val (.long x5), .second, .val (.long x6), .second, .val (.ref ob7), .val (.ref bq59), .val (.ref ob60), .val (.int (2 : Int32)), .val (.long x4), .second] [(.int (1 : Int32))])
        have hc269 : ¬ ((1 : Int32) = (0 : Int32)) := by decide
        refine own_go (fun _ => XS.ifNo X64.here hx rfl (hb hby at_269) rfl ((if0 _ _).trans (feq hc269).1)) ?_
        show GG _ _ _ _ _ _ _ T64 (mkF m 272 #[.val (.long q0), .second, .val (.int p1), .val (.int p2), .val (.int p3), .val (.int p4), .val (.int p5), .val (.long x1), .second, .val (.long x2), .second, .val (.long x3), .second, .val (.long x4), .second, .val (.long x5), .second, .val (.long x6), .second, .val (.ref ob7), .val (.ref bq59), .val (.ref ob60), .val (.int (2 : Int32)), .val (.long x4), .second] [])
        refine own_go (fun _ => XS.aload X64.here hx rfl (hb hby at_272) rfl rfl) ?_
        show GG _ _ _ _ _ _ _ T64 (mkF m 274 #[.val (.long q0), .second, .val (.int p1), .val (.int p2), .val (.int p3), .val (.int p4), .val (.int p5), .val (.long x1), .second, .val (.long x2), .second, .val (.long x3), .second, .val (.long x4), .second, .val (.long x5), .second, .val (.long x6), .second, .val (.ref ob7), .val (.ref bq59), .val (.ref ob60), .val (.int (2 : Int32)), .val (.long x4), .second] [(.ref bq59)])
        refine own_go (fun _ => XS.aload X64.here hx rfl (hb hby at_274) rfl rfl) ?_
        show GG _ _ _ _ _ _ _ T64 (mkF m 276 #[.val (.long q0), .second, .val (.int p1), .val (.int p2), .val (.int p3), .val (.int p4), .val (.int p5), .val (.long x1), .second, .val (.long x2), .second, .val (.long x3), .second, .val (.long x4), .second, .val (.long x5), .second, .val (.long x6), .second, .val (.ref ob7), .val (.ref bq59), .val (.ref ob60), .val (.int (2 : Int32)), .val (.long x4), .second] [(.ref ob60), (.ref bq59)])
        refine own_go (fun _ => XS.iconst X64.here hx rfl (hb hby at_276)) ?_
        show GG _ _ _ _ _ _ _ T64 (mkF m 277 #[.val (.long q0), .second, .val (.int p1), .val (.int p2), .val (.int p3), .val (.int p4), .val (.int p5), .val (.long x1), .second, .val (.long x2), .second, .val (.long x3), .second, .val (.long x4), .second, .val (.long x5), .second, .val (.long x6), .second, .val (.ref ob7), .val (.ref bq59), .val (.ref ob60), .val (.int (2 : Int32)), .val (.long x4), .second] [(.int (2 : Int32)), (.ref ob60), (.ref bq59)])
        refine own_go (fun _ => XS.iload X64.here hx rfl (hb hby at_277) rfl) ?_
        show GG _ _ _ _ _ _ _ T64 (mkF m 279 #[.val (.long q0), .second, .val (.int p1), .val (.int p2), .val (.int p3), .val (.int p4), .val (.int p5), .val (.long x1), .second, .val (.long x2), .second, .val (.long x3), .second, .val (.long x4), .second, .val (.long x5), .second, .val (.long x6), .second, .val (.ref ob7), .val (.ref bq59), .val (.ref ob60), .val (.int (2 : Int32)), .val (.long x4), .second] [(.int (2 : Int32)), (.int (2 : Int32)), (.ref ob60), (.ref bq59)])
        refine own_callS X64 hx hZ (y := (⟨"com/example/obliv/obliv/io/SegmentIndexToArrayPinLaw", "eqAt", "([J[JII)Z"⟩ : MethodName)) 0 hown (hw _ (List.mem_of_getElem? (i := 41) rfl)) (hw _ (List.mem_of_getElem? (i := 42) rfl)) (hw _ (List.mem_of_getElem? (i := 43) rfl)) (hw _ (List.mem_of_getElem? (i := 44) rfl)) (by decide) (argsL := [(.ref bq59), (.ref ob60), (.int (2 : Int32)), (.int (2 : Int32))]) (rest := []) (rm7 l Z a0 hw [] bq59 ob60 (2 : Int32) (2 : Int32) [(.long x1), (.long x4)] [(.long x1), (.long x4), (.long (0 : Int64)), (.long (0 : Int64)), (.long (0 : Int64)), (.long (0 : Int64))] h62 n0 (Nat.le_trans Z0 K0.1) Vq59 V_ob60 (Or.inl (by decide))) (by decide) (by decide) (by decide) (by decide) (g := (mkF m 279 #[.val (.long q0), .second, .val (.int p1), .val (.int p2), .val (.int p3), .val (.int p4), .val (.int p5), .val (.long x1), .second, .val (.long x2), .second, .val (.long x3), .second, .val (.long x4), .second, .val (.long x5), .second, .val (.long x6), .second, .val (.ref ob7), .val (.ref bq59), .val (.ref ob60), .val (.int (2 : Int32)), .val (.long x4), .second] [(.int (2 : Int32)), (.int (2 : Int32)), (.ref ob60), (.ref bq59)])) rfl (by rw [hml]; rfl) (lenOf pd___J_JII_Z_647 rfl) rfl (by show 2 * 0 + _ ≤ _; exact Nat.le_of_eq rfl) (hb hby at_279) hh64 ?_
        rintro v65 T65 L65 X65 ⟨rfl, N65q, hh65⟩
        have N65 := Fr.app N64 N65q
        show GG _ _ _ _ _ _ _ T65 (mkF m 282 #[.val (.long q0), .second, .val (.int p1), .val (.int p2), .val (.int p3), .val (.int p4), .val (.int p5), .val (.long x1), .second, .val (.long x2), .second, .val (.long x3), .second, .val (.long x4), .second, .val (.long x5), .second, .val (.long x6), .second, .val (.ref ob7), .val (.ref bq59), .val (.ref ob60), .val (.int (2 : Int32)), .val (.long x4), .second] [(.int (1 : Int32))])
        have hc282 : ¬ ((1 : Int32) = (0 : Int32)) := by decide
        refine own_go (fun _ => XS.ifNo X65.here hx rfl (hb hby at_282) rfl ((if0 _ _).trans (feq hc282).1)) ?_
        show GG _ _ _ _ _ _ _ T65 (mkF m 285 #[.val (.long q0), .second, .val (.int p1), .val (.int p2), .val (.int p3), .val (.int p4), .val (.int p5), .val (.long x1), .second, .val (.long x2), .second, .val (.long x3), .second, .val (.long x4), .second, .val (.long x5), .second, .val (.long x6), .second, .val (.ref ob7), .val (.ref bq59), .val (.ref ob60), .val (.int (2 : Int32)), .val (.long x4), .second] [])
        refine own_go (fun _ => XS.aload X65.here hx rfl (hb hby at_285) rfl rfl) ?_
        show GG _ _ _ _ _ _ _ T65 (mkF m 287 #[.val (.long q0), .second, .val (.int p1), .val (.int p2), .val (.int p3), .val (.int p4), .val (.int p5), .val (.long x1), .second, .val (.long x2), .second, .val (.long x3), .second, .val (.long x4), .second, .val (.long x5), .second, .val (.long x6), .second, .val (.ref ob7), .val (.ref bq59), .val (.ref ob60), .val (.int (2 : Int32)), .val (.long x4), .second] [(.ref bq59)])
        refine own_go (fun _ => XS.aload X65.here hx rfl (hb hby at_287) rfl rfl) ?_
        show GG _ _ _ _ _ _ _ T65 (mkF m 289 #[.val (.long q0), .second, .val (.int p1), .val (.int p2), .val (.int p3), .val (.int p4), .val (.int p5), .val (.long x1), .second, .val (.long x2), .second, .val (.long x3), .second, .val (.long x4), .second, .val (.long x5), .second, .val (.long x6), .second, .val (.ref ob7), .val (.ref bq59), .val (.ref ob60), .val (.int (2 : Int32)), .val (.long x4), .second] [(.ref ob60), (.ref bq59)])
        refine own_go (fun _ => XS.iconst X65.here hx rfl (hb hby at_289)) ?_
        show GG _ _ _ _ _ _ _ T65 (mkF m 290 #[.val (.long q0), .second, .val (.int p1), .val (.int p2), .val (.int p3), .val (.int p4), .val (.int p5), .val (.long x1), .second, .val (.long x2), .second, .val (.long x3), .second, .val (.long x4), .second, .val (.long x5), .second, .val (.long x6), .second, .val (.ref ob7), .val (.ref bq59), .val (.ref ob60), .val (.int (2 : Int32)), .val (.long x4), .second] [(.int (3 : Int32)), (.ref ob60), (.ref bq59)])
        refine own_go (fun _ => XS.iload X65.here hx rfl (hb hby at_290) rfl) ?_
        show GG _ _ _ _ _ _ _ T65 (mkF m 292 #[.val (.long q0), .second, .val (.int p1), .val (.int p2), .val (.int p3), .val (.int p4), .val (.int p5), .val (.long x1), .second, .val (.long x2), .second, .val (.long x3), .second, .val (.long x4), .second, .val (.long x5), .second, .val (.long x6), .second, .val (.ref ob7), .val (.ref bq59), .val (.ref ob60), .val (.int (2 : Int32)), .val (.long x4), .second] [(.int (2 : Int32)), (.int (3 : Int32)), (.ref ob60), (.ref bq59)])
        refine own_callS X65 hx hZ (y := (⟨"com/example/obliv/obliv/io/SegmentIndexToArrayPinLaw", "eqAt", "([J[JII)Z"⟩ : MethodName)) 0 hown (hw _ (List.mem_of_getElem? (i := 41) rfl)) (hw _ (List.mem_of_getElem? (i := 42) rfl)) (hw _ (List.mem_of_getElem? (i := 43) rfl)) (hw _ (List.mem_of_getElem? (i := 44) rfl)) (by decide) (argsL := [(.ref bq59), (.ref ob60), (.int (3 : Int32)), (.int (2 : Int32))]) (rest := []) (rm7 l Z a0 hw [] bq59 ob60 (3 : Int32) (2 : Int32) [(.long x1), (.long x4)] [(.long x1), (.long x4), (.long (0 : Int64)), (.long (0 : Int64)), (.long (0 : Int64)), (.long (0 : Int64))] h62 n0 (Nat.le_trans Z0 K0.1) Vq59 V_ob60 (Or.inl (by decide))) (by decide) (by decide) (by decide) (by decide) (g := (mkF m 292 #[.val (.long q0), .second, .val (.int p1), .val (.int p2), .val (.int p3), .val (.int p4), .val (.int p5), .val (.long x1), .second, .val (.long x2), .second, .val (.long x3), .second, .val (.long x4), .second, .val (.long x5), .second, .val (.long x6), .second, .val (.ref ob7), .val (.ref bq59), .val (.ref ob60), .val (.int (2 : Int32)), .val (.long x4), .second] [(.int (2 : Int32)), (.int (3 : Int32)), (.ref ob60), (.ref bq59)])) rfl (by rw [hml]; rfl) (lenOf pd___J_JII_Z_647 rfl) rfl (by show 2 * 0 + _ ≤ _; exact Nat.le_of_eq rfl) (hb hby at_292) hh65 ?_
        rintro v66 T66 L66 X66 ⟨rfl, N66q, hh66⟩
        have N66 := Fr.app N65 N66q
        show GG _ _ _ _ _ _ _ T66 (mkF m 295 #[.val (.long q0), .second, .val (.int p1), .val (.int p2), .val (.int p3), .val (.int p4), .val (.int p5), .val (.long x1), .second, .val (.long x2), .second, .val (.long x3), .second, .val (.long x4), .second, .val (.long x5), .second, .val (.long x6), .second, .val (.ref ob7), .val (.ref bq59), .val (.ref ob60), .val (.int (2 : Int32)), .val (.long x4), .second] [(.int (1 : Int32))])
        have hc295 : ¬ ((1 : Int32) = (0 : Int32)) := by decide
        refine own_go (fun _ => XS.ifNo X66.here hx rfl (hb hby at_295) rfl ((if0 _ _).trans (feq hc295).1)) ?_
        show GG _ _ _ _ _ _ _ T66 (mkF m 298 #[.val (.long q0), .second, .val (.int p1), .val (.int p2), .val (.int p3), .val (.int p4), .val (.int p5), .val (.long x1), .second, .val (.long x2), .second, .val (.long x3), .second, .val (.long x4), .second, .val (.long x5), .second, .val (.long x6), .second, .val (.ref ob7), .val (.ref bq59), .val (.ref ob60), .val (.int (2 : Int32)), .val (.long x4), .second] [])
        refine own_go (fun _ => XS.aload X66.here hx rfl (hb hby at_298) rfl rfl) ?_
        show GG _ _ _ _ _ _ _ T66 (mkF m 300 #[.val (.long q0), .second, .val (.int p1), .val (.int p2), .val (.int p3), .val (.int p4), .val (.int p5), .val (.long x1), .second, .val (.long x2), .second, .val (.long x3), .second, .val (.long x4), .second, .val (.long x5), .second, .val (.long x6), .second, .val (.ref ob7), .val (.ref bq59), .val (.ref ob60), .val (.int (2 : Int32)), .val (.long x4), .second] [(.ref bq59)])
        refine own_go (fun _ => XS.aload X66.here hx rfl (hb hby at_300) rfl rfl) ?_
        show GG _ _ _ _ _ _ _ T66 (mkF m 302 #[.val (.long q0), .second, .val (.int p1), .val (.int p2), .val (.int p3), .val (.int p4), .val (.int p5), .val (.long x1), .second, .val (.long x2), .second, .val (.long x3), .second, .val (.long x4), .second, .val (.long x5), .second, .val (.long x6), .second, .val (.ref ob7), .val (.ref bq59), .val (.ref ob60), .val (.int (2 : Int32)), .val (.long x4), .second] [(.ref ob60), (.ref bq59)])
        refine own_go (fun _ => XS.iconst X66.here hx rfl (hb hby at_302)) ?_
        show GG _ _ _ _ _ _ _ T66 (mkF m 303 #[.val (.long q0), .second, .val (.int p1), .val (.int p2), .val (.int p3), .val (.int p4), .val (.int p5), .val (.long x1), .second, .val (.long x2), .second, .val (.long x3), .second, .val (.long x4), .second, .val (.long x5), .second, .val (.long x6), .second, .val (.ref ob7), .val (.ref bq59), .val (.ref ob60), .val (.int (2 : Int32)), .val (.long x4), .second] [(.int (4 : Int32)), (.ref ob60), (.ref bq59)])
        refine own_go (fun _ => XS.iload X66.here hx rfl (hb hby at_303) rfl) ?_
        show GG _ _ _ _ _ _ _ T66 (mkF m 305 #[.val (.long q0), .second, .val (.int p1), .val (.int p2), .val (.int p3), .val (.int p4), .val (.int p5), .val (.long x1), .second, .val (.long x2), .second, .val (.long x3), .second, .val (.long x4), .second, .val (.long x5), .second, .val (.long x6), .second, .val (.ref ob7), .val (.ref bq59), .val (.ref ob60), .val (.int (2 : Int32)), .val (.long x4), .second] [(.int (2 : Int32)), (.int (4 : Int32)), (.ref ob60), (.ref bq59)])
        refine own_callS X66 hx hZ (y := (⟨"com/example/obliv/obliv/io/SegmentIndexToArrayPinLaw", "eqAt", "([J[JII)Z"⟩ : MethodName)) 0 hown (hw _ (List.mem_of_getElem? (i := 41) rfl)) (hw _ (List.mem_of_getElem? (i := 42) rfl)) (hw _ (List.mem_of_getElem? (i := 43) rfl)) (hw _ (List.mem_of_getElem? (i := 44) rfl)) (by decide) (argsL := [(.ref bq59), (.ref ob60), (.int (4 : Int32)), (.int (2 : Int32))]) (rest := []) (rm7 l Z a0 hw [] bq59 ob60 (4 : Int32) (2 : Int32) [(.long x1), (.long x4)] [(.long x1), (.long x4), (.long (0 : Int64)), (.long (0 : Int64)), (.long (0 : Int64)), (.long (0 : Int64))] h62 n0 (Nat.le_trans Z0 K0.1) Vq59 V_ob60 (Or.inl (by decide))) (by decide) (by decide) (by decide) (by decide) (g := (mkF m 305 #[.val (.long q0), .second, .val (.int p1), .val (.int p2), .val (.int p3), .val (.int p4), .val (.int p5), .val (.long x1), .second, .val (.long x2), .second, .val (.long x3), .second, .val (.long x4), .second, .val (.long x5), .second, .val (.long x6), .second, .val (.ref ob7), .val (.ref bq59), .val (.ref ob60), .val (.int (2 : Int32)), .val (.long x4), .second] [(.int (2 : Int32)), (.int (4 : Int32)), (.ref ob60), (.ref bq59)])) rfl (by rw [hml]; rfl) (lenOf pd___J_JII_Z_647 rfl) rfl (by show 2 * 0 + _ ≤ _; exact Nat.le_of_eq rfl) (hb hby at_305) hh66 ?_
        rintro v67 T67 L67 X67 ⟨rfl, N67q, hh67⟩
        have N67 := Fr.app N66 N67q
        show GG _ _ _ _ _ _ _ T67 (mkF m 308 #[.val (.long q0), .second, .val (.int p1), .val (.int p2), .val (.int p3), .val (.int p4), .val (.int p5), .val (.long x1), .second, .val (.long x2), .second, .val (.long x3), .second, .val (.long x4), .second, .val (.long x5), .second, .val (.long x6), .second, .val (.ref ob7), .val (.ref bq59), .val (.ref ob60), .val (.int (2 : Int32)), .val (.long x4), .second] [(.int (1 : Int32))])
        have hc308 : ¬ ((1 : Int32) = (0 : Int32)) := by decide
        refine own_go (fun _ => XS.ifNo X67.here hx rfl (hb hby at_308) rfl ((if0 _ _).trans (feq hc308).1)) ?_
        show GG _ _ _ _ _ _ _ T67 (mkF m 311 #[.val (.long q0), .second, .val (.int p1), .val (.int p2), .val (.int p3), .val (.int p4), .val (.int p5), .val (.long x1), .second, .val (.long x2), .second, .val (.long x3), .second, .val (.long x4), .second, .val (.long x5), .second, .val (.long x6), .second, .val (.ref ob7), .val (.ref bq59), .val (.ref ob60), .val (.int (2 : Int32)), .val (.long x4), .second] [])
        refine own_go (fun _ => XS.aload X67.here hx rfl (hb hby at_311) rfl rfl) ?_
        show GG _ _ _ _ _ _ _ T67 (mkF m 313 #[.val (.long q0), .second, .val (.int p1), .val (.int p2), .val (.int p3), .val (.int p4), .val (.int p5), .val (.long x1), .second, .val (.long x2), .second, .val (.long x3), .second, .val (.long x4), .second, .val (.long x5), .second, .val (.long x6), .second, .val (.ref ob7), .val (.ref bq59), .val (.ref ob60), .val (.int (2 : Int32)), .val (.long x4), .second] [(.ref bq59)])
        refine own_go (fun _ => XS.aload X67.here hx rfl (hb hby at_313) rfl rfl) ?_
        show GG _ _ _ _ _ _ _ T67 (mkF m 315 #[.val (.long q0), .second, .val (.int p1), .val (.int p2), .val (.int p3), .val (.int p4), .val (.int p5), .val (.long x1), .second, .val (.long x2), .second, .val (.long x3), .second, .val (.long x4), .second, .val (.long x5), .second, .val (.long x6), .second, .val (.ref ob7), .val (.ref bq59), .val (.ref ob60), .val (.int (2 : Int32)), .val (.long x4), .second] [(.ref ob60), (.ref bq59)])
        refine own_go (fun _ => XS.iconst X67.here hx rfl (hb hby at_315)) ?_
        show GG _ _ _ _ _ _ _ T67 (mkF m 316 #[.val (.long q0), .second, .val (.int p1), .val (.int p2), .val (.int p3), .val (.int p4), .val (.int p5), .val (.long x1), .second, .val (.long x2), .second, .val (.long x3), .second, .val (.long x4), .second, .val (.long x5), .second, .val (.long x6), .second, .val (.ref ob7), .val (.ref bq59), .val (.ref ob60), .val (.int (2 : Int32)), .val (.long x4), .second] [(.int (5 : Int32)), (.ref ob60), (.ref bq59)])
        refine own_go (fun _ => XS.iload X67.here hx rfl (hb hby at_316) rfl) ?_
        show GG _ _ _ _ _ _ _ T67 (mkF m 318 #[.val (.long q0), .second, .val (.int p1), .val (.int p2), .val (.int p3), .val (.int p4), .val (.int p5), .val (.long x1), .second, .val (.long x2), .second, .val (.long x3), .second, .val (.long x4), .second, .val (.long x5), .second, .val (.long x6), .second, .val (.ref ob7), .val (.ref bq59), .val (.ref ob60), .val (.int (2 : Int32)), .val (.long x4), .second] [(.int (2 : Int32)), (.int (5 : Int32)), (.ref ob60), (.ref bq59)])
        refine own_callS X67 hx hZ (y := (⟨"com/example/obliv/obliv/io/SegmentIndexToArrayPinLaw", "eqAt", "([J[JII)Z"⟩ : MethodName)) 0 hown (hw _ (List.mem_of_getElem? (i := 41) rfl)) (hw _ (List.mem_of_getElem? (i := 42) rfl)) (hw _ (List.mem_of_getElem? (i := 43) rfl)) (hw _ (List.mem_of_getElem? (i := 44) rfl)) (by decide) (argsL := [(.ref bq59), (.ref ob60), (.int (5 : Int32)), (.int (2 : Int32))]) (rest := []) (rm7 l Z a0 hw [] bq59 ob60 (5 : Int32) (2 : Int32) [(.long x1), (.long x4)] [(.long x1), (.long x4), (.long (0 : Int64)), (.long (0 : Int64)), (.long (0 : Int64)), (.long (0 : Int64))] h62 n0 (Nat.le_trans Z0 K0.1) Vq59 V_ob60 (Or.inl (by decide))) (by decide) (by decide) (by decide) (by decide) (g := (mkF m 318 #[.val (.long q0), .second, .val (.int p1), .val (.int p2), .val (.int p3), .val (.int p4), .val (.int p5), .val (.long x1), .second, .val (.long x2), .second, .val (.long x3), .second, .val (.long x4), .second, .val (.long x5), .second, .val (.long x6), .second, .val (.ref ob7), .val (.ref bq59), .val (.ref ob60), .val (.int (2 : Int32)), .val (.long x4), .second] [(.int (2 : Int32)), (.int (5 : Int32)), (.ref ob60), (.ref bq59)])) rfl (by rw [hml]; rfl) (lenOf pd___J_JII_Z_647 rfl) rfl (by show 2 * 0 + _ ≤ _; exact Nat.le_of_eq rfl) (hb hby at_318) hh67 ?_
        rintro v68 T68 L68 X68 ⟨rfl, N68q, hh68⟩
        have N68 := Fr.app N67 N68q
        show GG _ _ _ _ _ _ _ T68 (mkF m 321 #[.val (.long q0), .second, .val (.int p1), .val (.int p2), .val (.int p3), .val (.int p4), .val (.int p5), .val (.long x1), .second, .val (.long x2), .second, .val (.long x3), .second, .val (.long x4), .second, .val (.long x5), .second, .val (.long x6), .second, .val (.ref ob7), .val (.ref bq59), .val (.ref ob60), .val (.int (2 : Int32)), .val (.long x4), .second] [(.int (1 : Int32))])
        have hc321 : ¬ ((1 : Int32) = (0 : Int32)) := by decide
        refine own_go (fun _ => XS.ifNo X68.here hx rfl (hb hby at_321) rfl ((if0 _ _).trans (feq hc321).1)) ?_
        show GG _ _ _ _ _ _ _ T68 (mkF m 324 #[.val (.long q0), .second, .val (.int p1), .val (.int p2), .val (.int p3), .val (.int p4), .val (.int p5), .val (.long x1), .second, .val (.long x2), .second, .val (.long x3), .second, .val (.long x4), .second, .val (.long x5), .second, .val (.long x6), .second, .val (.ref ob7), .val (.ref bq59), .val (.ref ob60), .val (.int (2 : Int32)), .val (.long x4), .second] [])
        refine own_go (fun _ => XS.iconst X68.here hx rfl (hb hby at_324)) ?_
        show GG _ _ _ _ _ _ _ T68 (mkF m 325 #[.val (.long q0), .second, .val (.int p1), .val (.int p2), .val (.int p3), .val (.int p4), .val (.int p5), .val (.long x1), .second, .val (.long x2), .second, .val (.long x3), .second, .val (.long x4), .second, .val (.long x5), .second, .val (.long x6), .second, .val (.ref ob7), .val (.ref bq59), .val (.ref ob60), .val (.int (2 : Int32)), .val (.long x4), .second] [(.int (1 : Int32))])
        refine own_go (fun _ => XS.goto X68.here hx rfl (pc0 := 325) (pc' := 329) rfl (hb hby at_325) (by decide) (by decide)) ?_
        show GG _ _ _ _ _ _ _ T68 (mkF m 329 #[.val (.long q0), .second, .val (.int p1), .val (.int p2), .val (.int p3), .val (.int p4), .val (.int p5), .val (.long x1), .second, .val (.long x2), .second, .val (.long x3), .second, .val (.long x4), .second, .val (.long x5), .second, .val (.long x6), .second, .val (.ref ob7), .val (.ref bq59), .val (.ref ob60), .val (.int (2 : Int32)), .val (.long x4), .second] [(.int (1 : Int32))])
        refine own_ret X68 hx hlk (t := .boolean) (w := (.int (1 : Int32))) Bd.returns rfl (Or.inl ⟨rfl, by simp, _, rfl⟩) (hb hby at_329) (by decide) (by decide) ?_
        show Q0 Z q0 p1 p2 p3 p4 p5 h0 n0 (some (.int (1 : Int32))) T68.heap _
        rw [hh68]
        exact ⟨rfl, N68⟩
      · skip
        refine own_callV X57 hx hZ (y := (⟨"com/example/obliv/obliv/io/SegmentIndex", "add", "(JJ)V"⟩ : MethodName)) (z := (⟨"com/example/obliv/obliv/io/SegmentIndex", "add", "(JJ)V"⟩ : MethodName)) 0 hown (hw _ (List.mem_of_getElem? (i := 25) rfl)) (hw _ (List.mem_of_getElem? (i := 26) rfl)) (notFace_of_selects (args := #[]) (mvT hZ (hw _ (List.mem_of_getElem? (i := 28) rfl)))) (hw _ (List.mem_of_getElem? (i := 28) rfl)) (hw _ (List.mem_of_getElem? (i := 27) rfl)) (hw _ (List.mem_of_getElem? (i := 6) rfl)) (hw _ (List.mem_of_getElem? (i := 29) rfl)) (by decide) (a := ob7) (argsL := [(.long x3), (.long x6)]) (rest := []) (rm4_2h l Z a0 hw [] ob7 x3 x6 c1_8 c2_8 (0 : Int64) x1 (0 : Int64) (0 : Int64) (0 : Int64) (0 : Int64) (0 : Int64) (0 : Int64) (0 : Int64) (0 : Int64) (0 : Int64) (0 : Int64) (0 : Int64) (0 : Int64) (0 : Int64) (0 : Int64) (8 : Int64) x4 (0 : Int64) (0 : Int64) (0 : Int64) (0 : Int64) (0 : Int64) (0 : Int64) (0 : Int64) (0 : Int64) (0 : Int64) (0 : Int64) (0 : Int64) (0 : Int64) (0 : Int64) (0 : Int64) T56.heap n0 (Nat.le_trans Z0 K0.1) hp100 Eq8 Fs56 Fr56 Fp56 Vr56 Vp56 n12_8 ne1_8 ne2_8 g_ob7 g_c1_8 g_c2_8) (by decide) (by decide) (by decide) (by decide) Eq8 (g := (mkF m 100 #[.val (.long q0), .second, .val (.int p1), .val (.int p2), .val (.int p3), .val (.int p4), .val (.int p5), .val (.long x1), .second, .val (.long x2), .second, .val (.long x3), .second, .val (.long x4), .second, .val (.long x5), .second, .val (.long x6), .second, .val (.ref ob7), .unset, .unset, .unset, .unset, .unset] [(.long x6), (.long x3), (.ref ob7)])) rfl (by rw [hml]; rfl) (lenOf pd__JJ_V_315 rfl) rfl (by show 2 * 0 + _ ≤ _; exact Nat.le_of_eq rfl) (hb hby at_100) hh57 ?_
        rintro v69 T69 L69 X69 ⟨rfl, N69q, Kq69, Fs69, Fr69, Fp69, Vr69, Vp69⟩
        have N69 := Fr.app N57 N69q
        have K0 := K0.trans Kq69 (allS (Or.inr sz_ob7) (allS (Or.inr sz_c1_8) (allS (Or.inr sz_c2_8) all0)))
        have Eq8 := Eq8.keep Kq69
        show GG _ _ _ _ _ _ _ T69 (mkF m 103 #[.val (.long q0), .second, .val (.int p1), .val (.int p2), .val (.int p3), .val (.int p4), .val (.int p5), .val (.long x1), .second, .val (.long x2), .second, .val (.long x3), .second, .val (.long x4), .second, .val (.long x5), .second, .val (.long x6), .second, .val (.ref ob7), .unset, .unset, .unset, .unset, .unset] [])
        refine own_go (fun _ => XS.aload X69.here hx rfl (hb hby at_103) rfl rfl) ?_
        show GG _ _ _ _ _ _ _ T69 (mkF m 105 #[.val (.long q0), .second, .val (.int p1), .val (.int p2), .val (.int p3), .val (.int p4), .val (.int p5), .val (.long x1), .second, .val (.long x2), .second, .val (.long x3), .second, .val (.long x4), .second, .val (.long x5), .second, .val (.long x6), .second, .val (.ref ob7), .unset, .unset, .unset, .unset, .unset] [(.ref ob7)])
        refine own_callV X69 hx hZ (y := (⟨"com/example/obliv/obliv/io/SegmentIndex", "toArray", "()[J"⟩ : MethodName)) (z := (⟨"com/example/obliv/obliv/io/SegmentIndex", "toArray", "()[J"⟩ : MethodName)) 0 hown (hw _ (List.mem_of_getElem? (i := 35) rfl)) (hw _ (List.mem_of_getElem? (i := 36) rfl)) (notFace_of_selects (args := #[]) (mvT hZ (hw _ (List.mem_of_getElem? (i := 38) rfl)))) (hw _ (List.mem_of_getElem? (i := 38) rfl)) (hw _ (List.mem_of_getElem? (i := 37) rfl)) (hw _ (List.mem_of_getElem? (i := 6) rfl)) (hw _ (List.mem_of_getElem? (i := 39) rfl)) (by decide) (a := ob7) (argsL := []) (rest := []) (rm6_3 l Z a0 hw [] ob7 c1_8 c2_8 (0 : Int64) x1 x3 (0 : Int64) (0 : Int64) (0 : Int64) (0 : Int64) (0 : Int64) (0 : Int64) (0 : Int64) (0 : Int64) (0 : Int64) (0 : Int64) (0 : Int64) (0 : Int64) (0 : Int64) (8 : Int64) x4 x6 (0 : Int64) (0 : Int64) (0 : Int64) (0 : Int64) (0 : Int64) (0 : Int64) (0 : Int64) (0 : Int64) (0 : Int64) (0 : Int64) (0 : Int64) (0 : Int64) (0 : Int64) T69.heap n0 (Nat.le_trans Z0 K0.1) Fs69 Fr69 Fp69 Vr69 Vp69) (by decide) (by decide) (by decide) (by decide) Eq8 (g := (mkF m 105 #[.val (.long q0), .second, .val (.int p1), .val (.int p2), .val (.int p3), .val (.int p4), .val (.int p5), .val (.long x1), .second, .val (.long x2), .second, .val (.long x3), .second, .val (.long x4), .second, .val (.long x5), .second, .val (.long x6), .second, .val (.ref ob7), .unset, .unset, .unset, .unset, .unset] [(.ref ob7)])) rfl (by rw [hml]; rfl) (lenOf pd____J_246 rfl) rfl (by show 2 * 0 + _ ≤ _; exact Nat.le_of_eq rfl) (hb hby at_105) rfl ?_
        rintro v70 T70 L70 X70 ⟨bq70, rfl, N70q, szq70, Kq70, Vq70⟩
        have N70 := Fr.app N69 N70q
        have K0 := K0.trans Kq70 all0
        have Eq8 := Eq8.keep Kq70
        have Fs69 := Fs69.keep Kq70 nin0
        have Fr69 := Fr69.keep Kq70 nin0
        have Fp69 := Fp69.keep Kq70 nin0
        have Vr69 := Vr69.keep Kq70 nin0
        have Vp69 := Vp69.keep Kq70 nin0
        show GG _ _ _ _ _ _ _ T70 (mkF m 108 #[.val (.long q0), .second, .val (.int p1), .val (.int p2), .val (.int p3), .val (.int p4), .val (.int p5), .val (.long x1), .second, .val (.long x2), .second, .val (.long x3), .second, .val (.long x4), .second, .val (.long x5), .second, .val (.long x6), .second, .val (.ref ob7), .unset, .unset, .unset, .unset, .unset] [(.ref bq70)])
        refine own_go (fun _ => XS.astore X70.here hx rfl (hb hby at_108) rfl rfl (l' := #[.val (.long q0), .second, .val (.int p1), .val (.int p2), .val (.int p3), .val (.int p4), .val (.int p5), .val (.long x1), .second, .val (.long x2), .second, .val (.long x3), .second, .val (.long x4), .second, .val (.long x5), .second, .val (.long x6), .second, .val (.ref ob7), .val (.ref bq70), .unset, .unset, .unset, .unset]) rfl) ?_
        show GG _ _ _ _ _ _ _ T70 (mkF m 110 #[.val (.long q0), .second, .val (.int p1), .val (.int p2), .val (.int p3), .val (.int p4), .val (.int p5), .val (.long x1), .second, .val (.long x2), .second, .val (.long x3), .second, .val (.long x4), .second, .val (.long x5), .second, .val (.long x6), .second, .val (.ref ob7), .val (.ref bq70), .unset, .unset, .unset, .unset] [])
        refine own_go (fun _ => XS.bipush X70.here hx rfl (hb hby at_110)) ?_
        show GG _ _ _ _ _ _ _ T70 (mkF m 112 #[.val (.long q0), .second, .val (.int p1), .val (.int p2), .val (.int p3), .val (.int p4), .val (.int p5), .val (.long x1), .second, .val (.long x2), .second, .val (.long x3), .second, .val (.long x4), .second, .val (.long x5), .second, .val (.long x6), .second, .val (.ref ob7), .val (.ref bq70), .unset, .unset, .unset, .unset] [(.int (6 : Int32))])
        obtain ⟨T71, h71, ob71, g71, X71, e71, E71, V_ob71, E_ob71, st71⟩ := own_newarr X70 hx hZ (hw _ (List.mem_of_getElem? (i := 13) rfl)) rfl (g := (mkF m 112 #[.val (.long q0), .second, .val (.int p1), .val (.int p2), .val (.int p3), .val (.int p4), .val (.int p5), .val (.long x1), .second, .val (.long x2), .second, .val (.long x3), .second, .val (.long x4), .second, .val (.long x5), .second, .val (.long x6), .second, .val (.ref ob7), .val (.ref bq70), .unset, .unset, .unset, .unset] [(.int (6 : Int32))])) rfl (hb hby at_112) rfl (by decide) (cap := 6) (by decide) (by decide) (by decide) (by decide) (ad := "[J") (by decide)
        have ne_ob7_ob71 : ob7 ≠ ob71 := Nat.ne_of_lt (Nat.lt_of_lt_of_le Eq8.lt (Nat.le_of_eq g71.symm))
        have ne_c1_8_ob71 : c1_8 ≠ ob71 := Nat.ne_of_lt (Nat.lt_of_lt_of_le Vr69.lt (Nat.le_of_eq g71.symm))
        have ne_c2_8_ob71 : c2_8 ≠ ob71 := Nat.ne_of_lt (Nat.lt_of_lt_of_le Vp69.lt (Nat.le_of_eq g71.symm))
        have ne_bq70_ob71 : bq70 ≠ ob71 := Nat.ne_of_lt (Nat.lt_of_lt_of_le Vq70.lt (Nat.le_of_eq g71.symm))
        have sz_ob71 : h0.size ≤ ob71 := Nat.le_trans K0.1 (Nat.le_of_eq g71.symm)
        have g_ob71 : n0 ≤ ob71 := Nat.le_trans Z0 sz_ob71
        have K0 := K0.ext E71
        have Eq8 := Eq8.ext E71
        have Fs69 := Fs69.ext E71
        have Fr69 := Fr69.ext E71
        have Fp69 := Fp69.ext E71
        have Vr69 := Vr69.ext E71
        have Vp69 := Vp69.ext E71
        have Vq70 := Vq70.ext E71
        have V_ob71 : Arx Z h71 ob71 .long [(.long (0 : Int64)), (.long (0 : Int64)), (.long (0 : Int64)), (.long (0 : Int64)), (.long (0 : Int64)), (.long (0 : Int64))] := V_ob71
        refine own_go (fun _ => st71 _) ?_
        show GG _ _ _ _ _ _ _ T71 (mkF m 114 #[.val (.long q0), .second, .val (.int p1), .val (.int p2), .val (.int p3), .val (.int p4), .val (.int p5), .val (.long x1), .second, .val (.long x2), .second, .val (.long x3), .second, .val (.long x4), .second, .val (.long x5), .second, .val (.long x6), .second, .val (.ref ob7), .val (.ref bq70), .unset, .unset, .unset, .unset] [(.ref ob71)])
        refine own_go (fun _ => XS.astore X71.here hx rfl (hb hby at_114) rfl rfl (l' := #[.val (.long q0), .second, .val (.int p1), .val (.int p2), .val (.int p3), .val (.int p4), .val (.int p5), .val (.long x1), .second, .val (.long x2), .second, .val (.long x3), .second, .val (.long x4), .second, .val (.long x5), .second, .val (.long x6), .second, .val (.ref ob7), .val (.ref bq70), .val (.ref ob71), .unset, .unset, .unset]) rfl) ?_
        show GG _ _ _ _ _ _ _ T71 (mkF m 116 #[.val (.long q0), .second, .val (.int p1), .val (.int p2), .val (.int p3), .val (.int p4), .val (.int p5), .val (.long x1), .second, .val (.long x2), .second, .val (.long x3), .second, .val (.long x4), .second, .val (.long x5), .second, .val (.long x6), .second, .val (.ref ob7), .val (.ref bq70), .val (.ref ob71), .unset, .unset, .unset] [])
        refine own_go (fun _ => XS.iconst X71.here hx rfl (hb hby at_116)) ?_
        show GG _ _ _ _ _ _ _ T71 (mkF m 117 #[.val (.long q0), .second, .val (.int p1), .val (.int p2), .val (.int p3), .val (.int p4), .val (.int p5), .val (.long x1), .second, .val (.long x2), .second, .val (.long x3), .second, .val (.long x4), .second, .val (.long x5), .second, .val (.long x6), .second, .val (.ref ob7), .val (.ref bq70), .val (.ref ob71), .unset, .unset, .unset] [(.int (0 : Int32))])
        refine own_go (fun _ => XS.istore X71.here hx rfl (hb hby at_117) rfl (l' := #[.val (.long q0), .second, .val (.int p1), .val (.int p2), .val (.int p3), .val (.int p4), .val (.int p5), .val (.long x1), .second, .val (.long x2), .second, .val (.long x3), .second, .val (.long x4), .second, .val (.long x5), .second, .val (.long x6), .second, .val (.ref ob7), .val (.ref bq70), .val (.ref ob71), .val (.int (0 : Int32)), .unset, .unset]) rfl) ?_
        show GG _ _ _ _ _ _ _ T71 (mkF m 119 #[.val (.long q0), .second, .val (.int p1), .val (.int p2), .val (.int p3), .val (.int p4), .val (.int p5), .val (.long x1), .second, .val (.long x2), .second, .val (.long x3), .second, .val (.long x4), .second, .val (.long x5), .second, .val (.long x6), .second, .val (.ref ob7), .val (.ref bq70), .val (.ref ob71), .val (.int (0 : Int32)), .unset, .unset] [])
        refine own_go (fun _ => X71.ldc2Long hx hown (mvT hZ (hw _ (List.mem_of_getElem? (i := 2) rfl))) (g := (mkF m 119 #[.val (.long q0), .second, .val (.int p1), .val (.int p2), .val (.int p3), .val (.int p4), .val (.int p5), .val (.long x1), .second, .val (.long x2), .second, .val (.long x3), .second, .val (.long x4), .second, .val (.long x5), .second, .val (.long x6), .second, .val (.ref ob7), .val (.ref bq70), .val (.ref ob71), .val (.int (0 : Int32)), .unset, .unset] [])) rfl (hb hby at_119) _) ?_
        show GG _ _ _ _ _ _ _ T71 (mkF m 122 #[.val (.long q0), .second, .val (.int p1), .val (.int p2), .val (.int p3), .val (.int p4), .val (.int p5), .val (.long x1), .second, .val (.long x2), .second, .val (.long x3), .second, .val (.long x4), .second, .val (.long x5), .second, .val (.long x6), .second, .val (.ref ob7), .val (.ref bq70), .val (.ref ob71), .val (.int (0 : Int32)), .unset, .unset] [(.long (8 : Int64))])
        refine own_go (fun _ => XS.lstore X71.here hx rfl (hb hby at_122) rfl (l' := #[.val (.long q0), .second, .val (.int p1), .val (.int p2), .val (.int p3), .val (.int p4), .val (.int p5), .val (.long x1), .second, .val (.long x2), .second, .val (.long x3), .second, .val (.long x4), .second, .val (.long x5), .second, .val (.long x6), .second, .val (.ref ob7), .val (.ref bq70), .val (.ref ob71), .val (.int (0 : Int32)), .val (.long (8 : Int64)), .second]) rfl) ?_
        show GG _ _ _ _ _ _ _ T71 (mkF m 124 #[.val (.long q0), .second, .val (.int p1), .val (.int p2), .val (.int p3), .val (.int p4), .val (.int p5), .val (.long x1), .second, .val (.long x2), .second, .val (.long x3), .second, .val (.long x4), .second, .val (.long x5), .second, .val (.long x6), .second, .val (.ref ob7), .val (.ref bq70), .val (.ref ob71), .val (.int (0 : Int32)), .val (.long (8 : Int64)), .second] [])
        refine own_go (fun _ => XS.lload X71.here hx rfl (hb hby at_124) rfl) ?_
        show GG _ _ _ _ _ _ _ T71 (mkF m 126 #[.val (.long q0), .second, .val (.int p1), .val (.int p2), .val (.int p3), .val (.int p4), .val (.int p5), .val (.long x1), .second, .val (.long x2), .second, .val (.long x3), .second, .val (.long x4), .second, .val (.long x5), .second, .val (.long x6), .second, .val (.ref ob7), .val (.ref bq70), .val (.ref ob71), .val (.int (0 : Int32)), .val (.long (8 : Int64)), .second] [(.long x4)])
        refine own_go (fun _ => XS.lload X71.here hx rfl (hb hby at_126) rfl) ?_
        show GG _ _ _ _ _ _ _ T71 (mkF m 128 #[.val (.long q0), .second, .val (.int p1), .val (.int p2), .val (.int p3), .val (.int p4), .val (.int p5), .val (.long x1), .second, .val (.long x2), .second, .val (.long x3), .second, .val (.long x4), .second, .val (.long x5), .second, .val (.long x6), .second, .val (.ref ob7), .val (.ref bq70), .val (.ref ob71), .val (.int (0 : Int32)), .val (.long (8 : Int64)), .second] [(.long (8 : Int64)), (.long x4)])
        refine own_go (fun _ => XS.lsub X71.here hx rfl (hb hby at_128) rfl) ?_
        show GG _ _ _ _ _ _ _ T71 (mkF m 129 #[.val (.long q0), .second, .val (.int p1), .val (.int p2), .val (.int p3), .val (.int p4), .val (.int p5), .val (.long x1), .second, .val (.long x2), .second, .val (.long x3), .second, .val (.long x4), .second, .val (.long x5), .second, .val (.long x6), .second, .val (.ref ob7), .val (.ref bq70), .val (.ref ob71), .val (.int (0 : Int32)), .val (.long (8 : Int64)), .second] [(.long (x4 - (8 : Int64)))])
        refine own_go (fun _ => X71.ldc2Long hx hown (mvT hZ (hw _ (List.mem_of_getElem? (i := 40) rfl))) (g := (mkF m 129 #[.val (.long q0), .second, .val (.int p1), .val (.int p2), .val (.int p3), .val (.int p4), .val (.int p5), .val (.long x1), .second, .val (.long x2), .second, .val (.long x3), .second, .val (.long x4), .second, .val (.long x5), .second, .val (.long x6), .second, .val (.ref ob7), .val (.ref bq70), .val (.ref ob71), .val (.int (0 : Int32)), .val (.long (8 : Int64)), .second] [(.long (x4 - (8 : Int64)))])) rfl (hb hby at_129) _) ?_
        show GG _ _ _ _ _ _ _ T71 (mkF m 132 #[.val (.long q0), .second, .val (.int p1), .val (.int p2), .val (.int p3), .val (.int p4), .val (.int p5), .val (.long x1), .second, .val (.long x2), .second, .val (.long x3), .second, .val (.long x4), .second, .val (.long x5), .second, .val (.long x6), .second, .val (.ref ob7), .val (.ref bq70), .val (.ref ob71), .val (.int (0 : Int32)), .val (.long (8 : Int64)), .second] [(.long (65536 : Int64)), (.long (x4 - (8 : Int64)))])
        refine own_go (fun _ => XS.lcmp X71.here hx rfl (hb hby at_132) rfl) ?_
        show GG _ _ _ _ _ _ _ T71 (mkF m 133 #[.val (.long q0), .second, .val (.int p1), .val (.int p2), .val (.int p3), .val (.int p4), .val (.int p5), .val (.long x1), .second, .val (.long x2), .second, .val (.long x3), .second, .val (.long x4), .second, .val (.long x5), .second, .val (.long x6), .second, .val (.ref ob7), .val (.ref bq70), .val (.ref ob71), .val (.int (0 : Int32)), .val (.long (8 : Int64)), .second] [(.int (lcmpW (x4 - (8 : Int64)) (65536 : Int64)))])
        have hc133 : ¬ ((x4 - (8 : Int64)) < (65536 : Int64)) := hp82
        refine own_go (fun _ => XS.ifNo X71.here hx rfl (hb hby at_133) rfl ((if0 _ _).trans (flt (fun q => hc133 ((lw_lt _ _).mp q))).1)) ?_
        show GG _ _ _ _ _ _ _ T71 (mkF m 136 #[.val (.long q0), .second, .val (.int p1), .val (.int p2), .val (.int p3), .val (.int p4), .val (.int p5), .val (.long x1), .second, .val (.long x2), .second, .val (.long x3), .second, .val (.long x4), .second, .val (.long x5), .second, .val (.long x6), .second, .val (.ref ob7), .val (.ref bq70), .val (.ref ob71), .val (.int (0 : Int32)), .val (.long (8 : Int64)), .second] [])
        refine own_go (fun _ => XS.aload X71.here hx rfl (hb hby at_136) rfl rfl) ?_
        show GG _ _ _ _ _ _ _ T71 (mkF m 138 #[.val (.long q0), .second, .val (.int p1), .val (.int p2), .val (.int p3), .val (.int p4), .val (.int p5), .val (.long x1), .second, .val (.long x2), .second, .val (.long x3), .second, .val (.long x4), .second, .val (.long x5), .second, .val (.long x6), .second, .val (.ref ob7), .val (.ref bq70), .val (.ref ob71), .val (.int (0 : Int32)), .val (.long (8 : Int64)), .second] [(.ref ob71)])
        refine own_go (fun _ => XS.iload X71.here hx rfl (hb hby at_138) rfl) ?_
        show GG _ _ _ _ _ _ _ T71 (mkF m 140 #[.val (.long q0), .second, .val (.int p1), .val (.int p2), .val (.int p3), .val (.int p4), .val (.int p5), .val (.long x1), .second, .val (.long x2), .second, .val (.long x3), .second, .val (.long x4), .second, .val (.long x5), .second, .val (.long x6), .second, .val (.ref ob7), .val (.ref bq70), .val (.ref ob71), .val (.int (0 : Int32)), .val (.long (8 : Int64)), .second] [(.int (0 : Int32)), (.ref ob71)])
        refine own_go (fun _ => XS.lload X71.here hx rfl (hb hby at_140) rfl) ?_
        show GG _ _ _ _ _ _ _ T71 (mkF m 142 #[.val (.long q0), .second, .val (.int p1), .val (.int p2), .val (.int p3), .val (.int p4), .val (.int p5), .val (.long x1), .second, .val (.long x2), .second, .val (.long x3), .second, .val (.long x4), .second, .val (.long x5), .second, .val (.long x6), .second, .val (.ref ob7), .val (.ref bq70), .val (.ref ob71), .val (.int (0 : Int32)), .val (.long (8 : Int64)), .second] [(.long x1), (.int (0 : Int32)), (.ref ob71)])
        obtain ⟨T72, h72, X72, e72, W72, V72, st72⟩ := own_lastore X71 hx hZ e71 V_ob71 (by decide) (Nat.le_of_ble_eq_true rfl) (g := (mkF m 142 #[.val (.long q0), .second, .val (.int p1), .val (.int p2), .val (.int p3), .val (.int p4), .val (.int p5), .val (.long x1), .second, .val (.long x2), .second, .val (.long x3), .second, .val (.long x4), .second, .val (.long x5), .second, .val (.long x6), .second, .val (.ref ob7), .val (.ref bq70), .val (.ref ob71), .val (.int (0 : Int32)), .val (.long (8 : Int64)), .second] [(.long x1), (.int (0 : Int32)), (.ref ob71)])) rfl rfl (hb hby at_142)
        have K0 := K0.wr W72 (Or.inr sz_ob71)
        have Eq8 := Eq8.wr W72
        have Fs69 := Fs69.other W72 (Or.inl ne_ob7_ob71)
        have Fr69 := Fr69.other W72 (Or.inl ne_ob7_ob71)
        have Fp69 := Fp69.other W72 (Or.inl ne_ob7_ob71)
        have Vr69 := Vr69.other W72 ne_c1_8_ob71
        have Vp69 := Vp69.other W72 ne_c2_8_ob71
        have Vq70 := Vq70.other W72 ne_bq70_ob71
        have E_ob71 := E_ob71.wr W72
        have V_ob71 : Arx Z h72 ob71 .long [(.long x1), (.long (0 : Int64)), (.long (0 : Int64)), (.long (0 : Int64)), (.long (0 : Int64)), (.long (0 : Int64))] := V72
        have N72 := Fr.snoc X72 N70 g_ob71
        refine own_go (fun _ => st72 _) ?_
        show GG _ _ _ _ _ _ _ T72 (mkF m 143 #[.val (.long q0), .second, .val (.int p1), .val (.int p2), .val (.int p3), .val (.int p4), .val (.int p5), .val (.long x1), .second, .val (.long x2), .second, .val (.long x3), .second, .val (.long x4), .second, .val (.long x5), .second, .val (.long x6), .second, .val (.ref ob7), .val (.ref bq70), .val (.ref ob71), .val (.int (0 : Int32)), .val (.long (8 : Int64)), .second] [])
        refine own_go (fun _ => XS.aload X72.here hx rfl (hb hby at_143) rfl rfl) ?_
        show GG _ _ _ _ _ _ _ T72 (mkF m 145 #[.val (.long q0), .second, .val (.int p1), .val (.int p2), .val (.int p3), .val (.int p4), .val (.int p5), .val (.long x1), .second, .val (.long x2), .second, .val (.long x3), .second, .val (.long x4), .second, .val (.long x5), .second, .val (.long x6), .second, .val (.ref ob7), .val (.ref bq70), .val (.ref ob71), .val (.int (0 : Int32)), .val (.long (8 : Int64)), .second] [(.ref ob71)])
        refine own_go (fun _ => XS.iload X72.here hx rfl (hb hby at_145) rfl) ?_
        show GG _ _ _ _ _ _ _ T72 (mkF m 147 #[.val (.long q0), .second, .val (.int p1), .val (.int p2), .val (.int p3), .val (.int p4), .val (.int p5), .val (.long x1), .second, .val (.long x2), .second, .val (.long x3), .second, .val (.long x4), .second, .val (.long x5), .second, .val (.long x6), .second, .val (.ref ob7), .val (.ref bq70), .val (.ref ob71), .val (.int (0 : Int32)), .val (.long (8 : Int64)), .second] [(.int (0 : Int32)), (.ref ob71)])
        refine own_go (fun _ => XS.iconst X72.here hx rfl (hb hby at_147)) ?_
        show GG _ _ _ _ _ _ _ T72 (mkF m 148 #[.val (.long q0), .second, .val (.int p1), .val (.int p2), .val (.int p3), .val (.int p4), .val (.int p5), .val (.long x1), .second, .val (.long x2), .second, .val (.long x3), .second, .val (.long x4), .second, .val (.long x5), .second, .val (.long x6), .second, .val (.ref ob7), .val (.ref bq70), .val (.ref ob71), .val (.int (0 : Int32)), .val (.long (8 : Int64)), .second] [(.int (1 : Int32)), (.int (0 : Int32)), (.ref ob71)])
        refine own_go (fun _ => XS.iadd X72.here hx rfl (hb hby at_148) rfl) ?_
        show GG _ _ _ _ _ _ _ T72 (mkF m 149 #[.val (.long q0), .second, .val (.int p1), .val (.int p2), .val (.int p3), .val (.int p4), .val (.int p5), .val (.long x1), .second, .val (.long x2), .second, .val (.long x3), .second, .val (.long x4), .second, .val (.long x5), .second, .val (.long x6), .second, .val (.ref ob7), .val (.ref bq70), .val (.ref ob71), .val (.int (0 : Int32)), .val (.long (8 : Int64)), .second] [(.int (1 : Int32)), (.ref ob71)])
        refine own_go (fun _ => XS.lload X72.here hx rfl (hb hby at_149) rfl) ?_
        show GG _ _ _ _ _ _ _ T72 (mkF m 151 #[.val (.long q0), .second, .val (.int p1), .val (.int p2), .val (.int p3), .val (.int p4), .val (.int p5), .val (.long x1), .second, .val (.long x2), .second, .val (.long x3), .second, .val (.long x4), .second, .val (.long x5), .second, .val (.long x6), .second, .val (.ref ob7), .val (.ref bq70), .val (.ref ob71), .val (.int (0 : Int32)), .val (.long (8 : Int64)), .second] [(.long x4), (.int (1 : Int32)), (.ref ob71)])
        obtain ⟨T73, h73, X73, e73, W73, V73, st73⟩ := own_lastore X72 hx hZ e72 V_ob71 (by decide) (Nat.le_of_ble_eq_true rfl) (g := (mkF m 151 #[.val (.long q0), .second, .val (.int p1), .val (.int p2), .val (.int p3), .val (.int p4), .val (.int p5), .val (.long x1), .second, .val (.long x2), .second, .val (.long x3), .second, .val (.long x4), .second, .val (.long x5), .second, .val (.long x6), .second, .val (.ref ob7), .val (.ref bq70), .val (.ref ob71), .val (.int (0 : Int32)), .val (.long (8 : Int64)), .second] [(.long x4), (.int (1 : Int32)), (.ref ob71)])) rfl rfl (hb hby at_151)
        have K0 := K0.wr W73 (Or.inr sz_ob71)
        have Eq8 := Eq8.wr W73
        have Fs69 := Fs69.other W73 (Or.inl ne_ob7_ob71)
        have Fr69 := Fr69.other W73 (Or.inl ne_ob7_ob71)
        have Fp69 := Fp69.other W73 (Or.inl ne_ob7_ob71)
        have Vr69 := Vr69.other W73 ne_c1_8_ob71
        have Vp69 := Vp69.other W73 ne_c2_8_ob71
        have Vq70 := Vq70.other W73 ne_bq70_ob71
        have E_ob71 := E_ob71.wr W73
        have V_ob71 : Arx Z h73 ob71 .long [(.long x1), (.long x4), (.long (0 : Int64)), (.long (0 : Int64)), (.long (0 : Int64)), (.long (0 : Int64))] := V73
        have N73 := Fr.snoc X73 N72 g_ob71
        refine own_go (fun _ => st73 _) ?_
        show GG _ _ _ _ _ _ _ T73 (mkF m 152 #[.val (.long q0), .second, .val (.int p1), .val (.int p2), .val (.int p3), .val (.int p4), .val (.int p5), .val (.long x1), .second, .val (.long x2), .second, .val (.long x3), .second, .val (.long x4), .second, .val (.long x5), .second, .val (.long x6), .second, .val (.ref ob7), .val (.ref bq70), .val (.ref ob71), .val (.int (0 : Int32)), .val (.long (8 : Int64)), .second] [])
        refine own_go (fun _ => XS.iload X73.here hx rfl (hb hby at_152) rfl) ?_
        show GG _ _ _ _ _ _ _ T73 (mkF m 154 #[.val (.long q0), .second, .val (.int p1), .val (.int p2), .val (.int p3), .val (.int p4), .val (.int p5), .val (.long x1), .second, .val (.long x2), .second, .val (.long x3), .second, .val (.long x4), .second, .val (.long x5), .second, .val (.long x6), .second, .val (.ref ob7), .val (.ref bq70), .val (.ref ob71), .val (.int (0 : Int32)), .val (.long (8 : Int64)), .second] [(.int (0 : Int32))])
        refine own_go (fun _ => XS.iconst X73.here hx rfl (hb hby at_154)) ?_
        show GG _ _ _ _ _ _ _ T73 (mkF m 155 #[.val (.long q0), .second, .val (.int p1), .val (.int p2), .val (.int p3), .val (.int p4), .val (.int p5), .val (.long x1), .second, .val (.long x2), .second, .val (.long x3), .second, .val (.long x4), .second, .val (.long x5), .second, .val (.long x6), .second, .val (.ref ob7), .val (.ref bq70), .val (.ref ob71), .val (.int (0 : Int32)), .val (.long (8 : Int64)), .second] [(.int (2 : Int32)), (.int (0 : Int32))])
        refine own_go (fun _ => XS.iadd X73.here hx rfl (hb hby at_155) rfl) ?_
        show GG _ _ _ _ _ _ _ T73 (mkF m 156 #[.val (.long q0), .second, .val (.int p1), .val (.int p2), .val (.int p3), .val (.int p4), .val (.int p5), .val (.long x1), .second, .val (.long x2), .second, .val (.long x3), .second, .val (.long x4), .second, .val (.long x5), .second, .val (.long x6), .second, .val (.ref ob7), .val (.ref bq70), .val (.ref ob71), .val (.int (0 : Int32)), .val (.long (8 : Int64)), .second] [(.int (2 : Int32))])
        refine own_go (fun _ => XS.istore X73.here hx rfl (hb hby at_156) rfl (l' := #[.val (.long q0), .second, .val (.int p1), .val (.int p2), .val (.int p3), .val (.int p4), .val (.int p5), .val (.long x1), .second, .val (.long x2), .second, .val (.long x3), .second, .val (.long x4), .second, .val (.long x5), .second, .val (.long x6), .second, .val (.ref ob7), .val (.ref bq70), .val (.ref ob71), .val (.int (2 : Int32)), .val (.long (8 : Int64)), .second]) rfl) ?_
        show GG _ _ _ _ _ _ _ T73 (mkF m 158 #[.val (.long q0), .second, .val (.int p1), .val (.int p2), .val (.int p3), .val (.int p4), .val (.int p5), .val (.long x1), .second, .val (.long x2), .second, .val (.long x3), .second, .val (.long x4), .second, .val (.long x5), .second, .val (.long x6), .second, .val (.ref ob7), .val (.ref bq70), .val (.ref ob71), .val (.int (2 : Int32)), .val (.long (8 : Int64)), .second] [])
        refine own_go (fun _ => XS.lload X73.here hx rfl (hb hby at_158) rfl) ?_
        show GG _ _ _ _ _ _ _ T73 (mkF m 160 #[.val (.long q0), .second, .val (.int p1), .val (.int p2), .val (.int p3), .val (.int p4), .val (.int p5), .val (.long x1), .second, .val (.long x2), .second, .val (.long x3), .second, .val (.long x4), .second, .val (.long x5), .second, .val (.long x6), .second, .val (.ref ob7), .val (.ref bq70), .val (.ref ob71), .val (.int (2 : Int32)), .val (.long (8 : Int64)), .second] [(.long x4)])
        refine own_go (fun _ => XS.lstore X73.here hx rfl (hb hby at_160) rfl (l' := #[.val (.long q0), .second, .val (.int p1), .val (.int p2), .val (.int p3), .val (.int p4), .val (.int p5), .val (.long x1), .second, .val (.long x2), .second, .val (.long x3), .second, .val (.long x4), .second, .val (.long x5), .second, .val (.long x6), .second, .val (.ref ob7), .val (.ref bq70), .val (.ref ob71), .val (.int (2 : Int32)), .val (.long x4), .second]) rfl) ?_
        show GG _ _ _ _ _ _ _ T73 (mkF m 162 #[.val (.long q0), .second, .val (.int p1), .val (.int p2), .val (.int p3), .val (.int p4), .val (.int p5), .val (.long x1), .second, .val (.long x2), .second, .val (.long x3), .second, .val (.long x4), .second, .val (.long x5), .second, .val (.long x6), .second, .val (.ref ob7), .val (.ref bq70), .val (.ref ob71), .val (.int (2 : Int32)), .val (.long x4), .second] [])
        refine own_go (fun _ => XS.lload X73.here hx rfl (hb hby at_162) rfl) ?_
        show GG _ _ _ _ _ _ _ T73 (mkF m 164 #[.val (.long q0), .second, .val (.int p1), .val (.int p2), .val (.int p3), .val (.int p4), .val (.int p5), .val (.long x1), .second, .val (.long x2), .second, .val (.long x3), .second, .val (.long x4), .second, .val (.long x5), .second, .val (.long x6), .second, .val (.ref ob7), .val (.ref bq70), .val (.ref ob71), .val (.int (2 : Int32)), .val (.long x4), .second] [(.long x5)])
        refine own_go (fun _ => XS.lload X73.here hx rfl (hb hby at_164) rfl) ?_
        show GG _ _ _ _ _ _ _ T73 (mkF m 166 #[.val (.long q0), .second, .val (.int p1), .val (.int p2), .val (.int p3), .val (.int p4), .val (.int p5), .val (.long x1), .second, .val (.long x2), .second, .val (.long x3), .second, .val (.long x4), .second, .val (.long x5), .second, .val (.long x6), .second, .val (.ref ob7), .val (.ref bq70), .val (.ref ob71), .val (.int (2 : Int32)), .val (.long x4), .second] [(.long x4), (.long x5)])
        refine own_go (fun _ => XS.lsub X73.here hx rfl (hb hby at_166) rfl) ?_
        show GG _ _ _ _ _ _ _ T73 (mkF m 167 #[.val (.long q0), .second, .val (.int p1), .val (.int p2), .val (.int p3), .val (.int p4), .val (.int p5), .val (.long x1), .second, .val (.long x2), .second, .val (.long x3), .second, .val (.long x4), .second, .val (.long x5), .second, .val (.long x6), .second, .val (.ref ob7), .val (.ref bq70), .val (.ref ob71), .val (.int (2 : Int32)), .val (.long x4), .second] [(.long (x5 - x4))])
        refine own_go (fun _ => X73.ldc2Long hx hown (mvT hZ (hw _ (List.mem_of_getElem? (i := 40) rfl))) (g := (mkF m 167 #[.val (.long q0), .second, .val (.int p1), .val (.int p2), .val (.int p3), .val (.int p4), .val (.int p5), .val (.long x1), .second, .val (.long x2), .second, .val (.long x3), .second, .val (.long x4), .second, .val (.long x5), .second, .val (.long x6), .second, .val (.ref ob7), .val (.ref bq70), .val (.ref ob71), .val (.int (2 : Int32)), .val (.long x4), .second] [(.long (x5 - x4))])) rfl (hb hby at_167) _) ?_
        show GG _ _ _ _ _ _ _ T73 (mkF m 170 #[.val (.long q0), .second, .val (.int p1), .val (.int p2), .val (.int p3), .val (.int p4), .val (.int p5), .val (.long x1), .second, .val (.long x2), .second, .val (.long x3), .second, .val (.long x4), .second, .val (.long x5), .second, .val (.long x6), .second, .val (.ref ob7), .val (.ref bq70), .val (.ref ob71), .val (.int (2 : Int32)), .val (.long x4), .second] [(.long (65536 : Int64)), (.long (x5 - x4))])
        refine own_go (fun _ => XS.lcmp X73.here hx rfl (hb hby at_170) rfl) ?_
        show GG _ _ _ _ _ _ _ T73 (mkF m 171 #[.val (.long q0), .second, .val (.int p1), .val (.int p2), .val (.int p3), .val (.int p4), .val (.int p5), .val (.long x1), .second, .val (.long x2), .second, .val (.long x3), .second, .val (.long x4), .second, .val (.long x5), .second, .val (.long x6), .second, .val (.ref ob7), .val (.ref bq70), .val (.ref ob71), .val (.int (2 : Int32)), .val (.long x4), .second] [(.int (lcmpW (x5 - x4) (65536 : Int64)))])
        have hc171 : (x5 - x4) < (65536 : Int64) := hp91
        refine own_go (fun _ => XS.ifYes X73.here hx rfl (pc0 := 171) (pc' := 200) rfl (hb hby at_171) rfl ((if0 _ _).trans (tlt ((lw_lt _ _).mpr hc171)).1) (by decide) (by decide)) ?_
        show GG _ _ _ _ _ _ _ T73 (mkF m 200 #[.val (.long q0), .second, .val (.int p1), .val (.int p2), .val (.int p3), .val (.int p4), .val (.int p5), .val (.long x1), .second, .val (.long x2), .second, .val (.long x3), .second, .val (.long x4), .second, .val (.long x5), .second, .val (.long x6), .second, .val (.ref ob7), .val (.ref bq70), .val (.ref ob71), .val (.int (2 : Int32)), .val (.long x4), .second] [])
        refine own_go (fun _ => XS.lload X73.here hx rfl (hb hby at_200) rfl) ?_
        show GG _ _ _ _ _ _ _ T73 (mkF m 202 #[.val (.long q0), .second, .val (.int p1), .val (.int p2), .val (.int p3), .val (.int p4), .val (.int p5), .val (.long x1), .second, .val (.long x2), .second, .val (.long x3), .second, .val (.long x4), .second, .val (.long x5), .second, .val (.long x6), .second, .val (.ref ob7), .val (.ref bq70), .val (.ref ob71), .val (.int (2 : Int32)), .val (.long x4), .second] [(.long x6)])
        refine own_go (fun _ => XS.lload X73.here hx rfl (hb hby at_202) rfl) ?_
        show GG _ _ _ _ _ _ _ T73 (mkF m 204 #[.val (.long q0), .second, .val (.int p1), .val (.int p2), .val (.int p3), .val (.int p4), .val (.int p5), .val (.long x1), .second, .val (.long x2), .second, .val (.long x3), .second, .val (.long x4), .second, .val (.long x5), .second, .val (.long x6), .second, .val (.ref ob7), .val (.ref bq70), .val (.ref ob71), .val (.int (2 : Int32)), .val (.long x4), .second] [(.long x4), (.long x6)])
        refine own_go (fun _ => XS.lsub X73.here hx rfl (hb hby at_204) rfl) ?_
        show GG _ _ _ _ _ _ _ T73 (mkF m 205 #[.val (.long q0), .second, .val (.int p1), .val (.int p2), .val (.int p3), .val (.int p4), .val (.int p5), .val (.long x1), .second, .val (.long x2), .second, .val (.long x3), .second, .val (.long x4), .second, .val (.long x5), .second, .val (.long x6), .second, .val (.ref ob7), .val (.ref bq70), .val (.ref ob71), .val (.int (2 : Int32)), .val (.long x4), .second] [(.long (x6 - x4))])
        refine own_go (fun _ => X73.ldc2Long hx hown (mvT hZ (hw _ (List.mem_of_getElem? (i := 40) rfl))) (g := (mkF m 205 #[.val (.long q0), .second, .val (.int p1), .val (.int p2), .val (.int p3), .val (.int p4), .val (.int p5), .val (.long x1), .second, .val (.long x2), .second, .val (.long x3), .second, .val (.long x4), .second, .val (.long x5), .second, .val (.long x6), .second, .val (.ref ob7), .val (.ref bq70), .val (.ref ob71), .val (.int (2 : Int32)), .val (.long x4), .second] [(.long (x6 - x4))])) rfl (hb hby at_205) _) ?_
        show GG _ _ _ _ _ _ _ T73 (mkF m 208 #[.val (.long q0), .second, .val (.int p1), .val (.int p2), .val (.int p3), .val (.int p4), .val (.int p5), .val (.long x1), .second, .val (.long x2), .second, .val (.long x3), .second, .val (.long x4), .second, .val (.long x5), .second, .val (.long x6), .second, .val (.ref ob7), .val (.ref bq70), .val (.ref ob71), .val (.int (2 : Int32)), .val (.long x4), .second] [(.long (65536 : Int64)), (.long (x6 - x4))])
        refine own_go (fun _ => XS.lcmp X73.here hx rfl (hb hby at_208) rfl) ?_
        show GG _ _ _ _ _ _ _ T73 (mkF m 209 #[.val (.long q0), .second, .val (.int p1), .val (.int p2), .val (.int p3), .val (.int p4), .val (.int p5), .val (.long x1), .second, .val (.long x2), .second, .val (.long x3), .second, .val (.long x4), .second, .val (.long x5), .second, .val (.long x6), .second, .val (.ref ob7), .val (.ref bq70), .val (.ref ob71), .val (.int (2 : Int32)), .val (.long x4), .second] [(.int (lcmpW (x6 - x4) (65536 : Int64)))])
        have hc209 : ¬ ((x6 - x4) < (65536 : Int64)) := hp100
        refine own_go (fun _ => XS.ifNo X73.here hx rfl (hb hby at_209) rfl ((if0 _ _).trans (flt (fun q => hc209 ((lw_lt _ _).mp q))).1)) ?_
        show GG _ _ _ _ _ _ _ T73 (mkF m 212 #[.val (.long q0), .second, .val (.int p1), .val (.int p2), .val (.int p3), .val (.int p4), .val (.int p5), .val (.long x1), .second, .val (.long x2), .second, .val (.long x3), .second, .val (.long x4), .second, .val (.long x5), .second, .val (.long x6), .second, .val (.ref ob7), .val (.ref bq70), .val (.ref ob71), .val (.int (2 : Int32)), .val (.long x4), .second] [])
        refine own_go (fun _ => XS.aload X73.here hx rfl (hb hby at_212) rfl rfl) ?_
        show GG _ _ _ _ _ _ _ T73 (mkF m 214 #[.val (.long q0), .second, .val (.int p1), .val (.int p2), .val (.int p3), .val (.int p4), .val (.int p5), .val (.long x1), .second, .val (.long x2), .second, .val (.long x3), .second, .val (.long x4), .second, .val (.long x5), .second, .val (.long x6), .second, .val (.ref ob7), .val (.ref bq70), .val (.ref ob71), .val (.int (2 : Int32)), .val (.long x4), .second] [(.ref ob71)])
        refine own_go (fun _ => XS.iload X73.here hx rfl (hb hby at_214) rfl) ?_
        show GG _ _ _ _ _ _ _ T73 (mkF m 216 #[.val (.long q0), .second, .val (.int p1), .val (.int p2), .val (.int p3), .val (.int p4), .val (.int p5), .val (.long x1), .second, .val (.long x2), .second, .val (.long x3), .second, .val (.long x4), .second, .val (.long x5), .second, .val (.long x6), .second, .val (.ref ob7), .val (.ref bq70), .val (.ref ob71), .val (.int (2 : Int32)), .val (.long x4), .second] [(.int (2 : Int32)), (.ref ob71)])
        refine own_go (fun _ => XS.lload X73.here hx rfl (hb hby at_216) rfl) ?_
        show GG _ _ _ _ _ _ _ T73 (mkF m 218 #[.val (.long q0), .second, .val (.int p1), .val (.int p2), .val (.int p3), .val (.int p4), .val (.int p5), .val (.long x1), .second, .val (.long x2), .second, .val (.long x3), .second, .val (.long x4), .second, .val (.long x5), .second, .val (.long x6), .second, .val (.ref ob7), .val (.ref bq70), .val (.ref ob71), .val (.int (2 : Int32)), .val (.long x4), .second] [(.long x3), (.int (2 : Int32)), (.ref ob71)])
        obtain ⟨T74, h74, X74, e74, W74, V74, st74⟩ := own_lastore X73 hx hZ e73 V_ob71 (by decide) (Nat.le_of_ble_eq_true rfl) (g := (mkF m 218 #[.val (.long q0), .second, .val (.int p1), .val (.int p2), .val (.int p3), .val (.int p4), .val (.int p5), .val (.long x1), .second, .val (.long x2), .second, .val (.long x3), .second, .val (.long x4), .second, .val (.long x5), .second, .val (.long x6), .second, .val (.ref ob7), .val (.ref bq70), .val (.ref ob71), .val (.int (2 : Int32)), .val (.long x4), .second] [(.long x3), (.int (2 : Int32)), (.ref ob71)])) rfl rfl (hb hby at_218)
        have K0 := K0.wr W74 (Or.inr sz_ob71)
        have Eq8 := Eq8.wr W74
        have Fs69 := Fs69.other W74 (Or.inl ne_ob7_ob71)
        have Fr69 := Fr69.other W74 (Or.inl ne_ob7_ob71)
        have Fp69 := Fp69.other W74 (Or.inl ne_ob7_ob71)
        have Vr69 := Vr69.other W74 ne_c1_8_ob71
        have Vp69 := Vp69.other W74 ne_c2_8_ob71
        have Vq70 := Vq70.other W74 ne_bq70_ob71
        have E_ob71 := E_ob71.wr W74
        have V_ob71 : Arx Z h74 ob71 .long [(.long x1), (.long x4), (.long x3), (.long (0 : Int64)), (.long (0 : Int64)), (.long (0 : Int64))] := V74
        have N74 := Fr.snoc X74 N73 g_ob71
        refine own_go (fun _ => st74 _) ?_
        show GG _ _ _ _ _ _ _ T74 (mkF m 219 #[.val (.long q0), .second, .val (.int p1), .val (.int p2), .val (.int p3), .val (.int p4), .val (.int p5), .val (.long x1), .second, .val (.long x2), .second, .val (.long x3), .second, .val (.long x4), .second, .val (.long x5), .second, .val (.long x6), .second, .val (.ref ob7), .val (.ref bq70), .val (.ref ob71), .val (.int (2 : Int32)), .val (.long x4), .second] [])
        refine own_go (fun _ => XS.aload X74.here hx rfl (hb hby at_219) rfl rfl) ?_
        show GG _ _ _ _ _ _ _ T74 (mkF m 221 #[.val (.long q0), .second, .val (.int p1), .val (.int p2), .val (.int p3), .val (.int p4), .val (.int p5), .val (.long x1), .second, .val (.long x2), .second, .val (.long x3), .second, .val (.long x4), .second, .val (.long x5), .second, .val (.long x6), .second, .val (.ref ob7), .val (.ref bq70), .val (.ref ob71), .val (.int (2 : Int32)), .val (.long x4), .second] [(.ref ob71)])
        refine own_go (fun _ => XS.iload X74.here hx rfl (hb hby at_221) rfl) ?_
        show GG _ _ _ _ _ _ _ T74 (mkF m 223 #[.val (.long q0), .second, .val (.int p1), .val (.int p2), .val (.int p3), .val (.int p4), .val (.int p5), .val (.long x1), .second, .val (.long x2), .second, .val (.long x3), .second, .val (.long x4), .second, .val (.long x5), .second, .val (.long x6), .second, .val (.ref ob7), .val (.ref bq70), .val (.ref ob71), .val (.int (2 : Int32)), .val (.long x4), .second] [(.int (2 : Int32)), (.ref ob71)])
        refine own_go (fun _ => XS.iconst X74.here hx rfl (hb hby at_223)) ?_
        show GG _ _ _ _ _ _ _ T74 (mkF m 224 #[.val (.long q0), .second, .val (.int p1), .val (.int p2), .val (.int p3), .val (.int p4), .val (.int p5), .val (.long x1), .second, .val (.long x2), .second, .val (.long x3), .second, .val (.long x4), .second, .val (.long x5), .second, .val (.long x6), .second, .val (.ref ob7), .val (.ref bq70), .val (.ref ob71), .val (.int (2 : Int32)), .val (.long x4), .second] [(.int (1 : Int32)), (.int (2 : Int32)), (.ref ob71)])
        refine own_go (fun _ => XS.iadd X74.here hx rfl (hb hby at_224) rfl) ?_
        show GG _ _ _ _ _ _ _ T74 (mkF m 225 #[.val (.long q0), .second, .val (.int p1), .val (.int p2), .val (.int p3), .val (.int p4), .val (.int p5), .val (.long x1), .second, .val (.long x2), .second, .val (.long x3), .second, .val (.long x4), .second, .val (.long x5), .second, .val (.long x6), .second, .val (.ref ob7), .val (.ref bq70), .val (.ref ob71), .val (.int (2 : Int32)), .val (.long x4), .second] [(.int (3 : Int32)), (.ref ob71)])
        refine own_go (fun _ => XS.lload X74.here hx rfl (hb hby at_225) rfl) ?_
        show GG _ _ _ _ _ _ _ T74 (mkF m 227 #[.val (.long q0), .second, .val (.int p1), .val (.int p2), .val (.int p3), .val (.int p4), .val (.int p5), .val (.long x1), .second, .val (.long x2), .second, .val (.long x3), .second, .val (.long x4), .second, .val (.long x5), .second, .val (.long x6), .second, .val (.ref ob7), .val (.ref bq70), .val (.ref ob71), .val (.int (2 : Int32)), .val (.long x4), .second] [(.long x6), (.int (3 : Int32)), (.ref ob71)])
        obtain ⟨T75, h75, X75, e75, W75, V75, st75⟩ := own_lastore X74 hx hZ e74 V_ob71 (by decide) (Nat.le_of_ble_eq_true rfl) (g := (mkF m 227 #[.val (.long q0), .second, .val (.int p1), .val (.int p2), .val (.int p3), .val (.int p4), .val (.int p5), .val (.long x1), .second, .val (.long x2), .second, .val (.long x3), .second, .val (.long x4), .second, .val (.long x5), .second, .val (.long x6), .second, .val (.ref ob7), .val (.ref bq70), .val (.ref ob71), .val (.int (2 : Int32)), .val (.long x4), .second] [(.long x6), (.int (3 : Int32)), (.ref ob71)])) rfl rfl (hb hby at_227)
        have K0 := K0.wr W75 (Or.inr sz_ob71)
        have Eq8 := Eq8.wr W75
        have Fs69 := Fs69.other W75 (Or.inl ne_ob7_ob71)
        have Fr69 := Fr69.other W75 (Or.inl ne_ob7_ob71)
        have Fp69 := Fp69.other W75 (Or.inl ne_ob7_ob71)
        have Vr69 := Vr69.other W75 ne_c1_8_ob71
        have Vp69 := Vp69.other W75 ne_c2_8_ob71
        have Vq70 := Vq70.other W75 ne_bq70_ob71
        have E_ob71 := E_ob71.wr W75
        have V_ob71 : Arx Z h75 ob71 .long [(.long x1), (.long x4), (.long x3), (.long x6), (.long (0 : Int64)), (.long (0 : Int64))] := V75
        have N75 := Fr.snoc X75 N74 g_ob71
        refine own_go (fun _ => st75 _) ?_
        show GG _ _ _ _ _ _ _ T75 (mkF m 228 #[.val (.long q0), .second, .val (.int p1), .val (.int p2), .val (.int p3), .val (.int p4), .val (.int p5), .val (.long x1), .second, .val (.long x2), .second, .val (.long x3), .second, .val (.long x4), .second, .val (.long x5), .second, .val (.long x6), .second, .val (.ref ob7), .val (.ref bq70), .val (.ref ob71), .val (.int (2 : Int32)), .val (.long x4), .second] [])
        refine own_go (fun _ => XS.iload X75.here hx rfl (hb hby at_228) rfl) ?_
        show GG _ _ _ _ _ _ _ T75 (mkF m 230 #[.val (.long q0), .second, .val (.int p1), .val (.int p2), .val (.int p3), .val (.int p4), .val (.int p5), .val (.long x1), .second, .val (.long x2), .second, .val (.long x3), .second, .val (.long x4), .second, .val (.long x5), .second, .val (.long x6), .second, .val (.ref ob7), .val (.ref bq70), .val (.ref ob71), .val (.int (2 : Int32)), .val (.long x4), .second] [(.int (2 : Int32))])
        refine own_go (fun _ => XS.iconst X75.here hx rfl (hb hby at_230)) ?_
        show GG _ _ _ _ _ _ _ T75 (mkF m 231 #[.val (.long q0), .second, .val (.int p1), .val (.int p2), .val (.int p3), .val (.int p4), .val (.int p5), .val (.long x1), .second, .val (.long x2), .second, .val (.long x3), .second, .val (.long x4), .second, .val (.long x5), .second, .val (.long x6), .second, .val (.ref ob7), .val (.ref bq70), .val (.ref ob71), .val (.int (2 : Int32)), .val (.long x4), .second] [(.int (2 : Int32)), (.int (2 : Int32))])
        refine own_go (fun _ => XS.iadd X75.here hx rfl (hb hby at_231) rfl) ?_
        show GG _ _ _ _ _ _ _ T75 (mkF m 232 #[.val (.long q0), .second, .val (.int p1), .val (.int p2), .val (.int p3), .val (.int p4), .val (.int p5), .val (.long x1), .second, .val (.long x2), .second, .val (.long x3), .second, .val (.long x4), .second, .val (.long x5), .second, .val (.long x6), .second, .val (.ref ob7), .val (.ref bq70), .val (.ref ob71), .val (.int (2 : Int32)), .val (.long x4), .second] [(.int (4 : Int32))])
        refine own_go (fun _ => XS.istore X75.here hx rfl (hb hby at_232) rfl (l' := #[.val (.long q0), .second, .val (.int p1), .val (.int p2), .val (.int p3), .val (.int p4), .val (.int p5), .val (.long x1), .second, .val (.long x2), .second, .val (.long x3), .second, .val (.long x4), .second, .val (.long x5), .second, .val (.long x6), .second, .val (.ref ob7), .val (.ref bq70), .val (.ref ob71), .val (.int (4 : Int32)), .val (.long x4), .second]) rfl) ?_
        show GG _ _ _ _ _ _ _ T75 (mkF m 234 #[.val (.long q0), .second, .val (.int p1), .val (.int p2), .val (.int p3), .val (.int p4), .val (.int p5), .val (.long x1), .second, .val (.long x2), .second, .val (.long x3), .second, .val (.long x4), .second, .val (.long x5), .second, .val (.long x6), .second, .val (.ref ob7), .val (.ref bq70), .val (.ref ob71), .val (.int (4 : Int32)), .val (.long x4), .second] [])
        refine own_go (fun _ => XS.lload X75.here hx rfl (hb hby at_234) rfl) ?_
        show GG _ _ _ _ _ _ _ T75 (mkF m 236 #[.val (.long q0), .second, .val (.int p1), .val (.int p2), .val (.int p3), .val (.int p4), .val (.int p5), .val (.long x1), .second, .val (.long x2), .second, .val (.long x3), .second, .val (.long x4), .second, .val (.long x5), .second, .val (.long x6), .second, .val (.ref ob7), .val (.ref bq70), .val (.ref ob71), .val (.int (4 : Int32)), .val (.long x4), .second] [(.long x6)])
        refine own_go (fun _ => XS.lstore X75.here hx rfl (hb hby at_236) rfl (l' := #[.val (.long q0), .second, .val (.int p1), .val (.int p2), .val (.int p3), .val (.int p4), .val (.int p5), .val (.long x1), .second, .val (.long x2), .second, .val (.long x3), .second, .val (.long x4), .second, .val (.long x5), .second, .val (.long x6), .second, .val (.ref ob7), .val (.ref bq70), .val (.ref ob71), .val (.int (4 : Int32)), .val (.long x6), .second]) rfl) ?_
        show GG _ _ _ _ _ _ _ T75 (mkF m 238 #[.val (.long q0), .second, .val (.int p1), .val (.int p2), .val (.int p3), .val (.int p4), .val (.int p5), .val (.long x1), .second, .val (.long x2), .second, .val (.long x3), .second, .val (.long x4), .second, .val (.long x5), .second, .val (.long x6), .second, .val (.ref ob7), .val (.ref bq70), .val (.ref ob71), .val (.int (4 : Int32)), .val (.long x6), .second] [])
        refine own_go (fun _ => XS.aload X75.here hx rfl (hb hby at_238) rfl rfl) ?_
        show GG _ _ _ _ _ _ _ T75 (mkF m 240 #[.val (.long q0), .second, .val (.int p1), .val (.int p2), .val (.int p3), .val (.int p4), .val (.int p5), .val (.long x1), .second, .val (.long x2), .second, .val (.long x3), .second, .val (.long x4), .second, .val (.long x5), .second, .val (.long x6), .second, .val (.ref ob7), .val (.ref bq70), .val (.ref ob71), .val (.int (4 : Int32)), .val (.long x6), .second] [(.ref bq70)])
        refine own_go (fun _ => own_len X75 hx hZ e75 Vq70 (g := (mkF m 240 #[.val (.long q0), .second, .val (.int p1), .val (.int p2), .val (.int p3), .val (.int p4), .val (.int p5), .val (.long x1), .second, .val (.long x2), .second, .val (.long x3), .second, .val (.long x4), .second, .val (.long x5), .second, .val (.long x6), .second, .val (.ref ob7), .val (.ref bq70), .val (.ref ob71), .val (.int (4 : Int32)), .val (.long x6), .second] [(.ref bq70)])) rfl rfl (hb hby at_240) _) ?_
        show GG _ _ _ _ _ _ _ T75 (mkF m 241 #[.val (.long q0), .second, .val (.int p1), .val (.int p2), .val (.int p3), .val (.int p4), .val (.int p5), .val (.long x1), .second, .val (.long x2), .second, .val (.long x3), .second, .val (.long x4), .second, .val (.long x5), .second, .val (.long x6), .second, .val (.ref ob7), .val (.ref bq70), .val (.ref ob71), .val (.int (4 : Int32)), .val (.long x6), .second] [(.int (4 : Int32))])
        refine own_go (fun _ => XS.iload X75.here hx rfl (hb hby at_241) rfl) ?_
        show GG _ _ _ _ _ _ _ T75 (mkF m 243 #[.val (.long q0), .second, .val (.int p1), .val (.int p2), .val (.int p3), .val (.int p4), .val (.int p5), .val (.long x1), .second, .val (.long x2), .second, .val (.long x3), .second, .val (.long x4), .second, .val (.long x5), .second, .val (.long x6), .second, .val (.ref ob7), .val (.ref bq70), .val (.ref ob71), .val (.int (4 : Int32)), .val (.long x6), .second] [(.int (4 : Int32)), (.int (4 : Int32))])
        have hc243 : (4 : Int32) = (4 : Int32) := by decide
        refine own_go (fun _ => XS.icmpNo X75.here hx rfl (hb hby at_243) rfl (teq hc243).2) ?_
        show GG _ _ _ _ _ _ _ T75 (mkF m 246 #[.val (.long q0), .second, .val (.int p1), .val (.int p2), .val (.int p3), .val (.int p4), .val (.int p5), .val (.long x1), .second, .val (.long x2), .second, .val (.long x3), .second, .val (.long x4), .second, .val (.long x5), .second, .val (.long x6), .second, .val (.ref ob7), .val (.ref bq70), .val (.ref ob71), .val (.int (4 : Int32)), .val (.long x6), .second] [])
        refine own_go (fun _ => XS.aload X75.here hx rfl (hb hby at_246) rfl rfl) ?_
        show GG _ _ _ _ _ _ _ T75 (mkF m 248 #[.val (.long q0), .second, .val (.int p1), .val (.int p2), .val (.int p3), .val (.int p4), .val (.int p5), .val (.long x1), .second, .val (.long x2), .second, .val (.long x3), .second, .val (.long x4), .second, .val (.long x5), .second, .val (.long x6), .second, .val (.ref ob7), .val (.ref bq70), .val (.ref ob71), .val (.int (4 : Int32)), .val (.long x6), .second] [(.ref bq70)])
        refine own_go (fun _ => XS.aload X75.here hx rfl (hb hby at_248) rfl rfl) ?_
        show GG _ _ _ _ _ _ _ T75 (mkF m 250 #[.val (.long q0), .second, .val (.int p1), .val (.int p2), .val (.int p3), .val (.int p4), .val (.int p5), .val (.long x1), .second, .val (.long x2), .second, .val (.long x3), .second, .val (.long x4), .second, .val (.long x5), .second, .val (.long x6), .second, .val (.ref ob7), .val (.ref bq70), .val (.ref ob71), .val (.int (4 : Int32)), .val (.long x6), .second] [(.ref ob71), (.ref bq70)])
        refine own_go (fun _ => XS.iconst X75.here hx rfl (hb hby at_250)) ?_
        show GG _ _ _ _ _ _ _ T75 (mkF m 251 #[.val (.long q0), .second, .val (.int p1), .val (.int p2), .val (.int p3), .val (.int p4), .val (.int p5), .val (.long x1), .second, .val (.long x2), .second, .val (.long x3), .second, .val (.long x4), .second, .val (.long x5), .second, .val (.long x6), .second, .val (.ref ob7), .val (.ref bq70), .val (.ref ob71), .val (.int (4 : Int32)), .val (.long x6), .second] [(.int (0 : Int32)), (.ref ob71), (.ref bq70)])
        refine own_go (fun _ => XS.iload X75.here hx rfl (hb hby at_251) rfl) ?_
        show GG _ _ _ _ _ _ _ T75 (mkF m 253 #[.val (.long q0), .second, .val (.int p1), .val (.int p2), .val (.int p3), .val (.int p4), .val (.int p5), .val (.long x1), .second, .val (.long x2), .second, .val (.long x3), .second, .val (.long x4), .second, .val (.long x5), .second, .val (.long x6), .second, .val (.ref ob7), .val (.ref bq70), .val (.ref ob71), .val (.int (4 : Int32)), .val (.long x6), .second] [(.int (4 : Int32)), (.int (0 : Int32)), (.ref ob71), (.ref bq70)])
        refine own_callS X75 hx hZ (y := (⟨"com/example/obliv/obliv/io/SegmentIndexToArrayPinLaw", "eqAt", "([J[JII)Z"⟩ : MethodName)) 0 hown (hw _ (List.mem_of_getElem? (i := 41) rfl)) (hw _ (List.mem_of_getElem? (i := 42) rfl)) (hw _ (List.mem_of_getElem? (i := 43) rfl)) (hw _ (List.mem_of_getElem? (i := 44) rfl)) (by decide) (argsL := [(.ref bq70), (.ref ob71), (.int (0 : Int32)), (.int (4 : Int32))]) (rest := []) (rm7 l Z a0 hw [] bq70 ob71 (0 : Int32) (4 : Int32) [(.long x1), (.long x4), (.long x3), (.long x6)] [(.long x1), (.long x4), (.long x3), (.long x6), (.long (0 : Int64)), (.long (0 : Int64))] h75 n0 (Nat.le_trans Z0 K0.1) Vq70 V_ob71 (Or.inr ⟨by decide, _, rfl, rfl⟩)) (by decide) (by decide) (by decide) (by decide) (g := (mkF m 253 #[.val (.long q0), .second, .val (.int p1), .val (.int p2), .val (.int p3), .val (.int p4), .val (.int p5), .val (.long x1), .second, .val (.long x2), .second, .val (.long x3), .second, .val (.long x4), .second, .val (.long x5), .second, .val (.long x6), .second, .val (.ref ob7), .val (.ref bq70), .val (.ref ob71), .val (.int (4 : Int32)), .val (.long x6), .second] [(.int (4 : Int32)), (.int (0 : Int32)), (.ref ob71), (.ref bq70)])) rfl (by rw [hml]; rfl) (lenOf pd___J_JII_Z_647 rfl) rfl (by show 2 * 0 + _ ≤ _; exact Nat.le_of_eq rfl) (hb hby at_253) e75 ?_
        rintro v76 T76 L76 X76 ⟨rfl, N76q, hh76⟩
        have N76 := Fr.app N75 N76q
        show GG _ _ _ _ _ _ _ T76 (mkF m 256 #[.val (.long q0), .second, .val (.int p1), .val (.int p2), .val (.int p3), .val (.int p4), .val (.int p5), .val (.long x1), .second, .val (.long x2), .second, .val (.long x3), .second, .val (.long x4), .second, .val (.long x5), .second, .val (.long x6), .second, .val (.ref ob7), .val (.ref bq70), .val (.ref ob71), .val (.int (4 : Int32)), .val (.long x6), .second] [(.int (1 : Int32))])
        have hc256 : ¬ ((1 : Int32) = (0 : Int32)) := by decide
        refine own_go (fun _ => XS.ifNo X76.here hx rfl (hb hby at_256) rfl ((if0 _ _).trans (feq hc256).1)) ?_
        show GG _ _ _ _ _ _ _ T76 (mkF m 259 #[.val (.long q0), .second, .val (.int p1), .val (.int p2), .val (.int p3), .val (.int p4), .val (.int p5), .val (.long x1), .second, .val (.long x2), .second, .val (.long x3), .second, .val (.long x4), .second, .val (.long x5), .second, .val (.long x6), .second, .val (.ref ob7), .val (.ref bq70), .val (.ref ob71), .val (.int (4 : Int32)), .val (.long x6), .second] [])
        refine own_go (fun _ => XS.aload X76.here hx rfl (hb hby at_259) rfl rfl) ?_
        show GG _ _ _ _ _ _ _ T76 (mkF m 261 #[.val (.long q0), .second, .val (.int p1), .val (.int p2), .val (.int p3), .val (.int p4), .val (.int p5), .val (.long x1), .second, .val (.long x2), .second, .val (.long x3), .second, .val (.long x4), .second, .val (.long x5), .second, .val (.long x6), .second, .val (.ref ob7), .val (.ref bq70), .val (.ref ob71), .val (.int (4 : Int32)), .val (.long x6), .second] [(.ref bq70)])
        refine own_go (fun _ => XS.aload X76.here hx rfl (hb hby at_261) rfl rfl) ?_
        show GG _ _ _ _ _ _ _ T76 (mkF m 263 #[.val (.long q0), .second, .val (.int p1), .val (.int p2), .val (.int p3), .val (.int p4), .val (.int p5), .val (.long x1), .second, .val (.long x2), .second, .val (.long x3), .second, .val (.long x4), .second, .val (.long x5), .second, .val (.long x6), .second, .val (.ref ob7), .val (.ref bq70), .val (.ref ob71), .val (.int (4 : Int32)), .val (.long x6), .second] [(.ref ob71), (.ref bq70)])
        refine own_go (fun _ => XS.iconst X76.here hx rfl (hb hby at_263)) ?_
        show GG _ _ _ _ _ _ _ T76 (mkF m 264 #[.val (.long q0), .second, .val (.int p1), .val (.int p2), .val (.int p3), .val (.int p4), .val (.int p5), .val (.long x1), .second, .val (.long x2), .second, .val (.long x3), .second, .val (.long x4), .second, .val (.long x5), .second, .val (.long x6), .second, .val (.ref ob7), .val (.ref bq70), .val (.ref ob71), .val (.int (4 : Int32)), .val (.long x6), .second] [(.int (1 : Int32)), (.ref ob71), (.ref bq70)])
        refine own_go (fun _ => XS.iload X76.here hx rfl (hb hby at_264) rfl) ?_
        show GG _ _ _ _ _ _ _ T76 (mkF m 266 #[.val (.long q0), .second, .val (.int p1), .val (.int p2), .val (.int p3), .val (.int p4), .val (.int p5), .val (.long x1), .second, .val (.long x2), .second, .val (.long x3), .second, .val (.long x4), .second, .val (.long x5), .second, .val (.long x6), .second, .val (.ref ob7), .val (.ref bq70), .val (.ref ob71), .val (.int (4 : Int32)), .val (.long x6), .second] [(.int (4 : Int32)), (.int (1 : Int32)), (.ref ob71), (.ref bq70)])
        refine own_callS X76 hx hZ (y := (⟨"com/example/obliv/obliv/io/SegmentIndexToArrayPinLaw", "eqAt", "([J[JII)Z"⟩ : MethodName)) 0 hown (hw _ (List.mem_of_getElem? (i := 41) rfl)) (hw _ (List.mem_of_getElem? (i := 42) rfl)) (hw _ (List.mem_of_getElem? (i := 43) rfl)) (hw _ (List.mem_of_getElem? (i := 44) rfl)) (by decide) (argsL := [(.ref bq70), (.ref ob71), (.int (1 : Int32)), (.int (4 : Int32))]) (rest := []) (rm7 l Z a0 hw [] bq70 ob71 (1 : Int32) (4 : Int32) [(.long x1), (.long x4), (.long x3), (.long x6)] [(.long x1), (.long x4), (.long x3), (.long x6), (.long (0 : Int64)), (.long (0 : Int64))] h75 n0 (Nat.le_trans Z0 K0.1) Vq70 V_ob71 (Or.inr ⟨by decide, _, rfl, rfl⟩)) (by decide) (by decide) (by decide) (by decide) (g := (mkF m 266 #[.val (.long q0), .second, .val (.int p1), .val (.int p2), .val (.int p3), .val (.int p4), .val (.int p5), .val (.long x1), .second, .val (.long x2), .second, .val (.long x3), .second, .val (.long x4), .second, .val (.long x5), .second, .val (.long x6), .second, .val (.ref ob7), .val (.ref bq70), .val (.ref ob71), .val (.int (4 : Int32)), .val (.long x6), .second] [(.int (4 : Int32)), (.int (1 : Int32)), (.ref ob71), (.ref bq70)])) rfl (by rw [hml]; rfl) (lenOf pd___J_JII_Z_647 rfl) rfl (by show 2 * 0 + _ ≤ _; exact Nat.le_of_eq rfl) (hb hby at_266) hh76 ?_
        rintro v77 T77 L77 X77 ⟨rfl, N77q, hh77⟩
        have N77 := Fr.app N76 N77q
        show GG _ _ _ _ _ _ _ T77 (mkF m 269 #[.val (.long q0), .second, .val (.int p1), .val (.int p2), .val (.int p3), .val (.int p4), .val (.int p5), .val (.long x1), .second, .val (.long x2), .second, .val (.long x3), .second, .val (.long x4), .second, .val (.long x5), .second, .val (.long x6), .second, .val (.ref ob7), .val (.ref bq70), .val (.ref ob71), .val (.int (4 : Int32)), .val (.long x6), .second] [(.int (1 : Int32))])
        have hc269 : ¬ ((1 : Int32) = (0 : Int32)) := by decide
        refine own_go (fun _ => XS.ifNo X77.here hx rfl (hb hby at_269) rfl ((if0 _ _).trans (feq hc269).1)) ?_
        show GG _ _ _ _ _ _ _ T77 (mkF m 272 #[.val (.long q0), .second, .val (.int p1), .val (.int p2), .val (.int p3), .val (.int p4), .val (.int p5), .val (.long x1), .second, .val (.long x2), .second, .val (.long x3), .second, .val (.long x4), .second, .val (.long x5), .second, .val (.long x6), .second, .val (.ref ob7), .val (.ref bq70), .val (.ref ob71), .val (.int (4 : Int32)), .val (.long x6), .second] [])
        refine own_go (fun _ => XS.aload X77.here hx rfl (hb hby at_272) rfl rfl) ?_
        show GG _ _ _ _ _ _ _ T77 (mkF m 274 #[.val (.long q0), .second, .val (.int p1), .val (.int p2), .val (.int p3), .val (.int p4), .val (.int p5), .val (.long x1), .second, .val (.long x2), .second, .val (.long x3), .second, .val (.long x4), .second, .val (.long x5), .second, .val (.long x6), .second, .val (.ref ob7), .val (.ref bq70), .val (.ref ob71), .val (.int (4 : Int32)), .val (.long x6), .second] [(.ref bq70)])
        refine own_go (fun _ => XS.aload X77.here hx rfl (hb hby at_274) rfl rfl) ?_
        show GG _ _ _ _ _ _ _ T77 (mkF m 276 #[.val (.long q0), .second, .val (.int p1), .val (.int p2), .val (.int p3), .val (.int p4), .val (.int p5), .val (.long x1), .second, .val (.long x2), .second, .val (.long x3), .second, .val (.long x4), .second, .val (.long x5), .second, .val (.long x6), .second, .val (.ref ob7), .val (.ref bq70), .val (.ref ob71), .val (.int (4 : Int32)), .val (.long x6), .second] [(.ref ob71), (.ref bq70)])
        refine own_go (fun _ => XS.iconst X77.here hx rfl (hb hby at_276)) ?_
        show GG _ _ _ _ _ _ _ T77 (mkF m 277 #[.val (.long q0), .second, .val (.int p1), .val (.int p2), .val (.int p3), .val (.int p4), .val (.int p5), .val (.long x1), .second, .val (.long x2), .second, .val (.long x3), .second, .val (.long x4), .second, .val (.long x5), .second, .val (.long x6), .second, .val (.ref ob7), .val (.ref bq70), .val (.ref ob71), .val (.int (4 : Int32)), .val (.long x6), .second] [(.int (2 : Int32)), (.ref ob71), (.ref bq70)])
        refine own_go (fun _ => XS.iload X77.here hx rfl (hb hby at_277) rfl) ?_
        show GG _ _ _ _ _ _ _ T77 (mkF m 279 #[.val (.long q0), .second, .val (.int p1), .val (.int p2), .val (.int p3), .val (.int p4), .val (.int p5), .val (.long x1), .second, .val (.long x2), .second, .val (.long x3), .second, .val (.long x4), .second, .val (.long x5), .second, .val (.long x6), .second, .val (.ref ob7), .val (.ref bq70), .val (.ref ob71), .val (.int (4 : Int32)), .val (.long x6), .second] [(.int (4 : Int32)), (.int (2 : Int32)), (.ref ob71), (.ref bq70)])
        refine own_callS X77 hx hZ (y := (⟨"com/example/obliv/obliv/io/SegmentIndexToArrayPinLaw", "eqAt", "([J[JII)Z"⟩ : MethodName)) 0 hown (hw _ (List.mem_of_getElem? (i := 41) rfl)) (hw _ (List.mem_of_getElem? (i := 42) rfl)) (hw _ (List.mem_of_getElem? (i := 43) rfl)) (hw _ (List.mem_of_getElem? (i := 44) rfl)) (by decide) (argsL := [(.ref bq70), (.ref ob71), (.int (2 : Int32)), (.int (4 : Int32))]) (rest := []) (rm7 l Z a0 hw [] bq70 ob71 (2 : Int32) (4 : Int32) [(.long x1), (.long x4), (.long x3), (.long x6)] [(.long x1), (.long x4), (.long x3), (.long x6), (.long (0 : Int64)), (.long (0 : Int64))] h75 n0 (Nat.le_trans Z0 K0.1) Vq70 V_ob71 (Or.inr ⟨by decide, _, rfl, rfl⟩)) (by decide) (by decide) (by decide) (by decide) (g := (mkF m 279 #[.val (.long q0), .second, .val (.int p1), .val (.int p2), .val (.int p3), .val (.int p4), .val (.int p5), .val (.long x1), .second, .val (.long x2), .second, .val (.long x3), .second, .val (.long x4), .second, .val (.long x5), .second, .val (.long x6), .second, .val (.ref ob7), .val (.ref bq70), .val (.ref ob71), .val (.int (4 : Int32)), .val (.long x6), .second] [(.int (4 : Int32)), (.int (2 : Int32)), (.ref ob71), (.ref bq70)])) rfl (by rw [hml]; rfl) (lenOf pd___J_JII_Z_647 rfl) rfl (by show 2 * 0 + _ ≤ _; exact Nat.le_of_eq rfl) (hb hby at_279) hh77 ?_
        rintro v78 T78 L78 X78 ⟨rfl, N78q, hh78⟩
        have N78 := Fr.app N77 N78q
        show GG _ _ _ _ _ _ _ T78 (mkF m 282 #[.val (.long q0), .second, .val (.int p1), .val (.int p2), .val (.int p3), .val (.int p4), .val (.int p5), .val (.long x1), .second, .val (.long x2), .second, .val (.long x3), .second, .val (.long x4), .second, .val (.long x5), .second, .val (.long x6), .second, .val (.ref ob7), .val (.ref bq70), .val (.ref ob71), .val (.int (4 : Int32)), .val (.long x6), .second] [(.int (1 : Int32))])
        have hc282 : ¬ ((1 : Int32) = (0 : Int32)) := by decide
        refine own_go (fun _ => XS.ifNo X78.here hx rfl (hb hby at_282) rfl ((if0 _ _).trans (feq hc282).1)) ?_
        show GG _ _ _ _ _ _ _ T78 (mkF m 285 #[.val (.long q0), .second, .val (.int p1), .val (.int p2), .val (.int p3), .val (.int p4), .val (.int p5), .val (.long x1), .second, .val (.long x2), .second, .val (.long x3), .second, .val (.long x4), .second, .val (.long x5), .second, .val (.long x6), .second, .val (.ref ob7), .val (.ref bq70), .val (.ref ob71), .val (.int (4 : Int32)), .val (.long x6), .second] [])
        refine own_go (fun _ => XS.aload X78.here hx rfl (hb hby at_285) rfl rfl) ?_
        show GG _ _ _ _ _ _ _ T78 (mkF m 287 #[.val (.long q0), .second, .val (.int p1), .val (.int p2), .val (.int p3), .val (.int p4), .val (.int p5), .val (.long x1), .second, .val (.long x2), .second, .val (.long x3), .second, .val (.long x4), .second, .val (.long x5), .second, .val (.long x6), .second, .val (.ref ob7), .val (.ref bq70), .val (.ref ob71), .val (.int (4 : Int32)), .val (.long x6), .second] [(.ref bq70)])
        refine own_go (fun _ => XS.aload X78.here hx rfl (hb hby at_287) rfl rfl) ?_
        show GG _ _ _ _ _ _ _ T78 (mkF m 289 #[.val (.long q0), .second, .val (.int p1), .val (.int p2), .val (.int p3), .val (.int p4), .val (.int p5), .val (.long x1), .second, .val (.long x2), .second, .val (.long x3), .second, .val (.long x4), .second, .val (.long x5), .second, .val (.long x6), .second, .val (.ref ob7), .val (.ref bq70), .val (.ref ob71), .val (.int (4 : Int32)), .val (.long x6), .second] [(.ref ob71), (.ref bq70)])
        refine own_go (fun _ => XS.iconst X78.here hx rfl (hb hby at_289)) ?_
        show GG _ _ _ _ _ _ _ T78 (mkF m 290 #[.val (.long q0), .second, .val (.int p1), .val (.int p2), .val (.int p3), .val (.int p4), .val (.int p5), .val (.long x1), .second, .val (.long x2), .second, .val (.long x3), .second, .val (.long x4), .second, .val (.long x5), .second, .val (.long x6), .second, .val (.ref ob7), .val (.ref bq70), .val (.ref ob71), .val (.int (4 : Int32)), .val (.long x6), .second] [(.int (3 : Int32)), (.ref ob71), (.ref bq70)])
        refine own_go (fun _ => XS.iload X78.here hx rfl (hb hby at_290) rfl) ?_
        show GG _ _ _ _ _ _ _ T78 (mkF m 292 #[.val (.long q0), .second, .val (.int p1), .val (.int p2), .val (.int p3), .val (.int p4), .val (.int p5), .val (.long x1), .second, .val (.long x2), .second, .val (.long x3), .second, .val (.long x4), .second, .val (.long x5), .second, .val (.long x6), .second, .val (.ref ob7), .val (.ref bq70), .val (.ref ob71), .val (.int (4 : Int32)), .val (.long x6), .second] [(.int (4 : Int32)), (.int (3 : Int32)), (.ref ob71), (.ref bq70)])
        refine own_callS X78 hx hZ (y := (⟨"com/example/obliv/obliv/io/SegmentIndexToArrayPinLaw", "eqAt", "([J[JII)Z"⟩ : MethodName)) 0 hown (hw _ (List.mem_of_getElem? (i := 41) rfl)) (hw _ (List.mem_of_getElem? (i := 42) rfl)) (hw _ (List.mem_of_getElem? (i := 43) rfl)) (hw _ (List.mem_of_getElem? (i := 44) rfl)) (by decide) (argsL := [(.ref bq70), (.ref ob71), (.int (3 : Int32)), (.int (4 : Int32))]) (rest := []) (rm7 l Z a0 hw [] bq70 ob71 (3 : Int32) (4 : Int32) [(.long x1), (.long x4), (.long x3), (.long x6)] [(.long x1), (.long x4), (.long x3), (.long x6), (.long (0 : Int64)), (.long (0 : Int64))] h75 n0 (Nat.le_trans Z0 K0.1) Vq70 V_ob71 (Or.inr ⟨by decide, _, rfl, rfl⟩)) (by decide) (by decide) (by decide) (by decide) (g := (mkF m 292 #[.val (.long q0), .second, .val (.int p1), .val (.int p2), .val (.int p3), .val (.int p4), .val (.int p5), .val (.long x1), .second, .val (.long x2), .second, .val (.long x3), .second, .val (.long x4), .second, .val (.long x5), .second, .val (.long x6), .second, .val (.ref ob7), .val (.ref bq70), .val (.ref ob71), .val (.int (4 : Int32)), .val (.long x6), .second] [(.int (4 : Int32)), (.int (3 : Int32)), (.ref ob71), (.ref bq70)])) rfl (by rw [hml]; rfl) (lenOf pd___J_JII_Z_647 rfl) rfl (by show 2 * 0 + _ ≤ _; exact Nat.le_of_eq rfl) (hb hby at_292) hh78 ?_
        rintro v79 T79 L79 X79 ⟨rfl, N79q, hh79⟩
        have N79 := Fr.app N78 N79q
        show GG _ _ _ _ _ _ _ T79 (mkF m 295 #[.val (.long q0), .second, .val (.int p1), .val (.int p2), .val (.int p3), .val (.int p4), .val (.int p5), .val (.long x1), .second, .val (.long x2), .second, .val (.long x3), .second, .val (.long x4), .second, .val (.long x5), .second, .val (.long x6), .second, .val (.ref ob7), .val (.ref bq70), .val (.ref ob71), .val (.int (4 : Int32)), .val (.long x6), .second] [(.int (1 : Int32))])
        have hc295 : ¬ ((1 : Int32) = (0 : Int32)) := by decide
        refine own_go (fun _ => XS.ifNo X79.here hx rfl (hb hby at_295) rfl ((if0 _ _).trans (feq hc295).1)) ?_
        show GG _ _ _ _ _ _ _ T79 (mkF m 298 #[.val (.long q0), .second, .val (.int p1), .val (.int p2), .val (.int p3), .val (.int p4), .val (.int p5), .val (.long x1), .second, .val (.long x2), .second, .val (.long x3), .second, .val (.long x4), .second, .val (.long x5), .second, .val (.long x6), .second, .val (.ref ob7), .val (.ref bq70), .val (.ref ob71), .val (.int (4 : Int32)), .val (.long x6), .second] [])
        refine own_go (fun _ => XS.aload X79.here hx rfl (hb hby at_298) rfl rfl) ?_
        show GG _ _ _ _ _ _ _ T79 (mkF m 300 #[.val (.long q0), .second, .val (.int p1), .val (.int p2), .val (.int p3), .val (.int p4), .val (.int p5), .val (.long x1), .second, .val (.long x2), .second, .val (.long x3), .second, .val (.long x4), .second, .val (.long x5), .second, .val (.long x6), .second, .val (.ref ob7), .val (.ref bq70), .val (.ref ob71), .val (.int (4 : Int32)), .val (.long x6), .second] [(.ref bq70)])
        refine own_go (fun _ => XS.aload X79.here hx rfl (hb hby at_300) rfl rfl) ?_
        show GG _ _ _ _ _ _ _ T79 (mkF m 302 #[.val (.long q0), .second, .val (.int p1), .val (.int p2), .val (.int p3), .val (.int p4), .val (.int p5), .val (.long x1), .second, .val (.long x2), .second, .val (.long x3), .second, .val (.long x4), .second, .val (.long x5), .second, .val (.long x6), .second, .val (.ref ob7), .val (.ref bq70), .val (.ref ob71), .val (.int (4 : Int32)), .val (.long x6), .second] [(.ref ob71), (.ref bq70)])
        refine own_go (fun _ => XS.iconst X79.here hx rfl (hb hby at_302)) ?_
        show GG _ _ _ _ _ _ _ T79 (mkF m 303 #[.val (.long q0), .second, .val (.int p1), .val (.int p2), .val (.int p3), .val (.int p4), .val (.int p5), .val (.long x1), .second, .val (.long x2), .second, .val (.long x3), .second, .val (.long x4), .second, .val (.long x5), .second, .val (.long x6), .second, .val (.ref ob7), .val (.ref bq70), .val (.ref ob71), .val (.int (4 : Int32)), .val (.long x6), .second] [(.int (4 : Int32)), (.ref ob71), (.ref bq70)])
        refine own_go (fun _ => XS.iload X79.here hx rfl (hb hby at_303) rfl) ?_
        show GG _ _ _ _ _ _ _ T79 (mkF m 305 #[.val (.long q0), .second, .val (.int p1), .val (.int p2), .val (.int p3), .val (.int p4), .val (.int p5), .val (.long x1), .second, .val (.long x2), .second, .val (.long x3), .second, .val (.long x4), .second, .val (.long x5), .second, .val (.long x6), .second, .val (.ref ob7), .val (.ref bq70), .val (.ref ob71), .val (.int (4 : Int32)), .val (.long x6), .second] [(.int (4 : Int32)), (.int (4 : Int32)), (.ref ob71), (.ref bq70)])
        refine own_callS X79 hx hZ (y := (⟨"com/example/obliv/obliv/io/SegmentIndexToArrayPinLaw", "eqAt", "([J[JII)Z"⟩ : MethodName)) 0 hown (hw _ (List.mem_of_getElem? (i := 41) rfl)) (hw _ (List.mem_of_getElem? (i := 42) rfl)) (hw _ (List.mem_of_getElem? (i := 43) rfl)) (hw _ (List.mem_of_getElem? (i := 44) rfl)) (by decide) (argsL := [(.ref bq70), (.ref ob71), (.int (4 : Int32)), (.int (4 : Int32))]) (rest := []) (rm7 l Z a0 hw [] bq70 ob71 (4 : Int32) (4 : Int32) [(.long x1), (.long x4), (.long x3), (.long x6)] [(.long x1), (.long x4), (.long x3), (.long x6), (.long (0 : Int64)), (.long (0 : Int64))] h75 n0 (Nat.le_trans Z0 K0.1) Vq70 V_ob71 (Or.inl (by decide))) (by decide) (by decide) (by decide) (by decide) (g := (mkF m 305 #[.val (.long q0), .second, .val (.int p1), .val (.int p2), .val (.int p3), .val (.int p4), .val (.int p5), .val (.long x1), .second, .val (.long x2), .second, .val (.long x3), .second, .val (.long x4), .second, .val (.long x5), .second, .val (.long x6), .second, .val (.ref ob7), .val (.ref bq70), .val (.ref ob71), .val (.int (4 : Int32)), .val (.long x6), .second] [(.int (4 : Int32)), (.int (4 : Int32)), (.ref ob71), (.ref bq70)])) rfl (by rw [hml]; rfl) (lenOf pd___J_JII_Z_647 rfl) rfl (by show 2 * 0 + _ ≤ _; exact Nat.le_of_eq rfl) (hb hby at_305) hh79 ?_
        rintro v80 T80 L80 X80 ⟨rfl, N80q, hh80⟩
        have N80 := Fr.app N79 N80q
        show GG _ _ _ _ _ _ _ T80 (mkF m 308 #[.val (.long q0), .second, .val (.int p1), .val (.int p2), .val (.int p3), .val (.int p4), .val (.int p5), .val (.long x1), .second, .val (.long x2), .second, .val (.long x3), .second, .val (.long x4), .second, .val (.long x5), .second, .val (.long x6), .second, .val (.ref ob7), .val (.ref bq70), .val (.ref ob71), .val (.int (4 : Int32)), .val (.long x6), .second] [(.int (1 : Int32))])
        have hc308 : ¬ ((1 : Int32) = (0 : Int32)) := by decide
        refine own_go (fun _ => XS.ifNo X80.here hx rfl (hb hby at_308) rfl ((if0 _ _).trans (feq hc308).1)) ?_
        show GG _ _ _ _ _ _ _ T80 (mkF m 311 #[.val (.long q0), .second, .val (.int p1), .val (.int p2), .val (.int p3), .val (.int p4), .val (.int p5), .val (.long x1), .second, .val (.long x2), .second, .val (.long x3), .second, .val (.long x4), .second, .val (.long x5), .second, .val (.long x6), .second, .val (.ref ob7), .val (.ref bq70), .val (.ref ob71), .val (.int (4 : Int32)), .val (.long x6), .second] [])
        refine own_go (fun _ => XS.aload X80.here hx rfl (hb hby at_311) rfl rfl) ?_
        show GG _ _ _ _ _ _ _ T80 (mkF m 313 #[.val (.long q0), .second, .val (.int p1), .val (.int p2), .val (.int p3), .val (.int p4), .val (.int p5), .val (.long x1), .second, .val (.long x2), .second, .val (.long x3), .second, .val (.long x4), .second, .val (.long x5), .second, .val (.long x6), .second, .val (.ref ob7), .val (.ref bq70), .val (.ref ob71), .val (.int (4 : Int32)), .val (.long x6), .second] [(.ref bq70)])
        refine own_go (fun _ => XS.aload X80.here hx rfl (hb hby at_313) rfl rfl) ?_
        show GG _ _ _ _ _ _ _ T80 (mkF m 315 #[.val (.long q0), .second, .val (.int p1), .val (.int p2), .val (.int p3), .val (.int p4), .val (.int p5), .val (.long x1), .second, .val (.long x2), .second, .val (.long x3), .second, .val (.long x4), .second, .val (.long x5), .second, .val (.long x6), .second, .val (.ref ob7), .val (.ref bq70), .val (.ref ob71), .val (.int (4 : Int32)), .val (.long x6), .second] [(.ref ob71), (.ref bq70)])
        refine own_go (fun _ => XS.iconst X80.here hx rfl (hb hby at_315)) ?_
        show GG _ _ _ _ _ _ _ T80 (mkF m 316 #[.val (.long q0), .second, .val (.int p1), .val (.int p2), .val (.int p3), .val (.int p4), .val (.int p5), .val (.long x1), .second, .val (.long x2), .second, .val (.long x3), .second, .val (.long x4), .second, .val (.long x5), .second, .val (.long x6), .second, .val (.ref ob7), .val (.ref bq70), .val (.ref ob71), .val (.int (4 : Int32)), .val (.long x6), .second] [(.int (5 : Int32)), (.ref ob71), (.ref bq70)])
        refine own_go (fun _ => XS.iload X80.here hx rfl (hb hby at_316) rfl) ?_
        show GG _ _ _ _ _ _ _ T80 (mkF m 318 #[.val (.long q0), .second, .val (.int p1), .val (.int p2), .val (.int p3), .val (.int p4), .val (.int p5), .val (.long x1), .second, .val (.long x2), .second, .val (.long x3), .second, .val (.long x4), .second, .val (.long x5), .second, .val (.long x6), .second, .val (.ref ob7), .val (.ref bq70), .val (.ref ob71), .val (.int (4 : Int32)), .val (.long x6), .second] [(.int (4 : Int32)), (.int (5 : Int32)), (.ref ob71), (.ref bq70)])
        refine own_callS X80 hx hZ (y := (⟨"com/example/obliv/obliv/io/SegmentIndexToArrayPinLaw", "eqAt", "([J[JII)Z"⟩ : MethodName)) 0 hown (hw _ (List.mem_of_getElem? (i := 41) rfl)) (hw _ (List.mem_of_getElem? (i := 42) rfl)) (hw _ (List.mem_of_getElem? (i := 43) rfl)) (hw _ (List.mem_of_getElem? (i := 44) rfl)) (by decide) (argsL := [(.ref bq70), (.ref ob71), (.int (5 : Int32)), (.int (4 : Int32))]) (rest := []) (rm7 l Z a0 hw [] bq70 ob71 (5 : Int32) (4 : Int32) [(.long x1), (.long x4), (.long x3), (.long x6)] [(.long x1), (.long x4), (.long x3), (.long x6), (.long (0 : Int64)), (.long (0 : Int64))] h75 n0 (Nat.le_trans Z0 K0.1) Vq70 V_ob71 (Or.inl (by decide))) (by decide) (by decide) (by decide) (by decide) (g := (mkF m 318 #[.val (.long q0), .second, .val (.int p1), .val (.int p2), .val (.int p3), .val (.int p4), .val (.int p5), .val (.long x1), .second, .val (.long x2), .second, .val (.long x3), .second, .val (.long x4), .second, .val (.long x5), .second, .val (.long x6), .second, .val (.ref ob7), .val (.ref bq70), .val (.ref ob71), .val (.int (4 : Int32)), .val (.long x6), .second] [(.int (4 : Int32)), (.int (5 : Int32)), (.ref ob71), (.ref bq70)])) rfl (by rw [hml]; rfl) (lenOf pd___J_JII_Z_647 rfl) rfl (by show 2 * 0 + _ ≤ _; exact Nat.le_of_eq rfl) (hb hby at_318) hh80 ?_
        rintro v81 T81 L81 X81 ⟨rfl, N81q, hh81⟩
        have N81 := Fr.app N80 N81q
        show GG _ _ _ _ _ _ _ T81 (mkF m 321 #[.val (.long q0), .second, .val (.int p1), .val (.int p2), .val (.int p3), .val (.int p4), .val (.int p5), .val (.long x1), .second, .val (.long x2), .second, .val (.long x3), .second, .val (.long x4), .second, .val (.long x5), .second, .val (.long x6), .second, .val (.ref ob7), .val (.ref bq70), .val (.ref ob71), .val (.int (4 : Int32)), .val (.long x6), .second] [(.int (1 : Int32))])
        have hc321 : ¬ ((1 : Int32) = (0 : Int32)) := by decide
        refine own_go (fun _ => XS.ifNo X81.here hx rfl (hb hby at_321) rfl ((if0 _ _).trans (feq hc321).1)) ?_
        show GG _ _ _ _ _ _ _ T81 (mkF m 324 #[.val (.long q0), .second, .val (.int p1), .val (.int p2), .val (.int p3), .val (.int p4), .val (.int p5), .val (.long x1), .second, .val (.long x2), .second, .val (.long x3), .second, .val (.long x4), .second, .val (.long x5), .second, .val (.long x6), .second, .val (.ref ob7), .val (.ref bq70), .val (.ref ob71), .val (.int (4 : Int32)), .val (.long x6), .second] [])
        refine own_go (fun _ => XS.iconst X81.here hx rfl (hb hby at_324)) ?_
        show GG _ _ _ _ _ _ _ T81 (mkF m 325 #[.val (.long q0), .second, .val (.int p1), .val (.int p2), .val (.int p3), .val (.int p4), .val (.int p5), .val (.long x1), .second, .val (.long x2), .second, .val (.long x3), .second, .val (.long x4), .second, .val (.long x5), .second, .val (.long x6), .second, .val (.ref ob7), .val (.ref bq70), .val (.ref ob71), .val (.int (4 : Int32)), .val (.long x6), .second] [(.int (1 : Int32))])
        refine own_go (fun _ => XS.goto X81.here hx rfl (pc0 := 325) (pc' := 329) rfl (hb hby at_325) (by decide) (by decide)) ?_
        show GG _ _ _ _ _ _ _ T81 (mkF m 329 #[.val (.long q0), .second, .val (.int p1), .val (.int p2), .val (.int p3), .val (.int p4), .val (.int p5), .val (.long x1), .second, .val (.long x2), .second, .val (.long x3), .second, .val (.long x4), .second, .val (.long x5), .second, .val (.long x6), .second, .val (.ref ob7), .val (.ref bq70), .val (.ref ob71), .val (.int (4 : Int32)), .val (.long x6), .second] [(.int (1 : Int32))])
        refine own_ret X81 hx hlk (t := .boolean) (w := (.int (1 : Int32))) Bd.returns rfl (Or.inl ⟨rfl, by simp, _, rfl⟩) (hb hby at_329) (by decide) (by decide) ?_
        show Q0 Z q0 p1 p2 p3 p4 p5 h0 n0 (some (.int (1 : Int32))) T81.heap _
        rw [hh81]
        exact ⟨rfl, N81⟩
    · skip
      refine own_callV X56 hx hZ (y := (⟨"com/example/obliv/obliv/io/SegmentIndex", "add", "(JJ)V"⟩ : MethodName)) (z := (⟨"com/example/obliv/obliv/io/SegmentIndex", "add", "(JJ)V"⟩ : MethodName)) 0 hown (hw _ (List.mem_of_getElem? (i := 25) rfl)) (hw _ (List.mem_of_getElem? (i := 26) rfl)) (notFace_of_selects (args := #[]) (mvT hZ (hw _ (List.mem_of_getElem? (i := 28) rfl)))) (hw _ (List.mem_of_getElem? (i := 28) rfl)) (hw _ (List.mem_of_getElem? (i := 27) rfl)) (hw _ (List.mem_of_getElem? (i := 6) rfl)) (hw _ (List.mem_of_getElem? (i := 29) rfl)) (by decide) (a := ob7) (argsL := [(.long x2), (.long x5)]) (rest := []) (rm4_2h l Z a0 hw [] ob7 x2 x5 c1_8 c2_8 (0 : Int64) x1 (0 : Int64) (0 : Int64) (0 : Int64) (0 : Int64) (0 : Int64) (0 : Int64) (0 : Int64) (0 : Int64) (0 : Int64) (0 : Int64) (0 : Int64) (0 : Int64) (0 : Int64) (0 : Int64) (8 : Int64) x4 (0 : Int64) (0 : Int64) (0 : Int64) (0 : Int64) (0 : Int64) (0 : Int64) (0 : Int64) (0 : Int64) (0 : Int64) (0 : Int64) (0 : Int64) (0 : Int64) (0 : Int64) (0 : Int64) T56.heap n0 (Nat.le_trans Z0 K0.1) hp91 Eq8 Fs56 Fr56 Fp56 Vr56 Vp56 n12_8 ne1_8 ne2_8 g_ob7 g_c1_8 g_c2_8) (by decide) (by decide) (by decide) (by decide) Eq8 (g := (mkF m 91 #[.val (.long q0), .second, .val (.int p1), .val (.int p2), .val (.int p3), .val (.int p4), .val (.int p5), .val (.long x1), .second, .val (.long x2), .second, .val (.long x3), .second, .val (.long x4), .second, .val (.long x5), .second, .val (.long x6), .second, .val (.ref ob7), .unset, .unset, .unset, .unset, .unset] [(.long x5), (.long x2), (.ref ob7)])) rfl (by rw [hml]; rfl) (lenOf pd__JJ_V_315 rfl) rfl (by show 2 * 0 + _ ≤ _; exact Nat.le_of_eq rfl) (hb hby at_91) rfl ?_
      rintro v82 T82 L82 X82 ⟨rfl, N82q, Kq82, Fs82, Fr82, Fp82, Vr82, Vp82⟩
      have N82 := Fr.app N56 N82q
      have K0 := K0.trans Kq82 (allS (Or.inr sz_ob7) (allS (Or.inr sz_c1_8) (allS (Or.inr sz_c2_8) all0)))
      have Eq8 := Eq8.keep Kq82
      show GG _ _ _ _ _ _ _ T82 (mkF m 94 #[.val (.long q0), .second, .val (.int p1), .val (.int p2), .val (.int p3), .val (.int p4), .val (.int p5), .val (.long x1), .second, .val (.long x2), .second, .val (.long x3), .second, .val (.long x4), .second, .val (.long x5), .second, .val (.long x6), .second, .val (.ref ob7), .unset, .unset, .unset, .unset, .unset] [])
      refine own_go (fun _ => XS.aload X82.here hx rfl (hb hby at_94) rfl rfl) ?_
      show GG _ _ _ _ _ _ _ T82 (mkF m 96 #[.val (.long q0), .second, .val (.int p1), .val (.int p2), .val (.int p3), .val (.int p4), .val (.int p5), .val (.long x1), .second, .val (.long x2), .second, .val (.long x3), .second, .val (.long x4), .second, .val (.long x5), .second, .val (.long x6), .second, .val (.ref ob7), .unset, .unset, .unset, .unset, .unset] [(.ref ob7)])
      refine own_go (fun _ => XS.lload X82.here hx rfl (hb hby at_96) rfl) ?_
      show GG _ _ _ _ _ _ _ T82 (mkF m 98 #[.val (.long q0), .second, .val (.int p1), .val (.int p2), .val (.int p3), .val (.int p4), .val (.int p5), .val (.long x1), .second, .val (.long x2), .second, .val (.long x3), .second, .val (.long x4), .second, .val (.long x5), .second, .val (.long x6), .second, .val (.ref ob7), .unset, .unset, .unset, .unset, .unset] [(.long x3), (.ref ob7)])
      refine own_go (fun _ => XS.lload X82.here hx rfl (hb hby at_98) rfl) ?_
      show GG _ _ _ _ _ _ _ T82 (mkF m 100 #[.val (.long q0), .second, .val (.int p1), .val (.int p2), .val (.int p3), .val (.int p4), .val (.int p5), .val (.long x1), .second, .val (.long x2), .second, .val (.long x3), .second, .val (.long x4), .second, .val (.long x5), .second, .val (.long x6), .second, .val (.ref ob7), .unset, .unset, .unset, .unset, .unset] [(.long x6), (.long x3), (.ref ob7)])
      by_cases hp100 : (x6 - x5) < (65536 : Int64)
      · skip
        refine own_callV X82 hx hZ (y := (⟨"com/example/obliv/obliv/io/SegmentIndex", "add", "(JJ)V"⟩ : MethodName)) (z := (⟨"com/example/obliv/obliv/io/SegmentIndex", "add", "(JJ)V"⟩ : MethodName)) 0 hown (hw _ (List.mem_of_getElem? (i := 25) rfl)) (hw _ (List.mem_of_getElem? (i := 26) rfl)) (notFace_of_selects (args := #[]) (mvT hZ (hw _ (List.mem_of_getElem? (i := 28) rfl)))) (hw _ (List.mem_of_getElem? (i := 28) rfl)) (hw _ (List.mem_of_getElem? (i := 27) rfl)) (hw _ (List.mem_of_getElem? (i := 6) rfl)) (hw _ (List.mem_of_getElem? (i := 29) rfl)) (by decide) (a := ob7) (argsL := [(.long x3), (.long x6)]) (rest := []) (rm4_3x l Z a0 hw [] ob7 x3 x6 c1_8 c2_8 (0 : Int64) x1 x2 (0 : Int64) (0 : Int64) (0 : Int64) (0 : Int64) (0 : Int64) (0 : Int64) (0 : Int64) (0 : Int64) (0 : Int64) (0 : Int64) (0 : Int64) (0 : Int64) (0 : Int64) (8 : Int64) x4 x5 (0 : Int64) (0 : Int64) (0 : Int64) (0 : Int64) (0 : Int64) (0 : Int64) (0 : Int64) (0 : Int64) (0 : Int64) (0 : Int64) (0 : Int64) (0 : Int64) (0 : Int64) T82.heap n0 (Nat.le_trans Z0 K0.1) hp100 Eq8 Fs82 Fr82 Fp82 Vr82 Vp82 n12_8 ne1_8 ne2_8 g_ob7 g_c1_8 g_c2_8) (by decide) (by decide) (by decide) (by decide) Eq8 (g := (mkF m 100 #[.val (.long q0), .second, .val (.int p1), .val (.int p2), .val (.int p3), .val (.int p4), .val (.int p5), .val (.long x1), .second, .val (.long x2), .second, .val (.long x3), .second, .val (.long x4), .second, .val (.long x5), .second, .val (.long x6), .second, .val (.ref ob7), .unset, .unset, .unset, .unset, .unset] [(.long x6), (.long x3), (.ref ob7)])) rfl (by rw [hml]; rfl) (lenOf pd__JJ_V_315 rfl) rfl (by show 2 * 0 + _ ≤ _; exact Nat.le_of_eq rfl) (hb hby at_100) rfl ?_
        rintro v83 T83 L83 X83 ⟨rfl, N83q, hh83⟩
        have N83 := Fr.app N82 N83q
        show GG _ _ _ _ _ _ _ T83 (mkF m 103 #[.val (.long q0), .second, .val (.int p1), .val (.int p2), .val (.int p3), .val (.int p4), .val (.int p5), .val (.long x1), .second, .val (.long x2), .second, .val (.long x3), .second, .val (.long x4), .second, .val (.long x5), .second, .val (.long x6), .second, .val (.ref ob7), .unset, .unset, .unset, .unset, .unset] [])
        refine own_go (fun _ => XS.aload X83.here hx rfl (hb hby at_103) rfl rfl) ?_
        show GG _ _ _ _ _ _ _ T83 (mkF m 105 #[.val (.long q0), .second, .val (.int p1), .val (.int p2), .val (.int p3), .val (.int p4), .val (.int p5), .val (.long x1), .second, .val (.long x2), .second, .val (.long x3), .second, .val (.long x4), .second, .val (.long x5), .second, .val (.long x6), .second, .val (.ref ob7), .unset, .unset, .unset, .unset, .unset] [(.ref ob7)])
        refine own_callV X83 hx hZ (y := (⟨"com/example/obliv/obliv/io/SegmentIndex", "toArray", "()[J"⟩ : MethodName)) (z := (⟨"com/example/obliv/obliv/io/SegmentIndex", "toArray", "()[J"⟩ : MethodName)) 0 hown (hw _ (List.mem_of_getElem? (i := 35) rfl)) (hw _ (List.mem_of_getElem? (i := 36) rfl)) (notFace_of_selects (args := #[]) (mvT hZ (hw _ (List.mem_of_getElem? (i := 38) rfl)))) (hw _ (List.mem_of_getElem? (i := 38) rfl)) (hw _ (List.mem_of_getElem? (i := 37) rfl)) (hw _ (List.mem_of_getElem? (i := 6) rfl)) (hw _ (List.mem_of_getElem? (i := 39) rfl)) (by decide) (a := ob7) (argsL := []) (rest := []) (rm6_3 l Z a0 hw [] ob7 c1_8 c2_8 (0 : Int64) x1 x2 (0 : Int64) (0 : Int64) (0 : Int64) (0 : Int64) (0 : Int64) (0 : Int64) (0 : Int64) (0 : Int64) (0 : Int64) (0 : Int64) (0 : Int64) (0 : Int64) (0 : Int64) (8 : Int64) x4 x5 (0 : Int64) (0 : Int64) (0 : Int64) (0 : Int64) (0 : Int64) (0 : Int64) (0 : Int64) (0 : Int64) (0 : Int64) (0 : Int64) (0 : Int64) (0 : Int64) (0 : Int64) T82.heap n0 (Nat.le_trans Z0 K0.1) Fs82 Fr82 Fp82 Vr82 Vp82) (by decide) (by decide) (by decide) (by decide) Eq8 (g := (mkF m 105 #[.val (.long q0), .second, .val (.int p1), .val (.int p2), .val (.int p3), .val (.int p4), .val (.int p5), .val (.long x1), .second, .val (.long x2), .second, .val (.long x3), .second, .val (.long x4), .second, .val (.long x5), .second, .val (.long x6), .second, .val (.ref ob7), .unset, .unset, .unset, .unset, .unset] [(.ref ob7)])) rfl (by rw [hml]; rfl) (lenOf pd____J_246 rfl) rfl (by show 2 * 0 + _ ≤ _; exact Nat.le_of_eq rfl) (hb hby at_105) hh83 ?_
        rintro v84 T84 L84 X84 ⟨bq84, rfl, N84q, szq84, Kq84, Vq84⟩
        have N84 := Fr.app N83 N84q
        have K0 := K0.trans Kq84 all0
        have Eq8 := Eq8.keep Kq84
        have Fs82 := Fs82.keep Kq84 nin0
        have Fr82 := Fr82.keep Kq84 nin0
        have Fp82 := Fp82.keep Kq84 nin0
        have Vr82 := Vr82.keep Kq84 nin0
        have Vp82 := Vp82.keep Kq84 nin0
        show GG _ _ _ _ _ _ _ T84 (mkF m 108 #[.val (.long q0), .second, .val (.int p1), .val (.int p2), .val (.int p3), .val (.int p4), .val (.int p5), .val (.long x1), .second, .val (.long x2), .second, .val (.long x3), .second, .val (.long x4), .second, .val (.long x5), .second, .val (.long x6), .second, .val (.ref ob7), .unset, .unset, .unset, .unset, .unset] [(.ref bq84)])
        refine own_go (fun _ => XS.astore X84.here hx rfl (hb hby at_108) rfl rfl (l' := #[.val (.long q0), .second, .val (.int p1), .val (.int p2), .val (.int p3), .val (.int p4), .val (.int p5), .val (.long x1), .second, .val (.long x2), .second, .val (.long x3), .second, .val (.long x4), .second, .val (.long x5), .second, .val (.long x6), .second, .val (.ref ob7), .val (.ref bq84), .unset, .unset, .unset, .unset]) rfl) ?_
        show GG _ _ _ _ _ _ _ T84 (mkF m 110 #[.val (.long q0), .second, .val (.int p1), .val (.int p2), .val (.int p3), .val (.int p4), .val (.int p5), .val (.long x1), .second, .val (.long x2), .second, .val (.long x3), .second, .val (.long x4), .second, .val (.long x5), .second, .val (.long x6), .second, .val (.ref ob7), .val (.ref bq84), .unset, .unset, .unset, .unset] [])
        refine own_go (fun _ => XS.bipush X84.here hx rfl (hb hby at_110)) ?_
        show GG _ _ _ _ _ _ _ T84 (mkF m 112 #[.val (.long q0), .second, .val (.int p1), .val (.int p2), .val (.int p3), .val (.int p4), .val (.int p5), .val (.long x1), .second, .val (.long x2), .second, .val (.long x3), .second, .val (.long x4), .second, .val (.long x5), .second, .val (.long x6), .second, .val (.ref ob7), .val (.ref bq84), .unset, .unset, .unset, .unset] [(.int (6 : Int32))])
        obtain ⟨T85, h85, ob85, g85, X85, e85, E85, V_ob85, E_ob85, st85⟩ := own_newarr X84 hx hZ (hw _ (List.mem_of_getElem? (i := 13) rfl)) rfl (g := (mkF m 112 #[.val (.long q0), .second, .val (.int p1), .val (.int p2), .val (.int p3), .val (.int p4), .val (.int p5), .val (.long x1), .second, .val (.long x2), .second, .val (.long x3), .second, .val (.long x4), .second, .val (.long x5), .second, .val (.long x6), .second, .val (.ref ob7), .val (.ref bq84), .unset, .unset, .unset, .unset] [(.int (6 : Int32))])) rfl (hb hby at_112) rfl (by decide) (cap := 6) (by decide) (by decide) (by decide) (by decide) (ad := "[J") (by decide)
        have ne_ob7_ob85 : ob7 ≠ ob85 := Nat.ne_of_lt (Nat.lt_of_lt_of_le Eq8.lt (Nat.le_of_eq g85.symm))
        have ne_c1_8_ob85 : c1_8 ≠ ob85 := Nat.ne_of_lt (Nat.lt_of_lt_of_le Vr82.lt (Nat.le_of_eq g85.symm))
        have ne_c2_8_ob85 : c2_8 ≠ ob85 := Nat.ne_of_lt (Nat.lt_of_lt_of_le Vp82.lt (Nat.le_of_eq g85.symm))
        have ne_bq84_ob85 : bq84 ≠ ob85 := Nat.ne_of_lt (Nat.lt_of_lt_of_le Vq84.lt (Nat.le_of_eq g85.symm))
        have sz_ob85 : h0.size ≤ ob85 := Nat.le_trans K0.1 (Nat.le_of_eq g85.symm)
        have g_ob85 : n0 ≤ ob85 := Nat.le_trans Z0 sz_ob85
        have K0 := K0.ext E85
        have Eq8 := Eq8.ext E85
        have Fs82 := Fs82.ext E85
        have Fr82 := Fr82.ext E85
        have Fp82 := Fp82.ext E85
        have Vr82 := Vr82.ext E85
        have Vp82 := Vp82.ext E85
        have Vq84 := Vq84.ext E85
        have V_ob85 : Arx Z h85 ob85 .long [(.long (0 : Int64)), (.long (0 : Int64)), (.long (0 : Int64)), (.long (0 : Int64)), (.long (0 : Int64)), (.long (0 : Int64))] := V_ob85
        refine own_go (fun _ => st85 _) ?_
        show GG _ _ _ _ _ _ _ T85 (mkF m 114 #[.val (.long q0), .second, .val (.int p1), .val (.int p2), .val (.int p3), .val (.int p4), .val (.int p5), .val (.long x1), .second, .val (.long x2), .second, .val (.long x3), .second, .val (.long x4), .second, .val (.long x5), .second, .val (.long x6), .second, .val (.ref ob7), .val (.ref bq84), .unset, .unset, .unset, .unset] [(.ref ob85)])
        refine own_go (fun _ => XS.astore X85.here hx rfl (hb hby at_114) rfl rfl (l' := #[.val (.long q0), .second, .val (.int p1), .val (.int p2), .val (.int p3), .val (.int p4), .val (.int p5), .val (.long x1), .second, .val (.long x2), .second, .val (.long x3), .second, .val (.long x4), .second, .val (.long x5), .second, .val (.long x6), .second, .val (.ref ob7), .val (.ref bq84), .val (.ref ob85), .unset, .unset, .unset]) rfl) ?_
        show GG _ _ _ _ _ _ _ T85 (mkF m 116 #[.val (.long q0), .second, .val (.int p1), .val (.int p2), .val (.int p3), .val (.int p4), .val (.int p5), .val (.long x1), .second, .val (.long x2), .second, .val (.long x3), .second, .val (.long x4), .second, .val (.long x5), .second, .val (.long x6), .second, .val (.ref ob7), .val (.ref bq84), .val (.ref ob85), .unset, .unset, .unset] [])
        refine own_go (fun _ => XS.iconst X85.here hx rfl (hb hby at_116)) ?_
        show GG _ _ _ _ _ _ _ T85 (mkF m 117 #[.val (.long q0), .second, .val (.int p1), .val (.int p2), .val (.int p3), .val (.int p4), .val (.int p5), .val (.long x1), .second, .val (.long x2), .second, .val (.long x3), .second, .val (.long x4), .second, .val (.long x5), .second, .val (.long x6), .second, .val (.ref ob7), .val (.ref bq84), .val (.ref ob85), .unset, .unset, .unset] [(.int (0 : Int32))])
        refine own_go (fun _ => XS.istore X85.here hx rfl (hb hby at_117) rfl (l' := #[.val (.long q0), .second, .val (.int p1), .val (.int p2), .val (.int p3), .val (.int p4), .val (.int p5), .val (.long x1), .second, .val (.long x2), .second, .val (.long x3), .second, .val (.long x4), .second, .val (.long x5), .second, .val (.long x6), .second, .val (.ref ob7), .val (.ref bq84), .val (.ref ob85), .val (.int (0 : Int32)), .unset, .unset]) rfl) ?_
        show GG _ _ _ _ _ _ _ T85 (mkF m 119 #[.val (.long q0), .second, .val (.int p1), .val (.int p2), .val (.int p3), .val (.int p4), .val (.int p5), .val (.long x1), .second, .val (.long x2), .second, .val (.long x3), .second, .val (.long x4), .second, .val (.long x5), .second, .val (.long x6), .second, .val (.ref ob7), .val (.ref bq84), .val (.ref ob85), .val (.int (0 : Int32)), .unset, .unset] [])
        refine own_go (fun _ => X85.ldc2Long hx hown (mvT hZ (hw _ (List.mem_of_getElem? (i := 2) rfl))) (g := (mkF m 119 #[.val (.long q0), .second, .val (.int p1), .val (.int p2), .val (.int p3), .val (.int p4), .val (.int p5), .val (.long x1), .second, .val (.long x2), .second, .val (.long x3), .second, .val (.long x4), .second, .val (.long x5), .second, .val (.long x6), .second, .val (.ref ob7), .val (.ref bq84), .val (.ref ob85), .val (.int (0 : Int32)), .unset, .unset] [])) rfl (hb hby at_119) _) ?_
        show GG _ _ _ _ _ _ _ T85 (mkF m 122 #[.val (.long q0), .second, .val (.int p1), .val (.int p2), .val (.int p3), .val (.int p4), .val (.int p5), .val (.long x1), .second, .val (.long x2), .second, .val (.long x3), .second, .val (.long x4), .second, .val (.long x5), .second, .val (.long x6), .second, .val (.ref ob7), .val (.ref bq84), .val (.ref ob85), .val (.int (0 : Int32)), .unset, .unset] [(.long (8 : Int64))])
        refine own_go (fun _ => XS.lstore X85.here hx rfl (hb hby at_122) rfl (l' := #[.val (.long q0), .second, .val (.int p1), .val (.int p2), .val (.int p3), .val (.int p4), .val (.int p5), .val (.long x1), .second, .val (.long x2), .second, .val (.long x3), .second, .val (.long x4), .second, .val (.long x5), .second, .val (.long x6), .second, .val (.ref ob7), .val (.ref bq84), .val (.ref ob85), .val (.int (0 : Int32)), .val (.long (8 : Int64)), .second]) rfl) ?_
        show GG _ _ _ _ _ _ _ T85 (mkF m 124 #[.val (.long q0), .second, .val (.int p1), .val (.int p2), .val (.int p3), .val (.int p4), .val (.int p5), .val (.long x1), .second, .val (.long x2), .second, .val (.long x3), .second, .val (.long x4), .second, .val (.long x5), .second, .val (.long x6), .second, .val (.ref ob7), .val (.ref bq84), .val (.ref ob85), .val (.int (0 : Int32)), .val (.long (8 : Int64)), .second] [])
        refine own_go (fun _ => XS.lload X85.here hx rfl (hb hby at_124) rfl) ?_
        show GG _ _ _ _ _ _ _ T85 (mkF m 126 #[.val (.long q0), .second, .val (.int p1), .val (.int p2), .val (.int p3), .val (.int p4), .val (.int p5), .val (.long x1), .second, .val (.long x2), .second, .val (.long x3), .second, .val (.long x4), .second, .val (.long x5), .second, .val (.long x6), .second, .val (.ref ob7), .val (.ref bq84), .val (.ref ob85), .val (.int (0 : Int32)), .val (.long (8 : Int64)), .second] [(.long x4)])
        refine own_go (fun _ => XS.lload X85.here hx rfl (hb hby at_126) rfl) ?_
        show GG _ _ _ _ _ _ _ T85 (mkF m 128 #[.val (.long q0), .second, .val (.int p1), .val (.int p2), .val (.int p3), .val (.int p4), .val (.int p5), .val (.long x1), .second, .val (.long x2), .second, .val (.long x3), .second, .val (.long x4), .second, .val (.long x5), .second, .val (.long x6), .second, .val (.ref ob7), .val (.ref bq84), .val (.ref ob85), .val (.int (0 : Int32)), .val (.long (8 : Int64)), .second] [(.long (8 : Int64)), (.long x4)])
        refine own_go (fun _ => XS.lsub X85.here hx rfl (hb hby at_128) rfl) ?_
        show GG _ _ _ _ _ _ _ T85 (mkF m 129 #[.val (.long q0), .second, .val (.int p1), .val (.int p2), .val (.int p3), .val (.int p4), .val (.int p5), .val (.long x1), .second, .val (.long x2), .second, .val (.long x3), .second, .val (.long x4), .second, .val (.long x5), .second, .val (.long x6), .second, .val (.ref ob7), .val (.ref bq84), .val (.ref ob85), .val (.int (0 : Int32)), .val (.long (8 : Int64)), .second] [(.long (x4 - (8 : Int64)))])
        refine own_go (fun _ => X85.ldc2Long hx hown (mvT hZ (hw _ (List.mem_of_getElem? (i := 40) rfl))) (g := (mkF m 129 #[.val (.long q0), .second, .val (.int p1), .val (.int p2), .val (.int p3), .val (.int p4), .val (.int p5), .val (.long x1), .second, .val (.long x2), .second, .val (.long x3), .second, .val (.long x4), .second, .val (.long x5), .second, .val (.long x6), .second, .val (.ref ob7), .val (.ref bq84), .val (.ref ob85), .val (.int (0 : Int32)), .val (.long (8 : Int64)), .second] [(.long (x4 - (8 : Int64)))])) rfl (hb hby at_129) _) ?_
        show GG _ _ _ _ _ _ _ T85 (mkF m 132 #[.val (.long q0), .second, .val (.int p1), .val (.int p2), .val (.int p3), .val (.int p4), .val (.int p5), .val (.long x1), .second, .val (.long x2), .second, .val (.long x3), .second, .val (.long x4), .second, .val (.long x5), .second, .val (.long x6), .second, .val (.ref ob7), .val (.ref bq84), .val (.ref ob85), .val (.int (0 : Int32)), .val (.long (8 : Int64)), .second] [(.long (65536 : Int64)), (.long (x4 - (8 : Int64)))])
        refine own_go (fun _ => XS.lcmp X85.here hx rfl (hb hby at_132) rfl) ?_
        show GG _ _ _ _ _ _ _ T85 (mkF m 133 #[.val (.long q0), .second, .val (.int p1), .val (.int p2), .val (.int p3), .val (.int p4), .val (.int p5), .val (.long x1), .second, .val (.long x2), .second, .val (.long x3), .second, .val (.long x4), .second, .val (.long x5), .second, .val (.long x6), .second, .val (.ref ob7), .val (.ref bq84), .val (.ref ob85), .val (.int (0 : Int32)), .val (.long (8 : Int64)), .second] [(.int (lcmpW (x4 - (8 : Int64)) (65536 : Int64)))])
        have hc133 : ¬ ((x4 - (8 : Int64)) < (65536 : Int64)) := hp82
        refine own_go (fun _ => XS.ifNo X85.here hx rfl (hb hby at_133) rfl ((if0 _ _).trans (flt (fun q => hc133 ((lw_lt _ _).mp q))).1)) ?_
        show GG _ _ _ _ _ _ _ T85 (mkF m 136 #[.val (.long q0), .second, .val (.int p1), .val (.int p2), .val (.int p3), .val (.int p4), .val (.int p5), .val (.long x1), .second, .val (.long x2), .second, .val (.long x3), .second, .val (.long x4), .second, .val (.long x5), .second, .val (.long x6), .second, .val (.ref ob7), .val (.ref bq84), .val (.ref ob85), .val (.int (0 : Int32)), .val (.long (8 : Int64)), .second] [])
        refine own_go (fun _ => XS.aload X85.here hx rfl (hb hby at_136) rfl rfl) ?_
        show GG _ _ _ _ _ _ _ T85 (mkF m 138 #[.val (.long q0), .second, .val (.int p1), .val (.int p2), .val (.int p3), .val (.int p4), .val (.int p5), .val (.long x1), .second, .val (.long x2), .second, .val (.long x3), .second, .val (.long x4), .second, .val (.long x5), .second, .val (.long x6), .second, .val (.ref ob7), .val (.ref bq84), .val (.ref ob85), .val (.int (0 : Int32)), .val (.long (8 : Int64)), .second] [(.ref ob85)])
        refine own_go (fun _ => XS.iload X85.here hx rfl (hb hby at_138) rfl) ?_
        show GG _ _ _ _ _ _ _ T85 (mkF m 140 #[.val (.long q0), .second, .val (.int p1), .val (.int p2), .val (.int p3), .val (.int p4), .val (.int p5), .val (.long x1), .second, .val (.long x2), .second, .val (.long x3), .second, .val (.long x4), .second, .val (.long x5), .second, .val (.long x6), .second, .val (.ref ob7), .val (.ref bq84), .val (.ref ob85), .val (.int (0 : Int32)), .val (.long (8 : Int64)), .second] [(.int (0 : Int32)), (.ref ob85)])
        refine own_go (fun _ => XS.lload X85.here hx rfl (hb hby at_140) rfl) ?_
        show GG _ _ _ _ _ _ _ T85 (mkF m 142 #[.val (.long q0), .second, .val (.int p1), .val (.int p2), .val (.int p3), .val (.int p4), .val (.int p5), .val (.long x1), .second, .val (.long x2), .second, .val (.long x3), .second, .val (.long x4), .second, .val (.long x5), .second, .val (.long x6), .second, .val (.ref ob7), .val (.ref bq84), .val (.ref ob85), .val (.int (0 : Int32)), .val (.long (8 : Int64)), .second] [(.long x1), (.int (0 : Int32)), (.ref ob85)])
        obtain ⟨T86, h86, X86, e86, W86, V86, st86⟩ := own_lastore X85 hx hZ e85 V_ob85 (by decide) (Nat.le_of_ble_eq_true rfl) (g := (mkF m 142 #[.val (.long q0), .second, .val (.int p1), .val (.int p2), .val (.int p3), .val (.int p4), .val (.int p5), .val (.long x1), .second, .val (.long x2), .second, .val (.long x3), .second, .val (.long x4), .second, .val (.long x5), .second, .val (.long x6), .second, .val (.ref ob7), .val (.ref bq84), .val (.ref ob85), .val (.int (0 : Int32)), .val (.long (8 : Int64)), .second] [(.long x1), (.int (0 : Int32)), (.ref ob85)])) rfl rfl (hb hby at_142)
        have K0 := K0.wr W86 (Or.inr sz_ob85)
        have Eq8 := Eq8.wr W86
        have Fs82 := Fs82.other W86 (Or.inl ne_ob7_ob85)
        have Fr82 := Fr82.other W86 (Or.inl ne_ob7_ob85)
        have Fp82 := Fp82.other W86 (Or.inl ne_ob7_ob85)
        have Vr82 := Vr82.other W86 ne_c1_8_ob85
        have Vp82 := Vp82.other W86 ne_c2_8_ob85
        have Vq84 := Vq84.other W86 ne_bq84_ob85
        have E_ob85 := E_ob85.wr W86
        have V_ob85 : Arx Z h86 ob85 .long [(.long x1), (.long (0 : Int64)), (.long (0 : Int64)), (.long (0 : Int64)), (.long (0 : Int64)), (.long (0 : Int64))] := V86
        have N86 := Fr.snoc X86 N84 g_ob85
        refine own_go (fun _ => st86 _) ?_
        show GG _ _ _ _ _ _ _ T86 (mkF m 143 #[.val (.long q0), .second, .val (.int p1), .val (.int p2), .val (.int p3), .val (.int p4), .val (.int p5), .val (.long x1), .second, .val (.long x2), .second, .val (.long x3), .second, .val (.long x4), .second, .val (.long x5), .second, .val (.long x6), .second, .val (.ref ob7), .val (.ref bq84), .val (.ref ob85), .val (.int (0 : Int32)), .val (.long (8 : Int64)), .second] [])
        refine own_go (fun _ => XS.aload X86.here hx rfl (hb hby at_143) rfl rfl) ?_
        show GG _ _ _ _ _ _ _ T86 (mkF m 145 #[.val (.long q0), .second, .val (.int p1), .val (.int p2), .val (.int p3), .val (.int p4), .val (.int p5), .val (.long x1), .second, .val (.long x2), .second, .val (.long x3), .second, .val (.long x4), .second, .val (.long x5), .second, .val (.long x6), .second, .val (.ref ob7), .val (.ref bq84), .val (.ref ob85), .val (.int (0 : Int32)), .val (.long (8 : Int64)), .second] [(.ref ob85)])
        refine own_go (fun _ => XS.iload X86.here hx rfl (hb hby at_145) rfl) ?_
        show GG _ _ _ _ _ _ _ T86 (mkF m 147 #[.val (.long q0), .second, .val (.int p1), .val (.int p2), .val (.int p3), .val (.int p4), .val (.int p5), .val (.long x1), .second, .val (.long x2), .second, .val (.long x3), .second, .val (.long x4), .second, .val (.long x5), .second, .val (.long x6), .second, .val (.ref ob7), .val (.ref bq84), .val (.ref ob85), .val (.int (0 : Int32)), .val (.long (8 : Int64)), .second] [(.int (0 : Int32)), (.ref ob85)])
        refine own_go (fun _ => XS.iconst X86.here hx rfl (hb hby at_147)) ?_
        show GG _ _ _ _ _ _ _ T86 (mkF m 148 #[.val (.long q0), .second, .val (.int p1), .val (.int p2), .val (.int p3), .val (.int p4), .val (.int p5), .val (.long x1), .second, .val (.long x2), .second, .val (.long x3), .second, .val (.long x4), .second, .val (.long x5), .second, .val (.long x6), .second, .val (.ref ob7), .val (.ref bq84), .val (.ref ob85), .val (.int (0 : Int32)), .val (.long (8 : Int64)), .second] [(.int (1 : Int32)), (.int (0 : Int32)), (.ref ob85)])
        refine own_go (fun _ => XS.iadd X86.here hx rfl (hb hby at_148) rfl) ?_
        show GG _ _ _ _ _ _ _ T86 (mkF m 149 #[.val (.long q0), .second, .val (.int p1), .val (.int p2), .val (.int p3), .val (.int p4), .val (.int p5), .val (.long x1), .second, .val (.long x2), .second, .val (.long x3), .second, .val (.long x4), .second, .val (.long x5), .second, .val (.long x6), .second, .val (.ref ob7), .val (.ref bq84), .val (.ref ob85), .val (.int (0 : Int32)), .val (.long (8 : Int64)), .second] [(.int (1 : Int32)), (.ref ob85)])
        refine own_go (fun _ => XS.lload X86.here hx rfl (hb hby at_149) rfl) ?_
        show GG _ _ _ _ _ _ _ T86 (mkF m 151 #[.val (.long q0), .second, .val (.int p1), .val (.int p2), .val (.int p3), .val (.int p4), .val (.int p5), .val (.long x1), .second, .val (.long x2), .second, .val (.long x3), .second, .val (.long x4), .second, .val (.long x5), .second, .val (.long x6), .second, .val (.ref ob7), .val (.ref bq84), .val (.ref ob85), .val (.int (0 : Int32)), .val (.long (8 : Int64)), .second] [(.long x4), (.int (1 : Int32)), (.ref ob85)])
        obtain ⟨T87, h87, X87, e87, W87, V87, st87⟩ := own_lastore X86 hx hZ e86 V_ob85 (by decide) (Nat.le_of_ble_eq_true rfl) (g := (mkF m 151 #[.val (.long q0), .second, .val (.int p1), .val (.int p2), .val (.int p3), .val (.int p4), .val (.int p5), .val (.long x1), .second, .val (.long x2), .second, .val (.long x3), .second, .val (.long x4), .second, .val (.long x5), .second, .val (.long x6), .second, .val (.ref ob7), .val (.ref bq84), .val (.ref ob85), .val (.int (0 : Int32)), .val (.long (8 : Int64)), .second] [(.long x4), (.int (1 : Int32)), (.ref ob85)])) rfl rfl (hb hby at_151)
        have K0 := K0.wr W87 (Or.inr sz_ob85)
        have Eq8 := Eq8.wr W87
        have Fs82 := Fs82.other W87 (Or.inl ne_ob7_ob85)
        have Fr82 := Fr82.other W87 (Or.inl ne_ob7_ob85)
        have Fp82 := Fp82.other W87 (Or.inl ne_ob7_ob85)
        have Vr82 := Vr82.other W87 ne_c1_8_ob85
        have Vp82 := Vp82.other W87 ne_c2_8_ob85
        have Vq84 := Vq84.other W87 ne_bq84_ob85
        have E_ob85 := E_ob85.wr W87
        have V_ob85 : Arx Z h87 ob85 .long [(.long x1), (.long x4), (.long (0 : Int64)), (.long (0 : Int64)), (.long (0 : Int64)), (.long (0 : Int64))] := V87
        have N87 := Fr.snoc X87 N86 g_ob85
        refine own_go (fun _ => st87 _) ?_
        show GG _ _ _ _ _ _ _ T87 (mkF m 152 #[.val (.long q0), .second, .val (.int p1), .val (.int p2), .val (.int p3), .val (.int p4), .val (.int p5), .val (.long x1), .second, .val (.long x2), .second, .val (.long x3), .second, .val (.long x4), .second, .val (.long x5), .second, .val (.long x6), .second, .val (.ref ob7), .val (.ref bq84), .val (.ref ob85), .val (.int (0 : Int32)), .val (.long (8 : Int64)), .second] [])
        refine own_go (fun _ => XS.iload X87.here hx rfl (hb hby at_152) rfl) ?_
        show GG _ _ _ _ _ _ _ T87 (mkF m 154 #[.val (.long q0), .second, .val (.int p1), .val (.int p2), .val (.int p3), .val (.int p4), .val (.int p5), .val (.long x1), .second, .val (.long x2), .second, .val (.long x3), .second, .val (.long x4), .second, .val (.long x5), .second, .val (.long x6), .second, .val (.ref ob7), .val (.ref bq84), .val (.ref ob85), .val (.int (0 : Int32)), .val (.long (8 : Int64)), .second] [(.int (0 : Int32))])
        refine own_go (fun _ => XS.iconst X87.here hx rfl (hb hby at_154)) ?_
        show GG _ _ _ _ _ _ _ T87 (mkF m 155 #[.val (.long q0), .second, .val (.int p1), .val (.int p2), .val (.int p3), .val (.int p4), .val (.int p5), .val (.long x1), .second, .val (.long x2), .second, .val (.long x3), .second, .val (.long x4), .second, .val (.long x5), .second, .val (.long x6), .second, .val (.ref ob7), .val (.ref bq84), .val (.ref ob85), .val (.int (0 : Int32)), .val (.long (8 : Int64)), .second] [(.int (2 : Int32)), (.int (0 : Int32))])
        refine own_go (fun _ => XS.iadd X87.here hx rfl (hb hby at_155) rfl) ?_
        show GG _ _ _ _ _ _ _ T87 (mkF m 156 #[.val (.long q0), .second, .val (.int p1), .val (.int p2), .val (.int p3), .val (.int p4), .val (.int p5), .val (.long x1), .second, .val (.long x2), .second, .val (.long x3), .second, .val (.long x4), .second, .val (.long x5), .second, .val (.long x6), .second, .val (.ref ob7), .val (.ref bq84), .val (.ref ob85), .val (.int (0 : Int32)), .val (.long (8 : Int64)), .second] [(.int (2 : Int32))])
        refine own_go (fun _ => XS.istore X87.here hx rfl (hb hby at_156) rfl (l' := #[.val (.long q0), .second, .val (.int p1), .val (.int p2), .val (.int p3), .val (.int p4), .val (.int p5), .val (.long x1), .second, .val (.long x2), .second, .val (.long x3), .second, .val (.long x4), .second, .val (.long x5), .second, .val (.long x6), .second, .val (.ref ob7), .val (.ref bq84), .val (.ref ob85), .val (.int (2 : Int32)), .val (.long (8 : Int64)), .second]) rfl) ?_
        show GG _ _ _ _ _ _ _ T87 (mkF m 158 #[.val (.long q0), .second, .val (.int p1), .val (.int p2), .val (.int p3), .val (.int p4), .val (.int p5), .val (.long x1), .second, .val (.long x2), .second, .val (.long x3), .second, .val (.long x4), .second, .val (.long x5), .second, .val (.long x6), .second, .val (.ref ob7), .val (.ref bq84), .val (.ref ob85), .val (.int (2 : Int32)), .val (.long (8 : Int64)), .second] [])
        refine own_go (fun _ => XS.lload X87.here hx rfl (hb hby at_158) rfl) ?_
        show GG _ _ _ _ _ _ _ T87 (mkF m 160 #[.val (.long q0), .second, .val (.int p1), .val (.int p2), .val (.int p3), .val (.int p4), .val (.int p5), .val (.long x1), .second, .val (.long x2), .second, .val (.long x3), .second, .val (.long x4), .second, .val (.long x5), .second, .val (.long x6), .second, .val (.ref ob7), .val (.ref bq84), .val (.ref ob85), .val (.int (2 : Int32)), .val (.long (8 : Int64)), .second] [(.long x4)])
        refine own_go (fun _ => XS.lstore X87.here hx rfl (hb hby at_160) rfl (l' := #[.val (.long q0), .second, .val (.int p1), .val (.int p2), .val (.int p3), .val (.int p4), .val (.int p5), .val (.long x1), .second, .val (.long x2), .second, .val (.long x3), .second, .val (.long x4), .second, .val (.long x5), .second, .val (.long x6), .second, .val (.ref ob7), .val (.ref bq84), .val (.ref ob85), .val (.int (2 : Int32)), .val (.long x4), .second]) rfl) ?_
        show GG _ _ _ _ _ _ _ T87 (mkF m 162 #[.val (.long q0), .second, .val (.int p1), .val (.int p2), .val (.int p3), .val (.int p4), .val (.int p5), .val (.long x1), .second, .val (.long x2), .second, .val (.long x3), .second, .val (.long x4), .second, .val (.long x5), .second, .val (.long x6), .second, .val (.ref ob7), .val (.ref bq84), .val (.ref ob85), .val (.int (2 : Int32)), .val (.long x4), .second] [])
        refine own_go (fun _ => XS.lload X87.here hx rfl (hb hby at_162) rfl) ?_
        show GG _ _ _ _ _ _ _ T87 (mkF m 164 #[.val (.long q0), .second, .val (.int p1), .val (.int p2), .val (.int p3), .val (.int p4), .val (.int p5), .val (.long x1), .second, .val (.long x2), .second, .val (.long x3), .second, .val (.long x4), .second, .val (.long x5), .second, .val (.long x6), .second, .val (.ref ob7), .val (.ref bq84), .val (.ref ob85), .val (.int (2 : Int32)), .val (.long x4), .second] [(.long x5)])
        refine own_go (fun _ => XS.lload X87.here hx rfl (hb hby at_164) rfl) ?_
        show GG _ _ _ _ _ _ _ T87 (mkF m 166 #[.val (.long q0), .second, .val (.int p1), .val (.int p2), .val (.int p3), .val (.int p4), .val (.int p5), .val (.long x1), .second, .val (.long x2), .second, .val (.long x3), .second, .val (.long x4), .second, .val (.long x5), .second, .val (.long x6), .second, .val (.ref ob7), .val (.ref bq84), .val (.ref ob85), .val (.int (2 : Int32)), .val (.long x4), .second] [(.long x4), (.long x5)])
        refine own_go (fun _ => XS.lsub X87.here hx rfl (hb hby at_166) rfl) ?_
        show GG _ _ _ _ _ _ _ T87 (mkF m 167 #[.val (.long q0), .second, .val (.int p1), .val (.int p2), .val (.int p3), .val (.int p4), .val (.int p5), .val (.long x1), .second, .val (.long x2), .second, .val (.long x3), .second, .val (.long x4), .second, .val (.long x5), .second, .val (.long x6), .second, .val (.ref ob7), .val (.ref bq84), .val (.ref ob85), .val (.int (2 : Int32)), .val (.long x4), .second] [(.long (x5 - x4))])
        refine own_go (fun _ => X87.ldc2Long hx hown (mvT hZ (hw _ (List.mem_of_getElem? (i := 40) rfl))) (g := (mkF m 167 #[.val (.long q0), .second, .val (.int p1), .val (.int p2), .val (.int p3), .val (.int p4), .val (.int p5), .val (.long x1), .second, .val (.long x2), .second, .val (.long x3), .second, .val (.long x4), .second, .val (.long x5), .second, .val (.long x6), .second, .val (.ref ob7), .val (.ref bq84), .val (.ref ob85), .val (.int (2 : Int32)), .val (.long x4), .second] [(.long (x5 - x4))])) rfl (hb hby at_167) _) ?_
        show GG _ _ _ _ _ _ _ T87 (mkF m 170 #[.val (.long q0), .second, .val (.int p1), .val (.int p2), .val (.int p3), .val (.int p4), .val (.int p5), .val (.long x1), .second, .val (.long x2), .second, .val (.long x3), .second, .val (.long x4), .second, .val (.long x5), .second, .val (.long x6), .second, .val (.ref ob7), .val (.ref bq84), .val (.ref ob85), .val (.int (2 : Int32)), .val (.long x4), .second] [(.long (65536 : Int64)), (.long (x5 - x4))])
        refine own_go (fun _ => XS.lcmp X87.here hx rfl (hb hby at_170) rfl) ?_
        show GG _ _ _ _ _ _ _ T87 (mkF m 171 #[.val (.long q0), .second, .val (.int p1), .val (.int p2), .val (.int p3), .val (.int p4), .val (.int p5), .val (.long x1), .second, .val (.long x2), .second, .val (.long x3), .second, .val (.long x4), .second, .val (.long x5), .second, .val (.long x6), .second, .val (.ref ob7), .val (.ref bq84), .val (.ref ob85), .val (.int (2 : Int32)), .val (.long x4), .second] [(.int (lcmpW (x5 - x4) (65536 : Int64)))])
        have hc171 : ¬ ((x5 - x4) < (65536 : Int64)) := hp91
        refine own_go (fun _ => XS.ifNo X87.here hx rfl (hb hby at_171) rfl ((if0 _ _).trans (flt (fun q => hc171 ((lw_lt _ _).mp q))).1)) ?_
        show GG _ _ _ _ _ _ _ T87 (mkF m 174 #[.val (.long q0), .second, .val (.int p1), .val (.int p2), .val (.int p3), .val (.int p4), .val (.int p5), .val (.long x1), .second, .val (.long x2), .second, .val (.long x3), .second, .val (.long x4), .second, .val (.long x5), .second, .val (.long x6), .second, .val (.ref ob7), .val (.ref bq84), .val (.ref ob85), .val (.int (2 : Int32)), .val (.long x4), .second] [])
        refine own_go (fun _ => XS.aload X87.here hx rfl (hb hby at_174) rfl rfl) ?_
        show GG _ _ _ _ _ _ _ T87 (mkF m 176 #[.val (.long q0), .second, .val (.int p1), .val (.int p2), .val (.int p3), .val (.int p4), .val (.int p5), .val (.long x1), .second, .val (.long x2), .second, .val (.long x3), .second, .val (.long x4), .second, .val (.long x5), .second, .val (.long x6), .second, .val (.ref ob7), .val (.ref bq84), .val (.ref ob85), .val (.int (2 : Int32)), .val (.long x4), .second] [(.ref ob85)])
        refine own_go (fun _ => XS.iload X87.here hx rfl (hb hby at_176) rfl) ?_
        show GG _ _ _ _ _ _ _ T87 (mkF m 178 #[.val (.long q0), .second, .val (.int p1), .val (.int p2), .val (.int p3), .val (.int p4), .val (.int p5), .val (.long x1), .second, .val (.long x2), .second, .val (.long x3), .second, .val (.long x4), .second, .val (.long x5), .second, .val (.long x6), .second, .val (.ref ob7), .val (.ref bq84), .val (.ref ob85), .val (.int (2 : Int32)), .val (.long x4), .second] [(.int (2 : Int32)), (.ref ob85)])
        refine own_go (fun _ => XS.lload X87.here hx rfl (hb hby at_178) rfl) ?_
        show GG _ _ _ _ _ _ _ T87 (mkF m 180 #[.val (.long q0), .second, .val (.int p1), .val (.int p2), .val (.int p3), .val (.int p4), .val (.int p5), .val (.long x1), .second, .val (.long x2), .second, .val (.long x3), .second, .val (.long x4), .second, .val (.long x5), .second, .val (.long x6), .second, .val (.ref ob7), .val (.ref bq84), .val (.ref ob85), .val (.int (2 : Int32)), .val (.long x4), .second] [(.long x2), (.int (2 : Int32)), (.ref ob85)])
        obtain ⟨T88, h88, X88, e88, W88, V88, st88⟩ := own_lastore X87 hx hZ e87 V_ob85 (by decide) (Nat.le_of_ble_eq_true rfl) (g := (mkF m 180 #[.val (.long q0), .second, .val (.int p1), .val (.int p2), .val (.int p3), .val (.int p4), .val (.int p5), .val (.long x1), .second, .val (.long x2), .second, .val (.long x3), .second, .val (.long x4), .second, .val (.long x5), .second, .val (.long x6), .second, .val (.ref ob7), .val (.ref bq84), .val (.ref ob85), .val (.int (2 : Int32)), .val (.long x4), .second] [(.long x2), (.int (2 : Int32)), (.ref ob85)])) rfl rfl (hb hby at_180)
        have K0 := K0.wr W88 (Or.inr sz_ob85)
        have Eq8 := Eq8.wr W88
        have Fs82 := Fs82.other W88 (Or.inl ne_ob7_ob85)
        have Fr82 := Fr82.other W88 (Or.inl ne_ob7_ob85)
        have Fp82 := Fp82.other W88 (Or.inl ne_ob7_ob85)
        have Vr82 := Vr82.other W88 ne_c1_8_ob85
        have Vp82 := Vp82.other W88 ne_c2_8_ob85
        have Vq84 := Vq84.other W88 ne_bq84_ob85
        have E_ob85 := E_ob85.wr W88
        have V_ob85 : Arx Z h88 ob85 .long [(.long x1), (.long x4), (.long x2), (.long (0 : Int64)), (.long (0 : Int64)), (.long (0 : Int64))] := V88
        have N88 := Fr.snoc X88 N87 g_ob85
        refine own_go (fun _ => st88 _) ?_
        show GG _ _ _ _ _ _ _ T88 (mkF m 181 #[.val (.long q0), .second, .val (.int p1), .val (.int p2), .val (.int p3), .val (.int p4), .val (.int p5), .val (.long x1), .second, .val (.long x2), .second, .val (.long x3), .second, .val (.long x4), .second, .val (.long x5), .second, .val (.long x6), .second, .val (.ref ob7), .val (.ref bq84), .val (.ref ob85), .val (.int (2 : Int32)), .val (.long x4), .second] [])
        refine own_go (fun _ => XS.aload X88.here hx rfl (hb hby at_181) rfl rfl) ?_
        show GG _ _ _ _ _ _ _ T88 (mkF m 183 #[.val (.long q0), .second, .val (.int p1), .val (.int p2), .val (.int p3), .val (.int p4), .val (.int p5), .val (.long x1), .second, .val (.long x2), .second, .val (.long x3), .second, .val (.long x4), .second, .val (.long x5), .second, .val (.long x6), .second, .val (.ref ob7), .val (.ref bq84), .val (.ref ob85), .val (.int (2 : Int32)), .val (.long x4), .second] [(.ref ob85)])
        refine own_go (fun _ => XS.iload X88.here hx rfl (hb hby at_183) rfl) ?_
        show GG _ _ _ _ _ _ _ T88 (mkF m 185 #[.val (.long q0), .second, .val (.int p1), .val (.int p2), .val (.int p3), .val (.int p4), .val (.int p5), .val (.long x1), .second, .val (.long x2), .second, .val (.long x3), .second, .val (.long x4), .second, .val (.long x5), .second, .val (.long x6), .second, .val (.ref ob7), .val (.ref bq84), .val (.ref ob85), .val (.int (2 : Int32)), .val (.long x4), .second] [(.int (2 : Int32)), (.ref ob85)])
        refine own_go (fun _ => XS.iconst X88.here hx rfl (hb hby at_185)) ?_
        show GG _ _ _ _ _ _ _ T88 (mkF m 186 #[.val (.long q0), .second, .val (.int p1), .val (.int p2), .val (.int p3), .val (.int p4), .val (.int p5), .val (.long x1), .second, .val (.long x2), .second, .val (.long x3), .second, .val (.long x4), .second, .val (.long x5), .second, .val (.long x6), .second, .val (.ref ob7), .val (.ref bq84), .val (.ref ob85), .val (.int (2 : Int32)), .val (.long x4), .second] [(.int (1 : Int32)), (.int (2 : Int32)), (.ref ob85)])
        refine own_go (fun _ => XS.iadd X88.here hx rfl (hb hby at_186) rfl) ?_
        show GG _ _ _ _ _ _ _ T88 (mkF m 187 #[.val (.long q0), .second, .val (.int p1), .val (.int p2), .val (.int p3), .val (.int p4), .val (.int p5), .val (.long x1), .second, .val (.long x2), .second, .val (.long x3), .second, .val (.long x4), .second, .val (.long x5), .second, .val (.long x6), .second, .val (.ref ob7), .val (.ref bq84), .val (.ref ob85), .val (.int (2 : Int32)), .val (.long x4), .second] [(.int (3 : Int32)), (.ref ob85)])
        refine own_go (fun _ => XS.lload X88.here hx rfl (hb hby at_187) rfl) ?_
        show GG _ _ _ _ _ _ _ T88 (mkF m 189 #[.val (.long q0), .second, .val (.int p1), .val (.int p2), .val (.int p3), .val (.int p4), .val (.int p5), .val (.long x1), .second, .val (.long x2), .second, .val (.long x3), .second, .val (.long x4), .second, .val (.long x5), .second, .val (.long x6), .second, .val (.ref ob7), .val (.ref bq84), .val (.ref ob85), .val (.int (2 : Int32)), .val (.long x4), .second] [(.long x5), (.int (3 : Int32)), (.ref ob85)])
        obtain ⟨T89, h89, X89, e89, W89, V89, st89⟩ := own_lastore X88 hx hZ e88 V_ob85 (by decide) (Nat.le_of_ble_eq_true rfl) (g := (mkF m 189 #[.val (.long q0), .second, .val (.int p1), .val (.int p2), .val (.int p3), .val (.int p4), .val (.int p5), .val (.long x1), .second, .val (.long x2), .second, .val (.long x3), .second, .val (.long x4), .second, .val (.long x5), .second, .val (.long x6), .second, .val (.ref ob7), .val (.ref bq84), .val (.ref ob85), .val (.int (2 : Int32)), .val (.long x4), .second] [(.long x5), (.int (3 : Int32)), (.ref ob85)])) rfl rfl (hb hby at_189)
        have K0 := K0.wr W89 (Or.inr sz_ob85)
        have Eq8 := Eq8.wr W89
        have Fs82 := Fs82.other W89 (Or.inl ne_ob7_ob85)
        have Fr82 := Fr82.other W89 (Or.inl ne_ob7_ob85)
        have Fp82 := Fp82.other W89 (Or.inl ne_ob7_ob85)
        have Vr82 := Vr82.other W89 ne_c1_8_ob85
        have Vp82 := Vp82.other W89 ne_c2_8_ob85
        have Vq84 := Vq84.other W89 ne_bq84_ob85
        have E_ob85 := E_ob85.wr W89
        have V_ob85 : Arx Z h89 ob85 .long [(.long x1), (.long x4), (.long x2), (.long x5), (.long (0 : Int64)), (.long (0 : Int64))] := V89
        have N89 := Fr.snoc X89 N88 g_ob85
        refine own_go (fun _ => st89 _) ?_
        show GG _ _ _ _ _ _ _ T89 (mkF m 190 #[.val (.long q0), .second, .val (.int p1), .val (.int p2), .val (.int p3), .val (.int p4), .val (.int p5), .val (.long x1), .second, .val (.long x2), .second, .val (.long x3), .second, .val (.long x4), .second, .val (.long x5), .second, .val (.long x6), .second, .val (.ref ob7), .val (.ref bq84), .val (.ref ob85), .val (.int (2 : Int32)), .val (.long x4), .second] [])
        refine own_go (fun _ => XS.iload X89.here hx rfl (hb hby at_190) rfl) ?_
        show GG _ _ _ _ _ _ _ T89 (mkF m 192 #[.val (.long q0), .second, .val (.int p1), .val (.int p2), .val (.int p3), .val (.int p4), .val (.int p5), .val (.long x1), .second, .val (.long x2), .second, .val (.long x3), .second, .val (.long x4), .second, .val (.long x5), .second, .val (.long x6), .second, .val (.ref ob7), .val (.ref bq84), .val (.ref ob85), .val (.int (2 : Int32)), .val (.long x4), .second] [(.int (2 : Int32))])
        refine own_go (fun _ => XS.iconst X89.here hx rfl (hb hby at_192)) ?_
        show GG _ _ _ _ _ _ _ T89 (mkF m 193 #[.val (.long q0), .second, .val (.int p1), .val (.int p2), .val (.int p3), .val (.int p4), .val (.int p5), .val (.long x1), .second, .val (.long x2), .second, .val (.long x3), .second, .val (.long x4), .second, .val (.long x5), .second, .val (.long x6), .second, .val (.ref ob7), .val (.ref bq84), .val (.ref ob85), .val (.int (2 : Int32)), .val (.long x4), .second] [(.int (2 : Int32)), (.int (2 : Int32))])
        refine own_go (fun _ => XS.iadd X89.here hx rfl (hb hby at_193) rfl) ?_
        show GG _ _ _ _ _ _ _ T89 (mkF m 194 #[.val (.long q0), .second, .val (.int p1), .val (.int p2), .val (.int p3), .val (.int p4), .val (.int p5), .val (.long x1), .second, .val (.long x2), .second, .val (.long x3), .second, .val (.long x4), .second, .val (.long x5), .second, .val (.long x6), .second, .val (.ref ob7), .val (.ref bq84), .val (.ref ob85), .val (.int (2 : Int32)), .val (.long x4), .second] [(.int (4 : Int32))])
        refine own_go (fun _ => XS.istore X89.here hx rfl (hb hby at_194) rfl (l' := #[.val (.long q0), .second, .val (.int p1), .val (.int p2), .val (.int p3), .val (.int p4), .val (.int p5), .val (.long x1), .second, .val (.long x2), .second, .val (.long x3), .second, .val (.long x4), .second, .val (.long x5), .second, .val (.long x6), .second, .val (.ref ob7), .val (.ref bq84), .val (.ref ob85), .val (.int (4 : Int32)), .val (.long x4), .second]) rfl) ?_
        show GG _ _ _ _ _ _ _ T89 (mkF m 196 #[.val (.long q0), .second, .val (.int p1), .val (.int p2), .val (.int p3), .val (.int p4), .val (.int p5), .val (.long x1), .second, .val (.long x2), .second, .val (.long x3), .second, .val (.long x4), .second, .val (.long x5), .second, .val (.long x6), .second, .val (.ref ob7), .val (.ref bq84), .val (.ref ob85), .val (.int (4 : Int32)), .val (.long x4), .second] [])
        refine own_go (fun _ => XS.lload X89.here hx rfl (hb hby at_196) rfl) ?_
        show GG _ _ _ _ _ _ _ T89 (mkF m 198 #[.val (.long q0), .second, .val (.int p1), .val (.int p2), .val (.int p3), .val (.int p4), .val (.int p5), .val (.long x1), .second, .val (.long x2), .second, .val (.long x3), .second, .val (.long x4), .second, .val (.long x5), .second, .val (.long x6), .second, .val (.ref ob7), .val (.ref bq84), .val (.ref ob85), .val (.int (4 : Int32)), .val (.long x4), .second] [(.long x5)])
        refine own_go (fun _ => XS.lstore X89.here hx rfl (hb hby at_198) rfl (l' := #[.val (.long q0), .second, .val (.int p1), .val (.int p2), .val (.int p3), .val (.int p4), .val (.int p5), .val (.long x1), .second, .val (.long x2), .second, .val (.long x3), .second, .val (.long x4), .second, .val (.long x5), .second, .val (.long x6), .second, .val (.ref ob7), .val (.ref bq84), .val (.ref ob85), .val (.int (4 : Int32)), .val (.long x5), .second]) rfl) ?_
        show GG _ _ _ _ _ _ _ T89 (mkF m 200 #[.val (.long q0), .second, .val (.int p1), .val (.int p2), .val (.int p3), .val (.int p4), .val (.int p5), .val (.long x1), .second, .val (.long x2), .second, .val (.long x3), .second, .val (.long x4), .second, .val (.long x5), .second, .val (.long x6), .second, .val (.ref ob7), .val (.ref bq84), .val (.ref ob85), .val (.int (4 : Int32)), .val (.long x5), .second] [])
        refine own_go (fun _ => XS.lload X89.here hx rfl (hb hby at_200) rfl) ?_
        show GG _ _ _ _ _ _ _ T89 (mkF m 202 #[.val (.long q0), .second, .val (.int p1), .val (.int p2), .val (.int p3), .val (.int p4), .val (.int p5), .val (.long x1), .second, .val (.long x2), .second, .val (.long x3), .second, .val (.long x4), .second, .val (.long x5), .second, .val (.long x6), .second, .val (.ref ob7), .val (.ref bq84), .val (.ref ob85), .val (.int (4 : Int32)), .val (.long x5), .second] [(.long x6)])
        refine own_go (fun _ => XS.lload X89.here hx rfl (hb hby at_202) rfl) ?_
        show GG _ _ _ _ _ _ _ T89 (mkF m 204 #[.val (.long q0), .second, .val (.int p1), .val (.int p2), .val (.int p3), .val (.int p4), .val (.int p5), .val (.long x1), .second, .val (.long x2), .second, .val (.long x3), .second, .val (.long x4), .second, .val (.long x5), .second, .val (.long x6), .second, .val (.ref ob7), .val (.ref bq84), .val (.ref ob85), .val (.int (4 : Int32)), .val (.long x5), .second] [(.long x5), (.long x6)])
        refine own_go (fun _ => XS.lsub X89.here hx rfl (hb hby at_204) rfl) ?_
        show GG _ _ _ _ _ _ _ T89 (mkF m 205 #[.val (.long q0), .second, .val (.int p1), .val (.int p2), .val (.int p3), .val (.int p4), .val (.int p5), .val (.long x1), .second, .val (.long x2), .second, .val (.long x3), .second, .val (.long x4), .second, .val (.long x5), .second, .val (.long x6), .second, .val (.ref ob7), .val (.ref bq84), .val (.ref ob85), .val (.int (4 : Int32)), .val (.long x5), .second] [(.long (x6 - x5))])
        refine own_go (fun _ => X89.ldc2Long hx hown (mvT hZ (hw _ (List.mem_of_getElem? (i := 40) rfl))) (g := (mkF m 205 #[.val (.long q0), .second, .val (.int p1), .val (.int p2), .val (.int p3), .val (.int p4), .val (.int p5), .val (.long x1), .second, .val (.long x2), .second, .val (.long x3), .second, .val (.long x4), .second, .val (.long x5), .second, .val (.long x6), .second, .val (.ref ob7), .val (.ref bq84), .val (.ref ob85), .val (.int (4 : Int32)), .val (.long x5), .second] [(.long (x6 - x5))])) rfl (hb hby at_205) _) ?_
        show GG _ _ _ _ _ _ _ T89 (mkF m 208 #[.val (.long q0), .second, .val (.int p1), .val (.int p2), .val (.int p3), .val (.int p4), .val (.int p5), .val (.long x1), .second, .val (.long x2), .second, .val (.long x3), .second, .val (.long x4), .second, .val (.long x5), .second, .val (.long x6), .second, .val (.ref ob7), .val (.ref bq84), .val (.ref ob85), .val (.int (4 : Int32)), .val (.long x5), .second] [(.long (65536 : Int64)), (.long (x6 - x5))])
        refine own_go (fun _ => XS.lcmp X89.here hx rfl (hb hby at_208) rfl) ?_
        show GG _ _ _ _ _ _ _ T89 (mkF m 209 #[.val (.long q0), .second, .val (.int p1), .val (.int p2), .val (.int p3), .val (.int p4), .val (.int p5), .val (.long x1), .second, .val (.long x2), .second, .val (.long x3), .second, .val (.long x4), .second, .val (.long x5), .second, .val (.long x6), .second, .val (.ref ob7), .val (.ref bq84), .val (.ref ob85), .val (.int (4 : Int32)), .val (.long x5), .second] [(.int (lcmpW (x6 - x5) (65536 : Int64)))])
        have hc209 : (x6 - x5) < (65536 : Int64) := hp100
        refine own_go (fun _ => XS.ifYes X89.here hx rfl (pc0 := 209) (pc' := 238) rfl (hb hby at_209) rfl ((if0 _ _).trans (tlt ((lw_lt _ _).mpr hc209)).1) (by decide) (by decide)) ?_
        show GG _ _ _ _ _ _ _ T89 (mkF m 238 #[.val (.long q0), .second, .val (.int p1), .val (.int p2), .val (.int p3), .val (.int p4), .val (.int p5), .val (.long x1), .second, .val (.long x2), .second, .val (.long x3), .second, .val (.long x4), .second, .val (.long x5), .second, .val (.long x6), .second, .val (.ref ob7), .val (.ref bq84), .val (.ref ob85), .val (.int (4 : Int32)), .val (.long x5), .second] [])
        refine own_go (fun _ => XS.aload X89.here hx rfl (hb hby at_238) rfl rfl) ?_
        show GG _ _ _ _ _ _ _ T89 (mkF m 240 #[.val (.long q0), .second, .val (.int p1), .val (.int p2), .val (.int p3), .val (.int p4), .val (.int p5), .val (.long x1), .second, .val (.long x2), .second, .val (.long x3), .second, .val (.long x4), .second, .val (.long x5), .second, .val (.long x6), .second, .val (.ref ob7), .val (.ref bq84), .val (.ref ob85), .val (.int (4 : Int32)), .val (.long x5), .second] [(.ref bq84)])
        refine own_go (fun _ => own_len X89 hx hZ e89 Vq84 (g := (mkF m 240 #[.val (.long q0), .second, .val (.int p1), .val (.int p2), .val (.int p3), .val (.int p4), .val (.int p5), .val (.long x1), .second, .val (.long x2), .second, .val (.long x3), .second, .val (.long x4), .second, .val (.long x5), .second, .val (.long x6), .second, .val (.ref ob7), .val (.ref bq84), .val (.ref ob85), .val (.int (4 : Int32)), .val (.long x5), .second] [(.ref bq84)])) rfl rfl (hb hby at_240) _) ?_
        show GG _ _ _ _ _ _ _ T89 (mkF m 241 #[.val (.long q0), .second, .val (.int p1), .val (.int p2), .val (.int p3), .val (.int p4), .val (.int p5), .val (.long x1), .second, .val (.long x2), .second, .val (.long x3), .second, .val (.long x4), .second, .val (.long x5), .second, .val (.long x6), .second, .val (.ref ob7), .val (.ref bq84), .val (.ref ob85), .val (.int (4 : Int32)), .val (.long x5), .second] [(.int (4 : Int32))])
        refine own_go (fun _ => XS.iload X89.here hx rfl (hb hby at_241) rfl) ?_
        show GG _ _ _ _ _ _ _ T89 (mkF m 243 #[.val (.long q0), .second, .val (.int p1), .val (.int p2), .val (.int p3), .val (.int p4), .val (.int p5), .val (.long x1), .second, .val (.long x2), .second, .val (.long x3), .second, .val (.long x4), .second, .val (.long x5), .second, .val (.long x6), .second, .val (.ref ob7), .val (.ref bq84), .val (.ref ob85), .val (.int (4 : Int32)), .val (.long x5), .second] [(.int (4 : Int32)), (.int (4 : Int32))])
        have hc243 : (4 : Int32) = (4 : Int32) := by decide
        refine own_go (fun _ => XS.icmpNo X89.here hx rfl (hb hby at_243) rfl (teq hc243).2) ?_
        show GG _ _ _ _ _ _ _ T89 (mkF m 246 #[.val (.long q0), .second, .val (.int p1), .val (.int p2), .val (.int p3), .val (.int p4), .val (.int p5), .val (.long x1), .second, .val (.long x2), .second, .val (.long x3), .second, .val (.long x4), .second, .val (.long x5), .second, .val (.long x6), .second, .val (.ref ob7), .val (.ref bq84), .val (.ref ob85), .val (.int (4 : Int32)), .val (.long x5), .second] [])
        refine own_go (fun _ => XS.aload X89.here hx rfl (hb hby at_246) rfl rfl) ?_
        show GG _ _ _ _ _ _ _ T89 (mkF m 248 #[.val (.long q0), .second, .val (.int p1), .val (.int p2), .val (.int p3), .val (.int p4), .val (.int p5), .val (.long x1), .second, .val (.long x2), .second, .val (.long x3), .second, .val (.long x4), .second, .val (.long x5), .second, .val (.long x6), .second, .val (.ref ob7), .val (.ref bq84), .val (.ref ob85), .val (.int (4 : Int32)), .val (.long x5), .second] [(.ref bq84)])
        refine own_go (fun _ => XS.aload X89.here hx rfl (hb hby at_248) rfl rfl) ?_
        show GG _ _ _ _ _ _ _ T89 (mkF m 250 #[.val (.long q0), .second, .val (.int p1), .val (.int p2), .val (.int p3), .val (.int p4), .val (.int p5), .val (.long x1), .second, .val (.long x2), .second, .val (.long x3), .second, .val (.long x4), .second, .val (.long x5), .second, .val (.long x6), .second, .val (.ref ob7), .val (.ref bq84), .val (.ref ob85), .val (.int (4 : Int32)), .val (.long x5), .second] [(.ref ob85), (.ref bq84)])
        refine own_go (fun _ => XS.iconst X89.here hx rfl (hb hby at_250)) ?_
        show GG _ _ _ _ _ _ _ T89 (mkF m 251 #[.val (.long q0), .second, .val (.int p1), .val (.int p2), .val (.int p3), .val (.int p4), .val (.int p5), .val (.long x1), .second, .val (.long x2), .second, .val (.long x3), .second, .val (.long x4), .second, .val (.long x5), .second, .val (.long x6), .second, .val (.ref ob7), .val (.ref bq84), .val (.ref ob85), .val (.int (4 : Int32)), .val (.long x5), .second] [(.int (0 : Int32)), (.ref ob85), (.ref bq84)])
        refine own_go (fun _ => XS.iload X89.here hx rfl (hb hby at_251) rfl) ?_
        show GG _ _ _ _ _ _ _ T89 (mkF m 253 #[.val (.long q0), .second, .val (.int p1), .val (.int p2), .val (.int p3), .val (.int p4), .val (.int p5), .val (.long x1), .second, .val (.long x2), .second, .val (.long x3), .second, .val (.long x4), .second, .val (.long x5), .second, .val (.long x6), .second, .val (.ref ob7), .val (.ref bq84), .val (.ref ob85), .val (.int (4 : Int32)), .val (.long x5), .second] [(.int (4 : Int32)), (.int (0 : Int32)), (.ref ob85), (.ref bq84)])
        refine own_callS X89 hx hZ (y := (⟨"com/example/obliv/obliv/io/SegmentIndexToArrayPinLaw", "eqAt", "([J[JII)Z"⟩ : MethodName)) 0 hown (hw _ (List.mem_of_getElem? (i := 41) rfl)) (hw _ (List.mem_of_getElem? (i := 42) rfl)) (hw _ (List.mem_of_getElem? (i := 43) rfl)) (hw _ (List.mem_of_getElem? (i := 44) rfl)) (by decide) (argsL := [(.ref bq84), (.ref ob85), (.int (0 : Int32)), (.int (4 : Int32))]) (rest := []) (rm7 l Z a0 hw [] bq84 ob85 (0 : Int32) (4 : Int32) [(.long x1), (.long x4), (.long x2), (.long x5)] [(.long x1), (.long x4), (.long x2), (.long x5), (.long (0 : Int64)), (.long (0 : Int64))] h89 n0 (Nat.le_trans Z0 K0.1) Vq84 V_ob85 (Or.inr ⟨by decide, _, rfl, rfl⟩)) (by decide) (by decide) (by decide) (by decide) (g := (mkF m 253 #[.val (.long q0), .second, .val (.int p1), .val (.int p2), .val (.int p3), .val (.int p4), .val (.int p5), .val (.long x1), .second, .val (.long x2), .second, .val (.long x3), .second, .val (.long x4), .second, .val (.long x5), .second, .val (.long x6), .second, .val (.ref ob7), .val (.ref bq84), .val (.ref ob85), .val (.int (4 : Int32)), .val (.long x5), .second] [(.int (4 : Int32)), (.int (0 : Int32)), (.ref ob85), (.ref bq84)])) rfl (by rw [hml]; rfl) (lenOf pd___J_JII_Z_647 rfl) rfl (by show 2 * 0 + _ ≤ _; exact Nat.le_of_eq rfl) (hb hby at_253) e89 ?_
        rintro v90 T90 L90 X90 ⟨rfl, N90q, hh90⟩
        have N90 := Fr.app N89 N90q
        show GG _ _ _ _ _ _ _ T90 (mkF m 256 #[.val (.long q0), .second, .val (.int p1), .val (.int p2), .val (.int p3), .val (.int p4), .val (.int p5), .val (.long x1), .second, .val (.long x2), .second, .val (.long x3), .second, .val (.long x4), .second, .val (.long x5), .second, .val (.long x6), .second, .val (.ref ob7), .val (.ref bq84), .val (.ref ob85), .val (.int (4 : Int32)), .val (.long x5), .second] [(.int (1 : Int32))])
        have hc256 : ¬ ((1 : Int32) = (0 : Int32)) := by decide
        refine own_go (fun _ => XS.ifNo X90.here hx rfl (hb hby at_256) rfl ((if0 _ _).trans (feq hc256).1)) ?_
        show GG _ _ _ _ _ _ _ T90 (mkF m 259 #[.val (.long q0), .second, .val (.int p1), .val (.int p2), .val (.int p3), .val (.int p4), .val (.int p5), .val (.long x1), .second, .val (.long x2), .second, .val (.long x3), .second, .val (.long x4), .second, .val (.long x5), .second, .val (.long x6), .second, .val (.ref ob7), .val (.ref bq84), .val (.ref ob85), .val (.int (4 : Int32)), .val (.long x5), .second] [])
        refine own_go (fun _ => XS.aload X90.here hx rfl (hb hby at_259) rfl rfl) ?_
        show GG _ _ _ _ _ _ _ T90 (mkF m 261 #[.val (.long q0), .second, .val (.int p1), .val (.int p2), .val (.int p3), .val (.int p4), .val (.int p5), .val (.long x1), .second, .val (.long x2), .second, .val (.long x3), .second, .val (.long x4), .second, .val (.long x5), .second, .val (.long x6), .second, .val (.ref ob7), .val (.ref bq84), .val (.ref ob85), .val (.int (4 : Int32)), .val (.long x5), .second] [(.ref bq84)])
        refine own_go (fun _ => XS.aload X90.here hx rfl (hb hby at_261) rfl rfl) ?_
        show GG _ _ _ _ _ _ _ T90 (mkF m 263 #[.val (.long q0), .second, .val (.int p1), .val (.int p2), .val (.int p3), .val (.int p4), .val (.int p5), .val (.long x1), .second, .val (.long x2), .second, .val (.long x3), .second, .val (.long x4), .second, .val (.long x5), .second, .val (.long x6), .second, .val (.ref ob7), .val (.ref bq84), .val (.ref ob85), .val (.int (4 : Int32)), .val (.long x5), .second] [(.ref ob85), (.ref bq84)])
        refine own_go (fun _ => XS.iconst X90.here hx rfl (hb hby at_263)) ?_
        show GG _ _ _ _ _ _ _ T90 (mkF m 264 #[.val (.long q0), .second, .val (.int p1), .val (.int p2), .val (.int p3), .val (.int p4), .val (.int p5), .val (.long x1), .second, .val (.long x2), .second, .val (.long x3), .second, .val (.long x4), .second, .val (.long x5), .second, .val (.long x6), .second, .val (.ref ob7), .val (.ref bq84), .val (.ref ob85), .val (.int (4 : Int32)), .val (.long x5), .second] [(.int (1 : Int32)), (.ref ob85), (.ref bq84)])
        refine own_go (fun _ => XS.iload X90.here hx rfl (hb hby at_264) rfl) ?_
        show GG _ _ _ _ _ _ _ T90 (mkF m 266 #[.val (.long q0), .second, .val (.int p1), .val (.int p2), .val (.int p3), .val (.int p4), .val (.int p5), .val (.long x1), .second, .val (.long x2), .second, .val (.long x3), .second, .val (.long x4), .second, .val (.long x5), .second, .val (.long x6), .second, .val (.ref ob7), .val (.ref bq84), .val (.ref ob85), .val (.int (4 : Int32)), .val (.long x5), .second] [(.int (4 : Int32)), (.int (1 : Int32)), (.ref ob85), (.ref bq84)])
        refine own_callS X90 hx hZ (y := (⟨"com/example/obliv/obliv/io/SegmentIndexToArrayPinLaw", "eqAt", "([J[JII)Z"⟩ : MethodName)) 0 hown (hw _ (List.mem_of_getElem? (i := 41) rfl)) (hw _ (List.mem_of_getElem? (i := 42) rfl)) (hw _ (List.mem_of_getElem? (i := 43) rfl)) (hw _ (List.mem_of_getElem? (i := 44) rfl)) (by decide) (argsL := [(.ref bq84), (.ref ob85), (.int (1 : Int32)), (.int (4 : Int32))]) (rest := []) (rm7 l Z a0 hw [] bq84 ob85 (1 : Int32) (4 : Int32) [(.long x1), (.long x4), (.long x2), (.long x5)] [(.long x1), (.long x4), (.long x2), (.long x5), (.long (0 : Int64)), (.long (0 : Int64))] h89 n0 (Nat.le_trans Z0 K0.1) Vq84 V_ob85 (Or.inr ⟨by decide, _, rfl, rfl⟩)) (by decide) (by decide) (by decide) (by decide) (g := (mkF m 266 #[.val (.long q0), .second, .val (.int p1), .val (.int p2), .val (.int p3), .val (.int p4), .val (.int p5), .val (.long x1), .second, .val (.long x2), .second, .val (.long x3), .second, .val (.long x4), .second, .val (.long x5), .second, .val (.long x6), .second, .val (.ref ob7), .val (.ref bq84), .val (.ref ob85), .val (.int (4 : Int32)), .val (.long x5), .second] [(.int (4 : Int32)), (.int (1 : Int32)), (.ref ob85), (.ref bq84)])) rfl (by rw [hml]; rfl) (lenOf pd___J_JII_Z_647 rfl) rfl (by show 2 * 0 + _ ≤ _; exact Nat.le_of_eq rfl) (hb hby at_266) hh90 ?_
        rintro v91 T91 L91 X91 ⟨rfl, N91q, hh91⟩
        have N91 := Fr.app N90 N91q
        show GG _ _ _ _ _ _ _ T91 (mkF m 269 #[.val (.long q0), .second, .val (.int p1), .val (.int p2), .val (.int p3), .val (.int p4), .val (.int p5), .val (.long x1), .second, .val (.long x2), .second, .val (.long x3), .second, .val (.long x4), .second, .val (.long x5), .second, .val (.long x6), .second, .val (.ref ob7), .val (.ref bq84), .val (.ref ob85), .val (.int (4 : Int32)), .val (.long x5), .second] [(.int (1 : Int32))])
        have hc269 : ¬ ((1 : Int32) = (0 : Int32)) := by decide
        refine own_go (fun _ => XS.ifNo X91.here hx rfl (hb hby at_269) rfl ((if0 _ _).trans (feq hc269).1)) ?_
        show GG _ _ _ _ _ _ _ T91 (mkF m 272 #[.val (.long q0), .second, .val (.int p1), .val (.int p2), .val (.int p3), .val (.int p4), .val (.int p5), .val (.long x1), .second, .val (.long x2), .second, .val (.long x3), .second, .val (.long x4), .second, .val (.long x5), .second, .val (.long x6), .second, .val (.ref ob7), .val (.ref bq84), .val (.ref ob85), .val (.int (4 : Int32)), .val (.long x5), .second] [])
        refine own_go (fun _ => XS.aload X91.here hx rfl (hb hby at_272) rfl rfl) ?_
        show GG _ _ _ _ _ _ _ T91 (mkF m 274 #[.val (.long q0), .second, .val (.int p1), .val (.int p2), .val (.int p3), .val (.int p4), .val (.int p5), .val (.long x1), .second, .val (.long x2), .second, .val (.long x3), .second, .val (.long x4), .second, .val (.long x5), .second, .val (.long x6), .second, .val (.ref ob7), .val (.ref bq84), .val (.ref ob85), .val (.int (4 : Int32)), .val (.long x5), .second] [(.ref bq84)])
        refine own_go (fun _ => XS.aload X91.here hx rfl (hb hby at_274) rfl rfl) ?_
        show GG _ _ _ _ _ _ _ T91 (mkF m 276 #[.val (.long q0), .second, .val (.int p1), .val (.int p2), .val (.int p3), .val (.int p4), .val (.int p5), .val (.long x1), .second, .val (.long x2), .second, .val (.long x3), .second, .val (.long x4), .second, .val (.long x5), .second, .val (.long x6), .second, .val (.ref ob7), .val (.ref bq84), .val (.ref ob85), .val (.int (4 : Int32)), .val (.long x5), .second] [(.ref ob85), (.ref bq84)])
        refine own_go (fun _ => XS.iconst X91.here hx rfl (hb hby at_276)) ?_
        show GG _ _ _ _ _ _ _ T91 (mkF m 277 #[.val (.long q0), .second, .val (.int p1), .val (.int p2), .val (.int p3), .val (.int p4), .val (.int p5), .val (.long x1), .second, .val (.long x2), .second, .val (.long x3), .second, .val (.long x4), .second, .val (.long x5), .second, .val (.long x6), .second, .val (.ref ob7), .val (.ref bq84), .val (.ref ob85), .val (.int (4 : Int32)), .val (.long x5), .second] [(.int (2 : Int32)), (.ref ob85), (.ref bq84)])
        refine own_go (fun _ => XS.iload X91.here hx rfl (hb hby at_277) rfl) ?_
        show GG _ _ _ _ _ _ _ T91 (mkF m 279 #[.val (.long q0), .second, .val (.int p1), .val (.int p2), .val (.int p3), .val (.int p4), .val (.int p5), .val (.long x1), .second, .val (.long x2), .second, .val (.long x3), .second, .val (.long x4), .second, .val (.long x5), .second, .val (.long x6), .second, .val (.ref ob7), .val (.ref bq84), .val (.ref ob85), .val (.int (4 : Int32)), .val (.long x5), .second] [(.int (4 : Int32)), (.int (2 : Int32)), (.ref ob85), (.ref bq84)])
        refine own_callS X91 hx hZ (y := (⟨"com/example/obliv/obliv/io/SegmentIndexToArrayPinLaw", "eqAt", "([J[JII)Z"⟩ : MethodName)) 0 hown (hw _ (List.mem_of_getElem? (i := 41) rfl)) (hw _ (List.mem_of_getElem? (i := 42) rfl)) (hw _ (List.mem_of_getElem? (i := 43) rfl)) (hw _ (List.mem_of_getElem? (i := 44) rfl)) (by decide) (argsL := [(.ref bq84), (.ref ob85), (.int (2 : Int32)), (.int (4 : Int32))]) (rest := []) (rm7 l Z a0 hw [] bq84 ob85 (2 : Int32) (4 : Int32) [(.long x1), (.long x4), (.long x2), (.long x5)] [(.long x1), (.long x4), (.long x2), (.long x5), (.long (0 : Int64)), (.long (0 : Int64))] h89 n0 (Nat.le_trans Z0 K0.1) Vq84 V_ob85 (Or.inr ⟨by decide, _, rfl, rfl⟩)) (by decide) (by decide) (by decide) (by decide) (g := (mkF m 279 #[.val (.long q0), .second, .val (.int p1), .val (.int p2), .val (.int p3), .val (.int p4), .val (.int p5), .val (.long x1), .second, .val (.long x2), .second, .val (.long x3), .second, .val (.long x4), .second, .val (.long x5), .second, .val (.long x6), .second, .val (.ref ob7), .val (.ref bq84), .val (.ref ob85), .val (.int (4 : Int32)), .val (.long x5), .second] [(.int (4 : Int32)), (.int (2 : Int32)), (.ref ob85), (.ref bq84)])) rfl (by rw [hml]; rfl) (lenOf pd___J_JII_Z_647 rfl) rfl (by show 2 * 0 + _ ≤ _; exact Nat.le_of_eq rfl) (hb hby at_279) hh91 ?_
        rintro v92 T92 L92 X92 ⟨rfl, N92q, hh92⟩
        have N92 := Fr.app N91 N92q
        show GG _ _ _ _ _ _ _ T92 (mkF m 282 #[.val (.long q0), .second, .val (.int p1), .val (.int p2), .val (.int p3), .val (.int p4), .val (.int p5), .val (.long x1), .second, .val (.long x2), .second, .val (.long x3), .second, .val (.long x4), .second, .val (.long x5), .second, .val (.long x6), .second, .val (.ref ob7), .val (.ref bq84), .val (.ref ob85), .val (.int (4 : Int32)), .val (.long x5), .second] [(.int (1 : Int32))])
        have hc282 : ¬ ((1 : Int32) = (0 : Int32)) := by decide
        refine own_go (fun _ => XS.ifNo X92.here hx rfl (hb hby at_282) rfl ((if0 _ _).trans (feq hc282).1)) ?_
        show GG _ _ _ _ _ _ _ T92 (mkF m 285 #[.val (.long q0), .second, .val (.int p1), .val (.int p2), .val (.int p3), .val (.int p4), .val (.int p5), .val (.long x1), .second, .val (.long x2), .second, .val (.long x3), .second, .val (.long x4), .second, .val (.long x5), .second, .val (.long x6), .second, .val (.ref ob7), .val (.ref bq84), .val (.ref ob85), .val (.int (4 : Int32)), .val (.long x5), .second] [])
        refine own_go (fun _ => XS.aload X92.here hx rfl (hb hby at_285) rfl rfl) ?_
        show GG _ _ _ _ _ _ _ T92 (mkF m 287 #[.val (.long q0), .second, .val (.int p1), .val (.int p2), .val (.int p3), .val (.int p4), .val (.int p5), .val (.long x1), .second, .val (.long x2), .second, .val (.long x3), .second, .val (.long x4), .second, .val (.long x5), .second, .val (.long x6), .second, .val (.ref ob7), .val (.ref bq84), .val (.ref ob85), .val (.int (4 : Int32)), .val (.long x5), .second] [(.ref bq84)])
        refine own_go (fun _ => XS.aload X92.here hx rfl (hb hby at_287) rfl rfl) ?_
        show GG _ _ _ _ _ _ _ T92 (mkF m 289 #[.val (.long q0), .second, .val (.int p1), .val (.int p2), .val (.int p3), .val (.int p4), .val (.int p5), .val (.long x1), .second, .val (.long x2), .second, .val (.long x3), .second, .val (.long x4), .second, .val (.long x5), .second, .val (.long x6), .second, .val (.ref ob7), .val (.ref bq84), .val (.ref ob85), .val (.int (4 : Int32)), .val (.long x5), .second] [(.ref ob85), (.ref bq84)])
        refine own_go (fun _ => XS.iconst X92.here hx rfl (hb hby at_289)) ?_
        show GG _ _ _ _ _ _ _ T92 (mkF m 290 #[.val (.long q0), .second, .val (.int p1), .val (.int p2), .val (.int p3), .val (.int p4), .val (.int p5), .val (.long x1), .second, .val (.long x2), .second, .val (.long x3), .second, .val (.long x4), .second, .val (.long x5), .second, .val (.long x6), .second, .val (.ref ob7), .val (.ref bq84), .val (.ref ob85), .val (.int (4 : Int32)), .val (.long x5), .second] [(.int (3 : Int32)), (.ref ob85), (.ref bq84)])
        refine own_go (fun _ => XS.iload X92.here hx rfl (hb hby at_290) rfl) ?_
        show GG _ _ _ _ _ _ _ T92 (mkF m 292 #[.val (.long q0), .second, .val (.int p1), .val (.int p2), .val (.int p3), .val (.int p4), .val (.int p5), .val (.long x1), .second, .val (.long x2), .second, .val (.long x3), .second, .val (.long x4), .second, .val (.long x5), .second, .val (.long x6), .second, .val (.ref ob7), .val (.ref bq84), .val (.ref ob85), .val (.int (4 : Int32)), .val (.long x5), .second] [(.int (4 : Int32)), (.int (3 : Int32)), (.ref ob85), (.ref bq84)])
        refine own_callS X92 hx hZ (y := (⟨"com/example/obliv/obliv/io/SegmentIndexToArrayPinLaw", "eqAt", "([J[JII)Z"⟩ : MethodName)) 0 hown (hw _ (List.mem_of_getElem? (i := 41) rfl)) (hw _ (List.mem_of_getElem? (i := 42) rfl)) (hw _ (List.mem_of_getElem? (i := 43) rfl)) (hw _ (List.mem_of_getElem? (i := 44) rfl)) (by decide) (argsL := [(.ref bq84), (.ref ob85), (.int (3 : Int32)), (.int (4 : Int32))]) (rest := []) (rm7 l Z a0 hw [] bq84 ob85 (3 : Int32) (4 : Int32) [(.long x1), (.long x4), (.long x2), (.long x5)] [(.long x1), (.long x4), (.long x2), (.long x5), (.long (0 : Int64)), (.long (0 : Int64))] h89 n0 (Nat.le_trans Z0 K0.1) Vq84 V_ob85 (Or.inr ⟨by decide, _, rfl, rfl⟩)) (by decide) (by decide) (by decide) (by decide) (g := (mkF m 292 #[.val (.long q0), .second, .val (.int p1), .val (.int p2), .val (.int p3), .val (.int p4), .val (.int p5), .val (.long x1), .second, .val (.long x2), .second, .val (.long x3), .second, .val (.long x4), .second, .val (.long x5), .second, .val (.long x6), .second, .val (.ref ob7), .val (.ref bq84), .val (.ref ob85), .val (.int (4 : Int32)), .val (.long x5), .second] [(.int (4 : Int32)), (.int (3 : Int32)), (.ref ob85), (.ref bq84)])) rfl (by rw [hml]; rfl) (lenOf pd___J_JII_Z_647 rfl) rfl (by show 2 * 0 + _ ≤ _; exact Nat.le_of_eq rfl) (hb hby at_292) hh92 ?_
        rintro v93 T93 L93 X93 ⟨rfl, N93q, hh93⟩
        have N93 := Fr.app N92 N93q
        show GG _ _ _ _ _ _ _ T93 (mkF m 295 #[.val (.long q0), .second, .val (.int p1), .val (.int p2), .val (.int p3), .val (.int p4), .val (.int p5), .val (.long x1), .second, .val (.long x2), .second, .val (.long x3), .second, .val (.long x4), .second, .val (.long x5), .second, .val (.long x6), .second, .val (.ref ob7), .val (.ref bq84), .val (.ref ob85), .val (.int (4 : Int32)), .val (.long x5), .second] [(.int (1 : Int32))])
        have hc295 : ¬ ((1 : Int32) = (0 : Int32)) := by decide
        refine own_go (fun _ => XS.ifNo X93.here hx rfl (hb hby at_295) rfl ((if0 _ _).trans (feq hc295).1)) ?_
        show GG _ _ _ _ _ _ _ T93 (mkF m 298 #[.val (.long q0), .second, .val (.int p1), .val (.int p2), .val (.int p3), .val (.int p4), .val (.int p5), .val (.long x1), .second, .val (.long x2), .second, .val (.long x3), .second, .val (.long x4), .second, .val (.long x5), .second, .val (.long x6), .second, .val (.ref ob7), .val (.ref bq84), .val (.ref ob85), .val (.int (4 : Int32)), .val (.long x5), .second] [])
        refine own_go (fun _ => XS.aload X93.here hx rfl (hb hby at_298) rfl rfl) ?_
        show GG _ _ _ _ _ _ _ T93 (mkF m 300 #[.val (.long q0), .second, .val (.int p1), .val (.int p2), .val (.int p3), .val (.int p4), .val (.int p5), .val (.long x1), .second, .val (.long x2), .second, .val (.long x3), .second, .val (.long x4), .second, .val (.long x5), .second, .val (.long x6), .second, .val (.ref ob7), .val (.ref bq84), .val (.ref ob85), .val (.int (4 : Int32)), .val (.long x5), .second] [(.ref bq84)])
        refine own_go (fun _ => XS.aload X93.here hx rfl (hb hby at_300) rfl rfl) ?_
        show GG _ _ _ _ _ _ _ T93 (mkF m 302 #[.val (.long q0), .second, .val (.int p1), .val (.int p2), .val (.int p3), .val (.int p4), .val (.int p5), .val (.long x1), .second, .val (.long x2), .second, .val (.long x3), .second, .val (.long x4), .second, .val (.long x5), .second, .val (.long x6), .second, .val (.ref ob7), .val (.ref bq84), .val (.ref ob85), .val (.int (4 : Int32)), .val (.long x5), .second] [(.ref ob85), (.ref bq84)])
        refine own_go (fun _ => XS.iconst X93.here hx rfl (hb hby at_302)) ?_
        show GG _ _ _ _ _ _ _ T93 (mkF m 303 #[.val (.long q0), .second, .val (.int p1), .val (.int p2), .val (.int p3), .val (.int p4), .val (.int p5), .val (.long x1), .second, .val (.long x2), .second, .val (.long x3), .second, .val (.long x4), .second, .val (.long x5), .second, .val (.long x6), .second, .val (.ref ob7), .val (.ref bq84), .val (.ref ob85), .val (.int (4 : Int32)), .val (.long x5), .second] [(.int (4 : Int32)), (.ref ob85), (.ref bq84)])
        refine own_go (fun _ => XS.iload X93.here hx rfl (hb hby at_303) rfl) ?_
        show GG _ _ _ _ _ _ _ T93 (mkF m 305 #[.val (.long q0), .second, .val (.int p1), .val (.int p2), .val (.int p3), .val (.int p4), .val (.int p5), .val (.long x1), .second, .val (.long x2), .second, .val (.long x3), .second, .val (.long x4), .second, .val (.long x5), .second, .val (.long x6), .second, .val (.ref ob7), .val (.ref bq84), .val (.ref ob85), .val (.int (4 : Int32)), .val (.long x5), .second] [(.int (4 : Int32)), (.int (4 : Int32)), (.ref ob85), (.ref bq84)])
        refine own_callS X93 hx hZ (y := (⟨"com/example/obliv/obliv/io/SegmentIndexToArrayPinLaw", "eqAt", "([J[JII)Z"⟩ : MethodName)) 0 hown (hw _ (List.mem_of_getElem? (i := 41) rfl)) (hw _ (List.mem_of_getElem? (i := 42) rfl)) (hw _ (List.mem_of_getElem? (i := 43) rfl)) (hw _ (List.mem_of_getElem? (i := 44) rfl)) (by decide) (argsL := [(.ref bq84), (.ref ob85), (.int (4 : Int32)), (.int (4 : Int32))]) (rest := []) (rm7 l Z a0 hw [] bq84 ob85 (4 : Int32) (4 : Int32) [(.long x1), (.long x4), (.long x2), (.long x5)] [(.long x1), (.long x4), (.long x2), (.long x5), (.long (0 : Int64)), (.long (0 : Int64))] h89 n0 (Nat.le_trans Z0 K0.1) Vq84 V_ob85 (Or.inl (by decide))) (by decide) (by decide) (by decide) (by decide) (g := (mkF m 305 #[.val (.long q0), .second, .val (.int p1), .val (.int p2), .val (.int p3), .val (.int p4), .val (.int p5), .val (.long x1), .second, .val (.long x2), .second, .val (.long x3), .second, .val (.long x4), .second, .val (.long x5), .second, .val (.long x6), .second, .val (.ref ob7), .val (.ref bq84), .val (.ref ob85), .val (.int (4 : Int32)), .val (.long x5), .second] [(.int (4 : Int32)), (.int (4 : Int32)), (.ref ob85), (.ref bq84)])) rfl (by rw [hml]; rfl) (lenOf pd___J_JII_Z_647 rfl) rfl (by show 2 * 0 + _ ≤ _; exact Nat.le_of_eq rfl) (hb hby at_305) hh93 ?_
        rintro v94 T94 L94 X94 ⟨rfl, N94q, hh94⟩
        have N94 := Fr.app N93 N94q
        show GG _ _ _ _ _ _ _ T94 (mkF m 308 #[.val (.long q0), .second, .val (.int p1), .val (.int p2), .val (.int p3), .val (.int p4), .val (.int p5), .val (.long x1), .second, .val (.long x2), .second, .val (.long x3), .second, .val (.long x4), .second, .val (.long x5), .second, .val (.long x6), .second, .val (.ref ob7), .val (.ref bq84), .val (.ref ob85), .val (.int (4 : Int32)), .val (.long x5), .second] [(.int (1 : Int32))])
        have hc308 : ¬ ((1 : Int32) = (0 : Int32)) := by decide
        refine own_go (fun _ => XS.ifNo X94.here hx rfl (hb hby at_308) rfl ((if0 _ _).trans (feq hc308).1)) ?_
        show GG _ _ _ _ _ _ _ T94 (mkF m 311 #[.val (.long q0), .second, .val (.int p1), .val (.int p2), .val (.int p3), .val (.int p4), .val (.int p5), .val (.long x1), .second, .val (.long x2), .second, .val (.long x3), .second, .val (.long x4), .second, .val (.long x5), .second, .val (.long x6), .second, .val (.ref ob7), .val (.ref bq84), .val (.ref ob85), .val (.int (4 : Int32)), .val (.long x5), .second] [])
        refine own_go (fun _ => XS.aload X94.here hx rfl (hb hby at_311) rfl rfl) ?_
        show GG _ _ _ _ _ _ _ T94 (mkF m 313 #[.val (.long q0), .second, .val (.int p1), .val (.int p2), .val (.int p3), .val (.int p4), .val (.int p5), .val (.long x1), .second, .val (.long x2), .second, .val (.long x3), .second, .val (.long x4), .second, .val (.long x5), .second, .val (.long x6), .second, .val (.ref ob7), .val (.ref bq84), .val (.ref ob85), .val (.int (4 : Int32)), .val (.long x5), .second] [(.ref bq84)])
        refine own_go (fun _ => XS.aload X94.here hx rfl (hb hby at_313) rfl rfl) ?_
        show GG _ _ _ _ _ _ _ T94 (mkF m 315 #[.val (.long q0), .second, .val (.int p1), .val (.int p2), .val (.int p3), .val (.int p4), .val (.int p5), .val (.long x1), .second, .val (.long x2), .second, .val (.long x3), .second, .val (.long x4), .second, .val (.long x5), .second, .val (.long x6), .second, .val (.ref ob7), .val (.ref bq84), .val (.ref ob85), .val (.int (4 : Int32)), .val (.long x5), .second] [(.ref ob85), (.ref bq84)])
        refine own_go (fun _ => XS.iconst X94.here hx rfl (hb hby at_315)) ?_
        show GG _ _ _ _ _ _ _ T94 (mkF m 316 #[.val (.long q0), .second, .val (.int p1), .val (.int p2), .val (.int p3), .val (.int p4), .val (.int p5), .val (.long x1), .second, .val (.long x2), .second, .val (.long x3), .second, .val (.long x4), .second, .val (.long x5), .second, .val (.long x6), .second, .val (.ref ob7), .val (.ref bq84), .val (.ref ob85), .val (.int (4 : Int32)), .val (.long x5), .second] [(.int (5 : Int32)), (.ref ob85), (.ref bq84)])
        refine own_go (fun _ => XS.iload X94.here hx rfl (hb hby at_316) rfl) ?_
        show GG _ _ _ _ _ _ _ T94 (mkF m 318 #[.val (.long q0), .second, .val (.int p1), .val (.int p2), .val (.int p3), .val (.int p4), .val (.int p5), .val (.long x1), .second, .val (.long x2), .second, .val (.long x3), .second, .val (.long x4), .second, .val (.long x5), .second, .val (.long x6), .second, .val (.ref ob7), .val (.ref bq84), .val (.ref ob85), .val (.int (4 : Int32)), .val (.long x5), .second] [(.int (4 : Int32)), (.int (5 : Int32)), (.ref ob85), (.ref bq84)])
        refine own_callS X94 hx hZ (y := (⟨"com/example/obliv/obliv/io/SegmentIndexToArrayPinLaw", "eqAt", "([J[JII)Z"⟩ : MethodName)) 0 hown (hw _ (List.mem_of_getElem? (i := 41) rfl)) (hw _ (List.mem_of_getElem? (i := 42) rfl)) (hw _ (List.mem_of_getElem? (i := 43) rfl)) (hw _ (List.mem_of_getElem? (i := 44) rfl)) (by decide) (argsL := [(.ref bq84), (.ref ob85), (.int (5 : Int32)), (.int (4 : Int32))]) (rest := []) (rm7 l Z a0 hw [] bq84 ob85 (5 : Int32) (4 : Int32) [(.long x1), (.long x4), (.long x2), (.long x5)] [(.long x1), (.long x4), (.long x2), (.long x5), (.long (0 : Int64)), (.long (0 : Int64))] h89 n0 (Nat.le_trans Z0 K0.1) Vq84 V_ob85 (Or.inl (by decide))) (by decide) (by decide) (by decide) (by decide) (g := (mkF m 318 #[.val (.long q0), .second, .val (.int p1), .val (.int p2), .val (.int p3), .val (.int p4), .val (.int p5), .val (.long x1), .second, .val (.long x2), .second, .val (.long x3), .second, .val (.long x4), .second, .val (.long x5), .second, .val (.long x6), .second, .val (.ref ob7), .val (.ref bq84), .val (.ref ob85), .val (.int (4 : Int32)), .val (.long x5), .second] [(.int (4 : Int32)), (.int (5 : Int32)), (.ref ob85), (.ref bq84)])) rfl (by rw [hml]; rfl) (lenOf pd___J_JII_Z_647 rfl) rfl (by show 2 * 0 + _ ≤ _; exact Nat.le_of_eq rfl) (hb hby at_318) hh94 ?_
        rintro v95 T95 L95 X95 ⟨rfl, N95q, hh95⟩
        have N95 := Fr.app N94 N95q
        show GG _ _ _ _ _ _ _ T95 (mkF m 321 #[.val (.long q0), .second, .val (.int p1), .val (.int p2), .val (.int p3), .val (.int p4), .val (.int p5), .val (.long x1), .second, .val (.long x2), .second, .val (.long x3), .second, .val (.long x4), .second, .val (.long x5), .second, .val (.long x6), .second, .val (.ref ob7), .val (.ref bq84), .val (.ref ob85), .val (.int (4 : Int32)), .val (.long x5), .second] [(.int (1 : Int32))])
        have hc321 : ¬ ((1 : Int32) = (0 : Int32)) := by decide
        refine own_go (fun _ => XS.ifNo X95.here hx rfl (hb hby at_321) rfl ((if0 _ _).trans (feq hc321).1)) ?_
        show GG _ _ _ _ _ _ _ T95 (mkF m 324 #[.val (.long q0), .second, .val (.int p1), .val (.int p2), .val (.int p3), .val (.int p4), .val (.int p5), .val (.long x1), .second, .val (.long x2), .second, .val (.long x3), .second, .val (.long x4), .second, .val (.long x5), .second, .val (.long x6), .second, .val (.ref ob7), .val (.ref bq84), .val (.ref ob85), .val (.int (4 : Int32)), .val (.long x5), .second] [])
        refine own_go (fun _ => XS.iconst X95.here hx rfl (hb hby at_324)) ?_
        show GG _ _ _ _ _ _ _ T95 (mkF m 325 #[.val (.long q0), .second, .val (.int p1), .val (.int p2), .val (.int p3), .val (.int p4), .val (.int p5), .val (.long x1), .second, .val (.long x2), .second, .val (.long x3), .second, .val (.long x4), .second, .val (.long x5), .second, .val (.long x6), .second, .val (.ref ob7), .val (.ref bq84), .val (.ref ob85), .val (.int (4 : Int32)), .val (.long x5), .second] [(.int (1 : Int32))])
        refine own_go (fun _ => XS.goto X95.here hx rfl (pc0 := 325) (pc' := 329) rfl (hb hby at_325) (by decide) (by decide)) ?_
        show GG _ _ _ _ _ _ _ T95 (mkF m 329 #[.val (.long q0), .second, .val (.int p1), .val (.int p2), .val (.int p3), .val (.int p4), .val (.int p5), .val (.long x1), .second, .val (.long x2), .second, .val (.long x3), .second, .val (.long x4), .second, .val (.long x5), .second, .val (.long x6), .second, .val (.ref ob7), .val (.ref bq84), .val (.ref ob85), .val (.int (4 : Int32)), .val (.long x5), .second] [(.int (1 : Int32))])
        refine own_ret X95 hx hlk (t := .boolean) (w := (.int (1 : Int32))) Bd.returns rfl (Or.inl ⟨rfl, by simp, _, rfl⟩) (hb hby at_329) (by decide) (by decide) ?_
        show Q0 Z q0 p1 p2 p3 p4 p5 h0 n0 (some (.int (1 : Int32))) T95.heap _
        rw [hh95]
        exact ⟨rfl, N95⟩
      · skip
        refine own_callV X82 hx hZ (y := (⟨"com/example/obliv/obliv/io/SegmentIndex", "add", "(JJ)V"⟩ : MethodName)) (z := (⟨"com/example/obliv/obliv/io/SegmentIndex", "add", "(JJ)V"⟩ : MethodName)) 0 hown (hw _ (List.mem_of_getElem? (i := 25) rfl)) (hw _ (List.mem_of_getElem? (i := 26) rfl)) (notFace_of_selects (args := #[]) (mvT hZ (hw _ (List.mem_of_getElem? (i := 28) rfl)))) (hw _ (List.mem_of_getElem? (i := 28) rfl)) (hw _ (List.mem_of_getElem? (i := 27) rfl)) (hw _ (List.mem_of_getElem? (i := 6) rfl)) (hw _ (List.mem_of_getElem? (i := 29) rfl)) (by decide) (a := ob7) (argsL := [(.long x3), (.long x6)]) (rest := []) (rm4_3h l Z a0 hw [] ob7 x3 x6 c1_8 c2_8 (0 : Int64) x1 x2 (0 : Int64) (0 : Int64) (0 : Int64) (0 : Int64) (0 : Int64) (0 : Int64) (0 : Int64) (0 : Int64) (0 : Int64) (0 : Int64) (0 : Int64) (0 : Int64) (0 : Int64) (8 : Int64) x4 x5 (0 : Int64) (0 : Int64) (0 : Int64) (0 : Int64) (0 : Int64) (0 : Int64) (0 : Int64) (0 : Int64) (0 : Int64) (0 : Int64) (0 : Int64) (0 : Int64) (0 : Int64) T82.heap n0 (Nat.le_trans Z0 K0.1) hp100 Eq8 Fs82 Fr82 Fp82 Vr82 Vp82 n12_8 ne1_8 ne2_8 g_ob7 g_c1_8 g_c2_8) (by decide) (by decide) (by decide) (by decide) Eq8 (g := (mkF m 100 #[.val (.long q0), .second, .val (.int p1), .val (.int p2), .val (.int p3), .val (.int p4), .val (.int p5), .val (.long x1), .second, .val (.long x2), .second, .val (.long x3), .second, .val (.long x4), .second, .val (.long x5), .second, .val (.long x6), .second, .val (.ref ob7), .unset, .unset, .unset, .unset, .unset] [(.long x6), (.long x3), (.ref ob7)])) rfl (by rw [hml]; rfl) (lenOf pd__JJ_V_315 rfl) rfl (by show 2 * 0 + _ ≤ _; exact Nat.le_of_eq rfl) (hb hby at_100) rfl ?_
        rintro v96 T96 L96 X96 ⟨rfl, N96q, Kq96, Fs96, Fr96, Fp96, Vr96, Vp96⟩
        have N96 := Fr.app N82 N96q
        have K0 := K0.trans Kq96 (allS (Or.inr sz_ob7) (allS (Or.inr sz_c1_8) (allS (Or.inr sz_c2_8) all0)))
        have Eq8 := Eq8.keep Kq96
        show GG _ _ _ _ _ _ _ T96 (mkF m 103 #[.val (.long q0), .second, .val (.int p1), .val (.int p2), .val (.int p3), .val (.int p4), .val (.int p5), .val (.long x1), .second, .val (.long x2), .second, .val (.long x3), .second, .val (.long x4), .second, .val (.long x5), .second, .val (.long x6), .second, .val (.ref ob7), .unset, .unset, .unset, .unset, .unset] [])
        refine own_go (fun _ => XS.aload X96.here hx rfl (hb hby at_103) rfl rfl) ?_
        show GG _ _ _ _ _ _ _ T96 (mkF m 105 #[.val (.long q0), .second, .val (.int p1), .val (.int p2), .val (.int p3), .val (.int p4), .val (.int p5), .val (.long x1), .second, .val (.long x2), .second, .val (.long x3), .second, .val (.long x4), .second, .val (.long x5), .second, .val (.long x6), .second, .val (.ref ob7), .unset, .unset, .unset, .unset, .unset] [(.ref ob7)])
        refine own_callV X96 hx hZ (y := (⟨"com/example/obliv/obliv/io/SegmentIndex", "toArray", "()[J"⟩ : MethodName)) (z := (⟨"com/example/obliv/obliv/io/SegmentIndex", "toArray", "()[J"⟩ : MethodName)) 0 hown (hw _ (List.mem_of_getElem? (i := 35) rfl)) (hw _ (List.mem_of_getElem? (i := 36) rfl)) (notFace_of_selects (args := #[]) (mvT hZ (hw _ (List.mem_of_getElem? (i := 38) rfl)))) (hw _ (List.mem_of_getElem? (i := 38) rfl)) (hw _ (List.mem_of_getElem? (i := 37) rfl)) (hw _ (List.mem_of_getElem? (i := 6) rfl)) (hw _ (List.mem_of_getElem? (i := 39) rfl)) (by decide) (a := ob7) (argsL := []) (rest := []) (rm6_4 l Z a0 hw [] ob7 c1_8 c2_8 (0 : Int64) x1 x2 x3 (0 : Int64) (0 : Int64) (0 : Int64) (0 : Int64) (0 : Int64) (0 : Int64) (0 : Int64) (0 : Int64) (0 : Int64) (0 : Int64) (0 : Int64) (0 : Int64) (8 : Int64) x4 x5 x6 (0 : Int64) (0 : Int64) (0 : Int64) (0 : Int64) (0 : Int64) (0 : Int64) (0 : Int64) (0 : Int64) (0 : Int64) (0 : Int64) (0 : Int64) (0 : Int64) T96.heap n0 (Nat.le_trans Z0 K0.1) Fs96 Fr96 Fp96 Vr96 Vp96) (by decide) (by decide) (by decide) (by decide) Eq8 (g := (mkF m 105 #[.val (.long q0), .second, .val (.int p1), .val (.int p2), .val (.int p3), .val (.int p4), .val (.int p5), .val (.long x1), .second, .val (.long x2), .second, .val (.long x3), .second, .val (.long x4), .second, .val (.long x5), .second, .val (.long x6), .second, .val (.ref ob7), .unset, .unset, .unset, .unset, .unset] [(.ref ob7)])) rfl (by rw [hml]; rfl) (lenOf pd____J_246 rfl) rfl (by show 2 * 0 + _ ≤ _; exact Nat.le_of_eq rfl) (hb hby at_105) rfl ?_
        rintro v97 T97 L97 X97 ⟨bq97, rfl, N97q, szq97, Kq97, Vq97⟩
        have N97 := Fr.app N96 N97q
        have K0 := K0.trans Kq97 all0
        have Eq8 := Eq8.keep Kq97
        have Fs96 := Fs96.keep Kq97 nin0
        have Fr96 := Fr96.keep Kq97 nin0
        have Fp96 := Fp96.keep Kq97 nin0
        have Vr96 := Vr96.keep Kq97 nin0
        have Vp96 := Vp96.keep Kq97 nin0
        show GG _ _ _ _ _ _ _ T97 (mkF m 108 #[.val (.long q0), .second, .val (.int p1), .val (.int p2), .val (.int p3), .val (.int p4), .val (.int p5), .val (.long x1), .second, .val (.long x2), .second, .val (.long x3), .second, .val (.long x4), .second, .val (.long x5), .second, .val (.long x6), .second, .val (.ref ob7), .unset, .unset, .unset, .unset, .unset] [(.ref bq97)])
        refine own_go (fun _ => XS.astore X97.here hx rfl (hb hby at_108) rfl rfl (l' := #[.val (.long q0), .second, .val (.int p1), .val (.int p2), .val (.int p3), .val (.int p4), .val (.int p5), .val (.long x1), .second, .val (.long x2), .second, .val (.long x3), .second, .val (.long x4), .second, .val (.long x5), .second, .val (.long x6), .second, .val (.ref ob7), .val (.ref bq97), .unset, .unset, .unset, .unset]) rfl) ?_
        show GG _ _ _ _ _ _ _ T97 (mkF m 110 #[.val (.long q0), .second, .val (.int p1), .val (.int p2), .val (.int p3), .val (.int p4), .val (.int p5), .val (.long x1), .second, .val (.long x2), .second, .val (.long x3), .second, .val (.long x4), .second, .val (.long x5), .second, .val (.long x6), .second, .val (.ref ob7), .val (.ref bq97), .unset, .unset, .unset, .unset] [])
        refine own_go (fun _ => XS.bipush X97.here hx rfl (hb hby at_110)) ?_
        show GG _ _ _ _ _ _ _ T97 (mkF m 112 #[.val (.long q0), .second, .val (.int p1), .val (.int p2), .val (.int p3), .val (.int p4), .val (.int p5), .val (.long x1), .second, .val (.long x2), .second, .val (.long x3), .second, .val (.long x4), .second, .val (.long x5), .second, .val (.long x6), .second, .val (.ref ob7), .val (.ref bq97), .unset, .unset, .unset, .unset] [(.int (6 : Int32))])
        obtain ⟨T98, h98, ob98, g98, X98, e98, E98, V_ob98, E_ob98, st98⟩ := own_newarr X97 hx hZ (hw _ (List.mem_of_getElem? (i := 13) rfl)) rfl (g := (mkF m 112 #[.val (.long q0), .second, .val (.int p1), .val (.int p2), .val (.int p3), .val (.int p4), .val (.int p5), .val (.long x1), .second, .val (.long x2), .second, .val (.long x3), .second, .val (.long x4), .second, .val (.long x5), .second, .val (.long x6), .second, .val (.ref ob7), .val (.ref bq97), .unset, .unset, .unset, .unset] [(.int (6 : Int32))])) rfl (hb hby at_112) rfl (by decide) (cap := 6) (by decide) (by decide) (by decide) (by decide) (ad := "[J") (by decide)
        have ne_ob7_ob98 : ob7 ≠ ob98 := Nat.ne_of_lt (Nat.lt_of_lt_of_le Eq8.lt (Nat.le_of_eq g98.symm))
        have ne_c1_8_ob98 : c1_8 ≠ ob98 := Nat.ne_of_lt (Nat.lt_of_lt_of_le Vr96.lt (Nat.le_of_eq g98.symm))
        have ne_c2_8_ob98 : c2_8 ≠ ob98 := Nat.ne_of_lt (Nat.lt_of_lt_of_le Vp96.lt (Nat.le_of_eq g98.symm))
        have ne_bq97_ob98 : bq97 ≠ ob98 := Nat.ne_of_lt (Nat.lt_of_lt_of_le Vq97.lt (Nat.le_of_eq g98.symm))
        have sz_ob98 : h0.size ≤ ob98 := Nat.le_trans K0.1 (Nat.le_of_eq g98.symm)
        have g_ob98 : n0 ≤ ob98 := Nat.le_trans Z0 sz_ob98
        have K0 := K0.ext E98
        have Eq8 := Eq8.ext E98
        have Fs96 := Fs96.ext E98
        have Fr96 := Fr96.ext E98
        have Fp96 := Fp96.ext E98
        have Vr96 := Vr96.ext E98
        have Vp96 := Vp96.ext E98
        have Vq97 := Vq97.ext E98
        have V_ob98 : Arx Z h98 ob98 .long [(.long (0 : Int64)), (.long (0 : Int64)), (.long (0 : Int64)), (.long (0 : Int64)), (.long (0 : Int64)), (.long (0 : Int64))] := V_ob98
        refine own_go (fun _ => st98 _) ?_
        show GG _ _ _ _ _ _ _ T98 (mkF m 114 #[.val (.long q0), .second, .val (.int p1), .val (.int p2), .val (.int p3), .val (.int p4), .val (.int p5), .val (.long x1), .second, .val (.long x2), .second, .val (.long x3), .second, .val (.long x4), .second, .val (.long x5), .second, .val (.long x6), .second, .val (.ref ob7), .val (.ref bq97), .unset, .unset, .unset, .unset] [(.ref ob98)])
        refine own_go (fun _ => XS.astore X98.here hx rfl (hb hby at_114) rfl rfl (l' := #[.val (.long q0), .second, .val (.int p1), .val (.int p2), .val (.int p3), .val (.int p4), .val (.int p5), .val (.long x1), .second, .val (.long x2), .second, .val (.long x3), .second, .val (.long x4), .second, .val (.long x5), .second, .val (.long x6), .second, .val (.ref ob7), .val (.ref bq97), .val (.ref ob98), .unset, .unset, .unset]) rfl) ?_
        show GG _ _ _ _ _ _ _ T98 (mkF m 116 #[.val (.long q0), .second, .val (.int p1), .val (.int p2), .val (.int p3), .val (.int p4), .val (.int p5), .val (.long x1), .second, .val (.long x2), .second, .val (.long x3), .second, .val (.long x4), .second, .val (.long x5), .second, .val (.long x6), .second, .val (.ref ob7), .val (.ref bq97), .val (.ref ob98), .unset, .unset, .unset] [])
        refine own_go (fun _ => XS.iconst X98.here hx rfl (hb hby at_116)) ?_
        show GG _ _ _ _ _ _ _ T98 (mkF m 117 #[.val (.long q0), .second, .val (.int p1), .val (.int p2), .val (.int p3), .val (.int p4), .val (.int p5), .val (.long x1), .second, .val (.long x2), .second, .val (.long x3), .second, .val (.long x4), .second, .val (.long x5), .second, .val (.long x6), .second, .val (.ref ob7), .val (.ref bq97), .val (.ref ob98), .unset, .unset, .unset] [(.int (0 : Int32))])
        refine own_go (fun _ => XS.istore X98.here hx rfl (hb hby at_117) rfl (l' := #[.val (.long q0), .second, .val (.int p1), .val (.int p2), .val (.int p3), .val (.int p4), .val (.int p5), .val (.long x1), .second, .val (.long x2), .second, .val (.long x3), .second, .val (.long x4), .second, .val (.long x5), .second, .val (.long x6), .second, .val (.ref ob7), .val (.ref bq97), .val (.ref ob98), .val (.int (0 : Int32)), .unset, .unset]) rfl) ?_
        show GG _ _ _ _ _ _ _ T98 (mkF m 119 #[.val (.long q0), .second, .val (.int p1), .val (.int p2), .val (.int p3), .val (.int p4), .val (.int p5), .val (.long x1), .second, .val (.long x2), .second, .val (.long x3), .second, .val (.long x4), .second, .val (.long x5), .second, .val (.long x6), .second, .val (.ref ob7), .val (.ref bq97), .val (.ref ob98), .val (.int (0 : Int32)), .unset, .unset] [])
        refine own_go (fun _ => X98.ldc2Long hx hown (mvT hZ (hw _ (List.mem_of_getElem? (i := 2) rfl))) (g := (mkF m 119 #[.val (.long q0), .second, .val (.int p1), .val (.int p2), .val (.int p3), .val (.int p4), .val (.int p5), .val (.long x1), .second, .val (.long x2), .second, .val (.long x3), .second, .val (.long x4), .second, .val (.long x5), .second, .val (.long x6), .second, .val (.ref ob7), .val (.ref bq97), .val (.ref ob98), .val (.int (0 : Int32)), .unset, .unset] [])) rfl (hb hby at_119) _) ?_
        show GG _ _ _ _ _ _ _ T98 (mkF m 122 #[.val (.long q0), .second, .val (.int p1), .val (.int p2), .val (.int p3), .val (.int p4), .val (.int p5), .val (.long x1), .second, .val (.long x2), .second, .val (.long x3), .second, .val (.long x4), .second, .val (.long x5), .second, .val (.long x6), .second, .val (.ref ob7), .val (.ref bq97), .val (.ref ob98), .val (.int (0 : Int32)), .unset, .unset] [(.long (8 : Int64))])
        refine own_go (fun _ => XS.lstore X98.here hx rfl (hb hby at_122) rfl (l' := #[.val (.long q0), .second, .val (.int p1), .val (.int p2), .val (.int p3), .val (.int p4), .val (.int p5), .val (.long x1), .second, .val (.long x2), .second, .val (.long x3), .second, .val (.long x4), .second, .val (.long x5), .second, .val (.long x6), .second, .val (.ref ob7), .val (.ref bq97), .val (.ref ob98), .val (.int (0 : Int32)), .val (.long (8 : Int64)), .second]) rfl) ?_
        show GG _ _ _ _ _ _ _ T98 (mkF m 124 #[.val (.long q0), .second, .val (.int p1), .val (.int p2), .val (.int p3), .val (.int p4), .val (.int p5), .val (.long x1), .second, .val (.long x2), .second, .val (.long x3), .second, .val (.long x4), .second, .val (.long x5), .second, .val (.long x6), .second, .val (.ref ob7), .val (.ref bq97), .val (.ref ob98), .val (.int (0 : Int32)), .val (.long (8 : Int64)), .second] [])
        refine own_go (fun _ => XS.lload X98.here hx rfl (hb hby at_124) rfl) ?_
        show GG _ _ _ _ _ _ _ T98 (mkF m 126 #[.val (.long q0), .second, .val (.int p1), .val (.int p2), .val (.int p3), .val (.int p4), .val (.int p5), .val (.long x1), .second, .val (.long x2), .second, .val (.long x3), .second, .val (.long x4), .second, .val (.long x5), .second, .val (.long x6), .second, .val (.ref ob7), .val (.ref bq97), .val (.ref ob98), .val (.int (0 : Int32)), .val (.long (8 : Int64)), .second] [(.long x4)])
        refine own_go (fun _ => XS.lload X98.here hx rfl (hb hby at_126) rfl) ?_
        show GG _ _ _ _ _ _ _ T98 (mkF m 128 #[.val (.long q0), .second, .val (.int p1), .val (.int p2), .val (.int p3), .val (.int p4), .val (.int p5), .val (.long x1), .second, .val (.long x2), .second, .val (.long x3), .second, .val (.long x4), .second, .val (.long x5), .second, .val (.long x6), .second, .val (.ref ob7), .val (.ref bq97), .val (.ref ob98), .val (.int (0 : Int32)), .val (.long (8 : Int64)), .second] [(.long (8 : Int64)), (.long x4)])
        refine own_go (fun _ => XS.lsub X98.here hx rfl (hb hby at_128) rfl) ?_
        show GG _ _ _ _ _ _ _ T98 (mkF m 129 #[.val (.long q0), .second, .val (.int p1), .val (.int p2), .val (.int p3), .val (.int p4), .val (.int p5), .val (.long x1), .second, .val (.long x2), .second, .val (.long x3), .second, .val (.long x4), .second, .val (.long x5), .second, .val (.long x6), .second, .val (.ref ob7), .val (.ref bq97), .val (.ref ob98), .val (.int (0 : Int32)), .val (.long (8 : Int64)), .second] [(.long (x4 - (8 : Int64)))])
        refine own_go (fun _ => X98.ldc2Long hx hown (mvT hZ (hw _ (List.mem_of_getElem? (i := 40) rfl))) (g := (mkF m 129 #[.val (.long q0), .second, .val (.int p1), .val (.int p2), .val (.int p3), .val (.int p4), .val (.int p5), .val (.long x1), .second, .val (.long x2), .second, .val (.long x3), .second, .val (.long x4), .second, .val (.long x5), .second, .val (.long x6), .second, .val (.ref ob7), .val (.ref bq97), .val (.ref ob98), .val (.int (0 : Int32)), .val (.long (8 : Int64)), .second] [(.long (x4 - (8 : Int64)))])) rfl (hb hby at_129) _) ?_
        show GG _ _ _ _ _ _ _ T98 (mkF m 132 #[.val (.long q0), .second, .val (.int p1), .val (.int p2), .val (.int p3), .val (.int p4), .val (.int p5), .val (.long x1), .second, .val (.long x2), .second, .val (.long x3), .second, .val (.long x4), .second, .val (.long x5), .second, .val (.long x6), .second, .val (.ref ob7), .val (.ref bq97), .val (.ref ob98), .val (.int (0 : Int32)), .val (.long (8 : Int64)), .second] [(.long (65536 : Int64)), (.long (x4 - (8 : Int64)))])
        refine own_go (fun _ => XS.lcmp X98.here hx rfl (hb hby at_132) rfl) ?_
        show GG _ _ _ _ _ _ _ T98 (mkF m 133 #[.val (.long q0), .second, .val (.int p1), .val (.int p2), .val (.int p3), .val (.int p4), .val (.int p5), .val (.long x1), .second, .val (.long x2), .second, .val (.long x3), .second, .val (.long x4), .second, .val (.long x5), .second, .val (.long x6), .second, .val (.ref ob7), .val (.ref bq97), .val (.ref ob98), .val (.int (0 : Int32)), .val (.long (8 : Int64)), .second] [(.int (lcmpW (x4 - (8 : Int64)) (65536 : Int64)))])
        have hc133 : ¬ ((x4 - (8 : Int64)) < (65536 : Int64)) := hp82
        refine own_go (fun _ => XS.ifNo X98.here hx rfl (hb hby at_133) rfl ((if0 _ _).trans (flt (fun q => hc133 ((lw_lt _ _).mp q))).1)) ?_
        show GG _ _ _ _ _ _ _ T98 (mkF m 136 #[.val (.long q0), .second, .val (.int p1), .val (.int p2), .val (.int p3), .val (.int p4), .val (.int p5), .val (.long x1), .second, .val (.long x2), .second, .val (.long x3), .second, .val (.long x4), .second, .val (.long x5), .second, .val (.long x6), .second, .val (.ref ob7), .val (.ref bq97), .val (.ref ob98), .val (.int (0 : Int32)), .val (.long (8 : Int64)), .second] [])
        refine own_go (fun _ => XS.aload X98.here hx rfl (hb hby at_136) rfl rfl) ?_
        show GG _ _ _ _ _ _ _ T98 (mkF m 138 #[.val (.long q0), .second, .val (.int p1), .val (.int p2), .val (.int p3), .val (.int p4), .val (.int p5), .val (.long x1), .second, .val (.long x2), .second, .val (.long x3), .second, .val (.long x4), .second, .val (.long x5), .second, .val (.long x6), .second, .val (.ref ob7), .val (.ref bq97), .val (.ref ob98), .val (.int (0 : Int32)), .val (.long (8 : Int64)), .second] [(.ref ob98)])
        refine own_go (fun _ => XS.iload X98.here hx rfl (hb hby at_138) rfl) ?_
        show GG _ _ _ _ _ _ _ T98 (mkF m 140 #[.val (.long q0), .second, .val (.int p1), .val (.int p2), .val (.int p3), .val (.int p4), .val (.int p5), .val (.long x1), .second, .val (.long x2), .second, .val (.long x3), .second, .val (.long x4), .second, .val (.long x5), .second, .val (.long x6), .second, .val (.ref ob7), .val (.ref bq97), .val (.ref ob98), .val (.int (0 : Int32)), .val (.long (8 : Int64)), .second] [(.int (0 : Int32)), (.ref ob98)])
        refine own_go (fun _ => XS.lload X98.here hx rfl (hb hby at_140) rfl) ?_
        show GG _ _ _ _ _ _ _ T98 (mkF m 142 #[.val (.long q0), .second, .val (.int p1), .val (.int p2), .val (.int p3), .val (.int p4), .val (.int p5), .val (.long x1), .second, .val (.long x2), .second, .val (.long x3), .second, .val (.long x4), .second, .val (.long x5), .second, .val (.long x6), .second, .val (.ref ob7), .val (.ref bq97), .val (.ref ob98), .val (.int (0 : Int32)), .val (.long (8 : Int64)), .second] [(.long x1), (.int (0 : Int32)), (.ref ob98)])
        obtain ⟨T99, h99, X99, e99, W99, V99, st99⟩ := own_lastore X98 hx hZ e98 V_ob98 (by decide) (Nat.le_of_ble_eq_true rfl) (g := (mkF m 142 #[.val (.long q0), .second, .val (.int p1), .val (.int p2), .val (.int p3), .val (.int p4), .val (.int p5), .val (.long x1), .second, .val (.long x2), .second, .val (.long x3), .second, .val (.long x4), .second, .val (.long x5), .second, .val (.long x6), .second, .val (.ref ob7), .val (.ref bq97), .val (.ref ob98), .val (.int (0 : Int32)), .val (.long (8 : Int64)), .second] [(.long x1), (.int (0 : Int32)), (.ref ob98)])) rfl rfl (hb hby at_142)
        have K0 := K0.wr W99 (Or.inr sz_ob98)
        have Eq8 := Eq8.wr W99
        have Fs96 := Fs96.other W99 (Or.inl ne_ob7_ob98)
        have Fr96 := Fr96.other W99 (Or.inl ne_ob7_ob98)
        have Fp96 := Fp96.other W99 (Or.inl ne_ob7_ob98)
        have Vr96 := Vr96.other W99 ne_c1_8_ob98
        have Vp96 := Vp96.other W99 ne_c2_8_ob98
        have Vq97 := Vq97.other W99 ne_bq97_ob98
        have E_ob98 := E_ob98.wr W99
        have V_ob98 : Arx Z h99 ob98 .long [(.long x1), (.long (0 : Int64)), (.long (0 : Int64)), (.long (0 : Int64)), (.long (0 : Int64)), (.long (0 : Int64))] := V99
        have N99 := Fr.snoc X99 N97 g_ob98
        refine own_go (fun _ => st99 _) ?_
        show GG _ _ _ _ _ _ _ T99 (mkF m 143 #[.val (.long q0), .second, .val (.int p1), .val (.int p2), .val (.int p3), .val (.int p4), .val (.int p5), .val (.long x1), .second, .val (.long x2), .second, .val (.long x3), .second, .val (.long x4), .second, .val (.long x5), .second, .val (.long x6), .second, .val (.ref ob7), .val (.ref bq97), .val (.ref ob98), .val (.int (0 : Int32)), .val (.long (8 : Int64)), .second] [])
        refine own_go (fun _ => XS.aload X99.here hx rfl (hb hby at_143) rfl rfl) ?_
        show GG _ _ _ _ _ _ _ T99 (mkF m 145 #[.val (.long q0), .second, .val (.int p1), .val (.int p2), .val (.int p3), .val (.int p4), .val (.int p5), .val (.long x1), .second, .val (.long x2), .second, .val (.long x3), .second, .val (.long x4), .second, .val (.long x5), .second, .val (.long x6), .second, .val (.ref ob7), .val (.ref bq97), .val (.ref ob98), .val (.int (0 : Int32)), .val (.long (8 : Int64)), .second] [(.ref ob98)])
        refine own_go (fun _ => XS.iload X99.here hx rfl (hb hby at_145) rfl) ?_
        show GG _ _ _ _ _ _ _ T99 (mkF m 147 #[.val (.long q0), .second, .val (.int p1), .val (.int p2), .val (.int p3), .val (.int p4), .val (.int p5), .val (.long x1), .second, .val (.long x2), .second, .val (.long x3), .second, .val (.long x4), .second, .val (.long x5), .second, .val (.long x6), .second, .val (.ref ob7), .val (.ref bq97), .val (.ref ob98), .val (.int (0 : Int32)), .val (.long (8 : Int64)), .second] [(.int (0 : Int32)), (.ref ob98)])
        refine own_go (fun _ => XS.iconst X99.here hx rfl (hb hby at_147)) ?_
        show GG _ _ _ _ _ _ _ T99 (mkF m 148 #[.val (.long q0), .second, .val (.int p1), .val (.int p2), .val (.int p3), .val (.int p4), .val (.int p5), .val (.long x1), .second, .val (.long x2), .second, .val (.long x3), .second, .val (.long x4), .second, .val (.long x5), .second, .val (.long x6), .second, .val (.ref ob7), .val (.ref bq97), .val (.ref ob98), .val (.int (0 : Int32)), .val (.long (8 : Int64)), .second] [(.int (1 : Int32)), (.int (0 : Int32)), (.ref ob98)])
        refine own_go (fun _ => XS.iadd X99.here hx rfl (hb hby at_148) rfl) ?_
        show GG _ _ _ _ _ _ _ T99 (mkF m 149 #[.val (.long q0), .second, .val (.int p1), .val (.int p2), .val (.int p3), .val (.int p4), .val (.int p5), .val (.long x1), .second, .val (.long x2), .second, .val (.long x3), .second, .val (.long x4), .second, .val (.long x5), .second, .val (.long x6), .second, .val (.ref ob7), .val (.ref bq97), .val (.ref ob98), .val (.int (0 : Int32)), .val (.long (8 : Int64)), .second] [(.int (1 : Int32)), (.ref ob98)])
        refine own_go (fun _ => XS.lload X99.here hx rfl (hb hby at_149) rfl) ?_
        show GG _ _ _ _ _ _ _ T99 (mkF m 151 #[.val (.long q0), .second, .val (.int p1), .val (.int p2), .val (.int p3), .val (.int p4), .val (.int p5), .val (.long x1), .second, .val (.long x2), .second, .val (.long x3), .second, .val (.long x4), .second, .val (.long x5), .second, .val (.long x6), .second, .val (.ref ob7), .val (.ref bq97), .val (.ref ob98), .val (.int (0 : Int32)), .val (.long (8 : Int64)), .second] [(.long x4), (.int (1 : Int32)), (.ref ob98)])
        obtain ⟨T100, h100, X100, e100, W100, V100, st100⟩ := own_lastore X99 hx hZ e99 V_ob98 (by decide) (Nat.le_of_ble_eq_true rfl) (g := (mkF m 151 #[.val (.long q0), .second, .val (.int p1), .val (.int p2), .val (.int p3), .val (.int p4), .val (.int p5), .val (.long x1), .second, .val (.long x2), .second, .val (.long x3), .second, .val (.long x4), .second, .val (.long x5), .second, .val (.long x6), .second, .val (.ref ob7), .val (.ref bq97), .val (.ref ob98), .val (.int (0 : Int32)), .val (.long (8 : Int64)), .second] [(.long x4), (.int (1 : Int32)), (.ref ob98)])) rfl rfl (hb hby at_151)
        have K0 := K0.wr W100 (Or.inr sz_ob98)
        have Eq8 := Eq8.wr W100
        have Fs96 := Fs96.other W100 (Or.inl ne_ob7_ob98)
        have Fr96 := Fr96.other W100 (Or.inl ne_ob7_ob98)
        have Fp96 := Fp96.other W100 (Or.inl ne_ob7_ob98)
        have Vr96 := Vr96.other W100 ne_c1_8_ob98
        have Vp96 := Vp96.other W100 ne_c2_8_ob98
        have Vq97 := Vq97.other W100 ne_bq97_ob98
        have E_ob98 := E_ob98.wr W100
        have V_ob98 : Arx Z h100 ob98 .long [(.long x1), (.long x4), (.long (0 : Int64)), (.long (0 : Int64)), (.long (0 : Int64)), (.long (0 : Int64))] := V100
        have N100 := Fr.snoc X100 N99 g_ob98
        refine own_go (fun _ => st100 _) ?_
        show GG _ _ _ _ _ _ _ T100 (mkF m 152 #[.val (.long q0), .second, .val (.int p1), .val (.int p2), .val (.int p3), .val (.int p4), .val (.int p5), .val (.long x1), .second, .val (.long x2), .second, .val (.long x3), .second, .val (.long x4), .second, .val (.long x5), .second, .val (.long x6), .second, .val (.ref ob7), .val (.ref bq97), .val (.ref ob98), .val (.int (0 : Int32)), .val (.long (8 : Int64)), .second] [])
        refine own_go (fun _ => XS.iload X100.here hx rfl (hb hby at_152) rfl) ?_
        show GG _ _ _ _ _ _ _ T100 (mkF m 154 #[.val (.long q0), .second, .val (.int p1), .val (.int p2), .val (.int p3), .val (.int p4), .val (.int p5), .val (.long x1), .second, .val (.long x2), .second, .val (.long x3), .second, .val (.long x4), .second, .val (.long x5), .second, .val (.long x6), .second, .val (.ref ob7), .val (.ref bq97), .val (.ref ob98), .val (.int (0 : Int32)), .val (.long (8 : Int64)), .second] [(.int (0 : Int32))])
        refine own_go (fun _ => XS.iconst X100.here hx rfl (hb hby at_154)) ?_
        show GG _ _ _ _ _ _ _ T100 (mkF m 155 #[.val (.long q0), .second, .val (.int p1), .val (.int p2), .val (.int p3), .val (.int p4), .val (.int p5), .val (.long x1), .second, .val (.long x2), .second, .val (.long x3), .second, .val (.long x4), .second, .val (.long x5), .second, .val (.long x6), .second, .val (.ref ob7), .val (.ref bq97), .val (.ref ob98), .val (.int (0 : Int32)), .val (.long (8 : Int64)), .second] [(.int (2 : Int32)), (.int (0 : Int32))])
        refine own_go (fun _ => XS.iadd X100.here hx rfl (hb hby at_155) rfl) ?_
        show GG _ _ _ _ _ _ _ T100 (mkF m 156 #[.val (.long q0), .second, .val (.int p1), .val (.int p2), .val (.int p3), .val (.int p4), .val (.int p5), .val (.long x1), .second, .val (.long x2), .second, .val (.long x3), .second, .val (.long x4), .second, .val (.long x5), .second, .val (.long x6), .second, .val (.ref ob7), .val (.ref bq97), .val (.ref ob98), .val (.int (0 : Int32)), .val (.long (8 : Int64)), .second] [(.int (2 : Int32))])
        refine own_go (fun _ => XS.istore X100.here hx rfl (hb hby at_156) rfl (l' := #[.val (.long q0), .second, .val (.int p1), .val (.int p2), .val (.int p3), .val (.int p4), .val (.int p5), .val (.long x1), .second, .val (.long x2), .second, .val (.long x3), .second, .val (.long x4), .second, .val (.long x5), .second, .val (.long x6), .second, .val (.ref ob7), .val (.ref bq97), .val (.ref ob98), .val (.int (2 : Int32)), .val (.long (8 : Int64)), .second]) rfl) ?_
        show GG _ _ _ _ _ _ _ T100 (mkF m 158 #[.val (.long q0), .second, .val (.int p1), .val (.int p2), .val (.int p3), .val (.int p4), .val (.int p5), .val (.long x1), .second, .val (.long x2), .second, .val (.long x3), .second, .val (.long x4), .second, .val (.long x5), .second, .val (.long x6), .second, .val (.ref ob7), .val (.ref bq97), .val (.ref ob98), .val (.int (2 : Int32)), .val (.long (8 : Int64)), .second] [])
        refine own_go (fun _ => XS.lload X100.here hx rfl (hb hby at_158) rfl) ?_
        show GG _ _ _ _ _ _ _ T100 (mkF m 160 #[.val (.long q0), .second, .val (.int p1), .val (.int p2), .val (.int p3), .val (.int p4), .val (.int p5), .val (.long x1), .second, .val (.long x2), .second, .val (.long x3), .second, .val (.long x4), .second, .val (.long x5), .second, .val (.long x6), .second, .val (.ref ob7), .val (.ref bq97), .val (.ref ob98), .val (.int (2 : Int32)), .val (.long (8 : Int64)), .second] [(.long x4)])
        refine own_go (fun _ => XS.lstore X100.here hx rfl (hb hby at_160) rfl (l' := #[.val (.long q0), .second, .val (.int p1), .val (.int p2), .val (.int p3), .val (.int p4), .val (.int p5), .val (.long x1), .second, .val (.long x2), .second, .val (.long x3), .second, .val (.long x4), .second, .val (.long x5), .second, .val (.long x6), .second, .val (.ref ob7), .val (.ref bq97), .val (.ref ob98), .val (.int (2 : Int32)), .val (.long x4), .second]) rfl) ?_
        show GG _ _ _ _ _ _ _ T100 (mkF m 162 #[.val (.long q0), .second, .val (.int p1), .val (.int p2), .val (.int p3), .val (.int p4), .val (.int p5), .val (.long x1), .second, .val (.long x2), .second, .val (.long x3), .second, .val (.long x4), .second, .val (.long x5), .second, .val (.long x6), .second, .val (.ref ob7), .val (.ref bq97), .val (.ref ob98), .val (.int (2 : Int32)), .val (.long x4), .second] [])
        refine own_go (fun _ => XS.lload X100.here hx rfl (hb hby at_162) rfl) ?_
        show GG _ _ _ _ _ _ _ T100 (mkF m 164 #[.val (.long q0), .second, .val (.int p1), .val (.int p2), .val (.int p3), .val (.int p4), .val (.int p5), .val (.long x1), .second, .val (.long x2), .second, .val (.long x3), .second, .val (.long x4), .second, .val (.long x5), .second, .val (.long x6), .second, .val (.ref ob7), .val (.ref bq97), .val (.ref ob98), .val (.int (2 : Int32)), .val (.long x4), .second] [(.long x5)])
        refine own_go (fun _ => XS.lload X100.here hx rfl (hb hby at_164) rfl) ?_
        show GG _ _ _ _ _ _ _ T100 (mkF m 166 #[.val (.long q0), .second, .val (.int p1), .val (.int p2), .val (.int p3), .val (.int p4), .val (.int p5), .val (.long x1), .second, .val (.long x2), .second, .val (.long x3), .second, .val (.long x4), .second, .val (.long x5), .second, .val (.long x6), .second, .val (.ref ob7), .val (.ref bq97), .val (.ref ob98), .val (.int (2 : Int32)), .val (.long x4), .second] [(.long x4), (.long x5)])
        refine own_go (fun _ => XS.lsub X100.here hx rfl (hb hby at_166) rfl) ?_
        show GG _ _ _ _ _ _ _ T100 (mkF m 167 #[.val (.long q0), .second, .val (.int p1), .val (.int p2), .val (.int p3), .val (.int p4), .val (.int p5), .val (.long x1), .second, .val (.long x2), .second, .val (.long x3), .second, .val (.long x4), .second, .val (.long x5), .second, .val (.long x6), .second, .val (.ref ob7), .val (.ref bq97), .val (.ref ob98), .val (.int (2 : Int32)), .val (.long x4), .second] [(.long (x5 - x4))])
        refine own_go (fun _ => X100.ldc2Long hx hown (mvT hZ (hw _ (List.mem_of_getElem? (i := 40) rfl))) (g := (mkF m 167 #[.val (.long q0), .second, .val (.int p1), .val (.int p2), .val (.int p3), .val (.int p4), .val (.int p5), .val (.long x1), .second, .val (.long x2), .second, .val (.long x3), .second, .val (.long x4), .second, .val (.long x5), .second, .val (.long x6), .second, .val (.ref ob7), .val (.ref bq97), .val (.ref ob98), .val (.int (2 : Int32)), .val (.long x4), .second] [(.long (x5 - x4))])) rfl (hb hby at_167) _) ?_
        show GG _ _ _ _ _ _ _ T100 (mkF m 170 #[.val (.long q0), .second, .val (.int p1), .val (.int p2), .val (.int p3), .val (.int p4), .val (.int p5), .val (.long x1), .second, .val (.long x2), .second, .val (.long x3), .second, .val (.long x4), .second, .val (.long x5), .second, .val (.long x6), .second, .val (.ref ob7), .val (.ref bq97), .val (.ref ob98), .val (.int (2 : Int32)), .val (.long x4), .second] [(.long (65536 : Int64)), (.long (x5 - x4))])
        refine own_go (fun _ => XS.lcmp X100.here hx rfl (hb hby at_170) rfl) ?_
        show GG _ _ _ _ _ _ _ T100 (mkF m 171 #[.val (.long q0), .second, .val (.int p1), .val (.int p2), .val (.int p3), .val (.int p4), .val (.int p5), .val (.long x1), .second, .val (.long x2), .second, .val (.long x3), .second, .val (.long x4), .second, .val (.long x5), .second, .val (.long x6), .second, .val (.ref ob7), .val (.ref bq97), .val (.ref ob98), .val (.int (2 : Int32)), .val (.long x4), .second] [(.int (lcmpW (x5 - x4) (65536 : Int64)))])
        have hc171 : ¬ ((x5 - x4) < (65536 : Int64)) := hp91
        refine own_go (fun _ => XS.ifNo X100.here hx rfl (hb hby at_171) rfl ((if0 _ _).trans (flt (fun q => hc171 ((lw_lt _ _).mp q))).1)) ?_
        show GG _ _ _ _ _ _ _ T100 (mkF m 174 #[.val (.long q0), .second, .val (.int p1), .val (.int p2), .val (.int p3), .val (.int p4), .val (.int p5), .val (.long x1), .second, .val (.long x2), .second, .val (.long x3), .second, .val (.long x4), .second, .val (.long x5), .second, .val (.long x6), .second, .val (.ref ob7), .val (.ref bq97), .val (.ref ob98), .val (.int (2 : Int32)), .val (.long x4), .second] [])
        refine own_go (fun _ => XS.aload X100.here hx rfl (hb hby at_174) rfl rfl) ?_
        show GG _ _ _ _ _ _ _ T100 (mkF m 176 #[.val (.long q0), .second, .val (.int p1), .val (.int p2), .val (.int p3), .val (.int p4), .val (.int p5), .val (.long x1), .second, .val (.long x2), .second, .val (.long x3), .second, .val (.long x4), .second, .val (.long x5), .second, .val (.long x6), .second, .val (.ref ob7), .val (.ref bq97), .val (.ref ob98), .val (.int (2 : Int32)), .val (.long x4), .second] [(.ref ob98)])
        refine own_go (fun _ => XS.iload X100.here hx rfl (hb hby at_176) rfl) ?_
        show GG _ _ _ _ _ _ _ T100 (mkF m 178 #[.val (.long q0), .second, .val (.int p1), .val (.int p2), .val (.int p3), .val (.int p4), .val (.int p5), .val (.long x1), .second, .val (.long x2), .second, .val (.long x3), .second, .val (.long x4), .second, .val (.long x5), .second, .val (.long x6), .second, .val (.ref ob7), .val (.ref bq97), .val (.ref ob98), .val (.int (2 : Int32)), .val (.long x4), .second] [(.int (2 : Int32)), (.ref ob98)])
        refine own_go (fun _ => XS.lload X100.here hx rfl (hb hby at_178) rfl) ?_
        show GG _ _ _ _ _ _ _ T100 (mkF m 180 #[.val (.long q0), .second, .val (.int p1), .val (.int p2), .val (.int p3), .val (.int p4), .val (.int p5), .val (.long x1), .second, .val (.long x2), .second, .val (.long x3), .second, .val (.long x4), .second, .val (.long x5), .second, .val (.long x6), .second, .val (.ref ob7), .val (.ref bq97), .val (.ref ob98), .val (.int (2 : Int32)), .val (.long x4), .second] [(.long x2), (.int (2 : Int32)), (.ref ob98)])
        obtain ⟨T101, h101, X101, e101, W101, V101, st101⟩ := own_lastore X100 hx hZ e100 V_ob98 (by decide) (Nat.le_of_ble_eq_true rfl) (g := (mkF m 180 #[.val (.long q0), .second, .val (.int p1), .val (.int p2), .val (.int p3), .val (.int p4), .val (.int p5), .val (.long x1), .second, .val (.long x2), .second, .val (.long x3), .second, .val (.long x4), .second, .val (.long x5), .second, .val (.long x6), .second, .val (.ref ob7), .val (.ref bq97), .val (.ref ob98), .val (.int (2 : Int32)), .val (.long x4), .second] [(.long x2), (.int (2 : Int32)), (.ref ob98)])) rfl rfl (hb hby at_180)
        have K0 := K0.wr W101 (Or.inr sz_ob98)
        have Eq8 := Eq8.wr W101
        have Fs96 := Fs96.other W101 (Or.inl ne_ob7_ob98)
        have Fr96 := Fr96.other W101 (Or.inl ne_ob7_ob98)
        have Fp96 := Fp96.other W101 (Or.inl ne_ob7_ob98)
        have Vr96 := Vr96.other W101 ne_c1_8_ob98
        have Vp96 := Vp96.other W101 ne_c2_8_ob98
        have Vq97 := Vq97.other W101 ne_bq97_ob98
        have E_ob98 := E_ob98.wr W101
        have V_ob98 : Arx Z h101 ob98 .long [(.long x1), (.long x4), (.long x2), (.long (0 : Int64)), (.long (0 : Int64)), (.long (0 : Int64))] := V101
        have N101 := Fr.snoc X101 N100 g_ob98
        refine own_go (fun _ => st101 _) ?_
        show GG _ _ _ _ _ _ _ T101 (mkF m 181 #[.val (.long q0), .second, .val (.int p1), .val (.int p2), .val (.int p3), .val (.int p4), .val (.int p5), .val (.long x1), .second, .val (.long x2), .second, .val (.long x3), .second, .val (.long x4), .second, .val (.long x5), .second, .val (.long x6), .second, .val (.ref ob7), .val (.ref bq97), .val (.ref ob98), .val (.int (2 : Int32)), .val (.long x4), .second] [])
        refine own_go (fun _ => XS.aload X101.here hx rfl (hb hby at_181) rfl rfl) ?_
        show GG _ _ _ _ _ _ _ T101 (mkF m 183 #[.val (.long q0), .second, .val (.int p1), .val (.int p2), .val (.int p3), .val (.int p4), .val (.int p5), .val (.long x1), .second, .val (.long x2), .second, .val (.long x3), .second, .val (.long x4), .second, .val (.long x5), .second, .val (.long x6), .second, .val (.ref ob7), .val (.ref bq97), .val (.ref ob98), .val (.int (2 : Int32)), .val (.long x4), .second] [(.ref ob98)])
        refine own_go (fun _ => XS.iload X101.here hx rfl (hb hby at_183) rfl) ?_
        show GG _ _ _ _ _ _ _ T101 (mkF m 185 #[.val (.long q0), .second, .val (.int p1), .val (.int p2), .val (.int p3), .val (.int p4), .val (.int p5), .val (.long x1), .second, .val (.long x2), .second, .val (.long x3), .second, .val (.long x4), .second, .val (.long x5), .second, .val (.long x6), .second, .val (.ref ob7), .val (.ref bq97), .val (.ref ob98), .val (.int (2 : Int32)), .val (.long x4), .second] [(.int (2 : Int32)), (.ref ob98)])
        refine own_go (fun _ => XS.iconst X101.here hx rfl (hb hby at_185)) ?_
        show GG _ _ _ _ _ _ _ T101 (mkF m 186 #[.val (.long q0), .second, .val (.int p1), .val (.int p2), .val (.int p3), .val (.int p4), .val (.int p5), .val (.long x1), .second, .val (.long x2), .second, .val (.long x3), .second, .val (.long x4), .second, .val (.long x5), .second, .val (.long x6), .second, .val (.ref ob7), .val (.ref bq97), .val (.ref ob98), .val (.int (2 : Int32)), .val (.long x4), .second] [(.int (1 : Int32)), (.int (2 : Int32)), (.ref ob98)])
        refine own_go (fun _ => XS.iadd X101.here hx rfl (hb hby at_186) rfl) ?_
        show GG _ _ _ _ _ _ _ T101 (mkF m 187 #[.val (.long q0), .second, .val (.int p1), .val (.int p2), .val (.int p3), .val (.int p4), .val (.int p5), .val (.long x1), .second, .val (.long x2), .second, .val (.long x3), .second, .val (.long x4), .second, .val (.long x5), .second, .val (.long x6), .second, .val (.ref ob7), .val (.ref bq97), .val (.ref ob98), .val (.int (2 : Int32)), .val (.long x4), .second] [(.int (3 : Int32)), (.ref ob98)])
        refine own_go (fun _ => XS.lload X101.here hx rfl (hb hby at_187) rfl) ?_
        show GG _ _ _ _ _ _ _ T101 (mkF m 189 #[.val (.long q0), .second, .val (.int p1), .val (.int p2), .val (.int p3), .val (.int p4), .val (.int p5), .val (.long x1), .second, .val (.long x2), .second, .val (.long x3), .second, .val (.long x4), .second, .val (.long x5), .second, .val (.long x6), .second, .val (.ref ob7), .val (.ref bq97), .val (.ref ob98), .val (.int (2 : Int32)), .val (.long x4), .second] [(.long x5), (.int (3 : Int32)), (.ref ob98)])
        obtain ⟨T102, h102, X102, e102, W102, V102, st102⟩ := own_lastore X101 hx hZ e101 V_ob98 (by decide) (Nat.le_of_ble_eq_true rfl) (g := (mkF m 189 #[.val (.long q0), .second, .val (.int p1), .val (.int p2), .val (.int p3), .val (.int p4), .val (.int p5), .val (.long x1), .second, .val (.long x2), .second, .val (.long x3), .second, .val (.long x4), .second, .val (.long x5), .second, .val (.long x6), .second, .val (.ref ob7), .val (.ref bq97), .val (.ref ob98), .val (.int (2 : Int32)), .val (.long x4), .second] [(.long x5), (.int (3 : Int32)), (.ref ob98)])) rfl rfl (hb hby at_189)
        have K0 := K0.wr W102 (Or.inr sz_ob98)
        have Eq8 := Eq8.wr W102
        have Fs96 := Fs96.other W102 (Or.inl ne_ob7_ob98)
        have Fr96 := Fr96.other W102 (Or.inl ne_ob7_ob98)
        have Fp96 := Fp96.other W102 (Or.inl ne_ob7_ob98)
        have Vr96 := Vr96.other W102 ne_c1_8_ob98
        have Vp96 := Vp96.other W102 ne_c2_8_ob98
        have Vq97 := Vq97.other W102 ne_bq97_ob98
        have E_ob98 := E_ob98.wr W102
        have V_ob98 : Arx Z h102 ob98 .long [(.long x1), (.long x4), (.long x2), (.long x5), (.long (0 : Int64)), (.long (0 : Int64))] := V102
        have N102 := Fr.snoc X102 N101 g_ob98
        refine own_go (fun _ => st102 _) ?_
        show GG _ _ _ _ _ _ _ T102 (mkF m 190 #[.val (.long q0), .second, .val (.int p1), .val (.int p2), .val (.int p3), .val (.int p4), .val (.int p5), .val (.long x1), .second, .val (.long x2), .second, .val (.long x3), .second, .val (.long x4), .second, .val (.long x5), .second, .val (.long x6), .second, .val (.ref ob7), .val (.ref bq97), .val (.ref ob98), .val (.int (2 : Int32)), .val (.long x4), .second] [])
        refine own_go (fun _ => XS.iload X102.here hx rfl (hb hby at_190) rfl) ?_
        show GG _ _ _ _ _ _ _ T102 (mkF m 192 #[.val (.long q0), .second, .val (.int p1), .val (.int p2), .val (.int p3), .val (.int p4), .val (.int p5), .val (.long x1), .second, .val (.long x2), .second, .val (.long x3), .second, .val (.long x4), .second, .val (.long x5), .second, .val (.long x6), .second, .val (.ref ob7), .val (.ref bq97), .val (.ref ob98), .val (.int (2 : Int32)), .val (.long x4), .second] [(.int (2 : Int32))])
        refine own_go (fun _ => XS.iconst X102.here hx rfl (hb hby at_192)) ?_
        show GG _ _ _ _ _ _ _ T102 (mkF m 193 #[.val (.long q0), .second, .val (.int p1), .val (.int p2), .val (.int p3), .val (.int p4), .val (.int p5), .val (.long x1), .second, .val (.long x2), .second, .val (.long x3), .second, .val (.long x4), .second, .val (.long x5), .second, .val (.long x6), .second, .val (.ref ob7), .val (.ref bq97), .val (.ref ob98), .val (.int (2 : Int32)), .val (.long x4), .second] [(.int (2 : Int32)), (.int (2 : Int32))])
        refine own_go (fun _ => XS.iadd X102.here hx rfl (hb hby at_193) rfl) ?_
        show GG _ _ _ _ _ _ _ T102 (mkF m 194 #[.val (.long q0), .second, .val (.int p1), .val (.int p2), .val (.int p3), .val (.int p4), .val (.int p5), .val (.long x1), .second, .val (.long x2), .second, .val (.long x3), .second, .val (.long x4), .second, .val (.long x5), .second, .val (.long x6), .second, .val (.ref ob7), .val (.ref bq97), .val (.ref ob98), .val (.int (2 : Int32)), .val (.long x4), .second] [(.int (4 : Int32))])
        refine own_go (fun _ => XS.istore X102.here hx rfl (hb hby at_194) rfl (l' := #[.val (.long q0), .second, .val (.int p1), .val (.int p2), .val (.int p3), .val (.int p4), .val (.int p5), .val (.long x1), .second, .val (.long x2), .second, .val (.long x3), .second, .val (.long x4), .second, .val (.long x5), .second, .val (.long x6), .second, .val (.ref ob7), .val (.ref bq97), .val (.ref ob98), .val (.int (4 : Int32)), .val (.long x4), .second]) rfl) ?_
        show GG _ _ _ _ _ _ _ T102 (mkF m 196 #[.val (.long q0), .second, .val (.int p1), .val (.int p2), .val (.int p3), .val (.int p4), .val (.int p5), .val (.long x1), .second, .val (.long x2), .second, .val (.long x3), .second, .val (.long x4), .second, .val (.long x5), .second, .val (.long x6), .second, .val (.ref ob7), .val (.ref bq97), .val (.ref ob98), .val (.int (4 : Int32)), .val (.long x4), .second] [])
        refine own_go (fun _ => XS.lload X102.here hx rfl (hb hby at_196) rfl) ?_
        show GG _ _ _ _ _ _ _ T102 (mkF m 198 #[.val (.long q0), .second, .val (.int p1), .val (.int p2), .val (.int p3), .val (.int p4), .val (.int p5), .val (.long x1), .second, .val (.long x2), .second, .val (.long x3), .second, .val (.long x4), .second, .val (.long x5), .second, .val (.long x6), .second, .val (.ref ob7), .val (.ref bq97), .val (.ref ob98), .val (.int (4 : Int32)), .val (.long x4), .second] [(.long x5)])
        refine own_go (fun _ => XS.lstore X102.here hx rfl (hb hby at_198) rfl (l' := #[.val (.long q0), .second, .val (.int p1), .val (.int p2), .val (.int p3), .val (.int p4), .val (.int p5), .val (.long x1), .second, .val (.long x2), .second, .val (.long x3), .second, .val (.long x4), .second, .val (.long x5), .second, .val (.long x6), .second, .val (.ref ob7), .val (.ref bq97), .val (.ref ob98), .val (.int (4 : Int32)), .val (.long x5), .second]) rfl) ?_
        show GG _ _ _ _ _ _ _ T102 (mkF m 200 #[.val (.long q0), .second, .val (.int p1), .val (.int p2), .val (.int p3), .val (.int p4), .val (.int p5), .val (.long x1), .second, .val (.long x2), .second, .val (.long x3), .second, .val (.long x4), .second, .val (.long x5), .second, .val (.long x6), .second, .val (.ref ob7), .val (.ref bq97), .val (.ref ob98), .val (.int (4 : Int32)), .val (.long x5), .second] [])
        refine own_go (fun _ => XS.lload X102.here hx rfl (hb hby at_200) rfl) ?_
        show GG _ _ _ _ _ _ _ T102 (mkF m 202 #[.val (.long q0), .second, .val (.int p1), .val (.int p2), .val (.int p3), .val (.int p4), .val (.int p5), .val (.long x1), .second, .val (.long x2), .second, .val (.long x3), .second, .val (.long x4), .second, .val (.long x5), .second, .val (.long x6), .second, .val (.ref ob7), .val (.ref bq97), .val (.ref ob98), .val (.int (4 : Int32)), .val (.long x5), .second] [(.long x6)])
        refine own_go (fun _ => XS.lload X102.here hx rfl (hb hby at_202) rfl) ?_
        show GG _ _ _ _ _ _ _ T102 (mkF m 204 #[.val (.long q0), .second, .val (.int p1), .val (.int p2), .val (.int p3), .val (.int p4), .val (.int p5), .val (.long x1), .second, .val (.long x2), .second, .val (.long x3), .second, .val (.long x4), .second, .val (.long x5), .second, .val (.long x6), .second, .val (.ref ob7), .val (.ref bq97), .val (.ref ob98), .val (.int (4 : Int32)), .val (.long x5), .second] [(.long x5), (.long x6)])
        refine own_go (fun _ => XS.lsub X102.here hx rfl (hb hby at_204) rfl) ?_
        show GG _ _ _ _ _ _ _ T102 (mkF m 205 #[.val (.long q0), .second, .val (.int p1), .val (.int p2), .val (.int p3), .val (.int p4), .val (.int p5), .val (.long x1), .second, .val (.long x2), .second, .val (.long x3), .second, .val (.long x4), .second, .val (.long x5), .second, .val (.long x6), .second, .val (.ref ob7), .val (.ref bq97), .val (.ref ob98), .val (.int (4 : Int32)), .val (.long x5), .second] [(.long (x6 - x5))])
        refine own_go (fun _ => X102.ldc2Long hx hown (mvT hZ (hw _ (List.mem_of_getElem? (i := 40) rfl))) (g := (mkF m 205 #[.val (.long q0), .second, .val (.int p1), .val (.int p2), .val (.int p3), .val (.int p4), .val (.int p5), .val (.long x1), .second, .val (.long x2), .second, .val (.long x3), .second, .val (.long x4), .second, .val (.long x5), .second, .val (.long x6), .second, .val (.ref ob7), .val (.ref bq97), .val (.ref ob98), .val (.int (4 : Int32)), .val (.long x5), .second] [(.long (x6 - x5))])) rfl (hb hby at_205) _) ?_
        show GG _ _ _ _ _ _ _ T102 (mkF m 208 #[.val (.long q0), .second, .val (.int p1), .val (.int p2), .val (.int p3), .val (.int p4), .val (.int p5), .val (.long x1), .second, .val (.long x2), .second, .val (.long x3), .second, .val (.long x4), .second, .val (.long x5), .second, .val (.long x6), .second, .val (.ref ob7), .val (.ref bq97), .val (.ref ob98), .val (.int (4 : Int32)), .val (.long x5), .second] [(.long (65536 : Int64)), (.long (x6 - x5))])
        refine own_go (fun _ => XS.lcmp X102.here hx rfl (hb hby at_208) rfl) ?_
        show GG _ _ _ _ _ _ _ T102 (mkF m 209 #[.val (.long q0), .second, .val (.int p1), .val (.int p2), .val (.int p3), .val (.int p4), .val (.int p5), .val (.long x1), .second, .val (.long x2), .second, .val (.long x3), .second, .val (.long x4), .second, .val (.long x5), .second, .val (.long x6), .second, .val (.ref ob7), .val (.ref bq97), .val (.ref ob98), .val (.int (4 : Int32)), .val (.long x5), .second] [(.int (lcmpW (x6 - x5) (65536 : Int64)))])
        have hc209 : ¬ ((x6 - x5) < (65536 : Int64)) := hp100
        refine own_go (fun _ => XS.ifNo X102.here hx rfl (hb hby at_209) rfl ((if0 _ _).trans (flt (fun q => hc209 ((lw_lt _ _).mp q))).1)) ?_
        show GG _ _ _ _ _ _ _ T102 (mkF m 212 #[.val (.long q0), .second, .val (.int p1), .val (.int p2), .val (.int p3), .val (.int p4), .val (.int p5), .val (.long x1), .second, .val (.long x2), .second, .val (.long x3), .second, .val (.long x4), .second, .val (.long x5), .second, .val (.long x6), .second, .val (.ref ob7), .val (.ref bq97), .val (.ref ob98), .val (.int (4 : Int32)), .val (.long x5), .second] [])
        refine own_go (fun _ => XS.aload X102.here hx rfl (hb hby at_212) rfl rfl) ?_
        show GG _ _ _ _ _ _ _ T102 (mkF m 214 #[.val (.long q0), .second, .val (.int p1), .val (.int p2), .val (.int p3), .val (.int p4), .val (.int p5), .val (.long x1), .second, .val (.long x2), .second, .val (.long x3), .second, .val (.long x4), .second, .val (.long x5), .second, .val (.long x6), .second, .val (.ref ob7), .val (.ref bq97), .val (.ref ob98), .val (.int (4 : Int32)), .val (.long x5), .second] [(.ref ob98)])
        refine own_go (fun _ => XS.iload X102.here hx rfl (hb hby at_214) rfl) ?_
        show GG _ _ _ _ _ _ _ T102 (mkF m 216 #[.val (.long q0), .second, .val (.int p1), .val (.int p2), .val (.int p3), .val (.int p4), .val (.int p5), .val (.long x1), .second, .val (.long x2), .second, .val (.long x3), .second, .val (.long x4), .second, .val (.long x5), .second, .val (.long x6), .second, .val (.ref ob7), .val (.ref bq97), .val (.ref ob98), .val (.int (4 : Int32)), .val (.long x5), .second] [(.int (4 : Int32)), (.ref ob98)])
        refine own_go (fun _ => XS.lload X102.here hx rfl (hb hby at_216) rfl) ?_
        show GG _ _ _ _ _ _ _ T102 (mkF m 218 #[.val (.long q0), .second, .val (.int p1), .val (.int p2), .val (.int p3), .val (.int p4), .val (.int p5), .val (.long x1), .second, .val (.long x2), .second, .val (.long x3), .second, .val (.long x4), .second, .val (.long x5), .second, .val (.long x6), .second, .val (.ref ob7), .val (.ref bq97), .val (.ref ob98), .val (.int (4 : Int32)), .val (.long x5), .second] [(.long x3), (.int (4 : Int32)), (.ref ob98)])
        obtain ⟨T103, h103, X103, e103, W103, V103, st103⟩ := own_lastore X102 hx hZ e102 V_ob98 (by decide) (Nat.le_of_ble_eq_true rfl) (g := (mkF m 218 #[.val (.long q0), .second, .val (.int p1), .val (.int p2), .val (.int p3), .val (.int p4), .val (.int p5), .val (.long x1), .second, .val (.long x2), .second, .val (.long x3), .second, .val (.long x4), .second, .val (.long x5), .second, .val (.long x6), .second, .val (.ref ob7), .val (.ref bq97), .val (.ref ob98), .val (.int (4 : Int32)), .val (.long x5), .second] [(.long x3), (.int (4 : Int32)), (.ref ob98)])) rfl rfl (hb hby at_218)
        have K0 := K0.wr W103 (Or.inr sz_ob98)
        have Eq8 := Eq8.wr W103
        have Fs96 := Fs96.other W103 (Or.inl ne_ob7_ob98)
        have Fr96 := Fr96.other W103 (Or.inl ne_ob7_ob98)
        have Fp96 := Fp96.other W103 (Or.inl ne_ob7_ob98)
        have Vr96 := Vr96.other W103 ne_c1_8_ob98
        have Vp96 := Vp96.other W103 ne_c2_8_ob98
        have Vq97 := Vq97.other W103 ne_bq97_ob98
        have E_ob98 := E_ob98.wr W103
        have V_ob98 : Arx Z h103 ob98 .long [(.long x1), (.long x4), (.long x2), (.long x5), (.long x3), (.long (0 : Int64))] := V103
        have N103 := Fr.snoc X103 N102 g_ob98
        refine own_go (fun _ => st103 _) ?_
        show GG _ _ _ _ _ _ _ T103 (mkF m 219 #[.val (.long q0), .second, .val (.int p1), .val (.int p2), .val (.int p3), .val (.int p4), .val (.int p5), .val (.long x1), .second, .val (.long x2), .second, .val (.long x3), .second, .val (.long x4), .second, .val (.long x5), .second, .val (.long x6), .second, .val (.ref ob7), .val (.ref bq97), .val (.ref ob98), .val (.int (4 : Int32)), .val (.long x5), .second] [])
        refine own_go (fun _ => XS.aload X103.here hx rfl (hb hby at_219) rfl rfl) ?_
        show GG _ _ _ _ _ _ _ T103 (mkF m 221 #[.val (.long q0), .second, .val (.int p1), .val (.int p2), .val (.int p3), .val (.int p4), .val (.int p5), .val (.long x1), .second, .val (.long x2), .second, .val (.long x3), .second, .val (.long x4), .second, .val (.long x5), .second, .val (.long x6), .second, .val (.ref ob7), .val (.ref bq97), .val (.ref ob98), .val (.int (4 : Int32)), .val (.long x5), .second] [(.ref ob98)])
        refine own_go (fun _ => XS.iload X103.here hx rfl (hb hby at_221) rfl) ?_
        show GG _ _ _ _ _ _ _ T103 (mkF m 223 #[.val (.long q0), .second, .val (.int p1), .val (.int p2), .val (.int p3), .val (.int p4), .val (.int p5), .val (.long x1), .second, .val (.long x2), .second, .val (.long x3), .second, .val (.long x4), .second, .val (.long x5), .second, .val (.long x6), .second, .val (.ref ob7), .val (.ref bq97), .val (.ref ob98), .val (.int (4 : Int32)), .val (.long x5), .second] [(.int (4 : Int32)), (.ref ob98)])
        refine own_go (fun _ => XS.iconst X103.here hx rfl (hb hby at_223)) ?_
        show GG _ _ _ _ _ _ _ T103 (mkF m 224 #[.val (.long q0), .second, .val (.int p1), .val (.int p2), .val (.int p3), .val (.int p4), .val (.int p5), .val (.long x1), .second, .val (.long x2), .second, .val (.long x3), .second, .val (.long x4), .second, .val (.long x5), .second, .val (.long x6), .second, .val (.ref ob7), .val (.ref bq97), .val (.ref ob98), .val (.int (4 : Int32)), .val (.long x5), .second] [(.int (1 : Int32)), (.int (4 : Int32)), (.ref ob98)])
        refine own_go (fun _ => XS.iadd X103.here hx rfl (hb hby at_224) rfl) ?_
        show GG _ _ _ _ _ _ _ T103 (mkF m 225 #[.val (.long q0), .second, .val (.int p1), .val (.int p2), .val (.int p3), .val (.int p4), .val (.int p5), .val (.long x1), .second, .val (.long x2), .second, .val (.long x3), .second, .val (.long x4), .second, .val (.long x5), .second, .val (.long x6), .second, .val (.ref ob7), .val (.ref bq97), .val (.ref ob98), .val (.int (4 : Int32)), .val (.long x5), .second] [(.int (5 : Int32)), (.ref ob98)])
        refine own_go (fun _ => XS.lload X103.here hx rfl (hb hby at_225) rfl) ?_
        show GG _ _ _ _ _ _ _ T103 (mkF m 227 #[.val (.long q0), .second, .val (.int p1), .val (.int p2), .val (.int p3), .val (.int p4), .val (.int p5), .val (.long x1), .second, .val (.long x2), .second, .val (.long x3), .second, .val (.long x4), .second, .val (.long x5), .second, .val (.long x6), .second, .val (.ref ob7), .val (.ref bq97), .val (.ref ob98), .val (.int (4 : Int32)), .val (.long x5), .second] [(.long x6), (.int (5 : Int32)), (.ref ob98)])
        obtain ⟨T104, h104, X104, e104, W104, V104, st104⟩ := own_lastore X103 hx hZ e103 V_ob98 (by decide) (Nat.le_of_ble_eq_true rfl) (g := (mkF m 227 #[.val (.long q0), .second, .val (.int p1), .val (.int p2), .val (.int p3), .val (.int p4), .val (.int p5), .val (.long x1), .second, .val (.long x2), .second, .val (.long x3), .second, .val (.long x4), .second, .val (.long x5), .second, .val (.long x6), .second, .val (.ref ob7), .val (.ref bq97), .val (.ref ob98), .val (.int (4 : Int32)), .val (.long x5), .second] [(.long x6), (.int (5 : Int32)), (.ref ob98)])) rfl rfl (hb hby at_227)
        have K0 := K0.wr W104 (Or.inr sz_ob98)
        have Eq8 := Eq8.wr W104
        have Fs96 := Fs96.other W104 (Or.inl ne_ob7_ob98)
        have Fr96 := Fr96.other W104 (Or.inl ne_ob7_ob98)
        have Fp96 := Fp96.other W104 (Or.inl ne_ob7_ob98)
        have Vr96 := Vr96.other W104 ne_c1_8_ob98
        have Vp96 := Vp96.other W104 ne_c2_8_ob98
        have Vq97 := Vq97.other W104 ne_bq97_ob98
        have E_ob98 := E_ob98.wr W104
        have V_ob98 : Arx Z h104 ob98 .long [(.long x1), (.long x4), (.long x2), (.long x5), (.long x3), (.long x6)] := V104
        have N104 := Fr.snoc X104 N103 g_ob98
        refine own_go (fun _ => st104 _) ?_
        show GG _ _ _ _ _ _ _ T104 (mkF m 228 #[.val (.long q0), .second, .val (.int p1), .val (.int p2), .val (.int p3), .val (.int p4), .val (.int p5), .val (.long x1), .second, .val (.long x2), .second, .val (.long x3), .second, .val (.long x4), .second, .val (.long x5), .second, .val (.long x6), .second, .val (.ref ob7), .val (.ref bq97), .val (.ref ob98), .val (.int (4 : Int32)), .val (.long x5), .second] [])
        refine own_go (fun _ => XS.iload X104.here hx rfl (hb hby at_228) rfl) ?_
        show GG _ _ _ _ _ _ _ T104 (mkF m 230 #[.val (.long q0), .second, .val (.int p1), .val (.int p2), .val (.int p3), .val (.int p4), .val (.int p5), .val (.long x1), .second, .val (.long x2), .second, .val (.long x3), .second, .val (.long x4), .second, .val (.long x5), .second, .val (.long x6), .second, .val (.ref ob7), .val (.ref bq97), .val (.ref ob98), .val (.int (4 : Int32)), .val (.long x5), .second] [(.int (4 : Int32))])
        refine own_go (fun _ => XS.iconst X104.here hx rfl (hb hby at_230)) ?_
        show GG _ _ _ _ _ _ _ T104 (mkF m 231 #[.val (.long q0), .second, .val (.int p1), .val (.int p2), .val (.int p3), .val (.int p4), .val (.int p5), .val (.long x1), .second, .val (.long x2), .second, .val (.long x3), .second, .val (.long x4), .second, .val (.long x5), .second, .val (.long x6), .second, .val (.ref ob7), .val (.ref bq97), .val (.ref ob98), .val (.int (4 : Int32)), .val (.long x5), .second] [(.int (2 : Int32)), (.int (4 : Int32))])
        refine own_go (fun _ => XS.iadd X104.here hx rfl (hb hby at_231) rfl) ?_
        show GG _ _ _ _ _ _ _ T104 (mkF m 232 #[.val (.long q0), .second, .val (.int p1), .val (.int p2), .val (.int p3), .val (.int p4), .val (.int p5), .val (.long x1), .second, .val (.long x2), .second, .val (.long x3), .second, .val (.long x4), .second, .val (.long x5), .second, .val (.long x6), .second, .val (.ref ob7), .val (.ref bq97), .val (.ref ob98), .val (.int (4 : Int32)), .val (.long x5), .second] [(.int (6 : Int32))])
        refine own_go (fun _ => XS.istore X104.here hx rfl (hb hby at_232) rfl (l' := #[.val (.long q0), .second, .val (.int p1), .val (.int p2), .val (.int p3), .val (.int p4), .val (.int p5), .val (.long x1), .second, .val (.long x2), .second, .val (.long x3), .second, .val (.long x4), .second, .val (.long x5), .second, .val (.long x6), .second, .val (.ref ob7), .val (.ref bq97), .val (.ref ob98), .val (.int (6 : Int32)), .val (.long x5), .second]) rfl) ?_
        show GG _ _ _ _ _ _ _ T104 (mkF m 234 #[.val (.long q0), .second, .val (.int p1), .val (.int p2), .val (.int p3), .val (.int p4), .val (.int p5), .val (.long x1), .second, .val (.long x2), .second, .val (.long x3), .second, .val (.long x4), .second, .val (.long x5), .second, .val (.long x6), .second, .val (.ref ob7), .val (.ref bq97), .val (.ref ob98), .val (.int (6 : Int32)), .val (.long x5), .second] [])
        refine own_go (fun _ => XS.lload X104.here hx rfl (hb hby at_234) rfl) ?_
        show GG _ _ _ _ _ _ _ T104 (mkF m 236 #[.val (.long q0), .second, .val (.int p1), .val (.int p2), .val (.int p3), .val (.int p4), .val (.int p5), .val (.long x1), .second, .val (.long x2), .second, .val (.long x3), .second, .val (.long x4), .second, .val (.long x5), .second, .val (.long x6), .second, .val (.ref ob7), .val (.ref bq97), .val (.ref ob98), .val (.int (6 : Int32)), .val (.long x5), .second] [(.long x6)])
        refine own_go (fun _ => XS.lstore X104.here hx rfl (hb hby at_236) rfl (l' := #[.val (.long q0), .second, .val (.int p1), .val (.int p2), .val (.int p3), .val (.int p4), .val (.int p5), .val (.long x1), .second, .val (.long x2), .second, .val (.long x3), .second, .val (.long x4), .second, .val (.long x5), .second, .val (.long x6), .second, .val (.ref ob7), .val (.ref bq97), .val (.ref ob98), .val (.int (6 : Int32)), .val (.long x6), .second]) rfl) ?_
        show GG _ _ _ _ _ _ _ T104 (mkF m 238 #[.val (.long q0), .second, .val (.int p1), .val (.int p2), .val (.int p3), .val (.int p4), .val (.int p5), .val (.long x1), .second, .val (.long x2), .second, .val (.long x3), .second, .val (.long x4), .second, .val (.long x5), .second, .val (.long x6), .second, .val (.ref ob7), .val (.ref bq97), .val (.ref ob98), .val (.int (6 : Int32)), .val (.long x6), .second] [])
        refine own_go (fun _ => XS.aload X104.here hx rfl (hb hby at_238) rfl rfl) ?_
        show GG _ _ _ _ _ _ _ T104 (mkF m 240 #[.val (.long q0), .second, .val (.int p1), .val (.int p2), .val (.int p3), .val (.int p4), .val (.int p5), .val (.long x1), .second, .val (.long x2), .second, .val (.long x3), .second, .val (.long x4), .second, .val (.long x5), .second, .val (.long x6), .second, .val (.ref ob7), .val (.ref bq97), .val (.ref ob98), .val (.int (6 : Int32)), .val (.long x6), .second] [(.ref bq97)])
        refine own_go (fun _ => own_len X104 hx hZ e104 Vq97 (g := (mkF m 240 #[.val (.long q0), .second, .val (.int p1), .val (.int p2), .val (.int p3), .val (.int p4), .val (.int p5), .val (.long x1), .second, .val (.long x2), .second, .val (.long x3), .second, .val (.long x4), .second, .val (.long x5), .second, .val (.long x6), .second, .val (.ref ob7), .val (.ref bq97), .val (.ref ob98), .val (.int (6 : Int32)), .val (.long x6), .second] [(.ref bq97)])) rfl rfl (hb hby at_240) _) ?_
        show GG _ _ _ _ _ _ _ T104 (mkF m 241 #[.val (.long q0), .second, .val (.int p1), .val (.int p2), .val (.int p3), .val (.int p4), .val (.int p5), .val (.long x1), .second, .val (.long x2), .second, .val (.long x3), .second, .val (.long x4), .second, .val (.long x5), .second, .val (.long x6), .second, .val (.ref ob7), .val (.ref bq97), .val (.ref ob98), .val (.int (6 : Int32)), .val (.long x6), .second] [(.int (6 : Int32))])
        refine own_go (fun _ => XS.iload X104.here hx rfl (hb hby at_241) rfl) ?_
        show GG _ _ _ _ _ _ _ T104 (mkF m 243 #[.val (.long q0), .second, .val (.int p1), .val (.int p2), .val (.int p3), .val (.int p4), .val (.int p5), .val (.long x1), .second, .val (.long x2), .second, .val (.long x3), .second, .val (.long x4), .second, .val (.long x5), .second, .val (.long x6), .second, .val (.ref ob7), .val (.ref bq97), .val (.ref ob98), .val (.int (6 : Int32)), .val (.long x6), .second] [(.int (6 : Int32)), (.int (6 : Int32))])
        have hc243 : (6 : Int32) = (6 : Int32) := by decide
        refine own_go (fun _ => XS.icmpNo X104.here hx rfl (hb hby at_243) rfl (teq hc243).2) ?_
        show GG _ _ _ _ _ _ _ T104 (mkF m 246 #[.val (.long q0), .second, .val (.int p1), .val (.int p2), .val (.int p3), .val (.int p4), .val (.int p5), .val (.long x1), .second, .val (.long x2), .second, .val (.long x3), .second, .val (.long x4), .second, .val (.long x5), .second, .val (.long x6), .second, .val (.ref ob7), .val (.ref bq97), .val (.ref ob98), .val (.int (6 : Int32)), .val (.long x6), .second] [])
        refine own_go (fun _ => XS.aload X104.here hx rfl (hb hby at_246) rfl rfl) ?_
        show GG _ _ _ _ _ _ _ T104 (mkF m 248 #[.val (.long q0), .second, .val (.int p1), .val (.int p2), .val (.int p3), .val (.int p4), .val (.int p5), .val (.long x1), .second, .val (.long x2), .second, .val (.long x3), .second, .val (.long x4), .second, .val (.long x5), .second, .val (.long x6), .second, .val (.ref ob7), .val (.ref bq97), .val (.ref ob98), .val (.int (6 : Int32)), .val (.long x6), .second] [(.ref bq97)])
        refine own_go (fun _ => XS.aload X104.here hx rfl (hb hby at_248) rfl rfl) ?_
        show GG _ _ _ _ _ _ _ T104 (mkF m 250 #[.val (.long q0), .second, .val (.int p1), .val (.int p2), .val (.int p3), .val (.int p4), .val (.int p5), .val (.long x1), .second, .val (.long x2), .second, .val (.long x3), .second, .val (.long x4), .second, .val (.long x5), .second, .val (.long x6), .second, .val (.ref ob7), .val (.ref bq97), .val (.ref ob98), .val (.int (6 : Int32)), .val (.long x6), .second] [(.ref ob98), (.ref bq97)])
        refine own_go (fun _ => XS.iconst X104.here hx rfl (hb hby at_250)) ?_
        show GG _ _ _ _ _ _ _ T104 (mkF m 251 #[.val (.long q0), .second, .val (.int p1), .val (.int p2), .val (.int p3), .val (.int p4), .val (.int p5), .val (.long x1), .second, .val (.long x2), .second, .val (.long x3), .second, .val (.long x4), .second, .val (.long x5), .second, .val (.long x6), .second, .val (.ref ob7), .val (.ref bq97), .val (.ref ob98), .val (.int (6 : Int32)), .val (.long x6), .second] [(.int (0 : Int32)), (.ref ob98), (.ref bq97)])
        refine own_go (fun _ => XS.iload X104.here hx rfl (hb hby at_251) rfl) ?_
        show GG _ _ _ _ _ _ _ T104 (mkF m 253 #[.val (.long q0), .second, .val (.int p1), .val (.int p2), .val (.int p3), .val (.int p4), .val (.int p5), .val (.long x1), .second, .val (.long x2), .second, .val (.long x3), .second, .val (.long x4), .second, .val (.long x5), .second, .val (.long x6), .second, .val (.ref ob7), .val (.ref bq97), .val (.ref ob98), .val (.int (6 : Int32)), .val (.long x6), .second] [(.int (6 : Int32)), (.int (0 : Int32)), (.ref ob98), (.ref bq97)])
        refine own_callS X104 hx hZ (y := (⟨"com/example/obliv/obliv/io/SegmentIndexToArrayPinLaw", "eqAt", "([J[JII)Z"⟩ : MethodName)) 0 hown (hw _ (List.mem_of_getElem? (i := 41) rfl)) (hw _ (List.mem_of_getElem? (i := 42) rfl)) (hw _ (List.mem_of_getElem? (i := 43) rfl)) (hw _ (List.mem_of_getElem? (i := 44) rfl)) (by decide) (argsL := [(.ref bq97), (.ref ob98), (.int (0 : Int32)), (.int (6 : Int32))]) (rest := []) (rm7 l Z a0 hw [] bq97 ob98 (0 : Int32) (6 : Int32) [(.long x1), (.long x4), (.long x2), (.long x5), (.long x3), (.long x6)] [(.long x1), (.long x4), (.long x2), (.long x5), (.long x3), (.long x6)] h104 n0 (Nat.le_trans Z0 K0.1) Vq97 V_ob98 (Or.inr ⟨by decide, _, rfl, rfl⟩)) (by decide) (by decide) (by decide) (by decide) (g := (mkF m 253 #[.val (.long q0), .second, .val (.int p1), .val (.int p2), .val (.int p3), .val (.int p4), .val (.int p5), .val (.long x1), .second, .val (.long x2), .second, .val (.long x3), .second, .val (.long x4), .second, .val (.long x5), .second, .val (.long x6), .second, .val (.ref ob7), .val (.ref bq97), .val (.ref ob98), .val (.int (6 : Int32)), .val (.long x6), .second] [(.int (6 : Int32)), (.int (0 : Int32)), (.ref ob98), (.ref bq97)])) rfl (by rw [hml]; rfl) (lenOf pd___J_JII_Z_647 rfl) rfl (by show 2 * 0 + _ ≤ _; exact Nat.le_of_eq rfl) (hb hby at_253) e104 ?_
        rintro v105 T105 L105 X105 ⟨rfl, N105q, hh105⟩
        have N105 := Fr.app N104 N105q
        show GG _ _ _ _ _ _ _ T105 (mkF m 256 #[.val (.long q0), .second, .val (.int p1), .val (.int p2), .val (.int p3), .val (.int p4), .val (.int p5), .val (.long x1), .second, .val (.long x2), .second, .val (.long x3), .second, .val (.long x4), .second, .val (.long x5), .second, .val (.long x6), .second, .val (.ref ob7), .val (.ref bq97), .val (.ref ob98), .val (.int (6 : Int32)), .val (.long x6), .second] [(.int (1 : Int32))])
        have hc256 : ¬ ((1 : Int32) = (0 : Int32)) := by decide
        refine own_go (fun _ => XS.ifNo X105.here hx rfl (hb hby at_256) rfl ((if0 _ _).trans (feq hc256).1)) ?_
        show GG _ _ _ _ _ _ _ T105 (mkF m 259 #[.val (.long q0), .second, .val (.int p1), .val (.int p2), .val (.int p3), .val (.int p4), .val (.int p5), .val (.long x1), .second, .val (.long x2), .second, .val (.long x3), .second, .val (.long x4), .second, .val (.long x5), .second, .val (.long x6), .second, .val (.ref ob7), .val (.ref bq97), .val (.ref ob98), .val (.int (6 : Int32)), .val (.long x6), .second] [])
        refine own_go (fun _ => XS.aload X105.here hx rfl (hb hby at_259) rfl rfl) ?_
        show GG _ _ _ _ _ _ _ T105 (mkF m 261 #[.val (.long q0), .second, .val (.int p1), .val (.int p2), .val (.int p3), .val (.int p4), .val (.int p5), .val (.long x1), .second, .val (.long x2), .second, .val (.long x3), .second, .val (.long x4), .second, .val (.long x5), .second, .val (.long x6), .second, .val (.ref ob7), .val (.ref bq97), .val (.ref ob98), .val (.int (6 : Int32)), .val (.long x6), .second] [(.ref bq97)])
        refine own_go (fun _ => XS.aload X105.here hx rfl (hb hby at_261) rfl rfl) ?_
        show GG _ _ _ _ _ _ _ T105 (mkF m 263 #[.val (.long q0), .second, .val (.int p1), .val (.int p2), .val (.int p3), .val (.int p4), .val (.int p5), .val (.long x1), .second, .val (.long x2), .second, .val (.long x3), .second, .val (.long x4), .second, .val (.long x5), .second, .val (.long x6), .second, .val (.ref ob7), .val (.ref bq97), .val (.ref ob98), .val (.int (6 : Int32)), .val (.long x6), .second] [(.ref ob98), (.ref bq97)])
        refine own_go (fun _ => XS.iconst X105.here hx rfl (hb hby at_263)) ?_
        show GG _ _ _ _ _ _ _ T105 (mkF m 264 #[.val (.long q0), .second, .val (.int p1), .val (.int p2), .val (.int p3), .val (.int p4), .val (.int p5), .val (.long x1), .second, .val (.long x2), .second, .val (.long x3), .second, .val (.long x4), .second, .val (.long x5), .second, .val (.long x6), .second, .val (.ref ob7), .val (.ref bq97), .val (.ref ob98), .val (.int (6 : Int32)), .val (.long x6), .second] [(.int (1 : Int32)), (.ref ob98), (.ref bq97)])
        refine own_go (fun _ => XS.iload X105.here hx rfl (hb hby at_264) rfl) ?_
        show GG _ _ _ _ _ _ _ T105 (mkF m 266 #[.val (.long q0), .second, .val (.int p1), .val (.int p2), .val (.int p3), .val (.int p4), .val (.int p5), .val (.long x1), .second, .val (.long x2), .second, .val (.long x3), .second, .val (.long x4), .second, .val (.long x5), .second, .val (.long x6), .second, .val (.ref ob7), .val (.ref bq97), .val (.ref ob98), .val (.int (6 : Int32)), .val (.long x6), .second] [(.int (6 : Int32)), (.int (1 : Int32)), (.ref ob98), (.ref bq97)])
        refine own_callS X105 hx hZ (y := (⟨"com/example/obliv/obliv/io/SegmentIndexToArrayPinLaw", "eqAt", "([J[JII)Z"⟩ : MethodName)) 0 hown (hw _ (List.mem_of_getElem? (i := 41) rfl)) (hw _ (List.mem_of_getElem? (i := 42) rfl)) (hw _ (List.mem_of_getElem? (i := 43) rfl)) (hw _ (List.mem_of_getElem? (i := 44) rfl)) (by decide) (argsL := [(.ref bq97), (.ref ob98), (.int (1 : Int32)), (.int (6 : Int32))]) (rest := []) (rm7 l Z a0 hw [] bq97 ob98 (1 : Int32) (6 : Int32) [(.long x1), (.long x4), (.long x2), (.long x5), (.long x3), (.long x6)] [(.long x1), (.long x4), (.long x2), (.long x5), (.long x3), (.long x6)] h104 n0 (Nat.le_trans Z0 K0.1) Vq97 V_ob98 (Or.inr ⟨by decide, _, rfl, rfl⟩)) (by decide) (by decide) (by decide) (by decide) (g := (mkF m 266 #[.val (.long q0), .second, .val (.int p1), .val (.int p2), .val (.int p3), .val (.int p4), .val (.int p5), .val (.long x1), .second, .val (.long x2), .second, .val (.long x3), .second, .val (.long x4), .second, .val (.long x5), .second, .val (.long x6), .second, .val (.ref ob7), .val (.ref bq97), .val (.ref ob98), .val (.int (6 : Int32)), .val (.long x6), .second] [(.int (6 : Int32)), (.int (1 : Int32)), (.ref ob98), (.ref bq97)])) rfl (by rw [hml]; rfl) (lenOf pd___J_JII_Z_647 rfl) rfl (by show 2 * 0 + _ ≤ _; exact Nat.le_of_eq rfl) (hb hby at_266) hh105 ?_
        rintro v106 T106 L106 X106 ⟨rfl, N106q, hh106⟩
        have N106 := Fr.app N105 N106q
        show GG _ _ _ _ _ _ _ T106 (mkF m 269 #[.val (.long q0), .second, .val (.int p1), .val (.int p2), .val (.int p3), .val (.int p4), .val (.int p5), .val (.long x1), .second, .val (.long x2), .second, .val (.long x3), .second, .val (.long x4), .second, .val (.long x5), .second, .val (.long x6), .second, .val (.ref ob7), .val (.ref bq97), .val (.ref ob98), .val (.int (6 : Int32)), .val (.long x6), .second] [(.int (1 : Int32))])
        have hc269 : ¬ ((1 : Int32) = (0 : Int32)) := by decide
        refine own_go (fun _ => XS.ifNo X106.here hx rfl (hb hby at_269) rfl ((if0 _ _).trans (feq hc269).1)) ?_
        show GG _ _ _ _ _ _ _ T106 (mkF m 272 #[.val (.long q0), .second, .val (.int p1), .val (.int p2), .val (.int p3), .val (.int p4), .val (.int p5), .val (.long x1), .second, .val (.long x2), .second, .val (.long x3), .second, .val (.long x4), .second, .val (.long x5), .second, .val (.long x6), .second, .val (.ref ob7), .val (.ref bq97), .val (.ref ob98), .val (.int (6 : Int32)), .val (.long x6), .second] [])
        refine own_go (fun _ => XS.aload X106.here hx rfl (hb hby at_272) rfl rfl) ?_
        show GG _ _ _ _ _ _ _ T106 (mkF m 274 #[.val (.long q0), .second, .val (.int p1), .val (.int p2), .val (.int p3), .val (.int p4), .val (.int p5), .val (.long x1), .second, .val (.long x2), .second, .val (.long x3), .second, .val (.long x4), .second, .val (.long x5), .second, .val (.long x6), .second, .val (.ref ob7), .val (.ref bq97), .val (.ref ob98), .val (.int (6 : Int32)), .val (.long x6), .second] [(.ref bq97)])
        refine own_go (fun _ => XS.aload X106.here hx rfl (hb hby at_274) rfl rfl) ?_
        show GG _ _ _ _ _ _ _ T106 (mkF m 276 #[.val (.long q0), .second, .val (.int p1), .val (.int p2), .val (.int p3), .val (.int p4), .val (.int p5), .val (.long x1), .second, .val (.long x2), .second, .val (.long x3), .second, .val (.long x4), .second, .val (.long x5), .second, .val (.long x6), .second, .val (.ref ob7), .val (.ref bq97), .val (.ref ob98), .val (.int (6 : Int32)), .val (.long x6), .second] [(.ref ob98), (.ref bq97)])
        refine own_go (fun _ => XS.iconst X106.here hx rfl (hb hby at_276)) ?_
        show GG _ _ _ _ _ _ _ T106 (mkF m 277 #[.val (.long q0), .second, .val (.int p1), .val (.int p2), .val (.int p3), .val (.int p4), .val (.int p5), .val (.long x1), .second, .val (.long x2), .second, .val (.long x3), .second, .val (.long x4), .second, .val (.long x5), .second, .val (.long x6), .second, .val (.ref ob7), .val (.ref bq97), .val (.ref ob98), .val (.int (6 : Int32)), .val (.long x6), .second] [(.int (2 : Int32)), (.ref ob98), (.ref bq97)])
        refine own_go (fun _ => XS.iload X106.here hx rfl (hb hby at_277) rfl) ?_
        show GG _ _ _ _ _ _ _ T106 (mkF m 279 #[.val (.long q0), .second, .val (.int p1), .val (.int p2), .val (.int p3), .val (.int p4), .val (.int p5), .val (.long x1), .second, .val (.long x2), .second, .val (.long x3), .second, .val (.long x4), .second, .val (.long x5), .second, .val (.long x6), .second, .val (.ref ob7), .val (.ref bq97), .val (.ref ob98), .val (.int (6 : Int32)), .val (.long x6), .second] [(.int (6 : Int32)), (.int (2 : Int32)), (.ref ob98), (.ref bq97)])
        refine own_callS X106 hx hZ (y := (⟨"com/example/obliv/obliv/io/SegmentIndexToArrayPinLaw", "eqAt", "([J[JII)Z"⟩ : MethodName)) 0 hown (hw _ (List.mem_of_getElem? (i := 41) rfl)) (hw _ (List.mem_of_getElem? (i := 42) rfl)) (hw _ (List.mem_of_getElem? (i := 43) rfl)) (hw _ (List.mem_of_getElem? (i := 44) rfl)) (by decide) (argsL := [(.ref bq97), (.ref ob98), (.int (2 : Int32)), (.int (6 : Int32))]) (rest := []) (rm7 l Z a0 hw [] bq97 ob98 (2 : Int32) (6 : Int32) [(.long x1), (.long x4), (.long x2), (.long x5), (.long x3), (.long x6)] [(.long x1), (.long x4), (.long x2), (.long x5), (.long x3), (.long x6)] h104 n0 (Nat.le_trans Z0 K0.1) Vq97 V_ob98 (Or.inr ⟨by decide, _, rfl, rfl⟩)) (by decide) (by decide) (by decide) (by decide) (g := (mkF m 279 #[.val (.long q0), .second, .val (.int p1), .val (.int p2), .val (.int p3), .val (.int p4), .val (.int p5), .val (.long x1), .second, .val (.long x2), .second, .val (.long x3), .second, .val (.long x4), .second, .val (.long x5), .second, .val (.long x6), .second, .val (.ref ob7), .val (.ref bq97), .val (.ref ob98), .val (.int (6 : Int32)), .val (.long x6), .second] [(.int (6 : Int32)), (.int (2 : Int32)), (.ref ob98), (.ref bq97)])) rfl (by rw [hml]; rfl) (lenOf pd___J_JII_Z_647 rfl) rfl (by show 2 * 0 + _ ≤ _; exact Nat.le_of_eq rfl) (hb hby at_279) hh106 ?_
        rintro v107 T107 L107 X107 ⟨rfl, N107q, hh107⟩
        have N107 := Fr.app N106 N107q
        show GG _ _ _ _ _ _ _ T107 (mkF m 282 #[.val (.long q0), .second, .val (.int p1), .val (.int p2), .val (.int p3), .val (.int p4), .val (.int p5), .val (.long x1), .second, .val (.long x2), .second, .val (.long x3), .second, .val (.long x4), .second, .val (.long x5), .second, .val (.long x6), .second, .val (.ref ob7), .val (.ref bq97), .val (.ref ob98), .val (.int (6 : Int32)), .val (.long x6), .second] [(.int (1 : Int32))])
        have hc282 : ¬ ((1 : Int32) = (0 : Int32)) := by decide
        refine own_go (fun _ => XS.ifNo X107.here hx rfl (hb hby at_282) rfl ((if0 _ _).trans (feq hc282).1)) ?_
        show GG _ _ _ _ _ _ _ T107 (mkF m 285 #[.val (.long q0), .second, .val (.int p1), .val (.int p2), .val (.int p3), .val (.int p4), .val (.int p5), .val (.long x1), .second, .val (.long x2), .second, .val (.long x3), .second, .val (.long x4), .second, .val (.long x5), .second, .val (.long x6), .second, .val (.ref ob7), .val (.ref bq97), .val (.ref ob98), .val (.int (6 : Int32)), .val (.long x6), .second] [])
        refine own_go (fun _ => XS.aload X107.here hx rfl (hb hby at_285) rfl rfl) ?_
        show GG _ _ _ _ _ _ _ T107 (mkF m 287 #[.val (.long q0), .second, .val (.int p1), .val (.int p2), .val (.int p3), .val (.int p4), .val (.int p5), .val (.long x1), .second, .val (.long x2), .second, .val (.long x3), .second, .val (.long x4), .second, .val (.long x5), .second, .val (.long x6), .second, .val (.ref ob7), .val (.ref bq97), .val (.ref ob98), .val (.int (6 : Int32)), .val (.long x6), .second] [(.ref bq97)])
        refine own_go (fun _ => XS.aload X107.here hx rfl (hb hby at_287) rfl rfl) ?_
        show GG _ _ _ _ _ _ _ T107 (mkF m 289 #[.val (.long q0), .second, .val (.int p1), .val (.int p2), .val (.int p3), .val (.int p4), .val (.int p5), .val (.long x1), .second, .val (.long x2), .second, .val (.long x3), .second, .val (.long x4), .second, .val (.long x5), .second, .val (.long x6), .second, .val (.ref ob7), .val (.ref bq97), .val (.ref ob98), .val (.int (6 : Int32)), .val (.long x6), .second] [(.ref ob98), (.ref bq97)])
        refine own_go (fun _ => XS.iconst X107.here hx rfl (hb hby at_289)) ?_
        show GG _ _ _ _ _ _ _ T107 (mkF m 290 #[.val (.long q0), .second, .val (.int p1), .val (.int p2), .val (.int p3), .val (.int p4), .val (.int p5), .val (.long x1), .second, .val (.long x2), .second, .val (.long x3), .second, .val (.long x4), .second, .val (.long x5), .second, .val (.long x6), .second, .val (.ref ob7), .val (.ref bq97), .val (.ref ob98), .val (.int (6 : Int32)), .val (.long x6), .second] [(.int (3 : Int32)), (.ref ob98), (.ref bq97)])
        refine own_go (fun _ => XS.iload X107.here hx rfl (hb hby at_290) rfl) ?_
        show GG _ _ _ _ _ _ _ T107 (mkF m 292 #[.val (.long q0), .second, .val (.int p1), .val (.int p2), .val (.int p3), .val (.int p4), .val (.int p5), .val (.long x1), .second, .val (.long x2), .second, .val (.long x3), .second, .val (.long x4), .second, .val (.long x5), .second, .val (.long x6), .second, .val (.ref ob7), .val (.ref bq97), .val (.ref ob98), .val (.int (6 : Int32)), .val (.long x6), .second] [(.int (6 : Int32)), (.int (3 : Int32)), (.ref ob98), (.ref bq97)])
        refine own_callS X107 hx hZ (y := (⟨"com/example/obliv/obliv/io/SegmentIndexToArrayPinLaw", "eqAt", "([J[JII)Z"⟩ : MethodName)) 0 hown (hw _ (List.mem_of_getElem? (i := 41) rfl)) (hw _ (List.mem_of_getElem? (i := 42) rfl)) (hw _ (List.mem_of_getElem? (i := 43) rfl)) (hw _ (List.mem_of_getElem? (i := 44) rfl)) (by decide) (argsL := [(.ref bq97), (.ref ob98), (.int (3 : Int32)), (.int (6 : Int32))]) (rest := []) (rm7 l Z a0 hw [] bq97 ob98 (3 : Int32) (6 : Int32) [(.long x1), (.long x4), (.long x2), (.long x5), (.long x3), (.long x6)] [(.long x1), (.long x4), (.long x2), (.long x5), (.long x3), (.long x6)] h104 n0 (Nat.le_trans Z0 K0.1) Vq97 V_ob98 (Or.inr ⟨by decide, _, rfl, rfl⟩)) (by decide) (by decide) (by decide) (by decide) (g := (mkF m 292 #[.val (.long q0), .second, .val (.int p1), .val (.int p2), .val (.int p3), .val (.int p4), .val (.int p5), .val (.long x1), .second, .val (.long x2), .second, .val (.long x3), .second, .val (.long x4), .second, .val (.long x5), .second, .val (.long x6), .second, .val (.ref ob7), .val (.ref bq97), .val (.ref ob98), .val (.int (6 : Int32)), .val (.long x6), .second] [(.int (6 : Int32)), (.int (3 : Int32)), (.ref ob98), (.ref bq97)])) rfl (by rw [hml]; rfl) (lenOf pd___J_JII_Z_647 rfl) rfl (by show 2 * 0 + _ ≤ _; exact Nat.le_of_eq rfl) (hb hby at_292) hh107 ?_
        rintro v108 T108 L108 X108 ⟨rfl, N108q, hh108⟩
        have N108 := Fr.app N107 N108q
        show GG _ _ _ _ _ _ _ T108 (mkF m 295 #[.val (.long q0), .second, .val (.int p1), .val (.int p2), .val (.int p3), .val (.int p4), .val (.int p5), .val (.long x1), .second, .val (.long x2), .second, .val (.long x3), .second, .val (.long x4), .second, .val (.long x5), .second, .val (.long x6), .second, .val (.ref ob7), .val (.ref bq97), .val (.ref ob98), .val (.int (6 : Int32)), .val (.long x6), .second] [(.int (1 : Int32))])
        have hc295 : ¬ ((1 : Int32) = (0 : Int32)) := by decide
        refine own_go (fun _ => XS.ifNo X108.here hx rfl (hb hby at_295) rfl ((if0 _ _).trans (feq hc295).1)) ?_
        show GG _ _ _ _ _ _ _ T108 (mkF m 298 #[.val (.long q0), .second, .val (.int p1), .val (.int p2), .val (.int p3), .val (.int p4), .val (.int p5), .val (.long x1), .second, .val (.long x2), .second, .val (.long x3), .second, .val (.long x4), .second, .val (.long x5), .second, .val (.long x6), .second, .val (.ref ob7), .val (.ref bq97), .val (.ref ob98), .val (.int (6 : Int32)), .val (.long x6), .second] [])
        refine own_go (fun _ => XS.aload X108.here hx rfl (hb hby at_298) rfl rfl) ?_
        show GG _ _ _ _ _ _ _ T108 (mkF m 300 #[.val (.long q0), .second, .val (.int p1), .val (.int p2), .val (.int p3), .val (.int p4), .val (.int p5), .val (.long x1), .second, .val (.long x2), .second, .val (.long x3), .second, .val (.long x4), .second, .val (.long x5), .second, .val (.long x6), .second, .val (.ref ob7), .val (.ref bq97), .val (.ref ob98), .val (.int (6 : Int32)), .val (.long x6), .second] [(.ref bq97)])
        refine own_go (fun _ => XS.aload X108.here hx rfl (hb hby at_300) rfl rfl) ?_
        show GG _ _ _ _ _ _ _ T108 (mkF m 302 #[.val (.long q0), .second, .val (.int p1), .val (.int p2), .val (.int p3), .val (.int p4), .val (.int p5), .val (.long x1), .second, .val (.long x2), .second, .val (.long x3), .second, .val (.long x4), .second, .val (.long x5), .second, .val (.long x6), .second, .val (.ref ob7), .val (.ref bq97), .val (.ref ob98), .val (.int (6 : Int32)), .val (.long x6), .second] [(.ref ob98), (.ref bq97)])
        refine own_go (fun _ => XS.iconst X108.here hx rfl (hb hby at_302)) ?_
        show GG _ _ _ _ _ _ _ T108 (mkF m 303 #[.val (.long q0), .second, .val (.int p1), .val (.int p2), .val (.int p3), .val (.int p4), .val (.int p5), .val (.long x1), .second, .val (.long x2), .second, .val (.long x3), .second, .val (.long x4), .second, .val (.long x5), .second, .val (.long x6), .second, .val (.ref ob7), .val (.ref bq97), .val (.ref ob98), .val (.int (6 : Int32)), .val (.long x6), .second] [(.int (4 : Int32)), (.ref ob98), (.ref bq97)])
        refine own_go (fun _ => XS.iload X108.here hx rfl (hb hby at_303) rfl) ?_
        show GG _ _ _ _ _ _ _ T108 (mkF m 305 #[.val (.long q0), .second, .val (.int p1), .val (.int p2), .val (.int p3), .val (.int p4), .val (.int p5), .val (.long x1), .second, .val (.long x2), .second, .val (.long x3), .second, .val (.long x4), .second, .val (.long x5), .second, .val (.long x6), .second, .val (.ref ob7), .val (.ref bq97), .val (.ref ob98), .val (.int (6 : Int32)), .val (.long x6), .second] [(.int (6 : Int32)), (.int (4 : Int32)), (.ref ob98), (.ref bq97)])
        refine own_callS X108 hx hZ (y := (⟨"com/example/obliv/obliv/io/SegmentIndexToArrayPinLaw", "eqAt", "([J[JII)Z"⟩ : MethodName)) 0 hown (hw _ (List.mem_of_getElem? (i := 41) rfl)) (hw _ (List.mem_of_getElem? (i := 42) rfl)) (hw _ (List.mem_of_getElem? (i := 43) rfl)) (hw _ (List.mem_of_getElem? (i := 44) rfl)) (by decide) (argsL := [(.ref bq97), (.ref ob98), (.int (4 : Int32)), (.int (6 : Int32))]) (rest := []) (rm7 l Z a0 hw [] bq97 ob98 (4 : Int32) (6 : Int32) [(.long x1), (.long x4), (.long x2), (.long x5), (.long x3), (.long x6)] [(.long x1), (.long x4), (.long x2), (.long x5), (.long x3), (.long x6)] h104 n0 (Nat.le_trans Z0 K0.1) Vq97 V_ob98 (Or.inr ⟨by decide, _, rfl, rfl⟩)) (by decide) (by decide) (by decide) (by decide) (g := (mkF m 305 #[.val (.long q0), .second, .val (.int p1), .val (.int p2), .val (.int p3), .val (.int p4), .val (.int p5), .val (.long x1), .second, .val (.long x2), .second, .val (.long x3), .second, .val (.long x4), .second, .val (.long x5), .second, .val (.long x6), .second, .val (.ref ob7), .val (.ref bq97), .val (.ref ob98), .val (.int (6 : Int32)), .val (.long x6), .second] [(.int (6 : Int32)), (.int (4 : Int32)), (.ref ob98), (.ref bq97)])) rfl (by rw [hml]; rfl) (lenOf pd___J_JII_Z_647 rfl) rfl (by show 2 * 0 + _ ≤ _; exact Nat.le_of_eq rfl) (hb hby at_305) hh108 ?_
        rintro v109 T109 L109 X109 ⟨rfl, N109q, hh109⟩
        have N109 := Fr.app N108 N109q
        show GG _ _ _ _ _ _ _ T109 (mkF m 308 #[.val (.long q0), .second, .val (.int p1), .val (.int p2), .val (.int p3), .val (.int p4), .val (.int p5), .val (.long x1), .second, .val (.long x2), .second, .val (.long x3), .second, .val (.long x4), .second, .val (.long x5), .second, .val (.long x6), .second, .val (.ref ob7), .val (.ref bq97), .val (.ref ob98), .val (.int (6 : Int32)), .val (.long x6), .second] [(.int (1 : Int32))])
        have hc308 : ¬ ((1 : Int32) = (0 : Int32)) := by decide
        refine own_go (fun _ => XS.ifNo X109.here hx rfl (hb hby at_308) rfl ((if0 _ _).trans (feq hc308).1)) ?_
        show GG _ _ _ _ _ _ _ T109 (mkF m 311 #[.val (.long q0), .second, .val (.int p1), .val (.int p2), .val (.int p3), .val (.int p4), .val (.int p5), .val (.long x1), .second, .val (.long x2), .second, .val (.long x3), .second, .val (.long x4), .second, .val (.long x5), .second, .val (.long x6), .second, .val (.ref ob7), .val (.ref bq97), .val (.ref ob98), .val (.int (6 : Int32)), .val (.long x6), .second] [])
        refine own_go (fun _ => XS.aload X109.here hx rfl (hb hby at_311) rfl rfl) ?_
        show GG _ _ _ _ _ _ _ T109 (mkF m 313 #[.val (.long q0), .second, .val (.int p1), .val (.int p2), .val (.int p3), .val (.int p4), .val (.int p5), .val (.long x1), .second, .val (.long x2), .second, .val (.long x3), .second, .val (.long x4), .second, .val (.long x5), .second, .val (.long x6), .second, .val (.ref ob7), .val (.ref bq97), .val (.ref ob98), .val (.int (6 : Int32)), .val (.long x6), .second] [(.ref bq97)])
        refine own_go (fun _ => XS.aload X109.here hx rfl (hb hby at_313) rfl rfl) ?_
        show GG _ _ _ _ _ _ _ T109 (mkF m 315 #[.val (.long q0), .second, .val (.int p1), .val (.int p2), .val (.int p3), .val (.int p4), .val (.int p5), .val (.long x1), .second, .val (.long x2), .second, .val (.long x3), .second, .val (.long x4), .second, .val (.long x5), .second, .val (.long x6), .second, .val (.ref ob7), .val (.ref bq97), .val (.ref ob98), .val (.int (6 : Int32)), .val (.long x6), .second] [(.ref ob98), (.ref bq97)])
        refine own_go (fun _ => XS.iconst X109.here hx rfl (hb hby at_315)) ?_
        show GG _ _ _ _ _ _ _ T109 (mkF m 316 #[.val (.long q0), .second, .val (.int p1), .val (.int p2), .val (.int p3), .val (.int p4), .val (.int p5), .val (.long x1), .second, .val (.long x2), .second, .val (.long x3), .second, .val (.long x4), .second, .val (.long x5), .second, .val (.long x6), .second, .val (.ref ob7), .val (.ref bq97), .val (.ref ob98), .val (.int (6 : Int32)), .val (.long x6), .second] [(.int (5 : Int32)), (.ref ob98), (.ref bq97)])
        refine own_go (fun _ => XS.iload X109.here hx rfl (hb hby at_316) rfl) ?_
        show GG _ _ _ _ _ _ _ T109 (mkF m 318 #[.val (.long q0), .second, .val (.int p1), .val (.int p2), .val (.int p3), .val (.int p4), .val (.int p5), .val (.long x1), .second, .val (.long x2), .second, .val (.long x3), .second, .val (.long x4), .second, .val (.long x5), .second, .val (.long x6), .second, .val (.ref ob7), .val (.ref bq97), .val (.ref ob98), .val (.int (6 : Int32)), .val (.long x6), .second] [(.int (6 : Int32)), (.int (5 : Int32)), (.ref ob98), (.ref bq97)])
        refine own_callS X109 hx hZ (y := (⟨"com/example/obliv/obliv/io/SegmentIndexToArrayPinLaw", "eqAt", "([J[JII)Z"⟩ : MethodName)) 0 hown (hw _ (List.mem_of_getElem? (i := 41) rfl)) (hw _ (List.mem_of_getElem? (i := 42) rfl)) (hw _ (List.mem_of_getElem? (i := 43) rfl)) (hw _ (List.mem_of_getElem? (i := 44) rfl)) (by decide) (argsL := [(.ref bq97), (.ref ob98), (.int (5 : Int32)), (.int (6 : Int32))]) (rest := []) (rm7 l Z a0 hw [] bq97 ob98 (5 : Int32) (6 : Int32) [(.long x1), (.long x4), (.long x2), (.long x5), (.long x3), (.long x6)] [(.long x1), (.long x4), (.long x2), (.long x5), (.long x3), (.long x6)] h104 n0 (Nat.le_trans Z0 K0.1) Vq97 V_ob98 (Or.inr ⟨by decide, _, rfl, rfl⟩)) (by decide) (by decide) (by decide) (by decide) (g := (mkF m 318 #[.val (.long q0), .second, .val (.int p1), .val (.int p2), .val (.int p3), .val (.int p4), .val (.int p5), .val (.long x1), .second, .val (.long x2), .second, .val (.long x3), .second, .val (.long x4), .second, .val (.long x5), .second, .val (.long x6), .second, .val (.ref ob7), .val (.ref bq97), .val (.ref ob98), .val (.int (6 : Int32)), .val (.long x6), .second] [(.int (6 : Int32)), (.int (5 : Int32)), (.ref ob98), (.ref bq97)])) rfl (by rw [hml]; rfl) (lenOf pd___J_JII_Z_647 rfl) rfl (by show 2 * 0 + _ ≤ _; exact Nat.le_of_eq rfl) (hb hby at_318) hh109 ?_
        rintro v110 T110 L110 X110 ⟨rfl, N110q, hh110⟩
        have N110 := Fr.app N109 N110q
        show GG _ _ _ _ _ _ _ T110 (mkF m 321 #[.val (.long q0), .second, .val (.int p1), .val (.int p2), .val (.int p3), .val (.int p4), .val (.int p5), .val (.long x1), .second, .val (.long x2), .second, .val (.long x3), .second, .val (.long x4), .second, .val (.long x5), .second, .val (.long x6), .second, .val (.ref ob7), .val (.ref bq97), .val (.ref ob98), .val (.int (6 : Int32)), .val (.long x6), .second] [(.int (1 : Int32))])
        have hc321 : ¬ ((1 : Int32) = (0 : Int32)) := by decide
        refine own_go (fun _ => XS.ifNo X110.here hx rfl (hb hby at_321) rfl ((if0 _ _).trans (feq hc321).1)) ?_
        show GG _ _ _ _ _ _ _ T110 (mkF m 324 #[.val (.long q0), .second, .val (.int p1), .val (.int p2), .val (.int p3), .val (.int p4), .val (.int p5), .val (.long x1), .second, .val (.long x2), .second, .val (.long x3), .second, .val (.long x4), .second, .val (.long x5), .second, .val (.long x6), .second, .val (.ref ob7), .val (.ref bq97), .val (.ref ob98), .val (.int (6 : Int32)), .val (.long x6), .second] [])
        refine own_go (fun _ => XS.iconst X110.here hx rfl (hb hby at_324)) ?_
        show GG _ _ _ _ _ _ _ T110 (mkF m 325 #[.val (.long q0), .second, .val (.int p1), .val (.int p2), .val (.int p3), .val (.int p4), .val (.int p5), .val (.long x1), .second, .val (.long x2), .second, .val (.long x3), .second, .val (.long x4), .second, .val (.long x5), .second, .val (.long x6), .second, .val (.ref ob7), .val (.ref bq97), .val (.ref ob98), .val (.int (6 : Int32)), .val (.long x6), .second] [(.int (1 : Int32))])
        refine own_go (fun _ => XS.goto X110.here hx rfl (pc0 := 325) (pc' := 329) rfl (hb hby at_325) (by decide) (by decide)) ?_
        show GG _ _ _ _ _ _ _ T110 (mkF m 329 #[.val (.long q0), .second, .val (.int p1), .val (.int p2), .val (.int p3), .val (.int p4), .val (.int p5), .val (.long x1), .second, .val (.long x2), .second, .val (.long x3), .second, .val (.long x4), .second, .val (.long x5), .second, .val (.long x6), .second, .val (.ref ob7), .val (.ref bq97), .val (.ref ob98), .val (.int (6 : Int32)), .val (.long x6), .second] [(.int (1 : Int32))])
        refine own_ret X110 hx hlk (t := .boolean) (w := (.int (1 : Int32))) Bd.returns rfl (Or.inl ⟨rfl, by simp, _, rfl⟩) (hb hby at_329) (by decide) (by decide) ?_
        show Q0 Z q0 p1 p2 p3 p4 p5 h0 n0 (some (.int (1 : Int32))) T110.heap _
        rw [hh110]
        exact ⟨rfl, N110⟩
set_option maxRecDepth 65536 in
set_option maxHeartbeats 40000000 in
theorem comes_1 {Post : Tables → Env → Array Value → State → Outcome → State → Prop} (hpost : ∀ tb e args s v u, (limb_1_1.after args s (.returned v) u = true ∧ limb_1_2.after args s (.returned v) u = true ∧ True) → FrameEnd s (.returned v) u (Jvm.fieldLocs frame_1_writes args s ++ Jvm.arrayLocs frame_1_arrays args s ++ Jvm.staticLocs frame_1_statics s) 24 192 → Post tb e args s (.returned v) u) :
    ArmFor flags0 classFile x code maxLocals ret World_1 tables_1 room_1 Calls_1 rest_1 Pre_1 Post := by
  intro l hfl _ _ p e ha hc hk s m args below hf hA hF happ hP
  obtain ⟨hcalls, hrest, hpre⟩ := hP
  obtain ⟨-, -, -, hnamed, -, -, -, hat⟩ := (Spec.applies_iff hf).mp happ
  obtain ⟨hg, hn⟩ := and_e (Cond.before_iff.mp (show (Jvm.Cond.and given_1 narrow_1).before args s = true from hpre))
  obtain ⟨g1, g2⟩ := and_e hg
  obtain ⟨g3, g4⟩ := and_e g2
  obtain ⟨g5, g6⟩ := and_e g4
  obtain ⟨g7, g8⟩ := and_e g6
  obtain ⟨g9, g10⟩ := and_e g8
  obtain ⟨g11, g12⟩ := and_e g10
  obtain ⟨w0, w1, w2, w3, w4, w5, rfl⟩ : ∃ w0 w1 w2 w3 w4 w5 : Value, args = #[w0, w1, w2, w3, w4, w5] := by
    have hs : args.size = 6 := by simpa [Cond.value, given_1] using g1
    obtain ⟨L⟩ := args
    match L, hs with
    | [w0, w1, w2, w3, w4, w5], _ => exact ⟨w0, w1, w2, w3, w4, w5, rfl⟩
  have hw := fun d (hd : d ∈ tables_1) => atoms_spec (ws := Jvm.Cond.code x code maxLocals ret :: tables_1) hat d (List.mem_cons_of_mem _ hd)
  have hfit : Fit s := fun {y c} hc i hi => by
    obtain ⟨ha, rfl⟩ := Array.getElem?_eq_some_iff.mp hc
    have q := List.all_eq_true.mp ((Array.all_eq_true_iff_forall_mem.mp hF) _ (Array.getElem_mem ha)) i (List.mem_range.mpr hi)
    simpa [Array.getElem?_eq_getElem hi] using q
  obtain ⟨i0, ei0⟩ := isL_v g3
  obtain rfl : w0 = (.long i0) := Option.some.inj ei0
  obtain ⟨i1, ei1⟩ := is_v g5
  obtain rfl : w1 = (.int i1) := Option.some.inj ei1
  obtain ⟨i2, ei2⟩ := is_v g7
  obtain rfl : w2 = (.int i2) := Option.some.inj ei2
  obtain ⟨i3, ei3⟩ := is_v g9
  obtain rfl : w3 = (.int i3) := Option.some.inj ei3
  obtain ⟨i4, ei4⟩ := is_v g11
  obtain rfl : w4 = (.int i4) := Option.some.inj ei4
  obtain ⟨i5, ei5⟩ := is_v g12
  obtain rfl : w5 = (.int i5) := Option.some.inj ei5
  obtain ⟨n, o, h1, h2, h3, _, L, rfl, ⟨rfl, N⟩, hq⟩ := rm0 l s _ hw tables_1 i0 i1 i2 i3 i4 i5 s.heap s.heap.size (Nat.le_refl _)  p e ha hc hk s m _ below hf ((Spec.applies_iff_loose hf).mp happ).1 ⟨rfl, State.Warmed39.refl s, rfl⟩ trivial
  refine ⟨n, _, h1, h2, h3, hpost _ _ _ _ _ _ ⟨Cond.after_iff.mpr rfl, Cond.after_iff.mpr (eq_i res_at (Term.int_eval (1)) rfl), trivial⟩ ⟨hq.1, hq.2.1, (hq.2.2.sift fun y hy => Or.inr (N y hy)).mono (by decide) (by decide)⟩⟩
theorem main_1_1 : Claimed_1_1 := comes_1 fun _ _ _ _ _ _ h hF => ⟨h.1, hF⟩
theorem main_1_2 : Claimed_1_2 := comes_1 fun _ _ _ _ _ _ h hF => ⟨h.2.1, hF⟩
end Jvm.Pilot.@@N@@
namespace Jvm.Pilot.@@N@@
open Jvm Jvm.ClassFile Sem Op Lib Jvm.Free Jvm.Stand Jvm.Pilot.@@N@@.Jvm.D
/-! MADE BY PROGRAM (witnessworld.py) out of the Statement's table words and the real class files: 11 classes; the members and pool entries that the words name. The judged class is class 1, her method 2. -/
namespace start1
open Jvm.ClassFile
def u (s : String) : CpInfo := .utf8 (stringToUtf16 s)
/-- a pool by its gaps: so many unusable entries, then the entry; so many at the end -/
def gap : Nat → List CpInfo → List CpInfo
  | 0, r => r
  | n + 1, r => .unusable :: gap n r
def poolList (es : List (Nat × CpInfo)) (last : Nat) : List CpInfo := es.foldr (fun e r => gap e.1 (e.2 :: r)) (gap last [])
def pool (es : List (Nat × CpInfo)) (last : Nat) : Array CpInfo := ⟨poolList es last⟩
def fileOf (pool : Array CpInfo) (this : Nat) (attrs : Array Attribute := #[]) (ms : Array MethodInfo := #[]) (fl : Nat := 33) (sup : Nat := 0) (ifs : Array Nat := #[]) (fds : Array FieldInfo := #[]) : ClassFile where
  minorVersion := 0
  majorVersion := 65
  constantPool := pool
  accessFlags := fl
  thisClass := this
  superClass := sup
  interfaces := ifs
  fields := fds
  methods := ms
  attributes := attrs
def plain (name : String) (sup : Option ClassId) : Class where
  name := name
  kind := .ordinary
  loader := none
  accessFlags := 33
  super := sup
  interfaces := #[]
  cf := none
  fields := #[]
  methods := #[]
  instanceTypes := #[]
  staticTypes := #[]
  resolved := #[]
  callSites := []
  init := .initialized
  statics := none
  mirror := none

def pool0 : Array CpInfo := pool [(5, u "<init>"), (0, u "()V"), (1, .class_ 10), (1, u "java/lang/Object")] 113

def k0c0 : Code := { maxStack := 0, maxLocals := 1, code := object_method_1_code, exceptionTable := #[], attributes := #[] }
def k0m0 : Method := { name := "<init>", desc := "()V", sig := { parameters := [], returnType := none }, accessFlags := 1, code := some k0c0 }
/-- java/lang/Object -/
def k0 : Class := { plain "java/lang/Object" none with
  accessFlags := 33
  interfaces := #[]
  cf := some (fileOf pool0 8 #[] #[{ accessFlags := 1, nameIndex := 5, descriptorIndex := 6, attributes := #[] }] 33 0 #[] #[])
  fields := #[]
  methods := #[k0m0]
  instanceTypes := #[]
  staticTypes := #[]
  resolved := Array.replicate 124 none
  statics := none }

def pool1 : Array CpInfo := pool [(2, .class_ 4), (0, .nameAndType 5 6), (0, u "java/lang/Object"), (0, u "<init>"), (0, u "()V"), (0, .long 4611686018427387903), (1, .integer 2147483647), (0, .long 8), (1, .integer 131071), (0, .class_ 14), (0, u "com/example/obliv/obliv/io/SegmentIndex"), (0, .methodref 13 3), (0, .methodref 13 17), (0, .nameAndType 18 19), (0, u "add"), (0, u "(JJ)V"), (0, .methodref 13 21), (0, .nameAndType 22 23), (0, u "toArray"), (0, u "()[J"), (0, .long 65536), (1, .methodref 27 28), (0, .class_ 29), (0, .nameAndType 30 31), (0, u "com/example/obliv/obliv/io/SegmentIndexToArrayPinLaw"), (0, u "eqAt"), (0, u "([J[JII)Z"), (3, u "law"), (0, u "(JIIIII)Z")] 4

def k1m0 : Method := { name := "<init>", desc := "()V", sig := { parameters := [], returnType := none }, accessFlags := 2, code := none }
def k1c1 : Code := { maxStack := 4, maxLocals := 4, code := method_2_code, exceptionTable := #[], attributes := #[] }
def k1m1 : Method := { name := "eqAt", desc := "([J[JII)Z", sig := { parameters := [(.array .long), (.array .long), .int, .int], returnType := some .boolean }, accessFlags := 10, code := some k1c1 }
def k1c2 : Code := { maxStack := 6, maxLocals := 25, code := code, exceptionTable := #[], attributes := #[] }
def k1m2 : Method := { name := "law", desc := "(JIIIII)Z", sig := { parameters := [.long, .int, .int, .int, .int, .int], returnType := some .boolean }, accessFlags := 9, code := some k1c2 }
/-- com/example/obliv/obliv/io/SegmentIndexToArrayPinLaw -/
def k1 : Class := { plain "com/example/obliv/obliv/io/SegmentIndexToArrayPinLaw" (some 0) with
  accessFlags := 49
  interfaces := #[]
  cf := some (fileOf pool1 27 #[] #[{ accessFlags := 2, nameIndex := 5, descriptorIndex := 6, attributes := #[] }, { accessFlags := 10, nameIndex := 30, descriptorIndex := 31, attributes := #[] }, { accessFlags := 9, nameIndex := 35, descriptorIndex := 36, attributes := #[] }] 49 2 #[] #[])
  fields := #[]
  methods := #[k1m0, k1m1, k1m2]
  instanceTypes := #[]
  staticTypes := #[]
  resolved := Array.replicate 41 none
  statics := none }

def pool2 : Array CpInfo := pool [(1, .methodref 2 3), (0, .class_ 4), (0, .nameAndType 5 6), (0, u "java/lang/Object"), (0, u "<init>"), (0, u "()V"), (0, .class_ 8), (0, u "com/example/obliv/obliv/io/SegmentIndex"), (0, .fieldref 7 10), (0, .nameAndType 11 12), (0, u "records"), (0, u "[J"), (0, .fieldref 7 14), (0, .nameAndType 15 12), (0, u "positions"), (2, .long 8), (1, .methodref 7 21), (0, .nameAndType 22 23), (0, u "hold"), (0, u "(JJ)V"), (1, .methodref 7 26), (0, .nameAndType 27 28), (0, u "lastPosition"), (0, u "()J"), (0, .long 65536), (1, .fieldref 7 32), (0, .nameAndType 33 34), (0, u "size"), (0, u "I"), (10, u "INTERVAL_BYTES"), (2, u "INITIAL_CAPACITY"), (6, u "add"), (7, u "toArray"), (0, u "()[J")] 3

def k2c0 : Code := { maxStack := 5, maxLocals := 1, code := prog_12_method_1_code, exceptionTable := #[], attributes := #[] }
def k2m0 : Method := { name := "<init>", desc := "()V", sig := { parameters := [], returnType := none }, accessFlags := 1, code := some k2c0 }
def k2c1 : Code := { maxStack := 5, maxLocals := 5, code := prog_12_method_3_code, exceptionTable := #[], attributes := #[] }
def k2m1 : Method := { name := "add", desc := "(JJ)V", sig := { parameters := [.long, .long], returnType := none }, accessFlags := 1, code := some k2c1 }
def k2c2 : Code := { maxStack := 4, maxLocals := 3, code := prog_12_method_8_code, exceptionTable := #[], attributes := #[] }
def k2m2 : Method := { name := "toArray", desc := "()[J", sig := { parameters := [], returnType := some (.array .long) }, accessFlags := 1, code := some k2c2 }
def k2c3 : Code := { maxStack := 3, maxLocals := 1, code := prog_12_method_9_code, exceptionTable := #[], attributes := #[] }
def k2m3 : Method := { name := "lastPosition", desc := "()J", sig := { parameters := [], returnType := some .long }, accessFlags := 2, code := some k2c3 }
def k2c4 : Code := { maxStack := 4, maxLocals := 5, code := prog_12_method_10_code, exceptionTable := #[], attributes := #[] }
def k2m4 : Method := { name := "hold", desc := "(JJ)V", sig := { parameters := [.long, .long], returnType := none }, accessFlags := 2, code := some k2c4 }
/-- com/example/obliv/obliv/io/SegmentIndex -/
def k2 : Class := { plain "com/example/obliv/obliv/io/SegmentIndex" (some 0) with
  accessFlags := 33
  interfaces := #[]
  cf := some (fileOf pool2 7 #[] #[{ accessFlags := 1, nameIndex := 5, descriptorIndex := 6, attributes := #[] }, { accessFlags := 1, nameIndex := 55, descriptorIndex := 23, attributes := #[] }, { accessFlags := 1, nameIndex := 63, descriptorIndex := 64, attributes := #[] }, { accessFlags := 2, nameIndex := 27, descriptorIndex := 28, attributes := #[] }, { accessFlags := 2, nameIndex := 22, descriptorIndex := 23, attributes := #[] }] 33 2 #[] #[{ accessFlags := 25, nameIndex := 45, descriptorIndex := 34, attributes := #[] }, { accessFlags := 26, nameIndex := 48, descriptorIndex := 34, attributes := #[] }, { accessFlags := 2, nameIndex := 11, descriptorIndex := 12, attributes := #[] }, { accessFlags := 2, nameIndex := 15, descriptorIndex := 12, attributes := #[] }, { accessFlags := 2, nameIndex := 33, descriptorIndex := 34, attributes := #[] }])
  fields := #[{ name := "INTERVAL_BYTES", type := .int, accessFlags := 25, slot := 0, constantValue := 0 }, { name := "INITIAL_CAPACITY", type := .int, accessFlags := 26, slot := 1, constantValue := 0 }, { name := "records", type := (.array .long), accessFlags := 2, slot := 0, constantValue := 0 }, { name := "positions", type := (.array .long), accessFlags := 2, slot := 1, constantValue := 0 }, { name := "size", type := .int, accessFlags := 2, slot := 2, constantValue := 0 }]
  methods := #[k2m0, k2m1, k2m2, k2m3, k2m4]
  instanceTypes := #[(.array .long), (.array .long), .int]
  staticTypes := #[.int, .int]
  resolved := Array.replicate 68 none
  statics := none }

def pool3 : Array CpInfo := pool [(1, u "java/lang/Cloneable"), (0, .class_ 1), (0, u "java/lang/Object"), (0, .class_ 3)] 3

/-- java/lang/Cloneable -/
def k3 : Class := { plain "java/lang/Cloneable" (some 0) with
  accessFlags := 1537
  interfaces := #[]
  cf := some (fileOf pool3 2 #[] #[] 1537 4 #[] #[])
  fields := #[]
  methods := #[]
  instanceTypes := #[]
  staticTypes := #[]
  resolved := Array.replicate 8 none
  statics := none }

def pool4 : Array CpInfo := pool [(1, u "java/io/Serializable"), (0, .class_ 1), (0, u "java/lang/Object"), (0, .class_ 3)] 3

/-- java/io/Serializable -/
def k4 : Class := { plain "java/io/Serializable" (some 0) with
  accessFlags := 1537
  interfaces := #[]
  cf := some (fileOf pool4 2 #[] #[] 1537 4 #[] #[])
  fields := #[]
  methods := #[]
  instanceTypes := #[]
  staticTypes := #[]
  resolved := Array.replicate 8 none
  statics := none }

/-- the primitive byte -/
def k5 : Class := { plain "byte" none with kind := .primitive 'B', accessFlags := 0x411 }
/-- [B -/
def k6 : Class := { plain "[B" (some 0) with kind := .array 5 .byte, interfaces := #[3, 4], accessFlags := 1041 }

/-- the primitive int -/
def k7 : Class := { plain "int" none with kind := .primitive 'I', accessFlags := 0x411 }
/-- [I -/
def k8 : Class := { plain "[I" (some 0) with kind := .array 7 .int, interfaces := #[3, 4], accessFlags := 1041 }

/-- the primitive long -/
def k9 : Class := { plain "long" none with kind := .primitive 'J', accessFlags := 0x411 }
/-- [J -/
def k10 : Class := { plain "[J" (some 0) with kind := .array 9 .long, interfaces := #[3, 4], accessFlags := 1041 }

def heap : Heap := #[]
def classes : Array Class := #[k0, k1, k2, k3, k4, k5, k6, k7, k8, k9, k10]
def interned : List (Array UInt16 × Addr) := []
def slotsUsed : Nat := 0
def theMethod : MethodId := ⟨1, 2⟩
def args0 : Array Value := #[.long 5, .int 7, .int 8, .int 100000, .int 3, .int 70000]
def aboutOver (below : List Frame) : State where
  vm := { classes := classes, interned := interned.toArray }
  heap := heap
  slotsUsed := slotsUsed
  threads := #[{ frames := .invoking theMethod args0 :: below }]
def below0 : List Frame := [.native { method := ⟨0, 0⟩, args := #[] }]
def about1 : State := aboutOver below0
def p0 : Program := .bare "" "" ""
def e0 : Env := launch0.env 0 0 0
theorem w_frames : about1.frames = Frame.invoking theMethod args0 :: below0 := rfl
set_option maxRecDepth 65536 in
theorem w_args : argsFit about1.vm theMethod args0 = true := by decide +kernel
set_option maxRecDepth 65536 in
theorem w_heap : heapFits about1 = true := by decide +kernel
set_option maxRecDepth 65536 in
theorem w_runnable : about1.curStatus? = some .runnable := by decide +kernel
set_option maxRecDepth 65536 in
theorem w_alone : about1.alone = true := by decide +kernel
set_option maxRecDepth 65536 in
theorem w_named : about1.methodNamed? x = some theMethod := by decide +kernel
set_option maxRecDepth 65536 in
theorem w_hears : about1.hears theMethod below0 = true := by decide +kernel
set_option maxRecDepth 65536 in
theorem w_ripe : about1.ripe theMethod args0 below0 = true := by decide +kernel
theorem w_running : about1.status = .running := rfl
set_option maxRecDepth 65536 in
theorem w_room : about1.hasRoom e0.platform room_1 = true :=
  launch0.hasRoom_least _ room_1 (by decide +kernel) (by decide +kernel) (by decide +kernel) (by decide +kernel) (by decide +kernel) (by decide +kernel)
theorem allAtoms_all (ts : List Jvm.Cond) (a : Array Jvm.Value) (st : Jvm.State) : (allAtoms ts).before a st = ts.all (fun c => c.before a st) := by
  induction ts with
  | nil => rfl
  | cons c t ih =>
    show (Jvm.Cond.and c (allAtoms t)).before a st = _
    rw [Jvm.Cond.before_and, ih, List.all_cons]
def words1 : List Jvm.Cond := Jvm.Cond.code x code maxLocals ret :: tables_1
/-- a 'code' word, met by the world's own term for the bytes: nothing is compared byte by byte -/
theorem code_word {y : MethodName} {bytes : ByteArray} {mx : Nat} {rt : Option FieldType} {a : Array Value} {s : State} {m : MethodId} {meth : Method} {c : Code} (h1 : s.methodNamed? y = some m) (h2 : s.vm.method? m = some meth) (h3 : meth.code = some c) (h4 : c.code = bytes)
    (h5 : (c.maxLocals == mx && c.exceptionTable.isEmpty && decide (c.maxStack ≤ mostOperands) && decide (meth.sig.returnType = rt) && !meth.locks && decide (parseMethodDescriptor y.desc = some meth.sig)) = true) : (Jvm.Cond.code y bytes mx rt).before a s = true := by
  simp only [Bool.and_eq_true, beq_iff_eq, Bool.not_eq_true', decide_eq_true_eq] at h5
  obtain ⟨⟨⟨⟨⟨g1, g2⟩, g3⟩, g4⟩, g5⟩, g6⟩ := h5
  simp [Cond.before, Cond.holds, Cond.value, h1, h2, h3, h4, g1, g2, g3, g4, g5, g6]
def isCode : Jvm.Cond → Bool
  | .code _ _ _ _ => true
  | _ => false
theorem all_split {L : List Jvm.Cond} {P : Jvm.Cond → Bool} (h1 : L.all (fun c => isCode c || P c) = true) (h2 : ∀ c ∈ L.filter isCode, P c = true) : L.all P = true := by
  refine List.all_eq_true.mpr fun c hc => ?_
  have h := List.all_eq_true.mp h1 c hc
  rcases Bool.eq_false_or_eq_true (isCode c) with hi | hi
  · exact h2 c (List.mem_filter.mpr ⟨hc, hi⟩)
  · simpa [hi] using h
set_option maxRecDepth 65536 in
theorem w_c0 : (Jvm.Cond.code x code maxLocals ret).before args0 about1 = true := code_word (m := ⟨1, 2⟩) (meth := k1m2) (c := k1c2) (by decide +kernel) rfl rfl rfl (by decide +kernel)
set_option maxRecDepth 65536 in
theorem w_c1 : (Jvm.Cond.code ({ cls := "com/example/obliv/obliv/io/SegmentIndex", name := "<init>", desc := "()V" } : Jvm.MethodName) prog_12_method_1_code (1 : Nat) (Option.none : Option Jvm.ClassFile.FieldType)).before args0 about1 = true := code_word (m := ⟨2, 0⟩) (meth := k2m0) (c := k2c0) (by decide +kernel) rfl rfl rfl (by decide +kernel)
set_option maxRecDepth 65536 in
theorem w_c2 : (Jvm.Cond.code ({ cls := "java/lang/Object", name := "<init>", desc := "()V" } : Jvm.MethodName) object_method_1_code (1 : Nat) (Option.none : Option Jvm.ClassFile.FieldType)).before args0 about1 = true := code_word (m := ⟨0, 0⟩) (meth := k0m0) (c := k0c0) (by decide +kernel) rfl rfl rfl (by decide +kernel)
set_option maxRecDepth 65536 in
theorem w_c3 : (Jvm.Cond.code ({ cls := "com/example/obliv/obliv/io/SegmentIndex", name := "hold", desc := "(JJ)V" } : Jvm.MethodName) prog_12_method_10_code (5 : Nat) (Option.none : Option Jvm.ClassFile.FieldType)).before args0 about1 = true := code_word (m := ⟨2, 4⟩) (meth := k2m4) (c := k2c4) (by decide +kernel) rfl rfl rfl (by decide +kernel)
set_option maxRecDepth 65536 in
theorem w_c4 : (Jvm.Cond.code ({ cls := "com/example/obliv/obliv/io/SegmentIndex", name := "add", desc := "(JJ)V" } : Jvm.MethodName) prog_12_method_3_code (5 : Nat) (Option.none : Option Jvm.ClassFile.FieldType)).before args0 about1 = true := code_word (m := ⟨2, 1⟩) (meth := k2m1) (c := k2c1) (by decide +kernel) rfl rfl rfl (by decide +kernel)
set_option maxRecDepth 65536 in
theorem w_c5 : (Jvm.Cond.code ({ cls := "com/example/obliv/obliv/io/SegmentIndex", name := "lastPosition", desc := "()J" } : Jvm.MethodName) prog_12_method_9_code (1 : Nat) (Option.some Jvm.ClassFile.FieldType.long)).before args0 about1 = true := code_word (m := ⟨2, 3⟩) (meth := k2m3) (c := k2c3) (by decide +kernel) rfl rfl rfl (by decide +kernel)
set_option maxRecDepth 65536 in
theorem w_c6 : (Jvm.Cond.code ({ cls := "com/example/obliv/obliv/io/SegmentIndex", name := "toArray", desc := "()[J" } : Jvm.MethodName) prog_12_method_8_code (3 : Nat) (Option.some (Jvm.ClassFile.FieldType.array Jvm.ClassFile.FieldType.long))).before args0 about1 = true := code_word (m := ⟨2, 2⟩) (meth := k2m2) (c := k2c2) (by decide +kernel) rfl rfl rfl (by decide +kernel)
set_option maxRecDepth 65536 in
theorem w_c7 : (Jvm.Cond.code ({ cls := "com/example/obliv/obliv/io/SegmentIndexToArrayPinLaw", name := "eqAt", desc := "([J[JII)Z" } : Jvm.MethodName) method_2_code (4 : Nat) (Option.some Jvm.ClassFile.FieldType.boolean)).before args0 about1 = true := code_word (m := ⟨1, 1⟩) (meth := k1m1) (c := k1c1) (by decide +kernel) rfl rfl rfl (by decide +kernel)
def codes1 : List Jvm.Cond := [Jvm.Cond.code x code maxLocals ret, Jvm.Cond.code ({ cls := "com/example/obliv/obliv/io/SegmentIndex", name := "<init>", desc := "()V" } : Jvm.MethodName) prog_12_method_1_code (1 : Nat) (Option.none : Option Jvm.ClassFile.FieldType), Jvm.Cond.code ({ cls := "java/lang/Object", name := "<init>", desc := "()V" } : Jvm.MethodName) object_method_1_code (1 : Nat) (Option.none : Option Jvm.ClassFile.FieldType), Jvm.Cond.code ({ cls := "com/example/obliv/obliv/io/SegmentIndex", name := "hold", desc := "(JJ)V" } : Jvm.MethodName) prog_12_method_10_code (5 : Nat) (Option.none : Option Jvm.ClassFile.FieldType), Jvm.Cond.code ({ cls := "com/example/obliv/obliv/io/SegmentIndex", name := "add", desc := "(JJ)V" } : Jvm.MethodName) prog_12_method_3_code (5 : Nat) (Option.none : Option Jvm.ClassFile.FieldType), Jvm.Cond.code ({ cls := "com/example/obliv/obliv/io/SegmentIndex", name := "lastPosition", desc := "()J" } : Jvm.MethodName) prog_12_method_9_code (1 : Nat) (Option.some Jvm.ClassFile.FieldType.long), Jvm.Cond.code ({ cls := "com/example/obliv/obliv/io/SegmentIndex", name := "toArray", desc := "()[J" } : Jvm.MethodName) prog_12_method_8_code (3 : Nat) (Option.some (Jvm.ClassFile.FieldType.array Jvm.ClassFile.FieldType.long)), Jvm.Cond.code ({ cls := "com/example/obliv/obliv/io/SegmentIndexToArrayPinLaw", name := "eqAt", desc := "([J[JII)Z" } : Jvm.MethodName) method_2_code (4 : Nat) (Option.some Jvm.ClassFile.FieldType.boolean)]
set_option maxRecDepth 65536 in
theorem codes_eq : words1.filter isCode = codes1 := rfl
theorem w_codes : ∀ c ∈ words1.filter isCode, c.before args0 about1 = true := by
  rw [codes_eq]
  intro c hc
  simp only [codes1, List.mem_cons, List.not_mem_nil, or_false] at hc
  rcases hc with rfl | rfl | rfl | rfl | rfl | rfl | rfl | rfl
  · exact w_c0
  · exact w_c1
  · exact w_c2
  · exact w_c3
  · exact w_c4
  · exact w_c5
  · exact w_c6
  · exact w_c7
set_option maxRecDepth 65536 in
theorem w_t1 : (words1.take 24).all (fun c => isCode c || c.before args0 about1) = true := by decide +kernel
set_option maxRecDepth 65536 in
theorem w_t2 : (words1.drop 24).all (fun c => isCode c || c.before args0 about1) = true := by decide +kernel
theorem w_tables : (allAtoms (Jvm.Cond.code x code maxLocals ret :: tables_1)).before args0 about1 = true := by
  rw [allAtoms_all]
  show words1.all (fun c => c.before args0 about1) = true
  refine all_split ?_ w_codes
  rw [← List.take_append_drop 24 words1, List.all_append, w_t1, w_t2]
  rfl
set_option maxRecDepth 65536 in
theorem w_case : (Jvm.Cond.and given_1 narrow_1).before args0 about1 = true := by decide +kernel
theorem w_applies : (headSpec (Jvm.Cond.code x code maxLocals ret :: tables_1) room_1).applies x e0.platform about1 = true :=
  (Spec.applies_iff w_frames).mpr ⟨w_running, w_runnable, w_alone, w_named, w_hears, w_ripe, w_room, w_tables⟩
theorem atStart : AtStart classFile x code maxLocals ret World_1 tables_1 room_1 Calls_1 rest_1 Pre_1 launch0 p0 e0 about1 theMethod args0 below0 :=
  ⟨lists_1, trivial, launch0.admits_env _ _ _, launch0.least_env, fairChoices_fair.cas, fairChoices_fair.clock, w_frames, w_args, w_heap, w_applies, trivial, trivial, w_case⟩
end start1
theorem witness_1 : WitnessClaimed_1 := ⟨start1.p0, start1.e0, start1.about1, start1.theMethod, start1.args0, start1.below0, start1.atStart⟩
end Jvm.Pilot.@@N@@
