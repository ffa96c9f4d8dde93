import JvmDerived
import JvmDerived.Pilot.@@N@@Statement
import JvmDerived.Pilot.@@N@@Code
set_option linter.unusedVariables false
set_option linter.unusedSimpArgs false
namespace Jvm.Pilot.@@N@@
open Jvm Jvm.ClassFile Sem Op Lib Jvm.Free Jvm.Stand Jvm.LawKit Jvm.RoadKit Bundle Jvm.Pilot.@@N@@.Jvm.D
section Own
variable {p : Program} {l : Launch} {e : Env} {R : Room} {s : State} {m : MethodId} {args : Array Value} {below : List Frame} {meth : Method} {c : Code} {T : State} {locs : List Loc} {cells slots : Nat} {Z : State} {a0 : Array Value} {h h' : Heap} {rc rs : Nat} {Q Qc : Option Value → Heap → List Loc → Prop}
/-- from here the run comes to its end, and leaves what Q says -/
def GG (p : Program) (e : Env) (below : List Frame) (s : State) (rc rs : Nat) (Q : Option Value → Heap → List Loc → Prop) (T : State) (g : JFrame) : Prop :=
  ∃ s₂ o, Steps p.tables e below (T.setTop g) s₂ ∧ s₂.status = .running ∧ Ended s₂ below o ∧ ∃ v L, o = .returned v ∧ Q v s₂.heap L ∧ FrameEnd s o s₂ L rc rs
theorem own_go {T' : State} {g g' : JFrame} (st : ∀ t, Steps p.tables e below (T'.setTop g') t → Steps p.tables e below (T.setTop g) t) (k : GG p e below s rc rs Q T' g') : GG p e below s rc rs Q T g := by
  obtain ⟨s₂, o, h1, h2⟩ := k
  exact ⟨s₂, o, st _ h1, h2⟩
theorem own_in {g g' : JFrame} (q : g = g') (k : GG p e below s rc rs Q T g') : GG p e below s rc rs Q T g := q ▸ k
theorem own_if {g1 g2 : JFrame} {P : Prop} [Decidable P] (k1 : P → GG p e below s rc rs Q T g1) (k2 : ¬ P → GG p e below s rc rs Q T g2) : GG p e below s rc rs Q T (if P then g1 else g2) := by
  by_cases q : P
  · rw [if_pos q]; exact k1 q
  · rw [if_neg q]; exact k2 q
theorem own_join {g g' : JFrame} (k1 : GG p e below s rc rs Q T g' → GG p e below s rc rs Q T g) (k2 : GG p e below s rc rs Q T g') : GG p e below s rc rs Q T g := k1 k2
abbrev own_CT (l : Launch) (Z : State) (y : MethodName) (bytes : ByteArray) (maxL : Nat) (ret : Option FieldType) (ws : List Jvm.Cond) (rm : Room) (as : Array Value) (h : Heap) (Qc : Option Value → Heap → List Loc → Prop) : Prop :=
  MetFree l y (head1 (Jvm.Cond.code y bytes maxL ret :: ws) rm) (fun a U => a = as ∧ Z.Warmed39 U.vm ∧ U.heap = h) (fun _ _ _ _ _ => True) (fun _ U o U' => ∃ v L, o = .returned v ∧ Qc v U'.heap L ∧ FrameEnd U o U' L rm.cells rm.slots)
theorem own_callS (X : Stand p l e R s m args below meth c T locs cells slots) (hx : p.tables.exec = Jvm.exec) (hZ : Z.Warmed39 s.vm) {own : String} {index : Nat} {y : MethodName} {bytes : ByteArray} {maxL : Nat} {ret : Option FieldType} {rm : Room} (W : Nat)
    (hown : s.vm.findClass own = some m.cls) (w1 : (Jvm.Cond.methodLink own index y).before a0 Z = true) (w2 : (Jvm.Cond.static y).before a0 Z = true) (w3 : (Jvm.Cond.initialized y.cls).before a0 Z = true) (w4 : (Jvm.Cond.code y bytes maxL ret).before a0 Z = true)
    (hy : y.cls ≠ "java/lang/invoke/MethodHandle" ∧ y.cls ≠ "java/lang/invoke/VarHandle") {argsL rest : List Value} (hM : own_CT l Z y bytes maxL ret [] rm argsL.toArray h Qc)
    (hf : rm.frames + 1 ≤ R.frames) (hl : W + (maxL + 11) + rm.locals ≤ R.locals) (hc : cells + rm.cells ≤ R.cells) (hs : slots + rm.slots ≤ R.slots)
    {g : JFrame} (hg : g.method = m) (hsize : g.locals.size = c.maxLocals) (hlen : ∀ sig, parseMethodDescriptor y.desc = some sig → argsL.length = sig.parameters.length) (hstack : g.stack = argsL.reverse ++ rest) (hW : 2 * g.monitorRoom + (rest.map fun v => v.category).sum ≤ W)
    (hdg : decode c.code g.pc = .ok (.invokestatic index, 3)) (eT : T.heap = h)
    (k : ∀ (v : Option Value) (T' : State) (L : List Loc), Stand p l e R s m args below meth c T' (locs ++ L) (cells + rm.cells) (slots + rm.slots) → Qc v T'.heap L → GG p e below s rc rs Q T' { g with pc := g.pc + 3, stack := v.toList ++ rest }) : GG p e below s rc rs Q T g := by
  obtain ⟨v, vm₁, ⟨T', L', k', n'⟩, -, X', ⟨L, hQ, q1, q2, q3⟩, st⟩ := Jvm.LawKit.callS X hx hown (mvT hZ w1) (mvT hZ w2) (mvT hZ w3) (mvT hZ w4) hy (backOf (W := W) hM hZ w4 w3 hf hl) hg hsize hlen hstack hW hdg (fun _ _ => ⟨rfl, eT, hc, hs⟩)
  dsimp only [Pt.U, Pt.locs, Pt.cells, Pt.slots] at X' q1 q2 q3 st hQ
  subst q1 q2 q3
  exact own_go st (k v T' L X' hQ)
theorem own_callI (X : Stand p l e R s m args below meth c T locs cells slots) (hx : p.tables.exec = Jvm.exec) (hZ : Z.Warmed39 s.vm) {own : String} {index : Nat} {y : MethodName} {bytes : ByteArray} {maxL : Nat} {rm : Room} (W : Nat) (hy1 : y.name = "<init>")
    (hown : s.vm.findClass own = some m.cls) (w1 : (Jvm.Cond.methodLink own index y).before a0 Z = true) (w2 : (Jvm.Cond.instanceMethod y).before a0 Z = true) (w3 : (Jvm.Cond.initialized y.cls).before a0 Z = true) (w4 : (Jvm.Cond.code y bytes maxL none).before a0 Z = true)
    (hy : y.cls ≠ "java/lang/invoke/MethodHandle" ∧ y.cls ≠ "java/lang/invoke/VarHandle") {a : Addr} {argsL rest : List Value} (hM : own_CT l Z y bytes maxL none [] rm (.ref a :: argsL).toArray h Qc)
    (hf : rm.frames + 1 ≤ R.frames) (hl : W + (maxL + 11) + rm.locals ≤ R.locals) (hc : cells + rm.cells ≤ R.cells) (hs : slots + rm.slots ≤ R.slots)
    {g : JFrame} (hg : g.method = m) (hsize : g.locals.size = c.maxLocals) (hlen : ∀ sig, parseMethodDescriptor y.desc = some sig → argsL.length = sig.parameters.length) (hstack : g.stack = argsL.reverse ++ .ref a :: rest) (hW : 2 * g.monitorRoom + (rest.map fun v => v.category).sum ≤ W)
    (hdg : decode c.code g.pc = .ok (.invokespecial index, 3)) (eT : T.heap = h)
    (k : ∀ (v : Option Value) (T' : State) (L : List Loc), Stand p l e R s m args below meth c T' (locs ++ L) (cells + rm.cells) (slots + rm.slots) → Qc v T'.heap L → GG p e below s rc rs Q T' { g with pc := g.pc + 3, stack := v.toList ++ rest }) : GG p e below s rc rs Q T g := by
  obtain ⟨v, vm₁, ⟨T', L', k', n'⟩, -, X', ⟨L, hQ, q1, q2, q3⟩, st⟩ := X.specialBack hx hy1 hown (mvT hZ w1) (mvT hZ w2) (mvT hZ w4) hy (backOf (W := W) hM hZ w4 w3 hf hl) hg hsize (Steps.refl _) hlen hstack hW hdg (fun _ _ => ⟨rfl, eT, hc, hs⟩)
  dsimp only [Pt.U, Pt.locs, Pt.cells, Pt.slots] at X' q1 q2 q3 st hQ
  subst q1 q2 q3
  exact own_go (fun _ => st.trans) (k v T' L X' hQ)
theorem own_callV (X : Stand p l e R s m args below meth c T locs cells slots) (hx : p.tables.exec = Jvm.exec) (hZ : Z.Warmed39 s.vm) {own C : String} {index : Nat} {y z : MethodName} {bytes : ByteArray} {maxL : Nat} {ret : Option FieldType} {rm : Room} (W : Nat)
    (hown : s.vm.findClass own = some m.cls) (w1 : (Jvm.Cond.methodLink own index y).before a0 Z = true) (w2 : (Jvm.Cond.declares y).before a0 Z = true) (hnf : NotFace s y) (w5 : (Jvm.Cond.selects C y z).before a0 Z = true) (w6 : (Jvm.Cond.instanceMethod z).before a0 Z = true) (w3 : (Jvm.Cond.initialized z.cls).before a0 Z = true) (w4 : (Jvm.Cond.code z bytes maxL ret).before a0 Z = true)
    (hy : y.cls ≠ "java/lang/invoke/MethodHandle" ∧ y.cls ≠ "java/lang/invoke/VarHandle") {a : Addr} {argsL rest : List Value} (hM : own_CT l Z z bytes maxL ret [] rm (.ref a :: argsL).toArray h Qc)
    (hf : rm.frames + 1 ≤ R.frames) (hl : W + (maxL + 11) + rm.locals ≤ R.locals) (hc : cells + rm.cells ≤ R.cells) (hs : slots + rm.slots ≤ R.slots) (E : Exa Z h a C)
    {g : JFrame} (hg : g.method = m) (hsize : g.locals.size = c.maxLocals) (hlen : ∀ sig, parseMethodDescriptor y.desc = some sig → argsL.length = sig.parameters.length) (hstack : g.stack = argsL.reverse ++ .ref a :: rest) (hW : 2 * g.monitorRoom + (rest.map fun v => v.category).sum ≤ W)
    (hdg : decode c.code g.pc = .ok (.invokevirtual index, 3)) (eT : T.heap = h)
    (k : ∀ (v : Option Value) (T' : State) (L : List Loc), Stand p l e R s m args below meth c T' (locs ++ L) (cells + rm.cells) (slots + rm.slots) → Qc v T'.heap L → GG p e below s rc rs Q T' { g with pc := g.pc + 3, stack := v.toList ++ rest }) : GG p e below s rc rs Q T g := by
  obtain ⟨cq, kq, qa, qb, qc⟩ := isOf hZ eT E
  obtain ⟨v, vm₁, ⟨T', L', k', n'⟩, -, X', ⟨L, hQ, q1, q2, q3⟩, st⟩ := X.virtualBack hx hown (mvT hZ w1) (mvT hZ w2) hnf (mvT hZ w5) (mvT hZ w6) hy (backOf (W := W) hM hZ w4 w3 hf hl) qa qc hg hsize (Steps.refl _) hlen hstack hW hdg (fun _ _ => ⟨rfl, eT, hc, hs⟩)
  dsimp only [Pt.U, Pt.locs, Pt.cells, Pt.slots] at X' q1 q2 q3 st hQ
  subst q1 q2 q3
  exact own_go (fun _ => st.trans) (k v T' L X' hQ)
theorem own_callP (X : Stand p l e R s m args below meth c T locs cells slots) (hx : p.tables.exec = Jvm.exec) (hZ : Z.Warmed39 s.vm) {own C : String} {index : Nat} {y : MethodName} {bytes : ByteArray} {maxL : Nat} {ret : Option FieldType} {rm : Room} (W : Nat)
    (hown : s.vm.findClass own = some m.cls) (w1 : (Jvm.Cond.methodLink own index y).before a0 Z = true) (w2 : (Jvm.Cond.instanceMethod y).before a0 Z = true) {kk : Nat} (w5 : (Jvm.Cond.instantiable y.cls kk).before a0 Z = true) (w6 : (Jvm.Cond.privateMethod y).before a0 Z = true) (w3 : (Jvm.Cond.initialized y.cls).before a0 Z = true) (w4 : (Jvm.Cond.code y bytes maxL ret).before a0 Z = true)
    (hy : y.cls ≠ "java/lang/invoke/MethodHandle" ∧ y.cls ≠ "java/lang/invoke/VarHandle") {a : Addr} {argsL rest : List Value} (hM : own_CT l Z y bytes maxL ret [] rm (.ref a :: argsL).toArray h Qc)
    (hf : rm.frames + 1 ≤ R.frames) (hl : W + (maxL + 11) + rm.locals ≤ R.locals) (hc : cells + rm.cells ≤ R.cells) (hs : slots + rm.slots ≤ R.slots) (E : Exa Z h a C)
    {g : JFrame} (hg : g.method = m) (hsize : g.locals.size = c.maxLocals) (hlen : ∀ sig, parseMethodDescriptor y.desc = some sig → argsL.length = sig.parameters.length) (hstack : g.stack = argsL.reverse ++ .ref a :: rest) (hW : 2 * g.monitorRoom + (rest.map fun v => v.category).sum ≤ W)
    (hdg : decode c.code g.pc = .ok (.invokevirtual index, 3)) (eT : T.heap = h)
    (k : ∀ (v : Option Value) (T' : State) (L : List Loc), Stand p l e R s m args below meth c T' (locs ++ L) (cells + rm.cells) (slots + rm.slots) → Qc v T'.heap L → GG p e below s rc rs Q T' { g with pc := g.pc + 3, stack := v.toList ++ rest }) : GG p e below s rc rs Q T g := by
  obtain ⟨cq, q, q'⟩ := E.cell
  have hpr : s.PrivateAt y := Cond.privateMethod_at (mvP hZ w6 (args := #[]))
  obtain ⟨c1, k1, i1, i2, -, i4, -⟩ := Cond.instantiable_spec (show (Jvm.Cond.instantiable y.cls kk).before args s = true from mv hZ w5)
  have hsel : (Jvm.Cond.selects y.cls y y).before args s = true := selects_self_of_private i1 i2 (Bool.or_eq_false_iff.mp i4).1 hpr (mvT hZ w2) hy
  obtain ⟨v, vm₁, ⟨T', L', k', n'⟩, -, X', ⟨L, hQ, q1, q2, q3⟩, st⟩ := X.privateBack hx hown (mvT hZ w1) (mvT hZ w2) hsel hpr (mvT hZ w4) hy (backOf (W := W) hM hZ w4 w3 hf hl) hg hsize (Steps.refl _) (by rw [eT]; exact q) q' hlen hstack hW hdg (fun _ _ => ⟨rfl, eT, hc, hs⟩)
  dsimp only [Pt.U, Pt.locs, Pt.cells, Pt.slots] at X' q1 q2 q3 st hQ
  subst q1 q2 q3
  exact own_go (fun _ => st.trans) (k v T' L X' hQ)
theorem own_ret (X : Stand p l e R s m args below meth c T locs cells slots) (hx : p.tables.exec = Jvm.exec) (hlk : meth.locks = false) {t : FieldType} {w : Value} {i : Instr} {pc : Nat} {Ls : Array Slot} {rest : List Value} (hret : meth.sig.returnType = some t) (hn : narrow t w = w)
    (hi : (i = .ireturn ∧ (t = .int ∨ t = .boolean ∨ t = .byte ∨ t = .char ∨ t = .short) ∧ ∃ z, w = .int z) ∨ (i = .lreturn ∧ t = .long ∧ ∃ z, w = .long z) ∨ (i = .dreturn ∧ t = .double ∧ ∃ z, w = .double z) ∨ (i = .freturn ∧ t = .float ∧ ∃ z, w = .float z) ∨ (i = .areturn ∧ t.isReference = true ∧ w.isRef = true))
    (hd : decode c.code pc = .ok (i, 1)) (hc : cells ≤ rc) (hs : slots ≤ rs) (hQ : Q (some w) T.heap locs) : GG p e below s rc rs Q T (mkF m pc Ls (w :: rest)) := by
  obtain ⟨fs, hr, hrun, hended, hW, hsame⟩ := X.leave (v := some w) (fun h => by rw [hret] at h; cases h) hlk
  exact ⟨_, _, retOut X hx hret hn hi hd hr, hrun, hended, _, _, rfl, hQ, ⟨_, rfl⟩, hW, hsame.mono hc hs⟩
theorem own_retV (X : Stand p l e R s m args below meth c T locs cells slots) (hx : p.tables.exec = Jvm.exec) (hlk : meth.locks = false) {pc : Nat} {Ls : Array Slot} (hret : meth.sig.returnType = none)
    (hd : decode c.code pc = .ok (.return_, 1)) (hc : cells ≤ rc) (hs : slots ≤ rs) (hQ : Q none T.heap locs) : GG p e below s rc rs Q T (mkF m pc Ls []) := by
  obtain ⟨fs, hr, hrun, hended, hW, hsame⟩ := X.leave (v := none) (fun _ => rfl) hlk
  exact ⟨_, _, X.returnOut hx hret hd hr, hrun, hended, _, _, rfl, hQ, ⟨_, rfl⟩, hW, hsame.mono hc hs⟩
theorem own_nZ {P : Prop} [Decidable P] : narrow .boolean (.int (if P then 1 else 0)) = .int (if P then 1 else 0) := by split <;> rfl
/-- an array of values, all of them named -/
def Arx (Z : State) (h : Heap) (a : Addr) (ty : FieldType) (vs : List Value) : Prop := vs.length < 2 ^ 31 ∧ ∃ k dv, Arv Z h a k ty (Int32.ofNat vs.length) vs dv
variable {a b : Addr} {ty : FieldType} {vs : List Value}
theorem own_ofNat {n : Nat} (q : n < 2 ^ 31) : (Int32.ofNat n).toInt = n := Int32.toInt_ofNat_of_lt q
theorem own_clamp {n : Nat} (q : n < 2 ^ 31) : (Int32.ofNat n).toNatClampNeg = n := by simp only [Int32.toNatClampNeg, own_ofNat q]; rfl
theorem Arx.lt (V : Arx Z h a ty vs) : a < h.size := by obtain ⟨_, k, dv, V⟩ := V; exact V.lt
theorem Arx.ext (V : Arx Z h a ty vs) (E : Ext h h') : Arx Z h' a ty vs := by obtain ⟨q, k, dv, V⟩ := V; exact ⟨q, k, dv, V.ext E⟩
theorem Arx.other {sl : Nat} {v : Value} (V : Arx Z h b ty vs) (W : Wr h h' a sl v) (n : b ≠ a) : Arx Z h' b ty vs := by obtain ⟨q, k, dv, V⟩ := V; exact ⟨q, k, dv, V.other W n⟩
theorem Arx.keep {ws : List Addr} (V : Arx Z h a ty vs) (K : Keep h h' ws) (n : a ∉ ws) : Arx Z h' a ty vs := by obtain ⟨q, k, dv, V⟩ := V; exact ⟨q, k, dv, V.keep K n⟩
theorem Arx.open {j : Int32} {v : Value} (V : Arx Z h a ty vs) (h0 : ¬ j < 0) (hv : vs[j.toNatClampNeg]? = some v) : ∃ cl, Arr Z h a cl ty ∧ ¬ (j < 0 ∨ cl.slots.size ≤ j.toNatClampNeg) ∧ cl.slots[j.toNatClampNeg]? = some v := by
  obtain ⟨q, k, dv, cl, A, -, S, -, H, -⟩ := V
  rw [own_clamp q] at S
  have hl := (List.getElem?_eq_some_iff.mp hv).1
  have e := H j.toNatClampNeg (by rw [S]; exact hl)
  rw [List.getD_eq_getElem?_getD, hv] at e
  exact ⟨cl, A, fun q' => q'.elim h0 (by rw [S]; exact Nat.not_le.mpr hl), e⟩
theorem own_len (X : Stand p l e R s m args below meth c T locs cells slots) (hx : p.tables.exec = Jvm.exec) (hZ : Z.Warmed39 s.vm) (eT : T.heap = h) (V : Arx Z h a ty vs) {g : JFrame} (hg : g.method = m) {rest : List Value} (hs : g.stack = .ref a :: rest) (hd : decode c.code g.pc = .ok (.arraylength, 1)) :
    ∀ t, Steps p.tables e below (T.setTop { g with pc := g.pc + 1, stack := .int (Int32.ofNat vs.length) :: rest }) t → Steps p.tables e below (T.setTop g) t := fun t k => by
  obtain ⟨q, k', dv, cl, A, -, S, N, -⟩ := V
  refine X.arraylength hx (by rw [eT]; exact A.1) (State.isArrayOf_alike hZ.alike A.2.1) hg hs hd _ ?_
  rw [len_of S N]; exact k
theorem own_iaload (X : Stand p l e R s m args below meth c T locs cells slots) (hx : p.tables.exec = Jvm.exec) (hZ : Z.Warmed39 s.vm) (eT : T.heap = h) (V : Arx Z h a .int vs) {j : Int32} {v : Value} (h0 : ¬ j < 0) (hv : vs[j.toNatClampNeg]? = some v) {g : JFrame} (hg : g.method = m) {rest : List Value} (hs : g.stack = .int j :: .ref a :: rest) (hd : decode c.code g.pc = .ok (.iaload, 1)) :
    ∀ t, Steps p.tables e below (T.setTop { g with pc := g.pc + 1, stack := v :: rest }) t → Steps p.tables e below (T.setTop g) t := fun t k => by
  obtain ⟨cl, A, h1, h2⟩ := V.open h0 hv
  exact X.iaload hx (by rw [eT]; exact A.1) (State.isArrayOf_alike hZ.alike A.2.1) A.2.2 h1 h2 hg hs hd _ k
theorem own_laload (X : Stand p l e R s m args below meth c T locs cells slots) (hx : p.tables.exec = Jvm.exec) (hZ : Z.Warmed39 s.vm) (eT : T.heap = h) (V : Arx Z h a .long vs) {j : Int32} {v : Value} (h0 : ¬ j < 0) (hv : vs[j.toNatClampNeg]? = some v) {g : JFrame} (hg : g.method = m) {rest : List Value} (hs : g.stack = .int j :: .ref a :: rest) (hd : decode c.code g.pc = .ok (.laload, 1)) :
    ∀ t, Steps p.tables e below (T.setTop { g with pc := g.pc + 1, stack := v :: rest }) t → Steps p.tables e below (T.setTop g) t := fun t k => by
  obtain ⟨cl, A, h1, h2⟩ := V.open h0 hv
  exact X.laload hx (by rw [eT]; exact A.1) (State.isArrayOf_alike hZ.alike A.2.1) A.2.2 h1 h2 hg hs hd _ k
theorem own_caload (X : Stand p l e R s m args below meth c T locs cells slots) (hx : p.tables.exec = Jvm.exec) (hZ : Z.Warmed39 s.vm) (eT : T.heap = h) (V : Arx Z h a .char vs) {j : Int32} {v : Value} (h0 : ¬ j < 0) (hv : vs[j.toNatClampNeg]? = some v) {g : JFrame} (hg : g.method = m) {rest : List Value} (hs : g.stack = .int j :: .ref a :: rest) (hd : decode c.code g.pc = .ok (.caload, 1)) :
    ∀ t, Steps p.tables e below (T.setTop { g with pc := g.pc + 1, stack := v :: rest }) t → Steps p.tables e below (T.setTop g) t := fun t k => by
  obtain ⟨cl, A, h1, h2⟩ := V.open h0 hv
  exact X.caload hx (by rw [eT]; exact A.1) (State.isArrayOf_alike hZ.alike A.2.1) A.2.2 h1 h2 hg hs hd _ k
theorem own_baload (X : Stand p l e R s m args below meth c T locs cells slots) (hx : p.tables.exec = Jvm.exec) (hZ : Z.Warmed39 s.vm) (eT : T.heap = h) (V : Arx Z h a .byte vs) {j : Int32} {v : Value} (h0 : ¬ j < 0) (hv : vs[j.toNatClampNeg]? = some v) {g : JFrame} (hg : g.method = m) {rest : List Value} (hs : g.stack = .int j :: .ref a :: rest) (hd : decode c.code g.pc = .ok (.baload, 1)) :
    ∀ t, Steps p.tables e below (T.setTop { g with pc := g.pc + 1, stack := v :: rest }) t → Steps p.tables e below (T.setTop g) t := fun t k => by
  obtain ⟨cl, A, h1, h2⟩ := V.open h0 hv
  exact X.baloadBytes hx (by rw [eT]; exact A.1) (State.isArrayOf_alike hZ.alike A.2.1) A.2.2 h1 h2 hg hs hd _ k
theorem own_aaload (X : Stand p l e R s m args below meth c T locs cells slots) (hx : p.tables.exec = Jvm.exec) (hZ : Z.Warmed39 s.vm) (eT : T.heap = h) (V : Arx Z h a ty vs) (ht : ty.isReference = true) {j : Int32} {v : Value} (h0 : ¬ j < 0) (hv : vs[j.toNatClampNeg]? = some v) {g : JFrame} (hg : g.method = m) {rest : List Value} (hs : g.stack = .int j :: .ref a :: rest) (hd : decode c.code g.pc = .ok (.aaload, 1)) :
    ∀ t, Steps p.tables e below (T.setTop { g with pc := g.pc + 1, stack := v :: rest }) t → Steps p.tables e below (T.setTop g) t := fun t k => by
  obtain ⟨cl, A, h1, h2⟩ := V.open h0 hv
  exact X.aaload hx (by rw [eT]; exact A.1) (State.isArrayOf_alike hZ.alike A.2.1) ht A.2.2 h1 h2 hg hs hd _ k
theorem Arx.put {j : Int32} {v : Value} (V : Arx Z h a ty vs) (h0 : ¬ j < 0) (hj : j.toNatClampNeg < vs.length) (hv : fits ty v = true) : ∃ cl, Arr Z h a cl ty ∧ ¬ (j < 0 ∨ cl.slots.size ≤ j.toNatClampNeg) ∧ ∀ {h' : Heap}, Wr h h' a j.toNatClampNeg v → Arx Z h' a ty (vs.set j.toNatClampNeg v) := by
  obtain ⟨q, k, dv, cl, A, q1, S, N, H, G⟩ := V
  refine ⟨cl, A, fun q' => q'.elim h0 ?_, fun W => ⟨by rw [List.length_set]; exact q, k, dv, ?_⟩⟩
  · rw [S, own_clamp q]; exact Nat.not_le.mpr hj
  · rw [List.length_set]; exact Arv.set A q1 S N H G hv W _ rfl hj
theorem own_iastore (X : Stand p l e R s m args below meth c T locs cells slots) (hx : p.tables.exec = Jvm.exec) (hZ : Z.Warmed39 s.vm) (eT : T.heap = h) (V : Arx Z h a .int vs) {j x : Int32} (h0 : ¬ j < 0) (hj : j.toNatClampNeg < vs.length) {g : JFrame} (hg : g.method = m) {rest : List Value} (hs : g.stack = .int x :: .int j :: .ref a :: rest) (hd : decode c.code g.pc = .ok (.iastore, 1)) :
    ∃ T' h', Stand p l e R s m args below meth c T' (locs ++ [⟨a, j.toNatClampNeg⟩]) cells slots ∧ T'.heap = h' ∧ Wr h h' a j.toNatClampNeg (.int x) ∧ Arx Z h' a .int (vs.set j.toNatClampNeg (.int x)) ∧ ∀ t, Steps p.tables e below (T'.setTop { g with pc := g.pc + 1, stack := rest }) t → Steps p.tables e below (T.setTop g) t := by
  obtain ⟨cl, A, h1, h2⟩ := V.put (v := .int x) h0 hj rfl
  obtain ⟨T', h', X', e', W, st⟩ := stI X hx hZ eT A h1 hg hs hd
  exact ⟨T', h', X', e', W, h2 W, st⟩
theorem own_lastore (X : Stand p l e R s m args below meth c T locs cells slots) (hx : p.tables.exec = Jvm.exec) (hZ : Z.Warmed39 s.vm) (eT : T.heap = h) (V : Arx Z h a .long vs) {j : Int32} {x : Int64} (h0 : ¬ j < 0) (hj : j.toNatClampNeg < vs.length) {g : JFrame} (hg : g.method = m) {rest : List Value} (hs : g.stack = .long x :: .int j :: .ref a :: rest) (hd : decode c.code g.pc = .ok (.lastore, 1)) :
    ∃ T' h', Stand p l e R s m args below meth c T' (locs ++ [⟨a, j.toNatClampNeg⟩]) cells slots ∧ T'.heap = h' ∧ Wr h h' a j.toNatClampNeg (.long x) ∧ Arx Z h' a .long (vs.set j.toNatClampNeg (.long x)) ∧ ∀ t, Steps p.tables e below (T'.setTop { g with pc := g.pc + 1, stack := rest }) t → Steps p.tables e below (T.setTop g) t := by
  obtain ⟨cl, A, h1, h2⟩ := V.put (v := .long x) h0 hj rfl
  obtain ⟨T', h', X', e', W, st⟩ := stJ X hx hZ eT A h1 hg hs hd
  exact ⟨T', h', X', e', W, h2 W, st⟩
theorem own_castore (X : Stand p l e R s m args below meth c T locs cells slots) (hx : p.tables.exec = Jvm.exec) (hZ : Z.Warmed39 s.vm) (eT : T.heap = h) (V : Arx Z h a .char vs) {j x : Int32} (h0 : ¬ j < 0) (hj : j.toNatClampNeg < vs.length) {g : JFrame} (hg : g.method = m) {rest : List Value} (hs : g.stack = .int x :: .int j :: .ref a :: rest) (hd : decode c.code g.pc = .ok (.castore, 1)) :
    ∃ T' h', Stand p l e R s m args below meth c T' (locs ++ [⟨a, j.toNatClampNeg⟩]) cells slots ∧ T'.heap = h' ∧ Wr h h' a j.toNatClampNeg (.int (nar .char x)) ∧ Arx Z h' a .char (vs.set j.toNatClampNeg (.int (nar .char x))) ∧ ∀ t, Steps p.tables e below (T'.setTop { g with pc := g.pc + 1, stack := rest }) t → Steps p.tables e below (T.setTop g) t := by
  obtain ⟨cl, A, h1, h2⟩ := V.put (v := .int (nar .char x)) h0 hj (fits_nar_char _)
  obtain ⟨T', h', X', e', W, st⟩ := stC X hx hZ eT A h1 hg hs hd
  exact ⟨T', h', X', e', W, h2 W, st⟩
theorem own_bastore (X : Stand p l e R s m args below meth c T locs cells slots) (hx : p.tables.exec = Jvm.exec) (hZ : Z.Warmed39 s.vm) (eT : T.heap = h) (V : Arx Z h a .byte vs) {j x : Int32} (h0 : ¬ j < 0) (hj : j.toNatClampNeg < vs.length) {g : JFrame} (hg : g.method = m) {rest : List Value} (hs : g.stack = .int x :: .int j :: .ref a :: rest) (hd : decode c.code g.pc = .ok (.bastore, 1)) :
    ∃ T' h', Stand p l e R s m args below meth c T' (locs ++ [⟨a, j.toNatClampNeg⟩]) cells slots ∧ T'.heap = h' ∧ Wr h h' a j.toNatClampNeg (.int (nar .byte x)) ∧ Arx Z h' a .byte (vs.set j.toNatClampNeg (.int (nar .byte x))) ∧ ∀ t, Steps p.tables e below (T'.setTop { g with pc := g.pc + 1, stack := rest }) t → Steps p.tables e below (T.setTop g) t := by
  obtain ⟨cl, A, h1, h2⟩ := V.put (v := .int (nar .byte x)) h0 hj (fits_nar_byte _)
  obtain ⟨T', h', X', e', W, st⟩ := stB X hx hZ eT A h1 hg hs hd
  exact ⟨T', h', X', e', W, h2 W, st⟩
theorem own_newarr (X : Stand p l e R s m args below meth c T locs cells slots) (hx : p.tables.exec = Jvm.exec) (hZ : Z.Warmed39 s.vm) {aty : ArrayType} (w : (Jvm.Cond.arrayClass (newarray.typeOf aty)).before a0 Z = true) (eT : T.heap = h) {g : JFrame} (hg : g.method = m) (hd : decode c.code g.pc = .ok (.newarray aty, 2)) {n : Int32} {rest : List Value} (hs : g.stack = .int n :: rest)
    (hn : ¬ n < 0) {cap : Nat} (hcap : n.toNatClampNeg ≤ cap) (hb : cap * 8 ≤ 536870912) (hc : cells + 1 ≤ R.cells) (hl : slots + cap ≤ R.slots) {ad : String} (had : "[" ++ (newarray.typeOf aty).toString = ad) :
    ∃ T' h' a, a = h.size ∧ Stand p l e R s m args below meth c T' locs (cells + 1) (slots + cap) ∧ T'.heap = h' ∧ Ext h h' ∧ Arx Z h' a (newarray.typeOf aty) (List.replicate n.toNatClampNeg (defaultValue (newarray.typeOf aty))) ∧ Exa Z h' a ad ∧
      ∀ t, Steps p.tables e below (T'.setTop { g with pc := g.pc + 2, stack := .ref a :: rest }) t → Steps p.tables e below (T.setTop g) t := by
  obtain ⟨T', h', cA, X', e', E, A, Ex, st⟩ := newPE X hx hZ w eT hg hd hs hn hcap hb hc hl had
  have b := back32 hn
  refine ⟨T', h', _, rfl, X', e', E, ⟨by rw [List.length_replicate]; exact b.2, cA, defaultValue (newarray.typeOf aty), ?_⟩, Ex, st⟩
  rw [List.length_replicate, show Int32.ofNat n.toNatClampNeg = n from b.1]
  exact (Arv.new A hn).pad (pad_rep [] _ _)
theorem own_clone (X : Stand p l e R s m args below meth c T locs cells slots) (hx : p.tables.exec = Jvm.exec) (hZ : Z.Warmed39 s.vm) {own ad : String} {index : Nat} (hown : s.vm.findClass own = some m.cls)
    (w1 : (Jvm.Cond.methodLink own index ⟨ad, "clone", "()Ljava/lang/Object;"⟩).before a0 Z = true) (w2 : (Jvm.Cond.sameMethod ad "java/lang/Object" "clone" "()Ljava/lang/Object;").before a0 Z = true) (w3 : (Jvm.Cond.native ⟨"java/lang/Object", "clone", "()Ljava/lang/Object;"⟩).before a0 Z = true)
    (w4 : (Jvm.Cond.instanceMethod ⟨"java/lang/Object", "clone", "()Ljava/lang/Object;"⟩).before a0 Z = true) (w5 : (Jvm.Cond.selects ad ⟨ad, "clone", "()Ljava/lang/Object;"⟩ ⟨"java/lang/Object", "clone", "()Ljava/lang/Object;"⟩).before a0 Z = true) (w6 : (Jvm.Cond.castable ad "java/lang/Cloneable").before a0 Z = true)
    (eT : T.heap = h) (V : Arx Z h a ty vs) (E : Exa Z h a ad) {g : JFrame} (hg : g.method = m) (hsize : g.locals.size = c.maxLocals) {rest : List Value} (hst : g.stack = .ref a :: rest) (hd : decode c.code g.pc = .ok (.invokevirtual index, 3))
    (hf : 1 ≤ R.frames) {W cap : Nat} (hW : 2 * g.monitorRoom + (rest.map fun v => v.category).sum ≤ W) (hl : W + 14 ≤ R.locals) (hcap : vs.length ≤ cap) (hc : cells + 1 ≤ R.cells) (hsl : slots + cap ≤ R.slots) :
    ∃ T' h' b, b = h.size ∧ Stand p l e R s m args below meth c T' locs (cells + 1) (slots + cap) ∧ T'.heap = h' ∧ Ext h h' ∧ Arx Z h' b ty vs ∧ Exa Z h' b ad ∧
      ∀ t, Steps p.tables e below (T'.setTop { g with pc := g.pc + 3, stack := .ref b :: rest }) t → Steps p.tables e below (T.setTop g) t := by
  obtain ⟨q, k, dv, V⟩ := V
  obtain ⟨T', h', X', e', ex, V', E', st⟩ := cloneH X hx hZ hown w1 w2 w3 w4 w5 w6 eT V.arh E hg hsize hst hd hf hW hl (by rw [own_clamp q]; exact hcap) hc hsl
  exact ⟨T', h', _, rfl, X', e', ex, ⟨q, k, dv, V'⟩, E', st⟩
end Own
theorem own_efld {args : Array Value} {s : State} {t : Term} {x : Addr} {O f : String} {k : Int32} (ev : t.eval args s none [] s = some (.ref x)) (h : (Jvm.Cond.eq (Jvm.Term.field t O f "I") (Jvm.Term.int k)).value args s none s [] = some true) : Fld s s.heap x O f "I" (.int k) := by
  obtain ⟨v, w, h1, h2, k1, k2⟩ := cmp_v (Or.inl h)
  obtain rfl : Value.int k = w := Option.some.inj h2
  obtain ⟨z, rfl⟩ := k2
  have q : z = k := by simpa [Cond.value, h1, h2] using h
  subst q
  rw [fld_at ev] at h1
  exact Fld.start h1
theorem d1_0 : decode method_2_code 0 = .ok (.iload_n 0, 1) := by decide +kernel
theorem d1_1 : decode method_2_code 1 = .ok (.ifCond .ne 7, 3) := by decide +kernel
theorem d1_4 : decode method_2_code 4 = .ok (.getstatic 7, 3) := by decide +kernel
theorem d1_7 : decode method_2_code 7 = .ok (.areturn, 1) := by decide +kernel
theorem pn_com_example_tracemark_tracemark_model_TestTakesValuePinLaw : plainName "com/example/tracemark/tracemark/model/TestTakesValuePinLaw" = true := by first | (simp [plainName, overriddenIn]; done) | decide +kernel
theorem ef_1 (m : MethodId) (x0 : Int32) : entryFrame m #[(.int x0)] 1 = mkF m 0 #[.val (.int x0)] [] := by first | (simp [entryFrame, mkF, argsToLocals, Value.category]; done) | rfl
def Q1_0 (Z : State) (p0 : Int32) (a1 : Addr) (h0 : Heap) (n0 : Nat) (v : Option Value) (h : Heap) (L : List Loc) : Prop := v = some (.ref a1) ∧ Fr n0 L ∧ h = h0
set_option maxRecDepth 65536 in
set_option maxHeartbeats 40000000 in
theorem rm1_0 (l : Launch) (Z : State) (a0 : Array Value) (hw : ∀ d ∈ tables_1, d.before a0 Z = true) (ws : List Jvm.Cond) (p0 : Int32) (a1 : Addr) (h0 : Heap) (n0 : Nat) (Z0 : n0 ≤ h0.size) (hp : p0 = (0 : Int32)) (S_1 : Sta Z h0 "com/example/tracemark/tracemark/model/DisplayFilter$Test" "EQ" "Lcom/example/tracemark/tracemark/model/DisplayFilter$Test;" (.ref a1)) :
    own_CT l Z (⟨"com/example/tracemark/tracemark/model/TestTakesValuePinLaw", "pick", "(I)Lcom/example/tracemark/tracemark/model/DisplayFilter$Test;"⟩ : MethodName) method_2_code 1 (some (.object "com/example/tracemark/tracemark/model/DisplayFilter$Test")) ws ({ frames := 0, cells := 0, slots := 0, locals := 0 } : Room) #[(.int p0)] h0 (Q1_0 Z p0 a1 h0 n0) := by
  refine MetFree.of_bodySF (plainFor_of_name pn_com_example_tracemark_tracemark_model_TestTakesValuePinLaw) hisR ?_
  intro p e s m args below meth c s₁ Bd hml0 hP hK
  obtain ⟨rfl, hZ, hh⟩ := hP
  have hx := Bd.exec
  have hby := Bd.bytes
  have hml : c.maxLocals = 1 := hml0
  have hown : s.vm.findClass "com/example/tracemark/tracemark/model/TestTakesValuePinLaw" = some m.cls := findClass_of_methodNamed Bd.named
  have hnm := (name_of_methodNamed Bd.named Bd.method).1
  have hlk : meth.locks = false := BodyLoose.notSynchronized Bd
  have X0 : Stand p l e ({ frames := 0, cells := 0, slots := 0, locals := 0 } : Room) s m #[(.int p0)] below meth c s₁ [] 0 0 := Stand.of_body Bd
  have e0 : s₁.heap = h0 := by rw [← hh, Bd.state]; rfl
  have N0 := Fr.nil n0
  show GG p e below s ({ frames := 0, cells := 0, slots := 0, locals := 0 } : Room).cells ({ frames := 0, cells := 0, slots := 0, locals := 0 } : Room).slots (Q1_0 Z p0 a1 h0 n0) s₁ (entryFrame m #[(.int p0)] 1)
  refine own_in (ef_1 m p0) ?_
  show GG _ _ _ _ _ _ _ s₁ (mkF m 0 #[.val (.int p0)] [])
  refine own_go (fun _ => XS.iloadN X0.here hx rfl (hb hby d1_0) rfl) ?_
  show GG _ _ _ _ _ _ _ s₁ (mkF m 1 #[.val (.int p0)] [(.int p0)])
  have hc1 : p0 = (0 : Int32) := hp
  refine own_go (fun _ => XS.ifNo X0.here hx rfl (hb hby d1_1) rfl ((if0 _ _).trans (teq hc1).2)) ?_
  show GG _ _ _ _ _ _ _ s₁ (mkF m 4 #[.val (.int p0)] [])
  obtain ⟨T1, X1, e1, st1⟩ := getS2 X0 hx hZ hown (host := "") (Or.inl (hw _ (List.mem_of_getElem? (i := 5) rfl))) Via.refl e0 S_1 (g := (mkF m 4 #[.val (.int p0)] [])) rfl (hb hby d1_4)
  refine own_go (fun _ => st1 _) ?_
  show GG _ _ _ _ _ _ _ T1 (mkF m 7 #[.val (.int p0)] [(.ref a1)])
  refine own_ret X1 hx hlk (t := (.object "com/example/tracemark/tracemark/model/DisplayFilter$Test")) (w := (.ref a1)) Bd.returns rfl (Or.inr (Or.inr (Or.inr (Or.inr ⟨rfl, rfl, rfl⟩)))) (hb hby d1_7) (by decide) (by decide) ?_
  show Q1_0 Z p0 a1 h0 n0 (some (.ref a1)) T1.heap _
  rw [e1]
  exact ⟨rfl, N0, rfl⟩
theorem d1_8 : decode method_2_code 8 = .ok (.iload_n 0, 1) := by decide +kernel
theorem d1_9 : decode method_2_code 9 = .ok (.iconst 1, 1) := by decide +kernel
theorem d1_10 : decode method_2_code 10 = .ok (.if_icmp .ne 7, 3) := by decide +kernel
theorem d1_13 : decode method_2_code 13 = .ok (.getstatic 13, 3) := by decide +kernel
theorem d1_16 : decode method_2_code 16 = .ok (.areturn, 1) := by decide +kernel
def Q1_1 (Z : State) (p0 : Int32) (a1 : Addr) (h0 : Heap) (n0 : Nat) (v : Option Value) (h : Heap) (L : List Loc) : Prop := v = some (.ref a1) ∧ Fr n0 L ∧ h = h0
set_option maxRecDepth 65536 in
set_option maxHeartbeats 40000000 in
theorem rm1_1 (l : Launch) (Z : State) (a0 : Array Value) (hw : ∀ d ∈ tables_1, d.before a0 Z = true) (ws : List Jvm.Cond) (p0 : Int32) (a1 : Addr) (h0 : Heap) (n0 : Nat) (Z0 : n0 ≤ h0.size) (hp : p0 = (1 : Int32)) (S_1 : Sta Z h0 "com/example/tracemark/tracemark/model/DisplayFilter$Test" "NE" "Lcom/example/tracemark/tracemark/model/DisplayFilter$Test;" (.ref a1)) :
    own_CT l Z (⟨"com/example/tracemark/tracemark/model/TestTakesValuePinLaw", "pick", "(I)Lcom/example/tracemark/tracemark/model/DisplayFilter$Test;"⟩ : MethodName) method_2_code 1 (some (.object "com/example/tracemark/tracemark/model/DisplayFilter$Test")) ws ({ frames := 0, cells := 0, slots := 0, locals := 0 } : Room) #[(.int p0)] h0 (Q1_1 Z p0 a1 h0 n0) := by
  refine MetFree.of_bodySF (plainFor_of_name pn_com_example_tracemark_tracemark_model_TestTakesValuePinLaw) hisR ?_
  intro p e s m args below meth c s₁ Bd hml0 hP hK
  obtain ⟨rfl, hZ, hh⟩ := hP
  have hx := Bd.exec
  have hby := Bd.bytes
  have hml : c.maxLocals = 1 := hml0
  have hown : s.vm.findClass "com/example/tracemark/tracemark/model/TestTakesValuePinLaw" = some m.cls := findClass_of_methodNamed Bd.named
  have hnm := (name_of_methodNamed Bd.named Bd.method).1
  have hlk : meth.locks = false := BodyLoose.notSynchronized Bd
  have X0 : Stand p l e ({ frames := 0, cells := 0, slots := 0, locals := 0 } : Room) s m #[(.int p0)] below meth c s₁ [] 0 0 := Stand.of_body Bd
  have e0 : s₁.heap = h0 := by rw [← hh, Bd.state]; rfl
  have N0 := Fr.nil n0
  show GG p e below s ({ frames := 0, cells := 0, slots := 0, locals := 0 } : Room).cells ({ frames := 0, cells := 0, slots := 0, locals := 0 } : Room).slots (Q1_1 Z p0 a1 h0 n0) s₁ (entryFrame m #[(.int p0)] 1)
  refine own_in (ef_1 m p0) ?_
  show GG _ _ _ _ _ _ _ s₁ (mkF m 0 #[.val (.int p0)] [])
  refine own_go (fun _ => XS.iloadN X0.here hx rfl (hb hby d1_0) rfl) ?_
  show GG _ _ _ _ _ _ _ s₁ (mkF m 1 #[.val (.int p0)] [(.int p0)])
  have hc1 : ¬ (p0 = (0 : Int32)) := by rw [hp]; decide
  refine own_go (fun _ => XS.ifYes X0.here hx rfl (pc0 := 1) (pc' := 8) rfl (hb hby d1_1) rfl ((if0 _ _).trans (feq hc1).2) (by decide) (by decide)) ?_
  show GG _ _ _ _ _ _ _ s₁ (mkF m 8 #[.val (.int p0)] [])
  refine own_go (fun _ => XS.iloadN X0.here hx rfl (hb hby d1_8) rfl) ?_
  show GG _ _ _ _ _ _ _ s₁ (mkF m 9 #[.val (.int p0)] [(.int p0)])
  refine own_go (fun _ => XS.iconst X0.here hx rfl (hb hby d1_9)) ?_
  show GG _ _ _ _ _ _ _ s₁ (mkF m 10 #[.val (.int p0)] [(.int (1 : Int32)), (.int p0)])
  have hc10 : p0 = (1 : Int32) := hp
  refine own_go (fun _ => XS.icmpNo X0.here hx rfl (hb hby d1_10) rfl (teq hc10).2) ?_
  show GG _ _ _ _ _ _ _ s₁ (mkF m 13 #[.val (.int p0)] [])
  obtain ⟨T1, X1, e1, st1⟩ := getS2 X0 hx hZ hown (host := "") (Or.inl (hw _ (List.mem_of_getElem? (i := 19) rfl))) Via.refl e0 S_1 (g := (mkF m 13 #[.val (.int p0)] [])) rfl (hb hby d1_13)
  refine own_go (fun _ => st1 _) ?_
  show GG _ _ _ _ _ _ _ T1 (mkF m 16 #[.val (.int p0)] [(.ref a1)])
  refine own_ret X1 hx hlk (t := (.object "com/example/tracemark/tracemark/model/DisplayFilter$Test")) (w := (.ref a1)) Bd.returns rfl (Or.inr (Or.inr (Or.inr (Or.inr ⟨rfl, rfl, rfl⟩)))) (hb hby d1_16) (by decide) (by decide) ?_
  show Q1_1 Z p0 a1 h0 n0 (some (.ref a1)) T1.heap _
  rw [e1]
  exact ⟨rfl, N0, rfl⟩
theorem d1_17 : decode method_2_code 17 = .ok (.iload_n 0, 1) := by decide +kernel
theorem d1_18 : decode method_2_code 18 = .ok (.iconst 2, 1) := by decide +kernel
theorem d1_19 : decode method_2_code 19 = .ok (.if_icmp .ne 7, 3) := by decide +kernel
theorem d1_22 : decode method_2_code 22 = .ok (.getstatic 16, 3) := by decide +kernel
theorem d1_25 : decode method_2_code 25 = .ok (.areturn, 1) := by decide +kernel
def Q1_2 (Z : State) (p0 : Int32) (a1 : Addr) (h0 : Heap) (n0 : Nat) (v : Option Value) (h : Heap) (L : List Loc) : Prop := v = some (.ref a1) ∧ Fr n0 L ∧ h = h0
set_option maxRecDepth 65536 in
set_option maxHeartbeats 40000000 in
theorem rm1_2 (l : Launch) (Z : State) (a0 : Array Value) (hw : ∀ d ∈ tables_1, d.before a0 Z = true) (ws : List Jvm.Cond) (p0 : Int32) (a1 : Addr) (h0 : Heap) (n0 : Nat) (Z0 : n0 ≤ h0.size) (hp : p0 = (2 : Int32)) (S_1 : Sta Z h0 "com/example/tracemark/tracemark/model/DisplayFilter$Test" "LT" "Lcom/example/tracemark/tracemark/model/DisplayFilter$Test;" (.ref a1)) :
    own_CT l Z (⟨"com/example/tracemark/tracemark/model/TestTakesValuePinLaw", "pick", "(I)Lcom/example/tracemark/tracemark/model/DisplayFilter$Test;"⟩ : MethodName) method_2_code 1 (some (.object "com/example/tracemark/tracemark/model/DisplayFilter$Test")) ws ({ frames := 0, cells := 0, slots := 0, locals := 0 } : Room) #[(.int p0)] h0 (Q1_2 Z p0 a1 h0 n0) := by
  refine MetFree.of_bodySF (plainFor_of_name pn_com_example_tracemark_tracemark_model_TestTakesValuePinLaw) hisR ?_
  intro p e s m args below meth c s₁ Bd hml0 hP hK
  obtain ⟨rfl, hZ, hh⟩ := hP
  have hx := Bd.exec
  have hby := Bd.bytes
  have hml : c.maxLocals = 1 := hml0
  have hown : s.vm.findClass "com/example/tracemark/tracemark/model/TestTakesValuePinLaw" = some m.cls := findClass_of_methodNamed Bd.named
  have hnm := (name_of_methodNamed Bd.named Bd.method).1
  have hlk : meth.locks = false := BodyLoose.notSynchronized Bd
  have X0 : Stand p l e ({ frames := 0, cells := 0, slots := 0, locals := 0 } : Room) s m #[(.int p0)] below meth c s₁ [] 0 0 := Stand.of_body Bd
  have e0 : s₁.heap = h0 := by rw [← hh, Bd.state]; rfl
  have N0 := Fr.nil n0
  show GG p e below s ({ frames := 0, cells := 0, slots := 0, locals := 0 } : Room).cells ({ frames := 0, cells := 0, slots := 0, locals := 0 } : Room).slots (Q1_2 Z p0 a1 h0 n0) s₁ (entryFrame m #[(.int p0)] 1)
  refine own_in (ef_1 m p0) ?_
  show GG _ _ _ _ _ _ _ s₁ (mkF m 0 #[.val (.int p0)] [])
  refine own_go (fun _ => XS.iloadN X0.here hx rfl (hb hby d1_0) rfl) ?_
  show GG _ _ _ _ _ _ _ s₁ (mkF m 1 #[.val (.int p0)] [(.int p0)])
  have hc1 : ¬ (p0 = (0 : Int32)) := by rw [hp]; decide
  refine own_go (fun _ => XS.ifYes X0.here hx rfl (pc0 := 1) (pc' := 8) rfl (hb hby d1_1) rfl ((if0 _ _).trans (feq hc1).2) (by decide) (by decide)) ?_
  show GG _ _ _ _ _ _ _ s₁ (mkF m 8 #[.val (.int p0)] [])
  refine own_go (fun _ => XS.iloadN X0.here hx rfl (hb hby d1_8) rfl) ?_
  show GG _ _ _ _ _ _ _ s₁ (mkF m 9 #[.val (.int p0)] [(.int p0)])
  refine own_go (fun _ => XS.iconst X0.here hx rfl (hb hby d1_9)) ?_
  show GG _ _ _ _ _ _ _ s₁ (mkF m 10 #[.val (.int p0)] [(.int (1 : Int32)), (.int p0)])
  have hc10 : ¬ (p0 = (1 : Int32)) := by rw [hp]; decide
  refine own_go (fun _ => XS.icmpYes X0.here hx rfl (pc0 := 10) (pc' := 17) rfl (hb hby d1_10) rfl (feq hc10).2 (by decide) (by decide)) ?_
  show GG _ _ _ _ _ _ _ s₁ (mkF m 17 #[.val (.int p0)] [])
  refine own_go (fun _ => XS.iloadN X0.here hx rfl (hb hby d1_17) rfl) ?_
  show GG _ _ _ _ _ _ _ s₁ (mkF m 18 #[.val (.int p0)] [(.int p0)])
  refine own_go (fun _ => XS.iconst X0.here hx rfl (hb hby d1_18)) ?_
  show GG _ _ _ _ _ _ _ s₁ (mkF m 19 #[.val (.int p0)] [(.int (2 : Int32)), (.int p0)])
  have hc19 : p0 = (2 : Int32) := hp
  refine own_go (fun _ => XS.icmpNo X0.here hx rfl (hb hby d1_19) rfl (teq hc19).2) ?_
  show GG _ _ _ _ _ _ _ s₁ (mkF m 22 #[.val (.int p0)] [])
  obtain ⟨T1, X1, e1, st1⟩ := getS2 X0 hx hZ hown (host := "") (Or.inl (hw _ (List.mem_of_getElem? (i := 25) rfl))) Via.refl e0 S_1 (g := (mkF m 22 #[.val (.int p0)] [])) rfl (hb hby d1_22)
  refine own_go (fun _ => st1 _) ?_
  show GG _ _ _ _ _ _ _ T1 (mkF m 25 #[.val (.int p0)] [(.ref a1)])
  refine own_ret X1 hx hlk (t := (.object "com/example/tracemark/tracemark/model/DisplayFilter$Test")) (w := (.ref a1)) Bd.returns rfl (Or.inr (Or.inr (Or.inr (Or.inr ⟨rfl, rfl, rfl⟩)))) (hb hby d1_25) (by decide) (by decide) ?_
  show Q1_2 Z p0 a1 h0 n0 (some (.ref a1)) T1.heap _
  rw [e1]
  exact ⟨rfl, N0, rfl⟩
theorem d1_26 : decode method_2_code 26 = .ok (.iload_n 0, 1) := by decide +kernel
theorem d1_27 : decode method_2_code 27 = .ok (.iconst 3, 1) := by decide +kernel
theorem d1_28 : decode method_2_code 28 = .ok (.if_icmp .ne 7, 3) := by decide +kernel
theorem d1_31 : decode method_2_code 31 = .ok (.getstatic 19, 3) := by decide +kernel
theorem d1_34 : decode method_2_code 34 = .ok (.areturn, 1) := by decide +kernel
def Q1_3 (Z : State) (p0 : Int32) (a1 : Addr) (h0 : Heap) (n0 : Nat) (v : Option Value) (h : Heap) (L : List Loc) : Prop := v = some (.ref a1) ∧ Fr n0 L ∧ h = h0
set_option maxRecDepth 65536 in
set_option maxHeartbeats 40000000 in
theorem rm1_3 (l : Launch) (Z : State) (a0 : Array Value) (hw : ∀ d ∈ tables_1, d.before a0 Z = true) (ws : List Jvm.Cond) (p0 : Int32) (a1 : Addr) (h0 : Heap) (n0 : Nat) (Z0 : n0 ≤ h0.size) (hp : p0 = (3 : Int32)) (S_1 : Sta Z h0 "com/example/tracemark/tracemark/model/DisplayFilter$Test" "LE" "Lcom/example/tracemark/tracemark/model/DisplayFilter$Test;" (.ref a1)) :
    own_CT l Z (⟨"com/example/tracemark/tracemark/model/TestTakesValuePinLaw", "pick", "(I)Lcom/example/tracemark/tracemark/model/DisplayFilter$Test;"⟩ : MethodName) method_2_code 1 (some (.object "com/example/tracemark/tracemark/model/DisplayFilter$Test")) ws ({ frames := 0, cells := 0, slots := 0, locals := 0 } : Room) #[(.int p0)] h0 (Q1_3 Z p0 a1 h0 n0) := by
  refine MetFree.of_bodySF (plainFor_of_name pn_com_example_tracemark_tracemark_model_TestTakesValuePinLaw) hisR ?_
  intro p e s m args below meth c s₁ Bd hml0 hP hK
  obtain ⟨rfl, hZ, hh⟩ := hP
  have hx := Bd.exec
  have hby := Bd.bytes
  have hml : c.maxLocals = 1 := hml0
  have hown : s.vm.findClass "com/example/tracemark/tracemark/model/TestTakesValuePinLaw" = some m.cls := findClass_of_methodNamed Bd.named
  have hnm := (name_of_methodNamed Bd.named Bd.method).1
  have hlk : meth.locks = false := BodyLoose.notSynchronized Bd
  have X0 : Stand p l e ({ frames := 0, cells := 0, slots := 0, locals := 0 } : Room) s m #[(.int p0)] below meth c s₁ [] 0 0 := Stand.of_body Bd
  have e0 : s₁.heap = h0 := by rw [← hh, Bd.state]; rfl
  have N0 := Fr.nil n0
  show GG p e below s ({ frames := 0, cells := 0, slots := 0, locals := 0 } : Room).cells ({ frames := 0, cells := 0, slots := 0, locals := 0 } : Room).slots (Q1_3 Z p0 a1 h0 n0) s₁ (entryFrame m #[(.int p0)] 1)
  refine own_in (ef_1 m p0) ?_
  show GG _ _ _ _ _ _ _ s₁ (mkF m 0 #[.val (.int p0)] [])
  refine own_go (fun _ => XS.iloadN X0.here hx rfl (hb hby d1_0) rfl) ?_
  show GG _ _ _ _ _ _ _ s₁ (mkF m 1 #[.val (.int p0)] [(.int p0)])
  have hc1 : ¬ (p0 = (0 : Int32)) := by rw [hp]; decide
  refine own_go (fun _ => XS.ifYes X0.here hx rfl (pc0 := 1) (pc' := 8) rfl (hb hby d1_1) rfl ((if0 _ _).trans (feq hc1).2) (by decide) (by decide)) ?_
  show GG _ _ _ _ _ _ _ s₁ (mkF m 8 #[.val (.int p0)] [])
  refine own_go (fun _ => XS.iloadN X0.here hx rfl (hb hby d1_8) rfl) ?_
  show GG _ _ _ _ _ _ _ s₁ (mkF m 9 #[.val (.int p0)] [(.int p0)])
  refine own_go (fun _ => XS.iconst X0.here hx rfl (hb hby d1_9)) ?_
  show GG _ _ _ _ _ _ _ s₁ (mkF m 10 #[.val (.int p0)] [(.int (1 : Int32)), (.int p0)])
  have hc10 : ¬ (p0 = (1 : Int32)) := by rw [hp]; decide
  refine own_go (fun _ => XS.icmpYes X0.here hx rfl (pc0 := 10) (pc' := 17) rfl (hb hby d1_10) rfl (feq hc10).2 (by decide) (by decide)) ?_
  show GG _ _ _ _ _ _ _ s₁ (mkF m 17 #[.val (.int p0)] [])
  refine own_go (fun _ => XS.iloadN X0.here hx rfl (hb hby d1_17) rfl) ?_
  show GG _ _ _ _ _ _ _ s₁ (mkF m 18 #[.val (.int p0)] [(.int p0)])
  refine own_go (fun _ => XS.iconst X0.here hx rfl (hb hby d1_18)) ?_
  show GG _ _ _ _ _ _ _ s₁ (mkF m 19 #[.val (.int p0)] [(.int (2 : Int32)), (.int p0)])
  have hc19 : ¬ (p0 = (2 : Int32)) := by rw [hp]; decide
  refine own_go (fun _ => XS.icmpYes X0.here hx rfl (pc0 := 19) (pc' := 26) rfl (hb hby d1_19) rfl (feq hc19).2 (by decide) (by decide)) ?_
  show GG _ _ _ _ _ _ _ s₁ (mkF m 26 #[.val (.int p0)] [])
  refine own_go (fun _ => XS.iloadN X0.here hx rfl (hb hby d1_26) rfl) ?_
  show GG _ _ _ _ _ _ _ s₁ (mkF m 27 #[.val (.int p0)] [(.int p0)])
  refine own_go (fun _ => XS.iconst X0.here hx rfl (hb hby d1_27)) ?_
  show GG _ _ _ _ _ _ _ s₁ (mkF m 28 #[.val (.int p0)] [(.int (3 : Int32)), (.int p0)])
  have hc28 : p0 = (3 : Int32) := hp
  refine own_go (fun _ => XS.icmpNo X0.here hx rfl (hb hby d1_28) rfl (teq hc28).2) ?_
  show GG _ _ _ _ _ _ _ s₁ (mkF m 31 #[.val (.int p0)] [])
  obtain ⟨T1, X1, e1, st1⟩ := getS2 X0 hx hZ hown (host := "") (Or.inl (hw _ (List.mem_of_getElem? (i := 17) rfl))) Via.refl e0 S_1 (g := (mkF m 31 #[.val (.int p0)] [])) rfl (hb hby d1_31)
  refine own_go (fun _ => st1 _) ?_
  show GG _ _ _ _ _ _ _ T1 (mkF m 34 #[.val (.int p0)] [(.ref a1)])
  refine own_ret X1 hx hlk (t := (.object "com/example/tracemark/tracemark/model/DisplayFilter$Test")) (w := (.ref a1)) Bd.returns rfl (Or.inr (Or.inr (Or.inr (Or.inr ⟨rfl, rfl, rfl⟩)))) (hb hby d1_34) (by decide) (by decide) ?_
  show Q1_3 Z p0 a1 h0 n0 (some (.ref a1)) T1.heap _
  rw [e1]
  exact ⟨rfl, N0, rfl⟩
theorem d1_35 : decode method_2_code 35 = .ok (.iload_n 0, 1) := by decide +kernel
theorem d1_36 : decode method_2_code 36 = .ok (.iconst 4, 1) := by decide +kernel
theorem d1_37 : decode method_2_code 37 = .ok (.if_icmp .ne 7, 3) := by decide +kernel
theorem d1_40 : decode method_2_code 40 = .ok (.getstatic 22, 3) := by decide +kernel
theorem d1_43 : decode method_2_code 43 = .ok (.areturn, 1) := by decide +kernel
def Q1_4 (Z : State) (p0 : Int32) (a1 : Addr) (h0 : Heap) (n0 : Nat) (v : Option Value) (h : Heap) (L : List Loc) : Prop := v = some (.ref a1) ∧ Fr n0 L ∧ h = h0
set_option maxRecDepth 65536 in
set_option maxHeartbeats 40000000 in
theorem rm1_4 (l : Launch) (Z : State) (a0 : Array Value) (hw : ∀ d ∈ tables_1, d.before a0 Z = true) (ws : List Jvm.Cond) (p0 : Int32) (a1 : Addr) (h0 : Heap) (n0 : Nat) (Z0 : n0 ≤ h0.size) (hp : p0 = (4 : Int32)) (S_1 : Sta Z h0 "com/example/tracemark/tracemark/model/DisplayFilter$Test" "GT" "Lcom/example/tracemark/tracemark/model/DisplayFilter$Test;" (.ref a1)) :
    own_CT l Z (⟨"com/example/tracemark/tracemark/model/TestTakesValuePinLaw", "pick", "(I)Lcom/example/tracemark/tracemark/model/DisplayFilter$Test;"⟩ : MethodName) method_2_code 1 (some (.object "com/example/tracemark/tracemark/model/DisplayFilter$Test")) ws ({ frames := 0, cells := 0, slots := 0, locals := 0 } : Room) #[(.int p0)] h0 (Q1_4 Z p0 a1 h0 n0) := by
  refine MetFree.of_bodySF (plainFor_of_name pn_com_example_tracemark_tracemark_model_TestTakesValuePinLaw) hisR ?_
  intro p e s m args below meth c s₁ Bd hml0 hP hK
  obtain ⟨rfl, hZ, hh⟩ := hP
  have hx := Bd.exec
  have hby := Bd.bytes
  have hml : c.maxLocals = 1 := hml0
  have hown : s.vm.findClass "com/example/tracemark/tracemark/model/TestTakesValuePinLaw" = some m.cls := findClass_of_methodNamed Bd.named
  have hnm := (name_of_methodNamed Bd.named Bd.method).1
  have hlk : meth.locks = false := BodyLoose.notSynchronized Bd
  have X0 : Stand p l e ({ frames := 0, cells := 0, slots := 0, locals := 0 } : Room) s m #[(.int p0)] below meth c s₁ [] 0 0 := Stand.of_body Bd
  have e0 : s₁.heap = h0 := by rw [← hh, Bd.state]; rfl
  have N0 := Fr.nil n0
  show GG p e below s ({ frames := 0, cells := 0, slots := 0, locals := 0 } : Room).cells ({ frames := 0, cells := 0, slots := 0, locals := 0 } : Room).slots (Q1_4 Z p0 a1 h0 n0) s₁ (entryFrame m #[(.int p0)] 1)
  refine own_in (ef_1 m p0) ?_
  show GG _ _ _ _ _ _ _ s₁ (mkF m 0 #[.val (.int p0)] [])
  refine own_go (fun _ => XS.iloadN X0.here hx rfl (hb hby d1_0) rfl) ?_
  show GG _ _ _ _ _ _ _ s₁ (mkF m 1 #[.val (.int p0)] [(.int p0)])
  have hc1 : ¬ (p0 = (0 : Int32)) := by rw [hp]; decide
  refine own_go (fun _ => XS.ifYes X0.here hx rfl (pc0 := 1) (pc' := 8) rfl (hb hby d1_1) rfl ((if0 _ _).trans (feq hc1).2) (by decide) (by decide)) ?_
  show GG _ _ _ _ _ _ _ s₁ (mkF m 8 #[.val (.int p0)] [])
  refine own_go (fun _ => XS.iloadN X0.here hx rfl (hb hby d1_8) rfl) ?_
  show GG _ _ _ _ _ _ _ s₁ (mkF m 9 #[.val (.int p0)] [(.int p0)])
  refine own_go (fun _ => XS.iconst X0.here hx rfl (hb hby d1_9)) ?_
  show GG _ _ _ _ _ _ _ s₁ (mkF m 10 #[.val (.int p0)] [(.int (1 : Int32)), (.int p0)])
  have hc10 : ¬ (p0 = (1 : Int32)) := by rw [hp]; decide
  refine own_go (fun _ => XS.icmpYes X0.here hx rfl (pc0 := 10) (pc' := 17) rfl (hb hby d1_10) rfl (feq hc10).2 (by decide) (by decide)) ?_
  show GG _ _ _ _ _ _ _ s₁ (mkF m 17 #[.val (.int p0)] [])
  refine own_go (fun _ => XS.iloadN X0.here hx rfl (hb hby d1_17) rfl) ?_
  show GG _ _ _ _ _ _ _ s₁ (mkF m 18 #[.val (.int p0)] [(.int p0)])
  refine own_go (fun _ => XS.iconst X0.here hx rfl (hb hby d1_18)) ?_
  show GG _ _ _ _ _ _ _ s₁ (mkF m 19 #[.val (.int p0)] [(.int (2 : Int32)), (.int p0)])
  have hc19 : ¬ (p0 = (2 : Int32)) := by rw [hp]; decide
  refine own_go (fun _ => XS.icmpYes X0.here hx rfl (pc0 := 19) (pc' := 26) rfl (hb hby d1_19) rfl (feq hc19).2 (by decide) (by decide)) ?_
  show GG _ _ _ _ _ _ _ s₁ (mkF m 26 #[.val (.int p0)] [])
  refine own_go (fun _ => XS.iloadN X0.here hx rfl (hb hby d1_26) rfl) ?_
  show GG _ _ _ _ _ _ _ s₁ (mkF m 27 #[.val (.int p0)] [(.int p0)])
  refine own_go (fun _ => XS.iconst X0.here hx rfl (hb hby d1_27)) ?_
  show GG _ _ _ _ _ _ _ s₁ (mkF m 28 #[.val (.int p0)] [(.int (3 : Int32)), (.int p0)])
  have hc28 : ¬ (p0 = (3 : Int32)) := by rw [hp]; decide
  refine own_go (fun _ => XS.icmpYes X0.here hx rfl (pc0 := 28) (pc' := 35) rfl (hb hby d1_28) rfl (feq hc28).2 (by decide) (by decide)) ?_
  show GG _ _ _ _ _ _ _ s₁ (mkF m 35 #[.val (.int p0)] [])
  refine own_go (fun _ => XS.iloadN X0.here hx rfl (hb hby d1_35) rfl) ?_
  show GG _ _ _ _ _ _ _ s₁ (mkF m 36 #[.val (.int p0)] [(.int p0)])
  refine own_go (fun _ => XS.iconst X0.here hx rfl (hb hby d1_36)) ?_
  show GG _ _ _ _ _ _ _ s₁ (mkF m 37 #[.val (.int p0)] [(.int (4 : Int32)), (.int p0)])
  have hc37 : p0 = (4 : Int32) := hp
  refine own_go (fun _ => XS.icmpNo X0.here hx rfl (hb hby d1_37) rfl (teq hc37).2) ?_
  show GG _ _ _ _ _ _ _ s₁ (mkF m 40 #[.val (.int p0)] [])
  obtain ⟨T1, X1, e1, st1⟩ := getS2 X0 hx hZ hown (host := "") (Or.inl (hw _ (List.mem_of_getElem? (i := 21) rfl))) Via.refl e0 S_1 (g := (mkF m 40 #[.val (.int p0)] [])) rfl (hb hby d1_40)
  refine own_go (fun _ => st1 _) ?_
  show GG _ _ _ _ _ _ _ T1 (mkF m 43 #[.val (.int p0)] [(.ref a1)])
  refine own_ret X1 hx hlk (t := (.object "com/example/tracemark/tracemark/model/DisplayFilter$Test")) (w := (.ref a1)) Bd.returns rfl (Or.inr (Or.inr (Or.inr (Or.inr ⟨rfl, rfl, rfl⟩)))) (hb hby d1_43) (by decide) (by decide) ?_
  show Q1_4 Z p0 a1 h0 n0 (some (.ref a1)) T1.heap _
  rw [e1]
  exact ⟨rfl, N0, rfl⟩
theorem d1_44 : decode method_2_code 44 = .ok (.iload_n 0, 1) := by decide +kernel
theorem d1_45 : decode method_2_code 45 = .ok (.iconst 5, 1) := by decide +kernel
theorem d1_46 : decode method_2_code 46 = .ok (.if_icmp .ne 7, 3) := by decide +kernel
theorem d1_49 : decode method_2_code 49 = .ok (.getstatic 25, 3) := by decide +kernel
theorem d1_52 : decode method_2_code 52 = .ok (.areturn, 1) := by decide +kernel
def Q1_5 (Z : State) (p0 : Int32) (a1 : Addr) (h0 : Heap) (n0 : Nat) (v : Option Value) (h : Heap) (L : List Loc) : Prop := v = some (.ref a1) ∧ Fr n0 L ∧ h = h0
set_option maxRecDepth 65536 in
set_option maxHeartbeats 40000000 in
theorem rm1_5 (l : Launch) (Z : State) (a0 : Array Value) (hw : ∀ d ∈ tables_1, d.before a0 Z = true) (ws : List Jvm.Cond) (p0 : Int32) (a1 : Addr) (h0 : Heap) (n0 : Nat) (Z0 : n0 ≤ h0.size) (hp : p0 = (5 : Int32)) (S_1 : Sta Z h0 "com/example/tracemark/tracemark/model/DisplayFilter$Test" "GE" "Lcom/example/tracemark/tracemark/model/DisplayFilter$Test;" (.ref a1)) :
    own_CT l Z (⟨"com/example/tracemark/tracemark/model/TestTakesValuePinLaw", "pick", "(I)Lcom/example/tracemark/tracemark/model/DisplayFilter$Test;"⟩ : MethodName) method_2_code 1 (some (.object "com/example/tracemark/tracemark/model/DisplayFilter$Test")) ws ({ frames := 0, cells := 0, slots := 0, locals := 0 } : Room) #[(.int p0)] h0 (Q1_5 Z p0 a1 h0 n0) := by
  refine MetFree.of_bodySF (plainFor_of_name pn_com_example_tracemark_tracemark_model_TestTakesValuePinLaw) hisR ?_
  intro p e s m args below meth c s₁ Bd hml0 hP hK
  obtain ⟨rfl, hZ, hh⟩ := hP
  have hx := Bd.exec
  have hby := Bd.bytes
  have hml : c.maxLocals = 1 := hml0
  have hown : s.vm.findClass "com/example/tracemark/tracemark/model/TestTakesValuePinLaw" = some m.cls := findClass_of_methodNamed Bd.named
  have hnm := (name_of_methodNamed Bd.named Bd.method).1
  have hlk : meth.locks = false := BodyLoose.notSynchronized Bd
  have X0 : Stand p l e ({ frames := 0, cells := 0, slots := 0, locals := 0 } : Room) s m #[(.int p0)] below meth c s₁ [] 0 0 := Stand.of_body Bd
  have e0 : s₁.heap = h0 := by rw [← hh, Bd.state]; rfl
  have N0 := Fr.nil n0
  show GG p e below s ({ frames := 0, cells := 0, slots := 0, locals := 0 } : Room).cells ({ frames := 0, cells := 0, slots := 0, locals := 0 } : Room).slots (Q1_5 Z p0 a1 h0 n0) s₁ (entryFrame m #[(.int p0)] 1)
  refine own_in (ef_1 m p0) ?_
  show GG _ _ _ _ _ _ _ s₁ (mkF m 0 #[.val (.int p0)] [])
  refine own_go (fun _ => XS.iloadN X0.here hx rfl (hb hby d1_0) rfl) ?_
  show GG _ _ _ _ _ _ _ s₁ (mkF m 1 #[.val (.int p0)] [(.int p0)])
  have hc1 : ¬ (p0 = (0 : Int32)) := by rw [hp]; decide
  refine own_go (fun _ => XS.ifYes X0.here hx rfl (pc0 := 1) (pc' := 8) rfl (hb hby d1_1) rfl ((if0 _ _).trans (feq hc1).2) (by decide) (by decide)) ?_
  show GG _ _ _ _ _ _ _ s₁ (mkF m 8 #[.val (.int p0)] [])
  refine own_go (fun _ => XS.iloadN X0.here hx rfl (hb hby d1_8) rfl) ?_
  show GG _ _ _ _ _ _ _ s₁ (mkF m 9 #[.val (.int p0)] [(.int p0)])
  refine own_go (fun _ => XS.iconst X0.here hx rfl (hb hby d1_9)) ?_
  show GG _ _ _ _ _ _ _ s₁ (mkF m 10 #[.val (.int p0)] [(.int (1 : Int32)), (.int p0)])
  have hc10 : ¬ (p0 = (1 : Int32)) := by rw [hp]; decide
  refine own_go (fun _ => XS.icmpYes X0.here hx rfl (pc0 := 10) (pc' := 17) rfl (hb hby d1_10) rfl (feq hc10).2 (by decide) (by decide)) ?_
  show GG _ _ _ _ _ _ _ s₁ (mkF m 17 #[.val (.int p0)] [])
  refine own_go (fun _ => XS.iloadN X0.here hx rfl (hb hby d1_17) rfl) ?_
  show GG _ _ _ _ _ _ _ s₁ (mkF m 18 #[.val (.int p0)] [(.int p0)])
  refine own_go (fun _ => XS.iconst X0.here hx rfl (hb hby d1_18)) ?_
  show GG _ _ _ _ _ _ _ s₁ (mkF m 19 #[.val (.int p0)] [(.int (2 : Int32)), (.int p0)])
  have hc19 : ¬ (p0 = (2 : Int32)) := by rw [hp]; decide
  refine own_go (fun _ => XS.icmpYes X0.here hx rfl (pc0 := 19) (pc' := 26) rfl (hb hby d1_19) rfl (feq hc19).2 (by decide) (by decide)) ?_
  show GG _ _ _ _ _ _ _ s₁ (mkF m 26 #[.val (.int p0)] [])
  refine own_go (fun _ => XS.iloadN X0.here hx rfl (hb hby d1_26) rfl) ?_
  show GG _ _ _ _ _ _ _ s₁ (mkF m 27 #[.val (.int p0)] [(.int p0)])
  refine own_go (fun _ => XS.iconst X0.here hx rfl (hb hby d1_27)) ?_
  show GG _ _ _ _ _ _ _ s₁ (mkF m 28 #[.val (.int p0)] [(.int (3 : Int32)), (.int p0)])
  have hc28 : ¬ (p0 = (3 : Int32)) := by rw [hp]; decide
  refine own_go (fun _ => XS.icmpYes X0.here hx rfl (pc0 := 28) (pc' := 35) rfl (hb hby d1_28) rfl (feq hc28).2 (by decide) (by decide)) ?_
  show GG _ _ _ _ _ _ _ s₁ (mkF m 35 #[.val (.int p0)] [])
  refine own_go (fun _ => XS.iloadN X0.here hx rfl (hb hby d1_35) rfl) ?_
  show GG _ _ _ _ _ _ _ s₁ (mkF m 36 #[.val (.int p0)] [(.int p0)])
  refine own_go (fun _ => XS.iconst X0.here hx rfl (hb hby d1_36)) ?_
  show GG _ _ _ _ _ _ _ s₁ (mkF m 37 #[.val (.int p0)] [(.int (4 : Int32)), (.int p0)])
  have hc37 : ¬ (p0 = (4 : Int32)) := by rw [hp]; decide
  refine own_go (fun _ => XS.icmpYes X0.here hx rfl (pc0 := 37) (pc' := 44) rfl (hb hby d1_37) rfl (feq hc37).2 (by decide) (by decide)) ?_
  show GG _ _ _ _ _ _ _ s₁ (mkF m 44 #[.val (.int p0)] [])
  refine own_go (fun _ => XS.iloadN X0.here hx rfl (hb hby d1_44) rfl) ?_
  show GG _ _ _ _ _ _ _ s₁ (mkF m 45 #[.val (.int p0)] [(.int p0)])
  refine own_go (fun _ => XS.iconst X0.here hx rfl (hb hby d1_45)) ?_
  show GG _ _ _ _ _ _ _ s₁ (mkF m 46 #[.val (.int p0)] [(.int (5 : Int32)), (.int p0)])
  have hc46 : p0 = (5 : Int32) := hp
  refine own_go (fun _ => XS.icmpNo X0.here hx rfl (hb hby d1_46) rfl (teq hc46).2) ?_
  show GG _ _ _ _ _ _ _ s₁ (mkF m 49 #[.val (.int p0)] [])
  obtain ⟨T1, X1, e1, st1⟩ := getS2 X0 hx hZ hown (host := "") (Or.inl (hw _ (List.mem_of_getElem? (i := 29) rfl))) Via.refl e0 S_1 (g := (mkF m 49 #[.val (.int p0)] [])) rfl (hb hby d1_49)
  refine own_go (fun _ => st1 _) ?_
  show GG _ _ _ _ _ _ _ T1 (mkF m 52 #[.val (.int p0)] [(.ref a1)])
  refine own_ret X1 hx hlk (t := (.object "com/example/tracemark/tracemark/model/DisplayFilter$Test")) (w := (.ref a1)) Bd.returns rfl (Or.inr (Or.inr (Or.inr (Or.inr ⟨rfl, rfl, rfl⟩)))) (hb hby d1_52) (by decide) (by decide) ?_
  show Q1_5 Z p0 a1 h0 n0 (some (.ref a1)) T1.heap _
  rw [e1]
  exact ⟨rfl, N0, rfl⟩
theorem d1_53 : decode method_2_code 53 = .ok (.iload_n 0, 1) := by decide +kernel
theorem d1_54 : decode method_2_code 54 = .ok (.bipush 6, 2) := by decide +kernel
theorem d1_56 : decode method_2_code 56 = .ok (.if_icmp .ne 7, 3) := by decide +kernel
theorem d1_59 : decode method_2_code 59 = .ok (.getstatic 28, 3) := by decide +kernel
theorem d1_62 : decode method_2_code 62 = .ok (.areturn, 1) := by decide +kernel
def Q1_6 (Z : State) (p0 : Int32) (a1 : Addr) (h0 : Heap) (n0 : Nat) (v : Option Value) (h : Heap) (L : List Loc) : Prop := v = some (.ref a1) ∧ Fr n0 L ∧ h = h0
set_option maxRecDepth 65536 in
set_option maxHeartbeats 40000000 in
theorem rm1_6 (l : Launch) (Z : State) (a0 : Array Value) (hw : ∀ d ∈ tables_1, d.before a0 Z = true) (ws : List Jvm.Cond) (p0 : Int32) (a1 : Addr) (h0 : Heap) (n0 : Nat) (Z0 : n0 ≤ h0.size) (hp : p0 = (6 : Int32)) (S_1 : Sta Z h0 "com/example/tracemark/tracemark/model/DisplayFilter$Test" "CONTAINS" "Lcom/example/tracemark/tracemark/model/DisplayFilter$Test;" (.ref a1)) :
    own_CT l Z (⟨"com/example/tracemark/tracemark/model/TestTakesValuePinLaw", "pick", "(I)Lcom/example/tracemark/tracemark/model/DisplayFilter$Test;"⟩ : MethodName) method_2_code 1 (some (.object "com/example/tracemark/tracemark/model/DisplayFilter$Test")) ws ({ frames := 0, cells := 0, slots := 0, locals := 0 } : Room) #[(.int p0)] h0 (Q1_6 Z p0 a1 h0 n0) := by
  refine MetFree.of_bodySF (plainFor_of_name pn_com_example_tracemark_tracemark_model_TestTakesValuePinLaw) hisR ?_
  intro p e s m args below meth c s₁ Bd hml0 hP hK
  obtain ⟨rfl, hZ, hh⟩ := hP
  have hx := Bd.exec
  have hby := Bd.bytes
  have hml : c.maxLocals = 1 := hml0
  have hown : s.vm.findClass "com/example/tracemark/tracemark/model/TestTakesValuePinLaw" = some m.cls := findClass_of_methodNamed Bd.named
  have hnm := (name_of_methodNamed Bd.named Bd.method).1
  have hlk : meth.locks = false := BodyLoose.notSynchronized Bd
  have X0 : Stand p l e ({ frames := 0, cells := 0, slots := 0, locals := 0 } : Room) s m #[(.int p0)] below meth c s₁ [] 0 0 := Stand.of_body Bd
  have e0 : s₁.heap = h0 := by rw [← hh, Bd.state]; rfl
  have N0 := Fr.nil n0
  show GG p e below s ({ frames := 0, cells := 0, slots := 0, locals := 0 } : Room).cells ({ frames := 0, cells := 0, slots := 0, locals := 0 } : Room).slots (Q1_6 Z p0 a1 h0 n0) s₁ (entryFrame m #[(.int p0)] 1)
  refine own_in (ef_1 m p0) ?_
  show GG _ _ _ _ _ _ _ s₁ (mkF m 0 #[.val (.int p0)] [])
  refine own_go (fun _ => XS.iloadN X0.here hx rfl (hb hby d1_0) rfl) ?_
  show GG _ _ _ _ _ _ _ s₁ (mkF m 1 #[.val (.int p0)] [(.int p0)])
  have hc1 : ¬ (p0 = (0 : Int32)) := by rw [hp]; decide
  refine own_go (fun _ => XS.ifYes X0.here hx rfl (pc0 := 1) (pc' := 8) rfl (hb hby d1_1) rfl ((if0 _ _).trans (feq hc1).2) (by decide) (by decide)) ?_
  show GG _ _ _ _ _ _ _ s₁ (mkF m 8 #[.val (.int p0)] [])
  refine own_go (fun _ => XS.iloadN X0.here hx rfl (hb hby d1_8) rfl) ?_
  show GG _ _ _ _ _ _ _ s₁ (mkF m 9 #[.val (.int p0)] [(.int p0)])
  refine own_go (fun _ => XS.iconst X0.here hx rfl (hb hby d1_9)) ?_
  show GG _ _ _ _ _ _ _ s₁ (mkF m 10 #[.val (.int p0)] [(.int (1 : Int32)), (.int p0)])
  have hc10 : ¬ (p0 = (1 : Int32)) := by rw [hp]; decide
  refine own_go (fun _ => XS.icmpYes X0.here hx rfl (pc0 := 10) (pc' := 17) rfl (hb hby d1_10) rfl (feq hc10).2 (by decide) (by decide)) ?_
  show GG _ _ _ _ _ _ _ s₁ (mkF m 17 #[.val (.int p0)] [])
  refine own_go (fun _ => XS.iloadN X0.here hx rfl (hb hby d1_17) rfl) ?_
  show GG _ _ _ _ _ _ _ s₁ (mkF m 18 #[.val (.int p0)] [(.int p0)])
  refine own_go (fun _ => XS.iconst X0.here hx rfl (hb hby d1_18)) ?_
  show GG _ _ _ _ _ _ _ s₁ (mkF m 19 #[.val (.int p0)] [(.int (2 : Int32)), (.int p0)])
  have hc19 : ¬ (p0 = (2 : Int32)) := by rw [hp]; decide
  refine own_go (fun _ => XS.icmpYes X0.here hx rfl (pc0 := 19) (pc' := 26) rfl (hb hby d1_19) rfl (feq hc19).2 (by decide) (by decide)) ?_
  show GG _ _ _ _ _ _ _ s₁ (mkF m 26 #[.val (.int p0)] [])
  refine own_go (fun _ => XS.iloadN X0.here hx rfl (hb hby d1_26) rfl) ?_
  show GG _ _ _ _ _ _ _ s₁ (mkF m 27 #[.val (.int p0)] [(.int p0)])
  refine own_go (fun _ => XS.iconst X0.here hx rfl (hb hby d1_27)) ?_
  show GG _ _ _ _ _ _ _ s₁ (mkF m 28 #[.val (.int p0)] [(.int (3 : Int32)), (.int p0)])
  have hc28 : ¬ (p0 = (3 : Int32)) := by rw [hp]; decide
  refine own_go (fun _ => XS.icmpYes X0.here hx rfl (pc0 := 28) (pc' := 35) rfl (hb hby d1_28) rfl (feq hc28).2 (by decide) (by decide)) ?_
  show GG _ _ _ _ _ _ _ s₁ (mkF m 35 #[.val (.int p0)] [])
  refine own_go (fun _ => XS.iloadN X0.here hx rfl (hb hby d1_35) rfl) ?_
  show GG _ _ _ _ _ _ _ s₁ (mkF m 36 #[.val (.int p0)] [(.int p0)])
  refine own_go (fun _ => XS.iconst X0.here hx rfl (hb hby d1_36)) ?_
  show GG _ _ _ _ _ _ _ s₁ (mkF m 37 #[.val (.int p0)] [(.int (4 : Int32)), (.int p0)])
  have hc37 : ¬ (p0 = (4 : Int32)) := by rw [hp]; decide
  refine own_go (fun _ => XS.icmpYes X0.here hx rfl (pc0 := 37) (pc' := 44) rfl (hb hby d1_37) rfl (feq hc37).2 (by decide) (by decide)) ?_
  show GG _ _ _ _ _ _ _ s₁ (mkF m 44 #[.val (.int p0)] [])
  refine own_go (fun _ => XS.iloadN X0.here hx rfl (hb hby d1_44) rfl) ?_
  show GG _ _ _ _ _ _ _ s₁ (mkF m 45 #[.val (.int p0)] [(.int p0)])
  refine own_go (fun _ => XS.iconst X0.here hx rfl (hb hby d1_45)) ?_
  show GG _ _ _ _ _ _ _ s₁ (mkF m 46 #[.val (.int p0)] [(.int (5 : Int32)), (.int p0)])
  have hc46 : ¬ (p0 = (5 : Int32)) := by rw [hp]; decide
  refine own_go (fun _ => XS.icmpYes X0.here hx rfl (pc0 := 46) (pc' := 53) rfl (hb hby d1_46) rfl (feq hc46).2 (by decide) (by decide)) ?_
  show GG _ _ _ _ _ _ _ s₁ (mkF m 53 #[.val (.int p0)] [])
  refine own_go (fun _ => XS.iloadN X0.here hx rfl (hb hby d1_53) rfl) ?_
  show GG _ _ _ _ _ _ _ s₁ (mkF m 54 #[.val (.int p0)] [(.int p0)])
  refine own_go (fun _ => XS.bipush X0.here hx rfl (hb hby d1_54)) ?_
  show GG _ _ _ _ _ _ _ s₁ (mkF m 56 #[.val (.int p0)] [(.int (6 : Int32)), (.int p0)])
  have hc56 : p0 = (6 : Int32) := hp
  refine own_go (fun _ => XS.icmpNo X0.here hx rfl (hb hby d1_56) rfl (teq hc56).2) ?_
  show GG _ _ _ _ _ _ _ s₁ (mkF m 59 #[.val (.int p0)] [])
  obtain ⟨T1, X1, e1, st1⟩ := getS2 X0 hx hZ hown (host := "") (Or.inl (hw _ (List.mem_of_getElem? (i := 31) rfl))) Via.refl e0 S_1 (g := (mkF m 59 #[.val (.int p0)] [])) rfl (hb hby d1_59)
  refine own_go (fun _ => st1 _) ?_
  show GG _ _ _ _ _ _ _ T1 (mkF m 62 #[.val (.int p0)] [(.ref a1)])
  refine own_ret X1 hx hlk (t := (.object "com/example/tracemark/tracemark/model/DisplayFilter$Test")) (w := (.ref a1)) Bd.returns rfl (Or.inr (Or.inr (Or.inr (Or.inr ⟨rfl, rfl, rfl⟩)))) (hb hby d1_62) (by decide) (by decide) ?_
  show Q1_6 Z p0 a1 h0 n0 (some (.ref a1)) T1.heap _
  rw [e1]
  exact ⟨rfl, N0, rfl⟩
theorem d1_63 : decode method_2_code 63 = .ok (.iload_n 0, 1) := by decide +kernel
theorem d1_64 : decode method_2_code 64 = .ok (.bipush 7, 2) := by decide +kernel
theorem d1_66 : decode method_2_code 66 = .ok (.if_icmp .ne 7, 3) := by decide +kernel
theorem d1_69 : decode method_2_code 69 = .ok (.getstatic 31, 3) := by decide +kernel
theorem d1_72 : decode method_2_code 72 = .ok (.areturn, 1) := by decide +kernel
def Q1_7 (Z : State) (p0 : Int32) (a1 : Addr) (h0 : Heap) (n0 : Nat) (v : Option Value) (h : Heap) (L : List Loc) : Prop := v = some (.ref a1) ∧ Fr n0 L ∧ h = h0
set_option maxRecDepth 65536 in
set_option maxHeartbeats 40000000 in
theorem rm1_7 (l : Launch) (Z : State) (a0 : Array Value) (hw : ∀ d ∈ tables_1, d.before a0 Z = true) (ws : List Jvm.Cond) (p0 : Int32) (a1 : Addr) (h0 : Heap) (n0 : Nat) (Z0 : n0 ≤ h0.size) (hp : p0 = (7 : Int32)) (S_1 : Sta Z h0 "com/example/tracemark/tracemark/model/DisplayFilter$Test" "NOTCONTAINS" "Lcom/example/tracemark/tracemark/model/DisplayFilter$Test;" (.ref a1)) :
    own_CT l Z (⟨"com/example/tracemark/tracemark/model/TestTakesValuePinLaw", "pick", "(I)Lcom/example/tracemark/tracemark/model/DisplayFilter$Test;"⟩ : MethodName) method_2_code 1 (some (.object "com/example/tracemark/tracemark/model/DisplayFilter$Test")) ws ({ frames := 0, cells := 0, slots := 0, locals := 0 } : Room) #[(.int p0)] h0 (Q1_7 Z p0 a1 h0 n0) := by
  refine MetFree.of_bodySF (plainFor_of_name pn_com_example_tracemark_tracemark_model_TestTakesValuePinLaw) hisR ?_
  intro p e s m args below meth c s₁ Bd hml0 hP hK
  obtain ⟨rfl, hZ, hh⟩ := hP
  have hx := Bd.exec
  have hby := Bd.bytes
  have hml : c.maxLocals = 1 := hml0
  have hown : s.vm.findClass "com/example/tracemark/tracemark/model/TestTakesValuePinLaw" = some m.cls := findClass_of_methodNamed Bd.named
  have hnm := (name_of_methodNamed Bd.named Bd.method).1
  have hlk : meth.locks = false := BodyLoose.notSynchronized Bd
  have X0 : Stand p l e ({ frames := 0, cells := 0, slots := 0, locals := 0 } : Room) s m #[(.int p0)] below meth c s₁ [] 0 0 := Stand.of_body Bd
  have e0 : s₁.heap = h0 := by rw [← hh, Bd.state]; rfl
  have N0 := Fr.nil n0
  show GG p e below s ({ frames := 0, cells := 0, slots := 0, locals := 0 } : Room).cells ({ frames := 0, cells := 0, slots := 0, locals := 0 } : Room).slots (Q1_7 Z p0 a1 h0 n0) s₁ (entryFrame m #[(.int p0)] 1)
  refine own_in (ef_1 m p0) ?_
  show GG _ _ _ _ _ _ _ s₁ (mkF m 0 #[.val (.int p0)] [])
  refine own_go (fun _ => XS.iloadN X0.here hx rfl (hb hby d1_0) rfl) ?_
  show GG _ _ _ _ _ _ _ s₁ (mkF m 1 #[.val (.int p0)] [(.int p0)])
  have hc1 : ¬ (p0 = (0 : Int32)) := by rw [hp]; decide
  refine own_go (fun _ => XS.ifYes X0.here hx rfl (pc0 := 1) (pc' := 8) rfl (hb hby d1_1) rfl ((if0 _ _).trans (feq hc1).2) (by decide) (by decide)) ?_
  show GG _ _ _ _ _ _ _ s₁ (mkF m 8 #[.val (.int p0)] [])
  refine own_go (fun _ => XS.iloadN X0.here hx rfl (hb hby d1_8) rfl) ?_
  show GG _ _ _ _ _ _ _ s₁ (mkF m 9 #[.val (.int p0)] [(.int p0)])
  refine own_go (fun _ => XS.iconst X0.here hx rfl (hb hby d1_9)) ?_
  show GG _ _ _ _ _ _ _ s₁ (mkF m 10 #[.val (.int p0)] [(.int (1 : Int32)), (.int p0)])
  have hc10 : ¬ (p0 = (1 : Int32)) := by rw [hp]; decide
  refine own_go (fun _ => XS.icmpYes X0.here hx rfl (pc0 := 10) (pc' := 17) rfl (hb hby d1_10) rfl (feq hc10).2 (by decide) (by decide)) ?_
  show GG _ _ _ _ _ _ _ s₁ (mkF m 17 #[.val (.int p0)] [])
  refine own_go (fun _ => XS.iloadN X0.here hx rfl (hb hby d1_17) rfl) ?_
  show GG _ _ _ _ _ _ _ s₁ (mkF m 18 #[.val (.int p0)] [(.int p0)])
  refine own_go (fun _ => XS.iconst X0.here hx rfl (hb hby d1_18)) ?_
  show GG _ _ _ _ _ _ _ s₁ (mkF m 19 #[.val (.int p0)] [(.int (2 : Int32)), (.int p0)])
  have hc19 : ¬ (p0 = (2 : Int32)) := by rw [hp]; decide
  refine own_go (fun _ => XS.icmpYes X0.here hx rfl (pc0 := 19) (pc' := 26) rfl (hb hby d1_19) rfl (feq hc19).2 (by decide) (by decide)) ?_
  show GG _ _ _ _ _ _ _ s₁ (mkF m 26 #[.val (.int p0)] [])
  refine own_go (fun _ => XS.iloadN X0.here hx rfl (hb hby d1_26) rfl) ?_
  show GG _ _ _ _ _ _ _ s₁ (mkF m 27 #[.val (.int p0)] [(.int p0)])
  refine own_go (fun _ => XS.iconst X0.here hx rfl (hb hby d1_27)) ?_
  show GG _ _ _ _ _ _ _ s₁ (mkF m 28 #[.val (.int p0)] [(.int (3 : Int32)), (.int p0)])
  have hc28 : ¬ (p0 = (3 : Int32)) := by rw [hp]; decide
  refine own_go (fun _ => XS.icmpYes X0.here hx rfl (pc0 := 28) (pc' := 35) rfl (hb hby d1_28) rfl (feq hc28).2 (by decide) (by decide)) ?_
  show GG _ _ _ _ _ _ _ s₁ (mkF m 35 #[.val (.int p0)] [])
  refine own_go (fun _ => XS.iloadN X0.here hx rfl (hb hby d1_35) rfl) ?_
  show GG _ _ _ _ _ _ _ s₁ (mkF m 36 #[.val (.int p0)] [(.int p0)])
  refine own_go (fun _ => XS.iconst X0.here hx rfl (hb hby d1_36)) ?_
  show GG _ _ _ _ _ _ _ s₁ (mkF m 37 #[.val (.int p0)] [(.int (4 : Int32)), (.int p0)])
  have hc37 : ¬ (p0 = (4 : Int32)) := by rw [hp]; decide
  refine own_go (fun _ => XS.icmpYes X0.here hx rfl (pc0 := 37) (pc' := 44) rfl (hb hby d1_37) rfl (feq hc37).2 (by decide) (by decide)) ?_
  show GG _ _ _ _ _ _ _ s₁ (mkF m 44 #[.val (.int p0)] [])
  refine own_go (fun _ => XS.iloadN X0.here hx rfl (hb hby d1_44) rfl) ?_
  show GG _ _ _ _ _ _ _ s₁ (mkF m 45 #[.val (.int p0)] [(.int p0)])
  refine own_go (fun _ => XS.iconst X0.here hx rfl (hb hby d1_45)) ?_
  show GG _ _ _ _ _ _ _ s₁ (mkF m 46 #[.val (.int p0)] [(.int (5 : Int32)), (.int p0)])
  have hc46 : ¬ (p0 = (5 : Int32)) := by rw [hp]; decide
  refine own_go (fun _ => XS.icmpYes X0.here hx rfl (pc0 := 46) (pc' := 53) rfl (hb hby d1_46) rfl (feq hc46).2 (by decide) (by decide)) ?_
  show GG _ _ _ _ _ _ _ s₁ (mkF m 53 #[.val (.int p0)] [])
  refine own_go (fun _ => XS.iloadN X0.here hx rfl (hb hby d1_53) rfl) ?_
  show GG _ _ _ _ _ _ _ s₁ (mkF m 54 #[.val (.int p0)] [(.int p0)])
  refine own_go (fun _ => XS.bipush X0.here hx rfl (hb hby d1_54)) ?_
  show GG _ _ _ _ _ _ _ s₁ (mkF m 56 #[.val (.int p0)] [(.int (6 : Int32)), (.int p0)])
  have hc56 : ¬ (p0 = (6 : Int32)) := by rw [hp]; decide
  refine own_go (fun _ => XS.icmpYes X0.here hx rfl (pc0 := 56) (pc' := 63) rfl (hb hby d1_56) rfl (feq hc56).2 (by decide) (by decide)) ?_
  show GG _ _ _ _ _ _ _ s₁ (mkF m 63 #[.val (.int p0)] [])
  refine own_go (fun _ => XS.iloadN X0.here hx rfl (hb hby d1_63) rfl) ?_
  show GG _ _ _ _ _ _ _ s₁ (mkF m 64 #[.val (.int p0)] [(.int p0)])
  refine own_go (fun _ => XS.bipush X0.here hx rfl (hb hby d1_64)) ?_
  show GG _ _ _ _ _ _ _ s₁ (mkF m 66 #[.val (.int p0)] [(.int (7 : Int32)), (.int p0)])
  have hc66 : p0 = (7 : Int32) := hp
  refine own_go (fun _ => XS.icmpNo X0.here hx rfl (hb hby d1_66) rfl (teq hc66).2) ?_
  show GG _ _ _ _ _ _ _ s₁ (mkF m 69 #[.val (.int p0)] [])
  obtain ⟨T1, X1, e1, st1⟩ := getS2 X0 hx hZ hown (host := "") (Or.inl (hw _ (List.mem_of_getElem? (i := 23) rfl))) Via.refl e0 S_1 (g := (mkF m 69 #[.val (.int p0)] [])) rfl (hb hby d1_69)
  refine own_go (fun _ => st1 _) ?_
  show GG _ _ _ _ _ _ _ T1 (mkF m 72 #[.val (.int p0)] [(.ref a1)])
  refine own_ret X1 hx hlk (t := (.object "com/example/tracemark/tracemark/model/DisplayFilter$Test")) (w := (.ref a1)) Bd.returns rfl (Or.inr (Or.inr (Or.inr (Or.inr ⟨rfl, rfl, rfl⟩)))) (hb hby d1_72) (by decide) (by decide) ?_
  show Q1_7 Z p0 a1 h0 n0 (some (.ref a1)) T1.heap _
  rw [e1]
  exact ⟨rfl, N0, rfl⟩
theorem d1_73 : decode method_2_code 73 = .ok (.iload_n 0, 1) := by decide +kernel
theorem d1_74 : decode method_2_code 74 = .ok (.bipush 8, 2) := by decide +kernel
theorem d1_76 : decode method_2_code 76 = .ok (.if_icmp .ne 7, 3) := by decide +kernel
theorem d1_79 : decode method_2_code 79 = .ok (.getstatic 34, 3) := by decide +kernel
theorem d1_82 : decode method_2_code 82 = .ok (.areturn, 1) := by decide +kernel
def Q1_8 (Z : State) (p0 : Int32) (a1 : Addr) (h0 : Heap) (n0 : Nat) (v : Option Value) (h : Heap) (L : List Loc) : Prop := v = some (.ref a1) ∧ Fr n0 L ∧ h = h0
set_option maxRecDepth 65536 in
set_option maxHeartbeats 40000000 in
theorem rm1_8 (l : Launch) (Z : State) (a0 : Array Value) (hw : ∀ d ∈ tables_1, d.before a0 Z = true) (ws : List Jvm.Cond) (p0 : Int32) (a1 : Addr) (h0 : Heap) (n0 : Nat) (Z0 : n0 ≤ h0.size) (hp : p0 = (8 : Int32)) (S_1 : Sta Z h0 "com/example/tracemark/tracemark/model/DisplayFilter$Test" "PRESENT" "Lcom/example/tracemark/tracemark/model/DisplayFilter$Test;" (.ref a1)) :
    own_CT l Z (⟨"com/example/tracemark/tracemark/model/TestTakesValuePinLaw", "pick", "(I)Lcom/example/tracemark/tracemark/model/DisplayFilter$Test;"⟩ : MethodName) method_2_code 1 (some (.object "com/example/tracemark/tracemark/model/DisplayFilter$Test")) ws ({ frames := 0, cells := 0, slots := 0, locals := 0 } : Room) #[(.int p0)] h0 (Q1_8 Z p0 a1 h0 n0) := by
  refine MetFree.of_bodySF (plainFor_of_name pn_com_example_tracemark_tracemark_model_TestTakesValuePinLaw) hisR ?_
  intro p e s m args below meth c s₁ Bd hml0 hP hK
  obtain ⟨rfl, hZ, hh⟩ := hP
  have hx := Bd.exec
  have hby := Bd.bytes
  have hml : c.maxLocals = 1 := hml0
  have hown : s.vm.findClass "com/example/tracemark/tracemark/model/TestTakesValuePinLaw" = some m.cls := findClass_of_methodNamed Bd.named
  have hnm := (name_of_methodNamed Bd.named Bd.method).1
  have hlk : meth.locks = false := BodyLoose.notSynchronized Bd
  have X0 : Stand p l e ({ frames := 0, cells := 0, slots := 0, locals := 0 } : Room) s m #[(.int p0)] below meth c s₁ [] 0 0 := Stand.of_body Bd
  have e0 : s₁.heap = h0 := by rw [← hh, Bd.state]; rfl
  have N0 := Fr.nil n0
  show GG p e below s ({ frames := 0, cells := 0, slots := 0, locals := 0 } : Room).cells ({ frames := 0, cells := 0, slots := 0, locals := 0 } : Room).slots (Q1_8 Z p0 a1 h0 n0) s₁ (entryFrame m #[(.int p0)] 1)
  refine own_in (ef_1 m p0) ?_
  show GG _ _ _ _ _ _ _ s₁ (mkF m 0 #[.val (.int p0)] [])
  refine own_go (fun _ => XS.iloadN X0.here hx rfl (hb hby d1_0) rfl) ?_
  show GG _ _ _ _ _ _ _ s₁ (mkF m 1 #[.val (.int p0)] [(.int p0)])
  have hc1 : ¬ (p0 = (0 : Int32)) := by rw [hp]; decide
  refine own_go (fun _ => XS.ifYes X0.here hx rfl (pc0 := 1) (pc' := 8) rfl (hb hby d1_1) rfl ((if0 _ _).trans (feq hc1).2) (by decide) (by decide)) ?_
  show GG _ _ _ _ _ _ _ s₁ (mkF m 8 #[.val (.int p0)] [])
  refine own_go (fun _ => XS.iloadN X0.here hx rfl (hb hby d1_8) rfl) ?_
  show GG _ _ _ _ _ _ _ s₁ (mkF m 9 #[.val (.int p0)] [(.int p0)])
  refine own_go (fun _ => XS.iconst X0.here hx rfl (hb hby d1_9)) ?_
  show GG _ _ _ _ _ _ _ s₁ (mkF m 10 #[.val (.int p0)] [(.int (1 : Int32)), (.int p0)])
  have hc10 : ¬ (p0 = (1 : Int32)) := by rw [hp]; decide
  refine own_go (fun _ => XS.icmpYes X0.here hx rfl (pc0 := 10) (pc' := 17) rfl (hb hby d1_10) rfl (feq hc10).2 (by decide) (by decide)) ?_
  show GG _ _ _ _ _ _ _ s₁ (mkF m 17 #[.val (.int p0)] [])
  refine own_go (fun _ => XS.iloadN X0.here hx rfl (hb hby d1_17) rfl) ?_
  show GG _ _ _ _ _ _ _ s₁ (mkF m 18 #[.val (.int p0)] [(.int p0)])
  refine own_go (fun _ => XS.iconst X0.here hx rfl (hb hby d1_18)) ?_
  show GG _ _ _ _ _ _ _ s₁ (mkF m 19 #[.val (.int p0)] [(.int (2 : Int32)), (.int p0)])
  have hc19 : ¬ (p0 = (2 : Int32)) := by rw [hp]; decide
  refine own_go (fun _ => XS.icmpYes X0.here hx rfl (pc0 := 19) (pc' := 26) rfl (hb hby d1_19) rfl (feq hc19).2 (by decide) (by decide)) ?_
  show GG _ _ _ _ _ _ _ s₁ (mkF m 26 #[.val (.int p0)] [])
  refine own_go (fun _ => XS.iloadN X0.here hx rfl (hb hby d1_26) rfl) ?_
  show GG _ _ _ _ _ _ _ s₁ (mkF m 27 #[.val (.int p0)] [(.int p0)])
  refine own_go (fun _ => XS.iconst X0.here hx rfl (hb hby d1_27)) ?_
  show GG _ _ _ _ _ _ _ s₁ (mkF m 28 #[.val (.int p0)] [(.int (3 : Int32)), (.int p0)])
  have hc28 : ¬ (p0 = (3 : Int32)) := by rw [hp]; decide
  refine own_go (fun _ => XS.icmpYes X0.here hx rfl (pc0 := 28) (pc' := 35) rfl (hb hby d1_28) rfl (feq hc28).2 (by decide) (by decide)) ?_
  show GG _ _ _ _ _ _ _ s₁ (mkF m 35 #[.val (.int p0)] [])
  refine own_go (fun _ => XS.iloadN X0.here hx rfl (hb hby d1_35) rfl) ?_
  show GG _ _ _ _ _ _ _ s₁ (mkF m 36 #[.val (.int p0)] [(.int p0)])
  refine own_go (fun _ => XS.iconst X0.here hx rfl (hb hby d1_36)) ?_
  show GG _ _ _ _ _ _ _ s₁ (mkF m 37 #[.val (.int p0)] [(.int (4 : Int32)), (.int p0)])
  have hc37 : ¬ (p0 = (4 : Int32)) := by rw [hp]; decide
  refine own_go (fun _ => XS.icmpYes X0.here hx rfl (pc0 := 37) (pc' := 44) rfl (hb hby d1_37) rfl (feq hc37).2 (by decide) (by decide)) ?_
  show GG _ _ _ _ _ _ _ s₁ (mkF m 44 #[.val (.int p0)] [])
  refine own_go (fun _ => XS.iloadN X0.here hx rfl (hb hby d1_44) rfl) ?_
  show GG _ _ _ _ _ _ _ s₁ (mkF m 45 #[.val (.int p0)] [(.int p0)])
  refine own_go (fun _ => XS.iconst X0.here hx rfl (hb hby d1_45)) ?_
  show GG _ _ _ _ _ _ _ s₁ (mkF m 46 #[.val (.int p0)] [(.int (5 : Int32)), (.int p0)])
  have hc46 : ¬ (p0 = (5 : Int32)) := by rw [hp]; decide
  refine own_go (fun _ => XS.icmpYes X0.here hx rfl (pc0 := 46) (pc' := 53) rfl (hb hby d1_46) rfl (feq hc46).2 (by decide) (by decide)) ?_
  show GG _ _ _ _ _ _ _ s₁ (mkF m 53 #[.val (.int p0)] [])
  refine own_go (fun _ => XS.iloadN X0.here hx rfl (hb hby d1_53) rfl) ?_
  show GG _ _ _ _ _ _ _ s₁ (mkF m 54 #[.val (.int p0)] [(.int p0)])
  refine own_go (fun _ => XS.bipush X0.here hx rfl (hb hby d1_54)) ?_
  show GG _ _ _ _ _ _ _ s₁ (mkF m 56 #[.val (.int p0)] [(.int (6 : Int32)), (.int p0)])
  have hc56 : ¬ (p0 = (6 : Int32)) := by rw [hp]; decide
  refine own_go (fun _ => XS.icmpYes X0.here hx rfl (pc0 := 56) (pc' := 63) rfl (hb hby d1_56) rfl (feq hc56).2 (by decide) (by decide)) ?_
  show GG _ _ _ _ _ _ _ s₁ (mkF m 63 #[.val (.int p0)] [])
  refine own_go (fun _ => XS.iloadN X0.here hx rfl (hb hby d1_63) rfl) ?_
  show GG _ _ _ _ _ _ _ s₁ (mkF m 64 #[.val (.int p0)] [(.int p0)])
  refine own_go (fun _ => XS.bipush X0.here hx rfl (hb hby d1_64)) ?_
  show GG _ _ _ _ _ _ _ s₁ (mkF m 66 #[.val (.int p0)] [(.int (7 : Int32)), (.int p0)])
  have hc66 : ¬ (p0 = (7 : Int32)) := by rw [hp]; decide
  refine own_go (fun _ => XS.icmpYes X0.here hx rfl (pc0 := 66) (pc' := 73) rfl (hb hby d1_66) rfl (feq hc66).2 (by decide) (by decide)) ?_
  show GG _ _ _ _ _ _ _ s₁ (mkF m 73 #[.val (.int p0)] [])
  refine own_go (fun _ => XS.iloadN X0.here hx rfl (hb hby d1_73) rfl) ?_
  show GG _ _ _ _ _ _ _ s₁ (mkF m 74 #[.val (.int p0)] [(.int p0)])
  refine own_go (fun _ => XS.bipush X0.here hx rfl (hb hby d1_74)) ?_
  show GG _ _ _ _ _ _ _ s₁ (mkF m 76 #[.val (.int p0)] [(.int (8 : Int32)), (.int p0)])
  have hc76 : p0 = (8 : Int32) := hp
  refine own_go (fun _ => XS.icmpNo X0.here hx rfl (hb hby d1_76) rfl (teq hc76).2) ?_
  show GG _ _ _ _ _ _ _ s₁ (mkF m 79 #[.val (.int p0)] [])
  obtain ⟨T1, X1, e1, st1⟩ := getS2 X0 hx hZ hown (host := "") (Or.inl (hw _ (List.mem_of_getElem? (i := 27) rfl))) Via.refl e0 S_1 (g := (mkF m 79 #[.val (.int p0)] [])) rfl (hb hby d1_79)
  refine own_go (fun _ => st1 _) ?_
  show GG _ _ _ _ _ _ _ T1 (mkF m 82 #[.val (.int p0)] [(.ref a1)])
  refine own_ret X1 hx hlk (t := (.object "com/example/tracemark/tracemark/model/DisplayFilter$Test")) (w := (.ref a1)) Bd.returns rfl (Or.inr (Or.inr (Or.inr (Or.inr ⟨rfl, rfl, rfl⟩)))) (hb hby d1_82) (by decide) (by decide) ?_
  show Q1_8 Z p0 a1 h0 n0 (some (.ref a1)) T1.heap _
  rw [e1]
  exact ⟨rfl, N0, rfl⟩
theorem d1_83 : decode method_2_code 83 = .ok (.getstatic 37, 3) := by decide +kernel
theorem d1_86 : decode method_2_code 86 = .ok (.areturn, 1) := by decide +kernel
def Q1_9 (Z : State) (p0 : Int32) (a1 : Addr) (h0 : Heap) (n0 : Nat) (v : Option Value) (h : Heap) (L : List Loc) : Prop := v = some (.ref a1) ∧ Fr n0 L ∧ h = h0
set_option maxRecDepth 65536 in
set_option maxHeartbeats 40000000 in
theorem rm1_9 (l : Launch) (Z : State) (a0 : Array Value) (hw : ∀ d ∈ tables_1, d.before a0 Z = true) (ws : List Jvm.Cond) (p0 : Int32) (a1 : Addr) (h0 : Heap) (n0 : Nat) (Z0 : n0 ≤ h0.size) (hp : p0 = (9 : Int32)) (S_1 : Sta Z h0 "com/example/tracemark/tracemark/model/DisplayFilter$Test" "NOTPRESENT" "Lcom/example/tracemark/tracemark/model/DisplayFilter$Test;" (.ref a1)) :
    own_CT l Z (⟨"com/example/tracemark/tracemark/model/TestTakesValuePinLaw", "pick", "(I)Lcom/example/tracemark/tracemark/model/DisplayFilter$Test;"⟩ : MethodName) method_2_code 1 (some (.object "com/example/tracemark/tracemark/model/DisplayFilter$Test")) ws ({ frames := 0, cells := 0, slots := 0, locals := 0 } : Room) #[(.int p0)] h0 (Q1_9 Z p0 a1 h0 n0) := by
  refine MetFree.of_bodySF (plainFor_of_name pn_com_example_tracemark_tracemark_model_TestTakesValuePinLaw) hisR ?_
  intro p e s m args below meth c s₁ Bd hml0 hP hK
  obtain ⟨rfl, hZ, hh⟩ := hP
  have hx := Bd.exec
  have hby := Bd.bytes
  have hml : c.maxLocals = 1 := hml0
  have hown : s.vm.findClass "com/example/tracemark/tracemark/model/TestTakesValuePinLaw" = some m.cls := findClass_of_methodNamed Bd.named
  have hnm := (name_of_methodNamed Bd.named Bd.method).1
  have hlk : meth.locks = false := BodyLoose.notSynchronized Bd
  have X0 : Stand p l e ({ frames := 0, cells := 0, slots := 0, locals := 0 } : Room) s m #[(.int p0)] below meth c s₁ [] 0 0 := Stand.of_body Bd
  have e0 : s₁.heap = h0 := by rw [← hh, Bd.state]; rfl
  have N0 := Fr.nil n0
  show GG p e below s ({ frames := 0, cells := 0, slots := 0, locals := 0 } : Room).cells ({ frames := 0, cells := 0, slots := 0, locals := 0 } : Room).slots (Q1_9 Z p0 a1 h0 n0) s₁ (entryFrame m #[(.int p0)] 1)
  refine own_in (ef_1 m p0) ?_
  show GG _ _ _ _ _ _ _ s₁ (mkF m 0 #[.val (.int p0)] [])
  refine own_go (fun _ => XS.iloadN X0.here hx rfl (hb hby d1_0) rfl) ?_
  show GG _ _ _ _ _ _ _ s₁ (mkF m 1 #[.val (.int p0)] [(.int p0)])
  have hc1 : ¬ (p0 = (0 : Int32)) := by rw [hp]; decide
  refine own_go (fun _ => XS.ifYes X0.here hx rfl (pc0 := 1) (pc' := 8) rfl (hb hby d1_1) rfl ((if0 _ _).trans (feq hc1).2) (by decide) (by decide)) ?_
  show GG _ _ _ _ _ _ _ s₁ (mkF m 8 #[.val (.int p0)] [])
  refine own_go (fun _ => XS.iloadN X0.here hx rfl (hb hby d1_8) rfl) ?_
  show GG _ _ _ _ _ _ _ s₁ (mkF m 9 #[.val (.int p0)] [(.int p0)])
  refine own_go (fun _ => XS.iconst X0.here hx rfl (hb hby d1_9)) ?_
  show GG _ _ _ _ _ _ _ s₁ (mkF m 10 #[.val (.int p0)] [(.int (1 : Int32)), (.int p0)])
  have hc10 : ¬ (p0 = (1 : Int32)) := by rw [hp]; decide
  refine own_go (fun _ => XS.icmpYes X0.here hx rfl (pc0 := 10) (pc' := 17) rfl (hb hby d1_10) rfl (feq hc10).2 (by decide) (by decide)) ?_
  show GG _ _ _ _ _ _ _ s₁ (mkF m 17 #[.val (.int p0)] [])
  refine own_go (fun _ => XS.iloadN X0.here hx rfl (hb hby d1_17) rfl) ?_
  show GG _ _ _ _ _ _ _ s₁ (mkF m 18 #[.val (.int p0)] [(.int p0)])
  refine own_go (fun _ => XS.iconst X0.here hx rfl (hb hby d1_18)) ?_
  show GG _ _ _ _ _ _ _ s₁ (mkF m 19 #[.val (.int p0)] [(.int (2 : Int32)), (.int p0)])
  have hc19 : ¬ (p0 = (2 : Int32)) := by rw [hp]; decide
  refine own_go (fun _ => XS.icmpYes X0.here hx rfl (pc0 := 19) (pc' := 26) rfl (hb hby d1_19) rfl (feq hc19).2 (by decide) (by decide)) ?_
  show GG _ _ _ _ _ _ _ s₁ (mkF m 26 #[.val (.int p0)] [])
  refine own_go (fun _ => XS.iloadN X0.here hx rfl (hb hby d1_26) rfl) ?_
  show GG _ _ _ _ _ _ _ s₁ (mkF m 27 #[.val (.int p0)] [(.int p0)])
  refine own_go (fun _ => XS.iconst X0.here hx rfl (hb hby d1_27)) ?_
  show GG _ _ _ _ _ _ _ s₁ (mkF m 28 #[.val (.int p0)] [(.int (3 : Int32)), (.int p0)])
  have hc28 : ¬ (p0 = (3 : Int32)) := by rw [hp]; decide
  refine own_go (fun _ => XS.icmpYes X0.here hx rfl (pc0 := 28) (pc' := 35) rfl (hb hby d1_28) rfl (feq hc28).2 (by decide) (by decide)) ?_
  show GG _ _ _ _ _ _ _ s₁ (mkF m 35 #[.val (.int p0)] [])
  refine own_go (fun _ => XS.iloadN X0.here hx rfl (hb hby d1_35) rfl) ?_
  show GG _ _ _ _ _ _ _ s₁ (mkF m 36 #[.val (.int p0)] [(.int p0)])
  refine own_go (fun _ => XS.iconst X0.here hx rfl (hb hby d1_36)) ?_
  show GG _ _ _ _ _ _ _ s₁ (mkF m 37 #[.val (.int p0)] [(.int (4 : Int32)), (.int p0)])
  have hc37 : ¬ (p0 = (4 : Int32)) := by rw [hp]; decide
  refine own_go (fun _ => XS.icmpYes X0.here hx rfl (pc0 := 37) (pc' := 44) rfl (hb hby d1_37) rfl (feq hc37).2 (by decide) (by decide)) ?_
  show GG _ _ _ _ _ _ _ s₁ (mkF m 44 #[.val (.int p0)] [])
  refine own_go (fun _ => XS.iloadN X0.here hx rfl (hb hby d1_44) rfl) ?_
  show GG _ _ _ _ _ _ _ s₁ (mkF m 45 #[.val (.int p0)] [(.int p0)])
  refine own_go (fun _ => XS.iconst X0.here hx rfl (hb hby d1_45)) ?_
  show GG _ _ _ _ _ _ _ s₁ (mkF m 46 #[.val (.int p0)] [(.int (5 : Int32)), (.int p0)])
  have hc46 : ¬ (p0 = (5 : Int32)) := by rw [hp]; decide
  refine own_go (fun _ => XS.icmpYes X0.here hx rfl (pc0 := 46) (pc' := 53) rfl (hb hby d1_46) rfl (feq hc46).2 (by decide) (by decide)) ?_
  show GG _ _ _ _ _ _ _ s₁ (mkF m 53 #[.val (.int p0)] [])
  refine own_go (fun _ => XS.iloadN X0.here hx rfl (hb hby d1_53) rfl) ?_
  show GG _ _ _ _ _ _ _ s₁ (mkF m 54 #[.val (.int p0)] [(.int p0)])
  refine own_go (fun _ => XS.bipush X0.here hx rfl (hb hby d1_54)) ?_
  show GG _ _ _ _ _ _ _ s₁ (mkF m 56 #[.val (.int p0)] [(.int (6 : Int32)), (.int p0)])
  have hc56 : ¬ (p0 = (6 : Int32)) := by rw [hp]; decide
  refine own_go (fun _ => XS.icmpYes X0.here hx rfl (pc0 := 56) (pc' := 63) rfl (hb hby d1_56) rfl (feq hc56).2 (by decide) (by decide)) ?_
  show GG _ _ _ _ _ _ _ s₁ (mkF m 63 #[.val (.int p0)] [])
  refine own_go (fun _ => XS.iloadN X0.here hx rfl (hb hby d1_63) rfl) ?_
  show GG _ _ _ _ _ _ _ s₁ (mkF m 64 #[.val (.int p0)] [(.int p0)])
  refine own_go (fun _ => XS.bipush X0.here hx rfl (hb hby d1_64)) ?_
  show GG _ _ _ _ _ _ _ s₁ (mkF m 66 #[.val (.int p0)] [(.int (7 : Int32)), (.int p0)])
  have hc66 : ¬ (p0 = (7 : Int32)) := by rw [hp]; decide
  refine own_go (fun _ => XS.icmpYes X0.here hx rfl (pc0 := 66) (pc' := 73) rfl (hb hby d1_66) rfl (feq hc66).2 (by decide) (by decide)) ?_
  show GG _ _ _ _ _ _ _ s₁ (mkF m 73 #[.val (.int p0)] [])
  refine own_go (fun _ => XS.iloadN X0.here hx rfl (hb hby d1_73) rfl) ?_
  show GG _ _ _ _ _ _ _ s₁ (mkF m 74 #[.val (.int p0)] [(.int p0)])
  refine own_go (fun _ => XS.bipush X0.here hx rfl (hb hby d1_74)) ?_
  show GG _ _ _ _ _ _ _ s₁ (mkF m 76 #[.val (.int p0)] [(.int (8 : Int32)), (.int p0)])
  have hc76 : ¬ (p0 = (8 : Int32)) := by rw [hp]; decide
  refine own_go (fun _ => XS.icmpYes X0.here hx rfl (pc0 := 76) (pc' := 83) rfl (hb hby d1_76) rfl (feq hc76).2 (by decide) (by decide)) ?_
  show GG _ _ _ _ _ _ _ s₁ (mkF m 83 #[.val (.int p0)] [])
  obtain ⟨T1, X1, e1, st1⟩ := getS2 X0 hx hZ hown (host := "") (Or.inl (hw _ (List.mem_of_getElem? (i := 28) rfl))) Via.refl e0 S_1 (g := (mkF m 83 #[.val (.int p0)] [])) rfl (hb hby d1_83)
  refine own_go (fun _ => st1 _) ?_
  show GG _ _ _ _ _ _ _ T1 (mkF m 86 #[.val (.int p0)] [(.ref a1)])
  refine own_ret X1 hx hlk (t := (.object "com/example/tracemark/tracemark/model/DisplayFilter$Test")) (w := (.ref a1)) Bd.returns rfl (Or.inr (Or.inr (Or.inr (Or.inr ⟨rfl, rfl, rfl⟩)))) (hb hby d1_86) (by decide) (by decide) ?_
  show Q1_9 Z p0 a1 h0 n0 (some (.ref a1)) T1.heap _
  rw [e1]
  exact ⟨rfl, N0, rfl⟩
theorem d2_0 : decode prog_64_method_6_code 0 = .ok (.aload_n 0, 1) := by decide +kernel
theorem d2_1 : decode prog_64_method_6_code 1 = .ok (.getstatic 28, 3) := by decide +kernel
theorem d2_4 : decode prog_64_method_6_code 4 = .ok (.if_acmp .eq 14, 3) := by decide +kernel
theorem d2_7 : decode prog_64_method_6_code 7 = .ok (.aload_n 0, 1) := by decide +kernel
theorem d2_8 : decode prog_64_method_6_code 8 = .ok (.getstatic 31, 3) := by decide +kernel
theorem d2_11 : decode prog_64_method_6_code 11 = .ok (.if_acmp .eq 7, 3) := by decide +kernel
theorem d2_14 : decode prog_64_method_6_code 14 = .ok (.iconst 1, 1) := by decide +kernel
theorem d2_15 : decode prog_64_method_6_code 15 = .ok (.goto 4, 3) := by decide +kernel
theorem d2_18 : decode prog_64_method_6_code 18 = .ok (.iconst 0, 1) := by decide +kernel
theorem d2_19 : decode prog_64_method_6_code 19 = .ok (.ireturn, 1) := by decide +kernel
theorem pn_com_example_tracemark_tracemark_model_DisplayFilter_Test : plainName "com/example/tracemark/tracemark/model/DisplayFilter$Test" = true := by first | (simp [plainName, overriddenIn]; done) | decide +kernel
theorem ef_2 (m : MethodId) (x0 : Addr) : entryFrame m #[(.ref x0)] 1 = mkF m 0 #[.val (.ref x0)] [] := by first | (simp [entryFrame, mkF, argsToLocals, Value.category]; done) | rfl
def Q2 (Z : State) (a1 : Addr) (a2 a3 : Addr) (h0 : Heap) (n0 : Nat) (v : Option Value) (h : Heap) (L : List Loc) : Prop := v = some (.int (if a1 = a2 then 0 else if a1 = a3 then 0 else 1)) ∧ Fr n0 L ∧ h = h0
set_option maxRecDepth 65536 in
set_option maxHeartbeats 40000000 in
theorem rm2 (l : Launch) (Z : State) (a0 : Array Value) (hw : ∀ d ∈ tables_1, d.before a0 Z = true) (ws : List Jvm.Cond) (a1 : Addr) (a2 a3 : Addr) (h0 : Heap) (n0 : Nat) (Z0 : n0 ≤ h0.size) (S_2 : Sta Z h0 "com/example/tracemark/tracemark/model/DisplayFilter$Test" "PRESENT" "Lcom/example/tracemark/tracemark/model/DisplayFilter$Test;" (.ref a2)) (S_3 : Sta Z h0 "com/example/tracemark/tracemark/model/DisplayFilter$Test" "NOTPRESENT" "Lcom/example/tracemark/tracemark/model/DisplayFilter$Test;" (.ref a3)) :
    own_CT l Z (⟨"com/example/tracemark/tracemark/model/DisplayFilter$Test", "takesValue", "()Z"⟩ : MethodName) prog_64_method_6_code 1 (some .boolean) ws ({ frames := 0, cells := 0, slots := 0, locals := 0 } : Room) #[(.ref a1)] h0 (Q2 Z a1 a2 a3 h0 n0) := by
  refine MetFree.of_bodySF (plainFor_of_name pn_com_example_tracemark_tracemark_model_DisplayFilter_Test) hisR ?_
  intro p e s m args below meth c s₁ Bd hml0 hP hK
  obtain ⟨rfl, hZ, hh⟩ := hP
  have hx := Bd.exec
  have hby := Bd.bytes
  have hml : c.maxLocals = 1 := hml0
  have hown : s.vm.findClass "com/example/tracemark/tracemark/model/DisplayFilter$Test" = some m.cls := findClass_of_methodNamed Bd.named
  have hnm := (name_of_methodNamed Bd.named Bd.method).1
  have hlk : meth.locks = false := BodyLoose.notSynchronized Bd
  have X0 : Stand p l e ({ frames := 0, cells := 0, slots := 0, locals := 0 } : Room) s m #[(.ref a1)] below meth c s₁ [] 0 0 := Stand.of_body Bd
  have e0 : s₁.heap = h0 := by rw [← hh, Bd.state]; rfl
  have N0 := Fr.nil n0
  show GG p e below s ({ frames := 0, cells := 0, slots := 0, locals := 0 } : Room).cells ({ frames := 0, cells := 0, slots := 0, locals := 0 } : Room).slots (Q2 Z a1 a2 a3 h0 n0) s₁ (entryFrame m #[(.ref a1)] 1)
  refine own_in (ef_2 m a1) ?_
  show GG _ _ _ _ _ _ _ s₁ (mkF m 0 #[.val (.ref a1)] [])
  refine own_go (fun _ => XS.aloadN X0.here hx rfl (hb hby d2_0) rfl rfl) ?_
  show GG _ _ _ _ _ _ _ s₁ (mkF m 1 #[.val (.ref a1)] [(.ref a1)])
  obtain ⟨T1, X1, e1, st1⟩ := getS2 X0 hx hZ hown (host := "") (Or.inl (hw _ (List.mem_of_getElem? (i := 13) rfl))) Via.refl e0 S_2 (g := (mkF m 1 #[.val (.ref a1)] [(.ref a1)])) rfl (hb hby d2_1)
  refine own_go (fun _ => st1 _) ?_
  show GG _ _ _ _ _ _ _ T1 (mkF m 4 #[.val (.ref a1)] [(.ref a2), (.ref a1)])
  by_cases hc4 : a1 = a2
  · skip
    refine own_go (fun _ => Jvm.RoadKit.acmp (g := (mkF m 4 #[.val (.ref a1)] [(.ref a2), (.ref a1)])) X1 hx rfl rfl rfl (pc0 := 4) (pc' := 18) (same := true) rfl (hb hby d2_4) rfl (decide_eq_true (congrArg Value.ref hc4)) (by decide) (by decide)) ?_
    show GG _ _ _ _ _ _ _ T1 (mkF m 18 #[.val (.ref a1)] [])
    refine own_go (fun _ => XS.iconst X1.here hx rfl (hb hby d2_18)) ?_
    show GG _ _ _ _ _ _ _ T1 (mkF m 19 #[.val (.ref a1)] [(.int (0 : Int32))])
    refine own_ret X1 hx hlk (t := .boolean) (w := (.int (0 : Int32))) Bd.returns rfl (Or.inl ⟨rfl, by simp, _, rfl⟩) (hb hby d2_19) (by decide) (by decide) ?_
    show Q2 Z a1 a2 a3 h0 n0 (some (.int (0 : Int32))) T1.heap _
    rw [e1]
    exact ⟨by simp only [if_pos hc4], N0, rfl⟩
  · skip
    refine own_go (fun _ => Jvm.RoadKit.acmp (g := (mkF m 4 #[.val (.ref a1)] [(.ref a2), (.ref a1)])) X1 hx rfl rfl rfl (pc0 := 4) (pc' := 7) (same := false) rfl (hb hby d2_4) rfl (decide_eq_false fun q => hc4 (Value.ref.inj q)) (by decide) (by decide)) ?_
    show GG _ _ _ _ _ _ _ T1 (mkF m 7 #[.val (.ref a1)] [])
    refine own_go (fun _ => XS.aloadN X1.here hx rfl (hb hby d2_7) rfl rfl) ?_
    show GG _ _ _ _ _ _ _ T1 (mkF m 8 #[.val (.ref a1)] [(.ref a1)])
    obtain ⟨T2, X2, e2, st2⟩ := getS2 X1 hx hZ hown (host := "") (Or.inl (hw _ (List.mem_of_getElem? (i := 15) rfl))) Via.refl e1 S_3 (g := (mkF m 8 #[.val (.ref a1)] [(.ref a1)])) rfl (hb hby d2_8)
    refine own_go (fun _ => st2 _) ?_
    show GG _ _ _ _ _ _ _ T2 (mkF m 11 #[.val (.ref a1)] [(.ref a3), (.ref a1)])
    by_cases hc11 : a1 = a3
    · skip
      refine own_go (fun _ => Jvm.RoadKit.acmp (g := (mkF m 11 #[.val (.ref a1)] [(.ref a3), (.ref a1)])) X2 hx rfl rfl rfl (pc0 := 11) (pc' := 18) (same := true) rfl (hb hby d2_11) rfl (decide_eq_true (congrArg Value.ref hc11)) (by decide) (by decide)) ?_
      show GG _ _ _ _ _ _ _ T2 (mkF m 18 #[.val (.ref a1)] [])
      refine own_go (fun _ => XS.iconst X2.here hx rfl (hb hby d2_18)) ?_
      show GG _ _ _ _ _ _ _ T2 (mkF m 19 #[.val (.ref a1)] [(.int (0 : Int32))])
      refine own_ret X2 hx hlk (t := .boolean) (w := (.int (0 : Int32))) Bd.returns rfl (Or.inl ⟨rfl, by simp, _, rfl⟩) (hb hby d2_19) (by decide) (by decide) ?_
      show Q2 Z a1 a2 a3 h0 n0 (some (.int (0 : Int32))) T2.heap _
      rw [e2]
      exact ⟨by simp only [if_neg hc4, if_pos hc11], N0, rfl⟩
    · skip
      refine own_go (fun _ => Jvm.RoadKit.acmp (g := (mkF m 11 #[.val (.ref a1)] [(.ref a3), (.ref a1)])) X2 hx rfl rfl rfl (pc0 := 11) (pc' := 14) (same := false) rfl (hb hby d2_11) rfl (decide_eq_false fun q => hc11 (Value.ref.inj q)) (by decide) (by decide)) ?_
      show GG _ _ _ _ _ _ _ T2 (mkF m 14 #[.val (.ref a1)] [])
      refine own_go (fun _ => XS.iconst X2.here hx rfl (hb hby d2_14)) ?_
      show GG _ _ _ _ _ _ _ T2 (mkF m 15 #[.val (.ref a1)] [(.int (1 : Int32))])
      refine own_go (fun _ => XS.goto X2.here hx rfl (pc0 := 15) (pc' := 19) rfl (hb hby d2_15) (by decide) (by decide)) ?_
      show GG _ _ _ _ _ _ _ T2 (mkF m 19 #[.val (.ref a1)] [(.int (1 : Int32))])
      refine own_ret X2 hx hlk (t := .boolean) (w := (.int (1 : Int32))) Bd.returns rfl (Or.inl ⟨rfl, by simp, _, rfl⟩) (hb hby d2_19) (by decide) (by decide) ?_
      show Q2 Z a1 a2 a3 h0 n0 (some (.int (1 : Int32))) T2.heap _
      rw [e2]
      exact ⟨by simp only [if_neg hc4, if_neg hc11], N0, rfl⟩
theorem pd__I_Lcom_example_tracemark_tracemark_mode_835 : parseMethodDescriptor "(I)Lcom/example/tracemark/tracemark/model/DisplayFilter$Test;" = some ⟨[.int], some (.object "com/example/tracemark/tracemark/model/DisplayFilter$Test")⟩ := by decide +kernel
theorem pd___Z_171 : parseMethodDescriptor "()Z" = some ⟨[], some .boolean⟩ := by decide +kernel
theorem ef_0 (m : MethodId) (x0 : Int32) : entryFrame m #[(.int x0)] maxLocals = mkF m 0 #[.val (.int x0), .unset, .unset, .unset] [] := by first | (simp [entryFrame, mkF, argsToLocals, Value.category, maxLocals]; done) | rfl
def Q0 (Z : State) (p0 : Int32) (w0 w1 w2 w3 w4 w5 w6 w7 w8 w9 : Addr) (h0 : Heap) (n0 : Nat) (v : Option Value) (h : Heap) (L : List Loc) : Prop := v = some (.int 1) ∧ Fr n0 L
set_option maxRecDepth 65536 in
set_option maxHeartbeats 40000000 in
theorem rm0 (l : Launch) (Z : State) (a0 : Array Value) (hw : ∀ d ∈ tables_1, d.before a0 Z = true) (ws : List Jvm.Cond) (p0 : Int32) (w0 w1 w2 w3 w4 w5 w6 w7 w8 w9 : Addr) (h0 : Heap) (n0 : Nat) (Z0 : n0 ≤ h0.size) (S_0 : Sta Z h0 "com/example/tracemark/tracemark/model/DisplayFilter$Test" "EQ" "Lcom/example/tracemark/tracemark/model/DisplayFilter$Test;" (.ref w0)) (E_0 : Exa Z h0 w0 "com/example/tracemark/tracemark/model/DisplayFilter$Test") (F_0 : Fld Z h0 w0 "java/lang/Enum" "ordinal" "I" (.int (0 : Int32))) (S_1 : Sta Z h0 "com/example/tracemark/tracemark/model/DisplayFilter$Test" "NE" "Lcom/example/tracemark/tracemark/model/DisplayFilter$Test;" (.ref w1)) (E_1 : Exa Z h0 w1 "com/example/tracemark/tracemark/model/DisplayFilter$Test") (F_1 : Fld Z h0 w1 "java/lang/Enum" "ordinal" "I" (.int (1 : Int32))) (S_2 : Sta Z h0 "com/example/tracemark/tracemark/model/DisplayFilter$Test" "LT" "Lcom/example/tracemark/tracemark/model/DisplayFilter$Test;" (.ref w2)) (E_2 : Exa Z h0 w2 "com/example/tracemark/tracemark/model/DisplayFilter$Test") (F_2 : Fld Z h0 w2 "java/lang/Enum" "ordinal" "I" (.int (2 : Int32))) (S_3 : Sta Z h0 "com/example/tracemark/tracemark/model/DisplayFilter$Test" "LE" "Lcom/example/tracemark/tracemark/model/DisplayFilter$Test;" (.ref w3)) (E_3 : Exa Z h0 w3 "com/example/tracemark/tracemark/model/DisplayFilter$Test") (F_3 : Fld Z h0 w3 "java/lang/Enum" "ordinal" "I" (.int (3 : Int32))) (S_4 : Sta Z h0 "com/example/tracemark/tracemark/model/DisplayFilter$Test" "GT" "Lcom/example/tracemark/tracemark/model/DisplayFilter$Test;" (.ref w4)) (E_4 : Exa Z h0 w4 "com/example/tracemark/tracemark/model/DisplayFilter$Test") (F_4 : Fld Z h0 w4 "java/lang/Enum" "ordinal" "I" (.int (4 : Int32))) (S_5 : Sta Z h0 "com/example/tracemark/tracemark/model/DisplayFilter$Test" "GE" "Lcom/example/tracemark/tracemark/model/DisplayFilter$Test;" (.ref w5)) (E_5 : Exa Z h0 w5 "com/example/tracemark/tracemark/model/DisplayFilter$Test") (F_5 : Fld Z h0 w5 "java/lang/Enum" "ordinal" "I" (.int (5 : Int32))) (S_6 : Sta Z h0 "com/example/tracemark/tracemark/model/DisplayFilter$Test" "CONTAINS" "Lcom/example/tracemark/tracemark/model/DisplayFilter$Test;" (.ref w6)) (E_6 : Exa Z h0 w6 "com/example/tracemark/tracemark/model/DisplayFilter$Test") (F_6 : Fld Z h0 w6 "java/lang/Enum" "ordinal" "I" (.int (6 : Int32))) (S_7 : Sta Z h0 "com/example/tracemark/tracemark/model/DisplayFilter$Test" "NOTCONTAINS" "Lcom/example/tracemark/tracemark/model/DisplayFilter$Test;" (.ref w7)) (E_7 : Exa Z h0 w7 "com/example/tracemark/tracemark/model/DisplayFilter$Test") (F_7 : Fld Z h0 w7 "java/lang/Enum" "ordinal" "I" (.int (7 : Int32))) (S_8 : Sta Z h0 "com/example/tracemark/tracemark/model/DisplayFilter$Test" "PRESENT" "Lcom/example/tracemark/tracemark/model/DisplayFilter$Test;" (.ref w8)) (E_8 : Exa Z h0 w8 "com/example/tracemark/tracemark/model/DisplayFilter$Test") (F_8 : Fld Z h0 w8 "java/lang/Enum" "ordinal" "I" (.int (8 : Int32))) (S_9 : Sta Z h0 "com/example/tracemark/tracemark/model/DisplayFilter$Test" "NOTPRESENT" "Lcom/example/tracemark/tracemark/model/DisplayFilter$Test;" (.ref w9)) (E_9 : Exa Z h0 w9 "com/example/tracemark/tracemark/model/DisplayFilter$Test") (F_9 : Fld Z h0 w9 "java/lang/Enum" "ordinal" "I" (.int (9 : Int32))) :
    own_CT l Z x code maxLocals ret ws room_1 #[(.int p0)] h0 (Q0 Z p0 w0 w1 w2 w3 w4 w5 w6 w7 w8 w9 h0 n0) := by
  refine MetFree.of_bodySF (plainFor_of_name pn_com_example_tracemark_tracemark_model_TestTakesValuePinLaw) hisR ?_
  intro p e s m args below meth c s₁ Bd hml0 hP hK
  obtain ⟨rfl, hZ, hh⟩ := hP
  have hx := Bd.exec
  have hby := Bd.bytes
  have hml : c.maxLocals = 4 := hml0
  have hown : s.vm.findClass "com/example/tracemark/tracemark/model/TestTakesValuePinLaw" = some m.cls := findClass_of_methodNamed Bd.named
  have hnm := (name_of_methodNamed Bd.named Bd.method).1
  have hlk : meth.locks = false := BodyLoose.notSynchronized Bd
  have X0 : Stand p l e room_1 s m #[(.int p0)] below meth c s₁ [] 0 0 := Stand.of_body Bd
  have e0 : s₁.heap = h0 := by rw [← hh, Bd.state]; rfl
  have N0 := Fr.nil n0
  show GG p e below s room_1.cells room_1.slots (Q0 Z p0 w0 w1 w2 w3 w4 w5 w6 w7 w8 w9 h0 n0) s₁ (entryFrame m #[(.int p0)] maxLocals)
  refine own_in (ef_0 m p0) ?_
  show GG _ _ _ _ _ _ _ s₁ (mkF m 0 #[.val (.int p0), .unset, .unset, .unset] [])
  refine own_go (fun _ => XS.iloadN X0.here hx rfl (hb hby at_0) rfl) ?_
  show GG _ _ _ _ _ _ _ s₁ (mkF m 1 #[.val (.int p0), .unset, .unset, .unset] [(.int p0)])
  refine own_go (fun _ => X0.ldcInt hx hown (mvT hZ (hw _ (List.mem_of_getElem? (i := 0) rfl))) (g := (mkF m 1 #[.val (.int p0), .unset, .unset, .unset] [(.int p0)])) rfl (hb hby at_1) _) ?_
  show GG _ _ _ _ _ _ _ s₁ (mkF m 3 #[.val (.int p0), .unset, .unset, .unset] [(.int (2147483647 : Int32)), (.int p0)])
  refine own_go (fun _ => XS.iand X0.here hx rfl (hb hby at_3) rfl) ?_
  show GG _ _ _ _ _ _ _ s₁ (mkF m 4 #[.val (.int p0), .unset, .unset, .unset] [(.int (p0 &&& (2147483647 : Int32)))])
  have cx1 := c_mask p0 (2147483647 : Int32) 31 (by decide) (by decide)
  generalize hx1 : (p0 &&& (2147483647 : Int32)) = x1 at cx1 ⊢
  have rx1 := rng32 x1
  refine own_go (fun _ => XS.bipush X0.here hx rfl (hb hby at_4)) ?_
  show GG _ _ _ _ _ _ _ s₁ (mkF m 6 #[.val (.int p0), .unset, .unset, .unset] [(.int (10 : Int32)), (.int x1)])
  refine own_go (fun _ => iremM X0 hx rfl (hb hby at_6) rfl (by decide)) ?_
  show GG _ _ _ _ _ _ _ s₁ (mkF m 7 #[.val (.int p0), .unset, .unset, .unset] [(.int (x1 % (10 : Int32)))])
  have cx2 := c_irem x1 (10 : Int32) 10 (by decide)
  generalize hx2 : (x1 % (10 : Int32)) = x2 at cx2 ⊢
  have rx2 := rng32 x2
  refine own_go (fun _ => XS.istoreN X0.here hx rfl (hb hby at_7) rfl (l' := #[.val (.int p0), .val (.int x2), .unset, .unset]) rfl) ?_
  show GG _ _ _ _ _ _ _ s₁ (mkF m 8 #[.val (.int p0), .val (.int x2), .unset, .unset] [])
  have h10 : x2 = 0 ∨ x2 = 1 ∨ x2 = 2 ∨ x2 = 3 ∨ x2 = 4 ∨ x2 = 5 ∨ x2 = 6 ∨ x2 = 7 ∨ x2 = 8 ∨ x2 = 9 := by simp only [← Int32.toInt_inj, show (0 : Int32).toInt = 0 from by decide, show (1 : Int32).toInt = 1 from by decide, show (2 : Int32).toInt = 2 from by decide, show (3 : Int32).toInt = 3 from by decide, show (4 : Int32).toInt = 4 from by decide, show (5 : Int32).toInt = 5 from by decide, show (6 : Int32).toInt = 6 from by decide, show (7 : Int32).toInt = 7 from by decide, show (8 : Int32).toInt = 8 from by decide, show (9 : Int32).toInt = 9 from by decide]; omega
  rcases h10 with h10 | h10 | h10 | h10 | h10 | h10 | h10 | h10 | h10 | h10
  · skip
    show GG _ _ _ _ _ _ _ s₁ (mkF m 8 #[.val (.int p0), .val (.int x2), .unset, .unset] [])
    refine own_go (fun _ => XS.iloadN X0.here hx rfl (hb hby at_8) rfl) ?_
    show GG _ _ _ _ _ _ _ s₁ (mkF m 9 #[.val (.int p0), .val (.int x2), .unset, .unset] [(.int x2)])
    refine own_callS X0 hx hZ (y := (⟨"com/example/tracemark/tracemark/model/TestTakesValuePinLaw", "pick", "(I)Lcom/example/tracemark/tracemark/model/DisplayFilter$Test;"⟩ : MethodName)) 0 hown (hw _ (List.mem_of_getElem? (i := 1) rfl)) (hw _ (List.mem_of_getElem? (i := 2) rfl)) (hw _ (List.mem_of_getElem? (i := 3) rfl)) (hw _ (List.mem_of_getElem? (i := 4) rfl)) (by decide) (argsL := [(.int x2)]) (rest := []) (rm1_0 l Z a0 hw [] x2 w0 h0 n0 Z0 h10 S_0) (by decide) (by decide) (by decide) (by decide) (g := (mkF m 9 #[.val (.int p0), .val (.int x2), .unset, .unset] [(.int x2)])) rfl (by rw [hml]; rfl) (lenOf pd__I_Lcom_example_tracemark_tracemark_mode_835 rfl) rfl (by show 2 * 0 + _ ≤ _; exact Nat.le_of_eq rfl) (hb hby at_9) e0 ?_
    rintro v3 T3 L3 X3 ⟨rfl, N3q, hh3⟩
    have N3 := Fr.app N0 N3q
    show GG _ _ _ _ _ _ _ T3 (mkF m 12 #[.val (.int p0), .val (.int x2), .unset, .unset] [(.ref w0)])
    refine own_go (fun _ => XS.astoreN X3.here hx rfl (hb hby at_12) rfl rfl (l' := #[.val (.int p0), .val (.int x2), .val (.ref w0), .unset]) rfl) ?_
    show GG _ _ _ _ _ _ _ T3 (mkF m 13 #[.val (.int p0), .val (.int x2), .val (.ref w0), .unset] [])
    refine own_go (fun _ => XS.iloadN X3.here hx rfl (hb hby at_13) rfl) ?_
    show GG _ _ _ _ _ _ _ T3 (mkF m 14 #[.val (.int p0), .val (.int x2), .val (.ref w0), .unset] [(.int x2)])
    refine own_go (fun _ => XS.bipush X3.here hx rfl (hb hby at_14)) ?_
    show GG _ _ _ _ _ _ _ T3 (mkF m 16 #[.val (.int p0), .val (.int x2), .val (.ref w0), .unset] [(.int (8 : Int32)), (.int x2)])
    have hc16 : x2 < (8 : Int32) := by rw [h10]; decide
    refine own_go (fun _ => XS.icmpNo X3.here hx rfl (hb hby at_16) rfl (tlt hc16).2.1) ?_
    show GG _ _ _ _ _ _ _ T3 (mkF m 19 #[.val (.int p0), .val (.int x2), .val (.ref w0), .unset] [])
    refine own_go (fun _ => XS.iconst X3.here hx rfl (hb hby at_19)) ?_
    show GG _ _ _ _ _ _ _ T3 (mkF m 20 #[.val (.int p0), .val (.int x2), .val (.ref w0), .unset] [(.int (1 : Int32))])
    refine own_go (fun _ => XS.goto X3.here hx rfl (pc0 := 20) (pc' := 24) rfl (hb hby at_20) (by decide) (by decide)) ?_
    show GG _ _ _ _ _ _ _ T3 (mkF m 24 #[.val (.int p0), .val (.int x2), .val (.ref w0), .unset] [(.int (1 : Int32))])
    refine own_go (fun _ => XS.istoreN X3.here hx rfl (hb hby at_24) rfl (l' := #[.val (.int p0), .val (.int x2), .val (.ref w0), .val (.int (1 : Int32))]) rfl) ?_
    show GG _ _ _ _ _ _ _ T3 (mkF m 25 #[.val (.int p0), .val (.int x2), .val (.ref w0), .val (.int (1 : Int32))] [])
    refine own_go (fun _ => XS.aloadN X3.here hx rfl (hb hby at_25) rfl rfl) ?_
    show GG _ _ _ _ _ _ _ T3 (mkF m 26 #[.val (.int p0), .val (.int x2), .val (.ref w0), .val (.int (1 : Int32))] [(.ref w0)])
    refine own_callV X3 hx hZ (y := (⟨"com/example/tracemark/tracemark/model/DisplayFilter$Test", "takesValue", "()Z"⟩ : MethodName)) (z := (⟨"com/example/tracemark/tracemark/model/DisplayFilter$Test", "takesValue", "()Z"⟩ : MethodName)) 0 hown (hw _ (List.mem_of_getElem? (i := 8) rfl)) (hw _ (List.mem_of_getElem? (i := 9) rfl)) (notFace_of_selects (args := #[]) (mvT hZ (hw _ (List.mem_of_getElem? (i := 11) rfl)))) (hw _ (List.mem_of_getElem? (i := 11) rfl)) (hw _ (List.mem_of_getElem? (i := 10) rfl)) (hw _ (List.mem_of_getElem? (i := 6) rfl)) (hw _ (List.mem_of_getElem? (i := 12) rfl)) (by decide) (a := w0) (argsL := []) (rest := []) (rm2 l Z a0 hw [] w0 w8 w9 h0 n0 Z0 S_8 S_9) (by decide) (by decide) (by decide) (by decide) E_0 (g := (mkF m 26 #[.val (.int p0), .val (.int x2), .val (.ref w0), .val (.int (1 : Int32))] [(.ref w0)])) rfl (by rw [hml]; rfl) (lenOf pd___Z_171 rfl) rfl (by show 2 * 0 + _ ≤ _; exact Nat.le_of_eq rfl) (hb hby at_26) hh3 ?_
    rintro v4 T4 L4 X4 ⟨rfl, N4q, hh4⟩
    have N4 := Fr.app N3 N4q
    show GG _ _ _ _ _ _ _ T4 (mkF m 29 #[.val (.int p0), .val (.int x2), .val (.ref w0), .val (.int (1 : Int32))] [(.int (if w0 = w8 then (0 : Int32) else if w0 = w9 then 0 else 1))])
    refine own_go (fun _ => XS.iloadN X4.here hx rfl (hb hby at_29) rfl) ?_
    show GG _ _ _ _ _ _ _ T4 (mkF m 30 #[.val (.int p0), .val (.int x2), .val (.ref w0), .val (.int (1 : Int32))] [(.int (1 : Int32)), (.int (if w0 = w8 then (0 : Int32) else if w0 = w9 then 0 else 1))])
    have hc30 : (if w0 = w8 then (0 : Int32) else if w0 = w9 then 0 else 1) = (1 : Int32) := by simp only [if_neg (Fld.ne F_0 F_8 (by decide)), if_neg (Fld.ne F_0 F_9 (by decide))]
    refine own_go (fun _ => XS.icmpNo X4.here hx rfl (hb hby at_30) rfl (teq hc30).2) ?_
    show GG _ _ _ _ _ _ _ T4 (mkF m 33 #[.val (.int p0), .val (.int x2), .val (.ref w0), .val (.int (1 : Int32))] [])
    refine own_go (fun _ => XS.iconst X4.here hx rfl (hb hby at_33)) ?_
    show GG _ _ _ _ _ _ _ T4 (mkF m 34 #[.val (.int p0), .val (.int x2), .val (.ref w0), .val (.int (1 : Int32))] [(.int (1 : Int32))])
    refine own_go (fun _ => XS.goto X4.here hx rfl (pc0 := 34) (pc' := 38) rfl (hb hby at_34) (by decide) (by decide)) ?_
    show GG _ _ _ _ _ _ _ T4 (mkF m 38 #[.val (.int p0), .val (.int x2), .val (.ref w0), .val (.int (1 : Int32))] [(.int (1 : Int32))])
    refine own_ret X4 hx hlk (t := .boolean) (w := (.int (1 : Int32))) Bd.returns rfl (Or.inl ⟨rfl, by simp, _, rfl⟩) (hb hby at_38) (by decide) (by decide) ?_
    show Q0 Z p0 w0 w1 w2 w3 w4 w5 w6 w7 w8 w9 h0 n0 (some (.int (1 : Int32))) T4.heap _
    rw [hh4]
    exact ⟨rfl, N4⟩
  · skip
    show GG _ _ _ _ _ _ _ s₁ (mkF m 8 #[.val (.int p0), .val (.int x2), .unset, .unset] [])
    refine own_go (fun _ => XS.iloadN X0.here hx rfl (hb hby at_8) rfl) ?_
    show GG _ _ _ _ _ _ _ s₁ (mkF m 9 #[.val (.int p0), .val (.int x2), .unset, .unset] [(.int x2)])
    refine own_callS X0 hx hZ (y := (⟨"com/example/tracemark/tracemark/model/TestTakesValuePinLaw", "pick", "(I)Lcom/example/tracemark/tracemark/model/DisplayFilter$Test;"⟩ : MethodName)) 0 hown (hw _ (List.mem_of_getElem? (i := 1) rfl)) (hw _ (List.mem_of_getElem? (i := 2) rfl)) (hw _ (List.mem_of_getElem? (i := 3) rfl)) (hw _ (List.mem_of_getElem? (i := 4) rfl)) (by decide) (argsL := [(.int x2)]) (rest := []) (rm1_1 l Z a0 hw [] x2 w1 h0 n0 Z0 h10 S_1) (by decide) (by decide) (by decide) (by decide) (g := (mkF m 9 #[.val (.int p0), .val (.int x2), .unset, .unset] [(.int x2)])) rfl (by rw [hml]; rfl) (lenOf pd__I_Lcom_example_tracemark_tracemark_mode_835 rfl) rfl (by show 2 * 0 + _ ≤ _; exact Nat.le_of_eq rfl) (hb hby at_9) e0 ?_
    rintro v5 T5 L5 X5 ⟨rfl, N5q, hh5⟩
    have N5 := Fr.app N0 N5q
    show GG _ _ _ _ _ _ _ T5 (mkF m 12 #[.val (.int p0), .val (.int x2), .unset, .unset] [(.ref w1)])
    refine own_go (fun _ => XS.astoreN X5.here hx rfl (hb hby at_12) rfl rfl (l' := #[.val (.int p0), .val (.int x2), .val (.ref w1), .unset]) rfl) ?_
    show GG _ _ _ _ _ _ _ T5 (mkF m 13 #[.val (.int p0), .val (.int x2), .val (.ref w1), .unset] [])
    refine own_go (fun _ => XS.iloadN X5.here hx rfl (hb hby at_13) rfl) ?_
    show GG _ _ _ _ _ _ _ T5 (mkF m 14 #[.val (.int p0), .val (.int x2), .val (.ref w1), .unset] [(.int x2)])
    refine own_go (fun _ => XS.bipush X5.here hx rfl (hb hby at_14)) ?_
    show GG _ _ _ _ _ _ _ T5 (mkF m 16 #[.val (.int p0), .val (.int x2), .val (.ref w1), .unset] [(.int (8 : Int32)), (.int x2)])
    have hc16 : x2 < (8 : Int32) := by rw [h10]; decide
    refine own_go (fun _ => XS.icmpNo X5.here hx rfl (hb hby at_16) rfl (tlt hc16).2.1) ?_
    show GG _ _ _ _ _ _ _ T5 (mkF m 19 #[.val (.int p0), .val (.int x2), .val (.ref w1), .unset] [])
    refine own_go (fun _ => XS.iconst X5.here hx rfl (hb hby at_19)) ?_
    show GG _ _ _ _ _ _ _ T5 (mkF m 20 #[.val (.int p0), .val (.int x2), .val (.ref w1), .unset] [(.int (1 : Int32))])
    refine own_go (fun _ => XS.goto X5.here hx rfl (pc0 := 20) (pc' := 24) rfl (hb hby at_20) (by decide) (by decide)) ?_
    show GG _ _ _ _ _ _ _ T5 (mkF m 24 #[.val (.int p0), .val (.int x2), .val (.ref w1), .unset] [(.int (1 : Int32))])
    refine own_go (fun _ => XS.istoreN X5.here hx rfl (hb hby at_24) rfl (l' := #[.val (.int p0), .val (.int x2), .val (.ref w1), .val (.int (1 : Int32))]) rfl) ?_
    show GG _ _ _ _ _ _ _ T5 (mkF m 25 #[.val (.int p0), .val (.int x2), .val (.ref w1), .val (.int (1 : Int32))] [])
    refine own_go (fun _ => XS.aloadN X5.here hx rfl (hb hby at_25) rfl rfl) ?_
    show GG _ _ _ _ _ _ _ T5 (mkF m 26 #[.val (.int p0), .val (.int x2), .val (.ref w1), .val (.int (1 : Int32))] [(.ref w1)])
    refine own_callV X5 hx hZ (y := (⟨"com/example/tracemark/tracemark/model/DisplayFilter$Test", "takesValue", "()Z"⟩ : MethodName)) (z := (⟨"com/example/tracemark/tracemark/model/DisplayFilter$Test", "takesValue", "()Z"⟩ : MethodName)) 0 hown (hw _ (List.mem_of_getElem? (i := 8) rfl)) (hw _ (List.mem_of_getElem? (i := 9) rfl)) (notFace_of_selects (args := #[]) (mvT hZ (hw _ (List.mem_of_getElem? (i := 11) rfl)))) (hw _ (List.mem_of_getElem? (i := 11) rfl)) (hw _ (List.mem_of_getElem? (i := 10) rfl)) (hw _ (List.mem_of_getElem? (i := 6) rfl)) (hw _ (List.mem_of_getElem? (i := 12) rfl)) (by decide) (a := w1) (argsL := []) (rest := []) (rm2 l Z a0 hw [] w1 w8 w9 h0 n0 Z0 S_8 S_9) (by decide) (by decide) (by decide) (by decide) E_1 (g := (mkF m 26 #[.val (.int p0), .val (.int x2), .val (.ref w1), .val (.int (1 : Int32))] [(.ref w1)])) rfl (by rw [hml]; rfl) (lenOf pd___Z_171 rfl) rfl (by show 2 * 0 + _ ≤ _; exact Nat.le_of_eq rfl) (hb hby at_26) hh5 ?_
    rintro v6 T6 L6 X6 ⟨rfl, N6q, hh6⟩
    have N6 := Fr.app N5 N6q
    show GG _ _ _ _ _ _ _ T6 (mkF m 29 #[.val (.int p0), .val (.int x2), .val (.ref w1), .val (.int (1 : Int32))] [(.int (if w1 = w8 then (0 : Int32) else if w1 = w9 then 0 else 1))])
    refine own_go (fun _ => XS.iloadN X6.here hx rfl (hb hby at_29) rfl) ?_
    show GG _ _ _ _ _ _ _ T6 (mkF m 30 #[.val (.int p0), .val (.int x2), .val (.ref w1), .val (.int (1 : Int32))] [(.int (1 : Int32)), (.int (if w1 = w8 then (0 : Int32) else if w1 = w9 then 0 else 1))])
    have hc30 : (if w1 = w8 then (0 : Int32) else if w1 = w9 then 0 else 1) = (1 : Int32) := by simp only [if_neg (Fld.ne F_1 F_8 (by decide)), if_neg (Fld.ne F_1 F_9 (by decide))]
    refine own_go (fun _ => XS.icmpNo X6.here hx rfl (hb hby at_30) rfl (teq hc30).2) ?_
    show GG _ _ _ _ _ _ _ T6 (mkF m 33 #[.val (.int p0), .val (.int x2), .val (.ref w1), .val (.int (1 : Int32))] [])
    refine own_go (fun _ => XS.iconst X6.here hx rfl (hb hby at_33)) ?_
    show GG _ _ _ _ _ _ _ T6 (mkF m 34 #[.val (.int p0), .val (.int x2), .val (.ref w1), .val (.int (1 : Int32))] [(.int (1 : Int32))])
    refine own_go (fun _ => XS.goto X6.here hx rfl (pc0 := 34) (pc' := 38) rfl (hb hby at_34) (by decide) (by decide)) ?_
    show GG _ _ _ _ _ _ _ T6 (mkF m 38 #[.val (.int p0), .val (.int x2), .val (.ref w1), .val (.int (1 : Int32))] [(.int (1 : Int32))])
    refine own_ret X6 hx hlk (t := .boolean) (w := (.int (1 : Int32))) Bd.returns rfl (Or.inl ⟨rfl, by simp, _, rfl⟩) (hb hby at_38) (by decide) (by decide) ?_
    show Q0 Z p0 w0 w1 w2 w3 w4 w5 w6 w7 w8 w9 h0 n0 (some (.int (1 : Int32))) T6.heap _
    rw [hh6]
    exact ⟨rfl, N6⟩
  · skip
    show GG _ _ _ _ _ _ _ s₁ (mkF m 8 #[.val (.int p0), .val (.int x2), .unset, .unset] [])
    refine own_go (fun _ => XS.iloadN X0.here hx rfl (hb hby at_8) rfl) ?_
    show GG _ _ _ _ _ _ _ s₁ (mkF m 9 #[.val (.int p0), .val (.int x2), .unset, .unset] [(.int x2)])
    refine own_callS X0 hx hZ (y := (⟨"com/example/tracemark/tracemark/model/TestTakesValuePinLaw", "pick", "(I)Lcom/example/tracemark/tracemark/model/DisplayFilter$Test;"⟩ : MethodName)) 0 hown (hw _ (List.mem_of_getElem? (i := 1) rfl)) (hw _ (List.mem_of_getElem? (i := 2) rfl)) (hw _ (List.mem_of_getElem? (i := 3) rfl)) (hw _ (List.mem_of_getElem? (i := 4) rfl)) (by decide) (argsL := [(.int x2)]) (rest := []) (rm1_2 l Z a0 hw [] x2 w2 h0 n0 Z0 h10 S_2) (by decide) (by decide) (by decide) (by decide) (g := (mkF m 9 #[.val (.int p0), .val (.int x2), .unset, .unset] [(.int x2)])) rfl (by rw [hml]; rfl) (lenOf pd__I_Lcom_example_tracemark_tracemark_mode_835 rfl) rfl (by show 2 * 0 + _ ≤ _; exact Nat.le_of_eq rfl) (hb hby at_9) e0 ?_
    rintro v7 T7 L7 X7 ⟨rfl, N7q, hh7⟩
    have N7 := Fr.app N0 N7q
    show GG _ _ _ _ _ _ _ T7 (mkF m 12 #[.val (.int p0), .val (.int x2), .unset, .unset] [(.ref w2)])
    refine own_go (fun _ => XS.astoreN X7.here hx rfl (hb hby at_12) rfl rfl (l' := #[.val (.int p0), .val (.int x2), .val (.ref w2), .unset]) rfl) ?_
    show GG _ _ _ _ _ _ _ T7 (mkF m 13 #[.val (.int p0), .val (.int x2), .val (.ref w2), .unset] [])
    refine own_go (fun _ => XS.iloadN X7.here hx rfl (hb hby at_13) rfl) ?_
    show GG _ _ _ _ _ _ _ T7 (mkF m 14 #[.val (.int p0), .val (.int x2), .val (.ref w2), .unset] [(.int x2)])
    refine own_go (fun _ => XS.bipush X7.here hx rfl (hb hby at_14)) ?_
    show GG _ _ _ _ _ _ _ T7 (mkF m 16 #[.val (.int p0), .val (.int x2), .val (.ref w2), .unset] [(.int (8 : Int32)), (.int x2)])
    have hc16 : x2 < (8 : Int32) := by rw [h10]; decide
    refine own_go (fun _ => XS.icmpNo X7.here hx rfl (hb hby at_16) rfl (tlt hc16).2.1) ?_
    show GG _ _ _ _ _ _ _ T7 (mkF m 19 #[.val (.int p0), .val (.int x2), .val (.ref w2), .unset] [])
    refine own_go (fun _ => XS.iconst X7.here hx rfl (hb hby at_19)) ?_
    show GG _ _ _ _ _ _ _ T7 (mkF m 20 #[.val (.int p0), .val (.int x2), .val (.ref w2), .unset] [(.int (1 : Int32))])
    refine own_go (fun _ => XS.goto X7.here hx rfl (pc0 := 20) (pc' := 24) rfl (hb hby at_20) (by decide) (by decide)) ?_
    show GG _ _ _ _ _ _ _ T7 (mkF m 24 #[.val (.int p0), .val (.int x2), .val (.ref w2), .unset] [(.int (1 : Int32))])
    refine own_go (fun _ => XS.istoreN X7.here hx rfl (hb hby at_24) rfl (l' := #[.val (.int p0), .val (.int x2), .val (.ref w2), .val (.int (1 : Int32))]) rfl) ?_
    show GG _ _ _ _ _ _ _ T7 (mkF m 25 #[.val (.int p0), .val (.int x2), .val (.ref w2), .val (.int (1 : Int32))] [])
    refine own_go (fun _ => XS.aloadN X7.here hx rfl (hb hby at_25) rfl rfl) ?_
    show GG _ _ _ _ _ _ _ T7 (mkF m 26 #[.val (.int p0), .val (.int x2), .val (.ref w2), .val (.int (1 : Int32))] [(.ref w2)])
    refine own_callV X7 hx hZ (y := (⟨"com/example/tracemark/tracemark/model/DisplayFilter$Test", "takesValue", "()Z"⟩ : MethodName)) (z := (⟨"com/example/tracemark/tracemark/model/DisplayFilter$Test", "takesValue", "()Z"⟩ : MethodName)) 0 hown (hw _ (List.mem_of_getElem? (i := 8) rfl)) (hw _ (List.mem_of_getElem? (i := 9) rfl)) (notFace_of_selects (args := #[]) (mvT hZ (hw _ (List.mem_of_getElem? (i := 11) rfl)))) (hw _ (List.mem_of_getElem? (i := 11) rfl)) (hw _ (List.mem_of_getElem? (i := 10) rfl)) (hw _ (List.mem_of_getElem? (i := 6) rfl)) (hw _ (List.mem_of_getElem? (i := 12) rfl)) (by decide) (a := w2) (argsL := []) (rest := []) (rm2 l Z a0 hw [] w2 w8 w9 h0 n0 Z0 S_8 S_9) (by decide) (by decide) (by decide) (by decide) E_2 (g := (mkF m 26 #[.val (.int p0), .val (.int x2), .val (.ref w2), .val (.int (1 : Int32))] [(.ref w2)])) rfl (by rw [hml]; rfl) (lenOf pd___Z_171 rfl) rfl (by show 2 * 0 + _ ≤ _; exact Nat.le_of_eq rfl) (hb hby at_26) hh7 ?_
    rintro v8 T8 L8 X8 ⟨rfl, N8q, hh8⟩
    have N8 := Fr.app N7 N8q
    show GG _ _ _ _ _ _ _ T8 (mkF m 29 #[.val (.int p0), .val (.int x2), .val (.ref w2), .val (.int (1 : Int32))] [(.int (if w2 = w8 then (0 : Int32) else if w2 = w9 then 0 else 1))])
    refine own_go (fun _ => XS.iloadN X8.here hx rfl (hb hby at_29) rfl) ?_
    show GG _ _ _ _ _ _ _ T8 (mkF m 30 #[.val (.int p0), .val (.int x2), .val (.ref w2), .val (.int (1 : Int32))] [(.int (1 : Int32)), (.int (if w2 = w8 then (0 : Int32) else if w2 = w9 then 0 else 1))])
    have hc30 : (if w2 = w8 then (0 : Int32) else if w2 = w9 then 0 else 1) = (1 : Int32) := by simp only [if_neg (Fld.ne F_2 F_8 (by decide)), if_neg (Fld.ne F_2 F_9 (by decide))]
    refine own_go (fun _ => XS.icmpNo X8.here hx rfl (hb hby at_30) rfl (teq hc30).2) ?_
    show GG _ _ _ _ _ _ _ T8 (mkF m 33 #[.val (.int p0), .val (.int x2), .val (.ref w2), .val (.int (1 : Int32))] [])
    refine own_go (fun _ => XS.iconst X8.here hx rfl (hb hby at_33)) ?_
    show GG _ _ _ _ _ _ _ T8 (mkF m 34 #[.val (.int p0), .val (.int x2), .val (.ref w2), .val (.int (1 : Int32))] [(.int (1 : Int32))])
    refine own_go (fun _ => XS.goto X8.here hx rfl (pc0 := 34) (pc' := 38) rfl (hb hby at_34) (by decide) (by decide)) ?_
    show GG _ _ _ _ _ _ _ T8 (mkF m 38 #[.val (.int p0), .val (.int x2), .val (.ref w2), .val (.int (1 : Int32))] [(.int (1 : Int32))])
    refine own_ret X8 hx hlk (t := .boolean) (w := (.int (1 : Int32))) Bd.returns rfl (Or.inl ⟨rfl, by simp, _, rfl⟩) (hb hby at_38) (by decide) (by decide) ?_
    show Q0 Z p0 w0 w1 w2 w3 w4 w5 w6 w7 w8 w9 h0 n0 (some (.int (1 : Int32))) T8.heap _
    rw [hh8]
    exact ⟨rfl, N8⟩
  · skip
    show GG _ _ _ _ _ _ _ s₁ (mkF m 8 #[.val (.int p0), .val (.int x2), .unset, .unset] [])
    refine own_go (fun _ => XS.iloadN X0.here hx rfl (hb hby at_8) rfl) ?_
    show GG _ _ _ _ _ _ _ s₁ (mkF m 9 #[.val (.int p0), .val (.int x2), .unset, .unset] [(.int x2)])
    refine own_callS X0 hx hZ (y := (⟨"com/example/tracemark/tracemark/model/TestTakesValuePinLaw", "pick", "(I)Lcom/example/tracemark/tracemark/model/DisplayFilter$Test;"⟩ : MethodName)) 0 hown (hw _ (List.mem_of_getElem? (i := 1) rfl)) (hw _ (List.mem_of_getElem? (i := 2) rfl)) (hw _ (List.mem_of_getElem? (i := 3) rfl)) (hw _ (List.mem_of_getElem? (i := 4) rfl)) (by decide) (argsL := [(.int x2)]) (rest := []) (rm1_3 l Z a0 hw [] x2 w3 h0 n0 Z0 h10 S_3) (by decide) (by decide) (by decide) (by decide) (g := (mkF m 9 #[.val (.int p0), .val (.int x2), .unset, .unset] [(.int x2)])) rfl (by rw [hml]; rfl) (lenOf pd__I_Lcom_example_tracemark_tracemark_mode_835 rfl) rfl (by show 2 * 0 + _ ≤ _; exact Nat.le_of_eq rfl) (hb hby at_9) e0 ?_
    rintro v9 T9 L9 X9 ⟨rfl, N9q, hh9⟩
    have N9 := Fr.app N0 N9q
    show GG _ _ _ _ _ _ _ T9 (mkF m 12 #[.val (.int p0), .val (.int x2), .unset, .unset] [(.ref w3)])
    refine own_go (fun _ => XS.astoreN X9.here hx rfl (hb hby at_12) rfl rfl (l' := #[.val (.int p0), .val (.int x2), .val (.ref w3), .unset]) rfl) ?_
    show GG _ _ _ _ _ _ _ T9 (mkF m 13 #[.val (.int p0), .val (.int x2), .val (.ref w3), .unset] [])
    refine own_go (fun _ => XS.iloadN X9.here hx rfl (hb hby at_13) rfl) ?_
    show GG _ _ _ _ _ _ _ T9 (mkF m 14 #[.val (.int p0), .val (.int x2), .val (.ref w3), .unset] [(.int x2)])
    refine own_go (fun _ => XS.bipush X9.here hx rfl (hb hby at_14)) ?_
    show GG _ _ _ _ _ _ _ T9 (mkF m 16 #[.val (.int p0), .val (.int x2), .val (.ref w3), .unset] [(.int (8 : Int32)), (.int x2)])
    have hc16 : x2 < (8 : Int32) := by rw [h10]; decide
    refine own_go (fun _ => XS.icmpNo X9.here hx rfl (hb hby at_16) rfl (tlt hc16).2.1) ?_
    show GG _ _ _ _ _ _ _ T9 (mkF m 19 #[.val (.int p0), .val (.int x2), .val (.ref w3), .unset] [])
    refine own_go (fun _ => XS.iconst X9.here hx rfl (hb hby at_19)) ?_
    show GG _ _ _ _ _ _ _ T9 (mkF m 20 #[.val (.int p0), .val (.int x2), .val (.ref w3), .unset] [(.int (1 : Int32))])
    refine own_go (fun _ => XS.goto X9.here hx rfl (pc0 := 20) (pc' := 24) rfl (hb hby at_20) (by decide) (by decide)) ?_
    show GG _ _ _ _ _ _ _ T9 (mkF m 24 #[.val (.int p0), .val (.int x2), .val (.ref w3), .unset] [(.int (1 : Int32))])
    refine own_go (fun _ => XS.istoreN X9.here hx rfl (hb hby at_24) rfl (l' := #[.val (.int p0), .val (.int x2), .val (.ref w3), .val (.int (1 : Int32))]) rfl) ?_
    show GG _ _ _ _ _ _ _ T9 (mkF m 25 #[.val (.int p0), .val (.int x2), .val (.ref w3), .val (.int (1 : Int32))] [])
    refine own_go (fun _ => XS.aloadN X9.here hx rfl (hb hby at_25) rfl rfl) ?_
    show GG _ _ _ _ _ _ _ T9 (mkF m 26 #[.val (.int p0), .val (.int x2), .val (.ref w3), .val (.int (1 : Int32))] [(.ref w3)])
    refine own_callV X9 hx hZ (y := (⟨"com/example/tracemark/tracemark/model/DisplayFilter$Test", "takesValue", "()Z"⟩ : MethodName)) (z := (⟨"com/example/tracemark/tracemark/model/DisplayFilter$Test", "takesValue", "()Z"⟩ : MethodName)) 0 hown (hw _ (List.mem_of_getElem? (i := 8) rfl)) (hw _ (List.mem_of_getElem? (i := 9) rfl)) (notFace_of_selects (args := #[]) (mvT hZ (hw _ (List.mem_of_getElem? (i := 11) rfl)))) (hw _ (List.mem_of_getElem? (i := 11) rfl)) (hw _ (List.mem_of_getElem? (i := 10) rfl)) (hw _ (List.mem_of_getElem? (i := 6) rfl)) (hw _ (List.mem_of_getElem? (i := 12) rfl)) (by decide) (a := w3) (argsL := []) (rest := []) (rm2 l Z a0 hw [] w3 w8 w9 h0 n0 Z0 S_8 S_9) (by decide) (by decide) (by decide) (by decide) E_3 (g := (mkF m 26 #[.val (.int p0), .val (.int x2), .val (.ref w3), .val (.int (1 : Int32))] [(.ref w3)])) rfl (by rw [hml]; rfl) (lenOf pd___Z_171 rfl) rfl (by show 2 * 0 + _ ≤ _; exact Nat.le_of_eq rfl) (hb hby at_26) hh9 ?_
    rintro v10 T10 L10 X10 ⟨rfl, N10q, hh10⟩
    have N10 := Fr.app N9 N10q
    show GG _ _ _ _ _ _ _ T10 (mkF m 29 #[.val (.int p0), .val (.int x2), .val (.ref w3), .val (.int (1 : Int32))] [(.int (if w3 = w8 then (0 : Int32) else if w3 = w9 then 0 else 1))])
    refine own_go (fun _ => XS.iloadN X10.here hx rfl (hb hby at_29) rfl) ?_
    show GG _ _ _ _ _ _ _ T10 (mkF m 30 #[.val (.int p0), .val (.int x2), .val (.ref w3), .val (.int (1 : Int32))] [(.int (1 : Int32)), (.int (if w3 = w8 then (0 : Int32) else if w3 = w9 then 0 else 1))])
    have hc30 : (if w3 = w8 then (0 : Int32) else if w3 = w9 then 0 else 1) = (1 : Int32) := by simp only [if_neg (Fld.ne F_3 F_8 (by decide)), if_neg (Fld.ne F_3 F_9 (by decide))]
    refine own_go (fun _ => XS.icmpNo X10.here hx rfl (hb hby at_30) rfl (teq hc30).2) ?_
    show GG _ _ _ _ _ _ _ T10 (mkF m 33 #[.val (.int p0), .val (.int x2), .val (.ref w3), .val (.int (1 : Int32))] [])
    refine own_go (fun _ => XS.iconst X10.here hx rfl (hb hby at_33)) ?_
    show GG _ _ _ _ _ _ _ T10 (mkF m 34 #[.val (.int p0), .val (.int x2), .val (.ref w3), .val (.int (1 : Int32))] [(.int (1 : Int32))])
    refine own_go (fun _ => XS.goto X10.here hx rfl (pc0 := 34) (pc' := 38) rfl (hb hby at_34) (by decide) (by decide)) ?_
    show GG _ _ _ _ _ _ _ T10 (mkF m 38 #[.val (.int p0), .val (.int x2), .val (.ref w3), .val (.int (1 : Int32))] [(.int (1 : Int32))])
    refine own_ret X10 hx hlk (t := .boolean) (w := (.int (1 : Int32))) Bd.returns rfl (Or.inl ⟨rfl, by simp, _, rfl⟩) (hb hby at_38) (by decide) (by decide) ?_
    show Q0 Z p0 w0 w1 w2 w3 w4 w5 w6 w7 w8 w9 h0 n0 (some (.int (1 : Int32))) T10.heap _
    rw [hh10]
    exact ⟨rfl, N10⟩
  · skip
    show GG _ _ _ _ _ _ _ s₁ (mkF m 8 #[.val (.int p0), .val (.int x2), .unset, .unset] [])
    refine own_go (fun _ => XS.iloadN X0.here hx rfl (hb hby at_8) rfl) ?_
    show GG _ _ _ _ _ _ _ s₁ (mkF m 9 #[.val (.int p0), .val (.int x2), .unset, .unset] [(.int x2)])
    refine own_callS X0 hx hZ (y := (⟨"com/example/tracemark/tracemark/model/TestTakesValuePinLaw", "pick", "(I)Lcom/example/tracemark/tracemark/model/DisplayFilter$Test;"⟩ : MethodName)) 0 hown (hw _ (List.mem_of_getElem? (i := 1) rfl)) (hw _ (List.mem_of_getElem? (i := 2) rfl)) (hw _ (List.mem_of_getElem? (i := 3) rfl)) (hw _ (List.mem_of_getElem? (i := 4) rfl)) (by decide) (argsL := [(.int x2)]) (rest := []) (rm1_4 l Z a0 hw [] x2 w4 h0 n0 Z0 h10 S_4) (by decide) (by decide) (by decide) (by decide) (g := (mkF m 9 #[.val (.int p0), .val (.int x2), .unset, .unset] [(.int x2)])) rfl (by rw [hml]; rfl) (lenOf pd__I_Lcom_example_tracemark_tracemark_mode_835 rfl) rfl (by show 2 * 0 + _ ≤ _; exact Nat.le_of_eq rfl) (hb hby at_9) e0 ?_
    rintro v11 T11 L11 X11 ⟨rfl, N11q, hh11⟩
    have N11 := Fr.app N0 N11q
    show GG _ _ _ _ _ _ _ T11 (mkF m 12 #[.val (.int p0), .val (.int x2), .unset, .unset] [(.ref w4)])
    refine own_go (fun _ => XS.astoreN X11.here hx rfl (hb hby at_12) rfl rfl (l' := #[.val (.int p0), .val (.int x2), .val (.ref w4), .unset]) rfl) ?_
    show GG _ _ _ _ _ _ _ T11 (mkF m 13 #[.val (.int p0), .val (.int x2), .val (.ref w4), .unset] [])
    refine own_go (fun _ => XS.iloadN X11.here hx rfl (hb hby at_13) rfl) ?_
    show GG _ _ _ _ _ _ _ T11 (mkF m 14 #[.val (.int p0), .val (.int x2), .val (.ref w4), .unset] [(.int x2)])
    refine own_go (fun _ => XS.bipush X11.here hx rfl (hb hby at_14)) ?_
    show GG _ _ _ _ _ _ _ T11 (mkF m 16 #[.val (.int p0), .val (.int x2), .val (.ref w4), .unset] [(.int (8 : Int32)), (.int x2)])
    have hc16 : x2 < (8 : Int32) := by rw [h10]; decide
    refine own_go (fun _ => XS.icmpNo X11.here hx rfl (hb hby at_16) rfl (tlt hc16).2.1) ?_
    show GG _ _ _ _ _ _ _ T11 (mkF m 19 #[.val (.int p0), .val (.int x2), .val (.ref w4), .unset] [])
    refine own_go (fun _ => XS.iconst X11.here hx rfl (hb hby at_19)) ?_
    show GG _ _ _ _ _ _ _ T11 (mkF m 20 #[.val (.int p0), .val (.int x2), .val (.ref w4), .unset] [(.int (1 : Int32))])
    refine own_go (fun _ => XS.goto X11.here hx rfl (pc0 := 20) (pc' := 24) rfl (hb hby at_20) (by decide) (by decide)) ?_
    show GG _ _ _ _ _ _ _ T11 (mkF m 24 #[.val (.int p0), .val (.int x2), .val (.ref w4), .unset] [(.int (1 : Int32))])
    refine own_go (fun _ => XS.istoreN X11.here hx rfl (hb hby at_24) rfl (l' := #[.val (.int p0), .val (.int x2), .val (.ref w4), .val (.int (1 : Int32))]) rfl) ?_
    show GG _ _ _ _ _ _ _ T11 (mkF m 25 #[.val (.int p0), .val (.int x2), .val (.ref w4), .val (.int (1 : Int32))] [])
    refine own_go (fun _ => XS.aloadN X11.here hx rfl (hb hby at_25) rfl rfl) ?_
    show GG _ _ _ _ _ _ _ T11 (mkF m 26 #[.val (.int p0), .val (.int x2), .val (.ref w4), .val (.int (1 : Int32))] [(.ref w4)])
    refine own_callV X11 hx hZ (y := (⟨"com/example/tracemark/tracemark/model/DisplayFilter$Test", "takesValue", "()Z"⟩ : MethodName)) (z := (⟨"com/example/tracemark/tracemark/model/DisplayFilter$Test", "takesValue", "()Z"⟩ : MethodName)) 0 hown (hw _ (List.mem_of_getElem? (i := 8) rfl)) (hw _ (List.mem_of_getElem? (i := 9) rfl)) (notFace_of_selects (args := #[]) (mvT hZ (hw _ (List.mem_of_getElem? (i := 11) rfl)))) (hw _ (List.mem_of_getElem? (i := 11) rfl)) (hw _ (List.mem_of_getElem? (i := 10) rfl)) (hw _ (List.mem_of_getElem? (i := 6) rfl)) (hw _ (List.mem_of_getElem? (i := 12) rfl)) (by decide) (a := w4) (argsL := []) (rest := []) (rm2 l Z a0 hw [] w4 w8 w9 h0 n0 Z0 S_8 S_9) (by decide) (by decide) (by decide) (by decide) E_4 (g := (mkF m 26 #[.val (.int p0), .val (.int x2), .val (.ref w4), .val (.int (1 : Int32))] [(.ref w4)])) rfl (by rw [hml]; rfl) (lenOf pd___Z_171 rfl) rfl (by show 2 * 0 + _ ≤ _; exact Nat.le_of_eq rfl) (hb hby at_26) hh11 ?_
    rintro v12 T12 L12 X12 ⟨rfl, N12q, hh12⟩
    have N12 := Fr.app N11 N12q
    show GG _ _ _ _ _ _ _ T12 (mkF m 29 #[.val (.int p0), .val (.int x2), .val (.ref w4), .val (.int (1 : Int32))] [(.int (if w4 = w8 then (0 : Int32) else if w4 = w9 then 0 else 1))])
    refine own_go (fun _ => XS.iloadN X12.here hx rfl (hb hby at_29) rfl) ?_
    show GG _ _ _ _ _ _ _ T12 (mkF m 30 #[.val (.int p0), .val (.int x2), .val (.ref w4), .val (.int (1 : Int32))] [(.int (1 : Int32)), (.int (if w4 = w8 then (0 : Int32) else if w4 = w9 then 0 else 1))])
    have hc30 : (if w4 = w8 then (0 : Int32) else if w4 = w9 then 0 else 1) = (1 : Int32) := by simp only [if_neg (Fld.ne F_4 F_8 (by decide)), if_neg (Fld.ne F_4 F_9 (by decide))]
    refine own_go (fun _ => XS.icmpNo X12.here hx rfl (hb hby at_30) rfl (teq hc30).2) ?_
    show GG _ _ _ _ _ _ _ T12 (mkF m 33 #[.val (.int p0), .val (.int x2), .val (.ref w4), .val (.int (1 : Int32))] [])
    refine own_go (fun _ => XS.iconst X12.here hx rfl (hb hby at_33)) ?_
    show GG _ _ _ _ _ _ _ T12 (mkF m 34 #[.val (.int p0), .val (.int x2), .val (.ref w4), .val (.int (1 : Int32))] [(.int (1 : Int32))])
    refine own_go (fun _ => XS.goto X12.here hx rfl (pc0 := 34) (pc' := 38) rfl (hb hby at_34) (by decide) (by decide)) ?_
    show GG _ _ _ _ _ _ _ T12 (mkF m 38 #[.val (.int p0), .val (.int x2), .val (.ref w4), .val (.int (1 : Int32))] [(.int (1 : Int32))])
    refine own_ret X12 hx hlk (t := .boolean) (w := (.int (1 : Int32))) Bd.returns rfl (Or.inl ⟨rfl, by simp, _, rfl⟩) (hb hby at_38) (by decide) (by decide) ?_
    show Q0 Z p0 w0 w1 w2 w3 w4 w5 w6 w7 w8 w9 h0 n0 (some (.int (1 : Int32))) T12.heap _
    rw [hh12]
    exact ⟨rfl, N12⟩
  · skip
    show GG _ _ _ _ _ _ _ s₁ (mkF m 8 #[.val (.int p0), .val (.int x2), .unset, .unset] [])
    refine own_go (fun _ => XS.iloadN X0.here hx rfl (hb hby at_8) rfl) ?_
    show GG _ _ _ _ _ _ _ s₁ (mkF m 9 #[.val (.int p0), .val (.int x2), .unset, .unset] [(.int x2)])
    refine own_callS X0 hx hZ (y := (⟨"com/example/tracemark/tracemark/model/TestTakesValuePinLaw", "pick", "(I)Lcom/example/tracemark/tracemark/model/DisplayFilter$Test;"⟩ : MethodName)) 0 hown (hw _ (List.mem_of_getElem? (i := 1) rfl)) (hw _ (List.mem_of_getElem? (i := 2) rfl)) (hw _ (List.mem_of_getElem? (i := 3) rfl)) (hw _ (List.mem_of_getElem? (i := 4) rfl)) (by decide) (argsL := [(.int x2)]) (rest := []) (rm1_5 l Z a0 hw [] x2 w5 h0 n0 Z0 h10 S_5) (by decide) (by decide) (by decide) (by decide) (g := (mkF m 9 #[.val (.int p0), .val (.int x2), .unset, .unset] [(.int x2)])) rfl (by rw [hml]; rfl) (lenOf pd__I_Lcom_example_tracemark_tracemark_mode_835 rfl) rfl (by show 2 * 0 + _ ≤ _; exact Nat.le_of_eq rfl) (hb hby at_9) e0 ?_
    rintro v13 T13 L13 X13 ⟨rfl, N13q, hh13⟩
    have N13 := Fr.app N0 N13q
    show GG _ _ _ _ _ _ _ T13 (mkF m 12 #[.val (.int p0), .val (.int x2), .unset, .unset] [(.ref w5)])
    refine own_go (fun _ => XS.astoreN X13.here hx rfl (hb hby at_12) rfl rfl (l' := #[.val (.int p0), .val (.int x2), .val (.ref w5), .unset]) rfl) ?_
    show GG _ _ _ _ _ _ _ T13 (mkF m 13 #[.val (.int p0), .val (.int x2), .val (.ref w5), .unset] [])
    refine own_go (fun _ => XS.iloadN X13.here hx rfl (hb hby at_13) rfl) ?_
    show GG _ _ _ _ _ _ _ T13 (mkF m 14 #[.val (.int p0), .val (.int x2), .val (.ref w5), .unset] [(.int x2)])
    refine own_go (fun _ => XS.bipush X13.here hx rfl (hb hby at_14)) ?_
    show GG _ _ _ _ _ _ _ T13 (mkF m 16 #[.val (.int p0), .val (.int x2), .val (.ref w5), .unset] [(.int (8 : Int32)), (.int x2)])
    have hc16 : x2 < (8 : Int32) := by rw [h10]; decide
    refine own_go (fun _ => XS.icmpNo X13.here hx rfl (hb hby at_16) rfl (tlt hc16).2.1) ?_
    show GG _ _ _ _ _ _ _ T13 (mkF m 19 #[.val (.int p0), .val (.int x2), .val (.ref w5), .unset] [])
    refine own_go (fun _ => XS.iconst X13.here hx rfl (hb hby at_19)) ?_
    show GG _ _ _ _ _ _ _ T13 (mkF m 20 #[.val (.int p0), .val (.int x2), .val (.ref w5), .unset] [(.int (1 : Int32))])
    refine own_go (fun _ => XS.goto X13.here hx rfl (pc0 := 20) (pc' := 24) rfl (hb hby at_20) (by decide) (by decide)) ?_
    show GG _ _ _ _ _ _ _ T13 (mkF m 24 #[.val (.int p0), .val (.int x2), .val (.ref w5), .unset] [(.int (1 : Int32))])
    refine own_go (fun _ => XS.istoreN X13.here hx rfl (hb hby at_24) rfl (l' := #[.val (.int p0), .val (.int x2), .val (.ref w5), .val (.int (1 : Int32))]) rfl) ?_
    show GG _ _ _ _ _ _ _ T13 (mkF m 25 #[.val (.int p0), .val (.int x2), .val (.ref w5), .val (.int (1 : Int32))] [])
    refine own_go (fun _ => XS.aloadN X13.here hx rfl (hb hby at_25) rfl rfl) ?_
    show GG _ _ _ _ _ _ _ T13 (mkF m 26 #[.val (.int p0), .val (.int x2), .val (.ref w5), .val (.int (1 : Int32))] [(.ref w5)])
    refine own_callV X13 hx hZ (y := (⟨"com/example/tracemark/tracemark/model/DisplayFilter$Test", "takesValue", "()Z"⟩ : MethodName)) (z := (⟨"com/example/tracemark/tracemark/model/DisplayFilter$Test", "takesValue", "()Z"⟩ : MethodName)) 0 hown (hw _ (List.mem_of_getElem? (i := 8) rfl)) (hw _ (List.mem_of_getElem? (i := 9) rfl)) (notFace_of_selects (args := #[]) (mvT hZ (hw _ (List.mem_of_getElem? (i := 11) rfl)))) (hw _ (List.mem_of_getElem? (i := 11) rfl)) (hw _ (List.mem_of_getElem? (i := 10) rfl)) (hw _ (List.mem_of_getElem? (i := 6) rfl)) (hw _ (List.mem_of_getElem? (i := 12) rfl)) (by decide) (a := w5) (argsL := []) (rest := []) (rm2 l Z a0 hw [] w5 w8 w9 h0 n0 Z0 S_8 S_9) (by decide) (by decide) (by decide) (by decide) E_5 (g := (mkF m 26 #[.val (.int p0), .val (.int x2), .val (.ref w5), .val (.int (1 : Int32))] [(.ref w5)])) rfl (by rw [hml]; rfl) (lenOf pd___Z_171 rfl) rfl (by show 2 * 0 + _ ≤ _; exact Nat.le_of_eq rfl) (hb hby at_26) hh13 ?_
    rintro v14 T14 L14 X14 ⟨rfl, N14q, hh14⟩
    have N14 := Fr.app N13 N14q
    show GG _ _ _ _ _ _ _ T14 (mkF m 29 #[.val (.int p0), .val (.int x2), .val (.ref w5), .val (.int (1 : Int32))] [(.int (if w5 = w8 then (0 : Int32) else if w5 = w9 then 0 else 1))])
    refine own_go (fun _ => XS.iloadN X14.here hx rfl (hb hby at_29) rfl) ?_
    show GG _ _ _ _ _ _ _ T14 (mkF m 30 #[.val (.int p0), .val (.int x2), .val (.ref w5), .val (.int (1 : Int32))] [(.int (1 : Int32)), (.int (if w5 = w8 then (0 : Int32) else if w5 = w9 then 0 else 1))])
    have hc30 : (if w5 = w8 then (0 : Int32) else if w5 = w9 then 0 else 1) = (1 : Int32) := by simp only [if_neg (Fld.ne F_5 F_8 (by decide)), if_neg (Fld.ne F_5 F_9 (by decide))]
    refine own_go (fun _ => XS.icmpNo X14.here hx rfl (hb hby at_30) rfl (teq hc30).2) ?_
    show GG _ _ _ _ _ _ _ T14 (mkF m 33 #[.val (.int p0), .val (.int x2), .val (.ref w5), .val (.int (1 : Int32))] [])
    refine own_go (fun _ => XS.iconst X14.here hx rfl (hb hby at_33)) ?_
    show GG _ _ _ _ _ _ _ T14 (mkF m 34 #[.val (.int p0), .val (.int x2), .val (.ref w5), .val (.int (1 : Int32))] [(.int (1 : Int32))])
    refine own_go (fun _ => XS.goto X14.here hx rfl (pc0 := 34) (pc' := 38) rfl (hb hby at_34) (by decide) (by decide)) ?_
    show GG _ _ _ _ _ _ _ T14 (mkF m 38 #[.val (.int p0), .val (.int x2), .val (.ref w5), .val (.int (1 : Int32))] [(.int (1 : Int32))])
    refine own_ret X14 hx hlk (t := .boolean) (w := (.int (1 : Int32))) Bd.returns rfl (Or.inl ⟨rfl, by simp, _, rfl⟩) (hb hby at_38) (by decide) (by decide) ?_
    show Q0 Z p0 w0 w1 w2 w3 w4 w5 w6 w7 w8 w9 h0 n0 (some (.int (1 : Int32))) T14.heap _
    rw [hh14]
    exact ⟨rfl, N14⟩
  · skip
    show GG _ _ _ _ _ _ _ s₁ (mkF m 8 #[.val (.int p0), .val (.int x2), .unset, .unset] [])
    refine own_go (fun _ => XS.iloadN X0.here hx rfl (hb hby at_8) rfl) ?_
    show GG _ _ _ _ _ _ _ s₁ (mkF m 9 #[.val (.int p0), .val (.int x2), .unset, .unset] [(.int x2)])
    refine own_callS X0 hx hZ (y := (⟨"com/example/tracemark/tracemark/model/TestTakesValuePinLaw", "pick", "(I)Lcom/example/tracemark/tracemark/model/DisplayFilter$Test;"⟩ : MethodName)) 0 hown (hw _ (List.mem_of_getElem? (i := 1) rfl)) (hw _ (List.mem_of_getElem? (i := 2) rfl)) (hw _ (List.mem_of_getElem? (i := 3) rfl)) (hw _ (List.mem_of_getElem? (i := 4) rfl)) (by decide) (argsL := [(.int x2)]) (rest := []) (rm1_6 l Z a0 hw [] x2 w6 h0 n0 Z0 h10 S_6) (by decide) (by decide) (by decide) (by decide) (g := (mkF m 9 #[.val (.int p0), .val (.int x2), .unset, .unset] [(.int x2)])) rfl (by rw [hml]; rfl) (lenOf pd__I_Lcom_example_tracemark_tracemark_mode_835 rfl) rfl (by show 2 * 0 + _ ≤ _; exact Nat.le_of_eq rfl) (hb hby at_9) e0 ?_
    rintro v15 T15 L15 X15 ⟨rfl, N15q, hh15⟩
    have N15 := Fr.app N0 N15q
    show GG _ _ _ _ _ _ _ T15 (mkF m 12 #[.val (.int p0), .val (.int x2), .unset, .unset] [(.ref w6)])
    refine own_go (fun _ => XS.astoreN X15.here hx rfl (hb hby at_12) rfl rfl (l' := #[.val (.int p0), .val (.int x2), .val (.ref w6), .unset]) rfl) ?_
    show GG _ _ _ _ _ _ _ T15 (mkF m 13 #[.val (.int p0), .val (.int x2), .val (.ref w6), .unset] [])
    refine own_go (fun _ => XS.iloadN X15.here hx rfl (hb hby at_13) rfl) ?_
    show GG _ _ _ _ _ _ _ T15 (mkF m 14 #[.val (.int p0), .val (.int x2), .val (.ref w6), .unset] [(.int x2)])
    refine own_go (fun _ => XS.bipush X15.here hx rfl (hb hby at_14)) ?_
    show GG _ _ _ _ _ _ _ T15 (mkF m 16 #[.val (.int p0), .val (.int x2), .val (.ref w6), .unset] [(.int (8 : Int32)), (.int x2)])
    have hc16 : x2 < (8 : Int32) := by rw [h10]; decide
    refine own_go (fun _ => XS.icmpNo X15.here hx rfl (hb hby at_16) rfl (tlt hc16).2.1) ?_
    show GG _ _ _ _ _ _ _ T15 (mkF m 19 #[.val (.int p0), .val (.int x2), .val (.ref w6), .unset] [])
    refine own_go (fun _ => XS.iconst X15.here hx rfl (hb hby at_19)) ?_
    show GG _ _ _ _ _ _ _ T15 (mkF m 20 #[.val (.int p0), .val (.int x2), .val (.ref w6), .unset] [(.int (1 : Int32))])
    refine own_go (fun _ => XS.goto X15.here hx rfl (pc0 := 20) (pc' := 24) rfl (hb hby at_20) (by decide) (by decide)) ?_
    show GG _ _ _ _ _ _ _ T15 (mkF m 24 #[.val (.int p0), .val (.int x2), .val (.ref w6), .unset] [(.int (1 : Int32))])
    refine own_go (fun _ => XS.istoreN X15.here hx rfl (hb hby at_24) rfl (l' := #[.val (.int p0), .val (.int x2), .val (.ref w6), .val (.int (1 : Int32))]) rfl) ?_
    show GG _ _ _ _ _ _ _ T15 (mkF m 25 #[.val (.int p0), .val (.int x2), .val (.ref w6), .val (.int (1 : Int32))] [])
    refine own_go (fun _ => XS.aloadN X15.here hx rfl (hb hby at_25) rfl rfl) ?_
    show GG _ _ _ _ _ _ _ T15 (mkF m 26 #[.val (.int p0), .val (.int x2), .val (.ref w6), .val (.int (1 : Int32))] [(.ref w6)])
    refine own_callV X15 hx hZ (y := (⟨"com/example/tracemark/tracemark/model/DisplayFilter$Test", "takesValue", "()Z"⟩ : MethodName)) (z := (⟨"com/example/tracemark/tracemark/model/DisplayFilter$Test", "takesValue", "()Z"⟩ : MethodName)) 0 hown (hw _ (List.mem_of_getElem? (i := 8) rfl)) (hw _ (List.mem_of_getElem? (i := 9) rfl)) (notFace_of_selects (args := #[]) (mvT hZ (hw _ (List.mem_of_getElem? (i := 11) rfl)))) (hw _ (List.mem_of_getElem? (i := 11) rfl)) (hw _ (List.mem_of_getElem? (i := 10) rfl)) (hw _ (List.mem_of_getElem? (i := 6) rfl)) (hw _ (List.mem_of_getElem? (i := 12) rfl)) (by decide) (a := w6) (argsL := []) (rest := []) (rm2 l Z a0 hw [] w6 w8 w9 h0 n0 Z0 S_8 S_9) (by decide) (by decide) (by decide) (by decide) E_6 (g := (mkF m 26 #[.val (.int p0), .val (.int x2), .val (.ref w6), .val (.int (1 : Int32))] [(.ref w6)])) rfl (by rw [hml]; rfl) (lenOf pd___Z_171 rfl) rfl (by show 2 * 0 + _ ≤ _; exact Nat.le_of_eq rfl) (hb hby at_26) hh15 ?_
    rintro v16 T16 L16 X16 ⟨rfl, N16q, hh16⟩
    have N16 := Fr.app N15 N16q
    show GG _ _ _ _ _ _ _ T16 (mkF m 29 #[.val (.int p0), .val (.int x2), .val (.ref w6), .val (.int (1 : Int32))] [(.int (if w6 = w8 then (0 : Int32) else if w6 = w9 then 0 else 1))])
    refine own_go (fun _ => XS.iloadN X16.here hx rfl (hb hby at_29) rfl) ?_
    show GG _ _ _ _ _ _ _ T16 (mkF m 30 #[.val (.int p0), .val (.int x2), .val (.ref w6), .val (.int (1 : Int32))] [(.int (1 : Int32)), (.int (if w6 = w8 then (0 : Int32) else if w6 = w9 then 0 else 1))])
    have hc30 : (if w6 = w8 then (0 : Int32) else if w6 = w9 then 0 else 1) = (1 : Int32) := by simp only [if_neg (Fld.ne F_6 F_8 (by decide)), if_neg (Fld.ne F_6 F_9 (by decide))]
    refine own_go (fun _ => XS.icmpNo X16.here hx rfl (hb hby at_30) rfl (teq hc30).2) ?_
    show GG _ _ _ _ _ _ _ T16 (mkF m 33 #[.val (.int p0), .val (.int x2), .val (.ref w6), .val (.int (1 : Int32))] [])
    refine own_go (fun _ => XS.iconst X16.here hx rfl (hb hby at_33)) ?_
    show GG _ _ _ _ _ _ _ T16 (mkF m 34 #[.val (.int p0), .val (.int x2), .val (.ref w6), .val (.int (1 : Int32))] [(.int (1 : Int32))])
    refine own_go (fun _ => XS.goto X16.here hx rfl (pc0 := 34) (pc' := 38) rfl (hb hby at_34) (by decide) (by decide)) ?_
    show GG _ _ _ _ _ _ _ T16 (mkF m 38 #[.val (.int p0), .val (.int x2), .val (.ref w6), .val (.int (1 : Int32))] [(.int (1 : Int32))])
    refine own_ret X16 hx hlk (t := .boolean) (w := (.int (1 : Int32))) Bd.returns rfl (Or.inl ⟨rfl, by simp, _, rfl⟩) (hb hby at_38) (by decide) (by decide) ?_
    show Q0 Z p0 w0 w1 w2 w3 w4 w5 w6 w7 w8 w9 h0 n0 (some (.int (1 : Int32))) T16.heap _
    rw [hh16]
    exact ⟨rfl, N16⟩
  · skip
    show GG _ _ _ _ _ _ _ s₁ (mkF m 8 #[.val (.int p0), .val (.int x2), .unset, .unset] [])
    refine own_go (fun _ => XS.iloadN X0.here hx rfl (hb hby at_8) rfl) ?_
    show GG _ _ _ _ _ _ _ s₁ (mkF m 9 #[.val (.int p0), .val (.int x2), .unset, .unset] [(.int x2)])
    refine own_callS X0 hx hZ (y := (⟨"com/example/tracemark/tracemark/model/TestTakesValuePinLaw", "pick", "(I)Lcom/example/tracemark/tracemark/model/DisplayFilter$Test;"⟩ : MethodName)) 0 hown (hw _ (List.mem_of_getElem? (i := 1) rfl)) (hw _ (List.mem_of_getElem? (i := 2) rfl)) (hw _ (List.mem_of_getElem? (i := 3) rfl)) (hw _ (List.mem_of_getElem? (i := 4) rfl)) (by decide) (argsL := [(.int x2)]) (rest := []) (rm1_7 l Z a0 hw [] x2 w7 h0 n0 Z0 h10 S_7) (by decide) (by decide) (by decide) (by decide) (g := (mkF m 9 #[.val (.int p0), .val (.int x2), .unset, .unset] [(.int x2)])) rfl (by rw [hml]; rfl) (lenOf pd__I_Lcom_example_tracemark_tracemark_mode_835 rfl) rfl (by show 2 * 0 + _ ≤ _; exact Nat.le_of_eq rfl) (hb hby at_9) e0 ?_
    rintro v17 T17 L17 X17 ⟨rfl, N17q, hh17⟩
    have N17 := Fr.app N0 N17q
    show GG _ _ _ _ _ _ _ T17 (mkF m 12 #[.val (.int p0), .val (.int x2), .unset, .unset] [(.ref w7)])
    refine own_go (fun _ => XS.astoreN X17.here hx rfl (hb hby at_12) rfl rfl (l' := #[.val (.int p0), .val (.int x2), .val (.ref w7), .unset]) rfl) ?_
    show GG _ _ _ _ _ _ _ T17 (mkF m 13 #[.val (.int p0), .val (.int x2), .val (.ref w7), .unset] [])
    refine own_go (fun _ => XS.iloadN X17.here hx rfl (hb hby at_13) rfl) ?_
    show GG _ _ _ _ _ _ _ T17 (mkF m 14 #[.val (.int p0), .val (.int x2), .val (.ref w7), .unset] [(.int x2)])
    refine own_go (fun _ => XS.bipush X17.here hx rfl (hb hby at_14)) ?_
    show GG _ _ _ _ _ _ _ T17 (mkF m 16 #[.val (.int p0), .val (.int x2), .val (.ref w7), .unset] [(.int (8 : Int32)), (.int x2)])
    have hc16 : x2 < (8 : Int32) := by rw [h10]; decide
    refine own_go (fun _ => XS.icmpNo X17.here hx rfl (hb hby at_16) rfl (tlt hc16).2.1) ?_
    show GG _ _ _ _ _ _ _ T17 (mkF m 19 #[.val (.int p0), .val (.int x2), .val (.ref w7), .unset] [])
    refine own_go (fun _ => XS.iconst X17.here hx rfl (hb hby at_19)) ?_
    show GG _ _ _ _ _ _ _ T17 (mkF m 20 #[.val (.int p0), .val (.int x2), .val (.ref w7), .unset] [(.int (1 : Int32))])
    refine own_go (fun _ => XS.goto X17.here hx rfl (pc0 := 20) (pc' := 24) rfl (hb hby at_20) (by decide) (by decide)) ?_
    show GG _ _ _ _ _ _ _ T17 (mkF m 24 #[.val (.int p0), .val (.int x2), .val (.ref w7), .unset] [(.int (1 : Int32))])
    refine own_go (fun _ => XS.istoreN X17.here hx rfl (hb hby at_24) rfl (l' := #[.val (.int p0), .val (.int x2), .val (.ref w7), .val (.int (1 : Int32))]) rfl) ?_
    show GG _ _ _ _ _ _ _ T17 (mkF m 25 #[.val (.int p0), .val (.int x2), .val (.ref w7), .val (.int (1 : Int32))] [])
    refine own_go (fun _ => XS.aloadN X17.here hx rfl (hb hby at_25) rfl rfl) ?_
    show GG _ _ _ _ _ _ _ T17 (mkF m 26 #[.val (.int p0), .val (.int x2), .val (.ref w7), .val (.int (1 : Int32))] [(.ref w7)])
    refine own_callV X17 hx hZ (y := (⟨"com/example/tracemark/tracemark/model/DisplayFilter$Test", "takesValue", "()Z"⟩ : MethodName)) (z := (⟨"com/example/tracemark/tracemark/model/DisplayFilter$Test", "takesValue", "()Z"⟩ : MethodName)) 0 hown (hw _ (List.mem_of_getElem? (i := 8) rfl)) (hw _ (List.mem_of_getElem? (i := 9) rfl)) (notFace_of_selects (args := #[]) (mvT hZ (hw _ (List.mem_of_getElem? (i := 11) rfl)))) (hw _ (List.mem_of_getElem? (i := 11) rfl)) (hw _ (List.mem_of_getElem? (i := 10) rfl)) (hw _ (List.mem_of_getElem? (i := 6) rfl)) (hw _ (List.mem_of_getElem? (i := 12) rfl)) (by decide) (a := w7) (argsL := []) (rest := []) (rm2 l Z a0 hw [] w7 w8 w9 h0 n0 Z0 S_8 S_9) (by decide) (by decide) (by decide) (by decide) E_7 (g := (mkF m 26 #[.val (.int p0), .val (.int x2), .val (.ref w7), .val (.int (1 : Int32))] [(.ref w7)])) rfl (by rw [hml]; rfl) (lenOf pd___Z_171 rfl) rfl (by show 2 * 0 + _ ≤ _; exact Nat.le_of_eq rfl) (hb hby at_26) hh17 ?_
    rintro v18 T18 L18 X18 ⟨rfl, N18q, hh18⟩
    have N18 := Fr.app N17 N18q
    show GG _ _ _ _ _ _ _ T18 (mkF m 29 #[.val (.int p0), .val (.int x2), .val (.ref w7), .val (.int (1 : Int32))] [(.int (if w7 = w8 then (0 : Int32) else if w7 = w9 then 0 else 1))])
    refine own_go (fun _ => XS.iloadN X18.here hx rfl (hb hby at_29) rfl) ?_
    show GG _ _ _ _ _ _ _ T18 (mkF m 30 #[.val (.int p0), .val (.int x2), .val (.ref w7), .val (.int (1 : Int32))] [(.int (1 : Int32)), (.int (if w7 = w8 then (0 : Int32) else if w7 = w9 then 0 else 1))])
    have hc30 : (if w7 = w8 then (0 : Int32) else if w7 = w9 then 0 else 1) = (1 : Int32) := by simp only [if_neg (Fld.ne F_7 F_8 (by decide)), if_neg (Fld.ne F_7 F_9 (by decide))]
    refine own_go (fun _ => XS.icmpNo X18.here hx rfl (hb hby at_30) rfl (teq hc30).2) ?_
    show GG _ _ _ _ _ _ _ T18 (mkF m 33 #[.val (.int p0), .val (.int x2), .val (.ref w7), .val (.int (1 : Int32))] [])
    refine own_go (fun _ => XS.iconst X18.here hx rfl (hb hby at_33)) ?_
    show GG _ _ _ _ _ _ _ T18 (mkF m 34 #[.val (.int p0), .val (.int x2), .val (.ref w7), .val (.int (1 : Int32))] [(.int (1 : Int32))])
    refine own_go (fun _ => XS.goto X18.here hx rfl (pc0 := 34) (pc' := 38) rfl (hb hby at_34) (by decide) (by decide)) ?_
    show GG _ _ _ _ _ _ _ T18 (mkF m 38 #[.val (.int p0), .val (.int x2), .val (.ref w7), .val (.int (1 : Int32))] [(.int (1 : Int32))])
    refine own_ret X18 hx hlk (t := .boolean) (w := (.int (1 : Int32))) Bd.returns rfl (Or.inl ⟨rfl, by simp, _, rfl⟩) (hb hby at_38) (by decide) (by decide) ?_
    show Q0 Z p0 w0 w1 w2 w3 w4 w5 w6 w7 w8 w9 h0 n0 (some (.int (1 : Int32))) T18.heap _
    rw [hh18]
    exact ⟨rfl, N18⟩
  · skip
    show GG _ _ _ _ _ _ _ s₁ (mkF m 8 #[.val (.int p0), .val (.int x2), .unset, .unset] [])
    refine own_go (fun _ => XS.iloadN X0.here hx rfl (hb hby at_8) rfl) ?_
    show GG _ _ _ _ _ _ _ s₁ (mkF m 9 #[.val (.int p0), .val (.int x2), .unset, .unset] [(.int x2)])
    refine own_callS X0 hx hZ (y := (⟨"com/example/tracemark/tracemark/model/TestTakesValuePinLaw", "pick", "(I)Lcom/example/tracemark/tracemark/model/DisplayFilter$Test;"⟩ : MethodName)) 0 hown (hw _ (List.mem_of_getElem? (i := 1) rfl)) (hw _ (List.mem_of_getElem? (i := 2) rfl)) (hw _ (List.mem_of_getElem? (i := 3) rfl)) (hw _ (List.mem_of_getElem? (i := 4) rfl)) (by decide) (argsL := [(.int x2)]) (rest := []) (rm1_8 l Z a0 hw [] x2 w8 h0 n0 Z0 h10 S_8) (by decide) (by decide) (by decide) (by decide) (g := (mkF m 9 #[.val (.int p0), .val (.int x2), .unset, .unset] [(.int x2)])) rfl (by rw [hml]; rfl) (lenOf pd__I_Lcom_example_tracemark_tracemark_mode_835 rfl) rfl (by show 2 * 0 + _ ≤ _; exact Nat.le_of_eq rfl) (hb hby at_9) e0 ?_
    rintro v19 T19 L19 X19 ⟨rfl, N19q, hh19⟩
    have N19 := Fr.app N0 N19q
    show GG _ _ _ _ _ _ _ T19 (mkF m 12 #[.val (.int p0), .val (.int x2), .unset, .unset] [(.ref w8)])
    refine own_go (fun _ => XS.astoreN X19.here hx rfl (hb hby at_12) rfl rfl (l' := #[.val (.int p0), .val (.int x2), .val (.ref w8), .unset]) rfl) ?_
    show GG _ _ _ _ _ _ _ T19 (mkF m 13 #[.val (.int p0), .val (.int x2), .val (.ref w8), .unset] [])
    refine own_go (fun _ => XS.iloadN X19.here hx rfl (hb hby at_13) rfl) ?_
    show GG _ _ _ _ _ _ _ T19 (mkF m 14 #[.val (.int p0), .val (.int x2), .val (.ref w8), .unset] [(.int x2)])
    refine own_go (fun _ => XS.bipush X19.here hx rfl (hb hby at_14)) ?_
    show GG _ _ _ _ _ _ _ T19 (mkF m 16 #[.val (.int p0), .val (.int x2), .val (.ref w8), .unset] [(.int (8 : Int32)), (.int x2)])
    have hc16 : ¬ (x2 < (8 : Int32)) := by rw [h10]; decide
    refine own_go (fun _ => XS.icmpYes X19.here hx rfl (pc0 := 16) (pc' := 23) rfl (hb hby at_16) rfl (flt hc16).2.1 (by decide) (by decide)) ?_
    show GG _ _ _ _ _ _ _ T19 (mkF m 23 #[.val (.int p0), .val (.int x2), .val (.ref w8), .unset] [])
    refine own_go (fun _ => XS.iconst X19.here hx rfl (hb hby at_23)) ?_
    show GG _ _ _ _ _ _ _ T19 (mkF m 24 #[.val (.int p0), .val (.int x2), .val (.ref w8), .unset] [(.int (0 : Int32))])
    refine own_go (fun _ => XS.istoreN X19.here hx rfl (hb hby at_24) rfl (l' := #[.val (.int p0), .val (.int x2), .val (.ref w8), .val (.int (0 : Int32))]) rfl) ?_
    show GG _ _ _ _ _ _ _ T19 (mkF m 25 #[.val (.int p0), .val (.int x2), .val (.ref w8), .val (.int (0 : Int32))] [])
    refine own_go (fun _ => XS.aloadN X19.here hx rfl (hb hby at_25) rfl rfl) ?_
    show GG _ _ _ _ _ _ _ T19 (mkF m 26 #[.val (.int p0), .val (.int x2), .val (.ref w8), .val (.int (0 : Int32))] [(.ref w8)])
    refine own_callV X19 hx hZ (y := (⟨"com/example/tracemark/tracemark/model/DisplayFilter$Test", "takesValue", "()Z"⟩ : MethodName)) (z := (⟨"com/example/tracemark/tracemark/model/DisplayFilter$Test", "takesValue", "()Z"⟩ : MethodName)) 0 hown (hw _ (List.mem_of_getElem? (i := 8) rfl)) (hw _ (List.mem_of_getElem? (i := 9) rfl)) (notFace_of_selects (args := #[]) (mvT hZ (hw _ (List.mem_of_getElem? (i := 11) rfl)))) (hw _ (List.mem_of_getElem? (i := 11) rfl)) (hw _ (List.mem_of_getElem? (i := 10) rfl)) (hw _ (List.mem_of_getElem? (i := 6) rfl)) (hw _ (List.mem_of_getElem? (i := 12) rfl)) (by decide) (a := w8) (argsL := []) (rest := []) (rm2 l Z a0 hw [] w8 w8 w9 h0 n0 Z0 S_8 S_9) (by decide) (by decide) (by decide) (by decide) E_8 (g := (mkF m 26 #[.val (.int p0), .val (.int x2), .val (.ref w8), .val (.int (0 : Int32))] [(.ref w8)])) rfl (by rw [hml]; rfl) (lenOf pd___Z_171 rfl) rfl (by show 2 * 0 + _ ≤ _; exact Nat.le_of_eq rfl) (hb hby at_26) hh19 ?_
    rintro v20 T20 L20 X20 ⟨rfl, N20q, hh20⟩
    have N20 := Fr.app N19 N20q
    show GG _ _ _ _ _ _ _ T20 (mkF m 29 #[.val (.int p0), .val (.int x2), .val (.ref w8), .val (.int (0 : Int32))] [(.int (if w8 = w8 then (0 : Int32) else if w8 = w9 then 0 else 1))])
    refine own_go (fun _ => XS.iloadN X20.here hx rfl (hb hby at_29) rfl) ?_
    show GG _ _ _ _ _ _ _ T20 (mkF m 30 #[.val (.int p0), .val (.int x2), .val (.ref w8), .val (.int (0 : Int32))] [(.int (0 : Int32)), (.int (if w8 = w8 then (0 : Int32) else if w8 = w9 then 0 else 1))])
    have hc30 : (if w8 = w8 then (0 : Int32) else if w8 = w9 then 0 else 1) = (0 : Int32) := by simp only [if_pos trivial, eq_self_iff_true, if_true]
    refine own_go (fun _ => XS.icmpNo X20.here hx rfl (hb hby at_30) rfl (teq hc30).2) ?_
    show GG _ _ _ _ _ _ _ T20 (mkF m 33 #[.val (.int p0), .val (.int x2), .val (.ref w8), .val (.int (0 : Int32))] [])
    refine own_go (fun _ => XS.iconst X20.here hx rfl (hb hby at_33)) ?_
    show GG _ _ _ _ _ _ _ T20 (mkF m 34 #[.val (.int p0), .val (.int x2), .val (.ref w8), .val (.int (0 : Int32))] [(.int (1 : Int32))])
    refine own_go (fun _ => XS.goto X20.here hx rfl (pc0 := 34) (pc' := 38) rfl (hb hby at_34) (by decide) (by decide)) ?_
    show GG _ _ _ _ _ _ _ T20 (mkF m 38 #[.val (.int p0), .val (.int x2), .val (.ref w8), .val (.int (0 : Int32))] [(.int (1 : Int32))])
    refine own_ret X20 hx hlk (t := .boolean) (w := (.int (1 : Int32))) Bd.returns rfl (Or.inl ⟨rfl, by simp, _, rfl⟩) (hb hby at_38) (by decide) (by decide) ?_
    show Q0 Z p0 w0 w1 w2 w3 w4 w5 w6 w7 w8 w9 h0 n0 (some (.int (1 : Int32))) T20.heap _
    rw [hh20]
    exact ⟨rfl, N20⟩
  · skip
    show GG _ _ _ _ _ _ _ s₁ (mkF m 8 #[.val (.int p0), .val (.int x2), .unset, .unset] [])
    refine own_go (fun _ => XS.iloadN X0.here hx rfl (hb hby at_8) rfl) ?_
    show GG _ _ _ _ _ _ _ s₁ (mkF m 9 #[.val (.int p0), .val (.int x2), .unset, .unset] [(.int x2)])
    refine own_callS X0 hx hZ (y := (⟨"com/example/tracemark/tracemark/model/TestTakesValuePinLaw", "pick", "(I)Lcom/example/tracemark/tracemark/model/DisplayFilter$Test;"⟩ : MethodName)) 0 hown (hw _ (List.mem_of_getElem? (i := 1) rfl)) (hw _ (List.mem_of_getElem? (i := 2) rfl)) (hw _ (List.mem_of_getElem? (i := 3) rfl)) (hw _ (List.mem_of_getElem? (i := 4) rfl)) (by decide) (argsL := [(.int x2)]) (rest := []) (rm1_9 l Z a0 hw [] x2 w9 h0 n0 Z0 h10 S_9) (by decide) (by decide) (by decide) (by decide) (g := (mkF m 9 #[.val (.int p0), .val (.int x2), .unset, .unset] [(.int x2)])) rfl (by rw [hml]; rfl) (lenOf pd__I_Lcom_example_tracemark_tracemark_mode_835 rfl) rfl (by show 2 * 0 + _ ≤ _; exact Nat.le_of_eq rfl) (hb hby at_9) e0 ?_
    rintro v21 T21 L21 X21 ⟨rfl, N21q, hh21⟩
    have N21 := Fr.app N0 N21q
    show GG _ _ _ _ _ _ _ T21 (mkF m 12 #[.val (.int p0), .val (.int x2), .unset, .unset] [(.ref w9)])
    refine own_go (fun _ => XS.astoreN X21.here hx rfl (hb hby at_12) rfl rfl (l' := #[.val (.int p0), .val (.int x2), .val (.ref w9), .unset]) rfl) ?_
    show GG _ _ _ _ _ _ _ T21 (mkF m 13 #[.val (.int p0), .val (.int x2), .val (.ref w9), .unset] [])
    refine own_go (fun _ => XS.iloadN X21.here hx rfl (hb hby at_13) rfl) ?_
    show GG _ _ _ _ _ _ _ T21 (mkF m 14 #[.val (.int p0), .val (.int x2), .val (.ref w9), .unset] [(.int x2)])
    refine own_go (fun _ => XS.bipush X21.here hx rfl (hb hby at_14)) ?_
    show GG _ _ _ _ _ _ _ T21 (mkF m 16 #[.val (.int p0), .val (.int x2), .val (.ref w9), .unset] [(.int (8 : Int32)), (.int x2)])
    have hc16 : ¬ (x2 < (8 : Int32)) := by rw [h10]; decide
    refine own_go (fun _ => XS.icmpYes X21.here hx rfl (pc0 := 16) (pc' := 23) rfl (hb hby at_16) rfl (flt hc16).2.1 (by decide) (by decide)) ?_
    show GG _ _ _ _ _ _ _ T21 (mkF m 23 #[.val (.int p0), .val (.int x2), .val (.ref w9), .unset] [])
    refine own_go (fun _ => XS.iconst X21.here hx rfl (hb hby at_23)) ?_
    show GG _ _ _ _ _ _ _ T21 (mkF m 24 #[.val (.int p0), .val (.int x2), .val (.ref w9), .unset] [(.int (0 : Int32))])
    refine own_go (fun _ => XS.istoreN X21.here hx rfl (hb hby at_24) rfl (l' := #[.val (.int p0), .val (.int x2), .val (.ref w9), .val (.int (0 : Int32))]) rfl) ?_
    show GG _ _ _ _ _ _ _ T21 (mkF m 25 #[.val (.int p0), .val (.int x2), .val (.ref w9), .val (.int (0 : Int32))] [])
    refine own_go (fun _ => XS.aloadN X21.here hx rfl (hb hby at_25) rfl rfl) ?_
    show GG _ _ _ _ _ _ _ T21 (mkF m 26 #[.val (.int p0), .val (.int x2), .val (.ref w9), .val (.int (0 : Int32))] [(.ref w9)])
    refine own_callV X21 hx hZ (y := (⟨"com/example/tracemark/tracemark/model/DisplayFilter$Test", "takesValue", "()Z"⟩ : MethodName)) (z := (⟨"com/example/tracemark/tracemark/model/DisplayFilter$Test", "takesValue", "()Z"⟩ : MethodName)) 0 hown (hw _ (List.mem_of_getElem? (i := 8) rfl)) (hw _ (List.mem_of_getElem? (i := 9) rfl)) (notFace_of_selects (args := #[]) (mvT hZ (hw _ (List.mem_of_getElem? (i := 11) rfl)))) (hw _ (List.mem_of_getElem? (i := 11) rfl)) (hw _ (List.mem_of_getElem? (i := 10) rfl)) (hw _ (List.mem_of_getElem? (i := 6) rfl)) (hw _ (List.mem_of_getElem? (i := 12) rfl)) (by decide) (a := w9) (argsL := []) (rest := []) (rm2 l Z a0 hw [] w9 w8 w9 h0 n0 Z0 S_8 S_9) (by decide) (by decide) (by decide) (by decide) E_9 (g := (mkF m 26 #[.val (.int p0), .val (.int x2), .val (.ref w9), .val (.int (0 : Int32))] [(.ref w9)])) rfl (by rw [hml]; rfl) (lenOf pd___Z_171 rfl) rfl (by show 2 * 0 + _ ≤ _; exact Nat.le_of_eq rfl) (hb hby at_26) hh21 ?_
    rintro v22 T22 L22 X22 ⟨rfl, N22q, hh22⟩
    have N22 := Fr.app N21 N22q
    show GG _ _ _ _ _ _ _ T22 (mkF m 29 #[.val (.int p0), .val (.int x2), .val (.ref w9), .val (.int (0 : Int32))] [(.int (if w9 = w8 then (0 : Int32) else if w9 = w9 then 0 else 1))])
    refine own_go (fun _ => XS.iloadN X22.here hx rfl (hb hby at_29) rfl) ?_
    show GG _ _ _ _ _ _ _ T22 (mkF m 30 #[.val (.int p0), .val (.int x2), .val (.ref w9), .val (.int (0 : Int32))] [(.int (0 : Int32)), (.int (if w9 = w8 then (0 : Int32) else if w9 = w9 then 0 else 1))])
    have hc30 : (if w9 = w8 then (0 : Int32) else if w9 = w9 then 0 else 1) = (0 : Int32) := by simp only [if_neg (Fld.ne F_9 F_8 (by decide)), if_pos trivial, eq_self_iff_true, if_true]
    refine own_go (fun _ => XS.icmpNo X22.here hx rfl (hb hby at_30) rfl (teq hc30).2) ?_
    show GG _ _ _ _ _ _ _ T22 (mkF m 33 #[.val (.int p0), .val (.int x2), .val (.ref w9), .val (.int (0 : Int32))] [])
    refine own_go (fun _ => XS.iconst X22.here hx rfl (hb hby at_33)) ?_
    show GG _ _ _ _ _ _ _ T22 (mkF m 34 #[.val (.int p0), .val (.int x2), .val (.ref w9), .val (.int (0 : Int32))] [(.int (1 : Int32))])
    refine own_go (fun _ => XS.goto X22.here hx rfl (pc0 := 34) (pc' := 38) rfl (hb hby at_34) (by decide) (by decide)) ?_
    show GG _ _ _ _ _ _ _ T22 (mkF m 38 #[.val (.int p0), .val (.int x2), .val (.ref w9), .val (.int (0 : Int32))] [(.int (1 : Int32))])
    refine own_ret X22 hx hlk (t := .boolean) (w := (.int (1 : Int32))) Bd.returns rfl (Or.inl ⟨rfl, by simp, _, rfl⟩) (hb hby at_38) (by decide) (by decide) ?_
    show Q0 Z p0 w0 w1 w2 w3 w4 w5 w6 w7 w8 w9 h0 n0 (some (.int (1 : Int32))) T22.heap _
    rw [hh22]
    exact ⟨rfl, N22⟩
set_option maxRecDepth 65536 in
set_option maxHeartbeats 40000000 in
theorem comes_1 {Post : Tables → Env → Array Value → State → Outcome → State → Prop} (hpost : ∀ tb e args s v u, (limb_1_1.after args s (.returned v) u = true ∧ limb_1_2.after args s (.returned v) u = true ∧ True) → FrameEnd s (.returned v) u (Jvm.fieldLocs frame_1_writes args s ++ Jvm.arrayLocs frame_1_arrays args s ++ Jvm.staticLocs frame_1_statics s) 0 0 → Post tb e args s (.returned v) u) :
    ArmFor flags0 classFile x code maxLocals ret World_1 tables_1 room_1 Calls_1 rest_1 Pre_1 Post := by
  intro l hfl _ _ p e ha hc hk s m args below hf hA hF happ hP
  obtain ⟨hcalls, hrest, hpre⟩ := hP
  obtain ⟨-, -, -, hnamed, -, -, -, hat⟩ := (Spec.applies_iff hf).mp happ
  obtain ⟨hg, hn⟩ := and_e (Cond.before_iff.mp (show (Jvm.Cond.and given_1 narrow_1).before args s = true from hpre))
  obtain ⟨g1, g2⟩ := and_e hg
  obtain ⟨w0, rfl⟩ : ∃ w0 : Value, args = #[w0] := by
    have hs : args.size = 1 := by simpa [Cond.value, given_1] using g1
    obtain ⟨L⟩ := args
    match L, hs with
    | [w0], _ => exact ⟨w0, rfl⟩
  have hw := fun d (hd : d ∈ tables_1) => atoms_spec (ws := Jvm.Cond.code x code maxLocals ret :: tables_1) hat d (List.mem_cons_of_mem _ hd)
  have hfit : Fit s := fun {y c} hc i hi => by
    obtain ⟨ha, rfl⟩ := Array.getElem?_eq_some_iff.mp hc
    have q := List.all_eq_true.mp ((Array.all_eq_true_iff_forall_mem.mp hF) _ (Array.getElem_mem ha)) i (List.mem_range.mpr hi)
    simpa [Array.getElem?_eq_getElem hi] using q
  obtain ⟨i0, ei0⟩ := is_v g2
  obtain rfl : w0 = (.int i0) := Option.some.inj ei0
  obtain ⟨n1, n2⟩ := and_e hn
  obtain ⟨n3, n4⟩ := and_e n2
  obtain ⟨n5, n6⟩ := and_e n4
  obtain ⟨n7, n8⟩ := and_e n6
  obtain ⟨n9, n10⟩ := and_e n8
  obtain ⟨n11, n12⟩ := and_e n10
  obtain ⟨n13, n14⟩ := and_e n12
  obtain ⟨n15, n16⟩ := and_e n14
  obtain ⟨n17, n18⟩ := and_e n16
  obtain ⟨n19, n20⟩ := and_e n18
  obtain ⟨n21, n22⟩ := and_e n20
  obtain ⟨n23, n24⟩ := and_e n22
  obtain ⟨n25, n26⟩ := and_e n24
  obtain ⟨n27, n28⟩ := and_e n26
  obtain ⟨n29, n30⟩ := and_e n28
  obtain ⟨n31, n32⟩ := and_e n30
  obtain ⟨n33, n34⟩ := and_e n32
  obtain ⟨n35, n36⟩ := and_e n34
  obtain ⟨n37, n38⟩ := and_e n36
  obtain ⟨w0x, ev0⟩ := exa_v n1
  have S_0 := Sta.start ev0 (Or.inr ⟨(hw _ (List.mem_of_getElem? (i := 6) rfl)), (hw _ (List.mem_of_getElem? (i := 7) rfl))⟩)
  have E_0 := Exa.start ev0 n1
  have F_0 := own_efld ev0 n5
  obtain ⟨w1x, ev1⟩ := exa_v n17
  have S_1 := Sta.start ev1 (Or.inr ⟨(hw _ (List.mem_of_getElem? (i := 6) rfl)), (hw _ (List.mem_of_getElem? (i := 20) rfl))⟩)
  have E_1 := Exa.start ev1 n17
  have F_1 := own_efld ev1 n19
  obtain ⟨w2x, ev2⟩ := exa_v n29
  have S_2 := Sta.start ev2 (Or.inr ⟨(hw _ (List.mem_of_getElem? (i := 6) rfl)), (hw _ (List.mem_of_getElem? (i := 26) rfl))⟩)
  have E_2 := Exa.start ev2 n29
  have F_2 := own_efld ev2 n31
  obtain ⟨w3x, ev3⟩ := exa_v n13
  have S_3 := Sta.start ev3 (Or.inr ⟨(hw _ (List.mem_of_getElem? (i := 6) rfl)), (hw _ (List.mem_of_getElem? (i := 18) rfl))⟩)
  have E_3 := Exa.start ev3 n13
  have F_3 := own_efld ev3 n15
  obtain ⟨w4x, ev4⟩ := exa_v n21
  have S_4 := Sta.start ev4 (Or.inr ⟨(hw _ (List.mem_of_getElem? (i := 6) rfl)), (hw _ (List.mem_of_getElem? (i := 22) rfl))⟩)
  have E_4 := Exa.start ev4 n21
  have F_4 := own_efld ev4 n23
  obtain ⟨w5x, ev5⟩ := exa_v n33
  have S_5 := Sta.start ev5 (Or.inr ⟨(hw _ (List.mem_of_getElem? (i := 6) rfl)), (hw _ (List.mem_of_getElem? (i := 30) rfl))⟩)
  have E_5 := Exa.start ev5 n33
  have F_5 := own_efld ev5 n35
  obtain ⟨w6x, ev6⟩ := exa_v n37
  have S_6 := Sta.start ev6 (Or.inr ⟨(hw _ (List.mem_of_getElem? (i := 6) rfl)), (hw _ (List.mem_of_getElem? (i := 32) rfl))⟩)
  have E_6 := Exa.start ev6 n37
  have F_6 := own_efld ev6 n38
  obtain ⟨w7x, ev7⟩ := exa_v n25
  have S_7 := Sta.start ev7 (Or.inr ⟨(hw _ (List.mem_of_getElem? (i := 6) rfl)), (hw _ (List.mem_of_getElem? (i := 24) rfl))⟩)
  have E_7 := Exa.start ev7 n25
  have F_7 := own_efld ev7 n27
  obtain ⟨w8x, ev8⟩ := exa_v n3
  have S_8 := Sta.start ev8 (Or.inr ⟨(hw _ (List.mem_of_getElem? (i := 6) rfl)), (hw _ (List.mem_of_getElem? (i := 14) rfl))⟩)
  have E_8 := Exa.start ev8 n3
  have F_8 := own_efld ev8 n7
  obtain ⟨w9x, ev9⟩ := exa_v n9
  have S_9 := Sta.start ev9 (Or.inr ⟨(hw _ (List.mem_of_getElem? (i := 6) rfl)), (hw _ (List.mem_of_getElem? (i := 16) rfl))⟩)
  have E_9 := Exa.start ev9 n9
  have F_9 := own_efld ev9 n11
  obtain ⟨n, o, h1, h2, h3, _, L, rfl, ⟨rfl, N⟩, hq⟩ := rm0 l s _ hw tables_1 i0 w0x w1x w2x w3x w4x w5x w6x w7x w8x w9x s.heap s.heap.size (Nat.le_refl _) S_0 E_0 F_0 S_1 E_1 F_1 S_2 E_2 F_2 S_3 E_3 F_3 S_4 E_4 F_4 S_5 E_5 F_5 S_6 E_6 F_6 S_7 E_7 F_7 S_8 E_8 F_8 S_9 E_9 F_9 p e ha hc hk s m _ below hf ((Spec.applies_iff_loose hf).mp happ).1 ⟨rfl, State.Warmed39.refl s, rfl⟩ trivial
  refine ⟨n, _, h1, h2, h3, hpost _ _ _ _ _ _ ⟨Cond.after_iff.mpr rfl, Cond.after_iff.mpr (eq_i res_at (Term.int_eval (1)) rfl), trivial⟩ ⟨hq.1, hq.2.1, (hq.2.2.sift fun y hy => Or.inr (N y hy)).mono (by decide) (by decide)⟩⟩
theorem main_1_1 : Claimed_1_1 := comes_1 fun _ _ _ _ _ _ h hF => ⟨h.1, hF⟩
theorem main_1_2 : Claimed_1_2 := comes_1 fun _ _ _ _ _ _ h hF => ⟨h.2.1, hF⟩
end Jvm.Pilot.@@N@@
namespace Jvm.Pilot.@@N@@
open Jvm Jvm.ClassFile Sem Op Lib Jvm.Free Jvm.Stand Jvm.Pilot.@@N@@.Jvm.D
/-! MADE BY PROGRAM (witnessworld.py) out of the Statement's table words and the real class files: 12 classes; the members and pool entries that the words name. The judged class is class 1, her method 2. -/
namespace start1
open Jvm.ClassFile
def u (s : String) : CpInfo := .utf8 (stringToUtf16 s)
/-- a pool by its gaps: so many unusable entries, then the entry; so many at the end -/
def gap : Nat → List CpInfo → List CpInfo
  | 0, r => r
  | n + 1, r => .unusable :: gap n r
def poolList (es : List (Nat × CpInfo)) (last : Nat) : List CpInfo := es.foldr (fun e r => gap e.1 (e.2 :: r)) (gap last [])
def pool (es : List (Nat × CpInfo)) (last : Nat) : Array CpInfo := ⟨poolList es last⟩
def fileOf (pool : Array CpInfo) (this : Nat) (attrs : Array Attribute := #[]) (ms : Array MethodInfo := #[]) (fl : Nat := 33) (sup : Nat := 0) (ifs : Array Nat := #[]) (fds : Array FieldInfo := #[]) : ClassFile where
  minorVersion := 0
  majorVersion := 65
  constantPool := pool
  accessFlags := fl
  thisClass := this
  superClass := sup
  interfaces := ifs
  fields := fds
  methods := ms
  attributes := attrs
def plain (name : String) (sup : Option ClassId) : Class where
  name := name
  kind := .ordinary
  loader := none
  accessFlags := 33
  super := sup
  interfaces := #[]
  cf := none
  fields := #[]
  methods := #[]
  instanceTypes := #[]
  staticTypes := #[]
  resolved := #[]
  callSites := []
  init := .initialized
  statics := none
  mirror := none

def pool0 : Array CpInfo := pool [(5, u "<init>"), (0, u "()V"), (1, .class_ 10), (1, u "java/lang/Object")] 113

def k0m0 : Method := { name := "<init>", desc := "()V", sig := { parameters := [], returnType := none }, accessFlags := 1, code := none }
/-- java/lang/Object -/
def k0 : Class := { plain "java/lang/Object" none with
  accessFlags := 33
  interfaces := #[]
  cf := some (fileOf pool0 8 #[] #[{ accessFlags := 1, nameIndex := 5, descriptorIndex := 6, attributes := #[] }] 33 0 #[] #[])
  fields := #[]
  methods := #[k0m0]
  instanceTypes := #[]
  staticTypes := #[]
  resolved := Array.replicate 124 none
  statics := none }

def pool1 : Array CpInfo := pool [(2, .class_ 4), (1, u "java/lang/Object"), (0, u "<init>"), (0, u "()V"), (0, .fieldref 8 9), (0, .class_ 10), (0, .nameAndType 11 12), (0, u "com/example/tracemark/tracemark/model/DisplayFilter$Test"), (0, u "EQ"), (0, u "Lcom/example/tracemark/tracemark/model/DisplayFilter$Test;"), (0, .fieldref 8 14), (0, .nameAndType 15 12), (0, u "NE"), (0, .fieldref 8 17), (0, .nameAndType 18 12), (0, u "LT"), (0, .fieldref 8 20), (0, .nameAndType 21 12), (0, u "LE"), (0, .fieldref 8 23), (0, .nameAndType 24 12), (0, u "GT"), (0, .fieldref 8 26), (0, .nameAndType 27 12), (0, u "GE"), (0, .fieldref 8 29), (0, .nameAndType 30 12), (0, u "CONTAINS"), (0, .fieldref 8 32), (0, .nameAndType 33 12), (0, u "NOTCONTAINS"), (0, .fieldref 8 35), (0, .nameAndType 36 12), (0, u "PRESENT"), (0, .fieldref 8 38), (0, .nameAndType 39 12), (0, u "NOTPRESENT"), (0, .integer 2147483647), (0, .methodref 42 43), (0, .class_ 44), (0, .nameAndType 45 46), (0, u "com/example/tracemark/tracemark/model/TestTakesValuePinLaw"), (0, u "pick"), (0, u "(I)Lcom/example/tracemark/tracemark/model/DisplayFilter$Test;"), (0, .methodref 8 48), (0, .nameAndType 49 50), (0, u "takesValue"), (0, u "()Z"), (3, u "law"), (0, u "(I)Z")] 6

def k1m0 : Method := { name := "<init>", desc := "()V", sig := { parameters := [], returnType := none }, accessFlags := 2, code := none }
def k1c1 : Code := { maxStack := 2, maxLocals := 1, code := method_2_code, exceptionTable := #[], attributes := #[] }
def k1m1 : Method := { name := "pick", desc := "(I)Lcom/example/tracemark/tracemark/model/DisplayFilter$Test;", sig := { parameters := [.int], returnType := some (.object "com/example/tracemark/tracemark/model/DisplayFilter$Test") }, accessFlags := 10, code := some k1c1 }
def k1c2 : Code := { maxStack := 2, maxLocals := 4, code := code, exceptionTable := #[], attributes := #[] }
def k1m2 : Method := { name := "law", desc := "(I)Z", sig := { parameters := [.int], returnType := some .boolean }, accessFlags := 9, code := some k1c2 }
/-- com/example/tracemark/tracemark/model/TestTakesValuePinLaw -/
def k1 : Class := { plain "com/example/tracemark/tracemark/model/TestTakesValuePinLaw" (some 0) with
  accessFlags := 49
  interfaces := #[]
  cf := some (fileOf pool1 42 #[] #[{ accessFlags := 2, nameIndex := 5, descriptorIndex := 6, attributes := #[] }, { accessFlags := 10, nameIndex := 45, descriptorIndex := 46, attributes := #[] }, { accessFlags := 9, nameIndex := 54, descriptorIndex := 55, attributes := #[] }] 49 2 #[] #[])
  fields := #[]
  methods := #[k1m0, k1m1, k1m2]
  instanceTypes := #[]
  staticTypes := #[]
  resolved := Array.replicate 62 none
  statics := none }

def pool2 : Array CpInfo := pool [(1, .class_ 2), (0, u "java/lang/constant/Constable"), (0, .class_ 4), (0, u "java/lang/Object")] 6

/-- java/lang/constant/Constable -/
def k2 : Class := { plain "java/lang/constant/Constable" (some 0) with
  accessFlags := 1537
  interfaces := #[]
  cf := some (fileOf pool2 1 #[] #[] 1537 3 #[] #[])
  fields := #[]
  methods := #[]
  instanceTypes := #[]
  staticTypes := #[]
  resolved := Array.replicate 11 none
  statics := none }

def pool3 : Array CpInfo := pool [(1, .class_ 2), (0, u "java/lang/Comparable"), (0, .class_ 4), (0, u "java/lang/Object")] 7

/-- java/lang/Comparable -/
def k3 : Class := { plain "java/lang/Comparable" (some 0) with
  accessFlags := 1537
  interfaces := #[]
  cf := some (fileOf pool3 1 #[] #[] 1537 3 #[] #[])
  fields := #[]
  methods := #[]
  instanceTypes := #[]
  staticTypes := #[]
  resolved := Array.replicate 12 none
  statics := none }

def pool4 : Array CpInfo := pool [(1, .class_ 2), (0, u "java/io/Serializable"), (0, .class_ 4), (0, u "java/lang/Object")] 2

/-- java/io/Serializable -/
def k4 : Class := { plain "java/io/Serializable" (some 0) with
  accessFlags := 1537
  interfaces := #[]
  cf := some (fileOf pool4 1 #[] #[] 1537 3 #[] #[])
  fields := #[]
  methods := #[]
  instanceTypes := #[]
  staticTypes := #[]
  resolved := Array.replicate 7 none
  statics := none }

def pool5 : Array CpInfo := pool [(2, .class_ 4), (1, u "java/lang/Enum"), (0, u "name"), (0, u "Ljava/lang/String;"), (2, u "ordinal"), (0, u "I"), (1, .class_ 14), (1, u "java/lang/Object"), (4, u "hash"), (86, .class_ 108), (1, u "java/lang/Enum$EnumDesc"), (2, .class_ 112), (0, u "java/lang/constant/Constable"), (0, .class_ 114), (0, u "java/lang/Comparable"), (0, .class_ 116), (0, u "java/io/Serializable")] 87

/-- java/lang/Enum -/
def k5 : Class := { plain "java/lang/Enum" (some 0) with
  accessFlags := 1057
  interfaces := #[2, 3, 4]
  cf := some (fileOf pool5 2 #[.nestMembers #[106]] #[] 1057 12 #[111, 113, 115] #[{ accessFlags := 18, nameIndex := 5, descriptorIndex := 6, attributes := #[] }, { accessFlags := 18, nameIndex := 9, descriptorIndex := 10, attributes := #[] }, { accessFlags := 2, nameIndex := 19, descriptorIndex := 10, attributes := #[] }])
  fields := #[{ name := "name", type := (.object "java/lang/String"), accessFlags := 18, slot := 0, constantValue := 0 }, { name := "ordinal", type := .int, accessFlags := 18, slot := 1, constantValue := 0 }, { name := "hash", type := .int, accessFlags := 2, slot := 2, constantValue := 0 }]
  methods := #[]
  instanceTypes := #[(.object "java/lang/String"), .int, .int]
  staticTypes := #[]
  resolved := Array.replicate 204 none
  statics := none }

def pool6 : Array CpInfo := pool [(1, .class_ 2), (0, u "com/example/tracemark/tracemark/model/DisplayFilter$Test"), (2, u "EQ"), (0, u "Lcom/example/tracemark/tracemark/model/DisplayFilter$Test;"), (2, u "NE"), (2, u "LT"), (2, u "LE"), (2, u "GT"), (2, u "GE"), (2, u "CONTAINS"), (2, u "NOTCONTAINS"), (0, .fieldref 1 29), (0, .nameAndType 30 6), (0, u "PRESENT"), (0, .fieldref 1 32), (0, .nameAndType 33 6), (0, u "NOTPRESENT"), (2, u "$VALUES"), (0, u "[Lcom/example/tracemark/tracemark/model/DisplayFilter$Test;"), (6, .class_ 46), (1, u "java/lang/Enum"), (8, u "word"), (0, u "Ljava/lang/String;"), (43, u "()Z"), (1, u "takesValue"), (6, .class_ 110), (0, u "com/example/tracemark/tracemark/model/DisplayFilter")] 2

def k6c0 : Code := { maxStack := 2, maxLocals := 1, code := prog_64_method_6_code, exceptionTable := #[], attributes := #[] }
def k6m0 : Method := { name := "takesValue", desc := "()Z", sig := { parameters := [], returnType := some .boolean }, accessFlags := 1, code := some k6c0 }
/-- com/example/tracemark/tracemark/model/DisplayFilter$Test -/
def k6 : Class := { plain "com/example/tracemark/tracemark/model/DisplayFilter$Test" (some 5) with
  accessFlags := 16433
  interfaces := #[]
  cf := some (fileOf pool6 1 #[.nestHost 109] #[{ accessFlags := 1, nameIndex := 102, descriptorIndex := 100, attributes := #[] }] 16433 44 #[] #[{ accessFlags := 16409, nameIndex := 5, descriptorIndex := 6, attributes := #[] }, { accessFlags := 16409, nameIndex := 9, descriptorIndex := 6, attributes := #[] }, { accessFlags := 16409, nameIndex := 12, descriptorIndex := 6, attributes := #[] }, { accessFlags := 16409, nameIndex := 15, descriptorIndex := 6, attributes := #[] }, { accessFlags := 16409, nameIndex := 18, descriptorIndex := 6, attributes := #[] }, { accessFlags := 16409, nameIndex := 21, descriptorIndex := 6, attributes := #[] }, { accessFlags := 16409, nameIndex := 24, descriptorIndex := 6, attributes := #[] }, { accessFlags := 16409, nameIndex := 27, descriptorIndex := 6, attributes := #[] }, { accessFlags := 16409, nameIndex := 30, descriptorIndex := 6, attributes := #[] }, { accessFlags := 16409, nameIndex := 33, descriptorIndex := 6, attributes := #[] }, { accessFlags := 18, nameIndex := 55, descriptorIndex := 56, attributes := #[] }, { accessFlags := 4122, nameIndex := 36, descriptorIndex := 37, attributes := #[] }])
  fields := #[{ name := "EQ", type := (.object "com/example/tracemark/tracemark/model/DisplayFilter$Test"), accessFlags := 16409, slot := 0, constantValue := 0 }, { name := "NE", type := (.object "com/example/tracemark/tracemark/model/DisplayFilter$Test"), accessFlags := 16409, slot := 1, constantValue := 0 }, { name := "LT", type := (.object "com/example/tracemark/tracemark/model/DisplayFilter$Test"), accessFlags := 16409, slot := 2, constantValue := 0 }, { name := "LE", type := (.object "com/example/tracemark/tracemark/model/DisplayFilter$Test"), accessFlags := 16409, slot := 3, constantValue := 0 }, { name := "GT", type := (.object "com/example/tracemark/tracemark/model/DisplayFilter$Test"), accessFlags := 16409, slot := 4, constantValue := 0 }, { name := "GE", type := (.object "com/example/tracemark/tracemark/model/DisplayFilter$Test"), accessFlags := 16409, slot := 5, constantValue := 0 }, { name := "CONTAINS", type := (.object "com/example/tracemark/tracemark/model/DisplayFilter$Test"), accessFlags := 16409, slot := 6, constantValue := 0 }, { name := "NOTCONTAINS", type := (.object "com/example/tracemark/tracemark/model/DisplayFilter$Test"), accessFlags := 16409, slot := 7, constantValue := 0 }, { name := "PRESENT", type := (.object "com/example/tracemark/tracemark/model/DisplayFilter$Test"), accessFlags := 16409, slot := 8, constantValue := 0 }, { name := "NOTPRESENT", type := (.object "com/example/tracemark/tracemark/model/DisplayFilter$Test"), accessFlags := 16409, slot := 9, constantValue := 0 }, { name := "word", type := (.object "java/lang/String"), accessFlags := 18, slot := 3, constantValue := 0 }, { name := "$VALUES", type := (.array (.object "com/example/tracemark/tracemark/model/DisplayFilter$Test")), accessFlags := 4122, slot := 10, constantValue := 0 }]
  methods := #[k6m0]
  instanceTypes := #[(.object "java/lang/String"), .int, .int, (.object "java/lang/String")]
  staticTypes := #[(.object "com/example/tracemark/tracemark/model/DisplayFilter$Test"), (.object "com/example/tracemark/tracemark/model/DisplayFilter$Test"), (.object "com/example/tracemark/tracemark/model/DisplayFilter$Test"), (.object "com/example/tracemark/tracemark/model/DisplayFilter$Test"), (.object "com/example/tracemark/tracemark/model/DisplayFilter$Test"), (.object "com/example/tracemark/tracemark/model/DisplayFilter$Test"), (.object "com/example/tracemark/tracemark/model/DisplayFilter$Test"), (.object "com/example/tracemark/tracemark/model/DisplayFilter$Test"), (.object "com/example/tracemark/tracemark/model/DisplayFilter$Test"), (.object "com/example/tracemark/tracemark/model/DisplayFilter$Test"), (.array (.object "com/example/tracemark/tracemark/model/DisplayFilter$Test"))]
  resolved := Array.replicate 113 none
  statics := some 0 }

def pool7 : Array CpInfo := pool [(1, u "java/lang/Cloneable"), (0, .class_ 1), (0, u "java/lang/Object"), (0, .class_ 3)] 3

/-- java/lang/Cloneable -/
def k7 : Class := { plain "java/lang/Cloneable" (some 0) with
  accessFlags := 1537
  interfaces := #[]
  cf := some (fileOf pool7 2 #[] #[] 1537 4 #[] #[])
  fields := #[]
  methods := #[]
  instanceTypes := #[]
  staticTypes := #[]
  resolved := Array.replicate 8 none
  statics := none }

/-- the primitive byte -/
def k8 : Class := { plain "byte" none with kind := .primitive 'B', accessFlags := 0x411 }
/-- [B -/
def k9 : Class := { plain "[B" (some 0) with kind := .array 8 .byte, interfaces := #[7, 4], accessFlags := 1041 }

/-- the primitive int -/
def k10 : Class := { plain "int" none with kind := .primitive 'I', accessFlags := 0x411 }
/-- [I -/
def k11 : Class := { plain "[I" (some 0) with kind := .array 10 .int, interfaces := #[7, 4], accessFlags := 1041 }

def heap : Heap := #[{ cls := 6, slots := #[.ref 1, .ref 2, .ref 3, .ref 4, .ref 5, .ref 6, .ref 7, .ref 8, .ref 9, .ref 10, .null], vm := .statics 6 },
  { cls := 6, slots := #[.null, .int 0, .int 0, .null], vm := .none },
  { cls := 6, slots := #[.null, .int 1, .int 0, .null], vm := .none },
  { cls := 6, slots := #[.null, .int 2, .int 0, .null], vm := .none },
  { cls := 6, slots := #[.null, .int 3, .int 0, .null], vm := .none },
  { cls := 6, slots := #[.null, .int 4, .int 0, .null], vm := .none },
  { cls := 6, slots := #[.null, .int 5, .int 0, .null], vm := .none },
  { cls := 6, slots := #[.null, .int 6, .int 0, .null], vm := .none },
  { cls := 6, slots := #[.null, .int 7, .int 0, .null], vm := .none },
  { cls := 6, slots := #[.null, .int 8, .int 0, .null], vm := .none },
  { cls := 6, slots := #[.null, .int 9, .int 0, .null], vm := .none }]
def classes : Array Class := #[k0, k1, k2, k3, k4, k5, k6, k7, k8, k9, k10, k11]
def interned : List (Array UInt16 × Addr) := []
def slotsUsed : Nat := 51
def theMethod : MethodId := ⟨1, 2⟩
def args0 : Array Value := #[.int 5]
def aboutOver (below : List Frame) : State where
  vm := { classes := classes, interned := interned.toArray }
  heap := heap
  slotsUsed := slotsUsed
  threads := #[{ frames := .invoking theMethod args0 :: below }]
def below0 : List Frame := [.native { method := ⟨0, 0⟩, args := #[] }]
def about1 : State := aboutOver below0
def p0 : Program := .bare "" "" ""
def e0 : Env := launch0.env 0 0 0
theorem w_frames : about1.frames = Frame.invoking theMethod args0 :: below0 := rfl
set_option maxRecDepth 65536 in
theorem w_args : argsFit about1.vm theMethod args0 = true := by decide +kernel
set_option maxRecDepth 65536 in
theorem w_heap : heapFits about1 = true := by decide +kernel
set_option maxRecDepth 65536 in
theorem w_runnable : about1.curStatus? = some .runnable := by decide +kernel
set_option maxRecDepth 65536 in
theorem w_alone : about1.alone = true := by decide +kernel
set_option maxRecDepth 65536 in
theorem w_named : about1.methodNamed? x = some theMethod := by decide +kernel
set_option maxRecDepth 65536 in
theorem w_hears : about1.hears theMethod below0 = true := by decide +kernel
set_option maxRecDepth 65536 in
theorem w_ripe : about1.ripe theMethod args0 below0 = true := by decide +kernel
theorem w_running : about1.status = .running := rfl
set_option maxRecDepth 65536 in
theorem w_room : about1.hasRoom e0.platform room_1 = true :=
  launch0.hasRoom_least _ room_1 (by decide +kernel) (by decide +kernel) (by decide +kernel) (by decide +kernel) (by decide +kernel) (by decide +kernel)
theorem allAtoms_all (ts : List Jvm.Cond) (a : Array Jvm.Value) (st : Jvm.State) : (allAtoms ts).before a st = ts.all (fun c => c.before a st) := by
  induction ts with
  | nil => rfl
  | cons c t ih =>
    show (Jvm.Cond.and c (allAtoms t)).before a st = _
    rw [Jvm.Cond.before_and, ih, List.all_cons]
def words1 : List Jvm.Cond := Jvm.Cond.code x code maxLocals ret :: tables_1
/-- a 'code' word, met by the world's own term for the bytes: nothing is compared byte by byte -/
theorem code_word {y : MethodName} {bytes : ByteArray} {mx : Nat} {rt : Option FieldType} {a : Array Value} {s : State} {m : MethodId} {meth : Method} {c : Code} (h1 : s.methodNamed? y = some m) (h2 : s.vm.method? m = some meth) (h3 : meth.code = some c) (h4 : c.code = bytes)
    (h5 : (c.maxLocals == mx && c.exceptionTable.isEmpty && decide (c.maxStack ≤ mostOperands) && decide (meth.sig.returnType = rt) && !meth.locks && decide (parseMethodDescriptor y.desc = some meth.sig)) = true) : (Jvm.Cond.code y bytes mx rt).before a s = true := by
  simp only [Bool.and_eq_true, beq_iff_eq, Bool.not_eq_true', decide_eq_true_eq] at h5
  obtain ⟨⟨⟨⟨⟨g1, g2⟩, g3⟩, g4⟩, g5⟩, g6⟩ := h5
  simp [Cond.before, Cond.holds, Cond.value, h1, h2, h3, h4, g1, g2, g3, g4, g5, g6]
def isCode : Jvm.Cond → Bool
  | .code _ _ _ _ => true
  | _ => false
theorem all_split {L : List Jvm.Cond} {P : Jvm.Cond → Bool} (h1 : L.all (fun c => isCode c || P c) = true) (h2 : ∀ c ∈ L.filter isCode, P c = true) : L.all P = true := by
  refine List.all_eq_true.mpr fun c hc => ?_
  have h := List.all_eq_true.mp h1 c hc
  rcases Bool.eq_false_or_eq_true (isCode c) with hi | hi
  · exact h2 c (List.mem_filter.mpr ⟨hc, hi⟩)
  · simpa [hi] using h
set_option maxRecDepth 65536 in
theorem w_c0 : (Jvm.Cond.code x code maxLocals ret).before args0 about1 = true := code_word (m := ⟨1, 2⟩) (meth := k1m2) (c := k1c2) (by decide +kernel) rfl rfl rfl (by decide +kernel)
set_option maxRecDepth 65536 in
theorem w_c1 : (Jvm.Cond.code ({ cls := "com/example/tracemark/tracemark/model/TestTakesValuePinLaw", name := "pick", desc := "(I)Lcom/example/tracemark/tracemark/model/DisplayFilter$Test;" } : Jvm.MethodName) method_2_code (1 : Nat) (Option.some (Jvm.ClassFile.FieldType.object "com/example/tracemark/tracemark/model/DisplayFilter$Test"))).before args0 about1 = true := code_word (m := ⟨1, 1⟩) (meth := k1m1) (c := k1c1) (by decide +kernel) rfl rfl rfl (by decide +kernel)
set_option maxRecDepth 65536 in
theorem w_c2 : (Jvm.Cond.code ({ cls := "com/example/tracemark/tracemark/model/DisplayFilter$Test", name := "takesValue", desc := "()Z" } : Jvm.MethodName) prog_64_method_6_code (1 : Nat) (Option.some Jvm.ClassFile.FieldType.boolean)).before args0 about1 = true := code_word (m := ⟨6, 0⟩) (meth := k6m0) (c := k6c0) (by decide +kernel) rfl rfl rfl (by decide +kernel)
def codes1 : List Jvm.Cond := [Jvm.Cond.code x code maxLocals ret, Jvm.Cond.code ({ cls := "com/example/tracemark/tracemark/model/TestTakesValuePinLaw", name := "pick", desc := "(I)Lcom/example/tracemark/tracemark/model/DisplayFilter$Test;" } : Jvm.MethodName) method_2_code (1 : Nat) (Option.some (Jvm.ClassFile.FieldType.object "com/example/tracemark/tracemark/model/DisplayFilter$Test")), Jvm.Cond.code ({ cls := "com/example/tracemark/tracemark/model/DisplayFilter$Test", name := "takesValue", desc := "()Z" } : Jvm.MethodName) prog_64_method_6_code (1 : Nat) (Option.some Jvm.ClassFile.FieldType.boolean)]
set_option maxRecDepth 65536 in
theorem codes_eq : words1.filter isCode = codes1 := rfl
theorem w_codes : ∀ c ∈ words1.filter isCode, c.before args0 about1 = true := by
  rw [codes_eq]
  intro c hc
  simp only [codes1, List.mem_cons, List.not_mem_nil, or_false] at hc
  rcases hc with rfl | rfl | rfl
  · exact w_c0
  · exact w_c1
  · exact w_c2
set_option maxRecDepth 65536 in
theorem w_t1 : (words1.take 24).all (fun c => isCode c || c.before args0 about1) = true := by decide +kernel
set_option maxRecDepth 65536 in
theorem w_t2 : (words1.drop 24).all (fun c => isCode c || c.before args0 about1) = true := by decide +kernel
theorem w_tables : (allAtoms (Jvm.Cond.code x code maxLocals ret :: tables_1)).before args0 about1 = true := by
  rw [allAtoms_all]
  show words1.all (fun c => c.before args0 about1) = true
  refine all_split ?_ w_codes
  rw [← List.take_append_drop 24 words1, List.all_append, w_t1, w_t2]
  rfl
set_option maxRecDepth 65536 in
theorem w_case : (Jvm.Cond.and given_1 narrow_1).before args0 about1 = true := by decide +kernel
theorem w_applies : (headSpec (Jvm.Cond.code x code maxLocals ret :: tables_1) room_1).applies x e0.platform about1 = true :=
  (Spec.applies_iff w_frames).mpr ⟨w_running, w_runnable, w_alone, w_named, w_hears, w_ripe, w_room, w_tables⟩
theorem atStart : AtStart classFile x code maxLocals ret World_1 tables_1 room_1 Calls_1 rest_1 Pre_1 launch0 p0 e0 about1 theMethod args0 below0 :=
  ⟨lists_1, trivial, launch0.admits_env _ _ _, launch0.least_env, fairChoices_fair.cas, fairChoices_fair.clock, w_frames, w_args, w_heap, w_applies, trivial, trivial, w_case⟩
end start1
theorem witness_1 : WitnessClaimed_1 := ⟨start1.p0, start1.e0, start1.about1, start1.theMethod, start1.args0, start1.below0, start1.atStart⟩
end Jvm.Pilot.@@N@@
