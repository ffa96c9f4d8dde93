import JvmDerived
import JvmDerived.Pilot.@@N@@Statement
import JvmDerived.Pilot.@@N@@Code
set_option linter.unusedVariables false
set_option linter.unusedSimpArgs false
namespace Jvm.Pilot.@@N@@
open Jvm Jvm.ClassFile Sem Op Lib Jvm.Free Jvm.Stand Jvm.LawKit Jvm.RoadKit Bundle Jvm.Pilot.@@N@@.Jvm.D
section Own
variable {p : Program} {l : Launch} {e : Env} {R : Room} {s : State} {m : MethodId} {args : Array Value} {below : List Frame} {meth : Method} {c : Code} {T : State} {locs : List Loc} {cells slots : Nat} {Z : State} {a0 : Array Value} {h h' : Heap} {rc rs : Nat} {Q Qc : Option Value → Heap → List Loc → Prop}
/-- from here the run comes to its end, and leaves what Q says -/
def GG (p : Program) (e : Env) (below : List Frame) (s : State) (rc rs : Nat) (Q : Option Value → Heap → List Loc → Prop) (T : State) (g : JFrame) : Prop :=
  ∃ s₂ o, Steps p.tables e below (T.setTop g) s₂ ∧ s₂.status = .running ∧ Ended s₂ below o ∧ ∃ v L, o = .returned v ∧ Q v s₂.heap L ∧ FrameEnd s o s₂ L rc rs
theorem own_go {T' : State} {g g' : JFrame} (st : ∀ t, Steps p.tables e below (T'.setTop g') t → Steps p.tables e below (T.setTop g) t) (k : GG p e below s rc rs Q T' g') : GG p e below s rc rs Q T g := by
  obtain ⟨s₂, o, h1, h2⟩ := k
  exact ⟨s₂, o, st _ h1, h2⟩
theorem own_in {g g' : JFrame} (q : g = g') (k : GG p e below s rc rs Q T g') : GG p e below s rc rs Q T g := q ▸ k
theorem own_if {g1 g2 : JFrame} {P : Prop} [Decidable P] (k1 : P → GG p e below s rc rs Q T g1) (k2 : ¬ P → GG p e below s rc rs Q T g2) : GG p e below s rc rs Q T (if P then g1 else g2) := by
  by_cases q : P
  · rw [if_pos q]; exact k1 q
  · rw [if_neg q]; exact k2 q
theorem own_join {g g' : JFrame} (k1 : GG p e below s rc rs Q T g' → GG p e below s rc rs Q T g) (k2 : GG p e below s rc rs Q T g') : GG p e below s rc rs Q T g := k1 k2
abbrev own_CT (l : Launch) (Z : State) (y : MethodName) (bytes : ByteArray) (maxL : Nat) (ret : Option FieldType) (ws : List Jvm.Cond) (rm : Room) (as : Array Value) (h : Heap) (Qc : Option Value → Heap → List Loc → Prop) : Prop :=
  MetFree l y (head1 (Jvm.Cond.code y bytes maxL ret :: ws) rm) (fun a U => a = as ∧ Z.Warmed39 U.vm ∧ U.heap = h) (fun _ _ _ _ _ => True) (fun _ U o U' => ∃ v L, o = .returned v ∧ Qc v U'.heap L ∧ FrameEnd U o U' L rm.cells rm.slots)
theorem own_callS (X : Stand p l e R s m args below meth c T locs cells slots) (hx : p.tables.exec = Jvm.exec) (hZ : Z.Warmed39 s.vm) {own : String} {index : Nat} {y : MethodName} {bytes : ByteArray} {maxL : Nat} {ret : Option FieldType} {rm : Room} (W : Nat)
    (hown : s.vm.findClass own = some m.cls) (w1 : (Jvm.Cond.methodLink own index y).before a0 Z = true) (w2 : (Jvm.Cond.static y).before a0 Z = true) (w3 : (Jvm.Cond.initialized y.cls).before a0 Z = true) (w4 : (Jvm.Cond.code y bytes maxL ret).before a0 Z = true)
    (hy : y.cls ≠ "java/lang/invoke/MethodHandle" ∧ y.cls ≠ "java/lang/invoke/VarHandle") {argsL rest : List Value} (hM : own_CT l Z y bytes maxL ret [] rm argsL.toArray h Qc)
    (hf : rm.frames + 1 ≤ R.frames) (hl : W + (maxL + 11) + rm.locals ≤ R.locals) (hc : cells + rm.cells ≤ R.cells) (hs : slots + rm.slots ≤ R.slots)
    {g : JFrame} (hg : g.method = m) (hsize : g.locals.size = c.maxLocals) (hlen : ∀ sig, parseMethodDescriptor y.desc = some sig → argsL.length = sig.parameters.length) (hstack : g.stack = argsL.reverse ++ rest) (hW : 2 * g.monitorRoom + (rest.map fun v => v.category).sum ≤ W)
    (hdg : decode c.code g.pc = .ok (.invokestatic index, 3)) (eT : T.heap = h)
    (k : ∀ (v : Option Value) (T' : State) (L : List Loc), Stand p l e R s m args below meth c T' (locs ++ L) (cells + rm.cells) (slots + rm.slots) → Qc v T'.heap L → GG p e below s rc rs Q T' { g with pc := g.pc + 3, stack := v.toList ++ rest }) : GG p e below s rc rs Q T g := by
  obtain ⟨v, vm₁, ⟨T', L', k', n'⟩, -, X', ⟨L, hQ, q1, q2, q3⟩, st⟩ := Jvm.LawKit.callS X hx hown (mvT hZ w1) (mvT hZ w2) (mvT hZ w3) (mvT hZ w4) hy (backOf (W := W) hM hZ w4 w3 hf hl) hg hsize hlen hstack hW hdg (fun _ _ => ⟨rfl, eT, hc, hs⟩)
  dsimp only [Pt.U, Pt.locs, Pt.cells, Pt.slots] at X' q1 q2 q3 st hQ
  subst q1 q2 q3
  exact own_go st (k v T' L X' hQ)
theorem own_callI (X : Stand p l e R s m args below meth c T locs cells slots) (hx : p.tables.exec = Jvm.exec) (hZ : Z.Warmed39 s.vm) {own : String} {index : Nat} {y : MethodName} {bytes : ByteArray} {maxL : Nat} {rm : Room} (W : Nat) (hy1 : y.name = "<init>")
    (hown : s.vm.findClass own = some m.cls) (w1 : (Jvm.Cond.methodLink own index y).before a0 Z = true) (w2 : (Jvm.Cond.instanceMethod y).before a0 Z = true) (w3 : (Jvm.Cond.initialized y.cls).before a0 Z = true) (w4 : (Jvm.Cond.code y bytes maxL none).before a0 Z = true)
    (hy : y.cls ≠ "java/lang/invoke/MethodHandle" ∧ y.cls ≠ "java/lang/invoke/VarHandle") {a : Addr} {argsL rest : List Value} (hM : own_CT l Z y bytes maxL none [] rm (.ref a :: argsL).toArray h Qc)
    (hf : rm.frames + 1 ≤ R.frames) (hl : W + (maxL + 11) + rm.locals ≤ R.locals) (hc : cells + rm.cells ≤ R.cells) (hs : slots + rm.slots ≤ R.slots)
    {g : JFrame} (hg : g.method = m) (hsize : g.locals.size = c.maxLocals) (hlen : ∀ sig, parseMethodDescriptor y.desc = some sig → argsL.length = sig.parameters.length) (hstack : g.stack = argsL.reverse ++ .ref a :: rest) (hW : 2 * g.monitorRoom + (rest.map fun v => v.category).sum ≤ W)
    (hdg : decode c.code g.pc = .ok (.invokespecial index, 3)) (eT : T.heap = h)
    (k : ∀ (v : Option Value) (T' : State) (L : List Loc), Stand p l e R s m args below meth c T' (locs ++ L) (cells + rm.cells) (slots + rm.slots) → Qc v T'.heap L → GG p e below s rc rs Q T' { g with pc := g.pc + 3, stack := v.toList ++ rest }) : GG p e below s rc rs Q T g := by
  obtain ⟨v, vm₁, ⟨T', L', k', n'⟩, -, X', ⟨L, hQ, q1, q2, q3⟩, st⟩ := X.specialBack hx hy1 hown (mvT hZ w1) (mvT hZ w2) (mvT hZ w4) hy (backOf (W := W) hM hZ w4 w3 hf hl) hg hsize (Steps.refl _) hlen hstack hW hdg (fun _ _ => ⟨rfl, eT, hc, hs⟩)
  dsimp only [Pt.U, Pt.locs, Pt.cells, Pt.slots] at X' q1 q2 q3 st hQ
  subst q1 q2 q3
  exact own_go (fun _ => st.trans) (k v T' L X' hQ)
theorem own_callV (X : Stand p l e R s m args below meth c T locs cells slots) (hx : p.tables.exec = Jvm.exec) (hZ : Z.Warmed39 s.vm) {own C : String} {index : Nat} {y z : MethodName} {bytes : ByteArray} {maxL : Nat} {ret : Option FieldType} {rm : Room} (W : Nat)
    (hown : s.vm.findClass own = some m.cls) (w1 : (Jvm.Cond.methodLink own index y).before a0 Z = true) (w2 : (Jvm.Cond.declares y).before a0 Z = true) (hnf : NotFace s y) (w5 : (Jvm.Cond.selects C y z).before a0 Z = true) (w6 : (Jvm.Cond.instanceMethod z).before a0 Z = true) (w3 : (Jvm.Cond.initialized z.cls).before a0 Z = true) (w4 : (Jvm.Cond.code z bytes maxL ret).before a0 Z = true)
    (hy : y.cls ≠ "java/lang/invoke/MethodHandle" ∧ y.cls ≠ "java/lang/invoke/VarHandle") {a : Addr} {argsL rest : List Value} (hM : own_CT l Z z bytes maxL ret [] rm (.ref a :: argsL).toArray h Qc)
    (hf : rm.frames + 1 ≤ R.frames) (hl : W + (maxL + 11) + rm.locals ≤ R.locals) (hc : cells + rm.cells ≤ R.cells) (hs : slots + rm.slots ≤ R.slots) (E : Exa Z h a C)
    {g : JFrame} (hg : g.method = m) (hsize : g.locals.size = c.maxLocals) (hlen : ∀ sig, parseMethodDescriptor y.desc = some sig → argsL.length = sig.parameters.length) (hstack : g.stack = argsL.reverse ++ .ref a :: rest) (hW : 2 * g.monitorRoom + (rest.map fun v => v.category).sum ≤ W)
    (hdg : decode c.code g.pc = .ok (.invokevirtual index, 3)) (eT : T.heap = h)
    (k : ∀ (v : Option Value) (T' : State) (L : List Loc), Stand p l e R s m args below meth c T' (locs ++ L) (cells + rm.cells) (slots + rm.slots) → Qc v T'.heap L → GG p e below s rc rs Q T' { g with pc := g.pc + 3, stack := v.toList ++ rest }) : GG p e below s rc rs Q T g := by
  obtain ⟨cq, kq, qa, qb, qc⟩ := isOf hZ eT E
  obtain ⟨v, vm₁, ⟨T', L', k', n'⟩, -, X', ⟨L, hQ, q1, q2, q3⟩, st⟩ := X.virtualBack hx hown (mvT hZ w1) (mvT hZ w2) hnf (mvT hZ w5) (mvT hZ w6) hy (backOf (W := W) hM hZ w4 w3 hf hl) qa qc hg hsize (Steps.refl _) hlen hstack hW hdg (fun _ _ => ⟨rfl, eT, hc, hs⟩)
  dsimp only [Pt.U, Pt.locs, Pt.cells, Pt.slots] at X' q1 q2 q3 st hQ
  subst q1 q2 q3
  exact own_go (fun _ => st.trans) (k v T' L X' hQ)
theorem own_callP (X : Stand p l e R s m args below meth c T locs cells slots) (hx : p.tables.exec = Jvm.exec) (hZ : Z.Warmed39 s.vm) {own C : String} {index : Nat} {y : MethodName} {bytes : ByteArray} {maxL : Nat} {ret : Option FieldType} {rm : Room} (W : Nat)
    (hown : s.vm.findClass own = some m.cls) (w1 : (Jvm.Cond.methodLink own index y).before a0 Z = true) (w2 : (Jvm.Cond.instanceMethod y).before a0 Z = true) {kk : Nat} (w5 : (Jvm.Cond.instantiable y.cls kk).before a0 Z = true) (w6 : (Jvm.Cond.privateMethod y).before a0 Z = true) (w3 : (Jvm.Cond.initialized y.cls).before a0 Z = true) (w4 : (Jvm.Cond.code y bytes maxL ret).before a0 Z = true)
    (hy : y.cls ≠ "java/lang/invoke/MethodHandle" ∧ y.cls ≠ "java/lang/invoke/VarHandle") {a : Addr} {argsL rest : List Value} (hM : own_CT l Z y bytes maxL ret [] rm (.ref a :: argsL).toArray h Qc)
    (hf : rm.frames + 1 ≤ R.frames) (hl : W + (maxL + 11) + rm.locals ≤ R.locals) (hc : cells + rm.cells ≤ R.cells) (hs : slots + rm.slots ≤ R.slots) (E : Exa Z h a C)
    {g : JFrame} (hg : g.method = m) (hsize : g.locals.size = c.maxLocals) (hlen : ∀ sig, parseMethodDescriptor y.desc = some sig → argsL.length = sig.parameters.length) (hstack : g.stack = argsL.reverse ++ .ref a :: rest) (hW : 2 * g.monitorRoom + (rest.map fun v => v.category).sum ≤ W)
    (hdg : decode c.code g.pc = .ok (.invokevirtual index, 3)) (eT : T.heap = h)
    (k : ∀ (v : Option Value) (T' : State) (L : List Loc), Stand p l e R s m args below meth c T' (locs ++ L) (cells + rm.cells) (slots + rm.slots) → Qc v T'.heap L → GG p e below s rc rs Q T' { g with pc := g.pc + 3, stack := v.toList ++ rest }) : GG p e below s rc rs Q T g := by
  obtain ⟨cq, q, q'⟩ := E.cell
  have hpr : s.PrivateAt y := Cond.privateMethod_at (mvP hZ w6 (args := #[]))
  obtain ⟨c1, k1, i1, i2, -, i4, -⟩ := Cond.instantiable_spec (show (Jvm.Cond.instantiable y.cls kk).before args s = true from mv hZ w5)
  have hsel : (Jvm.Cond.selects y.cls y y).before args s = true := selects_self_of_private i1 i2 (Bool.or_eq_false_iff.mp i4).1 hpr (mvT hZ w2) hy
  obtain ⟨v, vm₁, ⟨T', L', k', n'⟩, -, X', ⟨L, hQ, q1, q2, q3⟩, st⟩ := X.privateBack hx hown (mvT hZ w1) (mvT hZ w2) hsel hpr (mvT hZ w4) hy (backOf (W := W) hM hZ w4 w3 hf hl) hg hsize (Steps.refl _) (by rw [eT]; exact q) q' hlen hstack hW hdg (fun _ _ => ⟨rfl, eT, hc, hs⟩)
  dsimp only [Pt.U, Pt.locs, Pt.cells, Pt.slots] at X' q1 q2 q3 st hQ
  subst q1 q2 q3
  exact own_go (fun _ => st.trans) (k v T' L X' hQ)
theorem own_ret (X : Stand p l e R s m args below meth c T locs cells slots) (hx : p.tables.exec = Jvm.exec) (hlk : meth.locks = false) {t : FieldType} {w : Value} {i : Instr} {pc : Nat} {Ls : Array Slot} {rest : List Value} (hret : meth.sig.returnType = some t) (hn : narrow t w = w)
    (hi : (i = .ireturn ∧ (t = .int ∨ t = .boolean ∨ t = .byte ∨ t = .char ∨ t = .short) ∧ ∃ z, w = .int z) ∨ (i = .lreturn ∧ t = .long ∧ ∃ z, w = .long z) ∨ (i = .dreturn ∧ t = .double ∧ ∃ z, w = .double z) ∨ (i = .freturn ∧ t = .float ∧ ∃ z, w = .float z) ∨ (i = .areturn ∧ t.isReference = true ∧ w.isRef = true))
    (hd : decode c.code pc = .ok (i, 1)) (hc : cells ≤ rc) (hs : slots ≤ rs) (hQ : Q (some w) T.heap locs) : GG p e below s rc rs Q T (mkF m pc Ls (w :: rest)) := by
  obtain ⟨fs, hr, hrun, hended, hW, hsame⟩ := X.leave (v := some w) (fun h => by rw [hret] at h; cases h) hlk
  exact ⟨_, _, retOut X hx hret hn hi hd hr, hrun, hended, _, _, rfl, hQ, ⟨_, rfl⟩, hW, hsame.mono hc hs⟩
theorem own_retV (X : Stand p l e R s m args below meth c T locs cells slots) (hx : p.tables.exec = Jvm.exec) (hlk : meth.locks = false) {pc : Nat} {Ls : Array Slot} (hret : meth.sig.returnType = none)
    (hd : decode c.code pc = .ok (.return_, 1)) (hc : cells ≤ rc) (hs : slots ≤ rs) (hQ : Q none T.heap locs) : GG p e below s rc rs Q T (mkF m pc Ls []) := by
  obtain ⟨fs, hr, hrun, hended, hW, hsame⟩ := X.leave (v := none) (fun _ => rfl) hlk
  exact ⟨_, _, X.returnOut hx hret hd hr, hrun, hended, _, _, rfl, hQ, ⟨_, rfl⟩, hW, hsame.mono hc hs⟩
theorem own_nZ {P : Prop} [Decidable P] : narrow .boolean (.int (if P then 1 else 0)) = .int (if P then 1 else 0) := by split <;> rfl
/-- an array of values, all of them named -/
def Arx (Z : State) (h : Heap) (a : Addr) (ty : FieldType) (vs : List Value) : Prop := vs.length < 2 ^ 31 ∧ ∃ k dv, Arv Z h a k ty (Int32.ofNat vs.length) vs dv
variable {a b : Addr} {ty : FieldType} {vs : List Value}
theorem own_ofNat {n : Nat} (q : n < 2 ^ 31) : (Int32.ofNat n).toInt = n := Int32.toInt_ofNat_of_lt q
theorem own_clamp {n : Nat} (q : n < 2 ^ 31) : (Int32.ofNat n).toNatClampNeg = n := by simp only [Int32.toNatClampNeg, own_ofNat q]; rfl
theorem Arx.lt (V : Arx Z h a ty vs) : a < h.size := by obtain ⟨_, k, dv, V⟩ := V; exact V.lt
theorem Arx.ext (V : Arx Z h a ty vs) (E : Ext h h') : Arx Z h' a ty vs := by obtain ⟨q, k, dv, V⟩ := V; exact ⟨q, k, dv, V.ext E⟩
theorem Arx.other {sl : Nat} {v : Value} (V : Arx Z h b ty vs) (W : Wr h h' a sl v) (n : b ≠ a) : Arx Z h' b ty vs := by obtain ⟨q, k, dv, V⟩ := V; exact ⟨q, k, dv, V.other W n⟩
theorem Arx.keep {ws : List Addr} (V : Arx Z h a ty vs) (K : Keep h h' ws) (n : a ∉ ws) : Arx Z h' a ty vs := by obtain ⟨q, k, dv, V⟩ := V; exact ⟨q, k, dv, V.keep K n⟩
theorem Arx.open {j : Int32} {v : Value} (V : Arx Z h a ty vs) (h0 : ¬ j < 0) (hv : vs[j.toNatClampNeg]? = some v) : ∃ cl, Arr Z h a cl ty ∧ ¬ (j < 0 ∨ cl.slots.size ≤ j.toNatClampNeg) ∧ cl.slots[j.toNatClampNeg]? = some v := by
  obtain ⟨q, k, dv, cl, A, -, S, -, H, -⟩ := V
  rw [own_clamp q] at S
  have hl := (List.getElem?_eq_some_iff.mp hv).1
  have e := H j.toNatClampNeg (by rw [S]; exact hl)
  rw [List.getD_eq_getElem?_getD, hv] at e
  exact ⟨cl, A, fun q' => q'.elim h0 (by rw [S]; exact Nat.not_le.mpr hl), e⟩
theorem own_len (X : Stand p l e R s m args below meth c T locs cells slots) (hx : p.tables.exec = Jvm.exec) (hZ : Z.Warmed39 s.vm) (eT : T.heap = h) (V : Arx Z h a ty vs) {g : JFrame} (hg : g.method = m) {rest : List Value} (hs : g.stack = .ref a :: rest) (hd : decode c.code g.pc = .ok (.arraylength, 1)) :
    ∀ t, Steps p.tables e below (T.setTop { g with pc := g.pc + 1, stack := .int (Int32.ofNat vs.length) :: rest }) t → Steps p.tables e below (T.setTop g) t := fun t k => by
  obtain ⟨q, k', dv, cl, A, -, S, N, -⟩ := V
  refine X.arraylength hx (by rw [eT]; exact A.1) (State.isArrayOf_alike hZ.alike A.2.1) hg hs hd _ ?_
  rw [len_of S N]; exact k
theorem own_iaload (X : Stand p l e R s m args below meth c T locs cells slots) (hx : p.tables.exec = Jvm.exec) (hZ : Z.Warmed39 s.vm) (eT : T.heap = h) (V : Arx Z h a .int vs) {j : Int32} {v : Value} (h0 : ¬ j < 0) (hv : vs[j.toNatClampNeg]? = some v) {g : JFrame} (hg : g.method = m) {rest : List Value} (hs : g.stack = .int j :: .ref a :: rest) (hd : decode c.code g.pc = .ok (.iaload, 1)) :
    ∀ t, Steps p.tables e below (T.setTop { g with pc := g.pc + 1, stack := v :: rest }) t → Steps p.tables e below (T.setTop g) t := fun t k => by
  obtain ⟨cl, A, h1, h2⟩ := V.open h0 hv
  exact X.iaload hx (by rw [eT]; exact A.1) (State.isArrayOf_alike hZ.alike A.2.1) A.2.2 h1 h2 hg hs hd _ k
theorem own_laload (X : Stand p l e R s m args below meth c T locs cells slots) (hx : p.tables.exec = Jvm.exec) (hZ : Z.Warmed39 s.vm) (eT : T.heap = h) (V : Arx Z h a .long vs) {j : Int32} {v : Value} (h0 : ¬ j < 0) (hv : vs[j.toNatClampNeg]? = some v) {g : JFrame} (hg : g.method = m) {rest : List Value} (hs : g.stack = .int j :: .ref a :: rest) (hd : decode c.code g.pc = .ok (.laload, 1)) :
    ∀ t, Steps p.tables e below (T.setTop { g with pc := g.pc + 1, stack := v :: rest }) t → Steps p.tables e below (T.setTop g) t := fun t k => by
  obtain ⟨cl, A, h1, h2⟩ := V.open h0 hv
  exact X.laload hx (by rw [eT]; exact A.1) (State.isArrayOf_alike hZ.alike A.2.1) A.2.2 h1 h2 hg hs hd _ k
theorem own_caload (X : Stand p l e R s m args below meth c T locs cells slots) (hx : p.tables.exec = Jvm.exec) (hZ : Z.Warmed39 s.vm) (eT : T.heap = h) (V : Arx Z h a .char vs) {j : Int32} {v : Value} (h0 : ¬ j < 0) (hv : vs[j.toNatClampNeg]? = some v) {g : JFrame} (hg : g.method = m) {rest : List Value} (hs : g.stack = .int j :: .ref a :: rest) (hd : decode c.code g.pc = .ok (.caload, 1)) :
    ∀ t, Steps p.tables e below (T.setTop { g with pc := g.pc + 1, stack := v :: rest }) t → Steps p.tables e below (T.setTop g) t := fun t k => by
  obtain ⟨cl, A, h1, h2⟩ := V.open h0 hv
  exact X.caload hx (by rw [eT]; exact A.1) (State.isArrayOf_alike hZ.alike A.2.1) A.2.2 h1 h2 hg hs hd _ k
theorem own_baload (X : Stand p l e R s m args below meth c T locs cells slots) (hx : p.tables.exec = Jvm.exec) (hZ : Z.Warmed39 s.vm) (eT : T.heap = h) (V : Arx Z h a .byte vs) {j : Int32} {v : Value} (h0 : ¬ j < 0) (hv : vs[j.toNatClampNeg]? = some v) {g : JFrame} (hg : g.method = m) {rest : List Value} (hs : g.stack = .int j :: .ref a :: rest) (hd : decode c.code g.pc = .ok (.baload, 1)) :
    ∀ t, Steps p.tables e below (T.setTop { g with pc := g.pc + 1, stack := v :: rest }) t → Steps p.tables e below (T.setTop g) t := fun t k => by
  obtain ⟨cl, A, h1, h2⟩ := V.open h0 hv
  exact X.baloadBytes hx (by rw [eT]; exact A.1) (State.isArrayOf_alike hZ.alike A.2.1) A.2.2 h1 h2 hg hs hd _ k
theorem own_aaload (X : Stand p l e R s m args below meth c T locs cells slots) (hx : p.tables.exec = Jvm.exec) (hZ : Z.Warmed39 s.vm) (eT : T.heap = h) (V : Arx Z h a ty vs) (ht : ty.isReference = true) {j : Int32} {v : Value} (h0 : ¬ j < 0) (hv : vs[j.toNatClampNeg]? = some v) {g : JFrame} (hg : g.method = m) {rest : List Value} (hs : g.stack = .int j :: .ref a :: rest) (hd : decode c.code g.pc = .ok (.aaload, 1)) :
    ∀ t, Steps p.tables e below (T.setTop { g with pc := g.pc + 1, stack := v :: rest }) t → Steps p.tables e below (T.setTop g) t := fun t k => by
  obtain ⟨cl, A, h1, h2⟩ := V.open h0 hv
  exact X.aaload hx (by rw [eT]; exact A.1) (State.isArrayOf_alike hZ.alike A.2.1) ht A.2.2 h1 h2 hg hs hd _ k
theorem Arx.put {j : Int32} {v : Value} (V : Arx Z h a ty vs) (h0 : ¬ j < 0) (hj : j.toNatClampNeg < vs.length) (hv : fits ty v = true) : ∃ cl, Arr Z h a cl ty ∧ ¬ (j < 0 ∨ cl.slots.size ≤ j.toNatClampNeg) ∧ ∀ {h' : Heap}, Wr h h' a j.toNatClampNeg v → Arx Z h' a ty (vs.set j.toNatClampNeg v) := by
  obtain ⟨q, k, dv, cl, A, q1, S, N, H, G⟩ := V
  refine ⟨cl, A, fun q' => q'.elim h0 ?_, fun W => ⟨by rw [List.length_set]; exact q, k, dv, ?_⟩⟩
  · rw [S, own_clamp q]; exact Nat.not_le.mpr hj
  · rw [List.length_set]; exact Arv.set A q1 S N H G hv W _ rfl hj
theorem own_iastore (X : Stand p l e R s m args below meth c T locs cells slots) (hx : p.tables.exec = Jvm.exec) (hZ : Z.Warmed39 s.vm) (eT : T.heap = h) (V : Arx Z h a .int vs) {j x : Int32} (h0 : ¬ j < 0) (hj : j.toNatClampNeg < vs.length) {g : JFrame} (hg : g.method = m) {rest : List Value} (hs : g.stack = .int x :: .int j :: .ref a :: rest) (hd : decode c.code g.pc = .ok (.iastore, 1)) :
    ∃ T' h', Stand p l e R s m args below meth c T' (locs ++ [⟨a, j.toNatClampNeg⟩]) cells slots ∧ T'.heap = h' ∧ Wr h h' a j.toNatClampNeg (.int x) ∧ Arx Z h' a .int (vs.set j.toNatClampNeg (.int x)) ∧ ∀ t, Steps p.tables e below (T'.setTop { g with pc := g.pc + 1, stack := rest }) t → Steps p.tables e below (T.setTop g) t := by
  obtain ⟨cl, A, h1, h2⟩ := V.put (v := .int x) h0 hj rfl
  obtain ⟨T', h', X', e', W, st⟩ := stI X hx hZ eT A h1 hg hs hd
  exact ⟨T', h', X', e', W, h2 W, st⟩
theorem own_lastore (X : Stand p l e R s m args below meth c T locs cells slots) (hx : p.tables.exec = Jvm.exec) (hZ : Z.Warmed39 s.vm) (eT : T.heap = h) (V : Arx Z h a .long vs) {j : Int32} {x : Int64} (h0 : ¬ j < 0) (hj : j.toNatClampNeg < vs.length) {g : JFrame} (hg : g.method = m) {rest : List Value} (hs : g.stack = .long x :: .int j :: .ref a :: rest) (hd : decode c.code g.pc = .ok (.lastore, 1)) :
    ∃ T' h', Stand p l e R s m args below meth c T' (locs ++ [⟨a, j.toNatClampNeg⟩]) cells slots ∧ T'.heap = h' ∧ Wr h h' a j.toNatClampNeg (.long x) ∧ Arx Z h' a .long (vs.set j.toNatClampNeg (.long x)) ∧ ∀ t, Steps p.tables e below (T'.setTop { g with pc := g.pc + 1, stack := rest }) t → Steps p.tables e below (T.setTop g) t := by
  obtain ⟨cl, A, h1, h2⟩ := V.put (v := .long x) h0 hj rfl
  obtain ⟨T', h', X', e', W, st⟩ := stJ X hx hZ eT A h1 hg hs hd
  exact ⟨T', h', X', e', W, h2 W, st⟩
theorem own_castore (X : Stand p l e R s m args below meth c T locs cells slots) (hx : p.tables.exec = Jvm.exec) (hZ : Z.Warmed39 s.vm) (eT : T.heap = h) (V : Arx Z h a .char vs) {j x : Int32} (h0 : ¬ j < 0) (hj : j.toNatClampNeg < vs.length) {g : JFrame} (hg : g.method = m) {rest : List Value} (hs : g.stack = .int x :: .int j :: .ref a :: rest) (hd : decode c.code g.pc = .ok (.castore, 1)) :
    ∃ T' h', Stand p l e R s m args below meth c T' (locs ++ [⟨a, j.toNatClampNeg⟩]) cells slots ∧ T'.heap = h' ∧ Wr h h' a j.toNatClampNeg (.int (nar .char x)) ∧ Arx Z h' a .char (vs.set j.toNatClampNeg (.int (nar .char x))) ∧ ∀ t, Steps p.tables e below (T'.setTop { g with pc := g.pc + 1, stack := rest }) t → Steps p.tables e below (T.setTop g) t := by
  obtain ⟨cl, A, h1, h2⟩ := V.put (v := .int (nar .char x)) h0 hj (fits_nar_char _)
  obtain ⟨T', h', X', e', W, st⟩ := stC X hx hZ eT A h1 hg hs hd
  exact ⟨T', h', X', e', W, h2 W, st⟩
theorem own_bastore (X : Stand p l e R s m args below meth c T locs cells slots) (hx : p.tables.exec = Jvm.exec) (hZ : Z.Warmed39 s.vm) (eT : T.heap = h) (V : Arx Z h a .byte vs) {j x : Int32} (h0 : ¬ j < 0) (hj : j.toNatClampNeg < vs.length) {g : JFrame} (hg : g.method = m) {rest : List Value} (hs : g.stack = .int x :: .int j :: .ref a :: rest) (hd : decode c.code g.pc = .ok (.bastore, 1)) :
    ∃ T' h', Stand p l e R s m args below meth c T' (locs ++ [⟨a, j.toNatClampNeg⟩]) cells slots ∧ T'.heap = h' ∧ Wr h h' a j.toNatClampNeg (.int (nar .byte x)) ∧ Arx Z h' a .byte (vs.set j.toNatClampNeg (.int (nar .byte x))) ∧ ∀ t, Steps p.tables e below (T'.setTop { g with pc := g.pc + 1, stack := rest }) t → Steps p.tables e below (T.setTop g) t := by
  obtain ⟨cl, A, h1, h2⟩ := V.put (v := .int (nar .byte x)) h0 hj (fits_nar_byte _)
  obtain ⟨T', h', X', e', W, st⟩ := stB X hx hZ eT A h1 hg hs hd
  exact ⟨T', h', X', e', W, h2 W, st⟩
theorem own_newarr (X : Stand p l e R s m args below meth c T locs cells slots) (hx : p.tables.exec = Jvm.exec) (hZ : Z.Warmed39 s.vm) {aty : ArrayType} (w : (Jvm.Cond.arrayClass (newarray.typeOf aty)).before a0 Z = true) (eT : T.heap = h) {g : JFrame} (hg : g.method = m) (hd : decode c.code g.pc = .ok (.newarray aty, 2)) {n : Int32} {rest : List Value} (hs : g.stack = .int n :: rest)
    (hn : ¬ n < 0) {cap : Nat} (hcap : n.toNatClampNeg ≤ cap) (hb : cap * 8 ≤ 536870912) (hc : cells + 1 ≤ R.cells) (hl : slots + cap ≤ R.slots) {ad : String} (had : "[" ++ (newarray.typeOf aty).toString = ad) :
    ∃ T' h' a, a = h.size ∧ Stand p l e R s m args below meth c T' locs (cells + 1) (slots + cap) ∧ T'.heap = h' ∧ Ext h h' ∧ Arx Z h' a (newarray.typeOf aty) (List.replicate n.toNatClampNeg (defaultValue (newarray.typeOf aty))) ∧ Exa Z h' a ad ∧
      ∀ t, Steps p.tables e below (T'.setTop { g with pc := g.pc + 2, stack := .ref a :: rest }) t → Steps p.tables e below (T.setTop g) t := by
  obtain ⟨T', h', cA, X', e', E, A, Ex, st⟩ := newPE X hx hZ w eT hg hd hs hn hcap hb hc hl had
  have b := back32 hn
  refine ⟨T', h', _, rfl, X', e', E, ⟨by rw [List.length_replicate]; exact b.2, cA, defaultValue (newarray.typeOf aty), ?_⟩, Ex, st⟩
  rw [List.length_replicate, show Int32.ofNat n.toNatClampNeg = n from b.1]
  exact (Arv.new A hn).pad (pad_rep [] _ _)
theorem own_clone (X : Stand p l e R s m args below meth c T locs cells slots) (hx : p.tables.exec = Jvm.exec) (hZ : Z.Warmed39 s.vm) {own ad : String} {index : Nat} (hown : s.vm.findClass own = some m.cls)
    (w1 : (Jvm.Cond.methodLink own index ⟨ad, "clone", "()Ljava/lang/Object;"⟩).before a0 Z = true) (w2 : (Jvm.Cond.sameMethod ad "java/lang/Object" "clone" "()Ljava/lang/Object;").before a0 Z = true) (w3 : (Jvm.Cond.native ⟨"java/lang/Object", "clone", "()Ljava/lang/Object;"⟩).before a0 Z = true)
    (w4 : (Jvm.Cond.instanceMethod ⟨"java/lang/Object", "clone", "()Ljava/lang/Object;"⟩).before a0 Z = true) (w5 : (Jvm.Cond.selects ad ⟨ad, "clone", "()Ljava/lang/Object;"⟩ ⟨"java/lang/Object", "clone", "()Ljava/lang/Object;"⟩).before a0 Z = true) (w6 : (Jvm.Cond.castable ad "java/lang/Cloneable").before a0 Z = true)
    (eT : T.heap = h) (V : Arx Z h a ty vs) (E : Exa Z h a ad) {g : JFrame} (hg : g.method = m) (hsize : g.locals.size = c.maxLocals) {rest : List Value} (hst : g.stack = .ref a :: rest) (hd : decode c.code g.pc = .ok (.invokevirtual index, 3))
    (hf : 1 ≤ R.frames) {W cap : Nat} (hW : 2 * g.monitorRoom + (rest.map fun v => v.category).sum ≤ W) (hl : W + 14 ≤ R.locals) (hcap : vs.length ≤ cap) (hc : cells + 1 ≤ R.cells) (hsl : slots + cap ≤ R.slots) :
    ∃ T' h' b, b = h.size ∧ Stand p l e R s m args below meth c T' locs (cells + 1) (slots + cap) ∧ T'.heap = h' ∧ Ext h h' ∧ Arx Z h' b ty vs ∧ Exa Z h' b ad ∧
      ∀ t, Steps p.tables e below (T'.setTop { g with pc := g.pc + 3, stack := .ref b :: rest }) t → Steps p.tables e below (T.setTop g) t := by
  obtain ⟨q, k, dv, V⟩ := V
  obtain ⟨T', h', X', e', ex, V', E', st⟩ := cloneH X hx hZ hown w1 w2 w3 w4 w5 w6 eT V.arh E hg hsize hst hd hf hW hl (by rw [own_clamp q]; exact hcap) hc hsl
  exact ⟨T', h', _, rfl, X', e', ex, ⟨q, k, dv, V'⟩, E', st⟩
end Own
section OwnW
variable {p : Program} {l : Launch} {e : Env} {R : Room} {s s0 : State} {vm0 : Vm} {k0 : Nat} {m : MethodId} {args : Array Value} {below : List Frame} {meth : Method} {c : Code} {T : State} {locs : List Loc} {cells slots : Nat} {Z : State} {a0 : Array Value} {h h' : Heap} {rc rs : Nat} {Q Qc : Option Value → Heap → List Loc → Prop}
/-- as GG, for a run that may intern String constants: s0 is its true start -/
def GGW (p : Program) (e : Env) (below : List Frame) (s0 : State) (rc rs : Nat) (Q : Option Value → Heap → List Loc → Prop) (T : State) (g : JFrame) : Prop :=
  ∃ s₂ o, Steps p.tables e below (T.setTop g) s₂ ∧ s₂.status = .running ∧ Ended s₂ below o ∧ ∃ v L, o = .returned v ∧ Q v s₂.heap L ∧ ReturnedEndW s0 o s₂ L rc rs
theorem own_goW {T' : State} {g g' : JFrame} (st : ∀ t, Steps p.tables e below (T'.setTop g') t → Steps p.tables e below (T.setTop g) t) (k : GGW p e below s0 rc rs Q T' g') : GGW p e below s0 rc rs Q T g := by
  obtain ⟨s₂, o, h1, h2⟩ := k
  exact ⟨s₂, o, st _ h1, h2⟩
theorem own_inW {g g' : JFrame} (q : g = g') (k : GGW p e below s0 rc rs Q T g') : GGW p e below s0 rc rs Q T g := q ▸ k
theorem own_joinW {g g' : JFrame} (k1 : GGW p e below s0 rc rs Q T g' → GGW p e below s0 rc rs Q T g) (k2 : GGW p e below s0 rc rs Q T g') : GGW p e below s0 rc rs Q T g := k1 k2
theorem own_callSW (X : Stand p l e R s m args below meth c T locs cells slots) (hx : p.tables.exec = Jvm.exec) (hZ : Z.Warmed39 s.vm) {own : String} {index : Nat} {y : MethodName} {bytes : ByteArray} {maxL : Nat} {ret : Option FieldType} {rm : Room} (W : Nat)
    (hown : s.vm.findClass own = some m.cls) (w1 : (Jvm.Cond.methodLink own index y).before a0 Z = true) (w2 : (Jvm.Cond.static y).before a0 Z = true) (w3 : (Jvm.Cond.initialized y.cls).before a0 Z = true) (w4 : (Jvm.Cond.code y bytes maxL ret).before a0 Z = true)
    (hy : y.cls ≠ "java/lang/invoke/MethodHandle" ∧ y.cls ≠ "java/lang/invoke/VarHandle") {argsL rest : List Value} (hM : own_CT l Z y bytes maxL ret [] rm argsL.toArray h Qc)
    (hf : rm.frames + 1 ≤ R.frames) (hl : W + (maxL + 11) + rm.locals ≤ R.locals) (hc : cells + rm.cells ≤ R.cells) (hs : slots + rm.slots ≤ R.slots)
    {g : JFrame} (hg : g.method = m) (hsize : g.locals.size = c.maxLocals) (hlen : ∀ sig, parseMethodDescriptor y.desc = some sig → argsL.length = sig.parameters.length) (hstack : g.stack = argsL.reverse ++ rest) (hW : 2 * g.monitorRoom + (rest.map fun v => v.category).sum ≤ W)
    (hdg : decode c.code g.pc = .ok (.invokestatic index, 3)) (eT : T.heap = h)
    (k : ∀ (v : Option Value) (T' : State) (L : List Loc), Stand p l e R s m args below meth c T' (locs ++ L) (cells + rm.cells) (slots + rm.slots) → Qc v T'.heap L → GGW p e below s0 rc rs Q T' { g with pc := g.pc + 3, stack := v.toList ++ rest }) : GGW p e below s0 rc rs Q T g := by
  obtain ⟨v, vm₁, ⟨T', L', k', n'⟩, -, X', ⟨L, hQ, q1, q2, q3⟩, st⟩ := Jvm.LawKit.callS X hx hown (mvT hZ w1) (mvT hZ w2) (mvT hZ w3) (mvT hZ w4) hy (backOf (W := W) hM hZ w4 w3 hf hl) hg hsize hlen hstack hW hdg (fun _ _ => ⟨rfl, eT, hc, hs⟩)
  dsimp only [Pt.U, Pt.locs, Pt.cells, Pt.slots] at X' q1 q2 q3 st hQ
  subst q1 q2 q3
  exact own_goW st (k v T' L X' hQ)
theorem own_callIW (X : Stand p l e R s m args below meth c T locs cells slots) (hx : p.tables.exec = Jvm.exec) (hZ : Z.Warmed39 s.vm) {own : String} {index : Nat} {y : MethodName} {bytes : ByteArray} {maxL : Nat} {rm : Room} (W : Nat) (hy1 : y.name = "<init>")
    (hown : s.vm.findClass own = some m.cls) (w1 : (Jvm.Cond.methodLink own index y).before a0 Z = true) (w2 : (Jvm.Cond.instanceMethod y).before a0 Z = true) (w3 : (Jvm.Cond.initialized y.cls).before a0 Z = true) (w4 : (Jvm.Cond.code y bytes maxL none).before a0 Z = true)
    (hy : y.cls ≠ "java/lang/invoke/MethodHandle" ∧ y.cls ≠ "java/lang/invoke/VarHandle") {a : Addr} {argsL rest : List Value} (hM : own_CT l Z y bytes maxL none [] rm (.ref a :: argsL).toArray h Qc)
    (hf : rm.frames + 1 ≤ R.frames) (hl : W + (maxL + 11) + rm.locals ≤ R.locals) (hc : cells + rm.cells ≤ R.cells) (hs : slots + rm.slots ≤ R.slots)
    {g : JFrame} (hg : g.method = m) (hsize : g.locals.size = c.maxLocals) (hlen : ∀ sig, parseMethodDescriptor y.desc = some sig → argsL.length = sig.parameters.length) (hstack : g.stack = argsL.reverse ++ .ref a :: rest) (hW : 2 * g.monitorRoom + (rest.map fun v => v.category).sum ≤ W)
    (hdg : decode c.code g.pc = .ok (.invokespecial index, 3)) (eT : T.heap = h)
    (k : ∀ (v : Option Value) (T' : State) (L : List Loc), Stand p l e R s m args below meth c T' (locs ++ L) (cells + rm.cells) (slots + rm.slots) → Qc v T'.heap L → GGW p e below s0 rc rs Q T' { g with pc := g.pc + 3, stack := v.toList ++ rest }) : GGW p e below s0 rc rs Q T g := by
  obtain ⟨v, vm₁, ⟨T', L', k', n'⟩, -, X', ⟨L, hQ, q1, q2, q3⟩, st⟩ := X.specialBack hx hy1 hown (mvT hZ w1) (mvT hZ w2) (mvT hZ w4) hy (backOf (W := W) hM hZ w4 w3 hf hl) hg hsize (Steps.refl _) hlen hstack hW hdg (fun _ _ => ⟨rfl, eT, hc, hs⟩)
  dsimp only [Pt.U, Pt.locs, Pt.cells, Pt.slots] at X' q1 q2 q3 st hQ
  subst q1 q2 q3
  exact own_goW (fun _ => st.trans) (k v T' L X' hQ)
theorem own_callVW (X : Stand p l e R s m args below meth c T locs cells slots) (hx : p.tables.exec = Jvm.exec) (hZ : Z.Warmed39 s.vm) {own C : String} {index : Nat} {y z : MethodName} {bytes : ByteArray} {maxL : Nat} {ret : Option FieldType} {rm : Room} (W : Nat)
    (hown : s.vm.findClass own = some m.cls) (w1 : (Jvm.Cond.methodLink own index y).before a0 Z = true) (w2 : (Jvm.Cond.declares y).before a0 Z = true) (hnf : NotFace s y) (w5 : (Jvm.Cond.selects C y z).before a0 Z = true) (w6 : (Jvm.Cond.instanceMethod z).before a0 Z = true) (w3 : (Jvm.Cond.initialized z.cls).before a0 Z = true) (w4 : (Jvm.Cond.code z bytes maxL ret).before a0 Z = true)
    (hy : y.cls ≠ "java/lang/invoke/MethodHandle" ∧ y.cls ≠ "java/lang/invoke/VarHandle") {a : Addr} {argsL rest : List Value} (hM : own_CT l Z z bytes maxL ret [] rm (.ref a :: argsL).toArray h Qc)
    (hf : rm.frames + 1 ≤ R.frames) (hl : W + (maxL + 11) + rm.locals ≤ R.locals) (hc : cells + rm.cells ≤ R.cells) (hs : slots + rm.slots ≤ R.slots) (E : Exa Z h a C)
    {g : JFrame} (hg : g.method = m) (hsize : g.locals.size = c.maxLocals) (hlen : ∀ sig, parseMethodDescriptor y.desc = some sig → argsL.length = sig.parameters.length) (hstack : g.stack = argsL.reverse ++ .ref a :: rest) (hW : 2 * g.monitorRoom + (rest.map fun v => v.category).sum ≤ W)
    (hdg : decode c.code g.pc = .ok (.invokevirtual index, 3)) (eT : T.heap = h)
    (k : ∀ (v : Option Value) (T' : State) (L : List Loc), Stand p l e R s m args below meth c T' (locs ++ L) (cells + rm.cells) (slots + rm.slots) → Qc v T'.heap L → GGW p e below s0 rc rs Q T' { g with pc := g.pc + 3, stack := v.toList ++ rest }) : GGW p e below s0 rc rs Q T g := by
  obtain ⟨cq, kq, qa, qb, qc⟩ := isOf hZ eT E
  obtain ⟨v, vm₁, ⟨T', L', k', n'⟩, -, X', ⟨L, hQ, q1, q2, q3⟩, st⟩ := X.virtualBack hx hown (mvT hZ w1) (mvT hZ w2) hnf (mvT hZ w5) (mvT hZ w6) hy (backOf (W := W) hM hZ w4 w3 hf hl) qa qc hg hsize (Steps.refl _) hlen hstack hW hdg (fun _ _ => ⟨rfl, eT, hc, hs⟩)
  dsimp only [Pt.U, Pt.locs, Pt.cells, Pt.slots] at X' q1 q2 q3 st hQ
  subst q1 q2 q3
  exact own_goW (fun _ => st.trans) (k v T' L X' hQ)
abbrev own_CTW (l : Launch) (Z : State) (y : MethodName) (bytes : ByteArray) (maxL : Nat) (ret : Option FieldType) (ws : List Jvm.Cond) (rm : Room) (as : Array Value) (h : Heap) (Qc : Option Value → Heap → List Loc → Prop) : Prop :=
  MetFree l y (head1 (Jvm.Cond.code y bytes maxL ret :: ws) rm) (fun a U => a = as ∧ Z.Warmed39 U.vm ∧ U.heap = h) (fun _ _ _ _ _ => True) (fun _ U o U' => ∃ v L, o = .returned v ∧ Qc v U'.heap L ∧ ReturnedEndW U o U' L rm.cells rm.slots)
theorem own_monoW {U U' : State} {o : Outcome} {L : List Loc} {k n k' n' : Nat} (q : ReturnedEndW U o U' L k n) (hc : k ≤ k') (hs : n ≤ n') : ReturnedEndW U o U' L k' n' := ⟨q.1, q.2.1, q.2.2.1, q.2.2.2.mono hc hs⟩
theorem own_callIX (X : Stand p l e R (s0.setVm vm0) m args below meth c T locs cells slots) (hx : p.tables.exec = Jvm.exec) (hZ : Z.Warmed39 (s0.setVm vm0).vm) (hS : s0.Since vm0 k0) (hk : k0 ≤ h.size) {own : String} {index : Nat} {y : MethodName} {bytes : ByteArray} {maxL : Nat} {rm : Room} (W : Nat) (hy1 : y.name = "<init>")
    (hown : (s0.setVm vm0).vm.findClass own = some m.cls) (w1 : (Jvm.Cond.methodLink own index y).before a0 Z = true) (w2 : (Jvm.Cond.instanceMethod y).before a0 Z = true) (w3 : (Jvm.Cond.initialized y.cls).before a0 Z = true) (w4 : (Jvm.Cond.code y bytes maxL none).before a0 Z = true)
    (hy : y.cls ≠ "java/lang/invoke/MethodHandle" ∧ y.cls ≠ "java/lang/invoke/VarHandle") {a : Addr} {argsL rest : List Value} (hM : own_CTW l Z y bytes maxL none [] rm (.ref a :: argsL).toArray h Qc)
    (hf : rm.frames + 1 ≤ R.frames) (hl : W + (maxL + 11) + rm.locals ≤ R.locals) (hc : cells + rm.cells ≤ R.cells) (hs : slots + rm.slots ≤ R.slots)
    {g : JFrame} (hg : g.method = m) (hsize : g.locals.size = c.maxLocals) (hlen : ∀ sig, parseMethodDescriptor y.desc = some sig → argsL.length = sig.parameters.length) (hstack : g.stack = argsL.reverse ++ .ref a :: rest) (hW : 2 * g.monitorRoom + (rest.map fun v => v.category).sum ≤ W)
    (hdg : decode c.code g.pc = .ok (.invokespecial index, 3)) (eT : T.heap = h)
    (k : ∀ (v : Option Value) (T' : State) (L : List Loc) (k1 : Nat), Stand p l e R (s0.setVm T'.vm) m args below meth c T' (locs ++ L) (cells + rm.cells) (slots + rm.slots) → s0.Since T'.vm k1 → k1 ≤ T'.heap.size → Z.Warmed39 (s0.setVm T'.vm).vm → (s0.setVm T'.vm).vm.findClass own = some m.cls → Qc v T'.heap L → GGW p e below s0 rc rs Q T' { g with pc := g.pc + 3, stack := v.toList ++ rest }) : GGW p e below s0 rc rs Q T g := by
  obtain ⟨v, vm₁, ⟨T', L', k', n'⟩, -, X', hS', hgr, ⟨L, hQ, q1, q2, q3⟩, st⟩ := X.specialBackS hx hy1 hown (mvT hZ w1) (mvT hZ w2) (mvT hZ w4) hy (backOfS (W := W) hM hZ w4 w3 hf hl) hg hsize (Steps.refl _) hlen hstack hW hdg (fun _ _ => ⟨rfl, eT, hc, hs⟩)
  dsimp only [Pt.U, Pt.locs, Pt.cells, Pt.slots] at X' hS' hgr q1 q2 q3 st hQ
  subst q1 q2 q3
  obtain ⟨X2, S2, Z2, o2⟩ := rebS hS (n1 := T.heap.size) (by rw [eT]; exact hk) X' hS' hgr hZ hown
  exact own_goW (fun _ => st.trans) (k v T' L _ X2 S2 (Nat.le_refl _) Z2 o2 hQ)
theorem own_retW (X : Stand p l e R (s0.setVm vm0) m args below meth c T locs cells slots) (hS : s0.Since vm0 k0) (eT : T.heap = h) (hk : k0 ≤ h.size) (hx : p.tables.exec = Jvm.exec) (hlk : meth.locks = false) {t : FieldType} {w : Value} {i : Instr} {pc : Nat} {Ls : Array Slot} {rest : List Value} (hret : meth.sig.returnType = some t) (hn : narrow t w = w)
    (hi : (i = .ireturn ∧ (t = .int ∨ t = .boolean ∨ t = .byte ∨ t = .char ∨ t = .short) ∧ ∃ z, w = .int z) ∨ (i = .lreturn ∧ t = .long ∧ ∃ z, w = .long z) ∨ (i = .dreturn ∧ t = .double ∧ ∃ z, w = .double z) ∨ (i = .freturn ∧ t = .float ∧ ∃ z, w = .float z) ∨ (i = .areturn ∧ t.isReference = true ∧ w.isRef = true))
    (hd : decode c.code pc = .ok (i, 1)) (hc : cells ≤ rc) (hs : slots ≤ rs) (hQ : Q (some w) T.heap locs) : GGW p e below s0 rc rs Q T (mkF m pc Ls (w :: rest)) := by
  obtain ⟨fs, hr, hrun, hended, hW⟩ := X.leaveW hS (by rw [eT]; exact hk) (v := some w) (fun h => by rw [hret] at h; cases h) hlk
  exact ⟨_, _, retOut X hx hret hn hi hd hr, hrun, hended, _, _, rfl, hQ, own_monoW hW hc hs⟩
theorem own_retVW (X : Stand p l e R (s0.setVm vm0) m args below meth c T locs cells slots) (hS : s0.Since vm0 k0) (eT : T.heap = h) (hk : k0 ≤ h.size) (hx : p.tables.exec = Jvm.exec) (hlk : meth.locks = false) {pc : Nat} {Ls : Array Slot} (hret : meth.sig.returnType = none)
    (hd : decode c.code pc = .ok (.return_, 1)) (hc : cells ≤ rc) (hs : slots ≤ rs) (hQ : Q none T.heap locs) : GGW p e below s0 rc rs Q T (mkF m pc Ls []) := by
  obtain ⟨fs, hr, hrun, hended, hW⟩ := X.leaveW hS (by rw [eT]; exact hk) (v := none) (fun _ => rfl) hlk
  exact ⟨_, _, X.returnOut hx hret hd hr, hrun, hended, _, _, rfl, hQ, own_monoW hW hc hs⟩
theorem own_wrsz {a : Addr} {sl : Nat} {v : Value} (W : Wr h h' a sl v) : h.size ≤ h'.size := (Keep.of_wr W).1
end OwnW
theorem own_wS {Z : State} {a0 : Array Value} (hw : ∀ d ∈ tables_1, d.before a0 Z = true) : ∀ a ∈ Bundle.stringAtoms, a.before a0 Z = true := fun d hd => by
  simp only [Bundle.stringAtoms, List.mem_cons, List.not_mem_nil, or_false] at hd
  rcases hd with rfl | rfl | rfl | rfl | rfl | rfl | rfl
  · exact hw _ (List.mem_of_getElem? (i := 4) rfl)
  · exact hw _ (List.mem_of_getElem? (i := 5) rfl)
  · exact hw _ (List.mem_of_getElem? (i := 6) rfl)
  · exact hw _ (List.mem_of_getElem? (i := 7) rfl)
  · exact hw _ (List.mem_of_getElem? (i := 8) rfl)
  · exact hw _ (List.mem_of_getElem? (i := 9) rfl)
  · exact hw _ (List.mem_of_getElem? (i := 10) rfl)
def own_EL : List (String × Nat) := [("com/example/tracemark/tracemark/model/FeatureNonPositionalPinLaw", 9)]
theorem own_EW {Z : State} {a0 : Array Value} (hw : ∀ d ∈ tables_1, d.before a0 Z = true) : EW Z a0 own_EL := EW.cons (text := "") (hw _ (List.mem_of_getElem? (i := 3) rfl)) (by decide) EW.nil
abbrev own_CTL (l : Launch) (Z : State) (y : MethodName) (bytes : ByteArray) (maxL : Nat) (ret : Option FieldType) (ws : List Jvm.Cond) (rm : Room) (as : Array Value) (h : Heap) (Qc : Option Value → Heap → List Loc → Prop) : Prop :=
  MetFree l y (head1 (Jvm.Cond.code y bytes maxL ret :: ws) rm) (fun a U => a = as ∧ Z.Warmed39 U.vm ∧ U.heap = h ∧ CHv Z own_EL U.vm h) (fun _ _ _ _ _ => True) (fun _ U o U' => ∃ v L, o = .returned v ∧ Qc v U'.heap L ∧ ReturnedEndW U o U' L rm.cells rm.slots)
theorem own_insAny {Z s : State} {a0 : Array Value} {h : Heap} {a : Addr} {own K C : String} {index cid : Nat} (hZ : Z.Warmed39 s.vm) (hown : s.vm.findClass own = some cid) (w : (Jvm.Cond.classLink own index K).before a0 Z = true) (E : Exa Z h a C) : Ins Z h a K true ∨ ∃ c t, Z.vm.findClass C = some c ∧ Z.vm.findClass K = some t ∧ Z.vm.assignable c t = false := by
  obtain ⟨cell, k, h1, h2, h3, h4, h5⟩ := E
  rw [hZ.alike.findClass] at hown
  obtain ⟨t, hK, -⟩ := Cond.classLink_spec hown w {} rfl
  cases hq : Z.vm.assignable cell.cls t with
  | true => exact Or.inl ⟨cell, t, h1, hK, by simp [h4, hq]⟩
  | false => exact Or.inr ⟨_, t, h2, hK, hq⟩
theorem own_np {a b r x : Int32} (hr : (r = 1 ∧ a = 0 ∧ b = 0) ∨ (r = 0 ∧ ¬ (a = 0 ∧ b = 0))) (hx : (if (a ||| b) = 0 then (1 : Int32) else 0) = x) : r = x := by
  rcases hr with ⟨rfl, rfl, rfl⟩ | ⟨rfl, q⟩
  · rw [← hx]; rfl
  · rw [← hx, if_neg]
    intro z
    have y : a.toBitVec ||| b.toBitVec = 0#32 := by
      have := congrArg Int32.toBitVec z
      simpa using this
    rw [BitVec.or_eq_zero_iff] at y
    exact q ⟨Int32.toBitVec_inj.mp y.1, Int32.toBitVec_inj.mp y.2⟩
theorem own_efld {args : Array Value} {s : State} {t : Term} {x : Addr} {O f d : String} {k : Int32} (ev : t.eval args s none [] s = some (.ref x)) (h : (Jvm.Cond.eq (Jvm.Term.field t O f d) (Jvm.Term.int k)).value args s none s [] = some true) : Fld s s.heap x O f d (.int k) := by
  obtain ⟨v, w, h1, h2, k1, k2⟩ := cmp_v (Or.inl h)
  obtain rfl : Value.int k = w := Option.some.inj h2
  obtain ⟨z, rfl⟩ := k2
  have q : z = k := by simpa [Cond.value, h1, h2] using h
  subst q
  rw [fld_at ev] at h1
  exact Fld.start h1
theorem own_nonz {args : Array Value} {s : State} {t : Term} {z : Int32} (ev : t.eval args s none [] s = some (.int z)) (h : (Jvm.Cond.not (Jvm.Cond.eq t (Jvm.Term.int (0 : Int32)))).value args s none s [] = some true) : ¬ (z = (0 : Int32)) := by
  have q := not_v h
  simpa [Cond.value, ev, show (Jvm.Term.int (0 : Int32)).eval args s none [] s = some (.int 0) from rfl] using q
theorem d6_0 : decode jdk_42_method_152_code 0 = .ok (.getstatic 38, 3) := by decide +kernel
theorem d6_3 : decode jdk_42_method_152_code 3 = .ok (.ifCond .eq 10, 3) := by decide +kernel
theorem d6_6 : decode jdk_42_method_152_code 6 = .ok (.aload_n 0, 1) := by decide +kernel
theorem d6_7 : decode jdk_42_method_152_code 7 = .ok (.getfield 15, 3) := by decide +kernel
theorem d6_10 : decode jdk_42_method_152_code 10 = .ok (.goto 4, 3) := by decide +kernel
theorem d6_14 : decode jdk_42_method_152_code 14 = .ok (.ireturn, 1) := by decide +kernel
theorem pn_java_lang_String : plainName "java/lang/String" = true := by first | (simp [plainName, overriddenIn]; done) | decide +kernel
theorem ef_6 (m : MethodId) (x0 : Addr) : entryFrame m #[(.ref x0)] 1 = mkF m 0 #[.val (.ref x0)] [] := by first | (simp [entryFrame, mkF, argsToLocals, Value.category]; done) | rfl
def Q6 (Z : State) (a1 : Addr) (b1 : Addr) (cs : Int32) (h0 : Heap) (n0 : Nat) (v : Option Value) (h : Heap) (L : List Loc) : Prop := v = some (.int (0 : Int32)) ∧ Fr n0 L ∧ h = h0
set_option maxRecDepth 65536 in
set_option maxHeartbeats 40000000 in
theorem rm6 (l : Launch) (Z : State) (a0 : Array Value) (hw : ∀ d ∈ tables_1, d.before a0 Z = true) (ws : List Jvm.Cond) (a1 : Addr) (b1 : Addr) (cs : Int32) (h0 : Heap) (n0 : Nat) (Z0 : n0 ≤ h0.size) (E_a : Exa Z h0 a1 "java/lang/String") (F_c : Fld Z h0 a1 "java/lang/String" "coder" "B" (.int (0 : Int32))) (F_v : Fld Z h0 a1 "java/lang/String" "value" "[B" (.ref b1)) (V_b : Arx Z h0 b1 .byte []) (S_C : Sta Z h0 "java/lang/String" "COMPACT_STRINGS" "Z" (.int cs)) (hcs : ¬ (cs = (0 : Int32))) :
    own_CT l Z (⟨"java/lang/String", "coder", "()B"⟩ : MethodName) jdk_42_method_152_code 1 (some .byte) ws ({ frames := 0, cells := 0, slots := 0, locals := 0 } : Room) #[(.ref a1)] h0 (Q6 Z a1 b1 cs h0 n0) := by
  refine MetFree.of_bodySF (plainFor_of_name pn_java_lang_String) hisR ?_
  intro p e s m args below meth c s₁ Bd hml0 hP hK
  obtain ⟨rfl, hZ, hh⟩ := hP
  have hx := Bd.exec
  have hby := Bd.bytes
  have hml : c.maxLocals = 1 := hml0
  have hown : s.vm.findClass "java/lang/String" = some m.cls := findClass_of_methodNamed Bd.named
  have hnm := (name_of_methodNamed Bd.named Bd.method).1
  have hlk : meth.locks = false := BodyLoose.notSynchronized Bd
  have X0 : Stand p l e ({ frames := 0, cells := 0, slots := 0, locals := 0 } : Room) s m #[(.ref a1)] below meth c s₁ [] 0 0 := Stand.of_body Bd
  have e0 : s₁.heap = h0 := by rw [← hh, Bd.state]; rfl
  have N0 := Fr.nil n0
  show GG p e below s ({ frames := 0, cells := 0, slots := 0, locals := 0 } : Room).cells ({ frames := 0, cells := 0, slots := 0, locals := 0 } : Room).slots (Q6 Z a1 b1 cs h0 n0) s₁ (entryFrame m #[(.ref a1)] 1)
  refine own_in (ef_6 m a1) ?_
  show GG _ _ _ _ _ _ _ s₁ (mkF m 0 #[.val (.ref a1)] [])
  obtain ⟨T1, X1, e1, st1⟩ := getS2 X0 hx hZ hown (host := "") (Or.inl (hw _ (List.mem_of_getElem? (i := 38) rfl))) Via.refl e0 S_C (g := (mkF m 0 #[.val (.ref a1)] [])) rfl (hb hby d6_0)
  refine own_go (fun _ => st1 _) ?_
  show GG _ _ _ _ _ _ _ T1 (mkF m 3 #[.val (.ref a1)] [(.int cs)])
  have hc3 : ¬ (cs = (0 : Int32)) := hcs
  refine own_go (fun _ => XS.ifNo X1.here hx rfl (hb hby d6_3) rfl ((if0 _ _).trans (feq hc3).1)) ?_
  show GG _ _ _ _ _ _ _ T1 (mkF m 6 #[.val (.ref a1)] [])
  refine own_go (fun _ => XS.aloadN X1.here hx rfl (hb hby d6_6) rfl rfl) ?_
  show GG _ _ _ _ _ _ _ T1 (mkF m 7 #[.val (.ref a1)] [(.ref a1)])
  obtain ⟨T2, X2, e2, st2⟩ := getF X1 hx hZ hown (host := "") (Or.inl (hw _ (List.mem_of_getElem? (i := 39) rfl))) Via.refl e1 F_c (g := (mkF m 7 #[.val (.ref a1)] [(.ref a1)])) rfl rfl (hb hby d6_7)
  refine own_go (fun _ => st2 _) ?_
  show GG _ _ _ _ _ _ _ T2 (mkF m 10 #[.val (.ref a1)] [(.int (0 : Int32))])
  refine own_go (fun _ => XS.goto X2.here hx rfl (pc0 := 10) (pc' := 14) rfl (hb hby d6_10) (by decide) (by decide)) ?_
  show GG _ _ _ _ _ _ _ T2 (mkF m 14 #[.val (.ref a1)] [(.int (0 : Int32))])
  refine own_ret X2 hx hlk (t := .byte) (w := (.int (0 : Int32))) Bd.returns rfl (Or.inl ⟨rfl, by simp, _, rfl⟩) (hb hby d6_14) (by decide) (by decide) ?_
  show Q6 Z a1 b1 cs h0 n0 (some (.int (0 : Int32))) T2.heap _
  rw [e2]
  exact ⟨rfl, N0, rfl⟩
theorem pd___B_147 : parseMethodDescriptor "()B" = some ⟨[], some .byte⟩ := by decide +kernel
theorem d5_0 : decode jdk_42_method_54_code 0 = .ok (.aload_n 0, 1) := by decide +kernel
theorem d5_1 : decode jdk_42_method_54_code 1 = .ok (.getfield 9, 3) := by decide +kernel
theorem d5_4 : decode jdk_42_method_54_code 4 = .ok (.arraylength, 1) := by decide +kernel
theorem d5_5 : decode jdk_42_method_54_code 5 = .ok (.aload_n 0, 1) := by decide +kernel
theorem d5_6 : decode jdk_42_method_54_code 6 = .ok (.invokevirtual 335, 3) := by decide +kernel
theorem d5_9 : decode jdk_42_method_54_code 9 = .ok (.ishr, 1) := by decide +kernel
theorem d5_10 : decode jdk_42_method_54_code 10 = .ok (.ireturn, 1) := by decide +kernel
theorem ef_5 (m : MethodId) (x0 : Addr) : entryFrame m #[(.ref x0)] 1 = mkF m 0 #[.val (.ref x0)] [] := by first | (simp [entryFrame, mkF, argsToLocals, Value.category]; done) | rfl
def Q5 (Z : State) (a1 : Addr) (b1 : Addr) (cs : Int32) (h0 : Heap) (n0 : Nat) (v : Option Value) (h : Heap) (L : List Loc) : Prop := v = some (.int (0 : Int32)) ∧ Fr n0 L ∧ h = h0
set_option maxRecDepth 65536 in
set_option maxHeartbeats 40000000 in
theorem rm5 (l : Launch) (Z : State) (a0 : Array Value) (hw : ∀ d ∈ tables_1, d.before a0 Z = true) (ws : List Jvm.Cond) (a1 : Addr) (b1 : Addr) (cs : Int32) (h0 : Heap) (n0 : Nat) (Z0 : n0 ≤ h0.size) (E_a : Exa Z h0 a1 "java/lang/String") (F_c : Fld Z h0 a1 "java/lang/String" "coder" "B" (.int (0 : Int32))) (F_v : Fld Z h0 a1 "java/lang/String" "value" "[B" (.ref b1)) (V_b : Arx Z h0 b1 .byte []) (S_C : Sta Z h0 "java/lang/String" "COMPACT_STRINGS" "Z" (.int cs)) (hcs : ¬ (cs = (0 : Int32))) :
    own_CT l Z (⟨"java/lang/String", "length", "()I"⟩ : MethodName) jdk_42_method_54_code 1 (some .int) ws ({ frames := 1, cells := 0, slots := 0, locals := 13 } : Room) #[(.ref a1)] h0 (Q5 Z a1 b1 cs h0 n0) := by
  refine MetFree.of_bodySF (plainFor_of_name pn_java_lang_String) hisR ?_
  intro p e s m args below meth c s₁ Bd hml0 hP hK
  obtain ⟨rfl, hZ, hh⟩ := hP
  have hx := Bd.exec
  have hby := Bd.bytes
  have hml : c.maxLocals = 1 := hml0
  have hown : s.vm.findClass "java/lang/String" = some m.cls := findClass_of_methodNamed Bd.named
  have hnm := (name_of_methodNamed Bd.named Bd.method).1
  have hlk : meth.locks = false := BodyLoose.notSynchronized Bd
  have X0 : Stand p l e ({ frames := 1, cells := 0, slots := 0, locals := 13 } : Room) s m #[(.ref a1)] below meth c s₁ [] 0 0 := Stand.of_body Bd
  have e0 : s₁.heap = h0 := by rw [← hh, Bd.state]; rfl
  have N0 := Fr.nil n0
  show GG p e below s ({ frames := 1, cells := 0, slots := 0, locals := 13 } : Room).cells ({ frames := 1, cells := 0, slots := 0, locals := 13 } : Room).slots (Q5 Z a1 b1 cs h0 n0) s₁ (entryFrame m #[(.ref a1)] 1)
  refine own_in (ef_5 m a1) ?_
  show GG _ _ _ _ _ _ _ s₁ (mkF m 0 #[.val (.ref a1)] [])
  refine own_go (fun _ => XS.aloadN X0.here hx rfl (hb hby d5_0) rfl rfl) ?_
  show GG _ _ _ _ _ _ _ s₁ (mkF m 1 #[.val (.ref a1)] [(.ref a1)])
  obtain ⟨T1, X1, e1, st1⟩ := getF X0 hx hZ hown (host := "") (Or.inl (hw _ (List.mem_of_getElem? (i := 32) rfl))) Via.refl e0 F_v (g := (mkF m 1 #[.val (.ref a1)] [(.ref a1)])) rfl rfl (hb hby d5_1)
  refine own_go (fun _ => st1 _) ?_
  show GG _ _ _ _ _ _ _ T1 (mkF m 4 #[.val (.ref a1)] [(.ref b1)])
  refine own_go (fun _ => own_len X1 hx hZ e1 V_b (g := (mkF m 4 #[.val (.ref a1)] [(.ref b1)])) rfl rfl (hb hby d5_4) _) ?_
  show GG _ _ _ _ _ _ _ T1 (mkF m 5 #[.val (.ref a1)] [(.int (0 : Int32))])
  refine own_go (fun _ => XS.aloadN X1.here hx rfl (hb hby d5_5) rfl rfl) ?_
  show GG _ _ _ _ _ _ _ T1 (mkF m 6 #[.val (.ref a1)] [(.ref a1), (.int (0 : Int32))])
  refine own_callV X1 hx hZ (y := (⟨"java/lang/String", "coder", "()B"⟩ : MethodName)) (z := (⟨"java/lang/String", "coder", "()B"⟩ : MethodName)) 1 hown (hw _ (List.mem_of_getElem? (i := 33) rfl)) (hw _ (List.mem_of_getElem? (i := 34) rfl)) (notFace_of_selects (args := #[]) (mvT hZ (hw _ (List.mem_of_getElem? (i := 36) rfl)))) (hw _ (List.mem_of_getElem? (i := 36) rfl)) (hw _ (List.mem_of_getElem? (i := 35) rfl)) (hw _ (List.mem_of_getElem? (i := 4) rfl)) (hw _ (List.mem_of_getElem? (i := 37) rfl)) (by decide) (a := a1) (argsL := []) (rest := [(.int (0 : Int32))]) (rm6 l Z a0 hw [] a1 b1 cs h0 n0 Z0 E_a F_c F_v V_b S_C hcs) (by decide) (by decide) (by decide) (by decide) E_a (g := (mkF m 6 #[.val (.ref a1)] [(.ref a1), (.int (0 : Int32))])) rfl (by rw [hml]; rfl) (lenOf pd___B_147 rfl) rfl (by show 2 * 0 + _ ≤ _; exact Nat.le_of_eq rfl) (hb hby d5_6) e1 ?_
  rintro v2 T2 L2 X2 ⟨rfl, N2q, hh2⟩
  have N2 := Fr.app N0 N2q
  show GG _ _ _ _ _ _ _ T2 (mkF m 9 #[.val (.ref a1)] [(.int (0 : Int32)), (.int (0 : Int32))])
  refine own_go (fun _ => XS.ishr X2.here hx rfl (hb hby d5_9) rfl) ?_
  show GG _ _ _ _ _ _ _ T2 (mkF m 10 #[.val (.ref a1)] [(.int (0 : Int32))])
  refine own_ret X2 hx hlk (t := .int) (w := (.int (0 : Int32))) Bd.returns rfl (Or.inl ⟨rfl, by simp, _, rfl⟩) (hb hby d5_10) (by decide) (by decide) ?_
  show Q5 Z a1 b1 cs h0 n0 (some (.int (0 : Int32))) T2.heap _
  rw [hh2]
  exact ⟨rfl, N2, rfl⟩
theorem pd___I_154 : parseMethodDescriptor "()I" = some ⟨[], some .int⟩ := by decide +kernel
theorem d4_0 : decode prog_60_method_4_code 0 = .ok (.iload_n 1, 1) := by decide +kernel
theorem d4_1 : decode prog_60_method_4_code 1 = .ok (.aload_n 0, 1) := by decide +kernel
theorem d4_2 : decode prog_60_method_4_code 2 = .ok (.invokevirtual 40, 3) := by decide +kernel
theorem d4_5 : decode prog_60_method_4_code 5 = .ok (.if_icmp .ge 29, 3) := by decide +kernel
theorem d4_34 : decode prog_60_method_4_code 34 = .ok (.iload_n 1, 1) := by decide +kernel
theorem d4_35 : decode prog_60_method_4_code 35 = .ok (.ireturn, 1) := by decide +kernel
theorem pn_com_example_tracemark_tracemark_model_Decimals : plainName "com/example/tracemark/tracemark/model/Decimals" = true := by first | (simp [plainName, overriddenIn]; done) | decide +kernel
theorem ef_4 (m : MethodId) (x0 : Addr) (x1 : Int32) : entryFrame m #[(.ref x0), (.int x1)] 2 = mkF m 0 #[.val (.ref x0), .val (.int x1)] [] := by first | (simp [entryFrame, mkF, argsToLocals, Value.category]; done) | rfl
def Q4 (Z : State) (a1 : Addr) (b1 : Addr) (cs : Int32) (h0 : Heap) (n0 : Nat) (v : Option Value) (h : Heap) (L : List Loc) : Prop := v = some (.int (0 : Int32)) ∧ Fr n0 L ∧ h = h0
set_option maxRecDepth 65536 in
set_option maxHeartbeats 40000000 in
theorem rm4 (l : Launch) (Z : State) (a0 : Array Value) (hw : ∀ d ∈ tables_1, d.before a0 Z = true) (ws : List Jvm.Cond) (a1 : Addr) (b1 : Addr) (cs : Int32) (h0 : Heap) (n0 : Nat) (Z0 : n0 ≤ h0.size) (E_a : Exa Z h0 a1 "java/lang/String") (F_c : Fld Z h0 a1 "java/lang/String" "coder" "B" (.int (0 : Int32))) (F_v : Fld Z h0 a1 "java/lang/String" "value" "[B" (.ref b1)) (V_b : Arx Z h0 b1 .byte []) (S_C : Sta Z h0 "java/lang/String" "COMPACT_STRINGS" "Z" (.int cs)) (hcs : ¬ (cs = (0 : Int32))) :
    own_CT l Z (⟨"com/example/tracemark/tracemark/model/Decimals", "sign", "(Ljava/lang/String;I)I"⟩ : MethodName) prog_60_method_4_code 2 (some .int) ws ({ frames := 2, cells := 0, slots := 0, locals := 26 } : Room) #[(.ref a1), (.int (0 : Int32))] h0 (Q4 Z a1 b1 cs h0 n0) := by
  refine MetFree.of_bodySF (plainFor_of_name pn_com_example_tracemark_tracemark_model_Decimals) hisR ?_
  intro p e s m args below meth c s₁ Bd hml0 hP hK
  obtain ⟨rfl, hZ, hh⟩ := hP
  have hx := Bd.exec
  have hby := Bd.bytes
  have hml : c.maxLocals = 2 := hml0
  have hown : s.vm.findClass "com/example/tracemark/tracemark/model/Decimals" = some m.cls := findClass_of_methodNamed Bd.named
  have hnm := (name_of_methodNamed Bd.named Bd.method).1
  have hlk : meth.locks = false := BodyLoose.notSynchronized Bd
  have X0 : Stand p l e ({ frames := 2, cells := 0, slots := 0, locals := 26 } : Room) s m #[(.ref a1), (.int (0 : Int32))] below meth c s₁ [] 0 0 := Stand.of_body Bd
  have e0 : s₁.heap = h0 := by rw [← hh, Bd.state]; rfl
  have N0 := Fr.nil n0
  show GG p e below s ({ frames := 2, cells := 0, slots := 0, locals := 26 } : Room).cells ({ frames := 2, cells := 0, slots := 0, locals := 26 } : Room).slots (Q4 Z a1 b1 cs h0 n0) s₁ (entryFrame m #[(.ref a1), (.int (0 : Int32))] 2)
  refine own_in (ef_4 m a1 (0 : Int32)) ?_
  show GG _ _ _ _ _ _ _ s₁ (mkF m 0 #[.val (.ref a1), .val (.int (0 : Int32))] [])
  refine own_go (fun _ => XS.iloadN X0.here hx rfl (hb hby d4_0) rfl) ?_
  show GG _ _ _ _ _ _ _ s₁ (mkF m 1 #[.val (.ref a1), .val (.int (0 : Int32))] [(.int (0 : Int32))])
  refine own_go (fun _ => XS.aloadN X0.here hx rfl (hb hby d4_1) rfl rfl) ?_
  show GG _ _ _ _ _ _ _ s₁ (mkF m 2 #[.val (.ref a1), .val (.int (0 : Int32))] [(.ref a1), (.int (0 : Int32))])
  refine own_callV X0 hx hZ (y := (⟨"java/lang/String", "length", "()I"⟩ : MethodName)) (z := (⟨"java/lang/String", "length", "()I"⟩ : MethodName)) 1 hown (hw _ (List.mem_of_getElem? (i := 27) rfl)) (hw _ (List.mem_of_getElem? (i := 28) rfl)) (notFace_of_selects (args := #[]) (mvT hZ (hw _ (List.mem_of_getElem? (i := 30) rfl)))) (hw _ (List.mem_of_getElem? (i := 30) rfl)) (hw _ (List.mem_of_getElem? (i := 29) rfl)) (hw _ (List.mem_of_getElem? (i := 4) rfl)) (hw _ (List.mem_of_getElem? (i := 31) rfl)) (by decide) (a := a1) (argsL := []) (rest := [(.int (0 : Int32))]) (rm5 l Z a0 hw [] a1 b1 cs h0 n0 Z0 E_a F_c F_v V_b S_C hcs) (by decide) (by decide) (by decide) (by decide) E_a (g := (mkF m 2 #[.val (.ref a1), .val (.int (0 : Int32))] [(.ref a1), (.int (0 : Int32))])) rfl (by rw [hml]; rfl) (lenOf pd___I_154 rfl) rfl (by show 2 * 0 + _ ≤ _; exact Nat.le_of_eq rfl) (hb hby d4_2) e0 ?_
  rintro v1 T1 L1 X1 ⟨rfl, N1q, hh1⟩
  have N1 := Fr.app N0 N1q
  show GG _ _ _ _ _ _ _ T1 (mkF m 5 #[.val (.ref a1), .val (.int (0 : Int32))] [(.int (0 : Int32)), (.int (0 : Int32))])
  have hc5 : ¬ ((0 : Int32) < (0 : Int32)) := by decide
  refine own_go (fun _ => XS.icmpYes X1.here hx rfl (pc0 := 5) (pc' := 34) rfl (hb hby d4_5) rfl (flt hc5).2.1 (by decide) (by decide)) ?_
  show GG _ _ _ _ _ _ _ T1 (mkF m 34 #[.val (.ref a1), .val (.int (0 : Int32))] [])
  refine own_go (fun _ => XS.iloadN X1.here hx rfl (hb hby d4_34) rfl) ?_
  show GG _ _ _ _ _ _ _ T1 (mkF m 35 #[.val (.ref a1), .val (.int (0 : Int32))] [(.int (0 : Int32))])
  refine own_ret X1 hx hlk (t := .int) (w := (.int (0 : Int32))) Bd.returns rfl (Or.inl ⟨rfl, by simp, _, rfl⟩) (hb hby d4_35) (by decide) (by decide) ?_
  show Q4 Z a1 b1 cs h0 n0 (some (.int (0 : Int32))) T1.heap _
  rw [hh1]
  exact ⟨rfl, N1, rfl⟩
theorem d7_0 : decode prog_60_method_5_code 0 = .ok (.iload_n 1, 1) := by decide +kernel
theorem d7_1 : decode prog_60_method_5_code 1 = .ok (.istore_n 2, 1) := by decide +kernel
theorem d7_2 : decode prog_60_method_5_code 2 = .ok (.iload_n 2, 1) := by decide +kernel
theorem d7_3 : decode prog_60_method_5_code 3 = .ok (.aload_n 0, 1) := by decide +kernel
theorem d7_4 : decode prog_60_method_5_code 4 = .ok (.invokevirtual 40, 3) := by decide +kernel
theorem d7_7 : decode prog_60_method_5_code 7 = .ok (.if_icmp .ge 29, 3) := by decide +kernel
theorem d7_36 : decode prog_60_method_5_code 36 = .ok (.iload_n 2, 1) := by decide +kernel
theorem d7_37 : decode prog_60_method_5_code 37 = .ok (.iload_n 1, 1) := by decide +kernel
theorem d7_38 : decode prog_60_method_5_code 38 = .ok (.if_icmp .le 7, 3) := by decide +kernel
theorem d7_45 : decode prog_60_method_5_code 45 = .ok (.iconst (-1), 1) := by decide +kernel
theorem d7_46 : decode prog_60_method_5_code 46 = .ok (.ireturn, 1) := by decide +kernel
theorem ef_7 (m : MethodId) (x0 : Addr) (x1 : Int32) : entryFrame m #[(.ref x0), (.int x1)] 3 = mkF m 0 #[.val (.ref x0), .val (.int x1), .unset] [] := by first | (simp [entryFrame, mkF, argsToLocals, Value.category]; done) | rfl
def Q7 (Z : State) (a1 : Addr) (b1 : Addr) (cs : Int32) (h0 : Heap) (n0 : Nat) (v : Option Value) (h : Heap) (L : List Loc) : Prop := v = some (.int (-1 : Int32)) ∧ Fr n0 L ∧ h = h0
set_option maxRecDepth 65536 in
set_option maxHeartbeats 40000000 in
theorem rm7 (l : Launch) (Z : State) (a0 : Array Value) (hw : ∀ d ∈ tables_1, d.before a0 Z = true) (ws : List Jvm.Cond) (a1 : Addr) (b1 : Addr) (cs : Int32) (h0 : Heap) (n0 : Nat) (Z0 : n0 ≤ h0.size) (E_a : Exa Z h0 a1 "java/lang/String") (F_c : Fld Z h0 a1 "java/lang/String" "coder" "B" (.int (0 : Int32))) (F_v : Fld Z h0 a1 "java/lang/String" "value" "[B" (.ref b1)) (V_b : Arx Z h0 b1 .byte []) (S_C : Sta Z h0 "java/lang/String" "COMPACT_STRINGS" "Z" (.int cs)) (hcs : ¬ (cs = (0 : Int32))) :
    own_CT l Z (⟨"com/example/tracemark/tracemark/model/Decimals", "digits", "(Ljava/lang/String;I)I"⟩ : MethodName) prog_60_method_5_code 3 (some .int) ws ({ frames := 2, cells := 0, slots := 0, locals := 26 } : Room) #[(.ref a1), (.int (0 : Int32))] h0 (Q7 Z a1 b1 cs h0 n0) := by
  refine MetFree.of_bodySF (plainFor_of_name pn_com_example_tracemark_tracemark_model_Decimals) hisR ?_
  intro p e s m args below meth c s₁ Bd hml0 hP hK
  obtain ⟨rfl, hZ, hh⟩ := hP
  have hx := Bd.exec
  have hby := Bd.bytes
  have hml : c.maxLocals = 3 := hml0
  have hown : s.vm.findClass "com/example/tracemark/tracemark/model/Decimals" = some m.cls := findClass_of_methodNamed Bd.named
  have hnm := (name_of_methodNamed Bd.named Bd.method).1
  have hlk : meth.locks = false := BodyLoose.notSynchronized Bd
  have X0 : Stand p l e ({ frames := 2, cells := 0, slots := 0, locals := 26 } : Room) s m #[(.ref a1), (.int (0 : Int32))] below meth c s₁ [] 0 0 := Stand.of_body Bd
  have e0 : s₁.heap = h0 := by rw [← hh, Bd.state]; rfl
  have N0 := Fr.nil n0
  show GG p e below s ({ frames := 2, cells := 0, slots := 0, locals := 26 } : Room).cells ({ frames := 2, cells := 0, slots := 0, locals := 26 } : Room).slots (Q7 Z a1 b1 cs h0 n0) s₁ (entryFrame m #[(.ref a1), (.int (0 : Int32))] 3)
  refine own_in (ef_7 m a1 (0 : Int32)) ?_
  show GG _ _ _ _ _ _ _ s₁ (mkF m 0 #[.val (.ref a1), .val (.int (0 : Int32)), .unset] [])
  refine own_go (fun _ => XS.iloadN X0.here hx rfl (hb hby d7_0) rfl) ?_
  show GG _ _ _ _ _ _ _ s₁ (mkF m 1 #[.val (.ref a1), .val (.int (0 : Int32)), .unset] [(.int (0 : Int32))])
  refine own_go (fun _ => XS.istoreN X0.here hx rfl (hb hby d7_1) rfl (l' := #[.val (.ref a1), .val (.int (0 : Int32)), .val (.int (0 : Int32))]) rfl) ?_
  show GG _ _ _ _ _ _ _ s₁ (mkF m 2 #[.val (.ref a1), .val (.int (0 : Int32)), .val (.int (0 : Int32))] [])
  refine own_go (fun _ => XS.iloadN X0.here hx rfl (hb hby d7_2) rfl) ?_
  show GG _ _ _ _ _ _ _ s₁ (mkF m 3 #[.val (.ref a1), .val (.int (0 : Int32)), .val (.int (0 : Int32))] [(.int (0 : Int32))])
  refine own_go (fun _ => XS.aloadN X0.here hx rfl (hb hby d7_3) rfl rfl) ?_
  show GG _ _ _ _ _ _ _ s₁ (mkF m 4 #[.val (.ref a1), .val (.int (0 : Int32)), .val (.int (0 : Int32))] [(.ref a1), (.int (0 : Int32))])
  refine own_callV X0 hx hZ (y := (⟨"java/lang/String", "length", "()I"⟩ : MethodName)) (z := (⟨"java/lang/String", "length", "()I"⟩ : MethodName)) 1 hown (hw _ (List.mem_of_getElem? (i := 27) rfl)) (hw _ (List.mem_of_getElem? (i := 28) rfl)) (notFace_of_selects (args := #[]) (mvT hZ (hw _ (List.mem_of_getElem? (i := 30) rfl)))) (hw _ (List.mem_of_getElem? (i := 30) rfl)) (hw _ (List.mem_of_getElem? (i := 29) rfl)) (hw _ (List.mem_of_getElem? (i := 4) rfl)) (hw _ (List.mem_of_getElem? (i := 31) rfl)) (by decide) (a := a1) (argsL := []) (rest := [(.int (0 : Int32))]) (rm5 l Z a0 hw [] a1 b1 cs h0 n0 Z0 E_a F_c F_v V_b S_C hcs) (by decide) (by decide) (by decide) (by decide) E_a (g := (mkF m 4 #[.val (.ref a1), .val (.int (0 : Int32)), .val (.int (0 : Int32))] [(.ref a1), (.int (0 : Int32))])) rfl (by rw [hml]; rfl) (lenOf pd___I_154 rfl) rfl (by show 2 * 0 + _ ≤ _; exact Nat.le_of_eq rfl) (hb hby d7_4) e0 ?_
  rintro v1 T1 L1 X1 ⟨rfl, N1q, hh1⟩
  have N1 := Fr.app N0 N1q
  show GG _ _ _ _ _ _ _ T1 (mkF m 7 #[.val (.ref a1), .val (.int (0 : Int32)), .val (.int (0 : Int32))] [(.int (0 : Int32)), (.int (0 : Int32))])
  have hc7 : ¬ ((0 : Int32) < (0 : Int32)) := by decide
  refine own_go (fun _ => XS.icmpYes X1.here hx rfl (pc0 := 7) (pc' := 36) rfl (hb hby d7_7) rfl (flt hc7).2.1 (by decide) (by decide)) ?_
  show GG _ _ _ _ _ _ _ T1 (mkF m 36 #[.val (.ref a1), .val (.int (0 : Int32)), .val (.int (0 : Int32))] [])
  refine own_go (fun _ => XS.iloadN X1.here hx rfl (hb hby d7_36) rfl) ?_
  show GG _ _ _ _ _ _ _ T1 (mkF m 37 #[.val (.ref a1), .val (.int (0 : Int32)), .val (.int (0 : Int32))] [(.int (0 : Int32))])
  refine own_go (fun _ => XS.iloadN X1.here hx rfl (hb hby d7_37) rfl) ?_
  show GG _ _ _ _ _ _ _ T1 (mkF m 38 #[.val (.ref a1), .val (.int (0 : Int32)), .val (.int (0 : Int32))] [(.int (0 : Int32)), (.int (0 : Int32))])
  have hc38 : ¬ ((0 : Int32) < (0 : Int32)) := by decide
  refine own_go (fun _ => XS.icmpYes X1.here hx rfl (pc0 := 38) (pc' := 45) rfl (hb hby d7_38) rfl (flt hc38).2.2.2 (by decide) (by decide)) ?_
  show GG _ _ _ _ _ _ _ T1 (mkF m 45 #[.val (.ref a1), .val (.int (0 : Int32)), .val (.int (0 : Int32))] [])
  refine own_go (fun _ => XS.iconst X1.here hx rfl (hb hby d7_45)) ?_
  show GG _ _ _ _ _ _ _ T1 (mkF m 46 #[.val (.ref a1), .val (.int (0 : Int32)), .val (.int (0 : Int32))] [(.int (-1 : Int32))])
  refine own_ret X1 hx hlk (t := .int) (w := (.int (-1 : Int32))) Bd.returns rfl (Or.inl ⟨rfl, by simp, _, rfl⟩) (hb hby d7_46) (by decide) (by decide) ?_
  show Q7 Z a1 b1 cs h0 n0 (some (.int (-1 : Int32))) T1.heap _
  rw [hh1]
  exact ⟨rfl, N1, rfl⟩
theorem pd__Ljava_lang_String_I_I_926 : parseMethodDescriptor "(Ljava/lang/String;I)I" = some ⟨[(.object "java/lang/String"), .int], some .int⟩ := by decide +kernel
theorem d3_0 : decode prog_60_method_3_code 0 = .ok (.aload_n 0, 1) := by decide +kernel
theorem d3_1 : decode prog_60_method_3_code 1 = .ok (.aload_n 0, 1) := by decide +kernel
theorem d3_2 : decode prog_60_method_3_code 2 = .ok (.iconst 0, 1) := by decide +kernel
theorem d3_3 : decode prog_60_method_3_code 3 = .ok (.invokestatic 33, 3) := by decide +kernel
theorem d3_6 : decode prog_60_method_3_code 6 = .ok (.invokestatic 37, 3) := by decide +kernel
theorem d3_9 : decode prog_60_method_3_code 9 = .ok (.istore_n 1, 1) := by decide +kernel
theorem d3_10 : decode prog_60_method_3_code 10 = .ok (.iload_n 1, 1) := by decide +kernel
theorem d3_11 : decode prog_60_method_3_code 11 = .ok (.ifCond .ge 5, 3) := by decide +kernel
theorem d3_14 : decode prog_60_method_3_code 14 = .ok (.iconst 0, 1) := by decide +kernel
theorem d3_15 : decode prog_60_method_3_code 15 = .ok (.ireturn, 1) := by decide +kernel
theorem ef_3 (m : MethodId) (x0 : Addr) : entryFrame m #[(.ref x0)] 2 = mkF m 0 #[.val (.ref x0), .unset] [] := by first | (simp [entryFrame, mkF, argsToLocals, Value.category]; done) | rfl
def Q3 (Z : State) (a1 : Addr) (b1 : Addr) (cs : Int32) (h0 : Heap) (n0 : Nat) (v : Option Value) (h : Heap) (L : List Loc) : Prop := v = some (.int (0 : Int32)) ∧ Fr n0 L ∧ h = h0
set_option maxRecDepth 65536 in
set_option maxHeartbeats 40000000 in
theorem rm3 (l : Launch) (Z : State) (a0 : Array Value) (hw : ∀ d ∈ tables_1, d.before a0 Z = true) (ws : List Jvm.Cond) (a1 : Addr) (b1 : Addr) (cs : Int32) (h0 : Heap) (n0 : Nat) (Z0 : n0 ≤ h0.size) (E_a : Exa Z h0 a1 "java/lang/String") (F_c : Fld Z h0 a1 "java/lang/String" "coder" "B" (.int (0 : Int32))) (F_v : Fld Z h0 a1 "java/lang/String" "value" "[B" (.ref b1)) (V_b : Arx Z h0 b1 .byte []) (S_C : Sta Z h0 "java/lang/String" "COMPACT_STRINGS" "Z" (.int cs)) (hcs : ¬ (cs = (0 : Int32))) :
    own_CT l Z (⟨"com/example/tracemark/tracemark/model/Decimals", "written", "(Ljava/lang/String;)Z"⟩ : MethodName) prog_60_method_3_code 2 (some .boolean) ws ({ frames := 3, cells := 0, slots := 0, locals := 40 } : Room) #[(.ref a1)] h0 (Q3 Z a1 b1 cs h0 n0) := by
  refine MetFree.of_bodySF (plainFor_of_name pn_com_example_tracemark_tracemark_model_Decimals) hisR ?_
  intro p e s m args below meth c s₁ Bd hml0 hP hK
  obtain ⟨rfl, hZ, hh⟩ := hP
  have hx := Bd.exec
  have hby := Bd.bytes
  have hml : c.maxLocals = 2 := hml0
  have hown : s.vm.findClass "com/example/tracemark/tracemark/model/Decimals" = some m.cls := findClass_of_methodNamed Bd.named
  have hnm := (name_of_methodNamed Bd.named Bd.method).1
  have hlk : meth.locks = false := BodyLoose.notSynchronized Bd
  have X0 : Stand p l e ({ frames := 3, cells := 0, slots := 0, locals := 40 } : Room) s m #[(.ref a1)] below meth c s₁ [] 0 0 := Stand.of_body Bd
  have e0 : s₁.heap = h0 := by rw [← hh, Bd.state]; rfl
  have N0 := Fr.nil n0
  show GG p e below s ({ frames := 3, cells := 0, slots := 0, locals := 40 } : Room).cells ({ frames := 3, cells := 0, slots := 0, locals := 40 } : Room).slots (Q3 Z a1 b1 cs h0 n0) s₁ (entryFrame m #[(.ref a1)] 2)
  refine own_in (ef_3 m a1) ?_
  show GG _ _ _ _ _ _ _ s₁ (mkF m 0 #[.val (.ref a1), .unset] [])
  refine own_go (fun _ => XS.aloadN X0.here hx rfl (hb hby d3_0) rfl rfl) ?_
  show GG _ _ _ _ _ _ _ s₁ (mkF m 1 #[.val (.ref a1), .unset] [(.ref a1)])
  refine own_go (fun _ => XS.aloadN X0.here hx rfl (hb hby d3_1) rfl rfl) ?_
  show GG _ _ _ _ _ _ _ s₁ (mkF m 2 #[.val (.ref a1), .unset] [(.ref a1), (.ref a1)])
  refine own_go (fun _ => XS.iconst X0.here hx rfl (hb hby d3_2)) ?_
  show GG _ _ _ _ _ _ _ s₁ (mkF m 3 #[.val (.ref a1), .unset] [(.int (0 : Int32)), (.ref a1), (.ref a1)])
  refine own_callS X0 hx hZ (y := (⟨"com/example/tracemark/tracemark/model/Decimals", "sign", "(Ljava/lang/String;I)I"⟩ : MethodName)) 1 hown (hw _ (List.mem_of_getElem? (i := 24) rfl)) (hw _ (List.mem_of_getElem? (i := 25) rfl)) (hw _ (List.mem_of_getElem? (i := 19) rfl)) (hw _ (List.mem_of_getElem? (i := 26) rfl)) (by decide) (argsL := [(.ref a1), (.int (0 : Int32))]) (rest := [(.ref a1)]) (rm4 l Z a0 hw [] a1 b1 cs h0 n0 Z0 E_a F_c F_v V_b S_C hcs) (by decide) (by decide) (by decide) (by decide) (g := (mkF m 3 #[.val (.ref a1), .unset] [(.int (0 : Int32)), (.ref a1), (.ref a1)])) rfl (by rw [hml]; rfl) (lenOf pd__Ljava_lang_String_I_I_926 rfl) rfl (by show 2 * 0 + _ ≤ _; exact Nat.le_of_eq rfl) (hb hby d3_3) e0 ?_
  rintro v1 T1 L1 X1 ⟨rfl, N1q, hh1⟩
  have N1 := Fr.app N0 N1q
  show GG _ _ _ _ _ _ _ T1 (mkF m 6 #[.val (.ref a1), .unset] [(.int (0 : Int32)), (.ref a1)])
  refine own_callS X1 hx hZ (y := (⟨"com/example/tracemark/tracemark/model/Decimals", "digits", "(Ljava/lang/String;I)I"⟩ : MethodName)) 0 hown (hw _ (List.mem_of_getElem? (i := 40) rfl)) (hw _ (List.mem_of_getElem? (i := 41) rfl)) (hw _ (List.mem_of_getElem? (i := 19) rfl)) (hw _ (List.mem_of_getElem? (i := 42) rfl)) (by decide) (argsL := [(.ref a1), (.int (0 : Int32))]) (rest := []) (rm7 l Z a0 hw [] a1 b1 cs h0 n0 Z0 E_a F_c F_v V_b S_C hcs) (by decide) (by decide) (by decide) (by decide) (g := (mkF m 6 #[.val (.ref a1), .unset] [(.int (0 : Int32)), (.ref a1)])) rfl (by rw [hml]; rfl) (lenOf pd__Ljava_lang_String_I_I_926 rfl) rfl (by show 2 * 0 + _ ≤ _; exact Nat.le_of_eq rfl) (hb hby d3_6) hh1 ?_
  rintro v2 T2 L2 X2 ⟨rfl, N2q, hh2⟩
  have N2 := Fr.app N1 N2q
  show GG _ _ _ _ _ _ _ T2 (mkF m 9 #[.val (.ref a1), .unset] [(.int (-1 : Int32))])
  refine own_go (fun _ => XS.istoreN X2.here hx rfl (hb hby d3_9) rfl (l' := #[.val (.ref a1), .val (.int (-1 : Int32))]) rfl) ?_
  show GG _ _ _ _ _ _ _ T2 (mkF m 10 #[.val (.ref a1), .val (.int (-1 : Int32))] [])
  refine own_go (fun _ => XS.iloadN X2.here hx rfl (hb hby d3_10) rfl) ?_
  show GG _ _ _ _ _ _ _ T2 (mkF m 11 #[.val (.ref a1), .val (.int (-1 : Int32))] [(.int (-1 : Int32))])
  have hc11 : (-1 : Int32) < (0 : Int32) := by decide
  refine own_go (fun _ => XS.ifNo X2.here hx rfl (hb hby d3_11) rfl ((if0 _ _).trans (tlt hc11).2.1)) ?_
  show GG _ _ _ _ _ _ _ T2 (mkF m 14 #[.val (.ref a1), .val (.int (-1 : Int32))] [])
  refine own_go (fun _ => XS.iconst X2.here hx rfl (hb hby d3_14)) ?_
  show GG _ _ _ _ _ _ _ T2 (mkF m 15 #[.val (.ref a1), .val (.int (-1 : Int32))] [(.int (0 : Int32))])
  refine own_ret X2 hx hlk (t := .boolean) (w := (.int (0 : Int32))) Bd.returns rfl (Or.inl ⟨rfl, by simp, _, rfl⟩) (hb hby d3_15) (by decide) (by decide) ?_
  show Q3 Z a1 b1 cs h0 n0 (some (.int (0 : Int32))) T2.heap _
  rw [hh2]
  exact ⟨rfl, N2, rfl⟩
theorem d8_0 : decode jdk_2648_method_2_code 0 = .ok (.getstatic 21, 3) := by decide +kernel
theorem d8_3 : decode jdk_2648_method_2_code 3 = .ok (.areturn, 1) := by decide +kernel
theorem pn_java_util_OptionalDouble : plainName "java/util/OptionalDouble" = true := by first | (simp [plainName, overriddenIn]; done) | decide +kernel
theorem ef_8 (m : MethodId)  : entryFrame m #[] 0 = mkF m 0 #[] [] := by first | (simp [entryFrame, mkF, argsToLocals, Value.category]; done) | rfl
def Q8 (Z : State)  (w1 : Addr) (h0 : Heap) (n0 : Nat) (v : Option Value) (h : Heap) (L : List Loc) : Prop := v = some (.ref w1) ∧ Fr n0 L ∧ h = h0
set_option maxRecDepth 65536 in
set_option maxHeartbeats 40000000 in
theorem rm8 (l : Launch) (Z : State) (a0 : Array Value) (hw : ∀ d ∈ tables_1, d.before a0 Z = true) (ws : List Jvm.Cond)  (w1 : Addr) (h0 : Heap) (n0 : Nat) (Z0 : n0 ≤ h0.size) (S_1 : Sta Z h0 "java/util/OptionalDouble" "EMPTY" "Ljava/util/OptionalDouble;" (.ref w1)) :
    own_CT l Z (⟨"java/util/OptionalDouble", "empty", "()Ljava/util/OptionalDouble;"⟩ : MethodName) jdk_2648_method_2_code 0 (some (.object "java/util/OptionalDouble")) ws ({ frames := 0, cells := 0, slots := 0, locals := 0 } : Room) #[] h0 (Q8 Z w1 h0 n0) := by
  refine MetFree.of_bodySF (plainFor_of_name pn_java_util_OptionalDouble) hisR ?_
  intro p e s m args below meth c s₁ Bd hml0 hP hK
  obtain ⟨rfl, hZ, hh⟩ := hP
  have hx := Bd.exec
  have hby := Bd.bytes
  have hml : c.maxLocals = 0 := hml0
  have hown : s.vm.findClass "java/util/OptionalDouble" = some m.cls := findClass_of_methodNamed Bd.named
  have hnm := (name_of_methodNamed Bd.named Bd.method).1
  have hlk : meth.locks = false := BodyLoose.notSynchronized Bd
  have X0 : Stand p l e ({ frames := 0, cells := 0, slots := 0, locals := 0 } : Room) s m #[] below meth c s₁ [] 0 0 := Stand.of_body Bd
  have e0 : s₁.heap = h0 := by rw [← hh, Bd.state]; rfl
  have N0 := Fr.nil n0
  show GG p e below s ({ frames := 0, cells := 0, slots := 0, locals := 0 } : Room).cells ({ frames := 0, cells := 0, slots := 0, locals := 0 } : Room).slots (Q8 Z w1 h0 n0) s₁ (entryFrame m #[] 0)
  refine own_in (ef_8 m ) ?_
  show GG _ _ _ _ _ _ _ s₁ (mkF m 0 #[] [])
  obtain ⟨T1, X1, e1, st1⟩ := getS2 X0 hx hZ hown (host := "") (Or.inl (hw _ (List.mem_of_getElem? (i := 47) rfl))) Via.refl e0 S_1 (g := (mkF m 0 #[] [])) rfl (hb hby d8_0)
  refine own_go (fun _ => st1 _) ?_
  show GG _ _ _ _ _ _ _ T1 (mkF m 3 #[] [(.ref w1)])
  refine own_ret X1 hx hlk (t := (.object "java/util/OptionalDouble")) (w := (.ref w1)) Bd.returns rfl (Or.inr (Or.inr (Or.inr (Or.inr ⟨rfl, rfl, rfl⟩)))) (hb hby d8_3) (by decide) (by decide) ?_
  show Q8 Z w1 h0 n0 (some (.ref w1)) T1.heap _
  rw [e1]
  exact ⟨rfl, N0, rfl⟩
theorem d10_0 : decode jdk_32_method_1_code 0 = .ok (.getstatic 1, 3) := by decide +kernel
theorem d10_3 : decode jdk_32_method_1_code 3 = .ok (.astore_n 0, 1) := by decide +kernel
theorem d10_4 : decode jdk_32_method_1_code 4 = .ok (.aload_n 0, 1) := by decide +kernel
theorem d10_5 : decode jdk_32_method_1_code 5 = .ok (.areturn, 1) := by decide +kernel
theorem pn_java_util_Optional : plainName "java/util/Optional" = true := by first | (simp [plainName, overriddenIn]; done) | decide +kernel
theorem ef_10 (m : MethodId)  : entryFrame m #[] 1 = mkF m 0 #[.unset] [] := by first | (simp [entryFrame, mkF, argsToLocals, Value.category]; done) | rfl
def Q10 (Z : State)  (w1 : Addr) (h0 : Heap) (n0 : Nat) (v : Option Value) (h : Heap) (L : List Loc) : Prop := v = some (.ref w1) ∧ Fr n0 L ∧ h = h0
set_option maxRecDepth 65536 in
set_option maxHeartbeats 40000000 in
theorem rm10 (l : Launch) (Z : State) (a0 : Array Value) (hw : ∀ d ∈ tables_1, d.before a0 Z = true) (ws : List Jvm.Cond)  (w1 : Addr) (h0 : Heap) (n0 : Nat) (Z0 : n0 ≤ h0.size) (S_1 : Sta Z h0 "java/util/Optional" "EMPTY" "Ljava/util/Optional;" (.ref w1)) :
    own_CT l Z (⟨"java/util/Optional", "empty", "()Ljava/util/Optional;"⟩ : MethodName) jdk_32_method_1_code 1 (some (.object "java/util/Optional")) ws ({ frames := 0, cells := 0, slots := 0, locals := 0 } : Room) #[] h0 (Q10 Z w1 h0 n0) := by
  refine MetFree.of_bodySF (plainFor_of_name pn_java_util_Optional) hisR ?_
  intro p e s m args below meth c s₁ Bd hml0 hP hK
  obtain ⟨rfl, hZ, hh⟩ := hP
  have hx := Bd.exec
  have hby := Bd.bytes
  have hml : c.maxLocals = 1 := hml0
  have hown : s.vm.findClass "java/util/Optional" = some m.cls := findClass_of_methodNamed Bd.named
  have hnm := (name_of_methodNamed Bd.named Bd.method).1
  have hlk : meth.locks = false := BodyLoose.notSynchronized Bd
  have X0 : Stand p l e ({ frames := 0, cells := 0, slots := 0, locals := 0 } : Room) s m #[] below meth c s₁ [] 0 0 := Stand.of_body Bd
  have e0 : s₁.heap = h0 := by rw [← hh, Bd.state]; rfl
  have N0 := Fr.nil n0
  show GG p e below s ({ frames := 0, cells := 0, slots := 0, locals := 0 } : Room).cells ({ frames := 0, cells := 0, slots := 0, locals := 0 } : Room).slots (Q10 Z w1 h0 n0) s₁ (entryFrame m #[] 1)
  refine own_in (ef_10 m ) ?_
  show GG _ _ _ _ _ _ _ s₁ (mkF m 0 #[.unset] [])
  obtain ⟨T1, X1, e1, st1⟩ := getS2 X0 hx hZ hown (host := "") (Or.inl (hw _ (List.mem_of_getElem? (i := 59) rfl))) Via.refl e0 S_1 (g := (mkF m 0 #[.unset] [])) rfl (hb hby d10_0)
  refine own_go (fun _ => st1 _) ?_
  show GG _ _ _ _ _ _ _ T1 (mkF m 3 #[.unset] [(.ref w1)])
  refine own_go (fun _ => XS.astoreN X1.here hx rfl (hb hby d10_3) rfl rfl (l' := #[.val (.ref w1)]) rfl) ?_
  show GG _ _ _ _ _ _ _ T1 (mkF m 4 #[.val (.ref w1)] [])
  refine own_go (fun _ => XS.aloadN X1.here hx rfl (hb hby d10_4) rfl rfl) ?_
  show GG _ _ _ _ _ _ _ T1 (mkF m 5 #[.val (.ref w1)] [(.ref w1)])
  refine own_ret X1 hx hlk (t := (.object "java/util/Optional")) (w := (.ref w1)) Bd.returns rfl (Or.inr (Or.inr (Or.inr (Or.inr ⟨rfl, rfl, rfl⟩)))) (hb hby d10_5) (by decide) (by decide) ?_
  show Q10 Z w1 h0 n0 (some (.ref w1)) T1.heap _
  rw [e1]
  exact ⟨rfl, N0, rfl⟩
theorem d12_0 : decode jdk_2649_method_2_code 0 = .ok (.getstatic 17, 3) := by decide +kernel
theorem d12_3 : decode jdk_2649_method_2_code 3 = .ok (.areturn, 1) := by decide +kernel
theorem pn_java_util_OptionalInt : plainName "java/util/OptionalInt" = true := by first | (simp [plainName, overriddenIn]; done) | decide +kernel
theorem ef_12 (m : MethodId)  : entryFrame m #[] 0 = mkF m 0 #[] [] := by first | (simp [entryFrame, mkF, argsToLocals, Value.category]; done) | rfl
def Q12 (Z : State)  (w1 : Addr) (h0 : Heap) (n0 : Nat) (v : Option Value) (h : Heap) (L : List Loc) : Prop := v = some (.ref w1) ∧ Fr n0 L ∧ h = h0
set_option maxRecDepth 65536 in
set_option maxHeartbeats 40000000 in
theorem rm12 (l : Launch) (Z : State) (a0 : Array Value) (hw : ∀ d ∈ tables_1, d.before a0 Z = true) (ws : List Jvm.Cond)  (w1 : Addr) (h0 : Heap) (n0 : Nat) (Z0 : n0 ≤ h0.size) (S_1 : Sta Z h0 "java/util/OptionalInt" "EMPTY" "Ljava/util/OptionalInt;" (.ref w1)) :
    own_CT l Z (⟨"java/util/OptionalInt", "empty", "()Ljava/util/OptionalInt;"⟩ : MethodName) jdk_2649_method_2_code 0 (some (.object "java/util/OptionalInt")) ws ({ frames := 0, cells := 0, slots := 0, locals := 0 } : Room) #[] h0 (Q12 Z w1 h0 n0) := by
  refine MetFree.of_bodySF (plainFor_of_name pn_java_util_OptionalInt) hisR ?_
  intro p e s m args below meth c s₁ Bd hml0 hP hK
  obtain ⟨rfl, hZ, hh⟩ := hP
  have hx := Bd.exec
  have hby := Bd.bytes
  have hml : c.maxLocals = 0 := hml0
  have hown : s.vm.findClass "java/util/OptionalInt" = some m.cls := findClass_of_methodNamed Bd.named
  have hnm := (name_of_methodNamed Bd.named Bd.method).1
  have hlk : meth.locks = false := BodyLoose.notSynchronized Bd
  have X0 : Stand p l e ({ frames := 0, cells := 0, slots := 0, locals := 0 } : Room) s m #[] below meth c s₁ [] 0 0 := Stand.of_body Bd
  have e0 : s₁.heap = h0 := by rw [← hh, Bd.state]; rfl
  have N0 := Fr.nil n0
  show GG p e below s ({ frames := 0, cells := 0, slots := 0, locals := 0 } : Room).cells ({ frames := 0, cells := 0, slots := 0, locals := 0 } : Room).slots (Q12 Z w1 h0 n0) s₁ (entryFrame m #[] 0)
  refine own_in (ef_12 m ) ?_
  show GG _ _ _ _ _ _ _ s₁ (mkF m 0 #[] [])
  obtain ⟨T1, X1, e1, st1⟩ := getS2 X0 hx hZ hown (host := "") (Or.inl (hw _ (List.mem_of_getElem? (i := 70) rfl))) Via.refl e0 S_1 (g := (mkF m 0 #[] [])) rfl (hb hby d12_0)
  refine own_go (fun _ => st1 _) ?_
  show GG _ _ _ _ _ _ _ T1 (mkF m 3 #[] [(.ref w1)])
  refine own_ret X1 hx hlk (t := (.object "java/util/OptionalInt")) (w := (.ref w1)) Bd.returns rfl (Or.inr (Or.inr (Or.inr (Or.inr ⟨rfl, rfl, rfl⟩)))) (hb hby d12_3) (by decide) (by decide) ?_
  show Q12 Z w1 h0 n0 (some (.ref w1)) T1.heap _
  rw [e1]
  exact ⟨rfl, N0, rfl⟩
theorem d13_0 : decode jdk_40_method_36_code 0 = .ok (.getstatic 90, 3) := by decide +kernel
theorem d13_3 : decode jdk_40_method_36_code 3 = .ok (.areturn, 1) := by decide +kernel
theorem pn_java_util_List : plainName "java/util/List" = true := by first | (simp [plainName, overriddenIn]; done) | decide +kernel
theorem ef_13 (m : MethodId)  : entryFrame m #[] 0 = mkF m 0 #[] [] := by first | (simp [entryFrame, mkF, argsToLocals, Value.category]; done) | rfl
def Q13 (Z : State)  (w1 : Addr) (h0 : Heap) (n0 : Nat) (v : Option Value) (h : Heap) (L : List Loc) : Prop := v = some (.ref w1) ∧ Fr n0 L ∧ h = h0
set_option maxRecDepth 65536 in
set_option maxHeartbeats 40000000 in
theorem rm13 (l : Launch) (Z : State) (a0 : Array Value) (hw : ∀ d ∈ tables_1, d.before a0 Z = true) (ws : List Jvm.Cond)  (w1 : Addr) (h0 : Heap) (n0 : Nat) (Z0 : n0 ≤ h0.size) (S_1 : Sta Z h0 "java/util/ImmutableCollections" "EMPTY_LIST" "Ljava/util/ImmutableCollections$ListN;" (.ref w1)) :
    own_CT l Z (⟨"java/util/List", "of", "()Ljava/util/List;"⟩ : MethodName) jdk_40_method_36_code 0 (some (.object "java/util/List")) ws ({ frames := 0, cells := 0, slots := 0, locals := 0 } : Room) #[] h0 (Q13 Z w1 h0 n0) := by
  refine MetFree.of_bodySF (plainFor_of_name pn_java_util_List) hisR ?_
  intro p e s m args below meth c s₁ Bd hml0 hP hK
  obtain ⟨rfl, hZ, hh⟩ := hP
  have hx := Bd.exec
  have hby := Bd.bytes
  have hml : c.maxLocals = 0 := hml0
  have hown : s.vm.findClass "java/util/List" = some m.cls := findClass_of_methodNamed Bd.named
  have hnm := (name_of_methodNamed Bd.named Bd.method).1
  have hlk : meth.locks = false := BodyLoose.notSynchronized Bd
  have X0 : Stand p l e ({ frames := 0, cells := 0, slots := 0, locals := 0 } : Room) s m #[] below meth c s₁ [] 0 0 := Stand.of_body Bd
  have e0 : s₁.heap = h0 := by rw [← hh, Bd.state]; rfl
  have N0 := Fr.nil n0
  show GG p e below s ({ frames := 0, cells := 0, slots := 0, locals := 0 } : Room).cells ({ frames := 0, cells := 0, slots := 0, locals := 0 } : Room).slots (Q13 Z w1 h0 n0) s₁ (entryFrame m #[] 0)
  refine own_in (ef_13 m ) ?_
  show GG _ _ _ _ _ _ _ s₁ (mkF m 0 #[] [])
  obtain ⟨T1, X1, e1, st1⟩ := getS2 X0 hx hZ hown (host := "") (Or.inl (hw _ (List.mem_of_getElem? (i := 75) rfl))) Via.refl e0 S_1 (g := (mkF m 0 #[] [])) rfl (hb hby d13_0)
  refine own_go (fun _ => st1 _) ?_
  show GG _ _ _ _ _ _ _ T1 (mkF m 3 #[] [(.ref w1)])
  refine own_ret X1 hx hlk (t := (.object "java/util/List")) (w := (.ref w1)) Bd.returns rfl (Or.inr (Or.inr (Or.inr (Or.inr ⟨rfl, rfl, rfl⟩)))) (hb hby d13_3) (by decide) (by decide) ?_
  show Q13 Z w1 h0 n0 (some (.ref w1)) T1.heap _
  rw [e1]
  exact ⟨rfl, N0, rfl⟩
theorem d9_0 : decode jdk_2648_method_6_code 0 = .ok (.aload_n 0, 1) := by decide +kernel
theorem d9_1 : decode jdk_2648_method_6_code 1 = .ok (.getfield 7, 3) := by decide +kernel
theorem d9_4 : decode jdk_2648_method_6_code 4 = .ok (.ireturn, 1) := by decide +kernel
theorem ef_9 (m : MethodId) (x0 : Addr) : entryFrame m #[(.ref x0)] 1 = mkF m 0 #[.val (.ref x0)] [] := by first | (simp [entryFrame, mkF, argsToLocals, Value.category]; done) | rfl
def Q9 (Z : State) (a1 : Addr) (h0 : Heap) (n0 : Nat) (v : Option Value) (h : Heap) (L : List Loc) : Prop := v = some (.int (0 : Int32)) ∧ Fr n0 L ∧ h = h0
set_option maxRecDepth 65536 in
set_option maxHeartbeats 40000000 in
theorem rm9 (l : Launch) (Z : State) (a0 : Array Value) (hw : ∀ d ∈ tables_1, d.before a0 Z = true) (ws : List Jvm.Cond) (a1 : Addr) (h0 : Heap) (n0 : Nat) (Z0 : n0 ≤ h0.size) (F_p : Fld Z h0 a1 "java/util/OptionalDouble" "isPresent" "Z" (.int (0 : Int32))) :
    own_CT l Z (⟨"java/util/OptionalDouble", "isPresent", "()Z"⟩ : MethodName) jdk_2648_method_6_code 1 (some .boolean) ws ({ frames := 0, cells := 0, slots := 0, locals := 0 } : Room) #[(.ref a1)] h0 (Q9 Z a1 h0 n0) := by
  refine MetFree.of_bodySF (plainFor_of_name pn_java_util_OptionalDouble) hisR ?_
  intro p e s m args below meth c s₁ Bd hml0 hP hK
  obtain ⟨rfl, hZ, hh⟩ := hP
  have hx := Bd.exec
  have hby := Bd.bytes
  have hml : c.maxLocals = 1 := hml0
  have hown : s.vm.findClass "java/util/OptionalDouble" = some m.cls := findClass_of_methodNamed Bd.named
  have hnm := (name_of_methodNamed Bd.named Bd.method).1
  have hlk : meth.locks = false := BodyLoose.notSynchronized Bd
  have X0 : Stand p l e ({ frames := 0, cells := 0, slots := 0, locals := 0 } : Room) s m #[(.ref a1)] below meth c s₁ [] 0 0 := Stand.of_body Bd
  have e0 : s₁.heap = h0 := by rw [← hh, Bd.state]; rfl
  have N0 := Fr.nil n0
  show GG p e below s ({ frames := 0, cells := 0, slots := 0, locals := 0 } : Room).cells ({ frames := 0, cells := 0, slots := 0, locals := 0 } : Room).slots (Q9 Z a1 h0 n0) s₁ (entryFrame m #[(.ref a1)] 1)
  refine own_in (ef_9 m a1) ?_
  show GG _ _ _ _ _ _ _ s₁ (mkF m 0 #[.val (.ref a1)] [])
  refine own_go (fun _ => XS.aloadN X0.here hx rfl (hb hby d9_0) rfl rfl) ?_
  show GG _ _ _ _ _ _ _ s₁ (mkF m 1 #[.val (.ref a1)] [(.ref a1)])
  obtain ⟨T1, X1, e1, st1⟩ := getF X0 hx hZ hown (host := "") (Or.inl (hw _ (List.mem_of_getElem? (i := 53) rfl))) Via.refl e0 F_p (g := (mkF m 1 #[.val (.ref a1)] [(.ref a1)])) rfl rfl (hb hby d9_1)
  refine own_go (fun _ => st1 _) ?_
  show GG _ _ _ _ _ _ _ T1 (mkF m 4 #[.val (.ref a1)] [(.int (0 : Int32))])
  refine own_ret X1 hx hlk (t := .boolean) (w := (.int (0 : Int32))) Bd.returns rfl (Or.inl ⟨rfl, by simp, _, rfl⟩) (hb hby d9_4) (by decide) (by decide) ?_
  show Q9 Z a1 h0 n0 (some (.int (0 : Int32))) T1.heap _
  rw [e1]
  exact ⟨rfl, N0, rfl⟩
theorem pd__Ljava_lang_String__Z_870 : parseMethodDescriptor "(Ljava/lang/String;)Z" = some ⟨[(.object "java/lang/String")], some .boolean⟩ := by decide +kernel
theorem pd___Ljava_util_OptionalDouble__621 : parseMethodDescriptor "()Ljava/util/OptionalDouble;" = some ⟨[], some (.object "java/util/OptionalDouble")⟩ := by decide +kernel
theorem d2_0 : decode prog_60_method_2_code 0 = .ok (.aload_n 0, 1) := by decide +kernel
theorem d2_1 : decode prog_60_method_2_code 1 = .ok (.invokestatic 7, 3) := by decide +kernel
theorem d2_4 : decode prog_60_method_2_code 4 = .ok (.ifCond .eq 20, 3) := by decide +kernel
theorem d2_24 : decode prog_60_method_2_code 24 = .ok (.invokestatic 29, 3) := by decide +kernel
theorem d2_27 : decode prog_60_method_2_code 27 = .ok (.areturn, 1) := by decide +kernel
theorem ef_2 (m : MethodId) (x0 : Addr) : entryFrame m #[(.ref x0)] 3 = mkF m 0 #[.val (.ref x0), .unset, .unset] [] := by first | (simp [entryFrame, mkF, argsToLocals, Value.category]; done) | rfl
def Q2 (Z : State) (a1 : Addr) (b1 : Addr) (cs : Int32) (wD : Addr) (h0 : Heap) (n0 : Nat) (v : Option Value) (h : Heap) (L : List Loc) : Prop := v = some (.ref wD) ∧ Fr n0 L ∧ h = h0
set_option maxRecDepth 65536 in
set_option maxHeartbeats 40000000 in
theorem rm2 (l : Launch) (Z : State) (a0 : Array Value) (hw : ∀ d ∈ tables_1, d.before a0 Z = true) (ws : List Jvm.Cond) (a1 : Addr) (b1 : Addr) (cs : Int32) (wD : Addr) (h0 : Heap) (n0 : Nat) (Z0 : n0 ≤ h0.size) (E_a : Exa Z h0 a1 "java/lang/String") (F_c : Fld Z h0 a1 "java/lang/String" "coder" "B" (.int (0 : Int32))) (F_v : Fld Z h0 a1 "java/lang/String" "value" "[B" (.ref b1)) (V_b : Arx Z h0 b1 .byte []) (S_C : Sta Z h0 "java/lang/String" "COMPACT_STRINGS" "Z" (.int cs)) (hcs : ¬ (cs = (0 : Int32))) (S_D : Sta Z h0 "java/util/OptionalDouble" "EMPTY" "Ljava/util/OptionalDouble;" (.ref wD)) :
    own_CT l Z (⟨"com/example/tracemark/tracemark/model/Decimals", "parse", "(Ljava/lang/String;)Ljava/util/OptionalDouble;"⟩ : MethodName) prog_60_method_2_code 3 (some (.object "java/util/OptionalDouble")) ws ({ frames := 4, cells := 0, slots := 0, locals := 53 } : Room) #[(.ref a1)] h0 (Q2 Z a1 b1 cs wD h0 n0) := by
  refine MetFree.of_bodySF (plainFor_of_name pn_com_example_tracemark_tracemark_model_Decimals) hisR ?_
  intro p e s m args below meth c s₁ Bd hml0 hP hK
  obtain ⟨rfl, hZ, hh⟩ := hP
  have hx := Bd.exec
  have hby := Bd.bytes
  have hml : c.maxLocals = 3 := hml0
  have hown : s.vm.findClass "com/example/tracemark/tracemark/model/Decimals" = some m.cls := findClass_of_methodNamed Bd.named
  have hnm := (name_of_methodNamed Bd.named Bd.method).1
  have hlk : meth.locks = false := BodyLoose.notSynchronized Bd
  have X0 : Stand p l e ({ frames := 4, cells := 0, slots := 0, locals := 53 } : Room) s m #[(.ref a1)] below meth c s₁ [] 0 0 := Stand.of_body Bd
  have e0 : s₁.heap = h0 := by rw [← hh, Bd.state]; rfl
  have N0 := Fr.nil n0
  show GG p e below s ({ frames := 4, cells := 0, slots := 0, locals := 53 } : Room).cells ({ frames := 4, cells := 0, slots := 0, locals := 53 } : Room).slots (Q2 Z a1 b1 cs wD h0 n0) s₁ (entryFrame m #[(.ref a1)] 3)
  refine own_in (ef_2 m a1) ?_
  show GG _ _ _ _ _ _ _ s₁ (mkF m 0 #[.val (.ref a1), .unset, .unset] [])
  refine own_go (fun _ => XS.aloadN X0.here hx rfl (hb hby d2_0) rfl rfl) ?_
  show GG _ _ _ _ _ _ _ s₁ (mkF m 1 #[.val (.ref a1), .unset, .unset] [(.ref a1)])
  refine own_callS X0 hx hZ (y := (⟨"com/example/tracemark/tracemark/model/Decimals", "written", "(Ljava/lang/String;)Z"⟩ : MethodName)) 0 hown (hw _ (List.mem_of_getElem? (i := 21) rfl)) (hw _ (List.mem_of_getElem? (i := 22) rfl)) (hw _ (List.mem_of_getElem? (i := 19) rfl)) (hw _ (List.mem_of_getElem? (i := 23) rfl)) (by decide) (argsL := [(.ref a1)]) (rest := []) (rm3 l Z a0 hw [] a1 b1 cs h0 n0 Z0 E_a F_c F_v V_b S_C hcs) (by decide) (by decide) (by decide) (by decide) (g := (mkF m 1 #[.val (.ref a1), .unset, .unset] [(.ref a1)])) rfl (by rw [hml]; rfl) (lenOf pd__Ljava_lang_String__Z_870 rfl) rfl (by show 2 * 0 + _ ≤ _; exact Nat.le_of_eq rfl) (hb hby d2_1) e0 ?_
  rintro v1 T1 L1 X1 ⟨rfl, N1q, hh1⟩
  have N1 := Fr.app N0 N1q
  show GG _ _ _ _ _ _ _ T1 (mkF m 4 #[.val (.ref a1), .unset, .unset] [(.int (0 : Int32))])
  have hc4 : (0 : Int32) = (0 : Int32) := by decide
  refine own_go (fun _ => XS.ifYes X1.here hx rfl (pc0 := 4) (pc' := 24) rfl (hb hby d2_4) rfl ((if0 _ _).trans (teq hc4).1) (by decide) (by decide)) ?_
  show GG _ _ _ _ _ _ _ T1 (mkF m 24 #[.val (.ref a1), .unset, .unset] [])
  refine own_callS X1 hx hZ (y := (⟨"java/util/OptionalDouble", "empty", "()Ljava/util/OptionalDouble;"⟩ : MethodName)) 0 hown (hw _ (List.mem_of_getElem? (i := 43) rfl)) (hw _ (List.mem_of_getElem? (i := 44) rfl)) (hw _ (List.mem_of_getElem? (i := 45) rfl)) (hw _ (List.mem_of_getElem? (i := 46) rfl)) (by decide) (argsL := []) (rest := []) (rm8 l Z a0 hw [] wD h0 n0 Z0 S_D) (by decide) (by decide) (by decide) (by decide) (g := (mkF m 24 #[.val (.ref a1), .unset, .unset] [])) rfl (by rw [hml]; rfl) (lenOf pd___Ljava_util_OptionalDouble__621 rfl) rfl (by show 2 * 0 + _ ≤ _; exact Nat.le_of_eq rfl) (hb hby d2_24) hh1 ?_
  rintro v2 T2 L2 X2 ⟨rfl, N2q, hh2⟩
  have N2 := Fr.app N1 N2q
  show GG _ _ _ _ _ _ _ T2 (mkF m 27 #[.val (.ref a1), .unset, .unset] [(.ref wD)])
  refine own_ret X2 hx hlk (t := (.object "java/util/OptionalDouble")) (w := (.ref wD)) Bd.returns rfl (Or.inr (Or.inr (Or.inr (Or.inr ⟨rfl, rfl, rfl⟩)))) (hb hby d2_27) (by decide) (by decide) ?_
  show Q2 Z a1 b1 cs wD h0 n0 (some (.ref wD)) T2.heap _
  rw [hh2]
  exact ⟨rfl, N2, rfl⟩
theorem pd__Ljava_lang_String__Ljava_util_OptionalD_323 : parseMethodDescriptor "(Ljava/lang/String;)Ljava/util/OptionalDouble;" = some ⟨[(.object "java/lang/String")], some (.object "java/util/OptionalDouble")⟩ := by decide +kernel
theorem pd___Z_171 : parseMethodDescriptor "()Z" = some ⟨[], some .boolean⟩ := by decide +kernel
theorem pd___Ljava_util_Optional__18 : parseMethodDescriptor "()Ljava/util/Optional;" = some ⟨[], some (.object "java/util/Optional")⟩ := by decide +kernel
theorem d1_0 : decode prog_88_method_2_code 0 = .ok (.aload_n 0, 1) := by decide +kernel
theorem d1_1 : decode prog_88_method_2_code 1 = .ok (.invokestatic 17, 3) := by decide +kernel
theorem d1_4 : decode prog_88_method_2_code 4 = .ok (.astore_n 1, 1) := by decide +kernel
theorem d1_5 : decode prog_88_method_2_code 5 = .ok (.aload_n 1, 1) := by decide +kernel
theorem d1_6 : decode prog_88_method_2_code 6 = .ok (.invokevirtual 23, 3) := by decide +kernel
theorem d1_9 : decode prog_88_method_2_code 9 = .ok (.ifCond .eq 21, 3) := by decide +kernel
theorem d1_30 : decode prog_88_method_2_code 30 = .ok (.invokestatic 42, 3) := by decide +kernel
theorem d1_33 : decode prog_88_method_2_code 33 = .ok (.areturn, 1) := by decide +kernel
theorem pn_com_example_tracemark_tracemark_model_Score : plainName "com/example/tracemark/tracemark/model/Score" = true := by first | (simp [plainName, overriddenIn]; done) | decide +kernel
theorem ef_1 (m : MethodId) (x0 : Addr) : entryFrame m #[(.ref x0)] 2 = mkF m 0 #[.val (.ref x0), .unset] [] := by first | (simp [entryFrame, mkF, argsToLocals, Value.category]; done) | rfl
def Q1 (Z : State) (a1 : Addr) (b1 : Addr) (cs : Int32) (wD wO : Addr) (h0 : Heap) (n0 : Nat) (v : Option Value) (h : Heap) (L : List Loc) : Prop := v = some (.ref wO) ∧ Fr n0 L ∧ h = h0
set_option maxRecDepth 65536 in
set_option maxHeartbeats 40000000 in
theorem rm1 (l : Launch) (Z : State) (a0 : Array Value) (hw : ∀ d ∈ tables_1, d.before a0 Z = true) (ws : List Jvm.Cond) (a1 : Addr) (b1 : Addr) (cs : Int32) (wD wO : Addr) (h0 : Heap) (n0 : Nat) (Z0 : n0 ≤ h0.size) (E_a : Exa Z h0 a1 "java/lang/String") (F_c : Fld Z h0 a1 "java/lang/String" "coder" "B" (.int (0 : Int32))) (F_v : Fld Z h0 a1 "java/lang/String" "value" "[B" (.ref b1)) (V_b : Arx Z h0 b1 .byte []) (S_C : Sta Z h0 "java/lang/String" "COMPACT_STRINGS" "Z" (.int cs)) (hcs : ¬ (cs = (0 : Int32))) (S_D : Sta Z h0 "java/util/OptionalDouble" "EMPTY" "Ljava/util/OptionalDouble;" (.ref wD)) (E_D : Exa Z h0 wD "java/util/OptionalDouble") (F_D : Fld Z h0 wD "java/util/OptionalDouble" "isPresent" "Z" (.int (0 : Int32))) (S_O : Sta Z h0 "java/util/Optional" "EMPTY" "Ljava/util/Optional;" (.ref wO)) :
    own_CT l Z (⟨"com/example/tracemark/tracemark/model/Score", "parse", "(Ljava/lang/String;)Ljava/util/Optional;"⟩ : MethodName) prog_88_method_2_code 2 (some (.object "java/util/Optional")) ws ({ frames := 5, cells := 0, slots := 0, locals := 67 } : Room) #[(.ref a1)] h0 (Q1 Z a1 b1 cs wD wO h0 n0) := by
  refine MetFree.of_bodySF (plainFor_of_name pn_com_example_tracemark_tracemark_model_Score) hisR ?_
  intro p e s m args below meth c s₁ Bd hml0 hP hK
  obtain ⟨rfl, hZ, hh⟩ := hP
  have hx := Bd.exec
  have hby := Bd.bytes
  have hml : c.maxLocals = 2 := hml0
  have hown : s.vm.findClass "com/example/tracemark/tracemark/model/Score" = some m.cls := findClass_of_methodNamed Bd.named
  have hnm := (name_of_methodNamed Bd.named Bd.method).1
  have hlk : meth.locks = false := BodyLoose.notSynchronized Bd
  have X0 : Stand p l e ({ frames := 5, cells := 0, slots := 0, locals := 67 } : Room) s m #[(.ref a1)] below meth c s₁ [] 0 0 := Stand.of_body Bd
  have e0 : s₁.heap = h0 := by rw [← hh, Bd.state]; rfl
  have N0 := Fr.nil n0
  show GG p e below s ({ frames := 5, cells := 0, slots := 0, locals := 67 } : Room).cells ({ frames := 5, cells := 0, slots := 0, locals := 67 } : Room).slots (Q1 Z a1 b1 cs wD wO h0 n0) s₁ (entryFrame m #[(.ref a1)] 2)
  refine own_in (ef_1 m a1) ?_
  show GG _ _ _ _ _ _ _ s₁ (mkF m 0 #[.val (.ref a1), .unset] [])
  refine own_go (fun _ => XS.aloadN X0.here hx rfl (hb hby d1_0) rfl rfl) ?_
  show GG _ _ _ _ _ _ _ s₁ (mkF m 1 #[.val (.ref a1), .unset] [(.ref a1)])
  refine own_callS X0 hx hZ (y := (⟨"com/example/tracemark/tracemark/model/Decimals", "parse", "(Ljava/lang/String;)Ljava/util/OptionalDouble;"⟩ : MethodName)) 0 hown (hw _ (List.mem_of_getElem? (i := 17) rfl)) (hw _ (List.mem_of_getElem? (i := 18) rfl)) (hw _ (List.mem_of_getElem? (i := 19) rfl)) (hw _ (List.mem_of_getElem? (i := 20) rfl)) (by decide) (argsL := [(.ref a1)]) (rest := []) (rm2 l Z a0 hw [] a1 b1 cs wD h0 n0 Z0 E_a F_c F_v V_b S_C hcs S_D) (by decide) (by decide) (by decide) (by decide) (g := (mkF m 1 #[.val (.ref a1), .unset] [(.ref a1)])) rfl (by rw [hml]; rfl) (lenOf pd__Ljava_lang_String__Ljava_util_OptionalD_323 rfl) rfl (by show 2 * 0 + _ ≤ _; exact Nat.le_of_eq rfl) (hb hby d1_1) e0 ?_
  rintro v1 T1 L1 X1 ⟨rfl, N1q, hh1⟩
  have N1 := Fr.app N0 N1q
  show GG _ _ _ _ _ _ _ T1 (mkF m 4 #[.val (.ref a1), .unset] [(.ref wD)])
  refine own_go (fun _ => XS.astoreN X1.here hx rfl (hb hby d1_4) rfl rfl (l' := #[.val (.ref a1), .val (.ref wD)]) rfl) ?_
  show GG _ _ _ _ _ _ _ T1 (mkF m 5 #[.val (.ref a1), .val (.ref wD)] [])
  refine own_go (fun _ => XS.aloadN X1.here hx rfl (hb hby d1_5) rfl rfl) ?_
  show GG _ _ _ _ _ _ _ T1 (mkF m 6 #[.val (.ref a1), .val (.ref wD)] [(.ref wD)])
  refine own_callV X1 hx hZ (y := (⟨"java/util/OptionalDouble", "isPresent", "()Z"⟩ : MethodName)) (z := (⟨"java/util/OptionalDouble", "isPresent", "()Z"⟩ : MethodName)) 0 hown (hw _ (List.mem_of_getElem? (i := 48) rfl)) (hw _ (List.mem_of_getElem? (i := 49) rfl)) (notFace_of_selects (args := #[]) (mvT hZ (hw _ (List.mem_of_getElem? (i := 51) rfl)))) (hw _ (List.mem_of_getElem? (i := 51) rfl)) (hw _ (List.mem_of_getElem? (i := 50) rfl)) (hw _ (List.mem_of_getElem? (i := 45) rfl)) (hw _ (List.mem_of_getElem? (i := 52) rfl)) (by decide) (a := wD) (argsL := []) (rest := []) (rm9 l Z a0 hw [] wD h0 n0 Z0 F_D) (by decide) (by decide) (by decide) (by decide) E_D (g := (mkF m 6 #[.val (.ref a1), .val (.ref wD)] [(.ref wD)])) rfl (by rw [hml]; rfl) (lenOf pd___Z_171 rfl) rfl (by show 2 * 0 + _ ≤ _; exact Nat.le_of_eq rfl) (hb hby d1_6) hh1 ?_
  rintro v2 T2 L2 X2 ⟨rfl, N2q, hh2⟩
  have N2 := Fr.app N1 N2q
  show GG _ _ _ _ _ _ _ T2 (mkF m 9 #[.val (.ref a1), .val (.ref wD)] [(.int (0 : Int32))])
  have hc9 : (0 : Int32) = (0 : Int32) := by decide
  refine own_go (fun _ => XS.ifYes X2.here hx rfl (pc0 := 9) (pc' := 30) rfl (hb hby d1_9) rfl ((if0 _ _).trans (teq hc9).1) (by decide) (by decide)) ?_
  show GG _ _ _ _ _ _ _ T2 (mkF m 30 #[.val (.ref a1), .val (.ref wD)] [])
  refine own_callS X2 hx hZ (y := (⟨"java/util/Optional", "empty", "()Ljava/util/Optional;"⟩ : MethodName)) 0 hown (hw _ (List.mem_of_getElem? (i := 55) rfl)) (hw _ (List.mem_of_getElem? (i := 56) rfl)) (hw _ (List.mem_of_getElem? (i := 57) rfl)) (hw _ (List.mem_of_getElem? (i := 58) rfl)) (by decide) (argsL := []) (rest := []) (rm10 l Z a0 hw [] wO h0 n0 Z0 S_O) (by decide) (by decide) (by decide) (by decide) (g := (mkF m 30 #[.val (.ref a1), .val (.ref wD)] [])) rfl (by rw [hml]; rfl) (lenOf pd___Ljava_util_Optional__18 rfl) rfl (by show 2 * 0 + _ ≤ _; exact Nat.le_of_eq rfl) (hb hby d1_30) hh2 ?_
  rintro v3 T3 L3 X3 ⟨rfl, N3q, hh3⟩
  have N3 := Fr.app N2 N3q
  show GG _ _ _ _ _ _ _ T3 (mkF m 33 #[.val (.ref a1), .val (.ref wD)] [(.ref wO)])
  refine own_ret X3 hx hlk (t := (.object "java/util/Optional")) (w := (.ref wO)) Bd.returns rfl (Or.inr (Or.inr (Or.inr (Or.inr ⟨rfl, rfl, rfl⟩)))) (hb hby d1_33) (by decide) (by decide) ?_
  show Q1 Z a1 b1 cs wD wO h0 n0 (some (.ref wO)) T3.heap _
  rw [hh3]
  exact ⟨rfl, N3, rfl⟩
theorem d15_0 : decode jdk_30_method_1_code 0 = .ok (.aload_n 0, 1) := by decide +kernel
theorem d15_1 : decode jdk_30_method_1_code 1 = .ok (.invokespecial 1, 3) := by decide +kernel
theorem d15_4 : decode jdk_30_method_1_code 4 = .ok (.return_, 1) := by decide +kernel
theorem pn_java_lang_Record : plainName "java/lang/Record" = true := by first | (simp [plainName, overriddenIn]; done) | decide +kernel
theorem ef_15 (m : MethodId) (x0 : Addr) : entryFrame m #[(.ref x0)] 1 = mkF m 0 #[.val (.ref x0)] [] := by first | (simp [entryFrame, mkF, argsToLocals, Value.category]; done) | rfl
def Q15 (Z : State) (a1 : Addr) (h0 : Heap) (n0 : Nat) (v : Option Value) (h : Heap) (L : List Loc) : Prop := v = none ∧ Fr n0 L ∧ h = h0
set_option maxRecDepth 65536 in
set_option maxHeartbeats 40000000 in
theorem rm15 (l : Launch) (Z : State) (a0 : Array Value) (hw : ∀ d ∈ tables_1, d.before a0 Z = true) (ws : List Jvm.Cond) (a1 : Addr) (h0 : Heap) (n0 : Nat) (Z0 : n0 ≤ h0.size)  :
    own_CT l Z (⟨"java/lang/Record", "<init>", "()V"⟩ : MethodName) jdk_30_method_1_code 1 none ws ({ frames := 1, cells := 0, slots := 0, locals := 12 } : Room) #[(.ref a1)] h0 (Q15 Z a1 h0 n0) := by
  refine MetFree.of_bodySF (plainFor_of_name pn_java_lang_Record) hisR ?_
  intro p e s m args below meth c s₁ Bd hml0 hP hK
  obtain ⟨rfl, hZ, hh⟩ := hP
  have hx := Bd.exec
  have hby := Bd.bytes
  have hml : c.maxLocals = 1 := hml0
  have hown : s.vm.findClass "java/lang/Record" = some m.cls := findClass_of_methodNamed Bd.named
  have hnm := (name_of_methodNamed Bd.named Bd.method).1
  have hlk : meth.locks = false := BodyLoose.notSynchronized Bd
  have X0 : Stand p l e ({ frames := 1, cells := 0, slots := 0, locals := 12 } : Room) s m #[(.ref a1)] below meth c s₁ [] 0 0 := Stand.of_body Bd
  have e0 : s₁.heap = h0 := by rw [← hh, Bd.state]; rfl
  have N0 := Fr.nil n0
  show GG p e below s ({ frames := 1, cells := 0, slots := 0, locals := 12 } : Room).cells ({ frames := 1, cells := 0, slots := 0, locals := 12 } : Room).slots (Q15 Z a1 h0 n0) s₁ (entryFrame m #[(.ref a1)] 1)
  refine own_in (ef_15 m a1) ?_
  show GG _ _ _ _ _ _ _ s₁ (mkF m 0 #[.val (.ref a1)] [])
  refine own_go (fun _ => XS.aloadN X0.here hx rfl (hb hby d15_0) rfl rfl) ?_
  show GG _ _ _ _ _ _ _ s₁ (mkF m 1 #[.val (.ref a1)] [(.ref a1)])
  obtain ⟨T1, X1, e1, st1⟩ := initO X0 hx hZ hown (hw _ (List.mem_of_getElem? (i := 85) rfl)) (hw _ (List.mem_of_getElem? (i := 86) rfl)) (hw _ (List.mem_of_getElem? (i := 87) rfl)) e0 (g := (mkF m 1 #[.val (.ref a1)] [(.ref a1)])) rfl (by rw [hml]; rfl) rfl (hb hby d15_1) (by decide) (W := 0) (by show 2 * 0 + _ ≤ _; exact Nat.le_of_eq rfl) (by decide)
  refine own_go (fun _ => st1 _) ?_
  show GG _ _ _ _ _ _ _ T1 (mkF m 4 #[.val (.ref a1)] [])
  refine own_retV X1 hx hlk Bd.returns (hb hby d15_4) (by decide) (by decide) ?_
  show Q15 Z a1 h0 n0 (none) T1.heap _
  rw [e1]
  exact ⟨rfl, N0, rfl⟩
theorem d17_0 : decode jdk_31_method_11_code 0 = .ok (.aload_n 0, 1) := by decide +kernel
theorem d17_1 : decode jdk_31_method_11_code 1 = .ok (.ifnonnull 12, 3) := by decide +kernel
theorem d17_13 : decode jdk_31_method_11_code 13 = .ok (.aload_n 0, 1) := by decide +kernel
theorem d17_14 : decode jdk_31_method_11_code 14 = .ok (.areturn, 1) := by decide +kernel
theorem pn_java_util_Objects : plainName "java/util/Objects" = true := by first | (simp [plainName, overriddenIn]; done) | decide +kernel
theorem ef_17 (m : MethodId) (x0 : Addr) (x1 : Addr) : entryFrame m #[(.ref x0), (.ref x1)] 2 = mkF m 0 #[.val (.ref x0), .val (.ref x1)] [] := by first | (simp [entryFrame, mkF, argsToLocals, Value.category]; done) | rfl
def Q17 (Z : State) (a1 : Addr) (a2 : Addr) (h0 : Heap) (n0 : Nat) (v : Option Value) (h : Heap) (L : List Loc) : Prop := v = some (.ref a1) ∧ Fr n0 L ∧ h = h0
set_option maxRecDepth 65536 in
set_option maxHeartbeats 40000000 in
theorem rm17 (l : Launch) (Z : State) (a0 : Array Value) (hw : ∀ d ∈ tables_1, d.before a0 Z = true) (ws : List Jvm.Cond) (a1 : Addr) (a2 : Addr) (h0 : Heap) (n0 : Nat) (Z0 : n0 ≤ h0.size)  :
    own_CT l Z (⟨"java/util/Objects", "requireNonNull", "(Ljava/lang/Object;Ljava/lang/String;)Ljava/lang/Object;"⟩ : MethodName) jdk_31_method_11_code 2 (some (.object "java/lang/Object")) ws ({ frames := 0, cells := 0, slots := 0, locals := 0 } : Room) #[(.ref a1), (.ref a2)] h0 (Q17 Z a1 a2 h0 n0) := by
  refine MetFree.of_bodySF (plainFor_of_name pn_java_util_Objects) hisR ?_
  intro p e s m args below meth c s₁ Bd hml0 hP hK
  obtain ⟨rfl, hZ, hh⟩ := hP
  have hx := Bd.exec
  have hby := Bd.bytes
  have hml : c.maxLocals = 2 := hml0
  have hown : s.vm.findClass "java/util/Objects" = some m.cls := findClass_of_methodNamed Bd.named
  have hnm := (name_of_methodNamed Bd.named Bd.method).1
  have hlk : meth.locks = false := BodyLoose.notSynchronized Bd
  have X0 : Stand p l e ({ frames := 0, cells := 0, slots := 0, locals := 0 } : Room) s m #[(.ref a1), (.ref a2)] below meth c s₁ [] 0 0 := Stand.of_body Bd
  have e0 : s₁.heap = h0 := by rw [← hh, Bd.state]; rfl
  have N0 := Fr.nil n0
  show GG p e below s ({ frames := 0, cells := 0, slots := 0, locals := 0 } : Room).cells ({ frames := 0, cells := 0, slots := 0, locals := 0 } : Room).slots (Q17 Z a1 a2 h0 n0) s₁ (entryFrame m #[(.ref a1), (.ref a2)] 2)
  refine own_in (ef_17 m a1 a2) ?_
  show GG _ _ _ _ _ _ _ s₁ (mkF m 0 #[.val (.ref a1), .val (.ref a2)] [])
  refine own_go (fun _ => XS.aloadN X0.here hx rfl (hb hby d17_0) rfl rfl) ?_
  show GG _ _ _ _ _ _ _ s₁ (mkF m 1 #[.val (.ref a1), .val (.ref a2)] [(.ref a1)])
  refine own_go (fun _ => XS.ifnonnullYes X0.here hx rfl (pc0 := 1) (pc' := 13) rfl (hb hby d17_1) rfl (by decide) (by decide)) ?_
  show GG _ _ _ _ _ _ _ s₁ (mkF m 13 #[.val (.ref a1), .val (.ref a2)] [])
  refine own_go (fun _ => XS.aloadN X0.here hx rfl (hb hby d17_13) rfl rfl) ?_
  show GG _ _ _ _ _ _ _ s₁ (mkF m 14 #[.val (.ref a1), .val (.ref a2)] [(.ref a1)])
  refine own_ret X0 hx hlk (t := (.object "java/lang/Object")) (w := (.ref a1)) Bd.returns rfl (Or.inr (Or.inr (Or.inr (Or.inr ⟨rfl, rfl, rfl⟩)))) (hb hby d17_14) (by decide) (by decide) ?_
  show Q17 Z a1 a2 h0 n0 (some (.ref a1)) s₁.heap _
  rw [e0]
  exact ⟨rfl, N0, rfl⟩
theorem d19_0 : decode jdk_56_method_3_code 0 = .ok (.aload_n 0, 1) := by decide +kernel
theorem d19_1 : decode jdk_56_method_3_code 1 = .ok (.instanceof 10, 3) := by decide +kernel
theorem d19_4 : decode jdk_56_method_3_code 4 = .ok (.ifCond .ne 22, 3) := by decide +kernel
theorem d19_7 : decode jdk_56_method_3_code 7 = .ok (.aload_n 0, 1) := by decide +kernel
theorem d19_8 : decode jdk_56_method_3_code 8 = .ok (.instanceof 12, 3) := by decide +kernel
theorem d19_11 : decode jdk_56_method_3_code 11 = .ok (.ifCond .eq 20, 3) := by decide +kernel
theorem d19_14 : decode jdk_56_method_3_code 14 = .ok (.aload_n 0, 1) := by decide +kernel
theorem d19_15 : decode jdk_56_method_3_code 15 = .ok (.checkcast 12, 3) := by decide +kernel
theorem d19_18 : decode jdk_56_method_3_code 18 = .ok (.astore_n 1, 1) := by decide +kernel
theorem d19_19 : decode jdk_56_method_3_code 19 = .ok (.aload_n 1, 1) := by decide +kernel
theorem d19_20 : decode jdk_56_method_3_code 20 = .ok (.getfield 14, 3) := by decide +kernel
theorem d19_23 : decode jdk_56_method_3_code 23 = .ok (.ifCond .ne 8, 3) := by decide +kernel
theorem d19_26 : decode jdk_56_method_3_code 26 = .ok (.aload_n 0, 1) := by decide +kernel
theorem d19_27 : decode jdk_56_method_3_code 27 = .ok (.checkcast 18, 3) := by decide +kernel
theorem d19_30 : decode jdk_56_method_3_code 30 = .ok (.areturn, 1) := by decide +kernel
theorem pn_java_util_ImmutableCollections : plainName "java/util/ImmutableCollections" = true := by first | (simp [plainName, overriddenIn]; done) | decide +kernel
theorem ef_19 (m : MethodId) (x0 : Addr) : entryFrame m #[(.ref x0)] 2 = mkF m 0 #[.val (.ref x0), .unset] [] := by first | (simp [entryFrame, mkF, argsToLocals, Value.category]; done) | rfl
def Q19 (Z : State) (a1 : Addr) (h0 : Heap) (n0 : Nat) (v : Option Value) (h : Heap) (L : List Loc) : Prop := v = some (.ref a1) ∧ Fr n0 L ∧ h = h0
set_option maxRecDepth 65536 in
set_option maxHeartbeats 40000000 in
theorem rm19 (l : Launch) (Z : State) (a0 : Array Value) (hw : ∀ d ∈ tables_1, d.before a0 Z = true) (ws : List Jvm.Cond) (a1 : Addr) (h0 : Heap) (n0 : Nat) (Z0 : n0 ≤ h0.size) (E_l : Exa Z h0 a1 "java/util/ImmutableCollections$ListN") (F_l : Fld Z h0 a1 "java/util/ImmutableCollections$ListN" "allowNulls" "Z" (.int (0 : Int32))) :
    own_CT l Z (⟨"java/util/ImmutableCollections", "listCopy", "(Ljava/util/Collection;)Ljava/util/List;"⟩ : MethodName) jdk_56_method_3_code 2 (some (.object "java/util/List")) ws ({ frames := 0, cells := 0, slots := 0, locals := 0 } : Room) #[(.ref a1)] h0 (Q19 Z a1 h0 n0) := by
  refine MetFree.of_bodySF (plainFor_of_name pn_java_util_ImmutableCollections) hisR ?_
  intro p e s m args below meth c s₁ Bd hml0 hP hK
  obtain ⟨rfl, hZ, hh⟩ := hP
  have hx := Bd.exec
  have hby := Bd.bytes
  have hml : c.maxLocals = 2 := hml0
  have hown : s.vm.findClass "java/util/ImmutableCollections" = some m.cls := findClass_of_methodNamed Bd.named
  have hnm := (name_of_methodNamed Bd.named Bd.method).1
  have hlk : meth.locks = false := BodyLoose.notSynchronized Bd
  have X0 : Stand p l e ({ frames := 0, cells := 0, slots := 0, locals := 0 } : Room) s m #[(.ref a1)] below meth c s₁ [] 0 0 := Stand.of_body Bd
  have e0 : s₁.heap = h0 := by rw [← hh, Bd.state]; rfl
  have N0 := Fr.nil n0
  show GG p e below s ({ frames := 0, cells := 0, slots := 0, locals := 0 } : Room).cells ({ frames := 0, cells := 0, slots := 0, locals := 0 } : Room).slots (Q19 Z a1 h0 n0) s₁ (entryFrame m #[(.ref a1)] 2)
  refine own_in (ef_19 m a1) ?_
  show GG _ _ _ _ _ _ _ s₁ (mkF m 0 #[.val (.ref a1), .unset] [])
  refine own_go (fun _ => XS.aloadN X0.here hx rfl (hb hby d19_0) rfl rfl) ?_
  show GG _ _ _ _ _ _ _ s₁ (mkF m 1 #[.val (.ref a1), .unset] [(.ref a1)])
  rcases own_insAny hZ hown (hw _ (List.mem_of_getElem? (i := 104) rfl)) E_l with hI | hI
  · skip
    obtain ⟨T2, X2, e2, st2⟩ := instY X0 hx hZ hown (hw _ (List.mem_of_getElem? (i := 104) rfl)) e0 hI (g := (mkF m 1 #[.val (.ref a1), .unset] [(.ref a1)])) rfl rfl (hb hby d19_1)
    refine own_go (fun _ => st2 _) ?_
    show GG _ _ _ _ _ _ _ T2 (mkF m 4 #[.val (.ref a1), .unset] [(.int (1 : Int32))])
    have hc4 : ¬ ((1 : Int32) = (0 : Int32)) := by decide
    refine own_go (fun _ => XS.ifYes X2.here hx rfl (pc0 := 4) (pc' := 26) rfl (hb hby d19_4) rfl ((if0 _ _).trans (feq hc4).2) (by decide) (by decide)) ?_
    show GG _ _ _ _ _ _ _ T2 (mkF m 26 #[.val (.ref a1), .unset] [])
    refine own_go (fun _ => XS.aloadN X2.here hx rfl (hb hby d19_26) rfl rfl) ?_
    show GG _ _ _ _ _ _ _ T2 (mkF m 27 #[.val (.ref a1), .unset] [(.ref a1)])
    obtain ⟨T3, X3, e3, st3⟩ := castY X2 hx hZ hown (hw _ (List.mem_of_getElem? (i := 114) rfl)) e2 (Ins.of_exa E_l (hw _ (List.mem_of_getElem? (i := 115) rfl))) (g := (mkF m 27 #[.val (.ref a1), .unset] [(.ref a1)])) rfl rfl (hb hby d19_27)
    refine own_go (fun _ => st3 _) ?_
    show GG _ _ _ _ _ _ _ T3 (mkF m 30 #[.val (.ref a1), .unset] [(.ref a1)])
    refine own_ret X3 hx hlk (t := (.object "java/util/List")) (w := (.ref a1)) Bd.returns rfl (Or.inr (Or.inr (Or.inr (Or.inr ⟨rfl, rfl, rfl⟩)))) (hb hby d19_30) (by decide) (by decide) ?_
    show Q19 Z a1 h0 n0 (some (.ref a1)) T3.heap _
    rw [e3]
    exact ⟨rfl, N0, rfl⟩
  · skip
    obtain ⟨T4, X4, e4, st4⟩ := instNo X0 hx hZ hown (hw _ (List.mem_of_getElem? (i := 104) rfl)) e0 E_l hI (g := (mkF m 1 #[.val (.ref a1), .unset] [(.ref a1)])) rfl rfl (hb hby d19_1)
    refine own_go (fun _ => st4 _) ?_
    show GG _ _ _ _ _ _ _ T4 (mkF m 4 #[.val (.ref a1), .unset] [(.int (0 : Int32))])
    have hc4 : (0 : Int32) = (0 : Int32) := by decide
    refine own_go (fun _ => XS.ifNo X4.here hx rfl (hb hby d19_4) rfl ((if0 _ _).trans (teq hc4).2)) ?_
    show GG _ _ _ _ _ _ _ T4 (mkF m 7 #[.val (.ref a1), .unset] [])
    refine own_go (fun _ => XS.aloadN X4.here hx rfl (hb hby d19_7) rfl rfl) ?_
    show GG _ _ _ _ _ _ _ T4 (mkF m 8 #[.val (.ref a1), .unset] [(.ref a1)])
    obtain ⟨T5, X5, e5, st5⟩ := instY X4 hx hZ hown (hw _ (List.mem_of_getElem? (i := 110) rfl)) e4 (Ins.self E_l) (g := (mkF m 8 #[.val (.ref a1), .unset] [(.ref a1)])) rfl rfl (hb hby d19_8)
    refine own_go (fun _ => st5 _) ?_
    show GG _ _ _ _ _ _ _ T5 (mkF m 11 #[.val (.ref a1), .unset] [(.int (1 : Int32))])
    have hc11 : ¬ ((1 : Int32) = (0 : Int32)) := by decide
    refine own_go (fun _ => XS.ifNo X5.here hx rfl (hb hby d19_11) rfl ((if0 _ _).trans (feq hc11).1)) ?_
    show GG _ _ _ _ _ _ _ T5 (mkF m 14 #[.val (.ref a1), .unset] [])
    refine own_go (fun _ => XS.aloadN X5.here hx rfl (hb hby d19_14) rfl rfl) ?_
    show GG _ _ _ _ _ _ _ T5 (mkF m 15 #[.val (.ref a1), .unset] [(.ref a1)])
    obtain ⟨T6, X6, e6, st6⟩ := castY X5 hx hZ hown (hw _ (List.mem_of_getElem? (i := 110) rfl)) e5 (Ins.self E_l) (g := (mkF m 15 #[.val (.ref a1), .unset] [(.ref a1)])) rfl rfl (hb hby d19_15)
    refine own_go (fun _ => st6 _) ?_
    show GG _ _ _ _ _ _ _ T6 (mkF m 18 #[.val (.ref a1), .unset] [(.ref a1)])
    refine own_go (fun _ => XS.astoreN X6.here hx rfl (hb hby d19_18) rfl rfl (l' := #[.val (.ref a1), .val (.ref a1)]) rfl) ?_
    show GG _ _ _ _ _ _ _ T6 (mkF m 19 #[.val (.ref a1), .val (.ref a1)] [])
    refine own_go (fun _ => XS.aloadN X6.here hx rfl (hb hby d19_19) rfl rfl) ?_
    show GG _ _ _ _ _ _ _ T6 (mkF m 20 #[.val (.ref a1), .val (.ref a1)] [(.ref a1)])
    obtain ⟨T7, X7, e7, st7⟩ := getF X6 hx hZ hown (Or.inr (hw _ (List.mem_of_getElem? (i := 112) rfl))) Via.refl e6 F_l (g := (mkF m 20 #[.val (.ref a1), .val (.ref a1)] [(.ref a1)])) rfl rfl (hb hby d19_20)
    refine own_go (fun _ => st7 _) ?_
    show GG _ _ _ _ _ _ _ T7 (mkF m 23 #[.val (.ref a1), .val (.ref a1)] [(.int (0 : Int32))])
    have hc23 : (0 : Int32) = (0 : Int32) := by decide
    refine own_go (fun _ => XS.ifNo X7.here hx rfl (hb hby d19_23) rfl ((if0 _ _).trans (teq hc23).2)) ?_
    show GG _ _ _ _ _ _ _ T7 (mkF m 26 #[.val (.ref a1), .val (.ref a1)] [])
    refine own_go (fun _ => XS.aloadN X7.here hx rfl (hb hby d19_26) rfl rfl) ?_
    show GG _ _ _ _ _ _ _ T7 (mkF m 27 #[.val (.ref a1), .val (.ref a1)] [(.ref a1)])
    obtain ⟨T8, X8, e8, st8⟩ := castY X7 hx hZ hown (hw _ (List.mem_of_getElem? (i := 114) rfl)) e7 (Ins.of_exa E_l (hw _ (List.mem_of_getElem? (i := 115) rfl))) (g := (mkF m 27 #[.val (.ref a1), .val (.ref a1)] [(.ref a1)])) rfl rfl (hb hby d19_27)
    refine own_go (fun _ => st8 _) ?_
    show GG _ _ _ _ _ _ _ T8 (mkF m 30 #[.val (.ref a1), .val (.ref a1)] [(.ref a1)])
    refine own_ret X8 hx hlk (t := (.object "java/util/List")) (w := (.ref a1)) Bd.returns rfl (Or.inr (Or.inr (Or.inr (Or.inr ⟨rfl, rfl, rfl⟩)))) (hb hby d19_30) (by decide) (by decide) ?_
    show Q19 Z a1 h0 n0 (some (.ref a1)) T8.heap _
    rw [e8]
    exact ⟨rfl, N0, rfl⟩
theorem pd__Ljava_util_Collection__Ljava_util_List__724 : parseMethodDescriptor "(Ljava/util/Collection;)Ljava/util/List;" = some ⟨[(.object "java/util/Collection")], some (.object "java/util/List")⟩ := by decide +kernel
theorem d18_0 : decode jdk_40_method_48_code 0 = .ok (.aload_n 0, 1) := by decide +kernel
theorem d18_1 : decode jdk_40_method_48_code 1 = .ok (.invokestatic 112, 3) := by decide +kernel
theorem d18_4 : decode jdk_40_method_48_code 4 = .ok (.areturn, 1) := by decide +kernel
theorem ef_18 (m : MethodId) (x0 : Addr) : entryFrame m #[(.ref x0)] 1 = mkF m 0 #[.val (.ref x0)] [] := by first | (simp [entryFrame, mkF, argsToLocals, Value.category]; done) | rfl
def Q18 (Z : State) (a1 : Addr) (h0 : Heap) (n0 : Nat) (v : Option Value) (h : Heap) (L : List Loc) : Prop := v = some (.ref a1) ∧ Fr n0 L ∧ h = h0
set_option maxRecDepth 65536 in
set_option maxHeartbeats 40000000 in
theorem rm18 (l : Launch) (Z : State) (a0 : Array Value) (hw : ∀ d ∈ tables_1, d.before a0 Z = true) (ws : List Jvm.Cond) (a1 : Addr) (h0 : Heap) (n0 : Nat) (Z0 : n0 ≤ h0.size) (E_l : Exa Z h0 a1 "java/util/ImmutableCollections$ListN") (F_l : Fld Z h0 a1 "java/util/ImmutableCollections$ListN" "allowNulls" "Z" (.int (0 : Int32))) :
    own_CT l Z (⟨"java/util/List", "copyOf", "(Ljava/util/Collection;)Ljava/util/List;"⟩ : MethodName) jdk_40_method_48_code 1 (some (.object "java/util/List")) ws ({ frames := 1, cells := 0, slots := 0, locals := 13 } : Room) #[(.ref a1)] h0 (Q18 Z a1 h0 n0) := by
  refine MetFree.of_bodySF (plainFor_of_name pn_java_util_List) hisR ?_
  intro p e s m args below meth c s₁ Bd hml0 hP hK
  obtain ⟨rfl, hZ, hh⟩ := hP
  have hx := Bd.exec
  have hby := Bd.bytes
  have hml : c.maxLocals = 1 := hml0
  have hown : s.vm.findClass "java/util/List" = some m.cls := findClass_of_methodNamed Bd.named
  have hnm := (name_of_methodNamed Bd.named Bd.method).1
  have hlk : meth.locks = false := BodyLoose.notSynchronized Bd
  have X0 : Stand p l e ({ frames := 1, cells := 0, slots := 0, locals := 13 } : Room) s m #[(.ref a1)] below meth c s₁ [] 0 0 := Stand.of_body Bd
  have e0 : s₁.heap = h0 := by rw [← hh, Bd.state]; rfl
  have N0 := Fr.nil n0
  show GG p e below s ({ frames := 1, cells := 0, slots := 0, locals := 13 } : Room).cells ({ frames := 1, cells := 0, slots := 0, locals := 13 } : Room).slots (Q18 Z a1 h0 n0) s₁ (entryFrame m #[(.ref a1)] 1)
  refine own_in (ef_18 m a1) ?_
  show GG _ _ _ _ _ _ _ s₁ (mkF m 0 #[.val (.ref a1)] [])
  refine own_go (fun _ => XS.aloadN X0.here hx rfl (hb hby d18_0) rfl rfl) ?_
  show GG _ _ _ _ _ _ _ s₁ (mkF m 1 #[.val (.ref a1)] [(.ref a1)])
  refine own_callS X0 hx hZ (y := (⟨"java/util/ImmutableCollections", "listCopy", "(Ljava/util/Collection;)Ljava/util/List;"⟩ : MethodName)) 0 hown (hw _ (List.mem_of_getElem? (i := 101) rfl)) (hw _ (List.mem_of_getElem? (i := 102) rfl)) (hw _ (List.mem_of_getElem? (i := 76) rfl)) (hw _ (List.mem_of_getElem? (i := 103) rfl)) (by decide) (argsL := [(.ref a1)]) (rest := []) (rm19 l Z a0 hw [] a1 h0 n0 Z0 E_l F_l) (by decide) (by decide) (by decide) (by decide) (g := (mkF m 1 #[.val (.ref a1)] [(.ref a1)])) rfl (by rw [hml]; rfl) (lenOf pd__Ljava_util_Collection__Ljava_util_List__724 rfl) rfl (by show 2 * 0 + _ ≤ _; exact Nat.le_of_eq rfl) (hb hby d18_1) e0 ?_
  rintro v1 T1 L1 X1 ⟨rfl, N1q, hh1⟩
  have N1 := Fr.app N0 N1q
  show GG _ _ _ _ _ _ _ T1 (mkF m 4 #[.val (.ref a1)] [(.ref a1)])
  refine own_ret X1 hx hlk (t := (.object "java/util/List")) (w := (.ref a1)) Bd.returns rfl (Or.inr (Or.inr (Or.inr (Or.inr ⟨rfl, rfl, rfl⟩)))) (hb hby d18_4) (by decide) (by decide) ?_
  show Q18 Z a1 h0 n0 (some (.ref a1)) T1.heap _
  rw [hh1]
  exact ⟨rfl, N1, rfl⟩
theorem pd___V_167 : parseMethodDescriptor "()V" = some ⟨[], none⟩ := by decide +kernel
theorem pd__Ljava_lang_Object_Ljava_lang_String__Lj_120 : parseMethodDescriptor "(Ljava/lang/Object;Ljava/lang/String;)Ljava/lang/Object;" = some ⟨[(.object "java/lang/Object"), (.object "java/lang/String")], some (.object "java/lang/Object")⟩ := by decide +kernel
theorem d14_0 : decode prog_65_method_1_code 0 = .ok (.aload_n 0, 1) := by decide +kernel
theorem d14_1 : decode prog_65_method_1_code 1 = .ok (.invokespecial 1, 3) := by decide +kernel
theorem d14_4 : decode prog_65_method_1_code 4 = .ok (.aload_n 2, 1) := by decide +kernel
theorem d14_5 : decode prog_65_method_1_code 5 = .ok (.ldc 7, 2) := by decide +kernel
theorem d14_7 : decode prog_65_method_1_code 7 = .ok (.invokestatic 9, 3) := by decide +kernel
theorem d14_10 : decode prog_65_method_1_code 10 = .ok (.pop, 1) := by decide +kernel
theorem d14_11 : decode prog_65_method_1_code 11 = .ok (.aload_n 3, 1) := by decide +kernel
theorem d14_12 : decode prog_65_method_1_code 12 = .ok (.ldc 15, 2) := by decide +kernel
theorem d14_14 : decode prog_65_method_1_code 14 = .ok (.invokestatic 9, 3) := by decide +kernel
theorem d14_17 : decode prog_65_method_1_code 17 = .ok (.pop, 1) := by decide +kernel
theorem d14_18 : decode prog_65_method_1_code 18 = .ok (.aload 7, 2) := by decide +kernel
theorem d14_20 : decode prog_65_method_1_code 20 = .ok (.ldc 17, 2) := by decide +kernel
theorem d14_22 : decode prog_65_method_1_code 22 = .ok (.invokestatic 9, 3) := by decide +kernel
theorem d14_25 : decode prog_65_method_1_code 25 = .ok (.pop, 1) := by decide +kernel
theorem d14_26 : decode prog_65_method_1_code 26 = .ok (.aload 8, 2) := by decide +kernel
theorem d14_28 : decode prog_65_method_1_code 28 = .ok (.ldc 19, 2) := by decide +kernel
theorem d14_30 : decode prog_65_method_1_code 30 = .ok (.invokestatic 9, 3) := by decide +kernel
theorem d14_33 : decode prog_65_method_1_code 33 = .ok (.pop, 1) := by decide +kernel
theorem d14_34 : decode prog_65_method_1_code 34 = .ok (.aload 10, 2) := by decide +kernel
theorem d14_36 : decode prog_65_method_1_code 36 = .ok (.ldc 21, 2) := by decide +kernel
theorem d14_38 : decode prog_65_method_1_code 38 = .ok (.invokestatic 9, 3) := by decide +kernel
theorem d14_41 : decode prog_65_method_1_code 41 = .ok (.pop, 1) := by decide +kernel
theorem d14_42 : decode prog_65_method_1_code 42 = .ok (.aload 11, 2) := by decide +kernel
theorem d14_44 : decode prog_65_method_1_code 44 = .ok (.ldc 23, 2) := by decide +kernel
theorem d14_46 : decode prog_65_method_1_code 46 = .ok (.invokestatic 9, 3) := by decide +kernel
theorem d14_49 : decode prog_65_method_1_code 49 = .ok (.pop, 1) := by decide +kernel
theorem d14_50 : decode prog_65_method_1_code 50 = .ok (.aload 12, 2) := by decide +kernel
theorem d14_52 : decode prog_65_method_1_code 52 = .ok (.invokestatic 25, 3) := by decide +kernel
theorem d14_55 : decode prog_65_method_1_code 55 = .ok (.astore 12, 2) := by decide +kernel
theorem d14_57 : decode prog_65_method_1_code 57 = .ok (.aload_n 0, 1) := by decide +kernel
theorem d14_58 : decode prog_65_method_1_code 58 = .ok (.iload_n 1, 1) := by decide +kernel
theorem d14_59 : decode prog_65_method_1_code 59 = .ok (.putfield 31, 3) := by decide +kernel
theorem d14_62 : decode prog_65_method_1_code 62 = .ok (.aload_n 0, 1) := by decide +kernel
theorem d14_63 : decode prog_65_method_1_code 63 = .ok (.aload_n 2, 1) := by decide +kernel
theorem d14_64 : decode prog_65_method_1_code 64 = .ok (.putfield 37, 3) := by decide +kernel
theorem d14_67 : decode prog_65_method_1_code 67 = .ok (.aload_n 0, 1) := by decide +kernel
theorem d14_68 : decode prog_65_method_1_code 68 = .ok (.aload_n 3, 1) := by decide +kernel
theorem d14_69 : decode prog_65_method_1_code 69 = .ok (.putfield 40, 3) := by decide +kernel
theorem d14_72 : decode prog_65_method_1_code 72 = .ok (.aload_n 0, 1) := by decide +kernel
theorem d14_73 : decode prog_65_method_1_code 73 = .ok (.iload 4, 2) := by decide +kernel
theorem d14_75 : decode prog_65_method_1_code 75 = .ok (.putfield 42, 3) := by decide +kernel
theorem d14_78 : decode prog_65_method_1_code 78 = .ok (.aload_n 0, 1) := by decide +kernel
theorem d14_79 : decode prog_65_method_1_code 79 = .ok (.iload 5, 2) := by decide +kernel
theorem d14_81 : decode prog_65_method_1_code 81 = .ok (.putfield 45, 3) := by decide +kernel
theorem d14_84 : decode prog_65_method_1_code 84 = .ok (.aload_n 0, 1) := by decide +kernel
theorem d14_85 : decode prog_65_method_1_code 85 = .ok (.iload 6, 2) := by decide +kernel
theorem d14_87 : decode prog_65_method_1_code 87 = .ok (.putfield 48, 3) := by decide +kernel
theorem d14_90 : decode prog_65_method_1_code 90 = .ok (.aload_n 0, 1) := by decide +kernel
theorem d14_91 : decode prog_65_method_1_code 91 = .ok (.aload 7, 2) := by decide +kernel
theorem d14_93 : decode prog_65_method_1_code 93 = .ok (.putfield 51, 3) := by decide +kernel
theorem d14_96 : decode prog_65_method_1_code 96 = .ok (.aload_n 0, 1) := by decide +kernel
theorem d14_97 : decode prog_65_method_1_code 97 = .ok (.aload 8, 2) := by decide +kernel
theorem d14_99 : decode prog_65_method_1_code 99 = .ok (.putfield 53, 3) := by decide +kernel
theorem d14_102 : decode prog_65_method_1_code 102 = .ok (.aload_n 0, 1) := by decide +kernel
theorem d14_103 : decode prog_65_method_1_code 103 = .ok (.aload 9, 2) := by decide +kernel
theorem d14_105 : decode prog_65_method_1_code 105 = .ok (.putfield 56, 3) := by decide +kernel
theorem d14_108 : decode prog_65_method_1_code 108 = .ok (.aload_n 0, 1) := by decide +kernel
theorem d14_109 : decode prog_65_method_1_code 109 = .ok (.aload 10, 2) := by decide +kernel
theorem d14_111 : decode prog_65_method_1_code 111 = .ok (.putfield 59, 3) := by decide +kernel
theorem d14_114 : decode prog_65_method_1_code 114 = .ok (.aload_n 0, 1) := by decide +kernel
theorem d14_115 : decode prog_65_method_1_code 115 = .ok (.aload 11, 2) := by decide +kernel
theorem d14_117 : decode prog_65_method_1_code 117 = .ok (.putfield 62, 3) := by decide +kernel
theorem d14_120 : decode prog_65_method_1_code 120 = .ok (.aload_n 0, 1) := by decide +kernel
theorem d14_121 : decode prog_65_method_1_code 121 = .ok (.aload 12, 2) := by decide +kernel
theorem d14_123 : decode prog_65_method_1_code 123 = .ok (.putfield 65, 3) := by decide +kernel
theorem d14_126 : decode prog_65_method_1_code 126 = .ok (.return_, 1) := by decide +kernel
theorem pn_com_example_tracemark_tracemark_model_Feature : plainName "com/example/tracemark/tracemark/model/Feature" = true := by first | (simp [plainName, overriddenIn]; done) | decide +kernel
theorem ef_14 (m : MethodId) (x0 : Addr) (x1 : Int32) (x2 : Addr) (x3 : Addr) (x4 : Int32) (x5 : Int32) (x6 : Int32) (x7 : Addr) (x8 : Addr) (x10 : Addr) (x11 : Addr) (x12 : Addr) : entryFrame m #[(.ref x0), (.int x1), (.ref x2), (.ref x3), (.int x4), (.int x5), (.int x6), (.ref x7), (.ref x8), .null, (.ref x10), (.ref x11), (.ref x12)] 13 = mkF m 0 #[.val (.ref x0), .val (.int x1), .val (.ref x2), .val (.ref x3), .val (.int x4), .val (.int x5), .val (.int x6), .val (.ref x7), .val (.ref x8), .val .null, .val (.ref x10), .val (.ref x11), .val (.ref x12)] [] := by first | (simp [entryFrame, mkF, argsToLocals, Value.category]; done) | rfl
def Q14 (Z : State) (ob : Addr) (i1 : Int32) (a2 : Addr) (a3 : Addr) (i4 : Int32) (i5 : Int32) (i6 : Int32) (a7 : Addr) (a8 : Addr) (aN : Addr) (aI : Addr) (aL : Addr) (h0 : Heap) (n0 : Nat) (v : Option Value) (h : Heap) (L : List Loc) : Prop := v = none ∧ Fr n0 L ∧ Keep h0 h [ob] ∧ Exa Z h ob "com/example/tracemark/tracemark/model/Feature" ∧ Fld Z h ob "com/example/tracemark/tracemark/model/Feature" "start" "I" (.int i5) ∧ Fld Z h ob "com/example/tracemark/tracemark/model/Feature" "end" "I" (.int i6)
set_option maxRecDepth 65536 in
set_option maxHeartbeats 40000000 in
theorem rm14 (l : Launch) (Z : State) (a0 : Array Value) (hw : ∀ d ∈ tables_1, d.before a0 Z = true) (ws : List Jvm.Cond) (ob : Addr) (i1 : Int32) (a2 : Addr) (a3 : Addr) (i4 : Int32) (i5 : Int32) (i6 : Int32) (a7 : Addr) (a8 : Addr) (aN : Addr) (aI : Addr) (aL : Addr) (h0 : Heap) (n0 : Nat) (Z0 : n0 ≤ h0.size) (E_ob : Exa Z h0 ob "com/example/tracemark/tracemark/model/Feature") (F_line : Fld Z h0 ob "com/example/tracemark/tracemark/model/Feature" "line" "I" (.int (0 : Int32))) (F_description : Fld Z h0 ob "com/example/tracemark/tracemark/model/Feature" "description" "Ljava/lang/String;" .null) (F_sequenceId : Fld Z h0 ob "com/example/tracemark/tracemark/model/Feature" "sequenceId" "Ljava/lang/String;" .null) (F_sequenceIndex : Fld Z h0 ob "com/example/tracemark/tracemark/model/Feature" "sequenceIndex" "I" (.int (0 : Int32))) (F_start : Fld Z h0 ob "com/example/tracemark/tracemark/model/Feature" "start" "I" (.int (0 : Int32))) (F_end : Fld Z h0 ob "com/example/tracemark/tracemark/model/Feature" "end" "I" (.int (0 : Int32))) (F_type : Fld Z h0 ob "com/example/tracemark/tracemark/model/Feature" "type" "Ljava/lang/String;" .null) (F_score : Fld Z h0 ob "com/example/tracemark/tracemark/model/Feature" "score" "Ljava/util/Optional;" .null) (F_group : Fld Z h0 ob "com/example/tracemark/tracemark/model/Feature" "group" "Ljava/lang/String;" .null) (F_strand : Fld Z h0 ob "com/example/tracemark/tracemark/model/Feature" "strand" "Lcom/example/tracemark/tracemark/model/Strand;" .null) (F_phase : Fld Z h0 ob "com/example/tracemark/tracemark/model/Feature" "phase" "Ljava/util/OptionalInt;" .null) (F_attributes : Fld Z h0 ob "com/example/tracemark/tracemark/model/Feature" "attributes" "Ljava/util/List;" .null) (g_ob : n0 ≤ ob) (E_l : Exa Z h0 aL "java/util/ImmutableCollections$ListN") (F_l : Fld Z h0 aL "java/util/ImmutableCollections$ListN" "allowNulls" "Z" (.int (0 : Int32))) :
    own_CTW l Z (⟨"com/example/tracemark/tracemark/model/Feature", "<init>", "(ILjava/lang/String;Ljava/lang/String;IIILjava/lang/String;Ljava/util/Optional;Ljava/lang/String;Lcom/example/tracemark/tracemark/model/Strand;Ljava/util/OptionalInt;Ljava/util/List;)V"⟩ : MethodName) prog_65_method_1_code 13 none ws ({ frames := 2, cells := 12, slots := 188, locals := 25 } : Room) #[(.ref ob), (.int i1), (.ref a2), (.ref a3), (.int i4), (.int i5), (.int i6), (.ref a7), (.ref a8), .null, (.ref aN), (.ref aI), (.ref aL)] h0 (Q14 Z ob i1 a2 a3 i4 i5 i6 a7 a8 aN aI aL h0 n0) := by
  refine MetFree.of_bodySF (plainFor_of_name pn_com_example_tracemark_tracemark_model_Feature) hisR ?_
  intro p e s m args below meth c s₁ Bd hml0 hP hK
  obtain ⟨rfl, hZ, hh⟩ := hP
  have hx := Bd.exec
  have hby := Bd.bytes
  have hml : c.maxLocals = 13 := hml0
  have hown : s.vm.findClass "com/example/tracemark/tracemark/model/Feature" = some m.cls := findClass_of_methodNamed Bd.named
  have hnm := (name_of_methodNamed Bd.named Bd.method).1
  have hlk : meth.locks = false := BodyLoose.notSynchronized Bd
  have X0 : Stand p l e ({ frames := 2, cells := 12, slots := 188, locals := 25 } : Room) s m #[(.ref ob), (.int i1), (.ref a2), (.ref a3), (.int i4), (.int i5), (.int i6), (.ref a7), (.ref a8), .null, (.ref aN), (.ref aI), (.ref aL)] below meth c s₁ [] 0 0 := Stand.of_body Bd
  have e0 : s₁.heap = h0 := by rw [← hh, Bd.state]; rfl
  have N0 := Fr.nil n0
  show GGW p e below s ({ frames := 2, cells := 12, slots := 188, locals := 25 } : Room).cells ({ frames := 2, cells := 12, slots := 188, locals := 25 } : Room).slots (Q14 Z ob i1 a2 a3 i4 i5 i6 a7 a8 aN aI aL h0 n0) s₁ (entryFrame m #[(.ref ob), (.int i1), (.ref a2), (.ref a3), (.int i4), (.int i5), (.int i6), (.ref a7), (.ref a8), .null, (.ref aN), (.ref aI), (.ref aL)] 13)
  refine own_inW (ef_14 m ob i1 a2 a3 i4 i5 i6 a7 a8 aN aI aL) ?_
  have X0 : Stand p l e ({ frames := 2, cells := 12, slots := 188, locals := 25 } : Room) (s.setVm s.vm) m #[(.ref ob), (.int i1), (.ref a2), (.ref a3), (.int i4), (.int i5), (.int i6), (.ref a7), (.ref a8), .null, (.ref aN), (.ref aI), (.ref aL)] below meth c s₁ [] 0 0 := X0
  have hS : s.Since s.vm h0.size := (State.WarmedH.refl s).since _
  have hk : h0.size ≤ h0.size := Nat.le_refl _
  have K0 := Keep.refl h0 [ob]
  show GGW _ _ _ _ _ _ _ s₁ (mkF m 0 #[.val (.ref ob), .val (.int i1), .val (.ref a2), .val (.ref a3), .val (.int i4), .val (.int i5), .val (.int i6), .val (.ref a7), .val (.ref a8), .val .null, .val (.ref aN), .val (.ref aI), .val (.ref aL)] [])
  refine own_goW (fun _ => XS.aloadN X0.here hx rfl (hb hby d14_0) rfl rfl) ?_
  show GGW _ _ _ _ _ _ _ s₁ (mkF m 1 #[.val (.ref ob), .val (.int i1), .val (.ref a2), .val (.ref a3), .val (.int i4), .val (.int i5), .val (.int i6), .val (.ref a7), .val (.ref a8), .val .null, .val (.ref aN), .val (.ref aI), .val (.ref aL)] [(.ref ob)])
  refine own_callIW X0 hx hZ (y := (⟨"java/lang/Record", "<init>", "()V"⟩ : MethodName)) 0 rfl hown (hw _ (List.mem_of_getElem? (i := 80) rfl)) (hw _ (List.mem_of_getElem? (i := 81) rfl)) (hw _ (List.mem_of_getElem? (i := 83) rfl)) (hw _ (List.mem_of_getElem? (i := 84) rfl)) (by decide) (a := ob) (argsL := []) (rest := []) (rm15 l Z a0 hw [] ob h0 n0 Z0) (by decide) (by decide) (by decide) (by decide) (g := (mkF m 1 #[.val (.ref ob), .val (.int i1), .val (.ref a2), .val (.ref a3), .val (.int i4), .val (.int i5), .val (.int i6), .val (.ref a7), .val (.ref a8), .val .null, .val (.ref aN), .val (.ref aI), .val (.ref aL)] [(.ref ob)])) rfl (by rw [hml]; rfl) (lenOf pd___V_167 rfl) rfl (by show 2 * 0 + _ ≤ _; exact Nat.le_of_eq rfl) (hb hby d14_1) e0 ?_
  rintro v1 T1 L1 X1 ⟨rfl, N1q, hh1⟩
  have N1 := Fr.app N0 N1q
  show GGW _ _ _ _ _ _ _ T1 (mkF m 4 #[.val (.ref ob), .val (.int i1), .val (.ref a2), .val (.ref a3), .val (.int i4), .val (.int i5), .val (.int i6), .val (.ref a7), .val (.ref a8), .val .null, .val (.ref aN), .val (.ref aI), .val (.ref aL)] [])
  refine own_goW (fun _ => XS.aloadN X1.here hx rfl (hb hby d14_4) rfl rfl) ?_
  show GGW _ _ _ _ _ _ _ T1 (mkF m 5 #[.val (.ref ob), .val (.int i1), .val (.ref a2), .val (.ref a3), .val (.int i4), .val (.int i5), .val (.int i6), .val (.ref a7), .val (.ref a8), .val .null, .val (.ref aN), .val (.ref aI), .val (.ref aL)] [(.ref a2)])
  obtain ⟨la2, T2, h2, k2, X2, e2, E2, hS, hk, hZ, hown, st2⟩ := ldcS X1 hx hZ hown (hw _ (List.mem_of_getElem? (i := 88) rfl)) (own_wS hw) hh1 hS hk (g := (mkF m 5 #[.val (.ref ob), .val (.int i1), .val (.ref a2), .val (.ref a3), .val (.int i4), .val (.int i5), .val (.int i6), .val (.ref a7), .val (.ref a8), .val .null, .val (.ref aN), .val (.ref aI), .val (.ref aL)] [(.ref a2)])) rfl (hb hby d14_5) (n := 44) (by decide +kernel) (by decide) (by decide) (by decide)
  have E_ob := E_ob.ext E2
  have F_line := F_line.ext E2
  have F_description := F_description.ext E2
  have F_sequenceId := F_sequenceId.ext E2
  have F_sequenceIndex := F_sequenceIndex.ext E2
  have F_start := F_start.ext E2
  have F_end := F_end.ext E2
  have F_type := F_type.ext E2
  have F_score := F_score.ext E2
  have F_group := F_group.ext E2
  have F_strand := F_strand.ext E2
  have F_phase := F_phase.ext E2
  have F_attributes := F_attributes.ext E2
  have K0 := K0.ext E2
  have E_l := E_l.ext E2
  have F_l := F_l.ext E2
  refine own_goW (fun _ => st2 _) ?_
  show GGW _ _ _ _ _ _ _ T2 (mkF m 7 #[.val (.ref ob), .val (.int i1), .val (.ref a2), .val (.ref a3), .val (.int i4), .val (.int i5), .val (.int i6), .val (.ref a7), .val (.ref a8), .val .null, .val (.ref aN), .val (.ref aI), .val (.ref aL)] [(.ref la2), (.ref a2)])
  refine own_callSW X2 hx hZ (y := (⟨"java/util/Objects", "requireNonNull", "(Ljava/lang/Object;Ljava/lang/String;)Ljava/lang/Object;"⟩ : MethodName)) 0 hown (hw _ (List.mem_of_getElem? (i := 89) rfl)) (hw _ (List.mem_of_getElem? (i := 90) rfl)) (hw _ (List.mem_of_getElem? (i := 91) rfl)) (hw _ (List.mem_of_getElem? (i := 92) rfl)) (by decide) (argsL := [(.ref a2), (.ref la2)]) (rest := []) (rm17 l Z a0 hw [] a2 la2 h2 n0 (Nat.le_trans Z0 K0.1)) (by decide) (by decide) (by decide) (by decide) (g := (mkF m 7 #[.val (.ref ob), .val (.int i1), .val (.ref a2), .val (.ref a3), .val (.int i4), .val (.int i5), .val (.int i6), .val (.ref a7), .val (.ref a8), .val .null, .val (.ref aN), .val (.ref aI), .val (.ref aL)] [(.ref la2), (.ref a2)])) rfl (by rw [hml]; rfl) (lenOf pd__Ljava_lang_Object_Ljava_lang_String__Lj_120 rfl) rfl (by show 2 * 0 + _ ≤ _; exact Nat.le_of_eq rfl) (hb hby d14_7) e2 ?_
  rintro v3 T3 L3 X3 ⟨rfl, N3q, hh3⟩
  have N3 := Fr.app N1 N3q
  show GGW _ _ _ _ _ _ _ T3 (mkF m 10 #[.val (.ref ob), .val (.int i1), .val (.ref a2), .val (.ref a3), .val (.int i4), .val (.int i5), .val (.int i6), .val (.ref a7), .val (.ref a8), .val .null, .val (.ref aN), .val (.ref aI), .val (.ref aL)] [(.ref a2)])
  refine own_goW (fun _ => XS.pop X3.here hx rfl (hb hby d14_10) rfl rfl) ?_
  show GGW _ _ _ _ _ _ _ T3 (mkF m 11 #[.val (.ref ob), .val (.int i1), .val (.ref a2), .val (.ref a3), .val (.int i4), .val (.int i5), .val (.int i6), .val (.ref a7), .val (.ref a8), .val .null, .val (.ref aN), .val (.ref aI), .val (.ref aL)] [])
  refine own_goW (fun _ => XS.aloadN X3.here hx rfl (hb hby d14_11) rfl rfl) ?_
  show GGW _ _ _ _ _ _ _ T3 (mkF m 12 #[.val (.ref ob), .val (.int i1), .val (.ref a2), .val (.ref a3), .val (.int i4), .val (.int i5), .val (.int i6), .val (.ref a7), .val (.ref a8), .val .null, .val (.ref aN), .val (.ref aI), .val (.ref aL)] [(.ref a3)])
  obtain ⟨la4, T4, h4, k4, X4, e4, E4, hS, hk, hZ, hown, st4⟩ := ldcS X3 hx hZ hown (hw _ (List.mem_of_getElem? (i := 93) rfl)) (own_wS hw) hh3 hS hk (g := (mkF m 12 #[.val (.ref ob), .val (.int i1), .val (.ref a2), .val (.ref a3), .val (.int i4), .val (.int i5), .val (.int i6), .val (.ref a7), .val (.ref a8), .val .null, .val (.ref aN), .val (.ref aI), .val (.ref aL)] [(.ref a3)])) rfl (hb hby d14_12) (n := 40) (by decide +kernel) (by decide) (by decide) (by decide)
  have E_ob := E_ob.ext E4
  have F_line := F_line.ext E4
  have F_description := F_description.ext E4
  have F_sequenceId := F_sequenceId.ext E4
  have F_sequenceIndex := F_sequenceIndex.ext E4
  have F_start := F_start.ext E4
  have F_end := F_end.ext E4
  have F_type := F_type.ext E4
  have F_score := F_score.ext E4
  have F_group := F_group.ext E4
  have F_strand := F_strand.ext E4
  have F_phase := F_phase.ext E4
  have F_attributes := F_attributes.ext E4
  have K0 := K0.ext E4
  have E_l := E_l.ext E4
  have F_l := F_l.ext E4
  refine own_goW (fun _ => st4 _) ?_
  show GGW _ _ _ _ _ _ _ T4 (mkF m 14 #[.val (.ref ob), .val (.int i1), .val (.ref a2), .val (.ref a3), .val (.int i4), .val (.int i5), .val (.int i6), .val (.ref a7), .val (.ref a8), .val .null, .val (.ref aN), .val (.ref aI), .val (.ref aL)] [(.ref la4), (.ref a3)])
  refine own_callSW X4 hx hZ (y := (⟨"java/util/Objects", "requireNonNull", "(Ljava/lang/Object;Ljava/lang/String;)Ljava/lang/Object;"⟩ : MethodName)) 0 hown (hw _ (List.mem_of_getElem? (i := 89) rfl)) (hw _ (List.mem_of_getElem? (i := 90) rfl)) (hw _ (List.mem_of_getElem? (i := 91) rfl)) (hw _ (List.mem_of_getElem? (i := 92) rfl)) (by decide) (argsL := [(.ref a3), (.ref la4)]) (rest := []) (rm17 l Z a0 hw [] a3 la4 h4 n0 (Nat.le_trans Z0 K0.1)) (by decide) (by decide) (by decide) (by decide) (g := (mkF m 14 #[.val (.ref ob), .val (.int i1), .val (.ref a2), .val (.ref a3), .val (.int i4), .val (.int i5), .val (.int i6), .val (.ref a7), .val (.ref a8), .val .null, .val (.ref aN), .val (.ref aI), .val (.ref aL)] [(.ref la4), (.ref a3)])) rfl (by rw [hml]; rfl) (lenOf pd__Ljava_lang_Object_Ljava_lang_String__Lj_120 rfl) rfl (by show 2 * 0 + _ ≤ _; exact Nat.le_of_eq rfl) (hb hby d14_14) e4 ?_
  rintro v5 T5 L5 X5 ⟨rfl, N5q, hh5⟩
  have N5 := Fr.app N3 N5q
  show GGW _ _ _ _ _ _ _ T5 (mkF m 17 #[.val (.ref ob), .val (.int i1), .val (.ref a2), .val (.ref a3), .val (.int i4), .val (.int i5), .val (.int i6), .val (.ref a7), .val (.ref a8), .val .null, .val (.ref aN), .val (.ref aI), .val (.ref aL)] [(.ref a3)])
  refine own_goW (fun _ => XS.pop X5.here hx rfl (hb hby d14_17) rfl rfl) ?_
  show GGW _ _ _ _ _ _ _ T5 (mkF m 18 #[.val (.ref ob), .val (.int i1), .val (.ref a2), .val (.ref a3), .val (.int i4), .val (.int i5), .val (.int i6), .val (.ref a7), .val (.ref a8), .val .null, .val (.ref aN), .val (.ref aI), .val (.ref aL)] [])
  refine own_goW (fun _ => XS.aload X5.here hx rfl (hb hby d14_18) rfl rfl) ?_
  show GGW _ _ _ _ _ _ _ T5 (mkF m 20 #[.val (.ref ob), .val (.int i1), .val (.ref a2), .val (.ref a3), .val (.int i4), .val (.int i5), .val (.int i6), .val (.ref a7), .val (.ref a8), .val .null, .val (.ref aN), .val (.ref aI), .val (.ref aL)] [(.ref a7)])
  obtain ⟨la6, T6, h6, k6, X6, e6, E6, hS, hk, hZ, hown, st6⟩ := ldcS X5 hx hZ hown (hw _ (List.mem_of_getElem? (i := 94) rfl)) (own_wS hw) hh5 hS hk (g := (mkF m 20 #[.val (.ref ob), .val (.int i1), .val (.ref a2), .val (.ref a3), .val (.int i4), .val (.int i5), .val (.int i6), .val (.ref a7), .val (.ref a8), .val .null, .val (.ref aN), .val (.ref aI), .val (.ref aL)] [(.ref a7)])) rfl (hb hby d14_20) (n := 16) (by decide +kernel) (by decide) (by decide) (by decide)
  have E_ob := E_ob.ext E6
  have F_line := F_line.ext E6
  have F_description := F_description.ext E6
  have F_sequenceId := F_sequenceId.ext E6
  have F_sequenceIndex := F_sequenceIndex.ext E6
  have F_start := F_start.ext E6
  have F_end := F_end.ext E6
  have F_type := F_type.ext E6
  have F_score := F_score.ext E6
  have F_group := F_group.ext E6
  have F_strand := F_strand.ext E6
  have F_phase := F_phase.ext E6
  have F_attributes := F_attributes.ext E6
  have K0 := K0.ext E6
  have E_l := E_l.ext E6
  have F_l := F_l.ext E6
  refine own_goW (fun _ => st6 _) ?_
  show GGW _ _ _ _ _ _ _ T6 (mkF m 22 #[.val (.ref ob), .val (.int i1), .val (.ref a2), .val (.ref a3), .val (.int i4), .val (.int i5), .val (.int i6), .val (.ref a7), .val (.ref a8), .val .null, .val (.ref aN), .val (.ref aI), .val (.ref aL)] [(.ref la6), (.ref a7)])
  refine own_callSW X6 hx hZ (y := (⟨"java/util/Objects", "requireNonNull", "(Ljava/lang/Object;Ljava/lang/String;)Ljava/lang/Object;"⟩ : MethodName)) 0 hown (hw _ (List.mem_of_getElem? (i := 89) rfl)) (hw _ (List.mem_of_getElem? (i := 90) rfl)) (hw _ (List.mem_of_getElem? (i := 91) rfl)) (hw _ (List.mem_of_getElem? (i := 92) rfl)) (by decide) (argsL := [(.ref a7), (.ref la6)]) (rest := []) (rm17 l Z a0 hw [] a7 la6 h6 n0 (Nat.le_trans Z0 K0.1)) (by decide) (by decide) (by decide) (by decide) (g := (mkF m 22 #[.val (.ref ob), .val (.int i1), .val (.ref a2), .val (.ref a3), .val (.int i4), .val (.int i5), .val (.int i6), .val (.ref a7), .val (.ref a8), .val .null, .val (.ref aN), .val (.ref aI), .val (.ref aL)] [(.ref la6), (.ref a7)])) rfl (by rw [hml]; rfl) (lenOf pd__Ljava_lang_Object_Ljava_lang_String__Lj_120 rfl) rfl (by show 2 * 0 + _ ≤ _; exact Nat.le_of_eq rfl) (hb hby d14_22) e6 ?_
  rintro v7 T7 L7 X7 ⟨rfl, N7q, hh7⟩
  have N7 := Fr.app N5 N7q
  show GGW _ _ _ _ _ _ _ T7 (mkF m 25 #[.val (.ref ob), .val (.int i1), .val (.ref a2), .val (.ref a3), .val (.int i4), .val (.int i5), .val (.int i6), .val (.ref a7), .val (.ref a8), .val .null, .val (.ref aN), .val (.ref aI), .val (.ref aL)] [(.ref a7)])
  refine own_goW (fun _ => XS.pop X7.here hx rfl (hb hby d14_25) rfl rfl) ?_
  show GGW _ _ _ _ _ _ _ T7 (mkF m 26 #[.val (.ref ob), .val (.int i1), .val (.ref a2), .val (.ref a3), .val (.int i4), .val (.int i5), .val (.int i6), .val (.ref a7), .val (.ref a8), .val .null, .val (.ref aN), .val (.ref aI), .val (.ref aL)] [])
  refine own_goW (fun _ => XS.aload X7.here hx rfl (hb hby d14_26) rfl rfl) ?_
  show GGW _ _ _ _ _ _ _ T7 (mkF m 28 #[.val (.ref ob), .val (.int i1), .val (.ref a2), .val (.ref a3), .val (.int i4), .val (.int i5), .val (.int i6), .val (.ref a7), .val (.ref a8), .val .null, .val (.ref aN), .val (.ref aI), .val (.ref aL)] [(.ref a8)])
  obtain ⟨la8, T8, h8, k8, X8, e8, E8, hS, hk, hZ, hown, st8⟩ := ldcS X7 hx hZ hown (hw _ (List.mem_of_getElem? (i := 95) rfl)) (own_wS hw) hh7 hS hk (g := (mkF m 28 #[.val (.ref ob), .val (.int i1), .val (.ref a2), .val (.ref a3), .val (.int i4), .val (.int i5), .val (.int i6), .val (.ref a7), .val (.ref a8), .val .null, .val (.ref aN), .val (.ref aI), .val (.ref aL)] [(.ref a8)])) rfl (hb hby d14_28) (n := 20) (by decide +kernel) (by decide) (by decide) (by decide)
  have E_ob := E_ob.ext E8
  have F_line := F_line.ext E8
  have F_description := F_description.ext E8
  have F_sequenceId := F_sequenceId.ext E8
  have F_sequenceIndex := F_sequenceIndex.ext E8
  have F_start := F_start.ext E8
  have F_end := F_end.ext E8
  have F_type := F_type.ext E8
  have F_score := F_score.ext E8
  have F_group := F_group.ext E8
  have F_strand := F_strand.ext E8
  have F_phase := F_phase.ext E8
  have F_attributes := F_attributes.ext E8
  have K0 := K0.ext E8
  have E_l := E_l.ext E8
  have F_l := F_l.ext E8
  refine own_goW (fun _ => st8 _) ?_
  show GGW _ _ _ _ _ _ _ T8 (mkF m 30 #[.val (.ref ob), .val (.int i1), .val (.ref a2), .val (.ref a3), .val (.int i4), .val (.int i5), .val (.int i6), .val (.ref a7), .val (.ref a8), .val .null, .val (.ref aN), .val (.ref aI), .val (.ref aL)] [(.ref la8), (.ref a8)])
  refine own_callSW X8 hx hZ (y := (⟨"java/util/Objects", "requireNonNull", "(Ljava/lang/Object;Ljava/lang/String;)Ljava/lang/Object;"⟩ : MethodName)) 0 hown (hw _ (List.mem_of_getElem? (i := 89) rfl)) (hw _ (List.mem_of_getElem? (i := 90) rfl)) (hw _ (List.mem_of_getElem? (i := 91) rfl)) (hw _ (List.mem_of_getElem? (i := 92) rfl)) (by decide) (argsL := [(.ref a8), (.ref la8)]) (rest := []) (rm17 l Z a0 hw [] a8 la8 h8 n0 (Nat.le_trans Z0 K0.1)) (by decide) (by decide) (by decide) (by decide) (g := (mkF m 30 #[.val (.ref ob), .val (.int i1), .val (.ref a2), .val (.ref a3), .val (.int i4), .val (.int i5), .val (.int i6), .val (.ref a7), .val (.ref a8), .val .null, .val (.ref aN), .val (.ref aI), .val (.ref aL)] [(.ref la8), (.ref a8)])) rfl (by rw [hml]; rfl) (lenOf pd__Ljava_lang_Object_Ljava_lang_String__Lj_120 rfl) rfl (by show 2 * 0 + _ ≤ _; exact Nat.le_of_eq rfl) (hb hby d14_30) e8 ?_
  rintro v9 T9 L9 X9 ⟨rfl, N9q, hh9⟩
  have N9 := Fr.app N7 N9q
  show GGW _ _ _ _ _ _ _ T9 (mkF m 33 #[.val (.ref ob), .val (.int i1), .val (.ref a2), .val (.ref a3), .val (.int i4), .val (.int i5), .val (.int i6), .val (.ref a7), .val (.ref a8), .val .null, .val (.ref aN), .val (.ref aI), .val (.ref aL)] [(.ref a8)])
  refine own_goW (fun _ => XS.pop X9.here hx rfl (hb hby d14_33) rfl rfl) ?_
  show GGW _ _ _ _ _ _ _ T9 (mkF m 34 #[.val (.ref ob), .val (.int i1), .val (.ref a2), .val (.ref a3), .val (.int i4), .val (.int i5), .val (.int i6), .val (.ref a7), .val (.ref a8), .val .null, .val (.ref aN), .val (.ref aI), .val (.ref aL)] [])
  refine own_goW (fun _ => XS.aload X9.here hx rfl (hb hby d14_34) rfl rfl) ?_
  show GGW _ _ _ _ _ _ _ T9 (mkF m 36 #[.val (.ref ob), .val (.int i1), .val (.ref a2), .val (.ref a3), .val (.int i4), .val (.int i5), .val (.int i6), .val (.ref a7), .val (.ref a8), .val .null, .val (.ref aN), .val (.ref aI), .val (.ref aL)] [(.ref aN)])
  obtain ⟨la10, T10, h10, k10, X10, e10, E10, hS, hk, hZ, hown, st10⟩ := ldcS X9 hx hZ hown (hw _ (List.mem_of_getElem? (i := 96) rfl)) (own_wS hw) hh9 hS hk (g := (mkF m 36 #[.val (.ref ob), .val (.int i1), .val (.ref a2), .val (.ref a3), .val (.int i4), .val (.int i5), .val (.int i6), .val (.ref a7), .val (.ref a8), .val .null, .val (.ref aN), .val (.ref aI), .val (.ref aL)] [(.ref aN)])) rfl (hb hby d14_36) (n := 24) (by decide +kernel) (by decide) (by decide) (by decide)
  have E_ob := E_ob.ext E10
  have F_line := F_line.ext E10
  have F_description := F_description.ext E10
  have F_sequenceId := F_sequenceId.ext E10
  have F_sequenceIndex := F_sequenceIndex.ext E10
  have F_start := F_start.ext E10
  have F_end := F_end.ext E10
  have F_type := F_type.ext E10
  have F_score := F_score.ext E10
  have F_group := F_group.ext E10
  have F_strand := F_strand.ext E10
  have F_phase := F_phase.ext E10
  have F_attributes := F_attributes.ext E10
  have K0 := K0.ext E10
  have E_l := E_l.ext E10
  have F_l := F_l.ext E10
  refine own_goW (fun _ => st10 _) ?_
  show GGW _ _ _ _ _ _ _ T10 (mkF m 38 #[.val (.ref ob), .val (.int i1), .val (.ref a2), .val (.ref a3), .val (.int i4), .val (.int i5), .val (.int i6), .val (.ref a7), .val (.ref a8), .val .null, .val (.ref aN), .val (.ref aI), .val (.ref aL)] [(.ref la10), (.ref aN)])
  refine own_callSW X10 hx hZ (y := (⟨"java/util/Objects", "requireNonNull", "(Ljava/lang/Object;Ljava/lang/String;)Ljava/lang/Object;"⟩ : MethodName)) 0 hown (hw _ (List.mem_of_getElem? (i := 89) rfl)) (hw _ (List.mem_of_getElem? (i := 90) rfl)) (hw _ (List.mem_of_getElem? (i := 91) rfl)) (hw _ (List.mem_of_getElem? (i := 92) rfl)) (by decide) (argsL := [(.ref aN), (.ref la10)]) (rest := []) (rm17 l Z a0 hw [] aN la10 h10 n0 (Nat.le_trans Z0 K0.1)) (by decide) (by decide) (by decide) (by decide) (g := (mkF m 38 #[.val (.ref ob), .val (.int i1), .val (.ref a2), .val (.ref a3), .val (.int i4), .val (.int i5), .val (.int i6), .val (.ref a7), .val (.ref a8), .val .null, .val (.ref aN), .val (.ref aI), .val (.ref aL)] [(.ref la10), (.ref aN)])) rfl (by rw [hml]; rfl) (lenOf pd__Ljava_lang_Object_Ljava_lang_String__Lj_120 rfl) rfl (by show 2 * 0 + _ ≤ _; exact Nat.le_of_eq rfl) (hb hby d14_38) e10 ?_
  rintro v11 T11 L11 X11 ⟨rfl, N11q, hh11⟩
  have N11 := Fr.app N9 N11q
  show GGW _ _ _ _ _ _ _ T11 (mkF m 41 #[.val (.ref ob), .val (.int i1), .val (.ref a2), .val (.ref a3), .val (.int i4), .val (.int i5), .val (.int i6), .val (.ref a7), .val (.ref a8), .val .null, .val (.ref aN), .val (.ref aI), .val (.ref aL)] [(.ref aN)])
  refine own_goW (fun _ => XS.pop X11.here hx rfl (hb hby d14_41) rfl rfl) ?_
  show GGW _ _ _ _ _ _ _ T11 (mkF m 42 #[.val (.ref ob), .val (.int i1), .val (.ref a2), .val (.ref a3), .val (.int i4), .val (.int i5), .val (.int i6), .val (.ref a7), .val (.ref a8), .val .null, .val (.ref aN), .val (.ref aI), .val (.ref aL)] [])
  refine own_goW (fun _ => XS.aload X11.here hx rfl (hb hby d14_42) rfl rfl) ?_
  show GGW _ _ _ _ _ _ _ T11 (mkF m 44 #[.val (.ref ob), .val (.int i1), .val (.ref a2), .val (.ref a3), .val (.int i4), .val (.int i5), .val (.int i6), .val (.ref a7), .val (.ref a8), .val .null, .val (.ref aN), .val (.ref aI), .val (.ref aL)] [(.ref aI)])
  obtain ⟨la12, T12, h12, k12, X12, e12, E12, hS, hk, hZ, hown, st12⟩ := ldcS X11 hx hZ hown (hw _ (List.mem_of_getElem? (i := 97) rfl)) (own_wS hw) hh11 hS hk (g := (mkF m 44 #[.val (.ref ob), .val (.int i1), .val (.ref a2), .val (.ref a3), .val (.int i4), .val (.int i5), .val (.int i6), .val (.ref a7), .val (.ref a8), .val .null, .val (.ref aN), .val (.ref aI), .val (.ref aL)] [(.ref aI)])) rfl (hb hby d14_44) (n := 20) (by decide +kernel) (by decide) (by decide) (by decide)
  have E_ob := E_ob.ext E12
  have F_line := F_line.ext E12
  have F_description := F_description.ext E12
  have F_sequenceId := F_sequenceId.ext E12
  have F_sequenceIndex := F_sequenceIndex.ext E12
  have F_start := F_start.ext E12
  have F_end := F_end.ext E12
  have F_type := F_type.ext E12
  have F_score := F_score.ext E12
  have F_group := F_group.ext E12
  have F_strand := F_strand.ext E12
  have F_phase := F_phase.ext E12
  have F_attributes := F_attributes.ext E12
  have K0 := K0.ext E12
  have E_l := E_l.ext E12
  have F_l := F_l.ext E12
  refine own_goW (fun _ => st12 _) ?_
  show GGW _ _ _ _ _ _ _ T12 (mkF m 46 #[.val (.ref ob), .val (.int i1), .val (.ref a2), .val (.ref a3), .val (.int i4), .val (.int i5), .val (.int i6), .val (.ref a7), .val (.ref a8), .val .null, .val (.ref aN), .val (.ref aI), .val (.ref aL)] [(.ref la12), (.ref aI)])
  refine own_callSW X12 hx hZ (y := (⟨"java/util/Objects", "requireNonNull", "(Ljava/lang/Object;Ljava/lang/String;)Ljava/lang/Object;"⟩ : MethodName)) 0 hown (hw _ (List.mem_of_getElem? (i := 89) rfl)) (hw _ (List.mem_of_getElem? (i := 90) rfl)) (hw _ (List.mem_of_getElem? (i := 91) rfl)) (hw _ (List.mem_of_getElem? (i := 92) rfl)) (by decide) (argsL := [(.ref aI), (.ref la12)]) (rest := []) (rm17 l Z a0 hw [] aI la12 h12 n0 (Nat.le_trans Z0 K0.1)) (by decide) (by decide) (by decide) (by decide) (g := (mkF m 46 #[.val (.ref ob), .val (.int i1), .val (.ref a2), .val (.ref a3), .val (.int i4), .val (.int i5), .val (.int i6), .val (.ref a7), .val (.ref a8), .val .null, .val (.ref aN), .val (.ref aI), .val (.ref aL)] [(.ref la12), (.ref aI)])) rfl (by rw [hml]; rfl) (lenOf pd__Ljava_lang_Object_Ljava_lang_String__Lj_120 rfl) rfl (by show 2 * 0 + _ ≤ _; exact Nat.le_of_eq rfl) (hb hby d14_46) e12 ?_
  rintro v13 T13 L13 X13 ⟨rfl, N13q, hh13⟩
  have N13 := Fr.app N11 N13q
  show GGW _ _ _ _ _ _ _ T13 (mkF m 49 #[.val (.ref ob), .val (.int i1), .val (.ref a2), .val (.ref a3), .val (.int i4), .val (.int i5), .val (.int i6), .val (.ref a7), .val (.ref a8), .val .null, .val (.ref aN), .val (.ref aI), .val (.ref aL)] [(.ref aI)])
  refine own_goW (fun _ => XS.pop X13.here hx rfl (hb hby d14_49) rfl rfl) ?_
  show GGW _ _ _ _ _ _ _ T13 (mkF m 50 #[.val (.ref ob), .val (.int i1), .val (.ref a2), .val (.ref a3), .val (.int i4), .val (.int i5), .val (.int i6), .val (.ref a7), .val (.ref a8), .val .null, .val (.ref aN), .val (.ref aI), .val (.ref aL)] [])
  refine own_goW (fun _ => XS.aload X13.here hx rfl (hb hby d14_50) rfl rfl) ?_
  show GGW _ _ _ _ _ _ _ T13 (mkF m 52 #[.val (.ref ob), .val (.int i1), .val (.ref a2), .val (.ref a3), .val (.int i4), .val (.int i5), .val (.int i6), .val (.ref a7), .val (.ref a8), .val .null, .val (.ref aN), .val (.ref aI), .val (.ref aL)] [(.ref aL)])
  refine own_callSW X13 hx hZ (y := (⟨"java/util/List", "copyOf", "(Ljava/util/Collection;)Ljava/util/List;"⟩ : MethodName)) 0 hown (hw _ (List.mem_of_getElem? (i := 98) rfl)) (hw _ (List.mem_of_getElem? (i := 99) rfl)) (hw _ (List.mem_of_getElem? (i := 73) rfl)) (hw _ (List.mem_of_getElem? (i := 100) rfl)) (by decide) (argsL := [(.ref aL)]) (rest := []) (rm18 l Z a0 hw [] aL h12 n0 (Nat.le_trans Z0 K0.1) E_l F_l) (by decide) (by decide) (by decide) (by decide) (g := (mkF m 52 #[.val (.ref ob), .val (.int i1), .val (.ref a2), .val (.ref a3), .val (.int i4), .val (.int i5), .val (.int i6), .val (.ref a7), .val (.ref a8), .val .null, .val (.ref aN), .val (.ref aI), .val (.ref aL)] [(.ref aL)])) rfl (by rw [hml]; rfl) (lenOf pd__Ljava_util_Collection__Ljava_util_List__724 rfl) rfl (by show 2 * 0 + _ ≤ _; exact Nat.le_of_eq rfl) (hb hby d14_52) hh13 ?_
  rintro v14 T14 L14 X14 ⟨rfl, N14q, hh14⟩
  have N14 := Fr.app N13 N14q
  show GGW _ _ _ _ _ _ _ T14 (mkF m 55 #[.val (.ref ob), .val (.int i1), .val (.ref a2), .val (.ref a3), .val (.int i4), .val (.int i5), .val (.int i6), .val (.ref a7), .val (.ref a8), .val .null, .val (.ref aN), .val (.ref aI), .val (.ref aL)] [(.ref aL)])
  refine own_goW (fun _ => XS.astore X14.here hx rfl (hb hby d14_55) rfl rfl (l' := #[.val (.ref ob), .val (.int i1), .val (.ref a2), .val (.ref a3), .val (.int i4), .val (.int i5), .val (.int i6), .val (.ref a7), .val (.ref a8), .val .null, .val (.ref aN), .val (.ref aI), .val (.ref aL)]) rfl) ?_
  show GGW _ _ _ _ _ _ _ T14 (mkF m 57 #[.val (.ref ob), .val (.int i1), .val (.ref a2), .val (.ref a3), .val (.int i4), .val (.int i5), .val (.int i6), .val (.ref a7), .val (.ref a8), .val .null, .val (.ref aN), .val (.ref aI), .val (.ref aL)] [])
  refine own_goW (fun _ => XS.aloadN X14.here hx rfl (hb hby d14_57) rfl rfl) ?_
  show GGW _ _ _ _ _ _ _ T14 (mkF m 58 #[.val (.ref ob), .val (.int i1), .val (.ref a2), .val (.ref a3), .val (.int i4), .val (.int i5), .val (.int i6), .val (.ref a7), .val (.ref a8), .val .null, .val (.ref aN), .val (.ref aI), .val (.ref aL)] [(.ref ob)])
  refine own_goW (fun _ => XS.iloadN X14.here hx rfl (hb hby d14_58) rfl) ?_
  show GGW _ _ _ _ _ _ _ T14 (mkF m 59 #[.val (.ref ob), .val (.int i1), .val (.ref a2), .val (.ref a3), .val (.int i4), .val (.int i5), .val (.int i6), .val (.ref a7), .val (.ref a8), .val .null, .val (.ref aN), .val (.ref aI), .val (.ref aL)] [(.int i1), (.ref ob)])
  obtain ⟨T15, h15, X15, e15, W15, st15⟩ := putF X14 hx hZ hown (host := "") (Or.inl (hw _ (List.mem_of_getElem? (i := 116) rfl))) Via.refl hh14 F_line E_ob (Or.inr ⟨(hw _ (List.mem_of_getElem? (i := 117) rfl)), rfl, hnm⟩) (hw _ (List.mem_of_getElem? (i := 1) rfl)) (ty := .int) (by decide) rfl rfl (g := (mkF m 59 #[.val (.ref ob), .val (.int i1), .val (.ref a2), .val (.ref a3), .val (.int i4), .val (.int i5), .val (.int i6), .val (.ref a7), .val (.ref a8), .val .null, .val (.ref aN), .val (.ref aI), .val (.ref aL)] [(.int i1), (.ref ob)])) rfl rfl (hb hby d14_59)
  have E_ob := E_ob.wr W15
  have F_description := F_description.other W15 (Or.inr (slot_ne (Or.inr (hw _ (List.mem_of_getElem? (i := 119) rfl))) (Or.inr (hw _ (List.mem_of_getElem? (i := 117) rfl))) (by decide) (t := (.object "java/lang/String")) (t' := .int) (by decide) (by decide)))
  have F_sequenceId := F_sequenceId.other W15 (Or.inr (slot_ne (Or.inr (hw _ (List.mem_of_getElem? (i := 121) rfl))) (Or.inr (hw _ (List.mem_of_getElem? (i := 117) rfl))) (by decide) (t := (.object "java/lang/String")) (t' := .int) (by decide) (by decide)))
  have F_sequenceIndex := F_sequenceIndex.other W15 (Or.inr (slot_ne (Or.inr (hw _ (List.mem_of_getElem? (i := 123) rfl))) (Or.inr (hw _ (List.mem_of_getElem? (i := 117) rfl))) (by decide) (t := .int) (t' := .int) (by decide) (by decide)))
  have F_start := F_start.other W15 (Or.inr (slot_ne (Or.inr (hw _ (List.mem_of_getElem? (i := 125) rfl))) (Or.inr (hw _ (List.mem_of_getElem? (i := 117) rfl))) (by decide) (t := .int) (t' := .int) (by decide) (by decide)))
  have F_end := F_end.other W15 (Or.inr (slot_ne (Or.inr (hw _ (List.mem_of_getElem? (i := 127) rfl))) (Or.inr (hw _ (List.mem_of_getElem? (i := 117) rfl))) (by decide) (t := .int) (t' := .int) (by decide) (by decide)))
  have F_type := F_type.other W15 (Or.inr (slot_ne (Or.inr (hw _ (List.mem_of_getElem? (i := 129) rfl))) (Or.inr (hw _ (List.mem_of_getElem? (i := 117) rfl))) (by decide) (t := (.object "java/lang/String")) (t' := .int) (by decide) (by decide)))
  have F_score := F_score.other W15 (Or.inr (slot_ne (Or.inr (hw _ (List.mem_of_getElem? (i := 131) rfl))) (Or.inr (hw _ (List.mem_of_getElem? (i := 117) rfl))) (by decide) (t := (.object "java/util/Optional")) (t' := .int) (by decide) (by decide)))
  have F_group := F_group.other W15 (Or.inr (slot_ne (Or.inr (hw _ (List.mem_of_getElem? (i := 133) rfl))) (Or.inr (hw _ (List.mem_of_getElem? (i := 117) rfl))) (by decide) (t := (.object "java/lang/String")) (t' := .int) (by decide) (by decide)))
  have F_strand := F_strand.other W15 (Or.inr (slot_ne (Or.inr (hw _ (List.mem_of_getElem? (i := 135) rfl))) (Or.inr (hw _ (List.mem_of_getElem? (i := 117) rfl))) (by decide) (t := (.object "com/example/tracemark/tracemark/model/Strand")) (t' := .int) (by decide) (by decide)))
  have F_phase := F_phase.other W15 (Or.inr (slot_ne (Or.inr (hw _ (List.mem_of_getElem? (i := 137) rfl))) (Or.inr (hw _ (List.mem_of_getElem? (i := 117) rfl))) (by decide) (t := (.object "java/util/OptionalInt")) (t' := .int) (by decide) (by decide)))
  have F_attributes := F_attributes.other W15 (Or.inr (slot_ne (Or.inr (hw _ (List.mem_of_getElem? (i := 139) rfl))) (Or.inr (hw _ (List.mem_of_getElem? (i := 117) rfl))) (by decide) (t := (.object "java/util/List")) (t' := .int) (by decide) (by decide)))
  have K0 := K0.wr W15 (Or.inl (List.mem_of_getElem? (i := 0) rfl))
  have hk := Nat.le_trans hk (own_wrsz W15)
  have F_line := F_line.same W15
  have N15 := Fr.snoc X15 N14 g_ob
  refine own_goW (fun _ => st15 _) ?_
  show GGW _ _ _ _ _ _ _ T15 (mkF m 62 #[.val (.ref ob), .val (.int i1), .val (.ref a2), .val (.ref a3), .val (.int i4), .val (.int i5), .val (.int i6), .val (.ref a7), .val (.ref a8), .val .null, .val (.ref aN), .val (.ref aI), .val (.ref aL)] [])
  refine own_goW (fun _ => XS.aloadN X15.here hx rfl (hb hby d14_62) rfl rfl) ?_
  show GGW _ _ _ _ _ _ _ T15 (mkF m 63 #[.val (.ref ob), .val (.int i1), .val (.ref a2), .val (.ref a3), .val (.int i4), .val (.int i5), .val (.int i6), .val (.ref a7), .val (.ref a8), .val .null, .val (.ref aN), .val (.ref aI), .val (.ref aL)] [(.ref ob)])
  refine own_goW (fun _ => XS.aloadN X15.here hx rfl (hb hby d14_63) rfl rfl) ?_
  show GGW _ _ _ _ _ _ _ T15 (mkF m 64 #[.val (.ref ob), .val (.int i1), .val (.ref a2), .val (.ref a3), .val (.int i4), .val (.int i5), .val (.int i6), .val (.ref a7), .val (.ref a8), .val .null, .val (.ref aN), .val (.ref aI), .val (.ref aL)] [(.ref a2), (.ref ob)])
  obtain ⟨T16, h16, X16, e16, W16, st16⟩ := putF X15 hx hZ hown (host := "") (Or.inl (hw _ (List.mem_of_getElem? (i := 118) rfl))) Via.refl e15 F_description E_ob (Or.inr ⟨(hw _ (List.mem_of_getElem? (i := 119) rfl)), rfl, hnm⟩) (hw _ (List.mem_of_getElem? (i := 1) rfl)) (ty := (.object "java/lang/String")) (by decide) rfl rfl (g := (mkF m 64 #[.val (.ref ob), .val (.int i1), .val (.ref a2), .val (.ref a3), .val (.int i4), .val (.int i5), .val (.int i6), .val (.ref a7), .val (.ref a8), .val .null, .val (.ref aN), .val (.ref aI), .val (.ref aL)] [(.ref a2), (.ref ob)])) rfl rfl (hb hby d14_64)
  have E_ob := E_ob.wr W16
  have F_line := F_line.other W16 (Or.inr (slot_ne (Or.inr (hw _ (List.mem_of_getElem? (i := 117) rfl))) (Or.inr (hw _ (List.mem_of_getElem? (i := 119) rfl))) (by decide) (t := .int) (t' := (.object "java/lang/String")) (by decide) (by decide)))
  have F_sequenceId := F_sequenceId.other W16 (Or.inr (slot_ne (Or.inr (hw _ (List.mem_of_getElem? (i := 121) rfl))) (Or.inr (hw _ (List.mem_of_getElem? (i := 119) rfl))) (by decide) (t := (.object "java/lang/String")) (t' := (.object "java/lang/String")) (by decide) (by decide)))
  have F_sequenceIndex := F_sequenceIndex.other W16 (Or.inr (slot_ne (Or.inr (hw _ (List.mem_of_getElem? (i := 123) rfl))) (Or.inr (hw _ (List.mem_of_getElem? (i := 119) rfl))) (by decide) (t := .int) (t' := (.object "java/lang/String")) (by decide) (by decide)))
  have F_start := F_start.other W16 (Or.inr (slot_ne (Or.inr (hw _ (List.mem_of_getElem? (i := 125) rfl))) (Or.inr (hw _ (List.mem_of_getElem? (i := 119) rfl))) (by decide) (t := .int) (t' := (.object "java/lang/String")) (by decide) (by decide)))
  have F_end := F_end.other W16 (Or.inr (slot_ne (Or.inr (hw _ (List.mem_of_getElem? (i := 127) rfl))) (Or.inr (hw _ (List.mem_of_getElem? (i := 119) rfl))) (by decide) (t := .int) (t' := (.object "java/lang/String")) (by decide) (by decide)))
  have F_type := F_type.other W16 (Or.inr (slot_ne (Or.inr (hw _ (List.mem_of_getElem? (i := 129) rfl))) (Or.inr (hw _ (List.mem_of_getElem? (i := 119) rfl))) (by decide) (t := (.object "java/lang/String")) (t' := (.object "java/lang/String")) (by decide) (by decide)))
  have F_score := F_score.other W16 (Or.inr (slot_ne (Or.inr (hw _ (List.mem_of_getElem? (i := 131) rfl))) (Or.inr (hw _ (List.mem_of_getElem? (i := 119) rfl))) (by decide) (t := (.object "java/util/Optional")) (t' := (.object "java/lang/String")) (by decide) (by decide)))
  have F_group := F_group.other W16 (Or.inr (slot_ne (Or.inr (hw _ (List.mem_of_getElem? (i := 133) rfl))) (Or.inr (hw _ (List.mem_of_getElem? (i := 119) rfl))) (by decide) (t := (.object "java/lang/String")) (t' := (.object "java/lang/String")) (by decide) (by decide)))
  have F_strand := F_strand.other W16 (Or.inr (slot_ne (Or.inr (hw _ (List.mem_of_getElem? (i := 135) rfl))) (Or.inr (hw _ (List.mem_of_getElem? (i := 119) rfl))) (by decide) (t := (.object "com/example/tracemark/tracemark/model/Strand")) (t' := (.object "java/lang/String")) (by decide) (by decide)))
  have F_phase := F_phase.other W16 (Or.inr (slot_ne (Or.inr (hw _ (List.mem_of_getElem? (i := 137) rfl))) (Or.inr (hw _ (List.mem_of_getElem? (i := 119) rfl))) (by decide) (t := (.object "java/util/OptionalInt")) (t' := (.object "java/lang/String")) (by decide) (by decide)))
  have F_attributes := F_attributes.other W16 (Or.inr (slot_ne (Or.inr (hw _ (List.mem_of_getElem? (i := 139) rfl))) (Or.inr (hw _ (List.mem_of_getElem? (i := 119) rfl))) (by decide) (t := (.object "java/util/List")) (t' := (.object "java/lang/String")) (by decide) (by decide)))
  have K0 := K0.wr W16 (Or.inl (List.mem_of_getElem? (i := 0) rfl))
  have hk := Nat.le_trans hk (own_wrsz W16)
  have F_description := F_description.same W16
  have N16 := Fr.snoc X16 N15 g_ob
  refine own_goW (fun _ => st16 _) ?_
  show GGW _ _ _ _ _ _ _ T16 (mkF m 67 #[.val (.ref ob), .val (.int i1), .val (.ref a2), .val (.ref a3), .val (.int i4), .val (.int i5), .val (.int i6), .val (.ref a7), .val (.ref a8), .val .null, .val (.ref aN), .val (.ref aI), .val (.ref aL)] [])
  refine own_goW (fun _ => XS.aloadN X16.here hx rfl (hb hby d14_67) rfl rfl) ?_
  show GGW _ _ _ _ _ _ _ T16 (mkF m 68 #[.val (.ref ob), .val (.int i1), .val (.ref a2), .val (.ref a3), .val (.int i4), .val (.int i5), .val (.int i6), .val (.ref a7), .val (.ref a8), .val .null, .val (.ref aN), .val (.ref aI), .val (.ref aL)] [(.ref ob)])
  refine own_goW (fun _ => XS.aloadN X16.here hx rfl (hb hby d14_68) rfl rfl) ?_
  show GGW _ _ _ _ _ _ _ T16 (mkF m 69 #[.val (.ref ob), .val (.int i1), .val (.ref a2), .val (.ref a3), .val (.int i4), .val (.int i5), .val (.int i6), .val (.ref a7), .val (.ref a8), .val .null, .val (.ref aN), .val (.ref aI), .val (.ref aL)] [(.ref a3), (.ref ob)])
  obtain ⟨T17, h17, X17, e17, W17, st17⟩ := putF X16 hx hZ hown (host := "") (Or.inl (hw _ (List.mem_of_getElem? (i := 120) rfl))) Via.refl e16 F_sequenceId E_ob (Or.inr ⟨(hw _ (List.mem_of_getElem? (i := 121) rfl)), rfl, hnm⟩) (hw _ (List.mem_of_getElem? (i := 1) rfl)) (ty := (.object "java/lang/String")) (by decide) rfl rfl (g := (mkF m 69 #[.val (.ref ob), .val (.int i1), .val (.ref a2), .val (.ref a3), .val (.int i4), .val (.int i5), .val (.int i6), .val (.ref a7), .val (.ref a8), .val .null, .val (.ref aN), .val (.ref aI), .val (.ref aL)] [(.ref a3), (.ref ob)])) rfl rfl (hb hby d14_69)
  have E_ob := E_ob.wr W17
  have F_line := F_line.other W17 (Or.inr (slot_ne (Or.inr (hw _ (List.mem_of_getElem? (i := 117) rfl))) (Or.inr (hw _ (List.mem_of_getElem? (i := 121) rfl))) (by decide) (t := .int) (t' := (.object "java/lang/String")) (by decide) (by decide)))
  have F_description := F_description.other W17 (Or.inr (slot_ne (Or.inr (hw _ (List.mem_of_getElem? (i := 119) rfl))) (Or.inr (hw _ (List.mem_of_getElem? (i := 121) rfl))) (by decide) (t := (.object "java/lang/String")) (t' := (.object "java/lang/String")) (by decide) (by decide)))
  have F_sequenceIndex := F_sequenceIndex.other W17 (Or.inr (slot_ne (Or.inr (hw _ (List.mem_of_getElem? (i := 123) rfl))) (Or.inr (hw _ (List.mem_of_getElem? (i := 121) rfl))) (by decide) (t := .int) (t' := (.object "java/lang/String")) (by decide) (by decide)))
  have F_start := F_start.other W17 (Or.inr (slot_ne (Or.inr (hw _ (List.mem_of_getElem? (i := 125) rfl))) (Or.inr (hw _ (List.mem_of_getElem? (i := 121) rfl))) (by decide) (t := .int) (t' := (.object "java/lang/String")) (by decide) (by decide)))
  have F_end := F_end.other W17 (Or.inr (slot_ne (Or.inr (hw _ (List.mem_of_getElem? (i := 127) rfl))) (Or.inr (hw _ (List.mem_of_getElem? (i := 121) rfl))) (by decide) (t := .int) (t' := (.object "java/lang/String")) (by decide) (by decide)))
  have F_type := F_type.other W17 (Or.inr (slot_ne (Or.inr (hw _ (List.mem_of_getElem? (i := 129) rfl))) (Or.inr (hw _ (List.mem_of_getElem? (i := 121) rfl))) (by decide) (t := (.object "java/lang/String")) (t' := (.object "java/lang/String")) (by decide) (by decide)))
  have F_score := F_score.other W17 (Or.inr (slot_ne (Or.inr (hw _ (List.mem_of_getElem? (i := 131) rfl))) (Or.inr (hw _ (List.mem_of_getElem? (i := 121) rfl))) (by decide) (t := (.object "java/util/Optional")) (t' := (.object "java/lang/String")) (by decide) (by decide)))
  have F_group := F_group.other W17 (Or.inr (slot_ne (Or.inr (hw _ (List.mem_of_getElem? (i := 133) rfl))) (Or.inr (hw _ (List.mem_of_getElem? (i := 121) rfl))) (by decide) (t := (.object "java/lang/String")) (t' := (.object "java/lang/String")) (by decide) (by decide)))
  have F_strand := F_strand.other W17 (Or.inr (slot_ne (Or.inr (hw _ (List.mem_of_getElem? (i := 135) rfl))) (Or.inr (hw _ (List.mem_of_getElem? (i := 121) rfl))) (by decide) (t := (.object "com/example/tracemark/tracemark/model/Strand")) (t' := (.object "java/lang/String")) (by decide) (by decide)))
  have F_phase := F_phase.other W17 (Or.inr (slot_ne (Or.inr (hw _ (List.mem_of_getElem? (i := 137) rfl))) (Or.inr (hw _ (List.mem_of_getElem? (i := 121) rfl))) (by decide) (t := (.object "java/util/OptionalInt")) (t' := (.object "java/lang/String")) (by decide) (by decide)))
  have F_attributes := F_attributes.other W17 (Or.inr (slot_ne (Or.inr (hw _ (List.mem_of_getElem? (i := 139) rfl))) (Or.inr (hw _ (List.mem_of_getElem? (i := 121) rfl))) (by decide) (t := (.object "java/util/List")) (t' := (.object "java/lang/String")) (by decide) (by decide)))
  have K0 := K0.wr W17 (Or.inl (List.mem_of_getElem? (i := 0) rfl))
  have hk := Nat.le_trans hk (own_wrsz W17)
  have F_sequenceId := F_sequenceId.same W17
  have N17 := Fr.snoc X17 N16 g_ob
  refine own_goW (fun _ => st17 _) ?_
  show GGW _ _ _ _ _ _ _ T17 (mkF m 72 #[.val (.ref ob), .val (.int i1), .val (.ref a2), .val (.ref a3), .val (.int i4), .val (.int i5), .val (.int i6), .val (.ref a7), .val (.ref a8), .val .null, .val (.ref aN), .val (.ref aI), .val (.ref aL)] [])
  refine own_goW (fun _ => XS.aloadN X17.here hx rfl (hb hby d14_72) rfl rfl) ?_
  show GGW _ _ _ _ _ _ _ T17 (mkF m 73 #[.val (.ref ob), .val (.int i1), .val (.ref a2), .val (.ref a3), .val (.int i4), .val (.int i5), .val (.int i6), .val (.ref a7), .val (.ref a8), .val .null, .val (.ref aN), .val (.ref aI), .val (.ref aL)] [(.ref ob)])
  refine own_goW (fun _ => XS.iload X17.here hx rfl (hb hby d14_73) rfl) ?_
  show GGW _ _ _ _ _ _ _ T17 (mkF m 75 #[.val (.ref ob), .val (.int i1), .val (.ref a2), .val (.ref a3), .val (.int i4), .val (.int i5), .val (.int i6), .val (.ref a7), .val (.ref a8), .val .null, .val (.ref aN), .val (.ref aI), .val (.ref aL)] [(.int i4), (.ref ob)])
  obtain ⟨T18, h18, X18, e18, W18, st18⟩ := putF X17 hx hZ hown (host := "") (Or.inl (hw _ (List.mem_of_getElem? (i := 122) rfl))) Via.refl e17 F_sequenceIndex E_ob (Or.inr ⟨(hw _ (List.mem_of_getElem? (i := 123) rfl)), rfl, hnm⟩) (hw _ (List.mem_of_getElem? (i := 1) rfl)) (ty := .int) (by decide) rfl rfl (g := (mkF m 75 #[.val (.ref ob), .val (.int i1), .val (.ref a2), .val (.ref a3), .val (.int i4), .val (.int i5), .val (.int i6), .val (.ref a7), .val (.ref a8), .val .null, .val (.ref aN), .val (.ref aI), .val (.ref aL)] [(.int i4), (.ref ob)])) rfl rfl (hb hby d14_75)
  have E_ob := E_ob.wr W18
  have F_line := F_line.other W18 (Or.inr (slot_ne (Or.inr (hw _ (List.mem_of_getElem? (i := 117) rfl))) (Or.inr (hw _ (List.mem_of_getElem? (i := 123) rfl))) (by decide) (t := .int) (t' := .int) (by decide) (by decide)))
  have F_description := F_description.other W18 (Or.inr (slot_ne (Or.inr (hw _ (List.mem_of_getElem? (i := 119) rfl))) (Or.inr (hw _ (List.mem_of_getElem? (i := 123) rfl))) (by decide) (t := (.object "java/lang/String")) (t' := .int) (by decide) (by decide)))
  have F_sequenceId := F_sequenceId.other W18 (Or.inr (slot_ne (Or.inr (hw _ (List.mem_of_getElem? (i := 121) rfl))) (Or.inr (hw _ (List.mem_of_getElem? (i := 123) rfl))) (by decide) (t := (.object "java/lang/String")) (t' := .int) (by decide) (by decide)))
  have F_start := F_start.other W18 (Or.inr (slot_ne (Or.inr (hw _ (List.mem_of_getElem? (i := 125) rfl))) (Or.inr (hw _ (List.mem_of_getElem? (i := 123) rfl))) (by decide) (t := .int) (t' := .int) (by decide) (by decide)))
  have F_end := F_end.other W18 (Or.inr (slot_ne (Or.inr (hw _ (List.mem_of_getElem? (i := 127) rfl))) (Or.inr (hw _ (List.mem_of_getElem? (i := 123) rfl))) (by decide) (t := .int) (t' := .int) (by decide) (by decide)))
  have F_type := F_type.other W18 (Or.inr (slot_ne (Or.inr (hw _ (List.mem_of_getElem? (i := 129) rfl))) (Or.inr (hw _ (List.mem_of_getElem? (i := 123) rfl))) (by decide) (t := (.object "java/lang/String")) (t' := .int) (by decide) (by decide)))
  have F_score := F_score.other W18 (Or.inr (slot_ne (Or.inr (hw _ (List.mem_of_getElem? (i := 131) rfl))) (Or.inr (hw _ (List.mem_of_getElem? (i := 123) rfl))) (by decide) (t := (.object "java/util/Optional")) (t' := .int) (by decide) (by decide)))
  have F_group := F_group.other W18 (Or.inr (slot_ne (Or.inr (hw _ (List.mem_of_getElem? (i := 133) rfl))) (Or.inr (hw _ (List.mem_of_getElem? (i := 123) rfl))) (by decide) (t := (.object "java/lang/String")) (t' := .int) (by decide) (by decide)))
  have F_strand := F_strand.other W18 (Or.inr (slot_ne (Or.inr (hw _ (List.mem_of_getElem? (i := 135) rfl))) (Or.inr (hw _ (List.mem_of_getElem? (i := 123) rfl))) (by decide) (t := (.object "com/example/tracemark/tracemark/model/Strand")) (t' := .int) (by decide) (by decide)))
  have F_phase := F_phase.other W18 (Or.inr (slot_ne (Or.inr (hw _ (List.mem_of_getElem? (i := 137) rfl))) (Or.inr (hw _ (List.mem_of_getElem? (i := 123) rfl))) (by decide) (t := (.object "java/util/OptionalInt")) (t' := .int) (by decide) (by decide)))
  have F_attributes := F_attributes.other W18 (Or.inr (slot_ne (Or.inr (hw _ (List.mem_of_getElem? (i := 139) rfl))) (Or.inr (hw _ (List.mem_of_getElem? (i := 123) rfl))) (by decide) (t := (.object "java/util/List")) (t' := .int) (by decide) (by decide)))
  have K0 := K0.wr W18 (Or.inl (List.mem_of_getElem? (i := 0) rfl))
  have hk := Nat.le_trans hk (own_wrsz W18)
  have F_sequenceIndex := F_sequenceIndex.same W18
  have N18 := Fr.snoc X18 N17 g_ob
  refine own_goW (fun _ => st18 _) ?_
  show GGW _ _ _ _ _ _ _ T18 (mkF m 78 #[.val (.ref ob), .val (.int i1), .val (.ref a2), .val (.ref a3), .val (.int i4), .val (.int i5), .val (.int i6), .val (.ref a7), .val (.ref a8), .val .null, .val (.ref aN), .val (.ref aI), .val (.ref aL)] [])
  refine own_goW (fun _ => XS.aloadN X18.here hx rfl (hb hby d14_78) rfl rfl) ?_
  show GGW _ _ _ _ _ _ _ T18 (mkF m 79 #[.val (.ref ob), .val (.int i1), .val (.ref a2), .val (.ref a3), .val (.int i4), .val (.int i5), .val (.int i6), .val (.ref a7), .val (.ref a8), .val .null, .val (.ref aN), .val (.ref aI), .val (.ref aL)] [(.ref ob)])
  refine own_goW (fun _ => XS.iload X18.here hx rfl (hb hby d14_79) rfl) ?_
  show GGW _ _ _ _ _ _ _ T18 (mkF m 81 #[.val (.ref ob), .val (.int i1), .val (.ref a2), .val (.ref a3), .val (.int i4), .val (.int i5), .val (.int i6), .val (.ref a7), .val (.ref a8), .val .null, .val (.ref aN), .val (.ref aI), .val (.ref aL)] [(.int i5), (.ref ob)])
  obtain ⟨T19, h19, X19, e19, W19, st19⟩ := putF X18 hx hZ hown (host := "") (Or.inl (hw _ (List.mem_of_getElem? (i := 124) rfl))) Via.refl e18 F_start E_ob (Or.inr ⟨(hw _ (List.mem_of_getElem? (i := 125) rfl)), rfl, hnm⟩) (hw _ (List.mem_of_getElem? (i := 1) rfl)) (ty := .int) (by decide) rfl rfl (g := (mkF m 81 #[.val (.ref ob), .val (.int i1), .val (.ref a2), .val (.ref a3), .val (.int i4), .val (.int i5), .val (.int i6), .val (.ref a7), .val (.ref a8), .val .null, .val (.ref aN), .val (.ref aI), .val (.ref aL)] [(.int i5), (.ref ob)])) rfl rfl (hb hby d14_81)
  have E_ob := E_ob.wr W19
  have F_line := F_line.other W19 (Or.inr (slot_ne (Or.inr (hw _ (List.mem_of_getElem? (i := 117) rfl))) (Or.inr (hw _ (List.mem_of_getElem? (i := 125) rfl))) (by decide) (t := .int) (t' := .int) (by decide) (by decide)))
  have F_description := F_description.other W19 (Or.inr (slot_ne (Or.inr (hw _ (List.mem_of_getElem? (i := 119) rfl))) (Or.inr (hw _ (List.mem_of_getElem? (i := 125) rfl))) (by decide) (t := (.object "java/lang/String")) (t' := .int) (by decide) (by decide)))
  have F_sequenceId := F_sequenceId.other W19 (Or.inr (slot_ne (Or.inr (hw _ (List.mem_of_getElem? (i := 121) rfl))) (Or.inr (hw _ (List.mem_of_getElem? (i := 125) rfl))) (by decide) (t := (.object "java/lang/String")) (t' := .int) (by decide) (by decide)))
  have F_sequenceIndex := F_sequenceIndex.other W19 (Or.inr (slot_ne (Or.inr (hw _ (List.mem_of_getElem? (i := 123) rfl))) (Or.inr (hw _ (List.mem_of_getElem? (i := 125) rfl))) (by decide) (t := .int) (t' := .int) (by decide) (by decide)))
  have F_end := F_end.other W19 (Or.inr (slot_ne (Or.inr (hw _ (List.mem_of_getElem? (i := 127) rfl))) (Or.inr (hw _ (List.mem_of_getElem? (i := 125) rfl))) (by decide) (t := .int) (t' := .int) (by decide) (by decide)))
  have F_type := F_type.other W19 (Or.inr (slot_ne (Or.inr (hw _ (List.mem_of_getElem? (i := 129) rfl))) (Or.inr (hw _ (List.mem_of_getElem? (i := 125) rfl))) (by decide) (t := (.object "java/lang/String")) (t' := .int) (by decide) (by decide)))
  have F_score := F_score.other W19 (Or.inr (slot_ne (Or.inr (hw _ (List.mem_of_getElem? (i := 131) rfl))) (Or.inr (hw _ (List.mem_of_getElem? (i := 125) rfl))) (by decide) (t := (.object "java/util/Optional")) (t' := .int) (by decide) (by decide)))
  have F_group := F_group.other W19 (Or.inr (slot_ne (Or.inr (hw _ (List.mem_of_getElem? (i := 133) rfl))) (Or.inr (hw _ (List.mem_of_getElem? (i := 125) rfl))) (by decide) (t := (.object "java/lang/String")) (t' := .int) (by decide) (by decide)))
  have F_strand := F_strand.other W19 (Or.inr (slot_ne (Or.inr (hw _ (List.mem_of_getElem? (i := 135) rfl))) (Or.inr (hw _ (List.mem_of_getElem? (i := 125) rfl))) (by decide) (t := (.object "com/example/tracemark/tracemark/model/Strand")) (t' := .int) (by decide) (by decide)))
  have F_phase := F_phase.other W19 (Or.inr (slot_ne (Or.inr (hw _ (List.mem_of_getElem? (i := 137) rfl))) (Or.inr (hw _ (List.mem_of_getElem? (i := 125) rfl))) (by decide) (t := (.object "java/util/OptionalInt")) (t' := .int) (by decide) (by decide)))
  have F_attributes := F_attributes.other W19 (Or.inr (slot_ne (Or.inr (hw _ (List.mem_of_getElem? (i := 139) rfl))) (Or.inr (hw _ (List.mem_of_getElem? (i := 125) rfl))) (by decide) (t := (.object "java/util/List")) (t' := .int) (by decide) (by decide)))
  have K0 := K0.wr W19 (Or.inl (List.mem_of_getElem? (i := 0) rfl))
  have hk := Nat.le_trans hk (own_wrsz W19)
  have F_start := F_start.same W19
  have N19 := Fr.snoc X19 N18 g_ob
  refine own_goW (fun _ => st19 _) ?_
  show GGW _ _ _ _ _ _ _ T19 (mkF m 84 #[.val (.ref ob), .val (.int i1), .val (.ref a2), .val (.ref a3), .val (.int i4), .val (.int i5), .val (.int i6), .val (.ref a7), .val (.ref a8), .val .null, .val (.ref aN), .val (.ref aI), .val (.ref aL)] [])
  refine own_goW (fun _ => XS.aloadN X19.here hx rfl (hb hby d14_84) rfl rfl) ?_
  show GGW _ _ _ _ _ _ _ T19 (mkF m 85 #[.val (.ref ob), .val (.int i1), .val (.ref a2), .val (.ref a3), .val (.int i4), .val (.int i5), .val (.int i6), .val (.ref a7), .val (.ref a8), .val .null, .val (.ref aN), .val (.ref aI), .val (.ref aL)] [(.ref ob)])
  refine own_goW (fun _ => XS.iload X19.here hx rfl (hb hby d14_85) rfl) ?_
  show GGW _ _ _ _ _ _ _ T19 (mkF m 87 #[.val (.ref ob), .val (.int i1), .val (.ref a2), .val (.ref a3), .val (.int i4), .val (.int i5), .val (.int i6), .val (.ref a7), .val (.ref a8), .val .null, .val (.ref aN), .val (.ref aI), .val (.ref aL)] [(.int i6), (.ref ob)])
  obtain ⟨T20, h20, X20, e20, W20, st20⟩ := putF X19 hx hZ hown (host := "") (Or.inl (hw _ (List.mem_of_getElem? (i := 126) rfl))) Via.refl e19 F_end E_ob (Or.inr ⟨(hw _ (List.mem_of_getElem? (i := 127) rfl)), rfl, hnm⟩) (hw _ (List.mem_of_getElem? (i := 1) rfl)) (ty := .int) (by decide) rfl rfl (g := (mkF m 87 #[.val (.ref ob), .val (.int i1), .val (.ref a2), .val (.ref a3), .val (.int i4), .val (.int i5), .val (.int i6), .val (.ref a7), .val (.ref a8), .val .null, .val (.ref aN), .val (.ref aI), .val (.ref aL)] [(.int i6), (.ref ob)])) rfl rfl (hb hby d14_87)
  have E_ob := E_ob.wr W20
  have F_line := F_line.other W20 (Or.inr (slot_ne (Or.inr (hw _ (List.mem_of_getElem? (i := 117) rfl))) (Or.inr (hw _ (List.mem_of_getElem? (i := 127) rfl))) (by decide) (t := .int) (t' := .int) (by decide) (by decide)))
  have F_description := F_description.other W20 (Or.inr (slot_ne (Or.inr (hw _ (List.mem_of_getElem? (i := 119) rfl))) (Or.inr (hw _ (List.mem_of_getElem? (i := 127) rfl))) (by decide) (t := (.object "java/lang/String")) (t' := .int) (by decide) (by decide)))
  have F_sequenceId := F_sequenceId.other W20 (Or.inr (slot_ne (Or.inr (hw _ (List.mem_of_getElem? (i := 121) rfl))) (Or.inr (hw _ (List.mem_of_getElem? (i := 127) rfl))) (by decide) (t := (.object "java/lang/String")) (t' := .int) (by decide) (by decide)))
  have F_sequenceIndex := F_sequenceIndex.other W20 (Or.inr (slot_ne (Or.inr (hw _ (List.mem_of_getElem? (i := 123) rfl))) (Or.inr (hw _ (List.mem_of_getElem? (i := 127) rfl))) (by decide) (t := .int) (t' := .int) (by decide) (by decide)))
  have F_start := F_start.other W20 (Or.inr (slot_ne (Or.inr (hw _ (List.mem_of_getElem? (i := 125) rfl))) (Or.inr (hw _ (List.mem_of_getElem? (i := 127) rfl))) (by decide) (t := .int) (t' := .int) (by decide) (by decide)))
  have F_type := F_type.other W20 (Or.inr (slot_ne (Or.inr (hw _ (List.mem_of_getElem? (i := 129) rfl))) (Or.inr (hw _ (List.mem_of_getElem? (i := 127) rfl))) (by decide) (t := (.object "java/lang/String")) (t' := .int) (by decide) (by decide)))
  have F_score := F_score.other W20 (Or.inr (slot_ne (Or.inr (hw _ (List.mem_of_getElem? (i := 131) rfl))) (Or.inr (hw _ (List.mem_of_getElem? (i := 127) rfl))) (by decide) (t := (.object "java/util/Optional")) (t' := .int) (by decide) (by decide)))
  have F_group := F_group.other W20 (Or.inr (slot_ne (Or.inr (hw _ (List.mem_of_getElem? (i := 133) rfl))) (Or.inr (hw _ (List.mem_of_getElem? (i := 127) rfl))) (by decide) (t := (.object "java/lang/String")) (t' := .int) (by decide) (by decide)))
  have F_strand := F_strand.other W20 (Or.inr (slot_ne (Or.inr (hw _ (List.mem_of_getElem? (i := 135) rfl))) (Or.inr (hw _ (List.mem_of_getElem? (i := 127) rfl))) (by decide) (t := (.object "com/example/tracemark/tracemark/model/Strand")) (t' := .int) (by decide) (by decide)))
  have F_phase := F_phase.other W20 (Or.inr (slot_ne (Or.inr (hw _ (List.mem_of_getElem? (i := 137) rfl))) (Or.inr (hw _ (List.mem_of_getElem? (i := 127) rfl))) (by decide) (t := (.object "java/util/OptionalInt")) (t' := .int) (by decide) (by decide)))
  have F_attributes := F_attributes.other W20 (Or.inr (slot_ne (Or.inr (hw _ (List.mem_of_getElem? (i := 139) rfl))) (Or.inr (hw _ (List.mem_of_getElem? (i := 127) rfl))) (by decide) (t := (.object "java/util/List")) (t' := .int) (by decide) (by decide)))
  have K0 := K0.wr W20 (Or.inl (List.mem_of_getElem? (i := 0) rfl))
  have hk := Nat.le_trans hk (own_wrsz W20)
  have F_end := F_end.same W20
  have N20 := Fr.snoc X20 N19 g_ob
  refine own_goW (fun _ => st20 _) ?_
  show GGW _ _ _ _ _ _ _ T20 (mkF m 90 #[.val (.ref ob), .val (.int i1), .val (.ref a2), .val (.ref a3), .val (.int i4), .val (.int i5), .val (.int i6), .val (.ref a7), .val (.ref a8), .val .null, .val (.ref aN), .val (.ref aI), .val (.ref aL)] [])
  refine own_goW (fun _ => XS.aloadN X20.here hx rfl (hb hby d14_90) rfl rfl) ?_
  show GGW _ _ _ _ _ _ _ T20 (mkF m 91 #[.val (.ref ob), .val (.int i1), .val (.ref a2), .val (.ref a3), .val (.int i4), .val (.int i5), .val (.int i6), .val (.ref a7), .val (.ref a8), .val .null, .val (.ref aN), .val (.ref aI), .val (.ref aL)] [(.ref ob)])
  refine own_goW (fun _ => XS.aload X20.here hx rfl (hb hby d14_91) rfl rfl) ?_
  show GGW _ _ _ _ _ _ _ T20 (mkF m 93 #[.val (.ref ob), .val (.int i1), .val (.ref a2), .val (.ref a3), .val (.int i4), .val (.int i5), .val (.int i6), .val (.ref a7), .val (.ref a8), .val .null, .val (.ref aN), .val (.ref aI), .val (.ref aL)] [(.ref a7), (.ref ob)])
  obtain ⟨T21, h21, X21, e21, W21, st21⟩ := putF X20 hx hZ hown (host := "") (Or.inl (hw _ (List.mem_of_getElem? (i := 128) rfl))) Via.refl e20 F_type E_ob (Or.inr ⟨(hw _ (List.mem_of_getElem? (i := 129) rfl)), rfl, hnm⟩) (hw _ (List.mem_of_getElem? (i := 1) rfl)) (ty := (.object "java/lang/String")) (by decide) rfl rfl (g := (mkF m 93 #[.val (.ref ob), .val (.int i1), .val (.ref a2), .val (.ref a3), .val (.int i4), .val (.int i5), .val (.int i6), .val (.ref a7), .val (.ref a8), .val .null, .val (.ref aN), .val (.ref aI), .val (.ref aL)] [(.ref a7), (.ref ob)])) rfl rfl (hb hby d14_93)
  have E_ob := E_ob.wr W21
  have F_line := F_line.other W21 (Or.inr (slot_ne (Or.inr (hw _ (List.mem_of_getElem? (i := 117) rfl))) (Or.inr (hw _ (List.mem_of_getElem? (i := 129) rfl))) (by decide) (t := .int) (t' := (.object "java/lang/String")) (by decide) (by decide)))
  have F_description := F_description.other W21 (Or.inr (slot_ne (Or.inr (hw _ (List.mem_of_getElem? (i := 119) rfl))) (Or.inr (hw _ (List.mem_of_getElem? (i := 129) rfl))) (by decide) (t := (.object "java/lang/String")) (t' := (.object "java/lang/String")) (by decide) (by decide)))
  have F_sequenceId := F_sequenceId.other W21 (Or.inr (slot_ne (Or.inr (hw _ (List.mem_of_getElem? (i := 121) rfl))) (Or.inr (hw _ (List.mem_of_getElem? (i := 129) rfl))) (by decide) (t := (.object "java/lang/String")) (t' := (.object "java/lang/String")) (by decide) (by decide)))
  have F_sequenceIndex := F_sequenceIndex.other W21 (Or.inr (slot_ne (Or.inr (hw _ (List.mem_of_getElem? (i := 123) rfl))) (Or.inr (hw _ (List.mem_of_getElem? (i := 129) rfl))) (by decide) (t := .int) (t' := (.object "java/lang/String")) (by decide) (by decide)))
  have F_start := F_start.other W21 (Or.inr (slot_ne (Or.inr (hw _ (List.mem_of_getElem? (i := 125) rfl))) (Or.inr (hw _ (List.mem_of_getElem? (i := 129) rfl))) (by decide) (t := .int) (t' := (.object "java/lang/String")) (by decide) (by decide)))
  have F_end := F_end.other W21 (Or.inr (slot_ne (Or.inr (hw _ (List.mem_of_getElem? (i := 127) rfl))) (Or.inr (hw _ (List.mem_of_getElem? (i := 129) rfl))) (by decide) (t := .int) (t' := (.object "java/lang/String")) (by decide) (by decide)))
  have F_score := F_score.other W21 (Or.inr (slot_ne (Or.inr (hw _ (List.mem_of_getElem? (i := 131) rfl))) (Or.inr (hw _ (List.mem_of_getElem? (i := 129) rfl))) (by decide) (t := (.object "java/util/Optional")) (t' := (.object "java/lang/String")) (by decide) (by decide)))
  have F_group := F_group.other W21 (Or.inr (slot_ne (Or.inr (hw _ (List.mem_of_getElem? (i := 133) rfl))) (Or.inr (hw _ (List.mem_of_getElem? (i := 129) rfl))) (by decide) (t := (.object "java/lang/String")) (t' := (.object "java/lang/String")) (by decide) (by decide)))
  have F_strand := F_strand.other W21 (Or.inr (slot_ne (Or.inr (hw _ (List.mem_of_getElem? (i := 135) rfl))) (Or.inr (hw _ (List.mem_of_getElem? (i := 129) rfl))) (by decide) (t := (.object "com/example/tracemark/tracemark/model/Strand")) (t' := (.object "java/lang/String")) (by decide) (by decide)))
  have F_phase := F_phase.other W21 (Or.inr (slot_ne (Or.inr (hw _ (List.mem_of_getElem? (i := 137) rfl))) (Or.inr (hw _ (List.mem_of_getElem? (i := 129) rfl))) (by decide) (t := (.object "java/util/OptionalInt")) (t' := (.object "java/lang/String")) (by decide) (by decide)))
  have F_attributes := F_attributes.other W21 (Or.inr (slot_ne (Or.inr (hw _ (List.mem_of_getElem? (i := 139) rfl))) (Or.inr (hw _ (List.mem_of_getElem? (i := 129) rfl))) (by decide) (t := (.object "java/util/List")) (t' := (.object "java/lang/String")) (by decide) (by decide)))
  have K0 := K0.wr W21 (Or.inl (List.mem_of_getElem? (i := 0) rfl))
  have hk := Nat.le_trans hk (own_wrsz W21)
  have F_type := F_type.same W21
  have N21 := Fr.snoc X21 N20 g_ob
  refine own_goW (fun _ => st21 _) ?_
  show GGW _ _ _ _ _ _ _ T21 (mkF m 96 #[.val (.ref ob), .val (.int i1), .val (.ref a2), .val (.ref a3), .val (.int i4), .val (.int i5), .val (.int i6), .val (.ref a7), .val (.ref a8), .val .null, .val (.ref aN), .val (.ref aI), .val (.ref aL)] [])
  refine own_goW (fun _ => XS.aloadN X21.here hx rfl (hb hby d14_96) rfl rfl) ?_
  show GGW _ _ _ _ _ _ _ T21 (mkF m 97 #[.val (.ref ob), .val (.int i1), .val (.ref a2), .val (.ref a3), .val (.int i4), .val (.int i5), .val (.int i6), .val (.ref a7), .val (.ref a8), .val .null, .val (.ref aN), .val (.ref aI), .val (.ref aL)] [(.ref ob)])
  refine own_goW (fun _ => XS.aload X21.here hx rfl (hb hby d14_97) rfl rfl) ?_
  show GGW _ _ _ _ _ _ _ T21 (mkF m 99 #[.val (.ref ob), .val (.int i1), .val (.ref a2), .val (.ref a3), .val (.int i4), .val (.int i5), .val (.int i6), .val (.ref a7), .val (.ref a8), .val .null, .val (.ref aN), .val (.ref aI), .val (.ref aL)] [(.ref a8), (.ref ob)])
  obtain ⟨T22, h22, X22, e22, W22, st22⟩ := putF X21 hx hZ hown (host := "") (Or.inl (hw _ (List.mem_of_getElem? (i := 130) rfl))) Via.refl e21 F_score E_ob (Or.inr ⟨(hw _ (List.mem_of_getElem? (i := 131) rfl)), rfl, hnm⟩) (hw _ (List.mem_of_getElem? (i := 1) rfl)) (ty := (.object "java/util/Optional")) (by decide) rfl rfl (g := (mkF m 99 #[.val (.ref ob), .val (.int i1), .val (.ref a2), .val (.ref a3), .val (.int i4), .val (.int i5), .val (.int i6), .val (.ref a7), .val (.ref a8), .val .null, .val (.ref aN), .val (.ref aI), .val (.ref aL)] [(.ref a8), (.ref ob)])) rfl rfl (hb hby d14_99)
  have E_ob := E_ob.wr W22
  have F_line := F_line.other W22 (Or.inr (slot_ne (Or.inr (hw _ (List.mem_of_getElem? (i := 117) rfl))) (Or.inr (hw _ (List.mem_of_getElem? (i := 131) rfl))) (by decide) (t := .int) (t' := (.object "java/util/Optional")) (by decide) (by decide)))
  have F_description := F_description.other W22 (Or.inr (slot_ne (Or.inr (hw _ (List.mem_of_getElem? (i := 119) rfl))) (Or.inr (hw _ (List.mem_of_getElem? (i := 131) rfl))) (by decide) (t := (.object "java/lang/String")) (t' := (.object "java/util/Optional")) (by decide) (by decide)))
  have F_sequenceId := F_sequenceId.other W22 (Or.inr (slot_ne (Or.inr (hw _ (List.mem_of_getElem? (i := 121) rfl))) (Or.inr (hw _ (List.mem_of_getElem? (i := 131) rfl))) (by decide) (t := (.object "java/lang/String")) (t' := (.object "java/util/Optional")) (by decide) (by decide)))
  have F_sequenceIndex := F_sequenceIndex.other W22 (Or.inr (slot_ne (Or.inr (hw _ (List.mem_of_getElem? (i := 123) rfl))) (Or.inr (hw _ (List.mem_of_getElem? (i := 131) rfl))) (by decide) (t := .int) (t' := (.object "java/util/Optional")) (by decide) (by decide)))
  have F_start := F_start.other W22 (Or.inr (slot_ne (Or.inr (hw _ (List.mem_of_getElem? (i := 125) rfl))) (Or.inr (hw _ (List.mem_of_getElem? (i := 131) rfl))) (by decide) (t := .int) (t' := (.object "java/util/Optional")) (by decide) (by decide)))
  have F_end := F_end.other W22 (Or.inr (slot_ne (Or.inr (hw _ (List.mem_of_getElem? (i := 127) rfl))) (Or.inr (hw _ (List.mem_of_getElem? (i := 131) rfl))) (by decide) (t := .int) (t' := (.object "java/util/Optional")) (by decide) (by decide)))
  have F_type := F_type.other W22 (Or.inr (slot_ne (Or.inr (hw _ (List.mem_of_getElem? (i := 129) rfl))) (Or.inr (hw _ (List.mem_of_getElem? (i := 131) rfl))) (by decide) (t := (.object "java/lang/String")) (t' := (.object "java/util/Optional")) (by decide) (by decide)))
  have F_group := F_group.other W22 (Or.inr (slot_ne (Or.inr (hw _ (List.mem_of_getElem? (i := 133) rfl))) (Or.inr (hw _ (List.mem_of_getElem? (i := 131) rfl))) (by decide) (t := (.object "java/lang/String")) (t' := (.object "java/util/Optional")) (by decide) (by decide)))
  have F_strand := F_strand.other W22 (Or.inr (slot_ne (Or.inr (hw _ (List.mem_of_getElem? (i := 135) rfl))) (Or.inr (hw _ (List.mem_of_getElem? (i := 131) rfl))) (by decide) (t := (.object "com/example/tracemark/tracemark/model/Strand")) (t' := (.object "java/util/Optional")) (by decide) (by decide)))
  have F_phase := F_phase.other W22 (Or.inr (slot_ne (Or.inr (hw _ (List.mem_of_getElem? (i := 137) rfl))) (Or.inr (hw _ (List.mem_of_getElem? (i := 131) rfl))) (by decide) (t := (.object "java/util/OptionalInt")) (t' := (.object "java/util/Optional")) (by decide) (by decide)))
  have F_attributes := F_attributes.other W22 (Or.inr (slot_ne (Or.inr (hw _ (List.mem_of_getElem? (i := 139) rfl))) (Or.inr (hw _ (List.mem_of_getElem? (i := 131) rfl))) (by decide) (t := (.object "java/util/List")) (t' := (.object "java/util/Optional")) (by decide) (by decide)))
  have K0 := K0.wr W22 (Or.inl (List.mem_of_getElem? (i := 0) rfl))
  have hk := Nat.le_trans hk (own_wrsz W22)
  have F_score := F_score.same W22
  have N22 := Fr.snoc X22 N21 g_ob
  refine own_goW (fun _ => st22 _) ?_
  show GGW _ _ _ _ _ _ _ T22 (mkF m 102 #[.val (.ref ob), .val (.int i1), .val (.ref a2), .val (.ref a3), .val (.int i4), .val (.int i5), .val (.int i6), .val (.ref a7), .val (.ref a8), .val .null, .val (.ref aN), .val (.ref aI), .val (.ref aL)] [])
  refine own_goW (fun _ => XS.aloadN X22.here hx rfl (hb hby d14_102) rfl rfl) ?_
  show GGW _ _ _ _ _ _ _ T22 (mkF m 103 #[.val (.ref ob), .val (.int i1), .val (.ref a2), .val (.ref a3), .val (.int i4), .val (.int i5), .val (.int i6), .val (.ref a7), .val (.ref a8), .val .null, .val (.ref aN), .val (.ref aI), .val (.ref aL)] [(.ref ob)])
  refine own_goW (fun _ => XS.aload X22.here hx rfl (hb hby d14_103) rfl rfl) ?_
  show GGW _ _ _ _ _ _ _ T22 (mkF m 105 #[.val (.ref ob), .val (.int i1), .val (.ref a2), .val (.ref a3), .val (.int i4), .val (.int i5), .val (.int i6), .val (.ref a7), .val (.ref a8), .val .null, .val (.ref aN), .val (.ref aI), .val (.ref aL)] [.null, (.ref ob)])
  obtain ⟨T23, h23, X23, e23, W23, st23⟩ := putF X22 hx hZ hown (host := "") (Or.inl (hw _ (List.mem_of_getElem? (i := 132) rfl))) Via.refl e22 F_group E_ob (Or.inr ⟨(hw _ (List.mem_of_getElem? (i := 133) rfl)), rfl, hnm⟩) (hw _ (List.mem_of_getElem? (i := 1) rfl)) (ty := (.object "java/lang/String")) (by decide) rfl rfl (g := (mkF m 105 #[.val (.ref ob), .val (.int i1), .val (.ref a2), .val (.ref a3), .val (.int i4), .val (.int i5), .val (.int i6), .val (.ref a7), .val (.ref a8), .val .null, .val (.ref aN), .val (.ref aI), .val (.ref aL)] [.null, (.ref ob)])) rfl rfl (hb hby d14_105)
  have E_ob := E_ob.wr W23
  have F_line := F_line.other W23 (Or.inr (slot_ne (Or.inr (hw _ (List.mem_of_getElem? (i := 117) rfl))) (Or.inr (hw _ (List.mem_of_getElem? (i := 133) rfl))) (by decide) (t := .int) (t' := (.object "java/lang/String")) (by decide) (by decide)))
  have F_description := F_description.other W23 (Or.inr (slot_ne (Or.inr (hw _ (List.mem_of_getElem? (i := 119) rfl))) (Or.inr (hw _ (List.mem_of_getElem? (i := 133) rfl))) (by decide) (t := (.object "java/lang/String")) (t' := (.object "java/lang/String")) (by decide) (by decide)))
  have F_sequenceId := F_sequenceId.other W23 (Or.inr (slot_ne (Or.inr (hw _ (List.mem_of_getElem? (i := 121) rfl))) (Or.inr (hw _ (List.mem_of_getElem? (i := 133) rfl))) (by decide) (t := (.object "java/lang/String")) (t' := (.object "java/lang/String")) (by decide) (by decide)))
  have F_sequenceIndex := F_sequenceIndex.other W23 (Or.inr (slot_ne (Or.inr (hw _ (List.mem_of_getElem? (i := 123) rfl))) (Or.inr (hw _ (List.mem_of_getElem? (i := 133) rfl))) (by decide) (t := .int) (t' := (.object "java/lang/String")) (by decide) (by decide)))
  have F_start := F_start.other W23 (Or.inr (slot_ne (Or.inr (hw _ (List.mem_of_getElem? (i := 125) rfl))) (Or.inr (hw _ (List.mem_of_getElem? (i := 133) rfl))) (by decide) (t := .int) (t' := (.object "java/lang/String")) (by decide) (by decide)))
  have F_end := F_end.other W23 (Or.inr (slot_ne (Or.inr (hw _ (List.mem_of_getElem? (i := 127) rfl))) (Or.inr (hw _ (List.mem_of_getElem? (i := 133) rfl))) (by decide) (t := .int) (t' := (.object "java/lang/String")) (by decide) (by decide)))
  have F_type := F_type.other W23 (Or.inr (slot_ne (Or.inr (hw _ (List.mem_of_getElem? (i := 129) rfl))) (Or.inr (hw _ (List.mem_of_getElem? (i := 133) rfl))) (by decide) (t := (.object "java/lang/String")) (t' := (.object "java/lang/String")) (by decide) (by decide)))
  have F_score := F_score.other W23 (Or.inr (slot_ne (Or.inr (hw _ (List.mem_of_getElem? (i := 131) rfl))) (Or.inr (hw _ (List.mem_of_getElem? (i := 133) rfl))) (by decide) (t := (.object "java/util/Optional")) (t' := (.object "java/lang/String")) (by decide) (by decide)))
  have F_strand := F_strand.other W23 (Or.inr (slot_ne (Or.inr (hw _ (List.mem_of_getElem? (i := 135) rfl))) (Or.inr (hw _ (List.mem_of_getElem? (i := 133) rfl))) (by decide) (t := (.object "com/example/tracemark/tracemark/model/Strand")) (t' := (.object "java/lang/String")) (by decide) (by decide)))
  have F_phase := F_phase.other W23 (Or.inr (slot_ne (Or.inr (hw _ (List.mem_of_getElem? (i := 137) rfl))) (Or.inr (hw _ (List.mem_of_getElem? (i := 133) rfl))) (by decide) (t := (.object "java/util/OptionalInt")) (t' := (.object "java/lang/String")) (by decide) (by decide)))
  have F_attributes := F_attributes.other W23 (Or.inr (slot_ne (Or.inr (hw _ (List.mem_of_getElem? (i := 139) rfl))) (Or.inr (hw _ (List.mem_of_getElem? (i := 133) rfl))) (by decide) (t := (.object "java/util/List")) (t' := (.object "java/lang/String")) (by decide) (by decide)))
  have K0 := K0.wr W23 (Or.inl (List.mem_of_getElem? (i := 0) rfl))
  have hk := Nat.le_trans hk (own_wrsz W23)
  have F_group := F_group.same W23
  have N23 := Fr.snoc X23 N22 g_ob
  refine own_goW (fun _ => st23 _) ?_
  show GGW _ _ _ _ _ _ _ T23 (mkF m 108 #[.val (.ref ob), .val (.int i1), .val (.ref a2), .val (.ref a3), .val (.int i4), .val (.int i5), .val (.int i6), .val (.ref a7), .val (.ref a8), .val .null, .val (.ref aN), .val (.ref aI), .val (.ref aL)] [])
  refine own_goW (fun _ => XS.aloadN X23.here hx rfl (hb hby d14_108) rfl rfl) ?_
  show GGW _ _ _ _ _ _ _ T23 (mkF m 109 #[.val (.ref ob), .val (.int i1), .val (.ref a2), .val (.ref a3), .val (.int i4), .val (.int i5), .val (.int i6), .val (.ref a7), .val (.ref a8), .val .null, .val (.ref aN), .val (.ref aI), .val (.ref aL)] [(.ref ob)])
  refine own_goW (fun _ => XS.aload X23.here hx rfl (hb hby d14_109) rfl rfl) ?_
  show GGW _ _ _ _ _ _ _ T23 (mkF m 111 #[.val (.ref ob), .val (.int i1), .val (.ref a2), .val (.ref a3), .val (.int i4), .val (.int i5), .val (.int i6), .val (.ref a7), .val (.ref a8), .val .null, .val (.ref aN), .val (.ref aI), .val (.ref aL)] [(.ref aN), (.ref ob)])
  obtain ⟨T24, h24, X24, e24, W24, st24⟩ := putF X23 hx hZ hown (host := "") (Or.inl (hw _ (List.mem_of_getElem? (i := 134) rfl))) Via.refl e23 F_strand E_ob (Or.inr ⟨(hw _ (List.mem_of_getElem? (i := 135) rfl)), rfl, hnm⟩) (hw _ (List.mem_of_getElem? (i := 1) rfl)) (ty := (.object "com/example/tracemark/tracemark/model/Strand")) (by decide) rfl rfl (g := (mkF m 111 #[.val (.ref ob), .val (.int i1), .val (.ref a2), .val (.ref a3), .val (.int i4), .val (.int i5), .val (.int i6), .val (.ref a7), .val (.ref a8), .val .null, .val (.ref aN), .val (.ref aI), .val (.ref aL)] [(.ref aN), (.ref ob)])) rfl rfl (hb hby d14_111)
  have E_ob := E_ob.wr W24
  have F_line := F_line.other W24 (Or.inr (slot_ne (Or.inr (hw _ (List.mem_of_getElem? (i := 117) rfl))) (Or.inr (hw _ (List.mem_of_getElem? (i := 135) rfl))) (by decide) (t := .int) (t' := (.object "com/example/tracemark/tracemark/model/Strand")) (by decide) (by decide)))
  have F_description := F_description.other W24 (Or.inr (slot_ne (Or.inr (hw _ (List.mem_of_getElem? (i := 119) rfl))) (Or.inr (hw _ (List.mem_of_getElem? (i := 135) rfl))) (by decide) (t := (.object "java/lang/String")) (t' := (.object "com/example/tracemark/tracemark/model/Strand")) (by decide) (by decide)))
  have F_sequenceId := F_sequenceId.other W24 (Or.inr (slot_ne (Or.inr (hw _ (List.mem_of_getElem? (i := 121) rfl))) (Or.inr (hw _ (List.mem_of_getElem? (i := 135) rfl))) (by decide) (t := (.object "java/lang/String")) (t' := (.object "com/example/tracemark/tracemark/model/Strand")) (by decide) (by decide)))
  have F_sequenceIndex := F_sequenceIndex.other W24 (Or.inr (slot_ne (Or.inr (hw _ (List.mem_of_getElem? (i := 123) rfl))) (Or.inr (hw _ (List.mem_of_getElem? (i := 135) rfl))) (by decide) (t := .int) (t' := (.object "com/example/tracemark/tracemark/model/Strand")) (by decide) (by decide)))
  have F_start := F_start.other W24 (Or.inr (slot_ne (Or.inr (hw _ (List.mem_of_getElem? (i := 125) rfl))) (Or.inr (hw _ (List.mem_of_getElem? (i := 135) rfl))) (by decide) (t := .int) (t' := (.object "com/example/tracemark/tracemark/model/Strand")) (by decide) (by decide)))
  have F_end := F_end.other W24 (Or.inr (slot_ne (Or.inr (hw _ (List.mem_of_getElem? (i := 127) rfl))) (Or.inr (hw _ (List.mem_of_getElem? (i := 135) rfl))) (by decide) (t := .int) (t' := (.object "com/example/tracemark/tracemark/model/Strand")) (by decide) (by decide)))
  have F_type := F_type.other W24 (Or.inr (slot_ne (Or.inr (hw _ (List.mem_of_getElem? (i := 129) rfl))) (Or.inr (hw _ (List.mem_of_getElem? (i := 135) rfl))) (by decide) (t := (.object "java/lang/String")) (t' := (.object "com/example/tracemark/tracemark/model/Strand")) (by decide) (by decide)))
  have F_score := F_score.other W24 (Or.inr (slot_ne (Or.inr (hw _ (List.mem_of_getElem? (i := 131) rfl))) (Or.inr (hw _ (List.mem_of_getElem? (i := 135) rfl))) (by decide) (t := (.object "java/util/Optional")) (t' := (.object "com/example/tracemark/tracemark/model/Strand")) (by decide) (by decide)))
  have F_group := F_group.other W24 (Or.inr (slot_ne (Or.inr (hw _ (List.mem_of_getElem? (i := 133) rfl))) (Or.inr (hw _ (List.mem_of_getElem? (i := 135) rfl))) (by decide) (t := (.object "java/lang/String")) (t' := (.object "com/example/tracemark/tracemark/model/Strand")) (by decide) (by decide)))
  have F_phase := F_phase.other W24 (Or.inr (slot_ne (Or.inr (hw _ (List.mem_of_getElem? (i := 137) rfl))) (Or.inr (hw _ (List.mem_of_getElem? (i := 135) rfl))) (by decide) (t := (.object "java/util/OptionalInt")) (t' := (.object "com/example/tracemark/tracemark/model/Strand")) (by decide) (by decide)))
  have F_attributes := F_attributes.other W24 (Or.inr (slot_ne (Or.inr (hw _ (List.mem_of_getElem? (i := 139) rfl))) (Or.inr (hw _ (List.mem_of_getElem? (i := 135) rfl))) (by decide) (t := (.object "java/util/List")) (t' := (.object "com/example/tracemark/tracemark/model/Strand")) (by decide) (by decide)))
  have K0 := K0.wr W24 (Or.inl (List.mem_of_getElem? (i := 0) rfl))
  have hk := Nat.le_trans hk (own_wrsz W24)
  have F_strand := F_strand.same W24
  have N24 := Fr.snoc X24 N23 g_ob
  refine own_goW (fun _ => st24 _) ?_
  show GGW _ _ _ _ _ _ _ T24 (mkF m 114 #[.val (.ref ob), .val (.int i1), .val (.ref a2), .val (.ref a3), .val (.int i4), .val (.int i5), .val (.int i6), .val (.ref a7), .val (.ref a8), .val .null, .val (.ref aN), .val (.ref aI), .val (.ref aL)] [])
  refine own_goW (fun _ => XS.aloadN X24.here hx rfl (hb hby d14_114) rfl rfl) ?_
  show GGW _ _ _ _ _ _ _ T24 (mkF m 115 #[.val (.ref ob), .val (.int i1), .val (.ref a2), .val (.ref a3), .val (.int i4), .val (.int i5), .val (.int i6), .val (.ref a7), .val (.ref a8), .val .null, .val (.ref aN), .val (.ref aI), .val (.ref aL)] [(.ref ob)])
  refine own_goW (fun _ => XS.aload X24.here hx rfl (hb hby d14_115) rfl rfl) ?_
  show GGW _ _ _ _ _ _ _ T24 (mkF m 117 #[.val (.ref ob), .val (.int i1), .val (.ref a2), .val (.ref a3), .val (.int i4), .val (.int i5), .val (.int i6), .val (.ref a7), .val (.ref a8), .val .null, .val (.ref aN), .val (.ref aI), .val (.ref aL)] [(.ref aI), (.ref ob)])
  obtain ⟨T25, h25, X25, e25, W25, st25⟩ := putF X24 hx hZ hown (host := "") (Or.inl (hw _ (List.mem_of_getElem? (i := 136) rfl))) Via.refl e24 F_phase E_ob (Or.inr ⟨(hw _ (List.mem_of_getElem? (i := 137) rfl)), rfl, hnm⟩) (hw _ (List.mem_of_getElem? (i := 1) rfl)) (ty := (.object "java/util/OptionalInt")) (by decide) rfl rfl (g := (mkF m 117 #[.val (.ref ob), .val (.int i1), .val (.ref a2), .val (.ref a3), .val (.int i4), .val (.int i5), .val (.int i6), .val (.ref a7), .val (.ref a8), .val .null, .val (.ref aN), .val (.ref aI), .val (.ref aL)] [(.ref aI), (.ref ob)])) rfl rfl (hb hby d14_117)
  have E_ob := E_ob.wr W25
  have F_line := F_line.other W25 (Or.inr (slot_ne (Or.inr (hw _ (List.mem_of_getElem? (i := 117) rfl))) (Or.inr (hw _ (List.mem_of_getElem? (i := 137) rfl))) (by decide) (t := .int) (t' := (.object "java/util/OptionalInt")) (by decide) (by decide)))
  have F_description := F_description.other W25 (Or.inr (slot_ne (Or.inr (hw _ (List.mem_of_getElem? (i := 119) rfl))) (Or.inr (hw _ (List.mem_of_getElem? (i := 137) rfl))) (by decide) (t := (.object "java/lang/String")) (t' := (.object "java/util/OptionalInt")) (by decide) (by decide)))
  have F_sequenceId := F_sequenceId.other W25 (Or.inr (slot_ne (Or.inr (hw _ (List.mem_of_getElem? (i := 121) rfl))) (Or.inr (hw _ (List.mem_of_getElem? (i := 137) rfl))) (by decide) (t := (.object "java/lang/String")) (t' := (.object "java/util/OptionalInt")) (by decide) (by decide)))
  have F_sequenceIndex := F_sequenceIndex.other W25 (Or.inr (slot_ne (Or.inr (hw _ (List.mem_of_getElem? (i := 123) rfl))) (Or.inr (hw _ (List.mem_of_getElem? (i := 137) rfl))) (by decide) (t := .int) (t' := (.object "java/util/OptionalInt")) (by decide) (by decide)))
  have F_start := F_start.other W25 (Or.inr (slot_ne (Or.inr (hw _ (List.mem_of_getElem? (i := 125) rfl))) (Or.inr (hw _ (List.mem_of_getElem? (i := 137) rfl))) (by decide) (t := .int) (t' := (.object "java/util/OptionalInt")) (by decide) (by decide)))
  have F_end := F_end.other W25 (Or.inr (slot_ne (Or.inr (hw _ (List.mem_of_getElem? (i := 127) rfl))) (Or.inr (hw _ (List.mem_of_getElem? (i := 137) rfl))) (by decide) (t := .int) (t' := (.object "java/util/OptionalInt")) (by decide) (by decide)))
  have F_type := F_type.other W25 (Or.inr (slot_ne (Or.inr (hw _ (List.mem_of_getElem? (i := 129) rfl))) (Or.inr (hw _ (List.mem_of_getElem? (i := 137) rfl))) (by decide) (t := (.object "java/lang/String")) (t' := (.object "java/util/OptionalInt")) (by decide) (by decide)))
  have F_score := F_score.other W25 (Or.inr (slot_ne (Or.inr (hw _ (List.mem_of_getElem? (i := 131) rfl))) (Or.inr (hw _ (List.mem_of_getElem? (i := 137) rfl))) (by decide) (t := (.object "java/util/Optional")) (t' := (.object "java/util/OptionalInt")) (by decide) (by decide)))
  have F_group := F_group.other W25 (Or.inr (slot_ne (Or.inr (hw _ (List.mem_of_getElem? (i := 133) rfl))) (Or.inr (hw _ (List.mem_of_getElem? (i := 137) rfl))) (by decide) (t := (.object "java/lang/String")) (t' := (.object "java/util/OptionalInt")) (by decide) (by decide)))
  have F_strand := F_strand.other W25 (Or.inr (slot_ne (Or.inr (hw _ (List.mem_of_getElem? (i := 135) rfl))) (Or.inr (hw _ (List.mem_of_getElem? (i := 137) rfl))) (by decide) (t := (.object "com/example/tracemark/tracemark/model/Strand")) (t' := (.object "java/util/OptionalInt")) (by decide) (by decide)))
  have F_attributes := F_attributes.other W25 (Or.inr (slot_ne (Or.inr (hw _ (List.mem_of_getElem? (i := 139) rfl))) (Or.inr (hw _ (List.mem_of_getElem? (i := 137) rfl))) (by decide) (t := (.object "java/util/List")) (t' := (.object "java/util/OptionalInt")) (by decide) (by decide)))
  have K0 := K0.wr W25 (Or.inl (List.mem_of_getElem? (i := 0) rfl))
  have hk := Nat.le_trans hk (own_wrsz W25)
  have F_phase := F_phase.same W25
  have N25 := Fr.snoc X25 N24 g_ob
  refine own_goW (fun _ => st25 _) ?_
  show GGW _ _ _ _ _ _ _ T25 (mkF m 120 #[.val (.ref ob), .val (.int i1), .val (.ref a2), .val (.ref a3), .val (.int i4), .val (.int i5), .val (.int i6), .val (.ref a7), .val (.ref a8), .val .null, .val (.ref aN), .val (.ref aI), .val (.ref aL)] [])
  refine own_goW (fun _ => XS.aloadN X25.here hx rfl (hb hby d14_120) rfl rfl) ?_
  show GGW _ _ _ _ _ _ _ T25 (mkF m 121 #[.val (.ref ob), .val (.int i1), .val (.ref a2), .val (.ref a3), .val (.int i4), .val (.int i5), .val (.int i6), .val (.ref a7), .val (.ref a8), .val .null, .val (.ref aN), .val (.ref aI), .val (.ref aL)] [(.ref ob)])
  refine own_goW (fun _ => XS.aload X25.here hx rfl (hb hby d14_121) rfl rfl) ?_
  show GGW _ _ _ _ _ _ _ T25 (mkF m 123 #[.val (.ref ob), .val (.int i1), .val (.ref a2), .val (.ref a3), .val (.int i4), .val (.int i5), .val (.int i6), .val (.ref a7), .val (.ref a8), .val .null, .val (.ref aN), .val (.ref aI), .val (.ref aL)] [(.ref aL), (.ref ob)])
  obtain ⟨T26, h26, X26, e26, W26, st26⟩ := putF X25 hx hZ hown (host := "") (Or.inl (hw _ (List.mem_of_getElem? (i := 138) rfl))) Via.refl e25 F_attributes E_ob (Or.inr ⟨(hw _ (List.mem_of_getElem? (i := 139) rfl)), rfl, hnm⟩) (hw _ (List.mem_of_getElem? (i := 1) rfl)) (ty := (.object "java/util/List")) (by decide) rfl rfl (g := (mkF m 123 #[.val (.ref ob), .val (.int i1), .val (.ref a2), .val (.ref a3), .val (.int i4), .val (.int i5), .val (.int i6), .val (.ref a7), .val (.ref a8), .val .null, .val (.ref aN), .val (.ref aI), .val (.ref aL)] [(.ref aL), (.ref ob)])) rfl rfl (hb hby d14_123)
  have E_ob := E_ob.wr W26
  have F_line := F_line.other W26 (Or.inr (slot_ne (Or.inr (hw _ (List.mem_of_getElem? (i := 117) rfl))) (Or.inr (hw _ (List.mem_of_getElem? (i := 139) rfl))) (by decide) (t := .int) (t' := (.object "java/util/List")) (by decide) (by decide)))
  have F_description := F_description.other W26 (Or.inr (slot_ne (Or.inr (hw _ (List.mem_of_getElem? (i := 119) rfl))) (Or.inr (hw _ (List.mem_of_getElem? (i := 139) rfl))) (by decide) (t := (.object "java/lang/String")) (t' := (.object "java/util/List")) (by decide) (by decide)))
  have F_sequenceId := F_sequenceId.other W26 (Or.inr (slot_ne (Or.inr (hw _ (List.mem_of_getElem? (i := 121) rfl))) (Or.inr (hw _ (List.mem_of_getElem? (i := 139) rfl))) (by decide) (t := (.object "java/lang/String")) (t' := (.object "java/util/List")) (by decide) (by decide)))
  have F_sequenceIndex := F_sequenceIndex.other W26 (Or.inr (slot_ne (Or.inr (hw _ (List.mem_of_getElem? (i := 123) rfl))) (Or.inr (hw _ (List.mem_of_getElem? (i := 139) rfl))) (by decide) (t := .int) (t' := (.object "java/util/List")) (by decide) (by decide)))
  have F_start := F_start.other W26 (Or.inr (slot_ne (Or.inr (hw _ (List.mem_of_getElem? (i := 125) rfl))) (Or.inr (hw _ (List.mem_of_getElem? (i := 139) rfl))) (by decide) (t := .int) (t' := (.object "java/util/List")) (by decide) (by decide)))
  have F_end := F_end.other W26 (Or.inr (slot_ne (Or.inr (hw _ (List.mem_of_getElem? (i := 127) rfl))) (Or.inr (hw _ (List.mem_of_getElem? (i := 139) rfl))) (by decide) (t := .int) (t' := (.object "java/util/List")) (by decide) (by decide)))
  have F_type := F_type.other W26 (Or.inr (slot_ne (Or.inr (hw _ (List.mem_of_getElem? (i := 129) rfl))) (Or.inr (hw _ (List.mem_of_getElem? (i := 139) rfl))) (by decide) (t := (.object "java/lang/String")) (t' := (.object "java/util/List")) (by decide) (by decide)))
  have F_score := F_score.other W26 (Or.inr (slot_ne (Or.inr (hw _ (List.mem_of_getElem? (i := 131) rfl))) (Or.inr (hw _ (List.mem_of_getElem? (i := 139) rfl))) (by decide) (t := (.object "java/util/Optional")) (t' := (.object "java/util/List")) (by decide) (by decide)))
  have F_group := F_group.other W26 (Or.inr (slot_ne (Or.inr (hw _ (List.mem_of_getElem? (i := 133) rfl))) (Or.inr (hw _ (List.mem_of_getElem? (i := 139) rfl))) (by decide) (t := (.object "java/lang/String")) (t' := (.object "java/util/List")) (by decide) (by decide)))
  have F_strand := F_strand.other W26 (Or.inr (slot_ne (Or.inr (hw _ (List.mem_of_getElem? (i := 135) rfl))) (Or.inr (hw _ (List.mem_of_getElem? (i := 139) rfl))) (by decide) (t := (.object "com/example/tracemark/tracemark/model/Strand")) (t' := (.object "java/util/List")) (by decide) (by decide)))
  have F_phase := F_phase.other W26 (Or.inr (slot_ne (Or.inr (hw _ (List.mem_of_getElem? (i := 137) rfl))) (Or.inr (hw _ (List.mem_of_getElem? (i := 139) rfl))) (by decide) (t := (.object "java/util/OptionalInt")) (t' := (.object "java/util/List")) (by decide) (by decide)))
  have K0 := K0.wr W26 (Or.inl (List.mem_of_getElem? (i := 0) rfl))
  have hk := Nat.le_trans hk (own_wrsz W26)
  have F_attributes := F_attributes.same W26
  have N26 := Fr.snoc X26 N25 g_ob
  refine own_goW (fun _ => st26 _) ?_
  show GGW _ _ _ _ _ _ _ T26 (mkF m 126 #[.val (.ref ob), .val (.int i1), .val (.ref a2), .val (.ref a3), .val (.int i4), .val (.int i5), .val (.int i6), .val (.ref a7), .val (.ref a8), .val .null, .val (.ref aN), .val (.ref aI), .val (.ref aL)] [])
  refine own_retVW X26 hS e26 hk hx hlk Bd.returns (hb hby d14_126) (by decide) (by decide) ?_
  show Q14 Z ob i1 a2 a3 i4 i5 i6 a7 a8 aN aI aL h0 n0 (none) T26.heap _
  rw [e26]
  exact ⟨rfl, N26, K0, E_ob, F_start, F_end⟩
theorem pd___Ljava_util_OptionalInt__317 : parseMethodDescriptor "()Ljava/util/OptionalInt;" = some ⟨[], some (.object "java/util/OptionalInt")⟩ := by decide +kernel
theorem pd___Ljava_util_List__589 : parseMethodDescriptor "()Ljava/util/List;" = some ⟨[], some (.object "java/util/List")⟩ := by decide +kernel
theorem pd__ILjava_lang_String_Ljava_lang_String_II_454 : parseMethodDescriptor "(ILjava/lang/String;Ljava/lang/String;IIILjava/lang/String;Ljava/util/Optional;Ljava/lang/String;Lcom/example/tracemark/tracemark/model/Strand;Ljava/util/OptionalInt;Ljava/util/List;)V" = some ⟨[.int, (.object "java/lang/String"), (.object "java/lang/String"), .int, .int, .int, (.object "java/lang/String"), (.object "java/util/Optional"), (.object "java/lang/String"), (.object "com/example/tracemark/tracemark/model/Strand"), (.object "java/util/OptionalInt"), (.object "java/util/List")], none⟩ := by decide +kernel
theorem d11_0 : decode prog_65_method_2_code 0 = .ok (.aload_n 0, 1) := by decide +kernel
theorem d11_1 : decode prog_65_method_2_code 1 = .ok (.iload_n 1, 1) := by decide +kernel
theorem d11_2 : decode prog_65_method_2_code 2 = .ok (.aload_n 2, 1) := by decide +kernel
theorem d11_3 : decode prog_65_method_2_code 3 = .ok (.aload_n 3, 1) := by decide +kernel
theorem d11_4 : decode prog_65_method_2_code 4 = .ok (.iload 4, 2) := by decide +kernel
theorem d11_6 : decode prog_65_method_2_code 6 = .ok (.iload 5, 2) := by decide +kernel
theorem d11_8 : decode prog_65_method_2_code 8 = .ok (.iload 6, 2) := by decide +kernel
theorem d11_10 : decode prog_65_method_2_code 10 = .ok (.aload 7, 2) := by decide +kernel
theorem d11_12 : decode prog_65_method_2_code 12 = .ok (.aload 8, 2) := by decide +kernel
theorem d11_14 : decode prog_65_method_2_code 14 = .ok (.aload 9, 2) := by decide +kernel
theorem d11_16 : decode prog_65_method_2_code 16 = .ok (.getstatic 69, 3) := by decide +kernel
theorem d11_19 : decode prog_65_method_2_code 19 = .ok (.invokestatic 74, 3) := by decide +kernel
theorem d11_22 : decode prog_65_method_2_code 22 = .ok (.invokestatic 80, 3) := by decide +kernel
theorem d11_25 : decode prog_65_method_2_code 25 = .ok (.invokespecial 84, 3) := by decide +kernel
theorem d11_28 : decode prog_65_method_2_code 28 = .ok (.return_, 1) := by decide +kernel
theorem ef_11 (m : MethodId) (x0 : Addr) (x1 : Int32) (x2 : Addr) (x3 : Addr) (x4 : Int32) (x5 : Int32) (x6 : Int32) (x7 : Addr) (x8 : Addr) : entryFrame m #[(.ref x0), (.int x1), (.ref x2), (.ref x3), (.int x4), (.int x5), (.int x6), (.ref x7), (.ref x8), .null] 10 = mkF m 0 #[.val (.ref x0), .val (.int x1), .val (.ref x2), .val (.ref x3), .val (.int x4), .val (.int x5), .val (.int x6), .val (.ref x7), .val (.ref x8), .val .null] [] := by first | (simp [entryFrame, mkF, argsToLocals, Value.category]; done) | rfl
def Q11 (Z : State) (ob : Addr) (i1 : Int32) (a2 : Addr) (a3 : Addr) (i4 : Int32) (i5 : Int32) (i6 : Int32) (a7 : Addr) (a8 : Addr) (aN aI aL : Addr) (h0 : Heap) (n0 : Nat) (v : Option Value) (h : Heap) (L : List Loc) : Prop := v = none ∧ Fr n0 L ∧ Keep h0 h [ob] ∧ Exa Z h ob "com/example/tracemark/tracemark/model/Feature" ∧ Fld Z h ob "com/example/tracemark/tracemark/model/Feature" "start" "I" (.int i5) ∧ Fld Z h ob "com/example/tracemark/tracemark/model/Feature" "end" "I" (.int i6)
set_option maxRecDepth 65536 in
set_option maxHeartbeats 40000000 in
theorem rm11 (l : Launch) (Z : State) (a0 : Array Value) (hw : ∀ d ∈ tables_1, d.before a0 Z = true) (ws : List Jvm.Cond) (ob : Addr) (i1 : Int32) (a2 : Addr) (a3 : Addr) (i4 : Int32) (i5 : Int32) (i6 : Int32) (a7 : Addr) (a8 : Addr) (aN aI aL : Addr) (h0 : Heap) (n0 : Nat) (Z0 : n0 ≤ h0.size) (E_ob : Exa Z h0 ob "com/example/tracemark/tracemark/model/Feature") (F_line : Fld Z h0 ob "com/example/tracemark/tracemark/model/Feature" "line" "I" (.int (0 : Int32))) (F_description : Fld Z h0 ob "com/example/tracemark/tracemark/model/Feature" "description" "Ljava/lang/String;" .null) (F_sequenceId : Fld Z h0 ob "com/example/tracemark/tracemark/model/Feature" "sequenceId" "Ljava/lang/String;" .null) (F_sequenceIndex : Fld Z h0 ob "com/example/tracemark/tracemark/model/Feature" "sequenceIndex" "I" (.int (0 : Int32))) (F_start : Fld Z h0 ob "com/example/tracemark/tracemark/model/Feature" "start" "I" (.int (0 : Int32))) (F_end : Fld Z h0 ob "com/example/tracemark/tracemark/model/Feature" "end" "I" (.int (0 : Int32))) (F_type : Fld Z h0 ob "com/example/tracemark/tracemark/model/Feature" "type" "Ljava/lang/String;" .null) (F_score : Fld Z h0 ob "com/example/tracemark/tracemark/model/Feature" "score" "Ljava/util/Optional;" .null) (F_group : Fld Z h0 ob "com/example/tracemark/tracemark/model/Feature" "group" "Ljava/lang/String;" .null) (F_strand : Fld Z h0 ob "com/example/tracemark/tracemark/model/Feature" "strand" "Lcom/example/tracemark/tracemark/model/Strand;" .null) (F_phase : Fld Z h0 ob "com/example/tracemark/tracemark/model/Feature" "phase" "Ljava/util/OptionalInt;" .null) (F_attributes : Fld Z h0 ob "com/example/tracemark/tracemark/model/Feature" "attributes" "Ljava/util/List;" .null) (g_ob : n0 ≤ ob) (E_l : Exa Z h0 aL "java/util/ImmutableCollections$ListN") (F_l : Fld Z h0 aL "java/util/ImmutableCollections$ListN" "allowNulls" "Z" (.int (0 : Int32))) (S_N : Sta Z h0 "com/example/tracemark/tracemark/model/Strand" "NONE" "Lcom/example/tracemark/tracemark/model/Strand;" (.ref aN)) (S_I : Sta Z h0 "java/util/OptionalInt" "EMPTY" "Ljava/util/OptionalInt;" (.ref aI)) (S_L : Sta Z h0 "java/util/ImmutableCollections" "EMPTY_LIST" "Ljava/util/ImmutableCollections$ListN;" (.ref aL)) :
    own_CTW l Z (⟨"com/example/tracemark/tracemark/model/Feature", "<init>", "(ILjava/lang/String;Ljava/lang/String;IIILjava/lang/String;Ljava/util/Optional;Ljava/lang/String;)V"⟩ : MethodName) prog_65_method_2_code 10 none ws ({ frames := 3, cells := 12, slots := 188, locals := 49 } : Room) #[(.ref ob), (.int i1), (.ref a2), (.ref a3), (.int i4), (.int i5), (.int i6), (.ref a7), (.ref a8), .null] h0 (Q11 Z ob i1 a2 a3 i4 i5 i6 a7 a8 aN aI aL h0 n0) := by
  refine MetFree.of_bodySF (plainFor_of_name pn_com_example_tracemark_tracemark_model_Feature) hisR ?_
  intro p e s m args below meth c s₁ Bd hml0 hP hK
  obtain ⟨rfl, hZ, hh⟩ := hP
  have hx := Bd.exec
  have hby := Bd.bytes
  have hml : c.maxLocals = 10 := hml0
  have hown : s.vm.findClass "com/example/tracemark/tracemark/model/Feature" = some m.cls := findClass_of_methodNamed Bd.named
  have hnm := (name_of_methodNamed Bd.named Bd.method).1
  have hlk : meth.locks = false := BodyLoose.notSynchronized Bd
  have X0 : Stand p l e ({ frames := 3, cells := 12, slots := 188, locals := 49 } : Room) s m #[(.ref ob), (.int i1), (.ref a2), (.ref a3), (.int i4), (.int i5), (.int i6), (.ref a7), (.ref a8), .null] below meth c s₁ [] 0 0 := Stand.of_body Bd
  have e0 : s₁.heap = h0 := by rw [← hh, Bd.state]; rfl
  have N0 := Fr.nil n0
  show GGW p e below s ({ frames := 3, cells := 12, slots := 188, locals := 49 } : Room).cells ({ frames := 3, cells := 12, slots := 188, locals := 49 } : Room).slots (Q11 Z ob i1 a2 a3 i4 i5 i6 a7 a8 aN aI aL h0 n0) s₁ (entryFrame m #[(.ref ob), (.int i1), (.ref a2), (.ref a3), (.int i4), (.int i5), (.int i6), (.ref a7), (.ref a8), .null] 10)
  refine own_inW (ef_11 m ob i1 a2 a3 i4 i5 i6 a7 a8) ?_
  have X0 : Stand p l e ({ frames := 3, cells := 12, slots := 188, locals := 49 } : Room) (s.setVm s.vm) m #[(.ref ob), (.int i1), (.ref a2), (.ref a3), (.int i4), (.int i5), (.int i6), (.ref a7), (.ref a8), .null] below meth c s₁ [] 0 0 := X0
  have hS : s.Since s.vm h0.size := (State.WarmedH.refl s).since _
  have hk : h0.size ≤ h0.size := Nat.le_refl _
  have K0 := Keep.refl h0 [ob]
  show GGW _ _ _ _ _ _ _ s₁ (mkF m 0 #[.val (.ref ob), .val (.int i1), .val (.ref a2), .val (.ref a3), .val (.int i4), .val (.int i5), .val (.int i6), .val (.ref a7), .val (.ref a8), .val .null] [])
  refine own_goW (fun _ => XS.aloadN X0.here hx rfl (hb hby d11_0) rfl rfl) ?_
  show GGW _ _ _ _ _ _ _ s₁ (mkF m 1 #[.val (.ref ob), .val (.int i1), .val (.ref a2), .val (.ref a3), .val (.int i4), .val (.int i5), .val (.int i6), .val (.ref a7), .val (.ref a8), .val .null] [(.ref ob)])
  refine own_goW (fun _ => XS.iloadN X0.here hx rfl (hb hby d11_1) rfl) ?_
  show GGW _ _ _ _ _ _ _ s₁ (mkF m 2 #[.val (.ref ob), .val (.int i1), .val (.ref a2), .val (.ref a3), .val (.int i4), .val (.int i5), .val (.int i6), .val (.ref a7), .val (.ref a8), .val .null] [(.int i1), (.ref ob)])
  refine own_goW (fun _ => XS.aloadN X0.here hx rfl (hb hby d11_2) rfl rfl) ?_
  show GGW _ _ _ _ _ _ _ s₁ (mkF m 3 #[.val (.ref ob), .val (.int i1), .val (.ref a2), .val (.ref a3), .val (.int i4), .val (.int i5), .val (.int i6), .val (.ref a7), .val (.ref a8), .val .null] [(.ref a2), (.int i1), (.ref ob)])
  refine own_goW (fun _ => XS.aloadN X0.here hx rfl (hb hby d11_3) rfl rfl) ?_
  show GGW _ _ _ _ _ _ _ s₁ (mkF m 4 #[.val (.ref ob), .val (.int i1), .val (.ref a2), .val (.ref a3), .val (.int i4), .val (.int i5), .val (.int i6), .val (.ref a7), .val (.ref a8), .val .null] [(.ref a3), (.ref a2), (.int i1), (.ref ob)])
  refine own_goW (fun _ => XS.iload X0.here hx rfl (hb hby d11_4) rfl) ?_
  show GGW _ _ _ _ _ _ _ s₁ (mkF m 6 #[.val (.ref ob), .val (.int i1), .val (.ref a2), .val (.ref a3), .val (.int i4), .val (.int i5), .val (.int i6), .val (.ref a7), .val (.ref a8), .val .null] [(.int i4), (.ref a3), (.ref a2), (.int i1), (.ref ob)])
  refine own_goW (fun _ => XS.iload X0.here hx rfl (hb hby d11_6) rfl) ?_
  show GGW _ _ _ _ _ _ _ s₁ (mkF m 8 #[.val (.ref ob), .val (.int i1), .val (.ref a2), .val (.ref a3), .val (.int i4), .val (.int i5), .val (.int i6), .val (.ref a7), .val (.ref a8), .val .null] [(.int i5), (.int i4), (.ref a3), (.ref a2), (.int i1), (.ref ob)])
  refine own_goW (fun _ => XS.iload X0.here hx rfl (hb hby d11_8) rfl) ?_
  show GGW _ _ _ _ _ _ _ s₁ (mkF m 10 #[.val (.ref ob), .val (.int i1), .val (.ref a2), .val (.ref a3), .val (.int i4), .val (.int i5), .val (.int i6), .val (.ref a7), .val (.ref a8), .val .null] [(.int i6), (.int i5), (.int i4), (.ref a3), (.ref a2), (.int i1), (.ref ob)])
  refine own_goW (fun _ => XS.aload X0.here hx rfl (hb hby d11_10) rfl rfl) ?_
  show GGW _ _ _ _ _ _ _ s₁ (mkF m 12 #[.val (.ref ob), .val (.int i1), .val (.ref a2), .val (.ref a3), .val (.int i4), .val (.int i5), .val (.int i6), .val (.ref a7), .val (.ref a8), .val .null] [(.ref a7), (.int i6), (.int i5), (.int i4), (.ref a3), (.ref a2), (.int i1), (.ref ob)])
  refine own_goW (fun _ => XS.aload X0.here hx rfl (hb hby d11_12) rfl rfl) ?_
  show GGW _ _ _ _ _ _ _ s₁ (mkF m 14 #[.val (.ref ob), .val (.int i1), .val (.ref a2), .val (.ref a3), .val (.int i4), .val (.int i5), .val (.int i6), .val (.ref a7), .val (.ref a8), .val .null] [(.ref a8), (.ref a7), (.int i6), (.int i5), (.int i4), (.ref a3), (.ref a2), (.int i1), (.ref ob)])
  refine own_goW (fun _ => XS.aload X0.here hx rfl (hb hby d11_14) rfl rfl) ?_
  show GGW _ _ _ _ _ _ _ s₁ (mkF m 16 #[.val (.ref ob), .val (.int i1), .val (.ref a2), .val (.ref a3), .val (.int i4), .val (.int i5), .val (.int i6), .val (.ref a7), .val (.ref a8), .val .null] [.null, (.ref a8), (.ref a7), (.int i6), (.int i5), (.int i4), (.ref a3), (.ref a2), (.int i1), (.ref ob)])
  obtain ⟨T1, X1, e1, st1⟩ := getS2 X0 hx hZ hown (host := "") (Or.inl (hw _ (List.mem_of_getElem? (i := 63) rfl))) Via.refl e0 S_N (g := (mkF m 16 #[.val (.ref ob), .val (.int i1), .val (.ref a2), .val (.ref a3), .val (.int i4), .val (.int i5), .val (.int i6), .val (.ref a7), .val (.ref a8), .val .null] [.null, (.ref a8), (.ref a7), (.int i6), (.int i5), (.int i4), (.ref a3), (.ref a2), (.int i1), (.ref ob)])) rfl (hb hby d11_16)
  refine own_goW (fun _ => st1 _) ?_
  show GGW _ _ _ _ _ _ _ T1 (mkF m 19 #[.val (.ref ob), .val (.int i1), .val (.ref a2), .val (.ref a3), .val (.int i4), .val (.int i5), .val (.int i6), .val (.ref a7), .val (.ref a8), .val .null] [(.ref aN), .null, (.ref a8), (.ref a7), (.int i6), (.int i5), (.int i4), (.ref a3), (.ref a2), (.int i1), (.ref ob)])
  refine own_callSW X1 hx hZ (y := (⟨"java/util/OptionalInt", "empty", "()Ljava/util/OptionalInt;"⟩ : MethodName)) 11 hown (hw _ (List.mem_of_getElem? (i := 66) rfl)) (hw _ (List.mem_of_getElem? (i := 67) rfl)) (hw _ (List.mem_of_getElem? (i := 68) rfl)) (hw _ (List.mem_of_getElem? (i := 69) rfl)) (by decide) (argsL := []) (rest := [(.ref aN), .null, (.ref a8), (.ref a7), (.int i6), (.int i5), (.int i4), (.ref a3), (.ref a2), (.int i1), (.ref ob)]) (rm12 l Z a0 hw [] aI h0 n0 Z0 S_I) (by decide) (by decide) (by decide) (by decide) (g := (mkF m 19 #[.val (.ref ob), .val (.int i1), .val (.ref a2), .val (.ref a3), .val (.int i4), .val (.int i5), .val (.int i6), .val (.ref a7), .val (.ref a8), .val .null] [(.ref aN), .null, (.ref a8), (.ref a7), (.int i6), (.int i5), (.int i4), (.ref a3), (.ref a2), (.int i1), (.ref ob)])) rfl (by rw [hml]; rfl) (lenOf pd___Ljava_util_OptionalInt__317 rfl) rfl (by show 2 * 0 + _ ≤ _; exact Nat.le_of_eq rfl) (hb hby d11_19) e1 ?_
  rintro v2 T2 L2 X2 ⟨rfl, N2q, hh2⟩
  have N2 := Fr.app N0 N2q
  show GGW _ _ _ _ _ _ _ T2 (mkF m 22 #[.val (.ref ob), .val (.int i1), .val (.ref a2), .val (.ref a3), .val (.int i4), .val (.int i5), .val (.int i6), .val (.ref a7), .val (.ref a8), .val .null] [(.ref aI), (.ref aN), .null, (.ref a8), (.ref a7), (.int i6), (.int i5), (.int i4), (.ref a3), (.ref a2), (.int i1), (.ref ob)])
  refine own_callSW X2 hx hZ (y := (⟨"java/util/List", "of", "()Ljava/util/List;"⟩ : MethodName)) 12 hown (hw _ (List.mem_of_getElem? (i := 71) rfl)) (hw _ (List.mem_of_getElem? (i := 72) rfl)) (hw _ (List.mem_of_getElem? (i := 73) rfl)) (hw _ (List.mem_of_getElem? (i := 74) rfl)) (by decide) (argsL := []) (rest := [(.ref aI), (.ref aN), .null, (.ref a8), (.ref a7), (.int i6), (.int i5), (.int i4), (.ref a3), (.ref a2), (.int i1), (.ref ob)]) (rm13 l Z a0 hw [] aL h0 n0 Z0 S_L) (by decide) (by decide) (by decide) (by decide) (g := (mkF m 22 #[.val (.ref ob), .val (.int i1), .val (.ref a2), .val (.ref a3), .val (.int i4), .val (.int i5), .val (.int i6), .val (.ref a7), .val (.ref a8), .val .null] [(.ref aI), (.ref aN), .null, (.ref a8), (.ref a7), (.int i6), (.int i5), (.int i4), (.ref a3), (.ref a2), (.int i1), (.ref ob)])) rfl (by rw [hml]; rfl) (lenOf pd___Ljava_util_List__589 rfl) rfl (by show 2 * 0 + _ ≤ _; exact Nat.le_of_eq rfl) (hb hby d11_22) hh2 ?_
  rintro v3 T3 L3 X3 ⟨rfl, N3q, hh3⟩
  have N3 := Fr.app N2 N3q
  show GGW _ _ _ _ _ _ _ T3 (mkF m 25 #[.val (.ref ob), .val (.int i1), .val (.ref a2), .val (.ref a3), .val (.int i4), .val (.int i5), .val (.int i6), .val (.ref a7), .val (.ref a8), .val .null] [(.ref aL), (.ref aI), (.ref aN), .null, (.ref a8), (.ref a7), (.int i6), (.int i5), (.int i4), (.ref a3), (.ref a2), (.int i1), (.ref ob)])
  refine own_callIX X3 hx hZ hS hk (y := (⟨"com/example/tracemark/tracemark/model/Feature", "<init>", "(ILjava/lang/String;Ljava/lang/String;IIILjava/lang/String;Ljava/util/Optional;Ljava/lang/String;Lcom/example/tracemark/tracemark/model/Strand;Ljava/util/OptionalInt;Ljava/util/List;)V"⟩ : MethodName)) 0 rfl hown (hw _ (List.mem_of_getElem? (i := 77) rfl)) (hw _ (List.mem_of_getElem? (i := 78) rfl)) (hw _ (List.mem_of_getElem? (i := 2) rfl)) (hw _ (List.mem_of_getElem? (i := 79) rfl)) (by decide) (a := ob) (argsL := [(.int i1), (.ref a2), (.ref a3), (.int i4), (.int i5), (.int i6), (.ref a7), (.ref a8), .null, (.ref aN), (.ref aI), (.ref aL)]) (rest := []) (rm14 l Z a0 hw [] ob i1 a2 a3 i4 i5 i6 a7 a8 aN aI aL h0 n0 Z0 E_ob F_line F_description F_sequenceId F_sequenceIndex F_start F_end F_type F_score F_group F_strand F_phase F_attributes g_ob E_l F_l) (by decide) (by decide) (by decide) (by decide) (g := (mkF m 25 #[.val (.ref ob), .val (.int i1), .val (.ref a2), .val (.ref a3), .val (.int i4), .val (.int i5), .val (.int i6), .val (.ref a7), .val (.ref a8), .val .null] [(.ref aL), (.ref aI), (.ref aN), .null, (.ref a8), (.ref a7), (.int i6), (.int i5), (.int i4), (.ref a3), (.ref a2), (.int i1), (.ref ob)])) rfl (by rw [hml]; rfl) (lenOf pd__ILjava_lang_String_Ljava_lang_String_II_454 rfl) rfl (by show 2 * 0 + _ ≤ _; exact Nat.le_of_eq rfl) (hb hby d11_25) hh3 ?_
  rintro v4 T4 L4 k4 X4 hS hk hZ hown ⟨rfl, N4q, Kq4, Eq4, Fs4, Fe4⟩
  have N4 := Fr.app N3 N4q
  have K0 := K0.trans Kq4 (allS (Or.inl (List.mem_of_getElem? (i := 0) rfl)) all0)
  show GGW _ _ _ _ _ _ _ T4 (mkF m 28 #[.val (.ref ob), .val (.int i1), .val (.ref a2), .val (.ref a3), .val (.int i4), .val (.int i5), .val (.int i6), .val (.ref a7), .val (.ref a8), .val .null] [])
  refine own_retVW X4 hS rfl hk hx hlk Bd.returns (hb hby d11_28) (by decide) (by decide) ?_
  show Q11 Z ob i1 a2 a3 i4 i5 i6 a7 a8 aN aI aL h0 n0 (none) T4.heap _
  exact ⟨rfl, N4, K0, Eq4, Fs4, Fe4⟩
theorem d20_0 : decode prog_65_method_4_code 0 = .ok (.aload_n 0, 1) := by decide +kernel
theorem d20_1 : decode prog_65_method_4_code 1 = .ok (.getfield 45, 3) := by decide +kernel
theorem d20_4 : decode prog_65_method_4_code 4 = .ok (.ifCond .ne 14, 3) := by decide +kernel
theorem d20_7 : decode prog_65_method_4_code 7 = .ok (.aload_n 0, 1) := by decide +kernel
theorem d20_8 : decode prog_65_method_4_code 8 = .ok (.getfield 48, 3) := by decide +kernel
theorem d20_11 : decode prog_65_method_4_code 11 = .ok (.ifCond .ne 7, 3) := by decide +kernel
theorem d20_14 : decode prog_65_method_4_code 14 = .ok (.iconst 1, 1) := by decide +kernel
theorem d20_15 : decode prog_65_method_4_code 15 = .ok (.goto 4, 3) := by decide +kernel
theorem d20_18 : decode prog_65_method_4_code 18 = .ok (.iconst 0, 1) := by decide +kernel
theorem d20_19 : decode prog_65_method_4_code 19 = .ok (.ireturn, 1) := by decide +kernel
theorem ef_20 (m : MethodId) (x0 : Addr) : entryFrame m #[(.ref x0)] 1 = mkF m 0 #[.val (.ref x0)] [] := by first | (simp [entryFrame, mkF, argsToLocals, Value.category]; done) | rfl
def Q20 (Z : State) (a1 : Addr) (i5 i6 : Int32) (h0 : Heap) (n0 : Nat) (v : Option Value) (h : Heap) (L : List Loc) : Prop := ∃ r, v = some (.int r) ∧ ((r = 1 ∧ i5 = 0 ∧ i6 = 0) ∨ (r = 0 ∧ ¬ (i5 = 0 ∧ i6 = 0))) ∧ Fr n0 L ∧ h = h0
set_option maxRecDepth 65536 in
set_option maxHeartbeats 40000000 in
theorem rm20 (l : Launch) (Z : State) (a0 : Array Value) (hw : ∀ d ∈ tables_1, d.before a0 Z = true) (ws : List Jvm.Cond) (a1 : Addr) (i5 i6 : Int32) (h0 : Heap) (n0 : Nat) (Z0 : n0 ≤ h0.size) (F_s : Fld Z h0 a1 "com/example/tracemark/tracemark/model/Feature" "start" "I" (.int i5)) (F_e : Fld Z h0 a1 "com/example/tracemark/tracemark/model/Feature" "end" "I" (.int i6)) :
    own_CT l Z (⟨"com/example/tracemark/tracemark/model/Feature", "nonPositional", "()Z"⟩ : MethodName) prog_65_method_4_code 1 (some .boolean) ws ({ frames := 0, cells := 0, slots := 0, locals := 0 } : Room) #[(.ref a1)] h0 (Q20 Z a1 i5 i6 h0 n0) := by
  refine MetFree.of_bodySF (plainFor_of_name pn_com_example_tracemark_tracemark_model_Feature) hisR ?_
  intro p e s m args below meth c s₁ Bd hml0 hP hK
  obtain ⟨rfl, hZ, hh⟩ := hP
  have hx := Bd.exec
  have hby := Bd.bytes
  have hml : c.maxLocals = 1 := hml0
  have hown : s.vm.findClass "com/example/tracemark/tracemark/model/Feature" = some m.cls := findClass_of_methodNamed Bd.named
  have hnm := (name_of_methodNamed Bd.named Bd.method).1
  have hlk : meth.locks = false := BodyLoose.notSynchronized Bd
  have X0 : Stand p l e ({ frames := 0, cells := 0, slots := 0, locals := 0 } : Room) s m #[(.ref a1)] below meth c s₁ [] 0 0 := Stand.of_body Bd
  have e0 : s₁.heap = h0 := by rw [← hh, Bd.state]; rfl
  have N0 := Fr.nil n0
  show GG p e below s ({ frames := 0, cells := 0, slots := 0, locals := 0 } : Room).cells ({ frames := 0, cells := 0, slots := 0, locals := 0 } : Room).slots (Q20 Z a1 i5 i6 h0 n0) s₁ (entryFrame m #[(.ref a1)] 1)
  refine own_in (ef_20 m a1) ?_
  show GG _ _ _ _ _ _ _ s₁ (mkF m 0 #[.val (.ref a1)] [])
  refine own_go (fun _ => XS.aloadN X0.here hx rfl (hb hby d20_0) rfl rfl) ?_
  show GG _ _ _ _ _ _ _ s₁ (mkF m 1 #[.val (.ref a1)] [(.ref a1)])
  obtain ⟨T1, X1, e1, st1⟩ := getF X0 hx hZ hown (host := "") (Or.inl (hw _ (List.mem_of_getElem? (i := 124) rfl))) Via.refl e0 F_s (g := (mkF m 1 #[.val (.ref a1)] [(.ref a1)])) rfl rfl (hb hby d20_1)
  refine own_go (fun _ => st1 _) ?_
  show GG _ _ _ _ _ _ _ T1 (mkF m 4 #[.val (.ref a1)] [(.int i5)])
  by_cases hc4 : i5 = (0 : Int32)
  · skip
    refine own_go (fun _ => XS.ifNo X1.here hx rfl (hb hby d20_4) rfl ((if0 _ _).trans (teq hc4).2)) ?_
    show GG _ _ _ _ _ _ _ T1 (mkF m 7 #[.val (.ref a1)] [])
    refine own_go (fun _ => XS.aloadN X1.here hx rfl (hb hby d20_7) rfl rfl) ?_
    show GG _ _ _ _ _ _ _ T1 (mkF m 8 #[.val (.ref a1)] [(.ref a1)])
    obtain ⟨T2, X2, e2, st2⟩ := getF X1 hx hZ hown (host := "") (Or.inl (hw _ (List.mem_of_getElem? (i := 126) rfl))) Via.refl e1 F_e (g := (mkF m 8 #[.val (.ref a1)] [(.ref a1)])) rfl rfl (hb hby d20_8)
    refine own_go (fun _ => st2 _) ?_
    show GG _ _ _ _ _ _ _ T2 (mkF m 11 #[.val (.ref a1)] [(.int i6)])
    by_cases hc11 : i6 = (0 : Int32)
    · skip
      refine own_go (fun _ => XS.ifNo X2.here hx rfl (hb hby d20_11) rfl ((if0 _ _).trans (teq hc11).2)) ?_
      show GG _ _ _ _ _ _ _ T2 (mkF m 14 #[.val (.ref a1)] [])
      refine own_go (fun _ => XS.iconst X2.here hx rfl (hb hby d20_14)) ?_
      show GG _ _ _ _ _ _ _ T2 (mkF m 15 #[.val (.ref a1)] [(.int (1 : Int32))])
      refine own_go (fun _ => XS.goto X2.here hx rfl (pc0 := 15) (pc' := 19) rfl (hb hby d20_15) (by decide) (by decide)) ?_
      show GG _ _ _ _ _ _ _ T2 (mkF m 19 #[.val (.ref a1)] [(.int (1 : Int32))])
      refine own_ret X2 hx hlk (t := .boolean) (w := (.int (1 : Int32))) Bd.returns rfl (Or.inl ⟨rfl, by simp, _, rfl⟩) (hb hby d20_19) (by decide) (by decide) ?_
      show Q20 Z a1 i5 i6 h0 n0 (some (.int (1 : Int32))) T2.heap _
      rw [e2]
      exact ⟨_, rfl, Or.inl ⟨rfl, hc4, hc11⟩, N0, rfl⟩
    · skip
      refine own_go (fun _ => XS.ifYes X2.here hx rfl (pc0 := 11) (pc' := 18) rfl (hb hby d20_11) rfl ((if0 _ _).trans (feq hc11).2) (by decide) (by decide)) ?_
      show GG _ _ _ _ _ _ _ T2 (mkF m 18 #[.val (.ref a1)] [])
      refine own_go (fun _ => XS.iconst X2.here hx rfl (hb hby d20_18)) ?_
      show GG _ _ _ _ _ _ _ T2 (mkF m 19 #[.val (.ref a1)] [(.int (0 : Int32))])
      refine own_ret X2 hx hlk (t := .boolean) (w := (.int (0 : Int32))) Bd.returns rfl (Or.inl ⟨rfl, by simp, _, rfl⟩) (hb hby d20_19) (by decide) (by decide) ?_
      show Q20 Z a1 i5 i6 h0 n0 (some (.int (0 : Int32))) T2.heap _
      rw [e2]
      exact ⟨_, rfl, Or.inr ⟨rfl, fun q => hc11 q.2⟩, N0, rfl⟩
  · skip
    refine own_go (fun _ => XS.ifYes X1.here hx rfl (pc0 := 4) (pc' := 18) rfl (hb hby d20_4) rfl ((if0 _ _).trans (feq hc4).2) (by decide) (by decide)) ?_
    show GG _ _ _ _ _ _ _ T1 (mkF m 18 #[.val (.ref a1)] [])
    refine own_go (fun _ => XS.iconst X1.here hx rfl (hb hby d20_18)) ?_
    show GG _ _ _ _ _ _ _ T1 (mkF m 19 #[.val (.ref a1)] [(.int (0 : Int32))])
    refine own_ret X1 hx hlk (t := .boolean) (w := (.int (0 : Int32))) Bd.returns rfl (Or.inl ⟨rfl, by simp, _, rfl⟩) (hb hby d20_19) (by decide) (by decide) ?_
    show Q20 Z a1 i5 i6 h0 n0 (some (.int (0 : Int32))) T1.heap _
    rw [e1]
    exact ⟨_, rfl, Or.inr ⟨rfl, fun q => hc4 q.1⟩, N0, rfl⟩
theorem pd__Ljava_lang_String__Ljava_util_Optional__717 : parseMethodDescriptor "(Ljava/lang/String;)Ljava/util/Optional;" = some ⟨[(.object "java/lang/String")], some (.object "java/util/Optional")⟩ := by decide +kernel
theorem pd__ILjava_lang_String_Ljava_lang_String_II_201 : parseMethodDescriptor "(ILjava/lang/String;Ljava/lang/String;IIILjava/lang/String;Ljava/util/Optional;Ljava/lang/String;)V" = some ⟨[.int, (.object "java/lang/String"), (.object "java/lang/String"), .int, .int, .int, (.object "java/lang/String"), (.object "java/util/Optional"), (.object "java/lang/String")], none⟩ := by decide +kernel
theorem pn_com_example_tracemark_tracemark_model_FeatureNonPositionalPinLaw : plainName "com/example/tracemark/tracemark/model/FeatureNonPositionalPinLaw" = true := by first | (simp [plainName, overriddenIn]; done) | decide +kernel
theorem ef_0 (m : MethodId) (x0 : Int32) (x1 : Int32) (x2 : Int32) (x3 : Int32) (x4 : Int32) : entryFrame m #[(.int x0), (.int x1), (.int x2), (.int x3), (.int x4)] maxLocals = mkF m 0 #[.val (.int x0), .val (.int x1), .val (.int x2), .val (.int x3), .val (.int x4), .unset, .unset, .unset, .unset] [] := by first | (simp [entryFrame, mkF, argsToLocals, Value.category, maxLocals]; done) | rfl
def Q0 (Z : State) (p0 : Int32) (p1 : Int32) (p2 : Int32) (p3 : Int32) (p4 : Int32) (cs : Int32) (wD wO aN aI aL : Addr) (h0 : Heap) (n0 : Nat) (v : Option Value) (h : Heap) (L : List Loc) : Prop := v = some (.int 1) ∧ Fr n0 L
set_option maxRecDepth 65536 in
set_option maxHeartbeats 40000000 in
theorem rm0 (l : Launch) (Z : State) (a0 : Array Value) (hw : ∀ d ∈ tables_1, d.before a0 Z = true) (ws : List Jvm.Cond) (p0 : Int32) (p1 : Int32) (p2 : Int32) (p3 : Int32) (p4 : Int32) (cs : Int32) (wD wO aN aI aL : Addr) (h0 : Heap) (n0 : Nat) (Z0 : n0 ≤ h0.size) (O0 : Old Z n0 h0) (hcs : ¬ (cs = (0 : Int32))) (S_C : Sta Z Z.heap "java/lang/String" "COMPACT_STRINGS" "Z" (.int cs)) (S_D : Sta Z Z.heap "java/util/OptionalDouble" "EMPTY" "Ljava/util/OptionalDouble;" (.ref wD)) (S_O : Sta Z Z.heap "java/util/Optional" "EMPTY" "Ljava/util/Optional;" (.ref wO)) (S_N : Sta Z Z.heap "com/example/tracemark/tracemark/model/Strand" "NONE" "Lcom/example/tracemark/tracemark/model/Strand;" (.ref aN)) (S_I : Sta Z Z.heap "java/util/OptionalInt" "EMPTY" "Ljava/util/OptionalInt;" (.ref aI)) (S_L : Sta Z Z.heap "java/util/ImmutableCollections" "EMPTY_LIST" "Ljava/util/ImmutableCollections$ListN;" (.ref aL)) (E_D : Exa Z Z.heap wD "java/util/OptionalDouble") (F_D : Fld Z Z.heap wD "java/util/OptionalDouble" "isPresent" "Z" (.int (0 : Int32))) (E_l : Exa Z Z.heap aL "java/util/ImmutableCollections$ListN") (F_l : Fld Z Z.heap aL "java/util/ImmutableCollections$ListN" "allowNulls" "Z" (.int (0 : Int32))) :
    own_CTL l Z x code maxLocals ret ws room_1 #[(.int p0), (.int p1), (.int p2), (.int p3), (.int p4)] h0 (Q0 Z p0 p1 p2 p3 p4 cs wD wO aN aI aL h0 n0) := by
  refine MetFree.of_bodySF (plainFor_of_name pn_com_example_tracemark_tracemark_model_FeatureNonPositionalPinLaw) hisR ?_
  intro p e s m args below meth c s₁ Bd hml0 hP hK
  obtain ⟨rfl, hZ, hh, hCH⟩ := hP
  have hx := Bd.exec
  have hby := Bd.bytes
  have hml : c.maxLocals = 9 := hml0
  have hown : s.vm.findClass "com/example/tracemark/tracemark/model/FeatureNonPositionalPinLaw" = some m.cls := findClass_of_methodNamed Bd.named
  have hnm := (name_of_methodNamed Bd.named Bd.method).1
  have hlk : meth.locks = false := BodyLoose.notSynchronized Bd
  have X0 : Stand p l e room_1 s m #[(.int p0), (.int p1), (.int p2), (.int p3), (.int p4)] below meth c s₁ [] 0 0 := Stand.of_body Bd
  have e0 : s₁.heap = h0 := by rw [← hh, Bd.state]; rfl
  have N0 := Fr.nil n0
  show GGW p e below s room_1.cells room_1.slots (Q0 Z p0 p1 p2 p3 p4 cs wD wO aN aI aL h0 n0) s₁ (entryFrame m #[(.int p0), (.int p1), (.int p2), (.int p3), (.int p4)] maxLocals)
  refine own_inW (ef_0 m p0 p1 p2 p3 p4) ?_
  have X0 : Stand p l e room_1 (s.setVm s.vm) m #[(.int p0), (.int p1), (.int p2), (.int p3), (.int p4)] below meth c s₁ [] 0 0 := X0
  have hS : s.Since s.vm h0.size := (State.WarmedH.refl s).since _
  have hk : h0.size ≤ h0.size := Nat.le_refl _
  have K0 := Keep.refl h0 []
  show GGW _ _ _ _ _ _ _ s₁ (mkF m 0 #[.val (.int p0), .val (.int p1), .val (.int p2), .val (.int p3), .val (.int p4), .unset, .unset, .unset, .unset] [])
  refine own_goW (fun _ => XS.iload X0.here hx rfl (hb hby at_0) rfl) ?_
  show GGW _ _ _ _ _ _ _ s₁ (mkF m 2 #[.val (.int p0), .val (.int p1), .val (.int p2), .val (.int p3), .val (.int p4), .unset, .unset, .unset, .unset] [(.int p4)])
  refine own_goW (fun _ => XS.iconst X0.here hx rfl (hb hby at_2)) ?_
  show GGW _ _ _ _ _ _ _ s₁ (mkF m 3 #[.val (.int p0), .val (.int p1), .val (.int p2), .val (.int p3), .val (.int p4), .unset, .unset, .unset, .unset] [(.int (1 : Int32)), (.int p4)])
  refine own_goW (fun _ => XS.iand X0.here hx rfl (hb hby at_3) rfl) ?_
  show GGW _ _ _ _ _ _ _ s₁ (mkF m 4 #[.val (.int p0), .val (.int p1), .val (.int p2), .val (.int p3), .val (.int p4), .unset, .unset, .unset, .unset] [(.int (p4 &&& (1 : Int32)))])
  refine own_joinW (g' := (mkF m 12 #[.val (.int p0), .val (.int p1), .val (.int p2), .val (.int p3), .val (.int p4), .unset, .unset, .unset, .unset] [(.int (if (p4 &&& (1 : Int32)) = (0 : Int32) then p2 else (0 : Int32)))])) (fun J4 => ?_) ?_
  · by_cases hc4 : (p4 &&& (1 : Int32)) = (0 : Int32)
    · skip
      refine own_goW (fun _ => XS.ifYes X0.here hx rfl (pc0 := 4) (pc' := 11) rfl (hb hby at_4) rfl ((if0 _ _).trans (teq hc4).1) (by decide) (by decide)) ?_
      show GGW _ _ _ _ _ _ _ s₁ (mkF m 11 #[.val (.int p0), .val (.int p1), .val (.int p2), .val (.int p3), .val (.int p4), .unset, .unset, .unset, .unset] [])
      refine own_goW (fun _ => XS.iloadN X0.here hx rfl (hb hby at_11) rfl) ?_
      show GGW _ _ _ _ _ _ _ s₁ (mkF m 12 #[.val (.int p0), .val (.int p1), .val (.int p2), .val (.int p3), .val (.int p4), .unset, .unset, .unset, .unset] [(.int p2)])
      simp only [if_pos hc4] at J4
      exact J4
    · skip
      refine own_goW (fun _ => XS.ifNo X0.here hx rfl (hb hby at_4) rfl ((if0 _ _).trans (feq hc4).1)) ?_
      show GGW _ _ _ _ _ _ _ s₁ (mkF m 7 #[.val (.int p0), .val (.int p1), .val (.int p2), .val (.int p3), .val (.int p4), .unset, .unset, .unset, .unset] [])
      refine own_goW (fun _ => XS.iconst X0.here hx rfl (hb hby at_7)) ?_
      show GGW _ _ _ _ _ _ _ s₁ (mkF m 8 #[.val (.int p0), .val (.int p1), .val (.int p2), .val (.int p3), .val (.int p4), .unset, .unset, .unset, .unset] [(.int (0 : Int32))])
      refine own_goW (fun _ => XS.goto X0.here hx rfl (pc0 := 8) (pc' := 12) rfl (hb hby at_8) (by decide) (by decide)) ?_
      show GGW _ _ _ _ _ _ _ s₁ (mkF m 12 #[.val (.int p0), .val (.int p1), .val (.int p2), .val (.int p3), .val (.int p4), .unset, .unset, .unset, .unset] [(.int (0 : Int32))])
      simp only [if_neg hc4] at J4
      exact J4
  show GGW _ _ _ _ _ _ _ s₁ (mkF m 12 #[.val (.int p0), .val (.int p1), .val (.int p2), .val (.int p3), .val (.int p4), .unset, .unset, .unset, .unset] [(.int (if (p4 &&& (1 : Int32)) = (0 : Int32) then p2 else (0 : Int32)))])
  generalize hx1 : (if (p4 &&& (1 : Int32)) = (0 : Int32) then p2 else (0 : Int32)) = x1
  refine own_goW (fun _ => XS.istore X0.here hx rfl (hb hby at_12) rfl (l' := #[.val (.int p0), .val (.int p1), .val (.int p2), .val (.int p3), .val (.int p4), .val (.int x1), .unset, .unset, .unset]) rfl) ?_
  show GGW _ _ _ _ _ _ _ s₁ (mkF m 14 #[.val (.int p0), .val (.int p1), .val (.int p2), .val (.int p3), .val (.int p4), .val (.int x1), .unset, .unset, .unset] [])
  refine own_goW (fun _ => XS.iload X0.here hx rfl (hb hby at_14) rfl) ?_
  show GGW _ _ _ _ _ _ _ s₁ (mkF m 16 #[.val (.int p0), .val (.int p1), .val (.int p2), .val (.int p3), .val (.int p4), .val (.int x1), .unset, .unset, .unset] [(.int p4)])
  refine own_goW (fun _ => XS.iconst X0.here hx rfl (hb hby at_16)) ?_
  show GGW _ _ _ _ _ _ _ s₁ (mkF m 17 #[.val (.int p0), .val (.int p1), .val (.int p2), .val (.int p3), .val (.int p4), .val (.int x1), .unset, .unset, .unset] [(.int (2 : Int32)), (.int p4)])
  refine own_goW (fun _ => XS.iand X0.here hx rfl (hb hby at_17) rfl) ?_
  show GGW _ _ _ _ _ _ _ s₁ (mkF m 18 #[.val (.int p0), .val (.int p1), .val (.int p2), .val (.int p3), .val (.int p4), .val (.int x1), .unset, .unset, .unset] [(.int (p4 &&& (2 : Int32)))])
  refine own_joinW (g' := (mkF m 26 #[.val (.int p0), .val (.int p1), .val (.int p2), .val (.int p3), .val (.int p4), .val (.int x1), .unset, .unset, .unset] [(.int (if (p4 &&& (2 : Int32)) = (0 : Int32) then p3 else (0 : Int32)))])) (fun J18 => ?_) ?_
  · by_cases hc18 : (p4 &&& (2 : Int32)) = (0 : Int32)
    · skip
      refine own_goW (fun _ => XS.ifYes X0.here hx rfl (pc0 := 18) (pc' := 25) rfl (hb hby at_18) rfl ((if0 _ _).trans (teq hc18).1) (by decide) (by decide)) ?_
      show GGW _ _ _ _ _ _ _ s₁ (mkF m 25 #[.val (.int p0), .val (.int p1), .val (.int p2), .val (.int p3), .val (.int p4), .val (.int x1), .unset, .unset, .unset] [])
      refine own_goW (fun _ => XS.iloadN X0.here hx rfl (hb hby at_25) rfl) ?_
      show GGW _ _ _ _ _ _ _ s₁ (mkF m 26 #[.val (.int p0), .val (.int p1), .val (.int p2), .val (.int p3), .val (.int p4), .val (.int x1), .unset, .unset, .unset] [(.int p3)])
      simp only [if_pos hc18] at J18
      exact J18
    · skip
      refine own_goW (fun _ => XS.ifNo X0.here hx rfl (hb hby at_18) rfl ((if0 _ _).trans (feq hc18).1)) ?_
      show GGW _ _ _ _ _ _ _ s₁ (mkF m 21 #[.val (.int p0), .val (.int p1), .val (.int p2), .val (.int p3), .val (.int p4), .val (.int x1), .unset, .unset, .unset] [])
      refine own_goW (fun _ => XS.iconst X0.here hx rfl (hb hby at_21)) ?_
      show GGW _ _ _ _ _ _ _ s₁ (mkF m 22 #[.val (.int p0), .val (.int p1), .val (.int p2), .val (.int p3), .val (.int p4), .val (.int x1), .unset, .unset, .unset] [(.int (0 : Int32))])
      refine own_goW (fun _ => XS.goto X0.here hx rfl (pc0 := 22) (pc' := 26) rfl (hb hby at_22) (by decide) (by decide)) ?_
      show GGW _ _ _ _ _ _ _ s₁ (mkF m 26 #[.val (.int p0), .val (.int p1), .val (.int p2), .val (.int p3), .val (.int p4), .val (.int x1), .unset, .unset, .unset] [(.int (0 : Int32))])
      simp only [if_neg hc18] at J18
      exact J18
  show GGW _ _ _ _ _ _ _ s₁ (mkF m 26 #[.val (.int p0), .val (.int p1), .val (.int p2), .val (.int p3), .val (.int p4), .val (.int x1), .unset, .unset, .unset] [(.int (if (p4 &&& (2 : Int32)) = (0 : Int32) then p3 else (0 : Int32)))])
  generalize hx2 : (if (p4 &&& (2 : Int32)) = (0 : Int32) then p3 else (0 : Int32)) = x2
  refine own_goW (fun _ => XS.istore X0.here hx rfl (hb hby at_26) rfl (l' := #[.val (.int p0), .val (.int p1), .val (.int p2), .val (.int p3), .val (.int p4), .val (.int x1), .val (.int x2), .unset, .unset]) rfl) ?_
  show GGW _ _ _ _ _ _ _ s₁ (mkF m 28 #[.val (.int p0), .val (.int p1), .val (.int p2), .val (.int p3), .val (.int p4), .val (.int x1), .val (.int x2), .unset, .unset] [])
  obtain ⟨T3, h3, X3, e3, E3, A3, D3, -, st3⟩ := newO X0 hx hZ hown (hw _ (List.mem_of_getElem? (i := 0) rfl)) (hw _ (List.mem_of_getElem? (i := 1) rfl)) (hw _ (List.mem_of_getElem? (i := 2) rfl)) e0 (g := (mkF m 28 #[.val (.int p0), .val (.int p1), .val (.int p2), .val (.int p3), .val (.int p4), .val (.int x1), .val (.int x2), .unset, .unset] [])) rfl (hb hby at_28) (by decide) (by decide)
  obtain ⟨ob3, g3⟩ : ∃ z, z = h0.size := ⟨_, rfl⟩
  rw [← g3] at A3 D3 st3
  have sz_ob3 : h0.size ≤ ob3 := Nat.le_trans K0.1 (Nat.le_of_eq g3.symm)
  have g_ob3 : n0 ≤ ob3 := Nat.le_trans Z0 sz_ob3
  have hk := Nat.le_trans hk E3.1
  have K0 := K0.ext E3
  have O0 := O0.ext E3
  have hCH := CHv.ext E3 hCH
  have E_ob3 := A3
  have F_line_ob3 : Fld Z h3 ob3 "com/example/tracemark/tracemark/model/Feature" "line" "I" (.int (0 : Int32)) := D3 (Or.inr (hw _ (List.mem_of_getElem? (i := 117) rfl))) (ty := .int) (by decide)
  have F_description_ob3 : Fld Z h3 ob3 "com/example/tracemark/tracemark/model/Feature" "description" "Ljava/lang/String;" .null := D3 (Or.inr (hw _ (List.mem_of_getElem? (i := 119) rfl))) (ty := (.object "java/lang/String")) (by decide)
  have F_sequenceId_ob3 : Fld Z h3 ob3 "com/example/tracemark/tracemark/model/Feature" "sequenceId" "Ljava/lang/String;" .null := D3 (Or.inr (hw _ (List.mem_of_getElem? (i := 121) rfl))) (ty := (.object "java/lang/String")) (by decide)
  have F_sequenceIndex_ob3 : Fld Z h3 ob3 "com/example/tracemark/tracemark/model/Feature" "sequenceIndex" "I" (.int (0 : Int32)) := D3 (Or.inr (hw _ (List.mem_of_getElem? (i := 123) rfl))) (ty := .int) (by decide)
  have F_start_ob3 : Fld Z h3 ob3 "com/example/tracemark/tracemark/model/Feature" "start" "I" (.int (0 : Int32)) := D3 (Or.inr (hw _ (List.mem_of_getElem? (i := 125) rfl))) (ty := .int) (by decide)
  have F_end_ob3 : Fld Z h3 ob3 "com/example/tracemark/tracemark/model/Feature" "end" "I" (.int (0 : Int32)) := D3 (Or.inr (hw _ (List.mem_of_getElem? (i := 127) rfl))) (ty := .int) (by decide)
  have F_type_ob3 : Fld Z h3 ob3 "com/example/tracemark/tracemark/model/Feature" "type" "Ljava/lang/String;" .null := D3 (Or.inr (hw _ (List.mem_of_getElem? (i := 129) rfl))) (ty := (.object "java/lang/String")) (by decide)
  have F_score_ob3 : Fld Z h3 ob3 "com/example/tracemark/tracemark/model/Feature" "score" "Ljava/util/Optional;" .null := D3 (Or.inr (hw _ (List.mem_of_getElem? (i := 131) rfl))) (ty := (.object "java/util/Optional")) (by decide)
  have F_group_ob3 : Fld Z h3 ob3 "com/example/tracemark/tracemark/model/Feature" "group" "Ljava/lang/String;" .null := D3 (Or.inr (hw _ (List.mem_of_getElem? (i := 133) rfl))) (ty := (.object "java/lang/String")) (by decide)
  have F_strand_ob3 : Fld Z h3 ob3 "com/example/tracemark/tracemark/model/Feature" "strand" "Lcom/example/tracemark/tracemark/model/Strand;" .null := D3 (Or.inr (hw _ (List.mem_of_getElem? (i := 135) rfl))) (ty := (.object "com/example/tracemark/tracemark/model/Strand")) (by decide)
  have F_phase_ob3 : Fld Z h3 ob3 "com/example/tracemark/tracemark/model/Feature" "phase" "Ljava/util/OptionalInt;" .null := D3 (Or.inr (hw _ (List.mem_of_getElem? (i := 137) rfl))) (ty := (.object "java/util/OptionalInt")) (by decide)
  have F_attributes_ob3 : Fld Z h3 ob3 "com/example/tracemark/tracemark/model/Feature" "attributes" "Ljava/util/List;" .null := D3 (Or.inr (hw _ (List.mem_of_getElem? (i := 139) rfl))) (ty := (.object "java/util/List")) (by decide)
  refine own_goW (fun _ => st3 _) ?_
  show GGW _ _ _ _ _ _ _ T3 (mkF m 31 #[.val (.int p0), .val (.int p1), .val (.int p2), .val (.int p3), .val (.int p4), .val (.int x1), .val (.int x2), .unset, .unset] [(.ref ob3)])
  refine own_goW (fun _ => XS.dup X3.here hx rfl (hb hby at_31) rfl rfl) ?_
  show GGW _ _ _ _ _ _ _ T3 (mkF m 32 #[.val (.int p0), .val (.int p1), .val (.int p2), .val (.int p3), .val (.int p4), .val (.int x1), .val (.int x2), .unset, .unset] [(.ref ob3), (.ref ob3)])
  refine own_goW (fun _ => XS.iloadN X3.here hx rfl (hb hby at_32) rfl) ?_
  show GGW _ _ _ _ _ _ _ T3 (mkF m 33 #[.val (.int p0), .val (.int p1), .val (.int p2), .val (.int p3), .val (.int p4), .val (.int x1), .val (.int x2), .unset, .unset] [(.int p0), (.ref ob3), (.ref ob3)])
  obtain ⟨la4, T4, h4, k4, X4, e4, E4, hS, hk, hZ, hown, hC4, -, st4⟩ := ldcOH X3 hx hZ hown (hw _ (List.mem_of_getElem? (i := 3) rfl)) (own_wS hw) e3 hS hk (own_EW hw) hCH (g := (mkF m 33 #[.val (.int p0), .val (.int p1), .val (.int p2), .val (.int p3), .val (.int p4), .val (.int x1), .val (.int x2), .unset, .unset] [(.int p0), (.ref ob3), (.ref ob3)])) rfl (hb hby at_33) (n := 0) (by decide +kernel) (by decide) (by decide) (by decide)
  have hCH := hC4.1
  have K0 := K0.ext E4
  have O0 := O0.ext E4
  have E_ob3 := E_ob3.ext E4
  have F_line_ob3 := F_line_ob3.ext E4
  have F_description_ob3 := F_description_ob3.ext E4
  have F_sequenceId_ob3 := F_sequenceId_ob3.ext E4
  have F_sequenceIndex_ob3 := F_sequenceIndex_ob3.ext E4
  have F_start_ob3 := F_start_ob3.ext E4
  have F_end_ob3 := F_end_ob3.ext E4
  have F_type_ob3 := F_type_ob3.ext E4
  have F_score_ob3 := F_score_ob3.ext E4
  have F_group_ob3 := F_group_ob3.ext E4
  have F_strand_ob3 := F_strand_ob3.ext E4
  have F_phase_ob3 := F_phase_ob3.ext E4
  have F_attributes_ob3 := F_attributes_ob3.ext E4
  refine own_goW (fun _ => st4 _) ?_
  show GGW _ _ _ _ _ _ _ T4 (mkF m 35 #[.val (.int p0), .val (.int p1), .val (.int p2), .val (.int p3), .val (.int p4), .val (.int x1), .val (.int x2), .unset, .unset] [(.ref la4), (.int p0), (.ref ob3), (.ref ob3)])
  obtain ⟨la5, T5, h5, k5, X5, e5, E5, hS, hk, hZ, hown, hC5, -, st5⟩ := ldcOH X4 hx hZ hown (hw _ (List.mem_of_getElem? (i := 11) rfl)) (own_wS hw) e4 hS hk (own_EW hw) hCH (g := (mkF m 35 #[.val (.int p0), .val (.int p1), .val (.int p2), .val (.int p3), .val (.int p4), .val (.int x1), .val (.int x2), .unset, .unset] [(.ref la4), (.int p0), (.ref ob3), (.ref ob3)])) rfl (hb hby at_35) (n := 4) (by decide +kernel) (by decide) (by decide) (by decide)
  have hCH := hC5.1
  have K0 := K0.ext E5
  have O0 := O0.ext E5
  have E_ob3 := E_ob3.ext E5
  have F_line_ob3 := F_line_ob3.ext E5
  have F_description_ob3 := F_description_ob3.ext E5
  have F_sequenceId_ob3 := F_sequenceId_ob3.ext E5
  have F_sequenceIndex_ob3 := F_sequenceIndex_ob3.ext E5
  have F_start_ob3 := F_start_ob3.ext E5
  have F_end_ob3 := F_end_ob3.ext E5
  have F_type_ob3 := F_type_ob3.ext E5
  have F_score_ob3 := F_score_ob3.ext E5
  have F_group_ob3 := F_group_ob3.ext E5
  have F_strand_ob3 := F_strand_ob3.ext E5
  have F_phase_ob3 := F_phase_ob3.ext E5
  have F_attributes_ob3 := F_attributes_ob3.ext E5
  refine own_goW (fun _ => st5 _) ?_
  show GGW _ _ _ _ _ _ _ T5 (mkF m 37 #[.val (.int p0), .val (.int p1), .val (.int p2), .val (.int p3), .val (.int p4), .val (.int x1), .val (.int x2), .unset, .unset] [(.ref la5), (.ref la4), (.int p0), (.ref ob3), (.ref ob3)])
  refine own_goW (fun _ => XS.iloadN X5.here hx rfl (hb hby at_37) rfl) ?_
  show GGW _ _ _ _ _ _ _ T5 (mkF m 38 #[.val (.int p0), .val (.int p1), .val (.int p2), .val (.int p3), .val (.int p4), .val (.int x1), .val (.int x2), .unset, .unset] [(.int p1), (.ref la5), (.ref la4), (.int p0), (.ref ob3), (.ref ob3)])
  refine own_goW (fun _ => XS.iload X5.here hx rfl (hb hby at_38) rfl) ?_
  show GGW _ _ _ _ _ _ _ T5 (mkF m 40 #[.val (.int p0), .val (.int p1), .val (.int p2), .val (.int p3), .val (.int p4), .val (.int x1), .val (.int x2), .unset, .unset] [(.int x1), (.int p1), (.ref la5), (.ref la4), (.int p0), (.ref ob3), (.ref ob3)])
  refine own_goW (fun _ => XS.iload X5.here hx rfl (hb hby at_40) rfl) ?_
  show GGW _ _ _ _ _ _ _ T5 (mkF m 42 #[.val (.int p0), .val (.int p1), .val (.int p2), .val (.int p3), .val (.int p4), .val (.int x1), .val (.int x2), .unset, .unset] [(.int x2), (.int x1), (.int p1), (.ref la5), (.ref la4), (.int p0), (.ref ob3), (.ref ob3)])
  obtain ⟨la6, T6, h6, k6, X6, e6, E6, hS, hk, hZ, hown, hC6, -, st6⟩ := ldcOH X5 hx hZ hown (hw _ (List.mem_of_getElem? (i := 12) rfl)) (own_wS hw) e5 hS hk (own_EW hw) hCH (g := (mkF m 42 #[.val (.int p0), .val (.int p1), .val (.int p2), .val (.int p3), .val (.int p4), .val (.int x1), .val (.int x2), .unset, .unset] [(.int x2), (.int x1), (.int p1), (.ref la5), (.ref la4), (.int p0), (.ref ob3), (.ref ob3)])) rfl (hb hby at_42) (n := 4) (by decide +kernel) (by decide) (by decide) (by decide)
  have hCH := hC6.1
  have K0 := K0.ext E6
  have O0 := O0.ext E6
  have E_ob3 := E_ob3.ext E6
  have F_line_ob3 := F_line_ob3.ext E6
  have F_description_ob3 := F_description_ob3.ext E6
  have F_sequenceId_ob3 := F_sequenceId_ob3.ext E6
  have F_sequenceIndex_ob3 := F_sequenceIndex_ob3.ext E6
  have F_start_ob3 := F_start_ob3.ext E6
  have F_end_ob3 := F_end_ob3.ext E6
  have F_type_ob3 := F_type_ob3.ext E6
  have F_score_ob3 := F_score_ob3.ext E6
  have F_group_ob3 := F_group_ob3.ext E6
  have F_strand_ob3 := F_strand_ob3.ext E6
  have F_phase_ob3 := F_phase_ob3.ext E6
  have F_attributes_ob3 := F_attributes_ob3.ext E6
  refine own_goW (fun _ => st6 _) ?_
  show GGW _ _ _ _ _ _ _ T6 (mkF m 44 #[.val (.int p0), .val (.int p1), .val (.int p2), .val (.int p3), .val (.int p4), .val (.int x1), .val (.int x2), .unset, .unset] [(.ref la6), (.int x2), (.int x1), (.int p1), (.ref la5), (.ref la4), (.int p0), (.ref ob3), (.ref ob3)])
  obtain ⟨la7, T7, h7, k7, lb7, kc7, X7, e7, E7, hS, hk, hZ, hown, E_la7, F_cla7, F_vla7, V_7, -, -, hC7, -, -, st7⟩ := ldcCH X6 hx hZ hown (hw _ (List.mem_of_getElem? (i := 3) rfl)) (own_wS hw) e6 hS hk (own_EW hw) (List.mem_singleton.mpr rfl) hCH (vs := []) (z := 0) ⟨by decide, rfl⟩ (by decide) rfl (g := (mkF m 44 #[.val (.int p0), .val (.int p1), .val (.int p2), .val (.int p3), .val (.int p4), .val (.int x1), .val (.int x2), .unset, .unset] [(.ref la6), (.int x2), (.int x1), (.int p1), (.ref la5), (.ref la4), (.int p0), (.ref ob3), (.ref ob3)])) rfl (hb hby at_44) (n := 0) (by decide +kernel) (by decide) (by decide) (by decide)
  have hCH := hC7.1
  have K0 := K0.ext E7
  have O0 := O0.ext E7
  have E_ob3 := E_ob3.ext E7
  have F_line_ob3 := F_line_ob3.ext E7
  have F_description_ob3 := F_description_ob3.ext E7
  have F_sequenceId_ob3 := F_sequenceId_ob3.ext E7
  have F_sequenceIndex_ob3 := F_sequenceIndex_ob3.ext E7
  have F_start_ob3 := F_start_ob3.ext E7
  have F_end_ob3 := F_end_ob3.ext E7
  have F_type_ob3 := F_type_ob3.ext E7
  have F_score_ob3 := F_score_ob3.ext E7
  have F_group_ob3 := F_group_ob3.ext E7
  have F_strand_ob3 := F_strand_ob3.ext E7
  have F_phase_ob3 := F_phase_ob3.ext E7
  have F_attributes_ob3 := F_attributes_ob3.ext E7
  have V_lb7 : Arx Z h7 lb7 .byte [] := ⟨Nat.le_of_ble_eq_true rfl, kc7, .int 0, V_7⟩
  refine own_goW (fun _ => st7 _) ?_
  show GGW _ _ _ _ _ _ _ T7 (mkF m 46 #[.val (.int p0), .val (.int p1), .val (.int p2), .val (.int p3), .val (.int p4), .val (.int x1), .val (.int x2), .unset, .unset] [(.ref la7), (.ref la6), (.int x2), (.int x1), (.int p1), (.ref la5), (.ref la4), (.int p0), (.ref ob3), (.ref ob3)])
  refine own_callSW X7 hx hZ (y := (⟨"com/example/tracemark/tracemark/model/Score", "parse", "(Ljava/lang/String;)Ljava/util/Optional;"⟩ : MethodName)) 9 hown (hw _ (List.mem_of_getElem? (i := 13) rfl)) (hw _ (List.mem_of_getElem? (i := 14) rfl)) (hw _ (List.mem_of_getElem? (i := 15) rfl)) (hw _ (List.mem_of_getElem? (i := 16) rfl)) (by decide) (argsL := [(.ref la7)]) (rest := [(.ref la6), (.int x2), (.int x1), (.int p1), (.ref la5), (.ref la4), (.int p0), (.ref ob3), (.ref ob3)]) (rm1 l Z a0 hw [] la7 lb7 cs wD wO h7 n0 (Nat.le_trans Z0 K0.1) E_la7 F_cla7 F_vla7 V_lb7 (S_C.ext O0.2) hcs (S_D.ext O0.2) (E_D.ext O0.2) (F_D.ext O0.2) (S_O.ext O0.2)) (by decide) (by decide) (by decide) (by decide) (g := (mkF m 46 #[.val (.int p0), .val (.int p1), .val (.int p2), .val (.int p3), .val (.int p4), .val (.int x1), .val (.int x2), .unset, .unset] [(.ref la7), (.ref la6), (.int x2), (.int x1), (.int p1), (.ref la5), (.ref la4), (.int p0), (.ref ob3), (.ref ob3)])) rfl (by rw [hml]; rfl) (lenOf pd__Ljava_lang_String__Ljava_util_Optional__717 rfl) rfl (by show 2 * 0 + _ ≤ _; exact Nat.le_of_eq rfl) (hb hby at_46) e7 ?_
  rintro v8 T8 L8 X8 ⟨rfl, N8q, hh8⟩
  have N8 := Fr.app N0 N8q
  show GGW _ _ _ _ _ _ _ T8 (mkF m 49 #[.val (.int p0), .val (.int p1), .val (.int p2), .val (.int p3), .val (.int p4), .val (.int x1), .val (.int x2), .unset, .unset] [(.ref wO), (.ref la6), (.int x2), (.int x1), (.int p1), (.ref la5), (.ref la4), (.int p0), (.ref ob3), (.ref ob3)])
  refine own_goW (fun _ => XS.aconstNull X8.here hx rfl (hb hby at_49)) ?_
  show GGW _ _ _ _ _ _ _ T8 (mkF m 50 #[.val (.int p0), .val (.int p1), .val (.int p2), .val (.int p3), .val (.int p4), .val (.int x1), .val (.int x2), .unset, .unset] [.null, (.ref wO), (.ref la6), (.int x2), (.int x1), (.int p1), (.ref la5), (.ref la4), (.int p0), (.ref ob3), (.ref ob3)])
  refine own_callIX X8 hx hZ hS hk (y := (⟨"com/example/tracemark/tracemark/model/Feature", "<init>", "(ILjava/lang/String;Ljava/lang/String;IIILjava/lang/String;Ljava/util/Optional;Ljava/lang/String;)V"⟩ : MethodName)) 1 rfl hown (hw _ (List.mem_of_getElem? (i := 60) rfl)) (hw _ (List.mem_of_getElem? (i := 61) rfl)) (hw _ (List.mem_of_getElem? (i := 2) rfl)) (hw _ (List.mem_of_getElem? (i := 62) rfl)) (by decide) (a := ob3) (argsL := [(.int p0), (.ref la4), (.ref la5), (.int p1), (.int x1), (.int x2), (.ref la6), (.ref wO), .null]) (rest := [(.ref ob3)]) (rm11 l Z a0 hw [] ob3 p0 la4 la5 p1 x1 x2 la6 wO aN aI aL h7 n0 (Nat.le_trans Z0 K0.1) E_ob3 F_line_ob3 F_description_ob3 F_sequenceId_ob3 F_sequenceIndex_ob3 F_start_ob3 F_end_ob3 F_type_ob3 F_score_ob3 F_group_ob3 F_strand_ob3 F_phase_ob3 F_attributes_ob3 g_ob3 (E_l.ext O0.2) (F_l.ext O0.2) (S_N.ext O0.2) (S_I.ext O0.2) (S_L.ext O0.2)) (by decide) (by decide) (by decide) (by decide) (g := (mkF m 50 #[.val (.int p0), .val (.int p1), .val (.int p2), .val (.int p3), .val (.int p4), .val (.int x1), .val (.int x2), .unset, .unset] [.null, (.ref wO), (.ref la6), (.int x2), (.int x1), (.int p1), (.ref la5), (.ref la4), (.int p0), (.ref ob3), (.ref ob3)])) rfl (by rw [hml]; rfl) (lenOf pd__ILjava_lang_String_Ljava_lang_String_II_201 rfl) rfl (by show 2 * 0 + _ ≤ _; exact Nat.le_of_eq rfl) (hb hby at_50) hh8 ?_
  rintro v9 T9 L9 k9 X9 hS hk hZ hown ⟨rfl, N9q, Kq9, Eq9, Fs9, Fe9⟩
  have N9 := Fr.app N8 N9q
  have K0 := K0.trans Kq9 (allS (Or.inr sz_ob3) all0)
  have O0 := O0.keep Kq9 (allS g_ob3 all0)
  show GGW _ _ _ _ _ _ _ T9 (mkF m 53 #[.val (.int p0), .val (.int p1), .val (.int p2), .val (.int p3), .val (.int p4), .val (.int x1), .val (.int x2), .unset, .unset] [(.ref ob3)])
  refine own_goW (fun _ => XS.astore X9.here hx rfl (hb hby at_53) rfl rfl (l' := #[.val (.int p0), .val (.int p1), .val (.int p2), .val (.int p3), .val (.int p4), .val (.int x1), .val (.int x2), .val (.ref ob3), .unset]) rfl) ?_
  show GGW _ _ _ _ _ _ _ T9 (mkF m 55 #[.val (.int p0), .val (.int p1), .val (.int p2), .val (.int p3), .val (.int p4), .val (.int x1), .val (.int x2), .val (.ref ob3), .unset] [])
  refine own_goW (fun _ => XS.iload X9.here hx rfl (hb hby at_55) rfl) ?_
  show GGW _ _ _ _ _ _ _ T9 (mkF m 57 #[.val (.int p0), .val (.int p1), .val (.int p2), .val (.int p3), .val (.int p4), .val (.int x1), .val (.int x2), .val (.ref ob3), .unset] [(.int x1)])
  refine own_goW (fun _ => XS.iload X9.here hx rfl (hb hby at_57) rfl) ?_
  show GGW _ _ _ _ _ _ _ T9 (mkF m 59 #[.val (.int p0), .val (.int p1), .val (.int p2), .val (.int p3), .val (.int p4), .val (.int x1), .val (.int x2), .val (.ref ob3), .unset] [(.int x2), (.int x1)])
  refine own_goW (fun _ => XS.ior X9.here hx rfl (hb hby at_59) rfl) ?_
  show GGW _ _ _ _ _ _ _ T9 (mkF m 60 #[.val (.int p0), .val (.int p1), .val (.int p2), .val (.int p3), .val (.int p4), .val (.int x1), .val (.int x2), .val (.ref ob3), .unset] [(.int (x1 ||| x2))])
  refine own_joinW (g' := (mkF m 68 #[.val (.int p0), .val (.int p1), .val (.int p2), .val (.int p3), .val (.int p4), .val (.int x1), .val (.int x2), .val (.ref ob3), .unset] [(.int (if (x1 ||| x2) = (0 : Int32) then (1 : Int32) else (0 : Int32)))])) (fun J60 => ?_) ?_
  · by_cases hc60 : (x1 ||| x2) = (0 : Int32)
    · skip
      refine own_goW (fun _ => XS.ifNo X9.here hx rfl (hb hby at_60) rfl ((if0 _ _).trans (teq hc60).2)) ?_
      show GGW _ _ _ _ _ _ _ T9 (mkF m 63 #[.val (.int p0), .val (.int p1), .val (.int p2), .val (.int p3), .val (.int p4), .val (.int x1), .val (.int x2), .val (.ref ob3), .unset] [])
      refine own_goW (fun _ => XS.iconst X9.here hx rfl (hb hby at_63)) ?_
      show GGW _ _ _ _ _ _ _ T9 (mkF m 64 #[.val (.int p0), .val (.int p1), .val (.int p2), .val (.int p3), .val (.int p4), .val (.int x1), .val (.int x2), .val (.ref ob3), .unset] [(.int (1 : Int32))])
      refine own_goW (fun _ => XS.goto X9.here hx rfl (pc0 := 64) (pc' := 68) rfl (hb hby at_64) (by decide) (by decide)) ?_
      show GGW _ _ _ _ _ _ _ T9 (mkF m 68 #[.val (.int p0), .val (.int p1), .val (.int p2), .val (.int p3), .val (.int p4), .val (.int x1), .val (.int x2), .val (.ref ob3), .unset] [(.int (1 : Int32))])
      simp only [if_pos hc60] at J60
      exact J60
    · skip
      refine own_goW (fun _ => XS.ifYes X9.here hx rfl (pc0 := 60) (pc' := 67) rfl (hb hby at_60) rfl ((if0 _ _).trans (feq hc60).2) (by decide) (by decide)) ?_
      show GGW _ _ _ _ _ _ _ T9 (mkF m 67 #[.val (.int p0), .val (.int p1), .val (.int p2), .val (.int p3), .val (.int p4), .val (.int x1), .val (.int x2), .val (.ref ob3), .unset] [])
      refine own_goW (fun _ => XS.iconst X9.here hx rfl (hb hby at_67)) ?_
      show GGW _ _ _ _ _ _ _ T9 (mkF m 68 #[.val (.int p0), .val (.int p1), .val (.int p2), .val (.int p3), .val (.int p4), .val (.int x1), .val (.int x2), .val (.ref ob3), .unset] [(.int (0 : Int32))])
      simp only [if_neg hc60] at J60
      exact J60
  show GGW _ _ _ _ _ _ _ T9 (mkF m 68 #[.val (.int p0), .val (.int p1), .val (.int p2), .val (.int p3), .val (.int p4), .val (.int x1), .val (.int x2), .val (.ref ob3), .unset] [(.int (if (x1 ||| x2) = (0 : Int32) then (1 : Int32) else (0 : Int32)))])
  generalize hx10 : (if (x1 ||| x2) = (0 : Int32) then (1 : Int32) else (0 : Int32)) = x10
  refine own_goW (fun _ => XS.istore X9.here hx rfl (hb hby at_68) rfl (l' := #[.val (.int p0), .val (.int p1), .val (.int p2), .val (.int p3), .val (.int p4), .val (.int x1), .val (.int x2), .val (.ref ob3), .val (.int x10)]) rfl) ?_
  show GGW _ _ _ _ _ _ _ T9 (mkF m 70 #[.val (.int p0), .val (.int p1), .val (.int p2), .val (.int p3), .val (.int p4), .val (.int x1), .val (.int x2), .val (.ref ob3), .val (.int x10)] [])
  refine own_goW (fun _ => XS.aload X9.here hx rfl (hb hby at_70) rfl rfl) ?_
  show GGW _ _ _ _ _ _ _ T9 (mkF m 72 #[.val (.int p0), .val (.int p1), .val (.int p2), .val (.int p3), .val (.int p4), .val (.int x1), .val (.int x2), .val (.ref ob3), .val (.int x10)] [(.ref ob3)])
  refine own_callVW X9 hx hZ (y := (⟨"com/example/tracemark/tracemark/model/Feature", "nonPositional", "()Z"⟩ : MethodName)) (z := (⟨"com/example/tracemark/tracemark/model/Feature", "nonPositional", "()Z"⟩ : MethodName)) 0 hown (hw _ (List.mem_of_getElem? (i := 140) rfl)) (hw _ (List.mem_of_getElem? (i := 141) rfl)) (notFace_of_selects (args := #[]) (mvT hZ (hw _ (List.mem_of_getElem? (i := 143) rfl)))) (hw _ (List.mem_of_getElem? (i := 143) rfl)) (hw _ (List.mem_of_getElem? (i := 142) rfl)) (hw _ (List.mem_of_getElem? (i := 2) rfl)) (hw _ (List.mem_of_getElem? (i := 144) rfl)) (by decide) (a := ob3) (argsL := []) (rest := []) (rm20 l Z a0 hw [] ob3 x1 x2 T9.heap n0 (Nat.le_trans Z0 K0.1) Fs9 Fe9) (by decide) (by decide) (by decide) (by decide) Eq9 (g := (mkF m 72 #[.val (.int p0), .val (.int p1), .val (.int p2), .val (.int p3), .val (.int p4), .val (.int x1), .val (.int x2), .val (.ref ob3), .val (.int x10)] [(.ref ob3)])) rfl (by rw [hml]; rfl) (lenOf pd___Z_171 rfl) rfl (by show 2 * 0 + _ ≤ _; exact Nat.le_of_eq rfl) (hb hby at_72) rfl ?_
  rintro v11 T11 L11 X11 ⟨r11, rfl, hr11, N11q, hh11⟩
  have N11 := Fr.app N9 N11q
  show GGW _ _ _ _ _ _ _ T11 (mkF m 75 #[.val (.int p0), .val (.int p1), .val (.int p2), .val (.int p3), .val (.int p4), .val (.int x1), .val (.int x2), .val (.ref ob3), .val (.int x10)] [(.int r11)])
  refine own_goW (fun _ => XS.iload X11.here hx rfl (hb hby at_75) rfl) ?_
  show GGW _ _ _ _ _ _ _ T11 (mkF m 77 #[.val (.int p0), .val (.int p1), .val (.int p2), .val (.int p3), .val (.int p4), .val (.int x1), .val (.int x2), .val (.ref ob3), .val (.int x10)] [(.int x10), (.int r11)])
  have hc77 : r11 = x10 := own_np hr11 hx10
  refine own_goW (fun _ => XS.icmpNo X11.here hx rfl (hb hby at_77) rfl (teq hc77).2) ?_
  show GGW _ _ _ _ _ _ _ T11 (mkF m 80 #[.val (.int p0), .val (.int p1), .val (.int p2), .val (.int p3), .val (.int p4), .val (.int x1), .val (.int x2), .val (.ref ob3), .val (.int x10)] [])
  refine own_goW (fun _ => XS.iconst X11.here hx rfl (hb hby at_80)) ?_
  show GGW _ _ _ _ _ _ _ T11 (mkF m 81 #[.val (.int p0), .val (.int p1), .val (.int p2), .val (.int p3), .val (.int p4), .val (.int x1), .val (.int x2), .val (.ref ob3), .val (.int x10)] [(.int (1 : Int32))])
  refine own_goW (fun _ => XS.goto X11.here hx rfl (pc0 := 81) (pc' := 85) rfl (hb hby at_81) (by decide) (by decide)) ?_
  show GGW _ _ _ _ _ _ _ T11 (mkF m 85 #[.val (.int p0), .val (.int p1), .val (.int p2), .val (.int p3), .val (.int p4), .val (.int x1), .val (.int x2), .val (.ref ob3), .val (.int x10)] [(.int (1 : Int32))])
  refine own_retW X11 hS hh11 hk hx hlk (t := .boolean) (w := (.int (1 : Int32))) Bd.returns rfl (Or.inl ⟨rfl, by simp, _, rfl⟩) (hb hby at_85) (by decide) (by decide) ?_
  show Q0 Z p0 p1 p2 p3 p4 cs wD wO aN aI aL h0 n0 (some (.int (1 : Int32))) T11.heap _
  rw [hh11]
  exact ⟨rfl, N11⟩
set_option maxRecDepth 65536 in
set_option maxHeartbeats 40000000 in
theorem comes_1 {Post : Tables → Env → Array Value → State → Outcome → State → Prop} (hpost : ∀ tb e args s v u, (limb_1_1.after args s (.returned v) u = true ∧ limb_1_2.after args s (.returned v) u = true ∧ True) → ReturnedEndW s (.returned v) u (Jvm.fieldLocs frame_1_writes args s ++ Jvm.arrayLocs frame_1_arrays args s ++ Jvm.staticLocs frame_1_statics s) 32 9344 → Post tb e args s (.returned v) u) :
    ArmFor flags0 classFile x code maxLocals ret World_1 tables_1 room_1 Calls_1 rest_1 Pre_1 Post := by
  intro l hfl _ _ p e ha hc hk s m args below hf hA hF happ hP
  obtain ⟨hcalls, hrest, hpre⟩ := hP
  obtain ⟨-, -, -, hnamed, -, -, -, hat⟩ := (Spec.applies_iff hf).mp happ
  obtain ⟨hg, hn⟩ := and_e (Cond.before_iff.mp (show (Jvm.Cond.and given_1 narrow_1).before args s = true from hpre))
  obtain ⟨g1, g2⟩ := and_e hg
  obtain ⟨g3, g4⟩ := and_e g2
  obtain ⟨g5, g6⟩ := and_e g4
  obtain ⟨g7, g8⟩ := and_e g6
  obtain ⟨g9, g10⟩ := and_e g8
  obtain ⟨w0, w1, w2, w3, w4, rfl⟩ : ∃ w0 w1 w2 w3 w4 : Value, args = #[w0, w1, w2, w3, w4] := by
    have hs : args.size = 5 := by simpa [Cond.value, given_1] using g1
    obtain ⟨L⟩ := args
    match L, hs with
    | [w0, w1, w2, w3, w4], _ => exact ⟨w0, w1, w2, w3, w4, rfl⟩
  have hw := fun d (hd : d ∈ tables_1) => atoms_spec (ws := Jvm.Cond.code x code maxLocals ret :: tables_1) hat d (List.mem_cons_of_mem _ hd)
  have hfit : Fit s := fun {y c} hc i hi => by
    obtain ⟨ha, rfl⟩ := Array.getElem?_eq_some_iff.mp hc
    have q := List.all_eq_true.mp ((Array.all_eq_true_iff_forall_mem.mp hF) _ (Array.getElem_mem ha)) i (List.mem_range.mpr hi)
    simpa [Array.getElem?_eq_getElem hi] using q
  obtain ⟨hsets, hown0⟩ := atoms_of _ (rest_1_c_eq ▸ (show rest_1_c.before _ s = true from hrest))
  have hr0 := Cond.before_iff.mp hown0
  obtain ⟨i0, ei0⟩ := is_v g3
  obtain rfl : w0 = (.int i0) := Option.some.inj ei0
  obtain ⟨i1, ei1⟩ := is_v g5
  obtain rfl : w1 = (.int i1) := Option.some.inj ei1
  obtain ⟨i2, ei2⟩ := is_v g7
  obtain rfl : w2 = (.int i2) := Option.some.inj ei2
  obtain ⟨i3, ei3⟩ := is_v g9
  obtain rfl : w3 = (.int i3) := Option.some.inj ei3
  obtain ⟨i4, ei4⟩ := is_v g10
  obtain rfl : w4 = (.int i4) := Option.some.inj ei4
  obtain ⟨csx, evC⟩ := is_v (Cond.before_iff.mp (hsets _ (List.mem_of_getElem? (i := 1) rfl)))
  have hcs := own_nonz evC (Cond.before_iff.mp (hsets _ (List.mem_of_getElem? (i := 2) rfl)))
  have S_C := Sta.start evC (Or.inl (hsets _ (List.mem_of_getElem? (i := 0) rfl)))
  obtain ⟨wDx, evwD⟩ := exa_v (Cond.before_iff.mp (hsets _ (List.mem_of_getElem? (i := 11) rfl)))
  have S_D := Sta.start evwD (Or.inl (hsets _ (List.mem_of_getElem? (i := 10) rfl)))
  have E_D := Exa.start evwD (Cond.before_iff.mp (hsets _ (List.mem_of_getElem? (i := 11) rfl)))
  have F_D := own_efld evwD (Cond.before_iff.mp (hsets _ (List.mem_of_getElem? (i := 12) rfl)))
  obtain ⟨wOx, evwO⟩ := exa_v (Cond.before_iff.mp (hsets _ (List.mem_of_getElem? (i := 15) rfl)))
  have S_O := Sta.start evwO (Or.inl (hsets _ (List.mem_of_getElem? (i := 14) rfl)))
  obtain ⟨aIx, evaI⟩ := exa_v (Cond.before_iff.mp (hsets _ (List.mem_of_getElem? (i := 19) rfl)))
  have S_I := Sta.start evaI (Or.inl (hsets _ (List.mem_of_getElem? (i := 18) rfl)))
  obtain ⟨aLx, evaL⟩ := exa_v (Cond.before_iff.mp (hsets _ (List.mem_of_getElem? (i := 24) rfl)))
  have S_L := Sta.start evaL (Or.inl (hsets _ (List.mem_of_getElem? (i := 23) rfl)))
  have E_l := Exa.start evaL (Cond.before_iff.mp (hsets _ (List.mem_of_getElem? (i := 24) rfl)))
  have F_l := own_efld evaL (Cond.before_iff.mp (hsets _ (List.mem_of_getElem? (i := 28) rfl)))
  obtain ⟨aNx, evN⟩ := exa_v hn
  have S_N := Sta.start evN (Or.inr ⟨(hw _ (List.mem_of_getElem? (i := 64) rfl)), (hw _ (List.mem_of_getElem? (i := 65) rfl))⟩)
  have hCH : CHv s own_EL s.vm s.heap := CHv.start (own_EW hw) (fun p hp => by obtain rfl := List.mem_singleton.mp hp; exact hcalls.1 _ (List.mem_of_getElem? (i := 6) rfl)) (hsets _ (List.mem_of_getElem? (i := 2) rfl)) (hw _ (List.mem_of_getElem? (i := 6) rfl)) (hw _ (List.mem_of_getElem? (i := 5) rfl))
  obtain ⟨n, o, h1, h2, h3, _, L, rfl, ⟨rfl, N⟩, hq⟩ := rm0 l s _ hw tables_1 i0 i1 i2 i3 i4 csx wDx wOx aNx aIx aLx s.heap s.heap.size (Nat.le_refl _) (Old.start s) hcs S_C S_D S_O S_N S_I S_L E_D F_D E_l F_l p e ha hc hk s m _ below hf ((Spec.applies_iff_loose hf).mp happ).1 ⟨rfl, State.Warmed39.refl s, rfl, hCH⟩ trivial
  refine ⟨n, _, h1, h2, h3, hpost _ _ _ _ _ _ ⟨Cond.after_iff.mpr rfl, Cond.after_iff.mpr (eq_i res_at (Term.int_eval (1)) rfl), trivial⟩ ⟨hq.1, hq.2.1, hq.2.2.1, (hq.2.2.2.sift fun y hy => Or.inr (N y hy)).mono (by decide) (by decide)⟩⟩
theorem main_1_1 : Claimed_1_1 := comes_1 fun _ _ _ _ _ _ h hF => ⟨h.1, hF⟩
theorem main_1_2 : Claimed_1_2 := comes_1 fun _ _ _ _ _ _ h hF => ⟨h.2.1, hF⟩
end Jvm.Pilot.@@N@@
namespace Jvm.Pilot.@@N@@
open Jvm Jvm.ClassFile Sem Op Lib Jvm.Free Jvm.Stand Jvm.Pilot.@@N@@.Jvm.D
/-! MADE BY PROGRAM (witnessworld.py) out of the Statement's table words and the real class files: 36 classes; the members and pool entries that the words name. The judged class is class 1, her method 1. -/
namespace start1
open Jvm.ClassFile
def u (s : String) : CpInfo := .utf8 (stringToUtf16 s)
/-- a pool by its gaps: so many unusable entries, then the entry; so many at the end -/
def gap : Nat → List CpInfo → List CpInfo
  | 0, r => r
  | n + 1, r => .unusable :: gap n r
def poolList (es : List (Nat × CpInfo)) (last : Nat) : List CpInfo := es.foldr (fun e r => gap e.1 (e.2 :: r)) (gap last [])
def pool (es : List (Nat × CpInfo)) (last : Nat) : Array CpInfo := ⟨poolList es last⟩
def fileOf (pool : Array CpInfo) (this : Nat) (attrs : Array Attribute := #[]) (ms : Array MethodInfo := #[]) (fl : Nat := 33) (sup : Nat := 0) (ifs : Array Nat := #[]) (fds : Array FieldInfo := #[]) : ClassFile where
  minorVersion := 0
  majorVersion := 65
  constantPool := pool
  accessFlags := fl
  thisClass := this
  superClass := sup
  interfaces := ifs
  fields := fds
  methods := ms
  attributes := attrs
def plain (name : String) (sup : Option ClassId) : Class where
  name := name
  kind := .ordinary
  loader := none
  accessFlags := 33
  super := sup
  interfaces := #[]
  cf := none
  fields := #[]
  methods := #[]
  instanceTypes := #[]
  staticTypes := #[]
  resolved := #[]
  callSites := []
  init := .initialized
  statics := none
  mirror := none

def pool0 : Array CpInfo := pool [(5, u "<init>"), (0, u "()V"), (1, .class_ 10), (1, u "java/lang/Object")] 113

def k0c0 : Code := { maxStack := 0, maxLocals := 1, code := object_method_1_code, exceptionTable := #[], attributes := #[] }
def k0m0 : Method := { name := "<init>", desc := "()V", sig := { parameters := [], returnType := none }, accessFlags := 1, code := some k0c0 }
/-- java/lang/Object -/
def k0 : Class := { plain "java/lang/Object" none with
  accessFlags := 33
  interfaces := #[]
  cf := some (fileOf pool0 8 #[] #[{ accessFlags := 1, nameIndex := 5, descriptorIndex := 6, attributes := #[] }] 33 0 #[] #[])
  fields := #[]
  methods := #[k0m0]
  instanceTypes := #[]
  staticTypes := #[]
  resolved := Array.replicate 124 none
  statics := none }

def pool1 : Array CpInfo := pool [(2, .class_ 4), (1, u "java/lang/Object"), (0, u "<init>"), (0, u "()V"), (0, .class_ 8), (0, u "com/example/tracemark/tracemark/model/Feature"), (0, .string 10), (0, u ""), (0, .string 12), (0, u "s"), (0, .string 14), (0, u "t"), (0, .methodref 16 17), (0, .class_ 18), (0, .nameAndType 19 20), (0, u "com/example/tracemark/tracemark/model/Score"), (0, u "parse"), (0, u "(Ljava/lang/String;)Ljava/util/Optional;"), (0, .methodref 7 22), (0, .nameAndType 5 23), (0, u "(ILjava/lang/String;Ljava/lang/String;IIILjava/lang/String;Ljava/util/Optional;Ljava/lang/String;)V"), (0, .methodref 7 25), (0, .nameAndType 26 27), (0, u "nonPositional"), (0, u "()Z"), (0, .class_ 29), (0, u "com/example/tracemark/tracemark/model/FeatureNonPositionalPinLaw"), (2, u "law"), (0, u "(IIIII)Z")] 3

def k1m0 : Method := { name := "<init>", desc := "()V", sig := { parameters := [], returnType := none }, accessFlags := 1, code := none }
def k1c1 : Code := { maxStack := 11, maxLocals := 9, code := code, exceptionTable := #[], attributes := #[] }
def k1m1 : Method := { name := "law", desc := "(IIIII)Z", sig := { parameters := [.int, .int, .int, .int, .int], returnType := some .boolean }, accessFlags := 9, code := some k1c1 }
/-- com/example/tracemark/tracemark/model/FeatureNonPositionalPinLaw -/
def k1 : Class := { plain "com/example/tracemark/tracemark/model/FeatureNonPositionalPinLaw" (some 0) with
  accessFlags := 49
  interfaces := #[]
  cf := some (fileOf pool1 28 #[] #[{ accessFlags := 1, nameIndex := 5, descriptorIndex := 6, attributes := #[] }, { accessFlags := 9, nameIndex := 32, descriptorIndex := 33, attributes := #[] }] 49 2 #[] #[])
  fields := #[]
  methods := #[k1m0, k1m1]
  instanceTypes := #[]
  staticTypes := #[]
  resolved := Array.replicate 37 none
  statics := none }

def pool2 : Array CpInfo := pool [(1, .methodref 2 3), (0, .class_ 4), (0, .nameAndType 5 6), (0, u "java/lang/Object"), (0, u "<init>"), (0, u "()V"), (0, .class_ 8), (0, u "java/lang/Record")] 13

def k2c0 : Code := { maxStack := 1, maxLocals := 1, code := jdk_30_method_1_code, exceptionTable := #[], attributes := #[] }
def k2m0 : Method := { name := "<init>", desc := "()V", sig := { parameters := [], returnType := none }, accessFlags := 4, code := some k2c0 }
/-- java/lang/Record -/
def k2 : Class := { plain "java/lang/Record" (some 0) with
  accessFlags := 1057
  interfaces := #[]
  cf := some (fileOf pool2 7 #[] #[{ accessFlags := 4, nameIndex := 5, descriptorIndex := 6, attributes := #[] }] 1057 2 #[] #[])
  fields := #[]
  methods := #[k2m0]
  instanceTypes := #[]
  staticTypes := #[]
  resolved := Array.replicate 22 none
  statics := none }

def pool3 : Array CpInfo := pool [(1, .methodref 2 3), (0, .class_ 4), (0, .nameAndType 5 6), (0, u "java/lang/Record"), (0, u "<init>"), (0, u "()V"), (0, .string 8), (0, u "description"), (0, .methodref 10 11), (0, .class_ 12), (0, .nameAndType 13 14), (0, u "java/util/Objects"), (0, u "requireNonNull"), (0, u "(Ljava/lang/Object;Ljava/lang/String;)Ljava/lang/Object;"), (0, .string 16), (0, u "sequenceId"), (0, .string 18), (0, u "type"), (0, .string 20), (0, u "score"), (0, .string 22), (0, u "strand"), (0, .string 24), (0, u "phase"), (0, .interfaceMethodref 26 27), (0, .class_ 28), (0, .nameAndType 29 30), (0, u "java/util/List"), (0, u "copyOf"), (0, u "(Ljava/util/Collection;)Ljava/util/List;"), (0, .fieldref 32 33), (0, .class_ 34), (0, .nameAndType 35 36), (0, u "com/example/tracemark/tracemark/model/Feature"), (0, u "line"), (0, u "I"), (0, .fieldref 32 38), (0, .nameAndType 8 39), (0, u "Ljava/lang/String;"), (0, .fieldref 32 41), (0, .nameAndType 16 39), (0, .fieldref 32 43), (0, .nameAndType 44 36), (0, u "sequenceIndex"), (0, .fieldref 32 46), (0, .nameAndType 47 36), (0, u "start"), (0, .fieldref 32 49), (0, .nameAndType 50 36), (0, u "end"), (0, .fieldref 32 52), (0, .nameAndType 18 39), (0, .fieldref 32 54), (0, .nameAndType 20 55), (0, u "Ljava/util/Optional;"), (0, .fieldref 32 57), (0, .nameAndType 58 39), (0, u "group"), (0, .fieldref 32 60), (0, .nameAndType 22 61), (0, u "Lcom/example/tracemark/tracemark/model/Strand;"), (0, .fieldref 32 63), (0, .nameAndType 24 64), (0, u "Ljava/util/OptionalInt;"), (0, .fieldref 32 66), (0, .nameAndType 67 68), (0, u "attributes"), (0, u "Ljava/util/List;"), (0, .fieldref 70 71), (0, .class_ 72), (0, .nameAndType 73 61), (0, u "com/example/tracemark/tracemark/model/Strand"), (0, u "NONE"), (0, .methodref 75 76), (0, .class_ 77), (0, .nameAndType 78 79), (0, u "java/util/OptionalInt"), (0, u "empty"), (0, u "()Ljava/util/OptionalInt;"), (0, .interfaceMethodref 26 81), (0, .nameAndType 82 83), (0, u "of"), (0, u "()Ljava/util/List;"), (0, .methodref 32 85), (0, .nameAndType 5 86), (0, u "(ILjava/lang/String;Ljava/lang/String;IIILjava/lang/String;Ljava/util/Optional;Ljava/lang/String;Lcom/example/tracemark/tracemark/model/Strand;Ljava/util/OptionalInt;Ljava/util/List;)V"), (1, u "ID_NOT_SPECIFIED"), (25, u "(ILjava/lang/String;Ljava/lang/String;IIILjava/lang/String;Ljava/util/Optional;Ljava/lang/String;)V"), (2, u "()Z"), (0, u "nonPositional")] 38

def k3c0 : Code := { maxStack := 2, maxLocals := 13, code := prog_65_method_1_code, exceptionTable := #[], attributes := #[] }
def k3m0 : Method := { name := "<init>", desc := "(ILjava/lang/String;Ljava/lang/String;IIILjava/lang/String;Ljava/util/Optional;Ljava/lang/String;Lcom/example/tracemark/tracemark/model/Strand;Ljava/util/OptionalInt;Ljava/util/List;)V", sig := { parameters := [.int, (.object "java/lang/String"), (.object "java/lang/String"), .int, .int, .int, (.object "java/lang/String"), (.object "java/util/Optional"), (.object "java/lang/String"), (.object "com/example/tracemark/tracemark/model/Strand"), (.object "java/util/OptionalInt"), (.object "java/util/List")], returnType := none }, accessFlags := 1, code := some k3c0 }
def k3c1 : Code := { maxStack := 13, maxLocals := 10, code := prog_65_method_2_code, exceptionTable := #[], attributes := #[] }
def k3m1 : Method := { name := "<init>", desc := "(ILjava/lang/String;Ljava/lang/String;IIILjava/lang/String;Ljava/util/Optional;Ljava/lang/String;)V", sig := { parameters := [.int, (.object "java/lang/String"), (.object "java/lang/String"), .int, .int, .int, (.object "java/lang/String"), (.object "java/util/Optional"), (.object "java/lang/String")], returnType := none }, accessFlags := 1, code := some k3c1 }
def k3c2 : Code := { maxStack := 1, maxLocals := 1, code := prog_65_method_4_code, exceptionTable := #[], attributes := #[] }
def k3m2 : Method := { name := "nonPositional", desc := "()Z", sig := { parameters := [], returnType := some .boolean }, accessFlags := 1, code := some k3c2 }
/-- com/example/tracemark/tracemark/model/Feature -/
def k3 : Class := { plain "com/example/tracemark/tracemark/model/Feature" (some 2) with
  accessFlags := 49
  interfaces := #[]
  cf := some (fileOf pool3 32 #[] #[{ accessFlags := 1, nameIndex := 5, descriptorIndex := 86, attributes := #[] }, { accessFlags := 1, nameIndex := 5, descriptorIndex := 114, attributes := #[] }, { accessFlags := 1, nameIndex := 118, descriptorIndex := 117, attributes := #[] }] 49 2 #[] #[{ accessFlags := 18, nameIndex := 35, descriptorIndex := 36, attributes := #[] }, { accessFlags := 18, nameIndex := 8, descriptorIndex := 39, attributes := #[] }, { accessFlags := 18, nameIndex := 16, descriptorIndex := 39, attributes := #[] }, { accessFlags := 18, nameIndex := 44, descriptorIndex := 36, attributes := #[] }, { accessFlags := 18, nameIndex := 47, descriptorIndex := 36, attributes := #[] }, { accessFlags := 18, nameIndex := 50, descriptorIndex := 36, attributes := #[] }, { accessFlags := 18, nameIndex := 18, descriptorIndex := 39, attributes := #[] }, { accessFlags := 18, nameIndex := 20, descriptorIndex := 55, attributes := #[] }, { accessFlags := 18, nameIndex := 58, descriptorIndex := 39, attributes := #[] }, { accessFlags := 18, nameIndex := 22, descriptorIndex := 61, attributes := #[] }, { accessFlags := 18, nameIndex := 24, descriptorIndex := 64, attributes := #[] }, { accessFlags := 18, nameIndex := 67, descriptorIndex := 68, attributes := #[] }, { accessFlags := 25, nameIndex := 88, descriptorIndex := 39, attributes := #[] }])
  fields := #[{ name := "line", type := .int, accessFlags := 18, slot := 0, constantValue := 0 }, { name := "description", type := (.object "java/lang/String"), accessFlags := 18, slot := 1, constantValue := 0 }, { name := "sequenceId", type := (.object "java/lang/String"), accessFlags := 18, slot := 2, constantValue := 0 }, { name := "sequenceIndex", type := .int, accessFlags := 18, slot := 3, constantValue := 0 }, { name := "start", type := .int, accessFlags := 18, slot := 4, constantValue := 0 }, { name := "end", type := .int, accessFlags := 18, slot := 5, constantValue := 0 }, { name := "type", type := (.object "java/lang/String"), accessFlags := 18, slot := 6, constantValue := 0 }, { name := "score", type := (.object "java/util/Optional"), accessFlags := 18, slot := 7, constantValue := 0 }, { name := "group", type := (.object "java/lang/String"), accessFlags := 18, slot := 8, constantValue := 0 }, { name := "strand", type := (.object "com/example/tracemark/tracemark/model/Strand"), accessFlags := 18, slot := 9, constantValue := 0 }, { name := "phase", type := (.object "java/util/OptionalInt"), accessFlags := 18, slot := 10, constantValue := 0 }, { name := "attributes", type := (.object "java/util/List"), accessFlags := 18, slot := 11, constantValue := 0 }, { name := "ID_NOT_SPECIFIED", type := (.object "java/lang/String"), accessFlags := 25, slot := 0, constantValue := 0 }]
  methods := #[k3m0, k3m1, k3m2]
  instanceTypes := #[.int, (.object "java/lang/String"), (.object "java/lang/String"), .int, .int, .int, (.object "java/lang/String"), (.object "java/util/Optional"), (.object "java/lang/String"), (.object "com/example/tracemark/tracemark/model/Strand"), (.object "java/util/OptionalInt"), (.object "java/util/List")]
  staticTypes := #[(.object "java/lang/String")]
  resolved := Array.replicate 157 none
  statics := none }

def pool4 : Array CpInfo := pool [(1, .class_ 2), (0, u "java/io/Serializable"), (0, .class_ 4), (0, u "java/lang/Object")] 2

/-- java/io/Serializable -/
def k4 : Class := { plain "java/io/Serializable" (some 0) with
  accessFlags := 1537
  interfaces := #[]
  cf := some (fileOf pool4 1 #[] #[] 1537 3 #[] #[])
  fields := #[]
  methods := #[]
  instanceTypes := #[]
  staticTypes := #[]
  resolved := Array.replicate 7 none
  statics := none }

def pool5 : Array CpInfo := pool [(1, .class_ 2), (0, u "java/lang/Comparable"), (0, .class_ 4), (0, u "java/lang/Object")] 7

/-- java/lang/Comparable -/
def k5 : Class := { plain "java/lang/Comparable" (some 0) with
  accessFlags := 1537
  interfaces := #[]
  cf := some (fileOf pool5 1 #[] #[] 1537 3 #[] #[])
  fields := #[]
  methods := #[]
  instanceTypes := #[]
  staticTypes := #[]
  resolved := Array.replicate 12 none
  statics := none }

def pool6 : Array CpInfo := pool [(2, .class_ 4), (1, u "java/lang/CharSequence"), (42, .class_ 48), (0, u "java/lang/CharSequence$1CodePointIterator"), (10, .class_ 60), (0, u "java/lang/CharSequence$1CharIterator"), (5, .class_ 67), (0, u "java/lang/Object")] 63

/-- java/lang/CharSequence -/
def k6 : Class := { plain "java/lang/CharSequence" (some 0) with
  accessFlags := 1537
  interfaces := #[]
  cf := some (fileOf pool6 2 #[.nestMembers #[47, 59]] #[] 1537 66 #[] #[])
  fields := #[]
  methods := #[]
  instanceTypes := #[]
  staticTypes := #[]
  resolved := Array.replicate 131 none
  statics := none }

def pool7 : Array CpInfo := pool [(1, .class_ 2), (0, u "java/lang/constant/Constable"), (0, .class_ 4), (0, u "java/lang/Object")] 6

/-- java/lang/constant/Constable -/
def k7 : Class := { plain "java/lang/constant/Constable" (some 0) with
  accessFlags := 1537
  interfaces := #[]
  cf := some (fileOf pool7 1 #[] #[] 1537 3 #[] #[])
  fields := #[]
  methods := #[]
  instanceTypes := #[]
  staticTypes := #[]
  resolved := Array.replicate 11 none
  statics := none }

def pool8 : Array CpInfo := pool [(1, .class_ 2), (0, u "java/lang/constant/ConstantDesc"), (0, .class_ 4), (0, u "java/lang/Object")] 32

/-- java/lang/constant/ConstantDesc -/
def k8 : Class := { plain "java/lang/constant/ConstantDesc" (some 0) with
  accessFlags := 1537
  interfaces := #[]
  cf := some (fileOf pool8 1 #[] #[] 1537 3 #[] #[])
  fields := #[]
  methods := #[]
  instanceTypes := #[]
  staticTypes := #[]
  resolved := Array.replicate 37 none
  statics := none }

def pool9 : Array CpInfo := pool [(2, .class_ 4), (1, u "java/lang/Object"), (0, u "<init>"), (0, u "()V"), (2, .fieldref 10 11), (0, .class_ 12), (0, .nameAndType 13 14), (0, u "java/lang/String"), (0, u "value"), (0, u "[B"), (0, .fieldref 10 16), (0, .nameAndType 17 18), (0, u "coder"), (0, u "B"), (2, u "hash"), (0, u "I"), (2, u "hashIsZero"), (0, u "Z"), (11, .fieldref 10 39), (0, .nameAndType 40 26), (0, u "COMPACT_STRINGS"), (293, u "()I"), (0, .methodref 10 336), (0, .nameAndType 17 337), (0, u "()B"), (169, u "length"), (67, .class_ 576), (0, u "java/lang/CharSequence"), (22, u "CASE_INSENSITIVE_ORDER"), (0, u "Ljava/util/Comparator;"), (500, u "serialPersistentFields"), (0, u "[Ljava/io/ObjectStreamField;"), (0, .class_ 1104), (0, u "java/lang/String$CaseInsensitiveComparator"), (1, .class_ 1107), (0, u "java/io/Serializable"), (0, .class_ 1109), (0, u "java/lang/Comparable"), (0, .class_ 1111), (0, u "java/lang/constant/Constable"), (0, .class_ 1113), (0, u "java/lang/constant/ConstantDesc"), (2, u "serialVersionUID"), (0, u "J"), (3, u "REPL"), (0, u "C"), (2, u "LATIN1"), (1, u "UTF16")] 323

def k9m0 : Method := { name := "<init>", desc := "()V", sig := { parameters := [], returnType := none }, accessFlags := 1, code := none }
def k9c1 : Code := { maxStack := 2, maxLocals := 1, code := jdk_42_method_54_code, exceptionTable := #[], attributes := #[] }
def k9m1 : Method := { name := "length", desc := "()I", sig := { parameters := [], returnType := some .int }, accessFlags := 1, code := some k9c1 }
def k9c2 : Code := { maxStack := 1, maxLocals := 1, code := jdk_42_method_152_code, exceptionTable := #[], attributes := #[] }
def k9m2 : Method := { name := "coder", desc := "()B", sig := { parameters := [], returnType := some .byte }, accessFlags := 0, code := some k9c2 }
/-- java/lang/String -/
def k9 : Class := { plain "java/lang/String" (some 0) with
  accessFlags := 49
  interfaces := #[4, 5, 6, 7, 8]
  cf := some (fileOf pool9 10 #[.nestMembers #[1103]] #[{ accessFlags := 1, nameIndex := 5, descriptorIndex := 6, attributes := #[] }, { accessFlags := 1, nameIndex := 507, descriptorIndex := 334, attributes := #[] }, { accessFlags := 0, nameIndex := 17, descriptorIndex := 337, attributes := #[] }] 49 2 #[1106, 1108, 575, 1110, 1112] #[{ accessFlags := 18, nameIndex := 13, descriptorIndex := 14, attributes := #[] }, { accessFlags := 18, nameIndex := 17, descriptorIndex := 18, attributes := #[] }, { accessFlags := 2, nameIndex := 21, descriptorIndex := 22, attributes := #[] }, { accessFlags := 2, nameIndex := 25, descriptorIndex := 26, attributes := #[] }, { accessFlags := 26, nameIndex := 1116, descriptorIndex := 1117, attributes := #[] }, { accessFlags := 24, nameIndex := 40, descriptorIndex := 26, attributes := #[] }, { accessFlags := 26, nameIndex := 1101, descriptorIndex := 1102, attributes := #[] }, { accessFlags := 26, nameIndex := 1121, descriptorIndex := 1122, attributes := #[] }, { accessFlags := 25, nameIndex := 599, descriptorIndex := 600, attributes := #[] }, { accessFlags := 24, nameIndex := 1125, descriptorIndex := 18, attributes := #[] }, { accessFlags := 24, nameIndex := 1127, descriptorIndex := 18, attributes := #[] }])
  fields := #[{ name := "value", type := (.array .byte), accessFlags := 18, slot := 0, constantValue := 0 }, { name := "coder", type := .byte, accessFlags := 18, slot := 1, constantValue := 0 }, { name := "hash", type := .int, accessFlags := 2, slot := 2, constantValue := 0 }, { name := "hashIsZero", type := .boolean, accessFlags := 2, slot := 3, constantValue := 0 }, { name := "serialVersionUID", type := .long, accessFlags := 26, slot := 0, constantValue := 0 }, { name := "COMPACT_STRINGS", type := .boolean, accessFlags := 24, slot := 1, constantValue := 0 }, { name := "serialPersistentFields", type := (.array (.object "java/io/ObjectStreamField")), accessFlags := 26, slot := 2, constantValue := 0 }, { name := "REPL", type := .char, accessFlags := 26, slot := 3, constantValue := 0 }, { name := "CASE_INSENSITIVE_ORDER", type := (.object "java/util/Comparator"), accessFlags := 25, slot := 4, constantValue := 0 }, { name := "LATIN1", type := .byte, accessFlags := 24, slot := 5, constantValue := 0 }, { name := "UTF16", type := .byte, accessFlags := 24, slot := 6, constantValue := 0 }]
  methods := #[k9m0, k9m1, k9m2]
  instanceTypes := #[(.array .byte), .byte, .int, .boolean]
  staticTypes := #[.long, .boolean, (.array (.object "java/io/ObjectStreamField")), .char, (.object "java/util/Comparator"), .byte, .byte]
  resolved := Array.replicate 1451 none
  statics := some 0 }

def pool10 : Array CpInfo := pool [(2, .class_ 4), (1, u "java/lang/Object"), (3, .class_ 10), (1, u "com/example/tracemark/tracemark/model/Score"), (0, u "value"), (0, u "D"), (2, u "text"), (0, u "Ljava/lang/String;"), (0, .methodref 18 19), (0, .class_ 20), (0, .nameAndType 21 22), (0, u "com/example/tracemark/tracemark/model/Decimals"), (0, u "parse"), (0, u "(Ljava/lang/String;)Ljava/util/OptionalDouble;"), (0, .methodref 24 25), (0, .class_ 26), (0, .nameAndType 27 28), (0, u "java/util/OptionalDouble"), (0, u "isPresent"), (0, u "()Z"), (8, .class_ 39), (1, u "java/util/Optional"), (2, .methodref 37 43), (0, .nameAndType 44 45), (0, u "empty"), (0, u "()Ljava/util/Optional;"), (12, u "(Ljava/lang/String;)Ljava/util/Optional;")] 7

def k10c0 : Code := { maxStack := 5, maxLocals := 2, code := prog_88_method_2_code, exceptionTable := #[], attributes := #[] }
def k10m0 : Method := { name := "parse", desc := "(Ljava/lang/String;)Ljava/util/Optional;", sig := { parameters := [(.object "java/lang/String")], returnType := some (.object "java/util/Optional") }, accessFlags := 9, code := some k10c0 }
/-- com/example/tracemark/tracemark/model/Score -/
def k10 : Class := { plain "com/example/tracemark/tracemark/model/Score" (some 0) with
  accessFlags := 49
  interfaces := #[]
  cf := some (fileOf pool10 8 #[] #[{ accessFlags := 9, nameIndex := 21, descriptorIndex := 58, attributes := #[] }] 49 2 #[] #[{ accessFlags := 18, nameIndex := 11, descriptorIndex := 12, attributes := #[] }, { accessFlags := 18, nameIndex := 15, descriptorIndex := 16, attributes := #[] }])
  fields := #[{ name := "value", type := .double, accessFlags := 18, slot := 0, constantValue := 0 }, { name := "text", type := (.object "java/lang/String"), accessFlags := 18, slot := 1, constantValue := 0 }]
  methods := #[k10m0]
  instanceTypes := #[.double, (.object "java/lang/String")]
  staticTypes := #[]
  resolved := Array.replicate 66 none
  statics := none }

def pool11 : Array CpInfo := pool [(2, .class_ 4), (1, u "java/lang/Object"), (0, u "<init>"), (0, u "()V"), (0, .methodref 8 9), (0, .class_ 10), (0, .nameAndType 11 12), (0, u "com/example/tracemark/tracemark/model/Decimals"), (0, u "written"), (0, u "(Ljava/lang/String;)Z"), (11, .class_ 26), (1, u "java/util/OptionalDouble"), (2, .methodref 24 30), (0, .nameAndType 31 32), (0, u "empty"), (0, u "()Ljava/util/OptionalDouble;"), (0, .methodref 8 34), (0, .nameAndType 35 36), (0, u "sign"), (0, u "(Ljava/lang/String;I)I"), (0, .methodref 8 38), (0, .nameAndType 39 36), (0, u "digits"), (0, .methodref 41 42), (0, .class_ 43), (0, .nameAndType 44 45), (0, u "java/lang/String"), (0, u "length"), (0, u "()I"), (6, u "parse"), (0, u "(Ljava/lang/String;)Ljava/util/OptionalDouble;")] 3

def k11m0 : Method := { name := "<init>", desc := "()V", sig := { parameters := [], returnType := none }, accessFlags := 2, code := none }
def k11c1 : Code := { maxStack := 2, maxLocals := 3, code := prog_60_method_2_code, exceptionTable := #[], attributes := #[] }
def k11m1 : Method := { name := "parse", desc := "(Ljava/lang/String;)Ljava/util/OptionalDouble;", sig := { parameters := [(.object "java/lang/String")], returnType := some (.object "java/util/OptionalDouble") }, accessFlags := 9, code := some k11c1 }
def k11c2 : Code := { maxStack := 4, maxLocals := 2, code := prog_60_method_3_code, exceptionTable := #[], attributes := #[] }
def k11m2 : Method := { name := "written", desc := "(Ljava/lang/String;)Z", sig := { parameters := [(.object "java/lang/String")], returnType := some .boolean }, accessFlags := 10, code := some k11c2 }
def k11c3 : Code := { maxStack := 2, maxLocals := 2, code := prog_60_method_4_code, exceptionTable := #[], attributes := #[] }
def k11m3 : Method := { name := "sign", desc := "(Ljava/lang/String;I)I", sig := { parameters := [(.object "java/lang/String"), .int], returnType := some .int }, accessFlags := 10, code := some k11c3 }
def k11c4 : Code := { maxStack := 2, maxLocals := 3, code := prog_60_method_5_code, exceptionTable := #[], attributes := #[] }
def k11m4 : Method := { name := "digits", desc := "(Ljava/lang/String;I)I", sig := { parameters := [(.object "java/lang/String"), .int], returnType := some .int }, accessFlags := 10, code := some k11c4 }
/-- com/example/tracemark/tracemark/model/Decimals -/
def k11 : Class := { plain "com/example/tracemark/tracemark/model/Decimals" (some 0) with
  accessFlags := 49
  interfaces := #[]
  cf := some (fileOf pool11 8 #[] #[{ accessFlags := 2, nameIndex := 5, descriptorIndex := 6, attributes := #[] }, { accessFlags := 9, nameIndex := 52, descriptorIndex := 53, attributes := #[] }, { accessFlags := 10, nameIndex := 11, descriptorIndex := 12, attributes := #[] }, { accessFlags := 10, nameIndex := 35, descriptorIndex := 36, attributes := #[] }, { accessFlags := 10, nameIndex := 39, descriptorIndex := 36, attributes := #[] }] 49 2 #[] #[])
  fields := #[]
  methods := #[k11m0, k11m1, k11m2, k11m3, k11m4]
  instanceTypes := #[]
  staticTypes := #[]
  resolved := Array.replicate 57 none
  statics := none }

def pool12 : Array CpInfo := pool [(2, .class_ 4), (1, u "java/lang/Object"), (0, u "<init>"), (0, u "()V"), (0, .fieldref 8 9), (0, .class_ 10), (0, .nameAndType 11 12), (0, u "java/util/OptionalDouble"), (0, u "isPresent"), (0, u "Z"), (6, u "value"), (0, u "D"), (0, .fieldref 8 22), (0, .nameAndType 23 24), (0, u "EMPTY"), (0, u "Ljava/util/OptionalDouble;"), (28, u "empty"), (48, u "()Ljava/util/OptionalDouble;"), (2, u "()Z")] 38

def k12m0 : Method := { name := "<init>", desc := "()V", sig := { parameters := [], returnType := none }, accessFlags := 2, code := none }
def k12c1 : Code := { maxStack := 1, maxLocals := 0, code := jdk_2648_method_2_code, exceptionTable := #[], attributes := #[] }
def k12m1 : Method := { name := "empty", desc := "()Ljava/util/OptionalDouble;", sig := { parameters := [], returnType := some (.object "java/util/OptionalDouble") }, accessFlags := 9, code := some k12c1 }
def k12c2 : Code := { maxStack := 1, maxLocals := 1, code := jdk_2648_method_6_code, exceptionTable := #[], attributes := #[] }
def k12m2 : Method := { name := "isPresent", desc := "()Z", sig := { parameters := [], returnType := some .boolean }, accessFlags := 1, code := some k12c2 }
/-- java/util/OptionalDouble -/
def k12 : Class := { plain "java/util/OptionalDouble" (some 0) with
  accessFlags := 49
  interfaces := #[]
  cf := some (fileOf pool12 8 #[] #[{ accessFlags := 2, nameIndex := 5, descriptorIndex := 6, attributes := #[] }, { accessFlags := 9, nameIndex := 53, descriptorIndex := 102, attributes := #[] }, { accessFlags := 1, nameIndex := 11, descriptorIndex := 105, attributes := #[] }] 49 2 #[] #[{ accessFlags := 26, nameIndex := 23, descriptorIndex := 24, attributes := #[] }, { accessFlags := 18, nameIndex := 11, descriptorIndex := 12, attributes := #[] }, { accessFlags := 18, nameIndex := 19, descriptorIndex := 20, attributes := #[] }])
  fields := #[{ name := "EMPTY", type := (.object "java/util/OptionalDouble"), accessFlags := 26, slot := 0, constantValue := 0 }, { name := "isPresent", type := .boolean, accessFlags := 18, slot := 0, constantValue := 0 }, { name := "value", type := .double, accessFlags := 18, slot := 1, constantValue := 0 }]
  methods := #[k12m0, k12m1, k12m2]
  instanceTypes := #[.boolean, .double]
  staticTypes := #[(.object "java/util/OptionalDouble")]
  resolved := Array.replicate 144 none
  statics := some 1 }

def pool13 : Array CpInfo := pool [(1, .fieldref 2 3), (0, .class_ 4), (0, .nameAndType 5 6), (0, u "java/util/Optional"), (0, u "EMPTY"), (0, u "Ljava/util/Optional;"), (1, .class_ 10), (1, u "java/lang/Object"), (4, u "value"), (0, u "Ljava/lang/Object;"), (38, u "empty"), (0, u "()Ljava/util/Optional;")] 130

def k13c0 : Code := { maxStack := 1, maxLocals := 1, code := jdk_32_method_1_code, exceptionTable := #[], attributes := #[] }
def k13m0 : Method := { name := "empty", desc := "()Ljava/util/Optional;", sig := { parameters := [], returnType := some (.object "java/util/Optional") }, accessFlags := 9, code := some k13c0 }
/-- java/util/Optional -/
def k13 : Class := { plain "java/util/Optional" (some 0) with
  accessFlags := 49
  interfaces := #[]
  cf := some (fileOf pool13 2 #[] #[{ accessFlags := 9, nameIndex := 55, descriptorIndex := 56, attributes := #[] }] 49 8 #[] #[{ accessFlags := 26, nameIndex := 5, descriptorIndex := 6, attributes := #[] }, { accessFlags := 18, nameIndex := 15, descriptorIndex := 16, attributes := #[] }])
  fields := #[{ name := "EMPTY", type := (.object "java/util/Optional"), accessFlags := 26, slot := 0, constantValue := 0 }, { name := "value", type := (.object "java/lang/Object"), accessFlags := 18, slot := 0, constantValue := 0 }]
  methods := #[k13m0]
  instanceTypes := #[(.object "java/lang/Object")]
  staticTypes := #[(.object "java/util/Optional")]
  resolved := Array.replicate 187 none
  statics := some 2 }

def pool14 : Array CpInfo := pool [(2, .class_ 4), (1, u "java/lang/Enum"), (0, u "name"), (0, u "Ljava/lang/String;"), (2, u "ordinal"), (0, u "I"), (1, .class_ 14), (1, u "java/lang/Object"), (4, u "hash"), (86, .class_ 108), (1, u "java/lang/Enum$EnumDesc"), (2, .class_ 112), (0, u "java/lang/constant/Constable"), (0, .class_ 114), (0, u "java/lang/Comparable"), (0, .class_ 116), (0, u "java/io/Serializable")] 87

/-- java/lang/Enum -/
def k14 : Class := { plain "java/lang/Enum" (some 0) with
  accessFlags := 1057
  interfaces := #[7, 5, 4]
  cf := some (fileOf pool14 2 #[.nestMembers #[106]] #[] 1057 12 #[111, 113, 115] #[{ accessFlags := 18, nameIndex := 5, descriptorIndex := 6, attributes := #[] }, { accessFlags := 18, nameIndex := 9, descriptorIndex := 10, attributes := #[] }, { accessFlags := 2, nameIndex := 19, descriptorIndex := 10, attributes := #[] }])
  fields := #[{ name := "name", type := (.object "java/lang/String"), accessFlags := 18, slot := 0, constantValue := 0 }, { name := "ordinal", type := .int, accessFlags := 18, slot := 1, constantValue := 0 }, { name := "hash", type := .int, accessFlags := 2, slot := 2, constantValue := 0 }]
  methods := #[]
  instanceTypes := #[(.object "java/lang/String"), .int, .int]
  staticTypes := #[]
  resolved := Array.replicate 204 none
  statics := none }

def pool15 : Array CpInfo := pool [(1, .class_ 2), (0, u "com/example/tracemark/tracemark/model/Strand"), (2, u "FORWARD"), (0, u "Lcom/example/tracemark/tracemark/model/Strand;"), (2, u "REVERSE"), (2, u "NONE"), (2, u "UNKNOWN"), (2, u "$VALUES"), (0, u "[Lcom/example/tracemark/tracemark/model/Strand;"), (6, .class_ 28), (1, u "java/lang/Enum"), (8, u "symbol"), (0, u "C")] 83

/-- com/example/tracemark/tracemark/model/Strand -/
def k15 : Class := { plain "com/example/tracemark/tracemark/model/Strand" (some 14) with
  accessFlags := 16433
  interfaces := #[]
  cf := some (fileOf pool15 1 #[] #[] 16433 26 #[] #[{ accessFlags := 16409, nameIndex := 5, descriptorIndex := 6, attributes := #[] }, { accessFlags := 16409, nameIndex := 9, descriptorIndex := 6, attributes := #[] }, { accessFlags := 16409, nameIndex := 12, descriptorIndex := 6, attributes := #[] }, { accessFlags := 16409, nameIndex := 15, descriptorIndex := 6, attributes := #[] }, { accessFlags := 18, nameIndex := 37, descriptorIndex := 38, attributes := #[] }, { accessFlags := 4122, nameIndex := 18, descriptorIndex := 19, attributes := #[] }])
  fields := #[{ name := "FORWARD", type := (.object "com/example/tracemark/tracemark/model/Strand"), accessFlags := 16409, slot := 0, constantValue := 0 }, { name := "REVERSE", type := (.object "com/example/tracemark/tracemark/model/Strand"), accessFlags := 16409, slot := 1, constantValue := 0 }, { name := "NONE", type := (.object "com/example/tracemark/tracemark/model/Strand"), accessFlags := 16409, slot := 2, constantValue := 0 }, { name := "UNKNOWN", type := (.object "com/example/tracemark/tracemark/model/Strand"), accessFlags := 16409, slot := 3, constantValue := 0 }, { name := "symbol", type := .char, accessFlags := 18, slot := 3, constantValue := 0 }, { name := "$VALUES", type := (.array (.object "com/example/tracemark/tracemark/model/Strand")), accessFlags := 4122, slot := 4, constantValue := 0 }]
  methods := #[]
  instanceTypes := #[(.object "java/lang/String"), .int, .int, .char]
  staticTypes := #[(.object "com/example/tracemark/tracemark/model/Strand"), (.object "com/example/tracemark/tracemark/model/Strand"), (.object "com/example/tracemark/tracemark/model/Strand"), (.object "com/example/tracemark/tracemark/model/Strand"), (.array (.object "com/example/tracemark/tracemark/model/Strand"))]
  resolved := Array.replicate 122 none
  statics := some 3 }

def pool16 : Array CpInfo := pool [(2, .class_ 4), (1, u "java/lang/Object"), (0, u "<init>"), (0, u "()V"), (1, .class_ 10), (1, u "java/util/OptionalInt"), (0, u "isPresent"), (0, u "Z"), (2, u "value"), (0, u "I"), (0, .fieldref 8 18), (0, .nameAndType 19 20), (0, u "EMPTY"), (0, u "Ljava/util/OptionalInt;"), (28, u "empty"), (46, u "()Ljava/util/OptionalInt;")] 39

def k16m0 : Method := { name := "<init>", desc := "()V", sig := { parameters := [], returnType := none }, accessFlags := 2, code := none }
def k16c1 : Code := { maxStack := 1, maxLocals := 0, code := jdk_2649_method_2_code, exceptionTable := #[], attributes := #[] }
def k16m1 : Method := { name := "empty", desc := "()Ljava/util/OptionalInt;", sig := { parameters := [], returnType := some (.object "java/util/OptionalInt") }, accessFlags := 9, code := some k16c1 }
/-- java/util/OptionalInt -/
def k16 : Class := { plain "java/util/OptionalInt" (some 0) with
  accessFlags := 49
  interfaces := #[]
  cf := some (fileOf pool16 8 #[] #[{ accessFlags := 2, nameIndex := 5, descriptorIndex := 6, attributes := #[] }, { accessFlags := 9, nameIndex := 49, descriptorIndex := 96, attributes := #[] }] 49 2 #[] #[{ accessFlags := 26, nameIndex := 19, descriptorIndex := 20, attributes := #[] }, { accessFlags := 18, nameIndex := 11, descriptorIndex := 12, attributes := #[] }, { accessFlags := 18, nameIndex := 15, descriptorIndex := 16, attributes := #[] }])
  fields := #[{ name := "EMPTY", type := (.object "java/util/OptionalInt"), accessFlags := 26, slot := 0, constantValue := 0 }, { name := "isPresent", type := .boolean, accessFlags := 18, slot := 0, constantValue := 0 }, { name := "value", type := .int, accessFlags := 18, slot := 1, constantValue := 0 }]
  methods := #[k16m0, k16m1]
  instanceTypes := #[.boolean, .int]
  staticTypes := #[(.object "java/util/OptionalInt")]
  resolved := Array.replicate 136 none
  statics := some 4 }

def pool17 : Array CpInfo := pool [(8, .class_ 10), (1, u "java/lang/Iterable"), (24, .class_ 36), (0, u "java/lang/Object")] 25

/-- java/lang/Iterable -/
def k17 : Class := { plain "java/lang/Iterable" (some 0) with
  accessFlags := 1537
  interfaces := #[]
  cf := some (fileOf pool17 8 #[] #[] 1537 35 #[] #[])
  fields := #[]
  methods := #[]
  instanceTypes := #[]
  staticTypes := #[]
  resolved := Array.replicate 62 none
  statics := none }

def pool18 : Array CpInfo := pool [(10, .class_ 12), (1, u "java/util/Collection"), (47, .class_ 61), (0, u "java/lang/Object"), (0, .class_ 63), (0, u "java/lang/Iterable")] 51

/-- java/util/Collection -/
def k18 : Class := { plain "java/util/Collection" (some 0) with
  accessFlags := 1537
  interfaces := #[17]
  cf := some (fileOf pool18 10 #[] #[] 1537 60 #[62] #[])
  fields := #[]
  methods := #[]
  instanceTypes := #[]
  staticTypes := #[]
  resolved := Array.replicate 115 none
  statics := none }

def pool19 : Array CpInfo := pool [(8, .class_ 10), (1, u "java/util/SequencedCollection"), (15, .class_ 27), (0, u "java/lang/Object"), (0, .class_ 29), (0, u "java/util/Collection")] 27

/-- java/util/SequencedCollection -/
def k19 : Class := { plain "java/util/SequencedCollection" (some 0) with
  accessFlags := 1537
  interfaces := #[18]
  cf := some (fileOf pool19 8 #[] #[] 1537 26 #[28] #[])
  fields := #[]
  methods := #[]
  instanceTypes := #[]
  staticTypes := #[]
  resolved := Array.replicate 57 none
  statics := none }

def pool20 : Array CpInfo := pool [(8, .class_ 10), (1, u "java/util/List"), (77, u "of"), (1, .fieldref 91 92), (0, .class_ 93), (0, .nameAndType 94 95), (0, u "java/util/ImmutableCollections"), (0, u "EMPTY_LIST"), (0, u "Ljava/util/ImmutableCollections$ListN;"), (7, .class_ 104), (0, u "java/lang/Object"), (7, .methodref 91 113), (0, .nameAndType 114 115), (0, u "listCopy"), (0, u "(Ljava/util/Collection;)Ljava/util/List;"), (3, u "()Ljava/util/List;"), (0, .class_ 121), (0, u "java/util/SequencedCollection"), (112, u "copyOf")] 16

def k20c0 : Code := { maxStack := 1, maxLocals := 0, code := jdk_40_method_36_code, exceptionTable := #[], attributes := #[] }
def k20m0 : Method := { name := "of", desc := "()Ljava/util/List;", sig := { parameters := [], returnType := some (.object "java/util/List") }, accessFlags := 9, code := some k20c0 }
def k20c1 : Code := { maxStack := 1, maxLocals := 1, code := jdk_40_method_48_code, exceptionTable := #[], attributes := #[] }
def k20m1 : Method := { name := "copyOf", desc := "(Ljava/util/Collection;)Ljava/util/List;", sig := { parameters := [(.object "java/util/Collection")], returnType := some (.object "java/util/List") }, accessFlags := 9, code := some k20c1 }
/-- java/util/List -/
def k20 : Class := { plain "java/util/List" (some 0) with
  accessFlags := 1537
  interfaces := #[19]
  cf := some (fileOf pool20 8 #[] #[{ accessFlags := 9, nameIndex := 88, descriptorIndex := 119, attributes := #[] }, { accessFlags := 9, nameIndex := 234, descriptorIndex := 115, attributes := #[] }] 1537 103 #[120] #[])
  fields := #[]
  methods := #[k20m0, k20m1]
  instanceTypes := #[]
  staticTypes := #[]
  resolved := Array.replicate 251 none
  statics := none }

def pool21 : Array CpInfo := pool [(2, .class_ 4), (1, u "java/lang/Object"), (0, u "<init>"), (0, u "()V"), (3, .class_ 11), (0, u "java/util/ImmutableCollections$List12"), (0, .class_ 13), (0, u "java/util/ImmutableCollections$ListN"), (0, .fieldref 12 15), (0, .nameAndType 16 17), (0, u "allowNulls"), (0, u "Z"), (0, .class_ 19), (0, u "java/util/List"), (27, .class_ 49), (1, u "java/util/ImmutableCollections"), (0, u "$assertionsDisabled"), (5, u "[Ljava/lang/Object;"), (5, u "EMPTY_LIST"), (0, u "Ljava/util/ImmutableCollections$ListN;"), (8, u "EMPTY_LIST_NULLS"), (22, u "SALT32L"), (0, u "J"), (2, u "REVERSE"), (6, u "archivedObjects"), (2, u "EMPTY"), (0, u "Ljava/lang/Object;"), (0, .class_ 112), (0, u "java/util/ImmutableCollections$SetN"), (5, u "EMPTY_SET"), (0, u "Ljava/util/ImmutableCollections$SetN;"), (0, .class_ 121), (0, u "java/util/ImmutableCollections$MapN"), (3, u "EMPTY_MAP"), (0, u "Ljava/util/ImmutableCollections$MapN;"), (4, u "EXPAND_FACTOR"), (0, u "I"), (9, u "listCopy"), (0, u "(Ljava/util/Collection;)Ljava/util/List;"), (25, .class_ 170), (0, u "java/util/ImmutableCollections$MapN$MapNIterator"), (0, .class_ 172), (0, u "java/util/ImmutableCollections$MapN$1"), (0, .class_ 174), (0, u "java/util/ImmutableCollections$Map1"), (0, .class_ 176), (0, u "java/util/ImmutableCollections$AbstractImmutableMap"), (0, .class_ 178), (0, u "java/util/ImmutableCollections$SetN$SetNIterator"), (0, .class_ 180), (0, u "java/util/ImmutableCollections$Set12"), (0, .class_ 182), (0, u "java/util/ImmutableCollections$Set12$1"), (0, .class_ 184), (0, u "java/util/ImmutableCollections$AbstractImmutableSet"), (0, .class_ 186), (0, u "java/util/ImmutableCollections$SubList"), (0, .class_ 188), (0, u "java/util/ImmutableCollections$ListItr"), (0, .class_ 190), (0, u "java/util/ImmutableCollections$AbstractImmutableList"), (0, .class_ 192), (0, u "java/util/ImmutableCollections$AbstractImmutableCollection"), (0, .class_ 194), (0, u "java/util/ImmutableCollections$Access"), (0, .class_ 196), (0, u "java/util/ImmutableCollections$Access$1")] 16

def k21m0 : Method := { name := "<init>", desc := "()V", sig := { parameters := [], returnType := none }, accessFlags := 2, code := none }
def k21c1 : Code := { maxStack := 1, maxLocals := 2, code := jdk_56_method_3_code, exceptionTable := #[], attributes := #[] }
def k21m1 : Method := { name := "listCopy", desc := "(Ljava/util/Collection;)Ljava/util/List;", sig := { parameters := [(.object "java/util/Collection")], returnType := some (.object "java/util/List") }, accessFlags := 8, code := some k21c1 }
/-- java/util/ImmutableCollections -/
def k21 : Class := { plain "java/util/ImmutableCollections" (some 0) with
  accessFlags := 32
  interfaces := #[]
  cf := some (fileOf pool21 47 #[.nestMembers #[120, 169, 171, 173, 175, 111, 177, 179, 181, 183, 12, 10, 185, 187, 189, 191, 193, 195]] #[{ accessFlags := 2, nameIndex := 5, descriptorIndex := 6, attributes := #[] }, { accessFlags := 8, nameIndex := 142, descriptorIndex := 143, attributes := #[] }] 32 2 #[] #[{ accessFlags := 26, nameIndex := 95, descriptorIndex := 96, attributes := #[] }, { accessFlags := 26, nameIndex := 99, descriptorIndex := 17, attributes := #[] }, { accessFlags := 10, nameIndex := 106, descriptorIndex := 56, attributes := #[] }, { accessFlags := 26, nameIndex := 109, descriptorIndex := 110, attributes := #[] }, { accessFlags := 24, nameIndex := 62, descriptorIndex := 63, attributes := #[] }, { accessFlags := 24, nameIndex := 72, descriptorIndex := 63, attributes := #[] }, { accessFlags := 24, nameIndex := 118, descriptorIndex := 119, attributes := #[] }, { accessFlags := 24, nameIndex := 125, descriptorIndex := 126, attributes := #[] }, { accessFlags := 24, nameIndex := 131, descriptorIndex := 132, attributes := #[] }, { accessFlags := 4120, nameIndex := 50, descriptorIndex := 17, attributes := #[] }])
  fields := #[{ name := "SALT32L", type := .long, accessFlags := 26, slot := 0, constantValue := 0 }, { name := "REVERSE", type := .boolean, accessFlags := 26, slot := 1, constantValue := 0 }, { name := "archivedObjects", type := (.array (.object "java/lang/Object")), accessFlags := 10, slot := 2, constantValue := 0 }, { name := "EMPTY", type := (.object "java/lang/Object"), accessFlags := 26, slot := 3, constantValue := 0 }, { name := "EMPTY_LIST", type := (.object "java/util/ImmutableCollections$ListN"), accessFlags := 24, slot := 4, constantValue := 0 }, { name := "EMPTY_LIST_NULLS", type := (.object "java/util/ImmutableCollections$ListN"), accessFlags := 24, slot := 5, constantValue := 0 }, { name := "EMPTY_SET", type := (.object "java/util/ImmutableCollections$SetN"), accessFlags := 24, slot := 6, constantValue := 0 }, { name := "EMPTY_MAP", type := (.object "java/util/ImmutableCollections$MapN"), accessFlags := 24, slot := 7, constantValue := 0 }, { name := "EXPAND_FACTOR", type := .int, accessFlags := 24, slot := 8, constantValue := 0 }, { name := "$assertionsDisabled", type := .boolean, accessFlags := 4120, slot := 9, constantValue := 0 }]
  methods := #[k21m0, k21m1]
  instanceTypes := #[]
  staticTypes := #[.long, .boolean, (.array (.object "java/lang/Object")), (.object "java/lang/Object"), (.object "java/util/ImmutableCollections$ListN"), (.object "java/util/ImmutableCollections$ListN"), (.object "java/util/ImmutableCollections$SetN"), (.object "java/util/ImmutableCollections$MapN"), .int, .boolean]
  resolved := Array.replicate 213 none
  statics := some 5 }

def pool22 : Array CpInfo := pool [(2, .class_ 4), (1, u "java/lang/Object"), (0, u "<init>"), (0, u "()V"), (35, .class_ 44), (1, u "java/util/Objects"), (0, u "requireNonNull"), (48, u "(Ljava/lang/Object;Ljava/lang/String;)Ljava/lang/Object;")] 89

def k22m0 : Method := { name := "<init>", desc := "()V", sig := { parameters := [], returnType := none }, accessFlags := 2, code := none }
def k22c1 : Code := { maxStack := 3, maxLocals := 2, code := jdk_31_method_11_code, exceptionTable := #[], attributes := #[] }
def k22m1 : Method := { name := "requireNonNull", desc := "(Ljava/lang/Object;Ljava/lang/String;)Ljava/lang/Object;", sig := { parameters := [(.object "java/lang/Object"), (.object "java/lang/String")], returnType := some (.object "java/lang/Object") }, accessFlags := 9, code := some k22c1 }
/-- java/util/Objects -/
def k22 : Class := { plain "java/util/Objects" (some 0) with
  accessFlags := 49
  interfaces := #[]
  cf := some (fileOf pool22 42 #[] #[{ accessFlags := 2, nameIndex := 5, descriptorIndex := 6, attributes := #[] }, { accessFlags := 9, nameIndex := 45, descriptorIndex := 94, attributes := #[] }] 49 2 #[] #[])
  fields := #[]
  methods := #[k22m0, k22m1]
  instanceTypes := #[]
  staticTypes := #[]
  resolved := Array.replicate 184 none
  statics := none }

def pool23 : Array CpInfo := pool [(2, .class_ 4), (1, u "java/lang/Object"), (0, u "<init>"), (0, u "()V"), (1, .class_ 10), (1, u "java/util/AbstractCollection"), (66, .class_ 78), (0, u "java/util/Collection")] 81

def k23m0 : Method := { name := "<init>", desc := "()V", sig := { parameters := [], returnType := none }, accessFlags := 4, code := none }
/-- java/util/AbstractCollection -/
def k23 : Class := { plain "java/util/AbstractCollection" (some 0) with
  accessFlags := 1057
  interfaces := #[18]
  cf := some (fileOf pool23 8 #[] #[{ accessFlags := 4, nameIndex := 5, descriptorIndex := 6, attributes := #[] }] 1057 2 #[77] #[])
  fields := #[]
  methods := #[k23m0]
  instanceTypes := #[]
  staticTypes := #[]
  resolved := Array.replicate 160 none
  statics := none }

def pool24 : Array CpInfo := pool [(2, .class_ 4), (1, u "java/util/AbstractCollection"), (0, u "<init>"), (0, u "()V"), (1, .class_ 10), (1, u "java/util/ImmutableCollections"), (2, .class_ 14), (0, u "java/util/ImmutableCollections$AbstractImmutableCollection")] 41

def k24m0 : Method := { name := "<init>", desc := "()V", sig := { parameters := [], returnType := none }, accessFlags := 0, code := none }
/-- java/util/ImmutableCollections$AbstractImmutableCollection -/
def k24 : Class := { plain "java/util/ImmutableCollections$AbstractImmutableCollection" (some 23) with
  accessFlags := 1056
  interfaces := #[]
  cf := some (fileOf pool24 13 #[.nestHost 8] #[{ accessFlags := 0, nameIndex := 5, descriptorIndex := 6, attributes := #[] }] 1056 2 #[] #[])
  fields := #[]
  methods := #[k24m0]
  instanceTypes := #[]
  staticTypes := #[]
  resolved := Array.replicate 56 none
  statics := none }

def pool25 : Array CpInfo := pool [(1, .class_ 2), (0, u "java/util/RandomAccess"), (0, .class_ 4), (0, u "java/lang/Object")] 2

/-- java/util/RandomAccess -/
def k25 : Class := { plain "java/util/RandomAccess" (some 0) with
  accessFlags := 1537
  interfaces := #[]
  cf := some (fileOf pool25 1 #[] #[] 1537 3 #[] #[])
  fields := #[]
  methods := #[]
  instanceTypes := #[]
  staticTypes := #[]
  resolved := Array.replicate 7 none
  statics := none }

def pool26 : Array CpInfo := pool [(2, .class_ 4), (1, u "java/util/ImmutableCollections$AbstractImmutableCollection"), (0, u "<init>"), (0, u "()V"), (1, .class_ 10), (1, u "java/util/ImmutableCollections"), (3, .class_ 16), (1, u "java/util/ImmutableCollections$AbstractImmutableList"), (60, .class_ 78), (0, u "java/util/List"), (45, .class_ 125), (0, u "java/util/RandomAccess")] 70

def k26m0 : Method := { name := "<init>", desc := "()V", sig := { parameters := [], returnType := none }, accessFlags := 0, code := none }
/-- java/util/ImmutableCollections$AbstractImmutableList -/
def k26 : Class := { plain "java/util/ImmutableCollections$AbstractImmutableList" (some 24) with
  accessFlags := 1056
  interfaces := #[20, 25]
  cf := some (fileOf pool26 14 #[.nestHost 8] #[{ accessFlags := 0, nameIndex := 5, descriptorIndex := 6, attributes := #[] }] 1056 2 #[77, 124] #[])
  fields := #[]
  methods := #[k26m0]
  instanceTypes := #[]
  staticTypes := #[]
  resolved := Array.replicate 196 none
  statics := none }

def pool27 : Array CpInfo := pool [(2, .class_ 4), (1, u "java/util/ImmutableCollections$AbstractImmutableList"), (9, .class_ 16), (1, u "java/util/ImmutableCollections$List12"), (0, u "e0"), (0, u "Ljava/lang/Object;"), (1, .class_ 22), (1, u "java/util/ImmutableCollections"), (3, u "e1"), (43, .class_ 71), (0, u "java/io/Serializable")] 53

/-- java/util/ImmutableCollections$List12 -/
def k27 : Class := { plain "java/util/ImmutableCollections$List12" (some 26) with
  accessFlags := 48
  interfaces := #[4]
  cf := some (fileOf pool27 14 #[.nestHost 20] #[] 48 2 #[70] #[{ accessFlags := 18, nameIndex := 17, descriptorIndex := 18, attributes := #[] }, { accessFlags := 18, nameIndex := 26, descriptorIndex := 18, attributes := #[] }])
  fields := #[{ name := "e0", type := (.object "java/lang/Object"), accessFlags := 18, slot := 0, constantValue := 0 }, { name := "e1", type := (.object "java/lang/Object"), accessFlags := 18, slot := 1, constantValue := 0 }]
  methods := #[]
  instanceTypes := #[(.object "java/lang/Object"), (.object "java/lang/Object")]
  staticTypes := #[]
  resolved := Array.replicate 125 none
  statics := none }

def pool28 : Array CpInfo := pool [(2, .class_ 4), (1, u "java/util/ImmutableCollections$AbstractImmutableList"), (3, .class_ 10), (1, u "java/util/ImmutableCollections$ListN"), (0, u "elements"), (0, u "[Ljava/lang/Object;"), (2, u "allowNulls"), (0, u "Z"), (42, .class_ 60), (0, u "java/io/Serializable"), (53, .class_ 115), (0, u "java/util/ImmutableCollections")] 3

/-- java/util/ImmutableCollections$ListN -/
def k28 : Class := { plain "java/util/ImmutableCollections$ListN" (some 26) with
  accessFlags := 48
  interfaces := #[4]
  cf := some (fileOf pool28 8 #[.nestHost 114] #[] 48 2 #[59] #[{ accessFlags := 18, nameIndex := 11, descriptorIndex := 12, attributes := #[] }, { accessFlags := 18, nameIndex := 15, descriptorIndex := 16, attributes := #[] }])
  fields := #[{ name := "elements", type := (.array (.object "java/lang/Object")), accessFlags := 18, slot := 0, constantValue := 0 }, { name := "allowNulls", type := .boolean, accessFlags := 18, slot := 1, constantValue := 0 }]
  methods := #[]
  instanceTypes := #[(.array (.object "java/lang/Object")), .boolean]
  staticTypes := #[]
  resolved := Array.replicate 119 none
  statics := none }

def pool29 : Array CpInfo := pool [(4, .class_ 6), (1, u "java/lang/Object"), (0, u "<init>"), (0, u "()V"), (5, .class_ 16), (1, u "java/lang/StringLatin1"), (104, u "$assertionsDisabled"), (0, u "Z"), (98, .class_ 223), (1, u "java/lang/StringLatin1$LinesSpliterator"), (166, .class_ 391), (0, u "java/lang/StringLatin1$CharsSpliterator")] 3

def k29m0 : Method := { name := "<init>", desc := "()V", sig := { parameters := [], returnType := none }, accessFlags := 0, code := none }
/-- java/lang/StringLatin1 -/
def k29 : Class := { plain "java/lang/StringLatin1" (some 0) with
  accessFlags := 48
  interfaces := #[]
  cf := some (fileOf pool29 14 #[.nestMembers #[390, 221]] #[{ accessFlags := 0, nameIndex := 7, descriptorIndex := 8, attributes := #[] }] 48 4 #[] #[{ accessFlags := 4120, nameIndex := 121, descriptorIndex := 122, attributes := #[] }])
  fields := #[{ name := "$assertionsDisabled", type := .boolean, accessFlags := 4120, slot := 0, constantValue := 0 }]
  methods := #[k29m0]
  instanceTypes := #[]
  staticTypes := #[.boolean]
  resolved := Array.replicate 395 none
  statics := none }

def pool30 : Array CpInfo := pool [(2, .class_ 4), (1, u "java/lang/Object"), (0, u "<init>"), (0, u "()V"), (17, .class_ 26), (1, u "jdk/internal/util/Preconditions"), (28, .class_ 56), (0, u "jdk/internal/util/Preconditions$4"), (57, .class_ 115), (0, u "jdk/internal/util/Preconditions$1"), (7, u "SIOOBE_FORMATTER"), (0, u "Ljava/util/function/BiFunction;"), (0, .class_ 126), (0, u "jdk/internal/util/Preconditions$2"), (3, u "AIOOBE_FORMATTER"), (0, .class_ 132), (0, u "jdk/internal/util/Preconditions$3"), (3, u "IOOBE_FORMATTER")] 57

def k30m0 : Method := { name := "<init>", desc := "()V", sig := { parameters := [], returnType := none }, accessFlags := 1, code := none }
/-- jdk/internal/util/Preconditions -/
def k30 : Class := { plain "jdk/internal/util/Preconditions" (some 0) with
  accessFlags := 33
  interfaces := #[]
  cf := some (fileOf pool30 24 #[.nestMembers #[55, 131, 125, 114]] #[{ accessFlags := 1, nameIndex := 5, descriptorIndex := 6, attributes := #[] }] 33 2 #[] #[{ accessFlags := 25, nameIndex := 123, descriptorIndex := 124, attributes := #[] }, { accessFlags := 25, nameIndex := 130, descriptorIndex := 124, attributes := #[] }, { accessFlags := 25, nameIndex := 136, descriptorIndex := 124, attributes := #[] }])
  fields := #[{ name := "SIOOBE_FORMATTER", type := (.object "java/util/function/BiFunction"), accessFlags := 25, slot := 0, constantValue := 0 }, { name := "AIOOBE_FORMATTER", type := (.object "java/util/function/BiFunction"), accessFlags := 25, slot := 1, constantValue := 0 }, { name := "IOOBE_FORMATTER", type := (.object "java/util/function/BiFunction"), accessFlags := 25, slot := 2, constantValue := 0 }]
  methods := #[k30m0]
  instanceTypes := #[]
  staticTypes := #[(.object "java/util/function/BiFunction"), (.object "java/util/function/BiFunction"), (.object "java/util/function/BiFunction")]
  resolved := Array.replicate 194 none
  statics := some 6 }

def pool31 : Array CpInfo := pool [(9, u "<init>"), (6, .class_ 18), (1, u "java/lang/Object"), (0, u "()V"), (1, .class_ 23), (1, u "jdk/internal/util/ArraysSupport"), (0, u "LOG2_ARRAY_LONG_INDEX_SCALE"), (0, u "I"), (2, u "U"), (0, u "Ljdk/internal/misc/Unsafe;"), (8, u "BIG_ENDIAN"), (0, u "Z"), (8, u "LOG2_BYTE_BIT_SIZE"), (4, u "LOG2_ARRAY_INT_INDEX_SCALE"), (54, u "JLA"), (0, u "Ljdk/internal/access/JavaLangAccess;"), (11, u "LOG2_ARRAY_BOOLEAN_INDEX_SCALE"), (9, u "LOG2_ARRAY_BYTE_INDEX_SCALE"), (5, u "LOG2_ARRAY_CHAR_INDEX_SCALE"), (5, u "LOG2_ARRAY_SHORT_INDEX_SCALE"), (18, u "LOG2_ARRAY_FLOAT_INDEX_SCALE"), (24, u "LOG2_ARRAY_DOUBLE_INDEX_SCALE"), (89, u "T_BOOLEAN"), (2, u "T_CHAR"), (1, u "T_FLOAT"), (1, u "T_DOUBLE"), (1, u "T_BYTE"), (1, u "T_SHORT"), (1, u "T_INT"), (1, u "T_LONG"), (1, u "SOFT_MAX_ARRAY_LENGTH")] 83

def k31m0 : Method := { name := "<init>", desc := "()V", sig := { parameters := [], returnType := none }, accessFlags := 2, code := none }
/-- jdk/internal/util/ArraysSupport -/
def k31 : Class := { plain "jdk/internal/util/ArraysSupport" (some 0) with
  accessFlags := 33
  interfaces := #[]
  cf := some (fileOf pool31 21 #[] #[{ accessFlags := 2, nameIndex := 9, descriptorIndex := 19, attributes := #[] }] 33 16 #[] #[{ accessFlags := 24, nameIndex := 28, descriptorIndex := 29, attributes := #[] }, { accessFlags := 26, nameIndex := 38, descriptorIndex := 39, attributes := #[] }, { accessFlags := 25, nameIndex := 121, descriptorIndex := 25, attributes := #[] }, { accessFlags := 25, nameIndex := 131, descriptorIndex := 25, attributes := #[] }, { accessFlags := 25, nameIndex := 137, descriptorIndex := 25, attributes := #[] }, { accessFlags := 25, nameIndex := 143, descriptorIndex := 25, attributes := #[] }, { accessFlags := 25, nameIndex := 53, descriptorIndex := 25, attributes := #[] }, { accessFlags := 25, nameIndex := 24, descriptorIndex := 25, attributes := #[] }, { accessFlags := 25, nameIndex := 162, descriptorIndex := 25, attributes := #[] }, { accessFlags := 25, nameIndex := 187, descriptorIndex := 25, attributes := #[] }, { accessFlags := 26, nameIndex := 48, descriptorIndex := 25, attributes := #[] }, { accessFlags := 25, nameIndex := 277, descriptorIndex := 25, attributes := #[] }, { accessFlags := 25, nameIndex := 280, descriptorIndex := 25, attributes := #[] }, { accessFlags := 25, nameIndex := 282, descriptorIndex := 25, attributes := #[] }, { accessFlags := 25, nameIndex := 284, descriptorIndex := 25, attributes := #[] }, { accessFlags := 25, nameIndex := 286, descriptorIndex := 25, attributes := #[] }, { accessFlags := 25, nameIndex := 288, descriptorIndex := 25, attributes := #[] }, { accessFlags := 25, nameIndex := 290, descriptorIndex := 25, attributes := #[] }, { accessFlags := 25, nameIndex := 292, descriptorIndex := 25, attributes := #[] }, { accessFlags := 26, nameIndex := 108, descriptorIndex := 109, attributes := #[] }, { accessFlags := 25, nameIndex := 294, descriptorIndex := 25, attributes := #[] }])
  fields := #[{ name := "U", type := (.object "jdk/internal/misc/Unsafe"), accessFlags := 24, slot := 0, constantValue := 0 }, { name := "BIG_ENDIAN", type := .boolean, accessFlags := 26, slot := 1, constantValue := 0 }, { name := "LOG2_ARRAY_BOOLEAN_INDEX_SCALE", type := .int, accessFlags := 25, slot := 2, constantValue := 0 }, { name := "LOG2_ARRAY_BYTE_INDEX_SCALE", type := .int, accessFlags := 25, slot := 3, constantValue := 0 }, { name := "LOG2_ARRAY_CHAR_INDEX_SCALE", type := .int, accessFlags := 25, slot := 4, constantValue := 0 }, { name := "LOG2_ARRAY_SHORT_INDEX_SCALE", type := .int, accessFlags := 25, slot := 5, constantValue := 0 }, { name := "LOG2_ARRAY_INT_INDEX_SCALE", type := .int, accessFlags := 25, slot := 6, constantValue := 0 }, { name := "LOG2_ARRAY_LONG_INDEX_SCALE", type := .int, accessFlags := 25, slot := 7, constantValue := 0 }, { name := "LOG2_ARRAY_FLOAT_INDEX_SCALE", type := .int, accessFlags := 25, slot := 8, constantValue := 0 }, { name := "LOG2_ARRAY_DOUBLE_INDEX_SCALE", type := .int, accessFlags := 25, slot := 9, constantValue := 0 }, { name := "LOG2_BYTE_BIT_SIZE", type := .int, accessFlags := 26, slot := 10, constantValue := 0 }, { name := "T_BOOLEAN", type := .int, accessFlags := 25, slot := 11, constantValue := 0 }, { name := "T_CHAR", type := .int, accessFlags := 25, slot := 12, constantValue := 0 }, { name := "T_FLOAT", type := .int, accessFlags := 25, slot := 13, constantValue := 0 }, { name := "T_DOUBLE", type := .int, accessFlags := 25, slot := 14, constantValue := 0 }, { name := "T_BYTE", type := .int, accessFlags := 25, slot := 15, constantValue := 0 }, { name := "T_SHORT", type := .int, accessFlags := 25, slot := 16, constantValue := 0 }, { name := "T_INT", type := .int, accessFlags := 25, slot := 17, constantValue := 0 }, { name := "T_LONG", type := .int, accessFlags := 25, slot := 18, constantValue := 0 }, { name := "JLA", type := (.object "jdk/internal/access/JavaLangAccess"), accessFlags := 26, slot := 19, constantValue := 0 }, { name := "SOFT_MAX_ARRAY_LENGTH", type := .int, accessFlags := 25, slot := 20, constantValue := 0 }]
  methods := #[k31m0]
  instanceTypes := #[]
  staticTypes := #[(.object "jdk/internal/misc/Unsafe"), .boolean, .int, .int, .int, .int, .int, .int, .int, .int, .int, .int, .int, .int, .int, .int, .int, .int, .int, (.object "jdk/internal/access/JavaLangAccess"), .int]
  resolved := Array.replicate 378 none
  statics := none }

def pool32 : Array CpInfo := pool [(1, u "java/lang/Cloneable"), (0, .class_ 1), (0, u "java/lang/Object"), (0, .class_ 3)] 3

/-- java/lang/Cloneable -/
def k32 : Class := { plain "java/lang/Cloneable" (some 0) with
  accessFlags := 1537
  interfaces := #[]
  cf := some (fileOf pool32 2 #[] #[] 1537 4 #[] #[])
  fields := #[]
  methods := #[]
  instanceTypes := #[]
  staticTypes := #[]
  resolved := Array.replicate 8 none
  statics := none }

/-- the primitive byte -/
def k33 : Class := { plain "byte" none with kind := .primitive 'B', accessFlags := 0x411 }
/-- [B -/
def k34 : Class := { plain "[B" (some 0) with kind := .array 33 .byte, interfaces := #[32, 4], accessFlags := 1041 }

/-- [Ljava/lang/Object; -/
def k35 : Class := { plain "[Ljava/lang/Object;" (some 0) with kind := .array 0 (.object "java/lang/Object"), interfaces := #[32, 4], accessFlags := 1041 }

def heap : Heap := #[{ cls := 9, slots := #[.long 0, .int 1, .null, .int 0, .null, .int 0, .int 0], vm := .statics 9 },
  { cls := 12, slots := #[.ref 10], vm := .statics 12 },
  { cls := 13, slots := #[.ref 11], vm := .statics 13 },
  { cls := 15, slots := #[.null, .null, .ref 8, .null, .null], vm := .statics 15 },
  { cls := 16, slots := #[.ref 12], vm := .statics 16 },
  { cls := 21, slots := #[.long 0, .int 0, .null, .null, .ref 9, .null, .null, .null, .int 0, .int 0], vm := .statics 21 },
  { cls := 30, slots := #[.null, .null, .null], vm := .statics 30 },
  { cls := 35, slots := #[], vm := .none },
  { cls := 15, slots := #[.null, .int 2, .int 0, .int 46], vm := .none },
  { cls := 28, slots := #[.ref 7, .int 0], vm := .none },
  { cls := 12, slots := #[.int 0, .double 0], vm := .none },
  { cls := 13, slots := #[.null], vm := .none },
  { cls := 16, slots := #[.int 0, .int 0], vm := .none }]
def classes : Array Class := #[k0, k1, k2, k3, k4, k5, k6, k7, k8, k9, k10, k11, k12, k13, k14, k15, k16, k17, k18, k19, k20, k21, k22, k23, k24, k25, k26, k27, k28, k29, k30, k31, k32, k33, k34, k35]
def interned : List (Array UInt16 × Addr) := []
def slotsUsed : Nat := 39
def theMethod : MethodId := ⟨1, 1⟩
def args0 : Array Value := #[.int 5, .int 1, .int 7, .int 8, .int 1]
def aboutOver (below : List Frame) : State where
  vm := { classes := classes, interned := interned.toArray }
  heap := heap
  slotsUsed := slotsUsed
  threads := #[{ frames := .invoking theMethod args0 :: below }]
def below0 : List Frame := [.native { method := ⟨0, 0⟩, args := #[] }]
def about1 : State := aboutOver below0
def p0 : Program := .bare "" "" ""
def e0 : Env := launch0.env 0 0 0
theorem w_frames : about1.frames = Frame.invoking theMethod args0 :: below0 := rfl
set_option maxRecDepth 65536 in
theorem w_args : argsFit about1.vm theMethod args0 = true := by decide +kernel
set_option maxRecDepth 65536 in
theorem w_heap : heapFits about1 = true := by decide +kernel
set_option maxRecDepth 65536 in
theorem w_runnable : about1.curStatus? = some .runnable := by decide +kernel
set_option maxRecDepth 65536 in
theorem w_alone : about1.alone = true := by decide +kernel
set_option maxRecDepth 65536 in
theorem w_named : about1.methodNamed? x = some theMethod := by decide +kernel
set_option maxRecDepth 65536 in
theorem w_hears : about1.hears theMethod below0 = true := by decide +kernel
set_option maxRecDepth 65536 in
theorem w_ripe : about1.ripe theMethod args0 below0 = true := by decide +kernel
theorem w_running : about1.status = .running := rfl
set_option maxRecDepth 65536 in
theorem w_room : about1.hasRoom e0.platform room_1 = true :=
  launch0.hasRoom_least _ room_1 (by decide +kernel) (by decide +kernel) (by decide +kernel) (by decide +kernel) (by decide +kernel) (by decide +kernel)
theorem allAtoms_all (ts : List Jvm.Cond) (a : Array Jvm.Value) (st : Jvm.State) : (allAtoms ts).before a st = ts.all (fun c => c.before a st) := by
  induction ts with
  | nil => rfl
  | cons c t ih =>
    show (Jvm.Cond.and c (allAtoms t)).before a st = _
    rw [Jvm.Cond.before_and, ih, List.all_cons]
def words1 : List Jvm.Cond := Jvm.Cond.code x code maxLocals ret :: tables_1
/-- a 'code' word, met by the world's own term for the bytes: nothing is compared byte by byte -/
theorem code_word {y : MethodName} {bytes : ByteArray} {mx : Nat} {rt : Option FieldType} {a : Array Value} {s : State} {m : MethodId} {meth : Method} {c : Code} (h1 : s.methodNamed? y = some m) (h2 : s.vm.method? m = some meth) (h3 : meth.code = some c) (h4 : c.code = bytes)
    (h5 : (c.maxLocals == mx && c.exceptionTable.isEmpty && decide (c.maxStack ≤ mostOperands) && decide (meth.sig.returnType = rt) && !meth.locks && decide (parseMethodDescriptor y.desc = some meth.sig)) = true) : (Jvm.Cond.code y bytes mx rt).before a s = true := by
  simp only [Bool.and_eq_true, beq_iff_eq, Bool.not_eq_true', decide_eq_true_eq] at h5
  obtain ⟨⟨⟨⟨⟨g1, g2⟩, g3⟩, g4⟩, g5⟩, g6⟩ := h5
  simp [Cond.before, Cond.holds, Cond.value, h1, h2, h3, h4, g1, g2, g3, g4, g5, g6]
def isCode : Jvm.Cond → Bool
  | .code _ _ _ _ => true
  | _ => false
theorem all_split {L : List Jvm.Cond} {P : Jvm.Cond → Bool} (h1 : L.all (fun c => isCode c || P c) = true) (h2 : ∀ c ∈ L.filter isCode, P c = true) : L.all P = true := by
  refine List.all_eq_true.mpr fun c hc => ?_
  have h := List.all_eq_true.mp h1 c hc
  rcases Bool.eq_false_or_eq_true (isCode c) with hi | hi
  · exact h2 c (List.mem_filter.mpr ⟨hc, hi⟩)
  · simpa [hi] using h
set_option maxRecDepth 65536 in
theorem w_c0 : (Jvm.Cond.code x code maxLocals ret).before args0 about1 = true := code_word (m := ⟨1, 1⟩) (meth := k1m1) (c := k1c1) (by decide +kernel) rfl rfl rfl (by decide +kernel)
set_option maxRecDepth 65536 in
theorem w_c1 : (Jvm.Cond.code ({ cls := "com/example/tracemark/tracemark/model/Score", name := "parse", desc := "(Ljava/lang/String;)Ljava/util/Optional;" } : Jvm.MethodName) prog_88_method_2_code (2 : Nat) (Option.some (Jvm.ClassFile.FieldType.object "java/util/Optional"))).before args0 about1 = true := code_word (m := ⟨10, 0⟩) (meth := k10m0) (c := k10c0) (by decide +kernel) rfl rfl rfl (by decide +kernel)
set_option maxRecDepth 65536 in
theorem w_c2 : (Jvm.Cond.code ({ cls := "com/example/tracemark/tracemark/model/Decimals", name := "parse", desc := "(Ljava/lang/String;)Ljava/util/OptionalDouble;" } : Jvm.MethodName) prog_60_method_2_code (3 : Nat) (Option.some (Jvm.ClassFile.FieldType.object "java/util/OptionalDouble"))).before args0 about1 = true := code_word (m := ⟨11, 1⟩) (meth := k11m1) (c := k11c1) (by decide +kernel) rfl rfl rfl (by decide +kernel)
set_option maxRecDepth 65536 in
theorem w_c3 : (Jvm.Cond.code ({ cls := "com/example/tracemark/tracemark/model/Decimals", name := "written", desc := "(Ljava/lang/String;)Z" } : Jvm.MethodName) prog_60_method_3_code (2 : Nat) (Option.some Jvm.ClassFile.FieldType.boolean)).before args0 about1 = true := code_word (m := ⟨11, 2⟩) (meth := k11m2) (c := k11c2) (by decide +kernel) rfl rfl rfl (by decide +kernel)
set_option maxRecDepth 65536 in
theorem w_c4 : (Jvm.Cond.code ({ cls := "com/example/tracemark/tracemark/model/Decimals", name := "sign", desc := "(Ljava/lang/String;I)I" } : Jvm.MethodName) prog_60_method_4_code (2 : Nat) (Option.some Jvm.ClassFile.FieldType.int)).before args0 about1 = true := code_word (m := ⟨11, 3⟩) (meth := k11m3) (c := k11c3) (by decide +kernel) rfl rfl rfl (by decide +kernel)
set_option maxRecDepth 65536 in
theorem w_c5 : (Jvm.Cond.code ({ cls := "java/lang/String", name := "length", desc := "()I" } : Jvm.MethodName) jdk_42_method_54_code (1 : Nat) (Option.some Jvm.ClassFile.FieldType.int)).before args0 about1 = true := code_word (m := ⟨9, 1⟩) (meth := k9m1) (c := k9c1) (by decide +kernel) rfl rfl rfl (by decide +kernel)
set_option maxRecDepth 65536 in
theorem w_c6 : (Jvm.Cond.code ({ cls := "java/lang/String", name := "coder", desc := "()B" } : Jvm.MethodName) jdk_42_method_152_code (1 : Nat) (Option.some Jvm.ClassFile.FieldType.byte)).before args0 about1 = true := code_word (m := ⟨9, 2⟩) (meth := k9m2) (c := k9c2) (by decide +kernel) rfl rfl rfl (by decide +kernel)
set_option maxRecDepth 65536 in
theorem w_c7 : (Jvm.Cond.code ({ cls := "com/example/tracemark/tracemark/model/Decimals", name := "digits", desc := "(Ljava/lang/String;I)I" } : Jvm.MethodName) prog_60_method_5_code (3 : Nat) (Option.some Jvm.ClassFile.FieldType.int)).before args0 about1 = true := code_word (m := ⟨11, 4⟩) (meth := k11m4) (c := k11c4) (by decide +kernel) rfl rfl rfl (by decide +kernel)
set_option maxRecDepth 65536 in
theorem w_c8 : (Jvm.Cond.code ({ cls := "java/util/OptionalDouble", name := "empty", desc := "()Ljava/util/OptionalDouble;" } : Jvm.MethodName) jdk_2648_method_2_code (0 : Nat) (Option.some (Jvm.ClassFile.FieldType.object "java/util/OptionalDouble"))).before args0 about1 = true := code_word (m := ⟨12, 1⟩) (meth := k12m1) (c := k12c1) (by decide +kernel) rfl rfl rfl (by decide +kernel)
set_option maxRecDepth 65536 in
theorem w_c9 : (Jvm.Cond.code ({ cls := "java/util/OptionalDouble", name := "isPresent", desc := "()Z" } : Jvm.MethodName) jdk_2648_method_6_code (1 : Nat) (Option.some Jvm.ClassFile.FieldType.boolean)).before args0 about1 = true := code_word (m := ⟨12, 2⟩) (meth := k12m2) (c := k12c2) (by decide +kernel) rfl rfl rfl (by decide +kernel)
set_option maxRecDepth 65536 in
theorem w_c10 : (Jvm.Cond.code ({ cls := "java/util/Optional", name := "empty", desc := "()Ljava/util/Optional;" } : Jvm.MethodName) jdk_32_method_1_code (1 : Nat) (Option.some (Jvm.ClassFile.FieldType.object "java/util/Optional"))).before args0 about1 = true := code_word (m := ⟨13, 0⟩) (meth := k13m0) (c := k13c0) (by decide +kernel) rfl rfl rfl (by decide +kernel)
set_option maxRecDepth 65536 in
theorem w_c11 : (Jvm.Cond.code ({ cls := "com/example/tracemark/tracemark/model/Feature", name := "<init>", desc := "(ILjava/lang/String;Ljava/lang/String;IIILjava/lang/String;Ljava/util/Optional;Ljava/lang/String;)V" } : Jvm.MethodName) prog_65_method_2_code (10 : Nat) (Option.none : Option Jvm.ClassFile.FieldType)).before args0 about1 = true := code_word (m := ⟨3, 1⟩) (meth := k3m1) (c := k3c1) (by decide +kernel) rfl rfl rfl (by decide +kernel)
set_option maxRecDepth 65536 in
theorem w_c12 : (Jvm.Cond.code ({ cls := "java/util/OptionalInt", name := "empty", desc := "()Ljava/util/OptionalInt;" } : Jvm.MethodName) jdk_2649_method_2_code (0 : Nat) (Option.some (Jvm.ClassFile.FieldType.object "java/util/OptionalInt"))).before args0 about1 = true := code_word (m := ⟨16, 1⟩) (meth := k16m1) (c := k16c1) (by decide +kernel) rfl rfl rfl (by decide +kernel)
set_option maxRecDepth 65536 in
theorem w_c13 : (Jvm.Cond.code ({ cls := "java/util/List", name := "of", desc := "()Ljava/util/List;" } : Jvm.MethodName) jdk_40_method_36_code (0 : Nat) (Option.some (Jvm.ClassFile.FieldType.object "java/util/List"))).before args0 about1 = true := code_word (m := ⟨20, 0⟩) (meth := k20m0) (c := k20c0) (by decide +kernel) rfl rfl rfl (by decide +kernel)
set_option maxRecDepth 65536 in
theorem w_c14 : (Jvm.Cond.code ({ cls := "com/example/tracemark/tracemark/model/Feature", name := "<init>", desc := "(ILjava/lang/String;Ljava/lang/String;IIILjava/lang/String;Ljava/util/Optional;Ljava/lang/String;Lcom/example/tracemark/tracemark/model/Strand;Ljava/util/OptionalInt;Ljava/util/List;)V" } : Jvm.MethodName) prog_65_method_1_code (13 : Nat) (Option.none : Option Jvm.ClassFile.FieldType)).before args0 about1 = true := code_word (m := ⟨3, 0⟩) (meth := k3m0) (c := k3c0) (by decide +kernel) rfl rfl rfl (by decide +kernel)
set_option maxRecDepth 65536 in
theorem w_c15 : (Jvm.Cond.code ({ cls := "java/lang/Record", name := "<init>", desc := "()V" } : Jvm.MethodName) jdk_30_method_1_code (1 : Nat) (Option.none : Option Jvm.ClassFile.FieldType)).before args0 about1 = true := code_word (m := ⟨2, 0⟩) (meth := k2m0) (c := k2c0) (by decide +kernel) rfl rfl rfl (by decide +kernel)
set_option maxRecDepth 65536 in
theorem w_c16 : (Jvm.Cond.code ({ cls := "java/lang/Object", name := "<init>", desc := "()V" } : Jvm.MethodName) object_method_1_code (1 : Nat) (Option.none : Option Jvm.ClassFile.FieldType)).before args0 about1 = true := code_word (m := ⟨0, 0⟩) (meth := k0m0) (c := k0c0) (by decide +kernel) rfl rfl rfl (by decide +kernel)
set_option maxRecDepth 65536 in
theorem w_c17 : (Jvm.Cond.code ({ cls := "java/util/Objects", name := "requireNonNull", desc := "(Ljava/lang/Object;Ljava/lang/String;)Ljava/lang/Object;" } : Jvm.MethodName) jdk_31_method_11_code (2 : Nat) (Option.some (Jvm.ClassFile.FieldType.object "java/lang/Object"))).before args0 about1 = true := code_word (m := ⟨22, 1⟩) (meth := k22m1) (c := k22c1) (by decide +kernel) rfl rfl rfl (by decide +kernel)
set_option maxRecDepth 65536 in
theorem w_c18 : (Jvm.Cond.code ({ cls := "java/util/List", name := "copyOf", desc := "(Ljava/util/Collection;)Ljava/util/List;" } : Jvm.MethodName) jdk_40_method_48_code (1 : Nat) (Option.some (Jvm.ClassFile.FieldType.object "java/util/List"))).before args0 about1 = true := code_word (m := ⟨20, 1⟩) (meth := k20m1) (c := k20c1) (by decide +kernel) rfl rfl rfl (by decide +kernel)
set_option maxRecDepth 65536 in
theorem w_c19 : (Jvm.Cond.code ({ cls := "java/util/ImmutableCollections", name := "listCopy", desc := "(Ljava/util/Collection;)Ljava/util/List;" } : Jvm.MethodName) jdk_56_method_3_code (2 : Nat) (Option.some (Jvm.ClassFile.FieldType.object "java/util/List"))).before args0 about1 = true := code_word (m := ⟨21, 1⟩) (meth := k21m1) (c := k21c1) (by decide +kernel) rfl rfl rfl (by decide +kernel)
set_option maxRecDepth 65536 in
theorem w_c20 : (Jvm.Cond.code ({ cls := "com/example/tracemark/tracemark/model/Feature", name := "nonPositional", desc := "()Z" } : Jvm.MethodName) prog_65_method_4_code (1 : Nat) (Option.some Jvm.ClassFile.FieldType.boolean)).before args0 about1 = true := code_word (m := ⟨3, 2⟩) (meth := k3m2) (c := k3c2) (by decide +kernel) rfl rfl rfl (by decide +kernel)
def codes1 : List Jvm.Cond := [Jvm.Cond.code x code maxLocals ret, Jvm.Cond.code ({ cls := "com/example/tracemark/tracemark/model/Score", name := "parse", desc := "(Ljava/lang/String;)Ljava/util/Optional;" } : Jvm.MethodName) prog_88_method_2_code (2 : Nat) (Option.some (Jvm.ClassFile.FieldType.object "java/util/Optional")), Jvm.Cond.code ({ cls := "com/example/tracemark/tracemark/model/Decimals", name := "parse", desc := "(Ljava/lang/String;)Ljava/util/OptionalDouble;" } : Jvm.MethodName) prog_60_method_2_code (3 : Nat) (Option.some (Jvm.ClassFile.FieldType.object "java/util/OptionalDouble")), Jvm.Cond.code ({ cls := "com/example/tracemark/tracemark/model/Decimals", name := "written", desc := "(Ljava/lang/String;)Z" } : Jvm.MethodName) prog_60_method_3_code (2 : Nat) (Option.some Jvm.ClassFile.FieldType.boolean), Jvm.Cond.code ({ cls := "com/example/tracemark/tracemark/model/Decimals", name := "sign", desc := "(Ljava/lang/String;I)I" } : Jvm.MethodName) prog_60_method_4_code (2 : Nat) (Option.some Jvm.ClassFile.FieldType.int), Jvm.Cond.code ({ cls := "java/lang/String", name := "length", desc := "()I" } : Jvm.MethodName) jdk_42_method_54_code (1 : Nat) (Option.some Jvm.ClassFile.FieldType.int), Jvm.Cond.code ({ cls := "java/lang/String", name := "coder", desc := "()B" } : Jvm.MethodName) jdk_42_method_152_code (1 : Nat) (Option.some Jvm.ClassFile.FieldType.byte), Jvm.Cond.code ({ cls := "com/example/tracemark/tracemark/model/Decimals", name := "digits", desc := "(Ljava/lang/String;I)I" } : Jvm.MethodName) prog_60_method_5_code (3 : Nat) (Option.some Jvm.ClassFile.FieldType.int), Jvm.Cond.code ({ cls := "java/util/OptionalDouble", name := "empty", desc := "()Ljava/util/OptionalDouble;" } : Jvm.MethodName) jdk_2648_method_2_code (0 : Nat) (Option.some (Jvm.ClassFile.FieldType.object "java/util/OptionalDouble")), Jvm.Cond.code ({ cls := "java/util/OptionalDouble", name := "isPresent", desc := "()Z" } : Jvm.MethodName) jdk_2648_method_6_code (1 : Nat) (Option.some Jvm.ClassFile.FieldType.boolean), Jvm.Cond.code ({ cls := "java/util/Optional", name := "empty", desc := "()Ljava/util/Optional;" } : Jvm.MethodName) jdk_32_method_1_code (1 : Nat) (Option.some (Jvm.ClassFile.FieldType.object "java/util/Optional")), Jvm.Cond.code ({ cls := "com/example/tracemark/tracemark/model/Feature", name := "<init>", desc := "(ILjava/lang/String;Ljava/lang/String;IIILjava/lang/String;Ljava/util/Optional;Ljava/lang/String;)V" } : Jvm.MethodName) prog_65_method_2_code (10 : Nat) (Option.none : Option Jvm.ClassFile.FieldType), Jvm.Cond.code ({ cls := "java/util/OptionalInt", name := "empty", desc := "()Ljava/util/OptionalInt;" } : Jvm.MethodName) jdk_2649_method_2_code (0 : Nat) (Option.some (Jvm.ClassFile.FieldType.object "java/util/OptionalInt")), Jvm.Cond.code ({ cls := "java/util/List", name := "of", desc := "()Ljava/util/List;" } : Jvm.MethodName) jdk_40_method_36_code (0 : Nat) (Option.some (Jvm.ClassFile.FieldType.object "java/util/List")), Jvm.Cond.code ({ cls := "com/example/tracemark/tracemark/model/Feature", name := "<init>", desc := "(ILjava/lang/String;Ljava/lang/String;IIILjava/lang/String;Ljava/util/Optional;Ljava/lang/String;Lcom/example/tracemark/tracemark/model/Strand;Ljava/util/OptionalInt;Ljava/util/List;)V" } : Jvm.MethodName) prog_65_method_1_code (13 : Nat) (Option.none : Option Jvm.ClassFile.FieldType), Jvm.Cond.code ({ cls := "java/lang/Record", name := "<init>", desc := "()V" } : Jvm.MethodName) jdk_30_method_1_code (1 : Nat) (Option.none : Option Jvm.ClassFile.FieldType), Jvm.Cond.code ({ cls := "java/lang/Object", name := "<init>", desc := "()V" } : Jvm.MethodName) object_method_1_code (1 : Nat) (Option.none : Option Jvm.ClassFile.FieldType), Jvm.Cond.code ({ cls := "java/util/Objects", name := "requireNonNull", desc := "(Ljava/lang/Object;Ljava/lang/String;)Ljava/lang/Object;" } : Jvm.MethodName) jdk_31_method_11_code (2 : Nat) (Option.some (Jvm.ClassFile.FieldType.object "java/lang/Object")), Jvm.Cond.code ({ cls := "java/util/List", name := "copyOf", desc := "(Ljava/util/Collection;)Ljava/util/List;" } : Jvm.MethodName) jdk_40_method_48_code (1 : Nat) (Option.some (Jvm.ClassFile.FieldType.object "java/util/List")), Jvm.Cond.code ({ cls := "java/util/ImmutableCollections", name := "listCopy", desc := "(Ljava/util/Collection;)Ljava/util/List;" } : Jvm.MethodName) jdk_56_method_3_code (2 : Nat) (Option.some (Jvm.ClassFile.FieldType.object "java/util/List")), Jvm.Cond.code ({ cls := "com/example/tracemark/tracemark/model/Feature", name := "nonPositional", desc := "()Z" } : Jvm.MethodName) prog_65_method_4_code (1 : Nat) (Option.some Jvm.ClassFile.FieldType.boolean)]
set_option maxRecDepth 65536 in
theorem codes_eq : words1.filter isCode = codes1 := rfl
theorem w_codes : ∀ c ∈ words1.filter isCode, c.before args0 about1 = true := by
  rw [codes_eq]
  intro c hc
  simp only [codes1, List.mem_cons, List.not_mem_nil, or_false] at hc
  rcases hc with rfl | rfl | rfl | rfl | rfl | rfl | rfl | rfl | rfl | rfl | rfl | rfl | rfl | rfl | rfl | rfl | rfl | rfl | rfl | rfl | rfl
  · exact w_c0
  · exact w_c1
  · exact w_c2
  · exact w_c3
  · exact w_c4
  · exact w_c5
  · exact w_c6
  · exact w_c7
  · exact w_c8
  · exact w_c9
  · exact w_c10
  · exact w_c11
  · exact w_c12
  · exact w_c13
  · exact w_c14
  · exact w_c15
  · exact w_c16
  · exact w_c17
  · exact w_c18
  · exact w_c19
  · exact w_c20
set_option maxRecDepth 65536 in
theorem w_t1 : (words1.take 24).all (fun c => isCode c || c.before args0 about1) = true := by decide +kernel
set_option maxRecDepth 65536 in
theorem w_t2 : ((words1.drop 24).take 24).all (fun c => isCode c || c.before args0 about1) = true := by decide +kernel
set_option maxRecDepth 65536 in
theorem w_t3 : (((words1.drop 24).drop 24).take 24).all (fun c => isCode c || c.before args0 about1) = true := by decide +kernel
set_option maxRecDepth 65536 in
theorem w_t4 : ((((words1.drop 24).drop 24).drop 24).take 24).all (fun c => isCode c || c.before args0 about1) = true := by decide +kernel
set_option maxRecDepth 65536 in
theorem w_t5 : (((((words1.drop 24).drop 24).drop 24).drop 24).take 24).all (fun c => isCode c || c.before args0 about1) = true := by decide +kernel
set_option maxRecDepth 65536 in
theorem w_t6 : ((((((words1.drop 24).drop 24).drop 24).drop 24).drop 24).take 24).all (fun c => isCode c || c.before args0 about1) = true := by decide +kernel
set_option maxRecDepth 65536 in
theorem w_t7 : ((((((words1.drop 24).drop 24).drop 24).drop 24).drop 24).drop 24).all (fun c => isCode c || c.before args0 about1) = true := by decide +kernel
theorem w_tables : (allAtoms (Jvm.Cond.code x code maxLocals ret :: tables_1)).before args0 about1 = true := by
  rw [allAtoms_all]
  show words1.all (fun c => c.before args0 about1) = true
  refine all_split ?_ w_codes
  rw [← List.take_append_drop 24 words1, List.all_append, w_t1, ← List.take_append_drop 24 (words1.drop 24), List.all_append, w_t2, ← List.take_append_drop 24 ((words1.drop 24).drop 24), List.all_append, w_t3, ← List.take_append_drop 24 (((words1.drop 24).drop 24).drop 24), List.all_append, w_t4, ← List.take_append_drop 24 ((((words1.drop 24).drop 24).drop 24).drop 24), List.all_append, w_t5, ← List.take_append_drop 24 (((((words1.drop 24).drop 24).drop 24).drop 24).drop 24), List.all_append, w_t6, w_t7]
  rfl
set_option maxRecDepth 65536 in
theorem w_rest : rest_1_c.before args0 about1 = true := by decide +kernel
set_option maxRecDepth 65536 in
theorem w_case : (Jvm.Cond.and given_1 narrow_1).before args0 about1 = true := by decide +kernel
set_option maxRecDepth 65536 in
theorem w_consts : constsHeld consts_1 about1 := Jvm.Lit.constsHeldB_iff.mp (by decide +kernel)
theorem w_applies : (headSpec (Jvm.Cond.code x code maxLocals ret :: tables_1) room_1).applies x e0.platform about1 = true :=
  (Spec.applies_iff w_frames).mpr ⟨w_running, w_runnable, w_alone, w_named, w_hears, w_ripe, w_room, w_tables⟩
theorem atStart : AtStart classFile x code maxLocals ret World_1 tables_1 room_1 Calls_1 rest_1 Pre_1 launch0 p0 e0 about1 theMethod args0 below0 :=
  ⟨lists_1, trivial, launch0.admits_env _ _ _, launch0.least_env, fairChoices_fair.cas, fairChoices_fair.clock, w_frames, w_args, w_heap, w_applies, ⟨w_consts, trivial⟩, w_rest, w_case⟩
end start1
theorem witness_1 : WitnessClaimed_1 := ⟨start1.p0, start1.e0, start1.about1, start1.theMethod, start1.args0, start1.below0, start1.atStart⟩
end Jvm.Pilot.@@N@@
