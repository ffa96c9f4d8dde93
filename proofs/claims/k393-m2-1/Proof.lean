import JvmDerived
import JvmDerived.Pilot.@@N@@Statement
import JvmDerived.Pilot.@@N@@Code
set_option linter.unusedVariables false
set_option linter.unusedSimpArgs false
namespace Jvm.Pilot.@@N@@
open Jvm Jvm.ClassFile Sem Op Lib Jvm.Free Jvm.Stand Jvm.LawKit Jvm.RoadKit Bundle Jvm.Pilot.@@N@@.Jvm.D
section Own
variable {p : Program} {l : Launch} {e : Env} {R : Room} {s : State} {m : MethodId} {args : Array Value} {below : List Frame} {meth : Method} {c : Code} {T : State} {locs : List Loc} {cells slots : Nat} {Z : State} {a0 : Array Value} {h h' : Heap} {rc rs : Nat} {Q Qc : Option Value → Heap → List Loc → Prop}
/-- from here the run comes to its end, and leaves what Q says -/
def GG (p : Program) (e : Env) (below : List Frame) (s : State) (rc rs : Nat) (Q : Option Value → Heap → List Loc → Prop) (T : State) (g : JFrame) : Prop :=
  ∃ s₂ o, Steps p.tables e below (T.setTop g) s₂ ∧ s₂.status = .running ∧ Ended s₂ below o ∧ ∃ v L, o = .returned v ∧ Q v s₂.heap L ∧ FrameEnd s o s₂ L rc rs
theorem own_go {T' : State} {g g' : JFrame} (st : ∀ t, Steps p.tables e below (T'.setTop g') t → Steps p.tables e below (T.setTop g) t) (k : GG p e below s rc rs Q T' g') : GG p e below s rc rs Q T g := by
  obtain ⟨s₂, o, h1, h2⟩ := k
  exact ⟨s₂, o, st _ h1, h2⟩
theorem own_in {g g' : JFrame} (q : g = g') (k : GG p e below s rc rs Q T g') : GG p e below s rc rs Q T g := q ▸ k
theorem own_if {g1 g2 : JFrame} {P : Prop} [Decidable P] (k1 : P → GG p e below s rc rs Q T g1) (k2 : ¬ P → GG p e below s rc rs Q T g2) : GG p e below s rc rs Q T (if P then g1 else g2) := by
  by_cases q : P
  · rw [if_pos q]; exact k1 q
  · rw [if_neg q]; exact k2 q
theorem own_join {g g' : JFrame} (k1 : GG p e below s rc rs Q T g' → GG p e below s rc rs Q T g) (k2 : GG p e below s rc rs Q T g') : GG p e below s rc rs Q T g := k1 k2
abbrev own_CT (l : Launch) (Z : State) (y : MethodName) (bytes : ByteArray) (maxL : Nat) (ret : Option FieldType) (ws : List Jvm.Cond) (rm : Room) (as : Array Value) (h : Heap) (Qc : Option Value → Heap → List Loc → Prop) : Prop :=
  MetFree l y (head1 (Jvm.Cond.code y bytes maxL ret :: ws) rm) (fun a U => a = as ∧ Z.Warmed39 U.vm ∧ U.heap = h) (fun _ _ _ _ _ => True) (fun _ U o U' => ∃ v L, o = .returned v ∧ Qc v U'.heap L ∧ FrameEnd U o U' L rm.cells rm.slots)
theorem own_callS (X : Stand p l e R s m args below meth c T locs cells slots) (hx : p.tables.exec = Jvm.exec) (hZ : Z.Warmed39 s.vm) {own : String} {index : Nat} {y : MethodName} {bytes : ByteArray} {maxL : Nat} {ret : Option FieldType} {rm : Room} (W : Nat)
    (hown : s.vm.findClass own = some m.cls) (w1 : (Jvm.Cond.methodLink own index y).before a0 Z = true) (w2 : (Jvm.Cond.static y).before a0 Z = true) (w3 : (Jvm.Cond.initialized y.cls).before a0 Z = true) (w4 : (Jvm.Cond.code y bytes maxL ret).before a0 Z = true)
    (hy : y.cls ≠ "java/lang/invoke/MethodHandle" ∧ y.cls ≠ "java/lang/invoke/VarHandle") {argsL rest : List Value} (hM : own_CT l Z y bytes maxL ret [] rm argsL.toArray h Qc)
    (hf : rm.frames + 1 ≤ R.frames) (hl : W + (maxL + 11) + rm.locals ≤ R.locals) (hc : cells + rm.cells ≤ R.cells) (hs : slots + rm.slots ≤ R.slots)
    {g : JFrame} (hg : g.method = m) (hsize : g.locals.size = c.maxLocals) (hlen : ∀ sig, parseMethodDescriptor y.desc = some sig → argsL.length = sig.parameters.length) (hstack : g.stack = argsL.reverse ++ rest) (hW : 2 * g.monitorRoom + (rest.map fun v => v.category).sum ≤ W)
    (hdg : decode c.code g.pc = .ok (.invokestatic index, 3)) (eT : T.heap = h)
    (k : ∀ (v : Option Value) (T' : State) (L : List Loc), Stand p l e R s m args below meth c T' (locs ++ L) (cells + rm.cells) (slots + rm.slots) → Qc v T'.heap L → GG p e below s rc rs Q T' { g with pc := g.pc + 3, stack := v.toList ++ rest }) : GG p e below s rc rs Q T g := by
  obtain ⟨v, vm₁, ⟨T', L', k', n'⟩, -, X', ⟨L, hQ, q1, q2, q3⟩, st⟩ := Jvm.LawKit.callS X hx hown (mvT hZ w1) (mvT hZ w2) (mvT hZ w3) (mvT hZ w4) hy (backOf (W := W) hM hZ w4 w3 hf hl) hg hsize hlen hstack hW hdg (fun _ _ => ⟨rfl, eT, hc, hs⟩)
  dsimp only [Pt.U, Pt.locs, Pt.cells, Pt.slots] at X' q1 q2 q3 st hQ
  subst q1 q2 q3
  exact own_go st (k v T' L X' hQ)
theorem own_callI (X : Stand p l e R s m args below meth c T locs cells slots) (hx : p.tables.exec = Jvm.exec) (hZ : Z.Warmed39 s.vm) {own : String} {index : Nat} {y : MethodName} {bytes : ByteArray} {maxL : Nat} {rm : Room} (W : Nat) (hy1 : y.name = "<init>")
    (hown : s.vm.findClass own = some m.cls) (w1 : (Jvm.Cond.methodLink own index y).before a0 Z = true) (w2 : (Jvm.Cond.instanceMethod y).before a0 Z = true) (w3 : (Jvm.Cond.initialized y.cls).before a0 Z = true) (w4 : (Jvm.Cond.code y bytes maxL none).before a0 Z = true)
    (hy : y.cls ≠ "java/lang/invoke/MethodHandle" ∧ y.cls ≠ "java/lang/invoke/VarHandle") {a : Addr} {argsL rest : List Value} (hM : own_CT l Z y bytes maxL none [] rm (.ref a :: argsL).toArray h Qc)
    (hf : rm.frames + 1 ≤ R.frames) (hl : W + (maxL + 11) + rm.locals ≤ R.locals) (hc : cells + rm.cells ≤ R.cells) (hs : slots + rm.slots ≤ R.slots)
    {g : JFrame} (hg : g.method = m) (hsize : g.locals.size = c.maxLocals) (hlen : ∀ sig, parseMethodDescriptor y.desc = some sig → argsL.length = sig.parameters.length) (hstack : g.stack = argsL.reverse ++ .ref a :: rest) (hW : 2 * g.monitorRoom + (rest.map fun v => v.category).sum ≤ W)
    (hdg : decode c.code g.pc = .ok (.invokespecial index, 3)) (eT : T.heap = h)
    (k : ∀ (v : Option Value) (T' : State) (L : List Loc), Stand p l e R s m args below meth c T' (locs ++ L) (cells + rm.cells) (slots + rm.slots) → Qc v T'.heap L → GG p e below s rc rs Q T' { g with pc := g.pc + 3, stack := v.toList ++ rest }) : GG p e below s rc rs Q T g := by
  obtain ⟨v, vm₁, ⟨T', L', k', n'⟩, -, X', ⟨L, hQ, q1, q2, q3⟩, st⟩ := X.specialBack hx hy1 hown (mvT hZ w1) (mvT hZ w2) (mvT hZ w4) hy (backOf (W := W) hM hZ w4 w3 hf hl) hg hsize (Steps.refl _) hlen hstack hW hdg (fun _ _ => ⟨rfl, eT, hc, hs⟩)
  dsimp only [Pt.U, Pt.locs, Pt.cells, Pt.slots] at X' q1 q2 q3 st hQ
  subst q1 q2 q3
  exact own_go (fun _ => st.trans) (k v T' L X' hQ)
theorem own_callV (X : Stand p l e R s m args below meth c T locs cells slots) (hx : p.tables.exec = Jvm.exec) (hZ : Z.Warmed39 s.vm) {own C : String} {index : Nat} {y z : MethodName} {bytes : ByteArray} {maxL : Nat} {ret : Option FieldType} {rm : Room} (W : Nat)
    (hown : s.vm.findClass own = some m.cls) (w1 : (Jvm.Cond.methodLink own index y).before a0 Z = true) (w2 : (Jvm.Cond.declares y).before a0 Z = true) (hnf : NotFace s y) (w5 : (Jvm.Cond.selects C y z).before a0 Z = true) (w6 : (Jvm.Cond.instanceMethod z).before a0 Z = true) (w3 : (Jvm.Cond.initialized z.cls).before a0 Z = true) (w4 : (Jvm.Cond.code z bytes maxL ret).before a0 Z = true)
    (hy : y.cls ≠ "java/lang/invoke/MethodHandle" ∧ y.cls ≠ "java/lang/invoke/VarHandle") {a : Addr} {argsL rest : List Value} (hM : own_CT l Z z bytes maxL ret [] rm (.ref a :: argsL).toArray h Qc)
    (hf : rm.frames + 1 ≤ R.frames) (hl : W + (maxL + 11) + rm.locals ≤ R.locals) (hc : cells + rm.cells ≤ R.cells) (hs : slots + rm.slots ≤ R.slots) (E : Exa Z h a C)
    {g : JFrame} (hg : g.method = m) (hsize : g.locals.size = c.maxLocals) (hlen : ∀ sig, parseMethodDescriptor y.desc = some sig → argsL.length = sig.parameters.length) (hstack : g.stack = argsL.reverse ++ .ref a :: rest) (hW : 2 * g.monitorRoom + (rest.map fun v => v.category).sum ≤ W)
    (hdg : decode c.code g.pc = .ok (.invokevirtual index, 3)) (eT : T.heap = h)
    (k : ∀ (v : Option Value) (T' : State) (L : List Loc), Stand p l e R s m args below meth c T' (locs ++ L) (cells + rm.cells) (slots + rm.slots) → Qc v T'.heap L → GG p e below s rc rs Q T' { g with pc := g.pc + 3, stack := v.toList ++ rest }) : GG p e below s rc rs Q T g := by
  obtain ⟨cq, kq, qa, qb, qc⟩ := isOf hZ eT E
  obtain ⟨v, vm₁, ⟨T', L', k', n'⟩, -, X', ⟨L, hQ, q1, q2, q3⟩, st⟩ := X.virtualBack hx hown (mvT hZ w1) (mvT hZ w2) hnf (mvT hZ w5) (mvT hZ w6) hy (backOf (W := W) hM hZ w4 w3 hf hl) qa qc hg hsize (Steps.refl _) hlen hstack hW hdg (fun _ _ => ⟨rfl, eT, hc, hs⟩)
  dsimp only [Pt.U, Pt.locs, Pt.cells, Pt.slots] at X' q1 q2 q3 st hQ
  subst q1 q2 q3
  exact own_go (fun _ => st.trans) (k v T' L X' hQ)
theorem own_callP (X : Stand p l e R s m args below meth c T locs cells slots) (hx : p.tables.exec = Jvm.exec) (hZ : Z.Warmed39 s.vm) {own C : String} {index : Nat} {y : MethodName} {bytes : ByteArray} {maxL : Nat} {ret : Option FieldType} {rm : Room} (W : Nat)
    (hown : s.vm.findClass own = some m.cls) (w1 : (Jvm.Cond.methodLink own index y).before a0 Z = true) (w2 : (Jvm.Cond.instanceMethod y).before a0 Z = true) {kk : Nat} (w5 : (Jvm.Cond.instantiable y.cls kk).before a0 Z = true) (w6 : (Jvm.Cond.privateMethod y).before a0 Z = true) (w3 : (Jvm.Cond.initialized y.cls).before a0 Z = true) (w4 : (Jvm.Cond.code y bytes maxL ret).before a0 Z = true)
    (hy : y.cls ≠ "java/lang/invoke/MethodHandle" ∧ y.cls ≠ "java/lang/invoke/VarHandle") {a : Addr} {argsL rest : List Value} (hM : own_CT l Z y bytes maxL ret [] rm (.ref a :: argsL).toArray h Qc)
    (hf : rm.frames + 1 ≤ R.frames) (hl : W + (maxL + 11) + rm.locals ≤ R.locals) (hc : cells + rm.cells ≤ R.cells) (hs : slots + rm.slots ≤ R.slots) (E : Exa Z h a C)
    {g : JFrame} (hg : g.method = m) (hsize : g.locals.size = c.maxLocals) (hlen : ∀ sig, parseMethodDescriptor y.desc = some sig → argsL.length = sig.parameters.length) (hstack : g.stack = argsL.reverse ++ .ref a :: rest) (hW : 2 * g.monitorRoom + (rest.map fun v => v.category).sum ≤ W)
    (hdg : decode c.code g.pc = .ok (.invokevirtual index, 3)) (eT : T.heap = h)
    (k : ∀ (v : Option Value) (T' : State) (L : List Loc), Stand p l e R s m args below meth c T' (locs ++ L) (cells + rm.cells) (slots + rm.slots) → Qc v T'.heap L → GG p e below s rc rs Q T' { g with pc := g.pc + 3, stack := v.toList ++ rest }) : GG p e below s rc rs Q T g := by
  obtain ⟨cq, q, q'⟩ := E.cell
  have hpr : s.PrivateAt y := Cond.privateMethod_at (mvP hZ w6 (args := #[]))
  obtain ⟨c1, k1, i1, i2, -, i4, -⟩ := Cond.instantiable_spec (show (Jvm.Cond.instantiable y.cls kk).before args s = true from mv hZ w5)
  have hsel : (Jvm.Cond.selects y.cls y y).before args s = true := selects_self_of_private i1 i2 (Bool.or_eq_false_iff.mp i4).1 hpr (mvT hZ w2) hy
  obtain ⟨v, vm₁, ⟨T', L', k', n'⟩, -, X', ⟨L, hQ, q1, q2, q3⟩, st⟩ := X.privateBack hx hown (mvT hZ w1) (mvT hZ w2) hsel hpr (mvT hZ w4) hy (backOf (W := W) hM hZ w4 w3 hf hl) hg hsize (Steps.refl _) (by rw [eT]; exact q) q' hlen hstack hW hdg (fun _ _ => ⟨rfl, eT, hc, hs⟩)
  dsimp only [Pt.U, Pt.locs, Pt.cells, Pt.slots] at X' q1 q2 q3 st hQ
  subst q1 q2 q3
  exact own_go (fun _ => st.trans) (k v T' L X' hQ)
theorem own_ret (X : Stand p l e R s m args below meth c T locs cells slots) (hx : p.tables.exec = Jvm.exec) (hlk : meth.locks = false) {t : FieldType} {w : Value} {i : Instr} {pc : Nat} {Ls : Array Slot} {rest : List Value} (hret : meth.sig.returnType = some t) (hn : narrow t w = w)
    (hi : (i = .ireturn ∧ (t = .int ∨ t = .boolean ∨ t = .byte ∨ t = .char ∨ t = .short) ∧ ∃ z, w = .int z) ∨ (i = .lreturn ∧ t = .long ∧ ∃ z, w = .long z) ∨ (i = .dreturn ∧ t = .double ∧ ∃ z, w = .double z) ∨ (i = .freturn ∧ t = .float ∧ ∃ z, w = .float z) ∨ (i = .areturn ∧ t.isReference = true ∧ w.isRef = true))
    (hd : decode c.code pc = .ok (i, 1)) (hc : cells ≤ rc) (hs : slots ≤ rs) (hQ : Q (some w) T.heap locs) : GG p e below s rc rs Q T (mkF m pc Ls (w :: rest)) := by
  obtain ⟨fs, hr, hrun, hended, hW, hsame⟩ := X.leave (v := some w) (fun h => by rw [hret] at h; cases h) hlk
  exact ⟨_, _, retOut X hx hret hn hi hd hr, hrun, hended, _, _, rfl, hQ, ⟨_, rfl⟩, hW, hsame.mono hc hs⟩
theorem own_retV (X : Stand p l e R s m args below meth c T locs cells slots) (hx : p.tables.exec = Jvm.exec) (hlk : meth.locks = false) {pc : Nat} {Ls : Array Slot} (hret : meth.sig.returnType = none)
    (hd : decode c.code pc = .ok (.return_, 1)) (hc : cells ≤ rc) (hs : slots ≤ rs) (hQ : Q none T.heap locs) : GG p e below s rc rs Q T (mkF m pc Ls []) := by
  obtain ⟨fs, hr, hrun, hended, hW, hsame⟩ := X.leave (v := none) (fun _ => rfl) hlk
  exact ⟨_, _, X.returnOut hx hret hd hr, hrun, hended, _, _, rfl, hQ, ⟨_, rfl⟩, hW, hsame.mono hc hs⟩
theorem own_nZ {P : Prop} [Decidable P] : narrow .boolean (.int (if P then 1 else 0)) = .int (if P then 1 else 0) := by split <;> rfl
/-- an array of values, all of them named -/
def Arx (Z : State) (h : Heap) (a : Addr) (ty : FieldType) (vs : List Value) : Prop := vs.length < 2 ^ 31 ∧ ∃ k dv, Arv Z h a k ty (Int32.ofNat vs.length) vs dv
variable {a b : Addr} {ty : FieldType} {vs : List Value}
theorem own_ofNat {n : Nat} (q : n < 2 ^ 31) : (Int32.ofNat n).toInt = n := Int32.toInt_ofNat_of_lt q
theorem own_clamp {n : Nat} (q : n < 2 ^ 31) : (Int32.ofNat n).toNatClampNeg = n := by simp only [Int32.toNatClampNeg, own_ofNat q]; rfl
theorem Arx.lt (V : Arx Z h a ty vs) : a < h.size := by obtain ⟨_, k, dv, V⟩ := V; exact V.lt
theorem Arx.ext (V : Arx Z h a ty vs) (E : Ext h h') : Arx Z h' a ty vs := by obtain ⟨q, k, dv, V⟩ := V; exact ⟨q, k, dv, V.ext E⟩
theorem Arx.other {sl : Nat} {v : Value} (V : Arx Z h b ty vs) (W : Wr h h' a sl v) (n : b ≠ a) : Arx Z h' b ty vs := by obtain ⟨q, k, dv, V⟩ := V; exact ⟨q, k, dv, V.other W n⟩
theorem Arx.keep {ws : List Addr} (V : Arx Z h a ty vs) (K : Keep h h' ws) (n : a ∉ ws) : Arx Z h' a ty vs := by obtain ⟨q, k, dv, V⟩ := V; exact ⟨q, k, dv, V.keep K n⟩
theorem Arx.open {j : Int32} {v : Value} (V : Arx Z h a ty vs) (h0 : ¬ j < 0) (hv : vs[j.toNatClampNeg]? = some v) : ∃ cl, Arr Z h a cl ty ∧ ¬ (j < 0 ∨ cl.slots.size ≤ j.toNatClampNeg) ∧ cl.slots[j.toNatClampNeg]? = some v := by
  obtain ⟨q, k, dv, cl, A, -, S, -, H, -⟩ := V
  rw [own_clamp q] at S
  have hl := (List.getElem?_eq_some_iff.mp hv).1
  have e := H j.toNatClampNeg (by rw [S]; exact hl)
  rw [List.getD_eq_getElem?_getD, hv] at e
  exact ⟨cl, A, fun q' => q'.elim h0 (by rw [S]; exact Nat.not_le.mpr hl), e⟩
theorem own_len (X : Stand p l e R s m args below meth c T locs cells slots) (hx : p.tables.exec = Jvm.exec) (hZ : Z.Warmed39 s.vm) (eT : T.heap = h) (V : Arx Z h a ty vs) {g : JFrame} (hg : g.method = m) {rest : List Value} (hs : g.stack = .ref a :: rest) (hd : decode c.code g.pc = .ok (.arraylength, 1)) :
    ∀ t, Steps p.tables e below (T.setTop { g with pc := g.pc + 1, stack := .int (Int32.ofNat vs.length) :: rest }) t → Steps p.tables e below (T.setTop g) t := fun t k => by
  obtain ⟨q, k', dv, cl, A, -, S, N, -⟩ := V
  refine X.arraylength hx (by rw [eT]; exact A.1) (State.isArrayOf_alike hZ.alike A.2.1) hg hs hd _ ?_
  rw [len_of S N]; exact k
theorem own_iaload (X : Stand p l e R s m args below meth c T locs cells slots) (hx : p.tables.exec = Jvm.exec) (hZ : Z.Warmed39 s.vm) (eT : T.heap = h) (V : Arx Z h a .int vs) {j : Int32} {v : Value} (h0 : ¬ j < 0) (hv : vs[j.toNatClampNeg]? = some v) {g : JFrame} (hg : g.method = m) {rest : List Value} (hs : g.stack = .int j :: .ref a :: rest) (hd : decode c.code g.pc = .ok (.iaload, 1)) :
    ∀ t, Steps p.tables e below (T.setTop { g with pc := g.pc + 1, stack := v :: rest }) t → Steps p.tables e below (T.setTop g) t := fun t k => by
  obtain ⟨cl, A, h1, h2⟩ := V.open h0 hv
  exact X.iaload hx (by rw [eT]; exact A.1) (State.isArrayOf_alike hZ.alike A.2.1) A.2.2 h1 h2 hg hs hd _ k
theorem own_laload (X : Stand p l e R s m args below meth c T locs cells slots) (hx : p.tables.exec = Jvm.exec) (hZ : Z.Warmed39 s.vm) (eT : T.heap = h) (V : Arx Z h a .long vs) {j : Int32} {v : Value} (h0 : ¬ j < 0) (hv : vs[j.toNatClampNeg]? = some v) {g : JFrame} (hg : g.method = m) {rest : List Value} (hs : g.stack = .int j :: .ref a :: rest) (hd : decode c.code g.pc = .ok (.laload, 1)) :
    ∀ t, Steps p.tables e below (T.setTop { g with pc := g.pc + 1, stack := v :: rest }) t → Steps p.tables e below (T.setTop g) t := fun t k => by
  obtain ⟨cl, A, h1, h2⟩ := V.open h0 hv
  exact X.laload hx (by rw [eT]; exact A.1) (State.isArrayOf_alike hZ.alike A.2.1) A.2.2 h1 h2 hg hs hd _ k
theorem own_caload (X : Stand p l e R s m args below meth c T locs cells slots) (hx : p.tables.exec = Jvm.exec) (hZ : Z.Warmed39 s.vm) (eT : T.heap = h) (V : Arx Z h a .char vs) {j : Int32} {v : Value} (h0 : ¬ j < 0) (hv : vs[j.toNatClampNeg]? = some v) {g : JFrame} (hg : g.method = m) {rest : List Value} (hs : g.stack = .int j :: .ref a :: rest) (hd : decode c.code g.pc = .ok (.caload, 1)) :
    ∀ t, Steps p.tables e below (T.setTop { g with pc := g.pc + 1, stack := v :: rest }) t → Steps p.tables e below (T.setTop g) t := fun t k => by
  obtain ⟨cl, A, h1, h2⟩ := V.open h0 hv
  exact X.caload hx (by rw [eT]; exact A.1) (State.isArrayOf_alike hZ.alike A.2.1) A.2.2 h1 h2 hg hs hd _ k
theorem own_baload (X : Stand p l e R s m args below meth c T locs cells slots) (hx : p.tables.exec = Jvm.exec) (hZ : Z.Warmed39 s.vm) (eT : T.heap = h) (V : Arx Z h a .byte vs) {j : Int32} {v : Value} (h0 : ¬ j < 0) (hv : vs[j.toNatClampNeg]? = some v) {g : JFrame} (hg : g.method = m) {rest : List Value} (hs : g.stack = .int j :: .ref a :: rest) (hd : decode c.code g.pc = .ok (.baload, 1)) :
    ∀ t, Steps p.tables e below (T.setTop { g with pc := g.pc + 1, stack := v :: rest }) t → Steps p.tables e below (T.setTop g) t := fun t k => by
  obtain ⟨cl, A, h1, h2⟩ := V.open h0 hv
  exact X.baloadBytes hx (by rw [eT]; exact A.1) (State.isArrayOf_alike hZ.alike A.2.1) A.2.2 h1 h2 hg hs hd _ k
theorem own_aaload (X : Stand p l e R s m args below meth c T locs cells slots) (hx : p.tables.exec = Jvm.exec) (hZ : Z.Warmed39 s.vm) (eT : T.heap = h) (V : Arx Z h a ty vs) (ht : ty.isReference = true) {j : Int32} {v : Value} (h0 : ¬ j < 0) (hv : vs[j.toNatClampNeg]? = some v) {g : JFrame} (hg : g.method = m) {rest : List Value} (hs : g.stack = .int j :: .ref a :: rest) (hd : decode c.code g.pc = .ok (.aaload, 1)) :
    ∀ t, Steps p.tables e below (T.setTop { g with pc := g.pc + 1, stack := v :: rest }) t → Steps p.tables e below (T.setTop g) t := fun t k => by
  obtain ⟨cl, A, h1, h2⟩ := V.open h0 hv
  exact X.aaload hx (by rw [eT]; exact A.1) (State.isArrayOf_alike hZ.alike A.2.1) ht A.2.2 h1 h2 hg hs hd _ k
theorem Arx.put {j : Int32} {v : Value} (V : Arx Z h a ty vs) (h0 : ¬ j < 0) (hj : j.toNatClampNeg < vs.length) (hv : fits ty v = true) : ∃ cl, Arr Z h a cl ty ∧ ¬ (j < 0 ∨ cl.slots.size ≤ j.toNatClampNeg) ∧ ∀ {h' : Heap}, Wr h h' a j.toNatClampNeg v → Arx Z h' a ty (vs.set j.toNatClampNeg v) := by
  obtain ⟨q, k, dv, cl, A, q1, S, N, H, G⟩ := V
  refine ⟨cl, A, fun q' => q'.elim h0 ?_, fun W => ⟨by rw [List.length_set]; exact q, k, dv, ?_⟩⟩
  · rw [S, own_clamp q]; exact Nat.not_le.mpr hj
  · rw [List.length_set]; exact Arv.set A q1 S N H G hv W _ rfl hj
theorem own_iastore (X : Stand p l e R s m args below meth c T locs cells slots) (hx : p.tables.exec = Jvm.exec) (hZ : Z.Warmed39 s.vm) (eT : T.heap = h) (V : Arx Z h a .int vs) {j x : Int32} (h0 : ¬ j < 0) (hj : j.toNatClampNeg < vs.length) {g : JFrame} (hg : g.method = m) {rest : List Value} (hs : g.stack = .int x :: .int j :: .ref a :: rest) (hd : decode c.code g.pc = .ok (.iastore, 1)) :
    ∃ T' h', Stand p l e R s m args below meth c T' (locs ++ [⟨a, j.toNatClampNeg⟩]) cells slots ∧ T'.heap = h' ∧ Wr h h' a j.toNatClampNeg (.int x) ∧ Arx Z h' a .int (vs.set j.toNatClampNeg (.int x)) ∧ ∀ t, Steps p.tables e below (T'.setTop { g with pc := g.pc + 1, stack := rest }) t → Steps p.tables e below (T.setTop g) t := by
  obtain ⟨cl, A, h1, h2⟩ := V.put (v := .int x) h0 hj rfl
  obtain ⟨T', h', X', e', W, st⟩ := stI X hx hZ eT A h1 hg hs hd
  exact ⟨T', h', X', e', W, h2 W, st⟩
theorem own_lastore (X : Stand p l e R s m args below meth c T locs cells slots) (hx : p.tables.exec = Jvm.exec) (hZ : Z.Warmed39 s.vm) (eT : T.heap = h) (V : Arx Z h a .long vs) {j : Int32} {x : Int64} (h0 : ¬ j < 0) (hj : j.toNatClampNeg < vs.length) {g : JFrame} (hg : g.method = m) {rest : List Value} (hs : g.stack = .long x :: .int j :: .ref a :: rest) (hd : decode c.code g.pc = .ok (.lastore, 1)) :
    ∃ T' h', Stand p l e R s m args below meth c T' (locs ++ [⟨a, j.toNatClampNeg⟩]) cells slots ∧ T'.heap = h' ∧ Wr h h' a j.toNatClampNeg (.long x) ∧ Arx Z h' a .long (vs.set j.toNatClampNeg (.long x)) ∧ ∀ t, Steps p.tables e below (T'.setTop { g with pc := g.pc + 1, stack := rest }) t → Steps p.tables e below (T.setTop g) t := by
  obtain ⟨cl, A, h1, h2⟩ := V.put (v := .long x) h0 hj rfl
  obtain ⟨T', h', X', e', W, st⟩ := stJ X hx hZ eT A h1 hg hs hd
  exact ⟨T', h', X', e', W, h2 W, st⟩
theorem own_castore (X : Stand p l e R s m args below meth c T locs cells slots) (hx : p.tables.exec = Jvm.exec) (hZ : Z.Warmed39 s.vm) (eT : T.heap = h) (V : Arx Z h a .char vs) {j x : Int32} (h0 : ¬ j < 0) (hj : j.toNatClampNeg < vs.length) {g : JFrame} (hg : g.method = m) {rest : List Value} (hs : g.stack = .int x :: .int j :: .ref a :: rest) (hd : decode c.code g.pc = .ok (.castore, 1)) :
    ∃ T' h', Stand p l e R s m args below meth c T' (locs ++ [⟨a, j.toNatClampNeg⟩]) cells slots ∧ T'.heap = h' ∧ Wr h h' a j.toNatClampNeg (.int (nar .char x)) ∧ Arx Z h' a .char (vs.set j.toNatClampNeg (.int (nar .char x))) ∧ ∀ t, Steps p.tables e below (T'.setTop { g with pc := g.pc + 1, stack := rest }) t → Steps p.tables e below (T.setTop g) t := by
  obtain ⟨cl, A, h1, h2⟩ := V.put (v := .int (nar .char x)) h0 hj (fits_nar_char _)
  obtain ⟨T', h', X', e', W, st⟩ := stC X hx hZ eT A h1 hg hs hd
  exact ⟨T', h', X', e', W, h2 W, st⟩
theorem own_bastore (X : Stand p l e R s m args below meth c T locs cells slots) (hx : p.tables.exec = Jvm.exec) (hZ : Z.Warmed39 s.vm) (eT : T.heap = h) (V : Arx Z h a .byte vs) {j x : Int32} (h0 : ¬ j < 0) (hj : j.toNatClampNeg < vs.length) {g : JFrame} (hg : g.method = m) {rest : List Value} (hs : g.stack = .int x :: .int j :: .ref a :: rest) (hd : decode c.code g.pc = .ok (.bastore, 1)) :
    ∃ T' h', Stand p l e R s m args below meth c T' (locs ++ [⟨a, j.toNatClampNeg⟩]) cells slots ∧ T'.heap = h' ∧ Wr h h' a j.toNatClampNeg (.int (nar .byte x)) ∧ Arx Z h' a .byte (vs.set j.toNatClampNeg (.int (nar .byte x))) ∧ ∀ t, Steps p.tables e below (T'.setTop { g with pc := g.pc + 1, stack := rest }) t → Steps p.tables e below (T.setTop g) t := by
  obtain ⟨cl, A, h1, h2⟩ := V.put (v := .int (nar .byte x)) h0 hj (fits_nar_byte _)
  obtain ⟨T', h', X', e', W, st⟩ := stB X hx hZ eT A h1 hg hs hd
  exact ⟨T', h', X', e', W, h2 W, st⟩
theorem own_newarr (X : Stand p l e R s m args below meth c T locs cells slots) (hx : p.tables.exec = Jvm.exec) (hZ : Z.Warmed39 s.vm) {aty : ArrayType} (w : (Jvm.Cond.arrayClass (newarray.typeOf aty)).before a0 Z = true) (eT : T.heap = h) {g : JFrame} (hg : g.method = m) (hd : decode c.code g.pc = .ok (.newarray aty, 2)) {n : Int32} {rest : List Value} (hs : g.stack = .int n :: rest)
    (hn : ¬ n < 0) {cap : Nat} (hcap : n.toNatClampNeg ≤ cap) (hb : cap * 8 ≤ 536870912) (hc : cells + 1 ≤ R.cells) (hl : slots + cap ≤ R.slots) {ad : String} (had : "[" ++ (newarray.typeOf aty).toString = ad) :
    ∃ T' h' a, a = h.size ∧ Stand p l e R s m args below meth c T' locs (cells + 1) (slots + cap) ∧ T'.heap = h' ∧ Ext h h' ∧ Arx Z h' a (newarray.typeOf aty) (List.replicate n.toNatClampNeg (defaultValue (newarray.typeOf aty))) ∧ Exa Z h' a ad ∧
      ∀ t, Steps p.tables e below (T'.setTop { g with pc := g.pc + 2, stack := .ref a :: rest }) t → Steps p.tables e below (T.setTop g) t := by
  obtain ⟨T', h', cA, X', e', E, A, Ex, st⟩ := newPE X hx hZ w eT hg hd hs hn hcap hb hc hl had
  have b := back32 hn
  refine ⟨T', h', _, rfl, X', e', E, ⟨by rw [List.length_replicate]; exact b.2, cA, defaultValue (newarray.typeOf aty), ?_⟩, Ex, st⟩
  rw [List.length_replicate, show Int32.ofNat n.toNatClampNeg = n from b.1]
  exact (Arv.new A hn).pad (pad_rep [] _ _)
theorem own_clone (X : Stand p l e R s m args below meth c T locs cells slots) (hx : p.tables.exec = Jvm.exec) (hZ : Z.Warmed39 s.vm) {own ad : String} {index : Nat} (hown : s.vm.findClass own = some m.cls)
    (w1 : (Jvm.Cond.methodLink own index ⟨ad, "clone", "()Ljava/lang/Object;"⟩).before a0 Z = true) (w2 : (Jvm.Cond.sameMethod ad "java/lang/Object" "clone" "()Ljava/lang/Object;").before a0 Z = true) (w3 : (Jvm.Cond.native ⟨"java/lang/Object", "clone", "()Ljava/lang/Object;"⟩).before a0 Z = true)
    (w4 : (Jvm.Cond.instanceMethod ⟨"java/lang/Object", "clone", "()Ljava/lang/Object;"⟩).before a0 Z = true) (w5 : (Jvm.Cond.selects ad ⟨ad, "clone", "()Ljava/lang/Object;"⟩ ⟨"java/lang/Object", "clone", "()Ljava/lang/Object;"⟩).before a0 Z = true) (w6 : (Jvm.Cond.castable ad "java/lang/Cloneable").before a0 Z = true)
    (eT : T.heap = h) (V : Arx Z h a ty vs) (E : Exa Z h a ad) {g : JFrame} (hg : g.method = m) (hsize : g.locals.size = c.maxLocals) {rest : List Value} (hst : g.stack = .ref a :: rest) (hd : decode c.code g.pc = .ok (.invokevirtual index, 3))
    (hf : 1 ≤ R.frames) {W cap : Nat} (hW : 2 * g.monitorRoom + (rest.map fun v => v.category).sum ≤ W) (hl : W + 14 ≤ R.locals) (hcap : vs.length ≤ cap) (hc : cells + 1 ≤ R.cells) (hsl : slots + cap ≤ R.slots) :
    ∃ T' h' b, b = h.size ∧ Stand p l e R s m args below meth c T' locs (cells + 1) (slots + cap) ∧ T'.heap = h' ∧ Ext h h' ∧ Arx Z h' b ty vs ∧ Exa Z h' b ad ∧
      ∀ t, Steps p.tables e below (T'.setTop { g with pc := g.pc + 3, stack := .ref b :: rest }) t → Steps p.tables e below (T.setTop g) t := by
  obtain ⟨q, k, dv, V⟩ := V
  obtain ⟨T', h', X', e', ex, V', E', st⟩ := cloneH X hx hZ hown w1 w2 w3 w4 w5 w6 eT V.arh E hg hsize hst hd hf hW hl (by rw [own_clamp q]; exact hcap) hc hsl
  exact ⟨T', h', _, rfl, X', e', ex, ⟨q, k, dv, V'⟩, E', st⟩
end Own
theorem own_efld {args : Array Value} {s : State} {t : Term} {x : Addr} {O f d : String} {k : Int32} (ev : t.eval args s none [] s = some (.ref x)) (h : (Jvm.Cond.eq (Jvm.Term.field t O f d) (Jvm.Term.int k)).value args s none s [] = some true) : Fld s s.heap x O f d (.int k) := by
  obtain ⟨v, w, h1, h2, k1, k2⟩ := cmp_v (Or.inl h)
  obtain rfl : Value.int k = w := Option.some.inj h2
  obtain ⟨z, rfl⟩ := k2
  have q : z = k := by simpa [Cond.value, h1, h2] using h
  subst q
  rw [fld_at ev] at h1
  exact Fld.start h1
theorem own_elem {args : Array Value} {s : State} {t u : Term} {x w : Addr} {k : Int32} {cl : Cell} (ev : t.eval args s none [] s = some (.ref x)) (eu : u.eval args s none [] s = some (.ref w)) (h : (Jvm.Cond.eq (Jvm.Term.elem t (Jvm.Term.int k)) u).value args s none s [] = some true) (hc : s.heap[x]? = some cl) : cl.slots[k.toNatClampNeg]? = some (.ref w) := by
  obtain ⟨v, w', h1, h2, k1, k2⟩ := cmp_v (Or.inl h)
  obtain rfl : Value.ref w = w' := Option.some.inj (eu.symm.trans h2)
  have q := gotT (eq_R h1 h2 k2.2 rfl) h
  subst q
  exact (elem_in h1 ev rfl hc).2
theorem own_vals {args : Array Value} {s : State} {t : Term} {x : Addr} {ty : FieldType} {n : Int32} {vs : List Value} {cl : Cell} (hf : Fit s) (ev : t.eval args s none [] s = some (.ref x)) (A : Arr s s.heap x cl ty) (h2 : (Jvm.Cond.eq (Jvm.Term.length t) (Jvm.Term.int n)).value args s none s [] = some true) (hn : Int32.ofNat vs.length = n) (hn0 : ¬ n < 0) (hl : vs.length < 2 ^ 31) (H : HasL cl 0 vs) : Arx s s.heap x ty vs := by
  obtain ⟨v, w, h1, h3, k1, k2⟩ := cmp_v (Or.inl h2)
  obtain rfl : Value.int n = w := Option.some.inj h3
  obtain ⟨z, rfl⟩ := k2
  have q : z = n := by simpa [Cond.value, h1, h3] using h2
  subst q
  obtain ⟨b, cell, e1, e2, e3, e4⟩ := Jvm.Lib.length_spec h1
  cases ev.symm.trans e1
  cases (State.arrayAt?_spec e2).1.symm.trans A.1
  subst hn
  exact ⟨hl, _, .null, Arv.start hf A e3 (Value.int.inj e4).symm hn0 (own_clamp hl) H⟩
theorem d2_0 : decode prog_23_method_1_code 0 = .ok (.getstatic 40, 3) := by decide +kernel
theorem d2_3 : decode prog_23_method_1_code 3 = .ok (.invokevirtual 44, 3) := by decide +kernel
theorem d2_6 : decode prog_23_method_1_code 6 = .ok (.checkcast 45, 3) := by decide +kernel
theorem d2_9 : decode prog_23_method_1_code 9 = .ok (.areturn, 1) := by decide +kernel
theorem pn_com_example_bellwether_bellwether_protocol_OpCode : plainName "com/example/bellwether/bellwether/protocol/OpCode" = true := by first | (simp [plainName, overriddenIn]; done) | decide +kernel
theorem ef_2 (m : MethodId)  : entryFrame m #[] 0 = mkF m 0 #[] [] := by first | (simp [entryFrame, mkF, argsToLocals, Value.category]; done) | rfl
def Q2 (Z : State)  (wV : Addr) (w0 w1 w2 w3 w4 w5 w6 w7 w8 w9 w10 w11 : Addr) (h0 : Heap) (n0 : Nat) (v : Option Value) (h : Heap) (L : List Loc) : Prop := ∃ b, v = some (.ref b) ∧ Fr n0 L ∧ h0.size ≤ b ∧ Keep h0 h [] ∧ Arx Z h b (.object "com/example/bellwether/bellwether/protocol/OpCode") [(.ref w0), (.ref w1), (.ref w2), (.ref w3), (.ref w4), (.ref w5), (.ref w6), (.ref w7), (.ref w8), (.ref w9), (.ref w10), (.ref w11)]
set_option maxRecDepth 65536 in
set_option maxHeartbeats 40000000 in
theorem rm2 (l : Launch) (Z : State) (a0 : Array Value) (hw : ∀ d ∈ tables_1, d.before a0 Z = true) (ws : List Jvm.Cond)  (wV : Addr) (w0 w1 w2 w3 w4 w5 w6 w7 w8 w9 w10 w11 : Addr) (h0 : Heap) (n0 : Nat) (Z0 : n0 ≤ h0.size) (S_V : Sta Z h0 "com/example/bellwether/bellwether/protocol/OpCode" "$VALUES" "[Lcom/example/bellwether/bellwether/protocol/OpCode;" (.ref wV)) (V_V : Arx Z h0 wV (.object "com/example/bellwether/bellwether/protocol/OpCode") [(.ref w0), (.ref w1), (.ref w2), (.ref w3), (.ref w4), (.ref w5), (.ref w6), (.ref w7), (.ref w8), (.ref w9), (.ref w10), (.ref w11)]) (E_V : Exa Z h0 wV "[Lcom/example/bellwether/bellwether/protocol/OpCode;") :
    own_CT l Z (⟨"com/example/bellwether/bellwether/protocol/OpCode", "values", "()[Lcom/example/bellwether/bellwether/protocol/OpCode;"⟩ : MethodName) prog_23_method_1_code 0 (some (.array (.object "com/example/bellwether/bellwether/protocol/OpCode"))) ws ({ frames := 1, cells := 1, slots := 12, locals := 14 } : Room) #[] h0 (Q2 Z wV w0 w1 w2 w3 w4 w5 w6 w7 w8 w9 w10 w11 h0 n0) := by
  refine MetFree.of_bodySF (plainFor_of_name pn_com_example_bellwether_bellwether_protocol_OpCode) hisR ?_
  intro p e s m args below meth c s₁ Bd hml0 hP hK
  obtain ⟨rfl, hZ, hh⟩ := hP
  have hx := Bd.exec
  have hby := Bd.bytes
  have hml : c.maxLocals = 0 := hml0
  have hown : s.vm.findClass "com/example/bellwether/bellwether/protocol/OpCode" = some m.cls := findClass_of_methodNamed Bd.named
  have hnm := (name_of_methodNamed Bd.named Bd.method).1
  have hlk : meth.locks = false := BodyLoose.notSynchronized Bd
  have X0 : Stand p l e ({ frames := 1, cells := 1, slots := 12, locals := 14 } : Room) s m #[] below meth c s₁ [] 0 0 := Stand.of_body Bd
  have e0 : s₁.heap = h0 := by rw [← hh, Bd.state]; rfl
  have N0 := Fr.nil n0
  show GG p e below s ({ frames := 1, cells := 1, slots := 12, locals := 14 } : Room).cells ({ frames := 1, cells := 1, slots := 12, locals := 14 } : Room).slots (Q2 Z wV w0 w1 w2 w3 w4 w5 w6 w7 w8 w9 w10 w11 h0 n0) s₁ (entryFrame m #[] 0)
  refine own_in (ef_2 m ) ?_
  show GG _ _ _ _ _ _ _ s₁ (mkF m 0 #[] [])
  obtain ⟨T1, X1, e1, st1⟩ := getS2 X0 hx hZ hown (host := "") (Or.inl (hw _ (List.mem_of_getElem? (i := 7) rfl))) Via.refl e0 S_V (g := (mkF m 0 #[] [])) rfl (hb hby d2_0)
  refine own_go (fun _ => st1 _) ?_
  show GG _ _ _ _ _ _ _ T1 (mkF m 3 #[] [(.ref wV)])
  have K0 := Keep.refl h0 []
  obtain ⟨T2, h2, ob2, g2, X2, e2, E2, V_ob2, E_ob2, st2⟩ := own_clone X1 hx hZ hown (hw _ (List.mem_of_getElem? (i := 9) rfl)) (hw _ (List.mem_of_getElem? (i := 10) rfl)) (hw _ (List.mem_of_getElem? (i := 14) rfl)) (hw _ (List.mem_of_getElem? (i := 12) rfl)) (hw _ (List.mem_of_getElem? (i := 13) rfl)) (hw _ (List.mem_of_getElem? (i := 15) rfl)) e1 V_V E_V (g := (mkF m 3 #[] [(.ref wV)])) rfl (by rw [hml]; rfl) rfl (hb hby d2_3) (by decide) (W := 0) (cap := 12) (by show 2 * 0 + _ ≤ _; exact Nat.le_of_eq rfl) (by decide) (Nat.le_of_ble_eq_true rfl) (by decide) (by decide)
  have ne_wV_ob2 : wV ≠ ob2 := Nat.ne_of_lt (Nat.lt_of_lt_of_le V_V.lt (Nat.le_of_eq g2.symm))
  have sz_ob2 : h0.size ≤ ob2 := Nat.le_trans K0.1 (Nat.le_of_eq g2.symm)
  have g_ob2 : n0 ≤ ob2 := Nat.le_trans Z0 sz_ob2
  have S_V := S_V.ext E2
  have V_V := V_V.ext E2
  have E_V := E_V.ext E2
  have K0 := K0.ext E2
  refine own_go (fun _ => st2 _) ?_
  show GG _ _ _ _ _ _ _ T2 (mkF m 6 #[] [(.ref ob2)])
  obtain ⟨T3, X3, e3, st3⟩ := castY X2 hx hZ hown (hw _ (List.mem_of_getElem? (i := 29) rfl)) e2 (Ins.self E_ob2) (g := (mkF m 6 #[] [(.ref ob2)])) rfl rfl (hb hby d2_6)
  refine own_go (fun _ => st3 _) ?_
  show GG _ _ _ _ _ _ _ T3 (mkF m 9 #[] [(.ref ob2)])
  refine own_ret X3 hx hlk (t := (.array (.object "com/example/bellwether/bellwether/protocol/OpCode"))) (w := (.ref ob2)) Bd.returns rfl (Or.inr (Or.inr (Or.inr (Or.inr ⟨rfl, rfl, rfl⟩)))) (hb hby d2_9) (by decide) (by decide) ?_
  show Q2 Z wV w0 w1 w2 w3 w4 w5 w6 w7 w8 w9 w10 w11 h0 n0 (some (.ref ob2)) T3.heap _
  rw [e3]
  exact ⟨_, rfl, N0, sz_ob2, K0, V_ob2⟩
theorem pd____Lcom_example_bellwether_bellwether_pr_216 : parseMethodDescriptor "()[Lcom/example/bellwether/bellwether/protocol/OpCode;" = some ⟨[], some (.array (.object "com/example/bellwether/bellwether/protocol/OpCode"))⟩ := by decide +kernel
theorem d1_0 : decode prog_23_method_5_code 0 = .ok (.invokestatic 67, 3) := by decide +kernel
theorem d1_3 : decode prog_23_method_5_code 3 = .ok (.astore_n 1, 1) := by decide +kernel
theorem d1_4 : decode prog_23_method_5_code 4 = .ok (.aload_n 1, 1) := by decide +kernel
theorem d1_5 : decode prog_23_method_5_code 5 = .ok (.arraylength, 1) := by decide +kernel
theorem d1_6 : decode prog_23_method_5_code 6 = .ok (.istore_n 2, 1) := by decide +kernel
theorem d1_7 : decode prog_23_method_5_code 7 = .ok (.iconst 0, 1) := by decide +kernel
theorem d1_8 : decode prog_23_method_5_code 8 = .ok (.istore_n 3, 1) := by decide +kernel
theorem d1_9 : decode prog_23_method_5_code 9 = .ok (.iload_n 3, 1) := by decide +kernel
theorem d1_10 : decode prog_23_method_5_code 10 = .ok (.iload_n 2, 1) := by decide +kernel
theorem d1_11 : decode prog_23_method_5_code 11 = .ok (.if_icmp .ge 26, 3) := by decide +kernel
theorem d1_14 : decode prog_23_method_5_code 14 = .ok (.aload_n 1, 1) := by decide +kernel
theorem d1_15 : decode prog_23_method_5_code 15 = .ok (.iload_n 3, 1) := by decide +kernel
theorem d1_16 : decode prog_23_method_5_code 16 = .ok (.aaload, 1) := by decide +kernel
theorem d1_17 : decode prog_23_method_5_code 17 = .ok (.astore 4, 2) := by decide +kernel
theorem d1_19 : decode prog_23_method_5_code 19 = .ok (.aload 4, 2) := by decide +kernel
theorem d1_21 : decode prog_23_method_5_code 21 = .ok (.getfield 59, 3) := by decide +kernel
theorem d1_24 : decode prog_23_method_5_code 24 = .ok (.iload_n 0, 1) := by decide +kernel
theorem d1_25 : decode prog_23_method_5_code 25 = .ok (.if_icmp .ne 6, 3) := by decide +kernel
theorem d1_28 : decode prog_23_method_5_code 28 = .ok (.aload 4, 2) := by decide +kernel
theorem d1_30 : decode prog_23_method_5_code 30 = .ok (.areturn, 1) := by decide +kernel
theorem ef_1 (m : MethodId) (x0 : Int32) : entryFrame m #[(.int x0)] 5 = mkF m 0 #[.val (.int x0), .unset, .unset, .unset, .unset] [] := by first | (simp [entryFrame, mkF, argsToLocals, Value.category]; done) | rfl
def Q1_0 (Z : State) (p0 : Int32) (wV : Addr) (w0 w1 w2 w3 w4 w5 w6 w7 w8 w9 w10 w11 : Addr) (h0 : Heap) (n0 : Nat) (v : Option Value) (h : Heap) (L : List Loc) : Prop := v = some (.ref w0) ∧ Fr n0 L ∧ Keep h0 h []
set_option maxRecDepth 65536 in
set_option maxHeartbeats 40000000 in
theorem rm1_0 (l : Launch) (Z : State) (a0 : Array Value) (hw : ∀ d ∈ tables_1, d.before a0 Z = true) (ws : List Jvm.Cond) (p0 : Int32) (wV : Addr) (w0 w1 w2 w3 w4 w5 w6 w7 w8 w9 w10 w11 : Addr) (h0 : Heap) (n0 : Nat) (Z0 : n0 ≤ h0.size) (hp : p0 = (1 : Int32)) (S_V : Sta Z h0 "com/example/bellwether/bellwether/protocol/OpCode" "$VALUES" "[Lcom/example/bellwether/bellwether/protocol/OpCode;" (.ref wV)) (V_V : Arx Z h0 wV (.object "com/example/bellwether/bellwether/protocol/OpCode") [(.ref w0), (.ref w1), (.ref w2), (.ref w3), (.ref w4), (.ref w5), (.ref w6), (.ref w7), (.ref w8), (.ref w9), (.ref w10), (.ref w11)]) (E_V : Exa Z h0 wV "[Lcom/example/bellwether/bellwether/protocol/OpCode;") (F_0 : Fld Z h0 w0 "com/example/bellwether/bellwether/protocol/OpCode" "code" "I" (.int (1 : Int32))) (F_1 : Fld Z h0 w1 "com/example/bellwether/bellwether/protocol/OpCode" "code" "I" (.int (2 : Int32))) (F_2 : Fld Z h0 w2 "com/example/bellwether/bellwether/protocol/OpCode" "code" "I" (.int (3 : Int32))) (F_3 : Fld Z h0 w3 "com/example/bellwether/bellwether/protocol/OpCode" "code" "I" (.int (4 : Int32))) (F_4 : Fld Z h0 w4 "com/example/bellwether/bellwether/protocol/OpCode" "code" "I" (.int (5 : Int32))) (F_5 : Fld Z h0 w5 "com/example/bellwether/bellwether/protocol/OpCode" "code" "I" (.int (8 : Int32))) (F_6 : Fld Z h0 w6 "com/example/bellwether/bellwether/protocol/OpCode" "code" "I" (.int (9 : Int32))) (F_7 : Fld Z h0 w7 "com/example/bellwether/bellwether/protocol/OpCode" "code" "I" (.int (11 : Int32))) (F_8 : Fld Z h0 w8 "com/example/bellwether/bellwether/protocol/OpCode" "code" "I" (.int (12 : Int32))) (F_9 : Fld Z h0 w9 "com/example/bellwether/bellwether/protocol/OpCode" "code" "I" (.int (13 : Int32))) (F_10 : Fld Z h0 w10 "com/example/bellwether/bellwether/protocol/OpCode" "code" "I" (.int (14 : Int32))) (F_11 : Fld Z h0 w11 "com/example/bellwether/bellwether/protocol/OpCode" "code" "I" (.int (-11 : Int32))) :
    own_CT l Z (⟨"com/example/bellwether/bellwether/protocol/OpCode", "of", "(I)Lcom/example/bellwether/bellwether/protocol/OpCode;"⟩ : MethodName) prog_23_method_5_code 5 (some (.object "com/example/bellwether/bellwether/protocol/OpCode")) ws ({ frames := 2, cells := 1, slots := 12, locals := 25 } : Room) #[(.int p0)] h0 (Q1_0 Z p0 wV w0 w1 w2 w3 w4 w5 w6 w7 w8 w9 w10 w11 h0 n0) := by
  refine MetFree.of_bodySF (plainFor_of_name pn_com_example_bellwether_bellwether_protocol_OpCode) hisR ?_
  intro p e s m args below meth c s₁ Bd hml0 hP hK
  obtain ⟨rfl, hZ, hh⟩ := hP
  have hx := Bd.exec
  have hby := Bd.bytes
  have hml : c.maxLocals = 5 := hml0
  have hown : s.vm.findClass "com/example/bellwether/bellwether/protocol/OpCode" = some m.cls := findClass_of_methodNamed Bd.named
  have hnm := (name_of_methodNamed Bd.named Bd.method).1
  have hlk : meth.locks = false := BodyLoose.notSynchronized Bd
  have X0 : Stand p l e ({ frames := 2, cells := 1, slots := 12, locals := 25 } : Room) s m #[(.int p0)] below meth c s₁ [] 0 0 := Stand.of_body Bd
  have e0 : s₁.heap = h0 := by rw [← hh, Bd.state]; rfl
  have N0 := Fr.nil n0
  show GG p e below s ({ frames := 2, cells := 1, slots := 12, locals := 25 } : Room).cells ({ frames := 2, cells := 1, slots := 12, locals := 25 } : Room).slots (Q1_0 Z p0 wV w0 w1 w2 w3 w4 w5 w6 w7 w8 w9 w10 w11 h0 n0) s₁ (entryFrame m #[(.int p0)] 5)
  refine own_in (ef_1 m p0) ?_
  have K0 := Keep.refl h0 []
  show GG _ _ _ _ _ _ _ s₁ (mkF m 0 #[.val (.int p0), .unset, .unset, .unset, .unset] [])
  refine own_callS X0 hx hZ (y := (⟨"com/example/bellwether/bellwether/protocol/OpCode", "values", "()[Lcom/example/bellwether/bellwether/protocol/OpCode;"⟩ : MethodName)) 0 hown (hw _ (List.mem_of_getElem? (i := 4) rfl)) (hw _ (List.mem_of_getElem? (i := 5) rfl)) (hw _ (List.mem_of_getElem? (i := 2) rfl)) (hw _ (List.mem_of_getElem? (i := 6) rfl)) (by decide) (argsL := []) (rest := []) (rm2 l Z a0 hw [] wV w0 w1 w2 w3 w4 w5 w6 w7 w8 w9 w10 w11 h0 n0 Z0 S_V V_V E_V) (by decide) (by decide) (by decide) (by decide) (g := (mkF m 0 #[.val (.int p0), .unset, .unset, .unset, .unset] [])) rfl (by rw [hml]; rfl) (lenOf pd____Lcom_example_bellwether_bellwether_pr_216 rfl) rfl (by show 2 * 0 + _ ≤ _; exact Nat.le_of_eq rfl) (hb hby d1_0) e0 ?_
  rintro v1 T1 L1 X1 ⟨bq1, rfl, N1q, szq1, Kq1, Vq1⟩
  have N1 := Fr.app N0 N1q
  have K0 := K0.trans Kq1 all0
  have F_0 := F_0.keep Kq1 nin0
  have F_1 := F_1.keep Kq1 nin0
  have F_2 := F_2.keep Kq1 nin0
  have F_3 := F_3.keep Kq1 nin0
  have F_4 := F_4.keep Kq1 nin0
  have F_5 := F_5.keep Kq1 nin0
  have F_6 := F_6.keep Kq1 nin0
  have F_7 := F_7.keep Kq1 nin0
  have F_8 := F_8.keep Kq1 nin0
  have F_9 := F_9.keep Kq1 nin0
  have F_10 := F_10.keep Kq1 nin0
  have F_11 := F_11.keep Kq1 nin0
  show GG _ _ _ _ _ _ _ T1 (mkF m 3 #[.val (.int p0), .unset, .unset, .unset, .unset] [(.ref bq1)])
  refine own_go (fun _ => XS.astoreN X1.here hx rfl (hb hby d1_3) rfl rfl (l' := #[.val (.int p0), .val (.ref bq1), .unset, .unset, .unset]) rfl) ?_
  show GG _ _ _ _ _ _ _ T1 (mkF m 4 #[.val (.int p0), .val (.ref bq1), .unset, .unset, .unset] [])
  refine own_go (fun _ => XS.aloadN X1.here hx rfl (hb hby d1_4) rfl rfl) ?_
  show GG _ _ _ _ _ _ _ T1 (mkF m 5 #[.val (.int p0), .val (.ref bq1), .unset, .unset, .unset] [(.ref bq1)])
  refine own_go (fun _ => own_len X1 hx hZ rfl Vq1 (g := (mkF m 5 #[.val (.int p0), .val (.ref bq1), .unset, .unset, .unset] [(.ref bq1)])) rfl rfl (hb hby d1_5) _) ?_
  show GG _ _ _ _ _ _ _ T1 (mkF m 6 #[.val (.int p0), .val (.ref bq1), .unset, .unset, .unset] [(.int (12 : Int32))])
  refine own_go (fun _ => XS.istoreN X1.here hx rfl (hb hby d1_6) rfl (l' := #[.val (.int p0), .val (.ref bq1), .val (.int (12 : Int32)), .unset, .unset]) rfl) ?_
  show GG _ _ _ _ _ _ _ T1 (mkF m 7 #[.val (.int p0), .val (.ref bq1), .val (.int (12 : Int32)), .unset, .unset] [])
  refine own_go (fun _ => XS.iconst X1.here hx rfl (hb hby d1_7)) ?_
  show GG _ _ _ _ _ _ _ T1 (mkF m 8 #[.val (.int p0), .val (.ref bq1), .val (.int (12 : Int32)), .unset, .unset] [(.int (0 : Int32))])
  refine own_go (fun _ => XS.istoreN X1.here hx rfl (hb hby d1_8) rfl (l' := #[.val (.int p0), .val (.ref bq1), .val (.int (12 : Int32)), .val (.int (0 : Int32)), .unset]) rfl) ?_
  show GG _ _ _ _ _ _ _ T1 (mkF m 9 #[.val (.int p0), .val (.ref bq1), .val (.int (12 : Int32)), .val (.int (0 : Int32)), .unset] [])
  refine own_go (fun _ => XS.iloadN X1.here hx rfl (hb hby d1_9) rfl) ?_
  show GG _ _ _ _ _ _ _ T1 (mkF m 10 #[.val (.int p0), .val (.ref bq1), .val (.int (12 : Int32)), .val (.int (0 : Int32)), .unset] [(.int (0 : Int32))])
  refine own_go (fun _ => XS.iloadN X1.here hx rfl (hb hby d1_10) rfl) ?_
  show GG _ _ _ _ _ _ _ T1 (mkF m 11 #[.val (.int p0), .val (.ref bq1), .val (.int (12 : Int32)), .val (.int (0 : Int32)), .unset] [(.int (12 : Int32)), (.int (0 : Int32))])
  have hc11 : (0 : Int32) < (12 : Int32) := by decide
  refine own_go (fun _ => XS.icmpNo X1.here hx rfl (hb hby d1_11) rfl (tlt hc11).2.1) ?_
  show GG _ _ _ _ _ _ _ T1 (mkF m 14 #[.val (.int p0), .val (.ref bq1), .val (.int (12 : Int32)), .val (.int (0 : Int32)), .unset] [])
  refine own_go (fun _ => XS.aloadN X1.here hx rfl (hb hby d1_14) rfl rfl) ?_
  show GG _ _ _ _ _ _ _ T1 (mkF m 15 #[.val (.int p0), .val (.ref bq1), .val (.int (12 : Int32)), .val (.int (0 : Int32)), .unset] [(.ref bq1)])
  refine own_go (fun _ => XS.iloadN X1.here hx rfl (hb hby d1_15) rfl) ?_
  show GG _ _ _ _ _ _ _ T1 (mkF m 16 #[.val (.int p0), .val (.ref bq1), .val (.int (12 : Int32)), .val (.int (0 : Int32)), .unset] [(.int (0 : Int32)), (.ref bq1)])
  refine own_go (fun _ => own_aaload X1 hx hZ rfl Vq1 rfl (j := (0 : Int32)) (v := (.ref w0)) (by decide) rfl (g := (mkF m 16 #[.val (.int p0), .val (.ref bq1), .val (.int (12 : Int32)), .val (.int (0 : Int32)), .unset] [(.int (0 : Int32)), (.ref bq1)])) rfl rfl (hb hby d1_16) _) ?_
  show GG _ _ _ _ _ _ _ T1 (mkF m 17 #[.val (.int p0), .val (.ref bq1), .val (.int (12 : Int32)), .val (.int (0 : Int32)), .unset] [(.ref w0)])
  refine own_go (fun _ => XS.astore X1.here hx rfl (hb hby d1_17) rfl rfl (l' := #[.val (.int p0), .val (.ref bq1), .val (.int (12 : Int32)), .val (.int (0 : Int32)), .val (.ref w0)]) rfl) ?_
  show GG _ _ _ _ _ _ _ T1 (mkF m 19 #[.val (.int p0), .val (.ref bq1), .val (.int (12 : Int32)), .val (.int (0 : Int32)), .val (.ref w0)] [])
  refine own_go (fun _ => XS.aload X1.here hx rfl (hb hby d1_19) rfl rfl) ?_
  show GG _ _ _ _ _ _ _ T1 (mkF m 21 #[.val (.int p0), .val (.ref bq1), .val (.int (12 : Int32)), .val (.int (0 : Int32)), .val (.ref w0)] [(.ref w0)])
  obtain ⟨T2, X2, e2, st2⟩ := getF X1 hx hZ hown (host := "") (Or.inl (hw _ (List.mem_of_getElem? (i := 31) rfl))) Via.refl rfl F_0 (g := (mkF m 21 #[.val (.int p0), .val (.ref bq1), .val (.int (12 : Int32)), .val (.int (0 : Int32)), .val (.ref w0)] [(.ref w0)])) rfl rfl (hb hby d1_21)
  refine own_go (fun _ => st2 _) ?_
  show GG _ _ _ _ _ _ _ T2 (mkF m 24 #[.val (.int p0), .val (.ref bq1), .val (.int (12 : Int32)), .val (.int (0 : Int32)), .val (.ref w0)] [(.int (1 : Int32))])
  refine own_go (fun _ => XS.iloadN X2.here hx rfl (hb hby d1_24) rfl) ?_
  show GG _ _ _ _ _ _ _ T2 (mkF m 25 #[.val (.int p0), .val (.ref bq1), .val (.int (12 : Int32)), .val (.int (0 : Int32)), .val (.ref w0)] [(.int p0), (.int (1 : Int32))])
  have hc25 : (1 : Int32) = p0 := hp.symm
  refine own_go (fun _ => XS.icmpNo X2.here hx rfl (hb hby d1_25) rfl (teq hc25).2) ?_
  show GG _ _ _ _ _ _ _ T2 (mkF m 28 #[.val (.int p0), .val (.ref bq1), .val (.int (12 : Int32)), .val (.int (0 : Int32)), .val (.ref w0)] [])
  refine own_go (fun _ => XS.aload X2.here hx rfl (hb hby d1_28) rfl rfl) ?_
  show GG _ _ _ _ _ _ _ T2 (mkF m 30 #[.val (.int p0), .val (.ref bq1), .val (.int (12 : Int32)), .val (.int (0 : Int32)), .val (.ref w0)] [(.ref w0)])
  refine own_ret X2 hx hlk (t := (.object "com/example/bellwether/bellwether/protocol/OpCode")) (w := (.ref w0)) Bd.returns rfl (Or.inr (Or.inr (Or.inr (Or.inr ⟨rfl, rfl, rfl⟩)))) (hb hby d1_30) (by decide) (by decide) ?_
  show Q1_0 Z p0 wV w0 w1 w2 w3 w4 w5 w6 w7 w8 w9 w10 w11 h0 n0 (some (.ref w0)) T2.heap _
  rw [e2]
  exact ⟨rfl, N1, K0⟩
theorem d1_31 : decode prog_23_method_5_code 31 = .ok (.iinc 3 1, 3) := by decide +kernel
theorem d1_34 : decode prog_23_method_5_code 34 = .ok (.goto (-25), 3) := by decide +kernel
def Q1_1 (Z : State) (p0 : Int32) (wV : Addr) (w0 w1 w2 w3 w4 w5 w6 w7 w8 w9 w10 w11 : Addr) (h0 : Heap) (n0 : Nat) (v : Option Value) (h : Heap) (L : List Loc) : Prop := v = some (.ref w1) ∧ Fr n0 L ∧ Keep h0 h []
set_option maxRecDepth 65536 in
set_option maxHeartbeats 40000000 in
theorem rm1_1 (l : Launch) (Z : State) (a0 : Array Value) (hw : ∀ d ∈ tables_1, d.before a0 Z = true) (ws : List Jvm.Cond) (p0 : Int32) (wV : Addr) (w0 w1 w2 w3 w4 w5 w6 w7 w8 w9 w10 w11 : Addr) (h0 : Heap) (n0 : Nat) (Z0 : n0 ≤ h0.size) (hp : p0 = (2 : Int32)) (S_V : Sta Z h0 "com/example/bellwether/bellwether/protocol/OpCode" "$VALUES" "[Lcom/example/bellwether/bellwether/protocol/OpCode;" (.ref wV)) (V_V : Arx Z h0 wV (.object "com/example/bellwether/bellwether/protocol/OpCode") [(.ref w0), (.ref w1), (.ref w2), (.ref w3), (.ref w4), (.ref w5), (.ref w6), (.ref w7), (.ref w8), (.ref w9), (.ref w10), (.ref w11)]) (E_V : Exa Z h0 wV "[Lcom/example/bellwether/bellwether/protocol/OpCode;") (F_0 : Fld Z h0 w0 "com/example/bellwether/bellwether/protocol/OpCode" "code" "I" (.int (1 : Int32))) (F_1 : Fld Z h0 w1 "com/example/bellwether/bellwether/protocol/OpCode" "code" "I" (.int (2 : Int32))) (F_2 : Fld Z h0 w2 "com/example/bellwether/bellwether/protocol/OpCode" "code" "I" (.int (3 : Int32))) (F_3 : Fld Z h0 w3 "com/example/bellwether/bellwether/protocol/OpCode" "code" "I" (.int (4 : Int32))) (F_4 : Fld Z h0 w4 "com/example/bellwether/bellwether/protocol/OpCode" "code" "I" (.int (5 : Int32))) (F_5 : Fld Z h0 w5 "com/example/bellwether/bellwether/protocol/OpCode" "code" "I" (.int (8 : Int32))) (F_6 : Fld Z h0 w6 "com/example/bellwether/bellwether/protocol/OpCode" "code" "I" (.int (9 : Int32))) (F_7 : Fld Z h0 w7 "com/example/bellwether/bellwether/protocol/OpCode" "code" "I" (.int (11 : Int32))) (F_8 : Fld Z h0 w8 "com/example/bellwether/bellwether/protocol/OpCode" "code" "I" (.int (12 : Int32))) (F_9 : Fld Z h0 w9 "com/example/bellwether/bellwether/protocol/OpCode" "code" "I" (.int (13 : Int32))) (F_10 : Fld Z h0 w10 "com/example/bellwether/bellwether/protocol/OpCode" "code" "I" (.int (14 : Int32))) (F_11 : Fld Z h0 w11 "com/example/bellwether/bellwether/protocol/OpCode" "code" "I" (.int (-11 : Int32))) :
    own_CT l Z (⟨"com/example/bellwether/bellwether/protocol/OpCode", "of", "(I)Lcom/example/bellwether/bellwether/protocol/OpCode;"⟩ : MethodName) prog_23_method_5_code 5 (some (.object "com/example/bellwether/bellwether/protocol/OpCode")) ws ({ frames := 2, cells := 1, slots := 12, locals := 25 } : Room) #[(.int p0)] h0 (Q1_1 Z p0 wV w0 w1 w2 w3 w4 w5 w6 w7 w8 w9 w10 w11 h0 n0) := by
  refine MetFree.of_bodySF (plainFor_of_name pn_com_example_bellwether_bellwether_protocol_OpCode) hisR ?_
  intro p e s m args below meth c s₁ Bd hml0 hP hK
  obtain ⟨rfl, hZ, hh⟩ := hP
  have hx := Bd.exec
  have hby := Bd.bytes
  have hml : c.maxLocals = 5 := hml0
  have hown : s.vm.findClass "com/example/bellwether/bellwether/protocol/OpCode" = some m.cls := findClass_of_methodNamed Bd.named
  have hnm := (name_of_methodNamed Bd.named Bd.method).1
  have hlk : meth.locks = false := BodyLoose.notSynchronized Bd
  have X0 : Stand p l e ({ frames := 2, cells := 1, slots := 12, locals := 25 } : Room) s m #[(.int p0)] below meth c s₁ [] 0 0 := Stand.of_body Bd
  have e0 : s₁.heap = h0 := by rw [← hh, Bd.state]; rfl
  have N0 := Fr.nil n0
  show GG p e below s ({ frames := 2, cells := 1, slots := 12, locals := 25 } : Room).cells ({ frames := 2, cells := 1, slots := 12, locals := 25 } : Room).slots (Q1_1 Z p0 wV w0 w1 w2 w3 w4 w5 w6 w7 w8 w9 w10 w11 h0 n0) s₁ (entryFrame m #[(.int p0)] 5)
  refine own_in (ef_1 m p0) ?_
  have K0 := Keep.refl h0 []
  show GG _ _ _ _ _ _ _ s₁ (mkF m 0 #[.val (.int p0), .unset, .unset, .unset, .unset] [])
  refine own_callS X0 hx hZ (y := (⟨"com/example/bellwether/bellwether/protocol/OpCode", "values", "()[Lcom/example/bellwether/bellwether/protocol/OpCode;"⟩ : MethodName)) 0 hown (hw _ (List.mem_of_getElem? (i := 4) rfl)) (hw _ (List.mem_of_getElem? (i := 5) rfl)) (hw _ (List.mem_of_getElem? (i := 2) rfl)) (hw _ (List.mem_of_getElem? (i := 6) rfl)) (by decide) (argsL := []) (rest := []) (rm2 l Z a0 hw [] wV w0 w1 w2 w3 w4 w5 w6 w7 w8 w9 w10 w11 h0 n0 Z0 S_V V_V E_V) (by decide) (by decide) (by decide) (by decide) (g := (mkF m 0 #[.val (.int p0), .unset, .unset, .unset, .unset] [])) rfl (by rw [hml]; rfl) (lenOf pd____Lcom_example_bellwether_bellwether_pr_216 rfl) rfl (by show 2 * 0 + _ ≤ _; exact Nat.le_of_eq rfl) (hb hby d1_0) e0 ?_
  rintro v1 T1 L1 X1 ⟨bq1, rfl, N1q, szq1, Kq1, Vq1⟩
  have N1 := Fr.app N0 N1q
  have K0 := K0.trans Kq1 all0
  have F_0 := F_0.keep Kq1 nin0
  have F_1 := F_1.keep Kq1 nin0
  have F_2 := F_2.keep Kq1 nin0
  have F_3 := F_3.keep Kq1 nin0
  have F_4 := F_4.keep Kq1 nin0
  have F_5 := F_5.keep Kq1 nin0
  have F_6 := F_6.keep Kq1 nin0
  have F_7 := F_7.keep Kq1 nin0
  have F_8 := F_8.keep Kq1 nin0
  have F_9 := F_9.keep Kq1 nin0
  have F_10 := F_10.keep Kq1 nin0
  have F_11 := F_11.keep Kq1 nin0
  show GG _ _ _ _ _ _ _ T1 (mkF m 3 #[.val (.int p0), .unset, .unset, .unset, .unset] [(.ref bq1)])
  refine own_go (fun _ => XS.astoreN X1.here hx rfl (hb hby d1_3) rfl rfl (l' := #[.val (.int p0), .val (.ref bq1), .unset, .unset, .unset]) rfl) ?_
  show GG _ _ _ _ _ _ _ T1 (mkF m 4 #[.val (.int p0), .val (.ref bq1), .unset, .unset, .unset] [])
  refine own_go (fun _ => XS.aloadN X1.here hx rfl (hb hby d1_4) rfl rfl) ?_
  show GG _ _ _ _ _ _ _ T1 (mkF m 5 #[.val (.int p0), .val (.ref bq1), .unset, .unset, .unset] [(.ref bq1)])
  refine own_go (fun _ => own_len X1 hx hZ rfl Vq1 (g := (mkF m 5 #[.val (.int p0), .val (.ref bq1), .unset, .unset, .unset] [(.ref bq1)])) rfl rfl (hb hby d1_5) _) ?_
  show GG _ _ _ _ _ _ _ T1 (mkF m 6 #[.val (.int p0), .val (.ref bq1), .unset, .unset, .unset] [(.int (12 : Int32))])
  refine own_go (fun _ => XS.istoreN X1.here hx rfl (hb hby d1_6) rfl (l' := #[.val (.int p0), .val (.ref bq1), .val (.int (12 : Int32)), .unset, .unset]) rfl) ?_
  show GG _ _ _ _ _ _ _ T1 (mkF m 7 #[.val (.int p0), .val (.ref bq1), .val (.int (12 : Int32)), .unset, .unset] [])
  refine own_go (fun _ => XS.iconst X1.here hx rfl (hb hby d1_7)) ?_
  show GG _ _ _ _ _ _ _ T1 (mkF m 8 #[.val (.int p0), .val (.ref bq1), .val (.int (12 : Int32)), .unset, .unset] [(.int (0 : Int32))])
  refine own_go (fun _ => XS.istoreN X1.here hx rfl (hb hby d1_8) rfl (l' := #[.val (.int p0), .val (.ref bq1), .val (.int (12 : Int32)), .val (.int (0 : Int32)), .unset]) rfl) ?_
  show GG _ _ _ _ _ _ _ T1 (mkF m 9 #[.val (.int p0), .val (.ref bq1), .val (.int (12 : Int32)), .val (.int (0 : Int32)), .unset] [])
  refine own_go (fun _ => XS.iloadN X1.here hx rfl (hb hby d1_9) rfl) ?_
  show GG _ _ _ _ _ _ _ T1 (mkF m 10 #[.val (.int p0), .val (.ref bq1), .val (.int (12 : Int32)), .val (.int (0 : Int32)), .unset] [(.int (0 : Int32))])
  refine own_go (fun _ => XS.iloadN X1.here hx rfl (hb hby d1_10) rfl) ?_
  show GG _ _ _ _ _ _ _ T1 (mkF m 11 #[.val (.int p0), .val (.ref bq1), .val (.int (12 : Int32)), .val (.int (0 : Int32)), .unset] [(.int (12 : Int32)), (.int (0 : Int32))])
  have hc11 : (0 : Int32) < (12 : Int32) := by decide
  refine own_go (fun _ => XS.icmpNo X1.here hx rfl (hb hby d1_11) rfl (tlt hc11).2.1) ?_
  show GG _ _ _ _ _ _ _ T1 (mkF m 14 #[.val (.int p0), .val (.ref bq1), .val (.int (12 : Int32)), .val (.int (0 : Int32)), .unset] [])
  refine own_go (fun _ => XS.aloadN X1.here hx rfl (hb hby d1_14) rfl rfl) ?_
  show GG _ _ _ _ _ _ _ T1 (mkF m 15 #[.val (.int p0), .val (.ref bq1), .val (.int (12 : Int32)), .val (.int (0 : Int32)), .unset] [(.ref bq1)])
  refine own_go (fun _ => XS.iloadN X1.here hx rfl (hb hby d1_15) rfl) ?_
  show GG _ _ _ _ _ _ _ T1 (mkF m 16 #[.val (.int p0), .val (.ref bq1), .val (.int (12 : Int32)), .val (.int (0 : Int32)), .unset] [(.int (0 : Int32)), (.ref bq1)])
  refine own_go (fun _ => own_aaload X1 hx hZ rfl Vq1 rfl (j := (0 : Int32)) (v := (.ref w0)) (by decide) rfl (g := (mkF m 16 #[.val (.int p0), .val (.ref bq1), .val (.int (12 : Int32)), .val (.int (0 : Int32)), .unset] [(.int (0 : Int32)), (.ref bq1)])) rfl rfl (hb hby d1_16) _) ?_
  show GG _ _ _ _ _ _ _ T1 (mkF m 17 #[.val (.int p0), .val (.ref bq1), .val (.int (12 : Int32)), .val (.int (0 : Int32)), .unset] [(.ref w0)])
  refine own_go (fun _ => XS.astore X1.here hx rfl (hb hby d1_17) rfl rfl (l' := #[.val (.int p0), .val (.ref bq1), .val (.int (12 : Int32)), .val (.int (0 : Int32)), .val (.ref w0)]) rfl) ?_
  show GG _ _ _ _ _ _ _ T1 (mkF m 19 #[.val (.int p0), .val (.ref bq1), .val (.int (12 : Int32)), .val (.int (0 : Int32)), .val (.ref w0)] [])
  refine own_go (fun _ => XS.aload X1.here hx rfl (hb hby d1_19) rfl rfl) ?_
  show GG _ _ _ _ _ _ _ T1 (mkF m 21 #[.val (.int p0), .val (.ref bq1), .val (.int (12 : Int32)), .val (.int (0 : Int32)), .val (.ref w0)] [(.ref w0)])
  obtain ⟨T2, X2, e2, st2⟩ := getF X1 hx hZ hown (host := "") (Or.inl (hw _ (List.mem_of_getElem? (i := 31) rfl))) Via.refl rfl F_0 (g := (mkF m 21 #[.val (.int p0), .val (.ref bq1), .val (.int (12 : Int32)), .val (.int (0 : Int32)), .val (.ref w0)] [(.ref w0)])) rfl rfl (hb hby d1_21)
  refine own_go (fun _ => st2 _) ?_
  show GG _ _ _ _ _ _ _ T2 (mkF m 24 #[.val (.int p0), .val (.ref bq1), .val (.int (12 : Int32)), .val (.int (0 : Int32)), .val (.ref w0)] [(.int (1 : Int32))])
  refine own_go (fun _ => XS.iloadN X2.here hx rfl (hb hby d1_24) rfl) ?_
  show GG _ _ _ _ _ _ _ T2 (mkF m 25 #[.val (.int p0), .val (.ref bq1), .val (.int (12 : Int32)), .val (.int (0 : Int32)), .val (.ref w0)] [(.int p0), (.int (1 : Int32))])
  have hc25 : ¬ ((1 : Int32) = p0) := by rw [hp]; decide
  refine own_go (fun _ => XS.icmpYes X2.here hx rfl (pc0 := 25) (pc' := 31) rfl (hb hby d1_25) rfl (feq hc25).2 (by decide) (by decide)) ?_
  show GG _ _ _ _ _ _ _ T2 (mkF m 31 #[.val (.int p0), .val (.ref bq1), .val (.int (12 : Int32)), .val (.int (0 : Int32)), .val (.ref w0)] [])
  refine own_go (fun _ => XS.iinc X2.here hx rfl (hb hby d1_31) rfl (l' := #[.val (.int p0), .val (.ref bq1), .val (.int (12 : Int32)), .val (.int (1 : Int32)), .val (.ref w0)]) rfl) ?_
  show GG _ _ _ _ _ _ _ T2 (mkF m 34 #[.val (.int p0), .val (.ref bq1), .val (.int (12 : Int32)), .val (.int (1 : Int32)), .val (.ref w0)] [])
  refine own_go (fun _ => XS.goto X2.here hx rfl (pc0 := 34) (pc' := 9) rfl (hb hby d1_34) (by decide) (by decide)) ?_
  show GG _ _ _ _ _ _ _ T2 (mkF m 9 #[.val (.int p0), .val (.ref bq1), .val (.int (12 : Int32)), .val (.int (1 : Int32)), .val (.ref w0)] [])
  refine own_go (fun _ => XS.iloadN X2.here hx rfl (hb hby d1_9) rfl) ?_
  show GG _ _ _ _ _ _ _ T2 (mkF m 10 #[.val (.int p0), .val (.ref bq1), .val (.int (12 : Int32)), .val (.int (1 : Int32)), .val (.ref w0)] [(.int (1 : Int32))])
  refine own_go (fun _ => XS.iloadN X2.here hx rfl (hb hby d1_10) rfl) ?_
  show GG _ _ _ _ _ _ _ T2 (mkF m 11 #[.val (.int p0), .val (.ref bq1), .val (.int (12 : Int32)), .val (.int (1 : Int32)), .val (.ref w0)] [(.int (12 : Int32)), (.int (1 : Int32))])
  have hc11 : (1 : Int32) < (12 : Int32) := by decide
  refine own_go (fun _ => XS.icmpNo X2.here hx rfl (hb hby d1_11) rfl (tlt hc11).2.1) ?_
  show GG _ _ _ _ _ _ _ T2 (mkF m 14 #[.val (.int p0), .val (.ref bq1), .val (.int (12 : Int32)), .val (.int (1 : Int32)), .val (.ref w0)] [])
  refine own_go (fun _ => XS.aloadN X2.here hx rfl (hb hby d1_14) rfl rfl) ?_
  show GG _ _ _ _ _ _ _ T2 (mkF m 15 #[.val (.int p0), .val (.ref bq1), .val (.int (12 : Int32)), .val (.int (1 : Int32)), .val (.ref w0)] [(.ref bq1)])
  refine own_go (fun _ => XS.iloadN X2.here hx rfl (hb hby d1_15) rfl) ?_
  show GG _ _ _ _ _ _ _ T2 (mkF m 16 #[.val (.int p0), .val (.ref bq1), .val (.int (12 : Int32)), .val (.int (1 : Int32)), .val (.ref w0)] [(.int (1 : Int32)), (.ref bq1)])
  refine own_go (fun _ => own_aaload X2 hx hZ e2 Vq1 rfl (j := (1 : Int32)) (v := (.ref w1)) (by decide) rfl (g := (mkF m 16 #[.val (.int p0), .val (.ref bq1), .val (.int (12 : Int32)), .val (.int (1 : Int32)), .val (.ref w0)] [(.int (1 : Int32)), (.ref bq1)])) rfl rfl (hb hby d1_16) _) ?_
  show GG _ _ _ _ _ _ _ T2 (mkF m 17 #[.val (.int p0), .val (.ref bq1), .val (.int (12 : Int32)), .val (.int (1 : Int32)), .val (.ref w0)] [(.ref w1)])
  refine own_go (fun _ => XS.astore X2.here hx rfl (hb hby d1_17) rfl rfl (l' := #[.val (.int p0), .val (.ref bq1), .val (.int (12 : Int32)), .val (.int (1 : Int32)), .val (.ref w1)]) rfl) ?_
  show GG _ _ _ _ _ _ _ T2 (mkF m 19 #[.val (.int p0), .val (.ref bq1), .val (.int (12 : Int32)), .val (.int (1 : Int32)), .val (.ref w1)] [])
  refine own_go (fun _ => XS.aload X2.here hx rfl (hb hby d1_19) rfl rfl) ?_
  show GG _ _ _ _ _ _ _ T2 (mkF m 21 #[.val (.int p0), .val (.ref bq1), .val (.int (12 : Int32)), .val (.int (1 : Int32)), .val (.ref w1)] [(.ref w1)])
  obtain ⟨T3, X3, e3, st3⟩ := getF X2 hx hZ hown (host := "") (Or.inl (hw _ (List.mem_of_getElem? (i := 31) rfl))) Via.refl e2 F_1 (g := (mkF m 21 #[.val (.int p0), .val (.ref bq1), .val (.int (12 : Int32)), .val (.int (1 : Int32)), .val (.ref w1)] [(.ref w1)])) rfl rfl (hb hby d1_21)
  refine own_go (fun _ => st3 _) ?_
  show GG _ _ _ _ _ _ _ T3 (mkF m 24 #[.val (.int p0), .val (.ref bq1), .val (.int (12 : Int32)), .val (.int (1 : Int32)), .val (.ref w1)] [(.int (2 : Int32))])
  refine own_go (fun _ => XS.iloadN X3.here hx rfl (hb hby d1_24) rfl) ?_
  show GG _ _ _ _ _ _ _ T3 (mkF m 25 #[.val (.int p0), .val (.ref bq1), .val (.int (12 : Int32)), .val (.int (1 : Int32)), .val (.ref w1)] [(.int p0), (.int (2 : Int32))])
  have hc25 : (2 : Int32) = p0 := hp.symm
  refine own_go (fun _ => XS.icmpNo X3.here hx rfl (hb hby d1_25) rfl (teq hc25).2) ?_
  show GG _ _ _ _ _ _ _ T3 (mkF m 28 #[.val (.int p0), .val (.ref bq1), .val (.int (12 : Int32)), .val (.int (1 : Int32)), .val (.ref w1)] [])
  refine own_go (fun _ => XS.aload X3.here hx rfl (hb hby d1_28) rfl rfl) ?_
  show GG _ _ _ _ _ _ _ T3 (mkF m 30 #[.val (.int p0), .val (.ref bq1), .val (.int (12 : Int32)), .val (.int (1 : Int32)), .val (.ref w1)] [(.ref w1)])
  refine own_ret X3 hx hlk (t := (.object "com/example/bellwether/bellwether/protocol/OpCode")) (w := (.ref w1)) Bd.returns rfl (Or.inr (Or.inr (Or.inr (Or.inr ⟨rfl, rfl, rfl⟩)))) (hb hby d1_30) (by decide) (by decide) ?_
  show Q1_1 Z p0 wV w0 w1 w2 w3 w4 w5 w6 w7 w8 w9 w10 w11 h0 n0 (some (.ref w1)) T3.heap _
  rw [e3]
  exact ⟨rfl, N1, K0⟩
def Q1_2 (Z : State) (p0 : Int32) (wV : Addr) (w0 w1 w2 w3 w4 w5 w6 w7 w8 w9 w10 w11 : Addr) (h0 : Heap) (n0 : Nat) (v : Option Value) (h : Heap) (L : List Loc) : Prop := v = some (.ref w2) ∧ Fr n0 L ∧ Keep h0 h []
set_option maxRecDepth 65536 in
set_option maxHeartbeats 40000000 in
theorem rm1_2 (l : Launch) (Z : State) (a0 : Array Value) (hw : ∀ d ∈ tables_1, d.before a0 Z = true) (ws : List Jvm.Cond) (p0 : Int32) (wV : Addr) (w0 w1 w2 w3 w4 w5 w6 w7 w8 w9 w10 w11 : Addr) (h0 : Heap) (n0 : Nat) (Z0 : n0 ≤ h0.size) (hp : p0 = (3 : Int32)) (S_V : Sta Z h0 "com/example/bellwether/bellwether/protocol/OpCode" "$VALUES" "[Lcom/example/bellwether/bellwether/protocol/OpCode;" (.ref wV)) (V_V : Arx Z h0 wV (.object "com/example/bellwether/bellwether/protocol/OpCode") [(.ref w0), (.ref w1), (.ref w2), (.ref w3), (.ref w4), (.ref w5), (.ref w6), (.ref w7), (.ref w8), (.ref w9), (.ref w10), (.ref w11)]) (E_V : Exa Z h0 wV "[Lcom/example/bellwether/bellwether/protocol/OpCode;") (F_0 : Fld Z h0 w0 "com/example/bellwether/bellwether/protocol/OpCode" "code" "I" (.int (1 : Int32))) (F_1 : Fld Z h0 w1 "com/example/bellwether/bellwether/protocol/OpCode" "code" "I" (.int (2 : Int32))) (F_2 : Fld Z h0 w2 "com/example/bellwether/bellwether/protocol/OpCode" "code" "I" (.int (3 : Int32))) (F_3 : Fld Z h0 w3 "com/example/bellwether/bellwether/protocol/OpCode" "code" "I" (.int (4 : Int32))) (F_4 : Fld Z h0 w4 "com/example/bellwether/bellwether/protocol/OpCode" "code" "I" (.int (5 : Int32))) (F_5 : Fld Z h0 w5 "com/example/bellwether/bellwether/protocol/OpCode" "code" "I" (.int (8 : Int32))) (F_6 : Fld Z h0 w6 "com/example/bellwether/bellwether/protocol/OpCode" "code" "I" (.int (9 : Int32))) (F_7 : Fld Z h0 w7 "com/example/bellwether/bellwether/protocol/OpCode" "code" "I" (.int (11 : Int32))) (F_8 : Fld Z h0 w8 "com/example/bellwether/bellwether/protocol/OpCode" "code" "I" (.int (12 : Int32))) (F_9 : Fld Z h0 w9 "com/example/bellwether/bellwether/protocol/OpCode" "code" "I" (.int (13 : Int32))) (F_10 : Fld Z h0 w10 "com/example/bellwether/bellwether/protocol/OpCode" "code" "I" (.int (14 : Int32))) (F_11 : Fld Z h0 w11 "com/example/bellwether/bellwether/protocol/OpCode" "code" "I" (.int (-11 : Int32))) :
    own_CT l Z (⟨"com/example/bellwether/bellwether/protocol/OpCode", "of", "(I)Lcom/example/bellwether/bellwether/protocol/OpCode;"⟩ : MethodName) prog_23_method_5_code 5 (some (.object "com/example/bellwether/bellwether/protocol/OpCode")) ws ({ frames := 2, cells := 1, slots := 12, locals := 25 } : Room) #[(.int p0)] h0 (Q1_2 Z p0 wV w0 w1 w2 w3 w4 w5 w6 w7 w8 w9 w10 w11 h0 n0) := by
  refine MetFree.of_bodySF (plainFor_of_name pn_com_example_bellwether_bellwether_protocol_OpCode) hisR ?_
  intro p e s m args below meth c s₁ Bd hml0 hP hK
  obtain ⟨rfl, hZ, hh⟩ := hP
  have hx := Bd.exec
  have hby := Bd.bytes
  have hml : c.maxLocals = 5 := hml0
  have hown : s.vm.findClass "com/example/bellwether/bellwether/protocol/OpCode" = some m.cls := findClass_of_methodNamed Bd.named
  have hnm := (name_of_methodNamed Bd.named Bd.method).1
  have hlk : meth.locks = false := BodyLoose.notSynchronized Bd
  have X0 : Stand p l e ({ frames := 2, cells := 1, slots := 12, locals := 25 } : Room) s m #[(.int p0)] below meth c s₁ [] 0 0 := Stand.of_body Bd
  have e0 : s₁.heap = h0 := by rw [← hh, Bd.state]; rfl
  have N0 := Fr.nil n0
  show GG p e below s ({ frames := 2, cells := 1, slots := 12, locals := 25 } : Room).cells ({ frames := 2, cells := 1, slots := 12, locals := 25 } : Room).slots (Q1_2 Z p0 wV w0 w1 w2 w3 w4 w5 w6 w7 w8 w9 w10 w11 h0 n0) s₁ (entryFrame m #[(.int p0)] 5)
  refine own_in (ef_1 m p0) ?_
  have K0 := Keep.refl h0 []
  show GG _ _ _ _ _ _ _ s₁ (mkF m 0 #[.val (.int p0), .unset, .unset, .unset, .unset] [])
  refine own_callS X0 hx hZ (y := (⟨"com/example/bellwether/bellwether/protocol/OpCode", "values", "()[Lcom/example/bellwether/bellwether/protocol/OpCode;"⟩ : MethodName)) 0 hown (hw _ (List.mem_of_getElem? (i := 4) rfl)) (hw _ (List.mem_of_getElem? (i := 5) rfl)) (hw _ (List.mem_of_getElem? (i := 2) rfl)) (hw _ (List.mem_of_getElem? (i := 6) rfl)) (by decide) (argsL := []) (rest := []) (rm2 l Z a0 hw [] wV w0 w1 w2 w3 w4 w5 w6 w7 w8 w9 w10 w11 h0 n0 Z0 S_V V_V E_V) (by decide) (by decide) (by decide) (by decide) (g := (mkF m 0 #[.val (.int p0), .unset, .unset, .unset, .unset] [])) rfl (by rw [hml]; rfl) (lenOf pd____Lcom_example_bellwether_bellwether_pr_216 rfl) rfl (by show 2 * 0 + _ ≤ _; exact Nat.le_of_eq rfl) (hb hby d1_0) e0 ?_
  rintro v1 T1 L1 X1 ⟨bq1, rfl, N1q, szq1, Kq1, Vq1⟩
  have N1 := Fr.app N0 N1q
  have K0 := K0.trans Kq1 all0
  have F_0 := F_0.keep Kq1 nin0
  have F_1 := F_1.keep Kq1 nin0
  have F_2 := F_2.keep Kq1 nin0
  have F_3 := F_3.keep Kq1 nin0
  have F_4 := F_4.keep Kq1 nin0
  have F_5 := F_5.keep Kq1 nin0
  have F_6 := F_6.keep Kq1 nin0
  have F_7 := F_7.keep Kq1 nin0
  have F_8 := F_8.keep Kq1 nin0
  have F_9 := F_9.keep Kq1 nin0
  have F_10 := F_10.keep Kq1 nin0
  have F_11 := F_11.keep Kq1 nin0
  show GG _ _ _ _ _ _ _ T1 (mkF m 3 #[.val (.int p0), .unset, .unset, .unset, .unset] [(.ref bq1)])
  refine own_go (fun _ => XS.astoreN X1.here hx rfl (hb hby d1_3) rfl rfl (l' := #[.val (.int p0), .val (.ref bq1), .unset, .unset, .unset]) rfl) ?_
  show GG _ _ _ _ _ _ _ T1 (mkF m 4 #[.val (.int p0), .val (.ref bq1), .unset, .unset, .unset] [])
  refine own_go (fun _ => XS.aloadN X1.here hx rfl (hb hby d1_4) rfl rfl) ?_
  show GG _ _ _ _ _ _ _ T1 (mkF m 5 #[.val (.int p0), .val (.ref bq1), .unset, .unset, .unset] [(.ref bq1)])
  refine own_go (fun _ => own_len X1 hx hZ rfl Vq1 (g := (mkF m 5 #[.val (.int p0), .val (.ref bq1), .unset, .unset, .unset] [(.ref bq1)])) rfl rfl (hb hby d1_5) _) ?_
  show GG _ _ _ _ _ _ _ T1 (mkF m 6 #[.val (.int p0), .val (.ref bq1), .unset, .unset, .unset] [(.int (12 : Int32))])
  refine own_go (fun _ => XS.istoreN X1.here hx rfl (hb hby d1_6) rfl (l' := #[.val (.int p0), .val (.ref bq1), .val (.int (12 : Int32)), .unset, .unset]) rfl) ?_
  show GG _ _ _ _ _ _ _ T1 (mkF m 7 #[.val (.int p0), .val (.ref bq1), .val (.int (12 : Int32)), .unset, .unset] [])
  refine own_go (fun _ => XS.iconst X1.here hx rfl (hb hby d1_7)) ?_
  show GG _ _ _ _ _ _ _ T1 (mkF m 8 #[.val (.int p0), .val (.ref bq1), .val (.int (12 : Int32)), .unset, .unset] [(.int (0 : Int32))])
  refine own_go (fun _ => XS.istoreN X1.here hx rfl (hb hby d1_8) rfl (l' := #[.val (.int p0), .val (.ref bq1), .val (.int (12 : Int32)), .val (.int (0 : Int32)), .unset]) rfl) ?_
  show GG _ _ _ _ _ _ _ T1 (mkF m 9 #[.val (.int p0), .val (.ref bq1), .val (.int (12 : Int32)), .val (.int (0 : Int32)), .unset] [])
  refine own_go (fun _ => XS.iloadN X1.here hx rfl (hb hby d1_9) rfl) ?_
  show GG _ _ _ _ _ _ _ T1 (mkF m 10 #[.val (.int p0), .val (.ref bq1), .val (.int (12 : Int32)), .val (.int (0 : Int32)), .unset] [(.int (0 : Int32))])
  refine own_go (fun _ => XS.iloadN X1.here hx rfl (hb hby d1_10) rfl) ?_
  show GG _ _ _ _ _ _ _ T1 (mkF m 11 #[.val (.int p0), .val (.ref bq1), .val (.int (12 : Int32)), .val (.int (0 : Int32)), .unset] [(.int (12 : Int32)), (.int (0 : Int32))])
  have hc11 : (0 : Int32) < (12 : Int32) := by decide
  refine own_go (fun _ => XS.icmpNo X1.here hx rfl (hb hby d1_11) rfl (tlt hc11).2.1) ?_
  show GG _ _ _ _ _ _ _ T1 (mkF m 14 #[.val (.int p0), .val (.ref bq1), .val (.int (12 : Int32)), .val (.int (0 : Int32)), .unset] [])
  refine own_go (fun _ => XS.aloadN X1.here hx rfl (hb hby d1_14) rfl rfl) ?_
  show GG _ _ _ _ _ _ _ T1 (mkF m 15 #[.val (.int p0), .val (.ref bq1), .val (.int (12 : Int32)), .val (.int (0 : Int32)), .unset] [(.ref bq1)])
  refine own_go (fun _ => XS.iloadN X1.here hx rfl (hb hby d1_15) rfl) ?_
  show GG _ _ _ _ _ _ _ T1 (mkF m 16 #[.val (.int p0), .val (.ref bq1), .val (.int (12 : Int32)), .val (.int (0 : Int32)), .unset] [(.int (0 : Int32)), (.ref bq1)])
  refine own_go (fun _ => own_aaload X1 hx hZ rfl Vq1 rfl (j := (0 : Int32)) (v := (.ref w0)) (by decide) rfl (g := (mkF m 16 #[.val (.int p0), .val (.ref bq1), .val (.int (12 : Int32)), .val (.int (0 : Int32)), .unset] [(.int (0 : Int32)), (.ref bq1)])) rfl rfl (hb hby d1_16) _) ?_
  show GG _ _ _ _ _ _ _ T1 (mkF m 17 #[.val (.int p0), .val (.ref bq1), .val (.int (12 : Int32)), .val (.int (0 : Int32)), .unset] [(.ref w0)])
  refine own_go (fun _ => XS.astore X1.here hx rfl (hb hby d1_17) rfl rfl (l' := #[.val (.int p0), .val (.ref bq1), .val (.int (12 : Int32)), .val (.int (0 : Int32)), .val (.ref w0)]) rfl) ?_
  show GG _ _ _ _ _ _ _ T1 (mkF m 19 #[.val (.int p0), .val (.ref bq1), .val (.int (12 : Int32)), .val (.int (0 : Int32)), .val (.ref w0)] [])
  refine own_go (fun _ => XS.aload X1.here hx rfl (hb hby d1_19) rfl rfl) ?_
  show GG _ _ _ _ _ _ _ T1 (mkF m 21 #[.val (.int p0), .val (.ref bq1), .val (.int (12 : Int32)), .val (.int (0 : Int32)), .val (.ref w0)] [(.ref w0)])
  obtain ⟨T2, X2, e2, st2⟩ := getF X1 hx hZ hown (host := "") (Or.inl (hw _ (List.mem_of_getElem? (i := 31) rfl))) Via.refl rfl F_0 (g := (mkF m 21 #[.val (.int p0), .val (.ref bq1), .val (.int (12 : Int32)), .val (.int (0 : Int32)), .val (.ref w0)] [(.ref w0)])) rfl rfl (hb hby d1_21)
  refine own_go (fun _ => st2 _) ?_
  show GG _ _ _ _ _ _ _ T2 (mkF m 24 #[.val (.int p0), .val (.ref bq1), .val (.int (12 : Int32)), .val (.int (0 : Int32)), .val (.ref w0)] [(.int (1 : Int32))])
  refine own_go (fun _ => XS.iloadN X2.here hx rfl (hb hby d1_24) rfl) ?_
  show GG _ _ _ _ _ _ _ T2 (mkF m 25 #[.val (.int p0), .val (.ref bq1), .val (.int (12 : Int32)), .val (.int (0 : Int32)), .val (.ref w0)] [(.int p0), (.int (1 : Int32))])
  have hc25 : ¬ ((1 : Int32) = p0) := by rw [hp]; decide
  refine own_go (fun _ => XS.icmpYes X2.here hx rfl (pc0 := 25) (pc' := 31) rfl (hb hby d1_25) rfl (feq hc25).2 (by decide) (by decide)) ?_
  show GG _ _ _ _ _ _ _ T2 (mkF m 31 #[.val (.int p0), .val (.ref bq1), .val (.int (12 : Int32)), .val (.int (0 : Int32)), .val (.ref w0)] [])
  refine own_go (fun _ => XS.iinc X2.here hx rfl (hb hby d1_31) rfl (l' := #[.val (.int p0), .val (.ref bq1), .val (.int (12 : Int32)), .val (.int (1 : Int32)), .val (.ref w0)]) rfl) ?_
  show GG _ _ _ _ _ _ _ T2 (mkF m 34 #[.val (.int p0), .val (.ref bq1), .val (.int (12 : Int32)), .val (.int (1 : Int32)), .val (.ref w0)] [])
  refine own_go (fun _ => XS.goto X2.here hx rfl (pc0 := 34) (pc' := 9) rfl (hb hby d1_34) (by decide) (by decide)) ?_
  show GG _ _ _ _ _ _ _ T2 (mkF m 9 #[.val (.int p0), .val (.ref bq1), .val (.int (12 : Int32)), .val (.int (1 : Int32)), .val (.ref w0)] [])
  refine own_go (fun _ => XS.iloadN X2.here hx rfl (hb hby d1_9) rfl) ?_
  show GG _ _ _ _ _ _ _ T2 (mkF m 10 #[.val (.int p0), .val (.ref bq1), .val (.int (12 : Int32)), .val (.int (1 : Int32)), .val (.ref w0)] [(.int (1 : Int32))])
  refine own_go (fun _ => XS.iloadN X2.here hx rfl (hb hby d1_10) rfl) ?_
  show GG _ _ _ _ _ _ _ T2 (mkF m 11 #[.val (.int p0), .val (.ref bq1), .val (.int (12 : Int32)), .val (.int (1 : Int32)), .val (.ref w0)] [(.int (12 : Int32)), (.int (1 : Int32))])
  have hc11 : (1 : Int32) < (12 : Int32) := by decide
  refine own_go (fun _ => XS.icmpNo X2.here hx rfl (hb hby d1_11) rfl (tlt hc11).2.1) ?_
  show GG _ _ _ _ _ _ _ T2 (mkF m 14 #[.val (.int p0), .val (.ref bq1), .val (.int (12 : Int32)), .val (.int (1 : Int32)), .val (.ref w0)] [])
  refine own_go (fun _ => XS.aloadN X2.here hx rfl (hb hby d1_14) rfl rfl) ?_
  show GG _ _ _ _ _ _ _ T2 (mkF m 15 #[.val (.int p0), .val (.ref bq1), .val (.int (12 : Int32)), .val (.int (1 : Int32)), .val (.ref w0)] [(.ref bq1)])
  refine own_go (fun _ => XS.iloadN X2.here hx rfl (hb hby d1_15) rfl) ?_
  show GG _ _ _ _ _ _ _ T2 (mkF m 16 #[.val (.int p0), .val (.ref bq1), .val (.int (12 : Int32)), .val (.int (1 : Int32)), .val (.ref w0)] [(.int (1 : Int32)), (.ref bq1)])
  refine own_go (fun _ => own_aaload X2 hx hZ e2 Vq1 rfl (j := (1 : Int32)) (v := (.ref w1)) (by decide) rfl (g := (mkF m 16 #[.val (.int p0), .val (.ref bq1), .val (.int (12 : Int32)), .val (.int (1 : Int32)), .val (.ref w0)] [(.int (1 : Int32)), (.ref bq1)])) rfl rfl (hb hby d1_16) _) ?_
  show GG _ _ _ _ _ _ _ T2 (mkF m 17 #[.val (.int p0), .val (.ref bq1), .val (.int (12 : Int32)), .val (.int (1 : Int32)), .val (.ref w0)] [(.ref w1)])
  refine own_go (fun _ => XS.astore X2.here hx rfl (hb hby d1_17) rfl rfl (l' := #[.val (.int p0), .val (.ref bq1), .val (.int (12 : Int32)), .val (.int (1 : Int32)), .val (.ref w1)]) rfl) ?_
  show GG _ _ _ _ _ _ _ T2 (mkF m 19 #[.val (.int p0), .val (.ref bq1), .val (.int (12 : Int32)), .val (.int (1 : Int32)), .val (.ref w1)] [])
  refine own_go (fun _ => XS.aload X2.here hx rfl (hb hby d1_19) rfl rfl) ?_
  show GG _ _ _ _ _ _ _ T2 (mkF m 21 #[.val (.int p0), .val (.ref bq1), .val (.int (12 : Int32)), .val (.int (1 : Int32)), .val (.ref w1)] [(.ref w1)])
  obtain ⟨T3, X3, e3, st3⟩ := getF X2 hx hZ hown (host := "") (Or.inl (hw _ (List.mem_of_getElem? (i := 31) rfl))) Via.refl e2 F_1 (g := (mkF m 21 #[.val (.int p0), .val (.ref bq1), .val (.int (12 : Int32)), .val (.int (1 : Int32)), .val (.ref w1)] [(.ref w1)])) rfl rfl (hb hby d1_21)
  refine own_go (fun _ => st3 _) ?_
  show GG _ _ _ _ _ _ _ T3 (mkF m 24 #[.val (.int p0), .val (.ref bq1), .val (.int (12 : Int32)), .val (.int (1 : Int32)), .val (.ref w1)] [(.int (2 : Int32))])
  refine own_go (fun _ => XS.iloadN X3.here hx rfl (hb hby d1_24) rfl) ?_
  show GG _ _ _ _ _ _ _ T3 (mkF m 25 #[.val (.int p0), .val (.ref bq1), .val (.int (12 : Int32)), .val (.int (1 : Int32)), .val (.ref w1)] [(.int p0), (.int (2 : Int32))])
  have hc25 : ¬ ((2 : Int32) = p0) := by rw [hp]; decide
  refine own_go (fun _ => XS.icmpYes X3.here hx rfl (pc0 := 25) (pc' := 31) rfl (hb hby d1_25) rfl (feq hc25).2 (by decide) (by decide)) ?_
  show GG _ _ _ _ _ _ _ T3 (mkF m 31 #[.val (.int p0), .val (.ref bq1), .val (.int (12 : Int32)), .val (.int (1 : Int32)), .val (.ref w1)] [])
  refine own_go (fun _ => XS.iinc X3.here hx rfl (hb hby d1_31) rfl (l' := #[.val (.int p0), .val (.ref bq1), .val (.int (12 : Int32)), .val (.int (2 : Int32)), .val (.ref w1)]) rfl) ?_
  show GG _ _ _ _ _ _ _ T3 (mkF m 34 #[.val (.int p0), .val (.ref bq1), .val (.int (12 : Int32)), .val (.int (2 : Int32)), .val (.ref w1)] [])
  refine own_go (fun _ => XS.goto X3.here hx rfl (pc0 := 34) (pc' := 9) rfl (hb hby d1_34) (by decide) (by decide)) ?_
  show GG _ _ _ _ _ _ _ T3 (mkF m 9 #[.val (.int p0), .val (.ref bq1), .val (.int (12 : Int32)), .val (.int (2 : Int32)), .val (.ref w1)] [])
  refine own_go (fun _ => XS.iloadN X3.here hx rfl (hb hby d1_9) rfl) ?_
  show GG _ _ _ _ _ _ _ T3 (mkF m 10 #[.val (.int p0), .val (.ref bq1), .val (.int (12 : Int32)), .val (.int (2 : Int32)), .val (.ref w1)] [(.int (2 : Int32))])
  refine own_go (fun _ => XS.iloadN X3.here hx rfl (hb hby d1_10) rfl) ?_
  show GG _ _ _ _ _ _ _ T3 (mkF m 11 #[.val (.int p0), .val (.ref bq1), .val (.int (12 : Int32)), .val (.int (2 : Int32)), .val (.ref w1)] [(.int (12 : Int32)), (.int (2 : Int32))])
  have hc11 : (2 : Int32) < (12 : Int32) := by decide
  refine own_go (fun _ => XS.icmpNo X3.here hx rfl (hb hby d1_11) rfl (tlt hc11).2.1) ?_
  show GG _ _ _ _ _ _ _ T3 (mkF m 14 #[.val (.int p0), .val (.ref bq1), .val (.int (12 : Int32)), .val (.int (2 : Int32)), .val (.ref w1)] [])
  refine own_go (fun _ => XS.aloadN X3.here hx rfl (hb hby d1_14) rfl rfl) ?_
  show GG _ _ _ _ _ _ _ T3 (mkF m 15 #[.val (.int p0), .val (.ref bq1), .val (.int (12 : Int32)), .val (.int (2 : Int32)), .val (.ref w1)] [(.ref bq1)])
  refine own_go (fun _ => XS.iloadN X3.here hx rfl (hb hby d1_15) rfl) ?_
  show GG _ _ _ _ _ _ _ T3 (mkF m 16 #[.val (.int p0), .val (.ref bq1), .val (.int (12 : Int32)), .val (.int (2 : Int32)), .val (.ref w1)] [(.int (2 : Int32)), (.ref bq1)])
  refine own_go (fun _ => own_aaload X3 hx hZ e3 Vq1 rfl (j := (2 : Int32)) (v := (.ref w2)) (by decide) rfl (g := (mkF m 16 #[.val (.int p0), .val (.ref bq1), .val (.int (12 : Int32)), .val (.int (2 : Int32)), .val (.ref w1)] [(.int (2 : Int32)), (.ref bq1)])) rfl rfl (hb hby d1_16) _) ?_
  show GG _ _ _ _ _ _ _ T3 (mkF m 17 #[.val (.int p0), .val (.ref bq1), .val (.int (12 : Int32)), .val (.int (2 : Int32)), .val (.ref w1)] [(.ref w2)])
  refine own_go (fun _ => XS.astore X3.here hx rfl (hb hby d1_17) rfl rfl (l' := #[.val (.int p0), .val (.ref bq1), .val (.int (12 : Int32)), .val (.int (2 : Int32)), .val (.ref w2)]) rfl) ?_
  show GG _ _ _ _ _ _ _ T3 (mkF m 19 #[.val (.int p0), .val (.ref bq1), .val (.int (12 : Int32)), .val (.int (2 : Int32)), .val (.ref w2)] [])
  refine own_go (fun _ => XS.aload X3.here hx rfl (hb hby d1_19) rfl rfl) ?_
  show GG _ _ _ _ _ _ _ T3 (mkF m 21 #[.val (.int p0), .val (.ref bq1), .val (.int (12 : Int32)), .val (.int (2 : Int32)), .val (.ref w2)] [(.ref w2)])
  obtain ⟨T4, X4, e4, st4⟩ := getF X3 hx hZ hown (host := "") (Or.inl (hw _ (List.mem_of_getElem? (i := 31) rfl))) Via.refl e3 F_2 (g := (mkF m 21 #[.val (.int p0), .val (.ref bq1), .val (.int (12 : Int32)), .val (.int (2 : Int32)), .val (.ref w2)] [(.ref w2)])) rfl rfl (hb hby d1_21)
  refine own_go (fun _ => st4 _) ?_
  show GG _ _ _ _ _ _ _ T4 (mkF m 24 #[.val (.int p0), .val (.ref bq1), .val (.int (12 : Int32)), .val (.int (2 : Int32)), .val (.ref w2)] [(.int (3 : Int32))])
  refine own_go (fun _ => XS.iloadN X4.here hx rfl (hb hby d1_24) rfl) ?_
  show GG _ _ _ _ _ _ _ T4 (mkF m 25 #[.val (.int p0), .val (.ref bq1), .val (.int (12 : Int32)), .val (.int (2 : Int32)), .val (.ref w2)] [(.int p0), (.int (3 : Int32))])
  have hc25 : (3 : Int32) = p0 := hp.symm
  refine own_go (fun _ => XS.icmpNo X4.here hx rfl (hb hby d1_25) rfl (teq hc25).2) ?_
  show GG _ _ _ _ _ _ _ T4 (mkF m 28 #[.val (.int p0), .val (.ref bq1), .val (.int (12 : Int32)), .val (.int (2 : Int32)), .val (.ref w2)] [])
  refine own_go (fun _ => XS.aload X4.here hx rfl (hb hby d1_28) rfl rfl) ?_
  show GG _ _ _ _ _ _ _ T4 (mkF m 30 #[.val (.int p0), .val (.ref bq1), .val (.int (12 : Int32)), .val (.int (2 : Int32)), .val (.ref w2)] [(.ref w2)])
  refine own_ret X4 hx hlk (t := (.object "com/example/bellwether/bellwether/protocol/OpCode")) (w := (.ref w2)) Bd.returns rfl (Or.inr (Or.inr (Or.inr (Or.inr ⟨rfl, rfl, rfl⟩)))) (hb hby d1_30) (by decide) (by decide) ?_
  show Q1_2 Z p0 wV w0 w1 w2 w3 w4 w5 w6 w7 w8 w9 w10 w11 h0 n0 (some (.ref w2)) T4.heap _
  rw [e4]
  exact ⟨rfl, N1, K0⟩
def Q1_3 (Z : State) (p0 : Int32) (wV : Addr) (w0 w1 w2 w3 w4 w5 w6 w7 w8 w9 w10 w11 : Addr) (h0 : Heap) (n0 : Nat) (v : Option Value) (h : Heap) (L : List Loc) : Prop := v = some (.ref w3) ∧ Fr n0 L ∧ Keep h0 h []
set_option maxRecDepth 65536 in
set_option maxHeartbeats 40000000 in
theorem rm1_3 (l : Launch) (Z : State) (a0 : Array Value) (hw : ∀ d ∈ tables_1, d.before a0 Z = true) (ws : List Jvm.Cond) (p0 : Int32) (wV : Addr) (w0 w1 w2 w3 w4 w5 w6 w7 w8 w9 w10 w11 : Addr) (h0 : Heap) (n0 : Nat) (Z0 : n0 ≤ h0.size) (hp : p0 = (4 : Int32)) (S_V : Sta Z h0 "com/example/bellwether/bellwether/protocol/OpCode" "$VALUES" "[Lcom/example/bellwether/bellwether/protocol/OpCode;" (.ref wV)) (V_V : Arx Z h0 wV (.object "com/example/bellwether/bellwether/protocol/OpCode") [(.ref w0), (.ref w1), (.ref w2), (.ref w3), (.ref w4), (.ref w5), (.ref w6), (.ref w7), (.ref w8), (.ref w9), (.ref w10), (.ref w11)]) (E_V : Exa Z h0 wV "[Lcom/example/bellwether/bellwether/protocol/OpCode;") (F_0 : Fld Z h0 w0 "com/example/bellwether/bellwether/protocol/OpCode" "code" "I" (.int (1 : Int32))) (F_1 : Fld Z h0 w1 "com/example/bellwether/bellwether/protocol/OpCode" "code" "I" (.int (2 : Int32))) (F_2 : Fld Z h0 w2 "com/example/bellwether/bellwether/protocol/OpCode" "code" "I" (.int (3 : Int32))) (F_3 : Fld Z h0 w3 "com/example/bellwether/bellwether/protocol/OpCode" "code" "I" (.int (4 : Int32))) (F_4 : Fld Z h0 w4 "com/example/bellwether/bellwether/protocol/OpCode" "code" "I" (.int (5 : Int32))) (F_5 : Fld Z h0 w5 "com/example/bellwether/bellwether/protocol/OpCode" "code" "I" (.int (8 : Int32))) (F_6 : Fld Z h0 w6 "com/example/bellwether/bellwether/protocol/OpCode" "code" "I" (.int (9 : Int32))) (F_7 : Fld Z h0 w7 "com/example/bellwether/bellwether/protocol/OpCode" "code" "I" (.int (11 : Int32))) (F_8 : Fld Z h0 w8 "com/example/bellwether/bellwether/protocol/OpCode" "code" "I" (.int (12 : Int32))) (F_9 : Fld Z h0 w9 "com/example/bellwether/bellwether/protocol/OpCode" "code" "I" (.int (13 : Int32))) (F_10 : Fld Z h0 w10 "com/example/bellwether/bellwether/protocol/OpCode" "code" "I" (.int (14 : Int32))) (F_11 : Fld Z h0 w11 "com/example/bellwether/bellwether/protocol/OpCode" "code" "I" (.int (-11 : Int32))) :
    own_CT l Z (⟨"com/example/bellwether/bellwether/protocol/OpCode", "of", "(I)Lcom/example/bellwether/bellwether/protocol/OpCode;"⟩ : MethodName) prog_23_method_5_code 5 (some (.object "com/example/bellwether/bellwether/protocol/OpCode")) ws ({ frames := 2, cells := 1, slots := 12, locals := 25 } : Room) #[(.int p0)] h0 (Q1_3 Z p0 wV w0 w1 w2 w3 w4 w5 w6 w7 w8 w9 w10 w11 h0 n0) := by
  refine MetFree.of_bodySF (plainFor_of_name pn_com_example_bellwether_bellwether_protocol_OpCode) hisR ?_
  intro p e s m args below meth c s₁ Bd hml0 hP hK
  obtain ⟨rfl, hZ, hh⟩ := hP
  have hx := Bd.exec
  have hby := Bd.bytes
  have hml : c.maxLocals = 5 := hml0
  have hown : s.vm.findClass "com/example/bellwether/bellwether/protocol/OpCode" = some m.cls := findClass_of_methodNamed Bd.named
  have hnm := (name_of_methodNamed Bd.named Bd.method).1
  have hlk : meth.locks = false := BodyLoose.notSynchronized Bd
  have X0 : Stand p l e ({ frames := 2, cells := 1, slots := 12, locals := 25 } : Room) s m #[(.int p0)] below meth c s₁ [] 0 0 := Stand.of_body Bd
  have e0 : s₁.heap = h0 := by rw [← hh, Bd.state]; rfl
  have N0 := Fr.nil n0
  show GG p e below s ({ frames := 2, cells := 1, slots := 12, locals := 25 } : Room).cells ({ frames := 2, cells := 1, slots := 12, locals := 25 } : Room).slots (Q1_3 Z p0 wV w0 w1 w2 w3 w4 w5 w6 w7 w8 w9 w10 w11 h0 n0) s₁ (entryFrame m #[(.int p0)] 5)
  refine own_in (ef_1 m p0) ?_
  have K0 := Keep.refl h0 []
  show GG _ _ _ _ _ _ _ s₁ (mkF m 0 #[.val (.int p0), .unset, .unset, .unset, .unset] [])
  refine own_callS X0 hx hZ (y := (⟨"com/example/bellwether/bellwether/protocol/OpCode", "values", "()[Lcom/example/bellwether/bellwether/protocol/OpCode;"⟩ : MethodName)) 0 hown (hw _ (List.mem_of_getElem? (i := 4) rfl)) (hw _ (List.mem_of_getElem? (i := 5) rfl)) (hw _ (List.mem_of_getElem? (i := 2) rfl)) (hw _ (List.mem_of_getElem? (i := 6) rfl)) (by decide) (argsL := []) (rest := []) (rm2 l Z a0 hw [] wV w0 w1 w2 w3 w4 w5 w6 w7 w8 w9 w10 w11 h0 n0 Z0 S_V V_V E_V) (by decide) (by decide) (by decide) (by decide) (g := (mkF m 0 #[.val (.int p0), .unset, .unset, .unset, .unset] [])) rfl (by rw [hml]; rfl) (lenOf pd____Lcom_example_bellwether_bellwether_pr_216 rfl) rfl (by show 2 * 0 + _ ≤ _; exact Nat.le_of_eq rfl) (hb hby d1_0) e0 ?_
  rintro v1 T1 L1 X1 ⟨bq1, rfl, N1q, szq1, Kq1, Vq1⟩
  have N1 := Fr.app N0 N1q
  have K0 := K0.trans Kq1 all0
  have F_0 := F_0.keep Kq1 nin0
  have F_1 := F_1.keep Kq1 nin0
  have F_2 := F_2.keep Kq1 nin0
  have F_3 := F_3.keep Kq1 nin0
  have F_4 := F_4.keep Kq1 nin0
  have F_5 := F_5.keep Kq1 nin0
  have F_6 := F_6.keep Kq1 nin0
  have F_7 := F_7.keep Kq1 nin0
  have F_8 := F_8.keep Kq1 nin0
  have F_9 := F_9.keep Kq1 nin0
  have F_10 := F_10.keep Kq1 nin0
  have F_11 := F_11.keep Kq1 nin0
  show GG _ _ _ _ _ _ _ T1 (mkF m 3 #[.val (.int p0), .unset, .unset, .unset, .unset] [(.ref bq1)])
  refine own_go (fun _ => XS.astoreN X1.here hx rfl (hb hby d1_3) rfl rfl (l' := #[.val (.int p0), .val (.ref bq1), .unset, .unset, .unset]) rfl) ?_
  show GG _ _ _ _ _ _ _ T1 (mkF m 4 #[.val (.int p0), .val (.ref bq1), .unset, .unset, .unset] [])
  refine own_go (fun _ => XS.aloadN X1.here hx rfl (hb hby d1_4) rfl rfl) ?_
  show GG _ _ _ _ _ _ _ T1 (mkF m 5 #[.val (.int p0), .val (.ref bq1), .unset, .unset, .unset] [(.ref bq1)])
  refine own_go (fun _ => own_len X1 hx hZ rfl Vq1 (g := (mkF m 5 #[.val (.int p0), .val (.ref bq1), .unset, .unset, .unset] [(.ref bq1)])) rfl rfl (hb hby d1_5) _) ?_
  show GG _ _ _ _ _ _ _ T1 (mkF m 6 #[.val (.int p0), .val (.ref bq1), .unset, .unset, .unset] [(.int (12 : Int32))])
  refine own_go (fun _ => XS.istoreN X1.here hx rfl (hb hby d1_6) rfl (l' := #[.val (.int p0), .val (.ref bq1), .val (.int (12 : Int32)), .unset, .unset]) rfl) ?_
  show GG _ _ _ _ _ _ _ T1 (mkF m 7 #[.val (.int p0), .val (.ref bq1), .val (.int (12 : Int32)), .unset, .unset] [])
  refine own_go (fun _ => XS.iconst X1.here hx rfl (hb hby d1_7)) ?_
  show GG _ _ _ _ _ _ _ T1 (mkF m 8 #[.val (.int p0), .val (.ref bq1), .val (.int (12 : Int32)), .unset, .unset] [(.int (0 : Int32))])
  refine own_go (fun _ => XS.istoreN X1.here hx rfl (hb hby d1_8) rfl (l' := #[.val (.int p0), .val (.ref bq1), .val (.int (12 : Int32)), .val (.int (0 : Int32)), .unset]) rfl) ?_
  show GG _ _ _ _ _ _ _ T1 (mkF m 9 #[.val (.int p0), .val (.ref bq1), .val (.int (12 : Int32)), .val (.int (0 : Int32)), .unset] [])
  refine own_go (fun _ => XS.iloadN X1.here hx rfl (hb hby d1_9) rfl) ?_
  show GG _ _ _ _ _ _ _ T1 (mkF m 10 #[.val (.int p0), .val (.ref bq1), .val (.int (12 : Int32)), .val (.int (0 : Int32)), .unset] [(.int (0 : Int32))])
  refine own_go (fun _ => XS.iloadN X1.here hx rfl (hb hby d1_10) rfl) ?_
  show GG _ _ _ _ _ _ _ T1 (mkF m 11 #[.val (.int p0), .val (.ref bq1), .val (.int (12 : Int32)), .val (.int (0 : Int32)), .unset] [(.int (12 : Int32)), (.int (0 : Int32))])
  have hc11 : (0 : Int32) < (12 : Int32) := by decide
  refine own_go (fun _ => XS.icmpNo X1.here hx rfl (hb hby d1_11) rfl (tlt hc11).2.1) ?_
  show GG _ _ _ _ _ _ _ T1 (mkF m 14 #[.val (.int p0), .val (.ref bq1), .val (.int (12 : Int32)), .val (.int (0 : Int32)), .unset] [])
  refine own_go (fun _ => XS.aloadN X1.here hx rfl (hb hby d1_14) rfl rfl) ?_
  show GG _ _ _ _ _ _ _ T1 (mkF m 15 #[.val (.int p0), .val (.ref bq1), .val (.int (12 : Int32)), .val (.int (0 : Int32)), .unset] [(.ref bq1)])
  refine own_go (fun _ => XS.iloadN X1.here hx rfl (hb hby d1_15) rfl) ?_
  show GG _ _ _ _ _ _ _ T1 (mkF m 16 #[.val (.int p0), .val (.ref bq1), .val (.int (12 : Int32)), .val (.int (0 : Int32)), .unset] [(.int (0 : Int32)), (.ref bq1)])
  refine own_go (fun _ => own_aaload X1 hx hZ rfl Vq1 rfl (j := (0 : Int32)) (v := (.ref w0)) (by decide) rfl (g := (mkF m 16 #[.val (.int p0), .val (.ref bq1), .val (.int (12 : Int32)), .val (.int (0 : Int32)), .unset] [(.int (0 : Int32)), (.ref bq1)])) rfl rfl (hb hby d1_16) _) ?_
  show GG _ _ _ _ _ _ _ T1 (mkF m 17 #[.val (.int p0), .val (.ref bq1), .val (.int (12 : Int32)), .val (.int (0 : Int32)), .unset] [(.ref w0)])
  refine own_go (fun _ => XS.astore X1.here hx rfl (hb hby d1_17) rfl rfl (l' := #[.val (.int p0), .val (.ref bq1), .val (.int (12 : Int32)), .val (.int (0 : Int32)), .val (.ref w0)]) rfl) ?_
  show GG _ _ _ _ _ _ _ T1 (mkF m 19 #[.val (.int p0), .val (.ref bq1), .val (.int (12 : Int32)), .val (.int (0 : Int32)), .val (.ref w0)] [])
  refine own_go (fun _ => XS.aload X1.here hx rfl (hb hby d1_19) rfl rfl) ?_
  show GG _ _ _ _ _ _ _ T1 (mkF m 21 #[.val (.int p0), .val (.ref bq1), .val (.int (12 : Int32)), .val (.int (0 : Int32)), .val (.ref w0)] [(.ref w0)])
  obtain ⟨T2, X2, e2, st2⟩ := getF X1 hx hZ hown (host := "") (Or.inl (hw _ (List.mem_of_getElem? (i := 31) rfl))) Via.refl rfl F_0 (g := (mkF m 21 #[.val (.int p0), .val (.ref bq1), .val (.int (12 : Int32)), .val (.int (0 : Int32)), .val (.ref w0)] [(.ref w0)])) rfl rfl (hb hby d1_21)
  refine own_go (fun _ => st2 _) ?_
  show GG _ _ _ _ _ _ _ T2 (mkF m 24 #[.val (.int p0), .val (.ref bq1), .val (.int (12 : Int32)), .val (.int (0 : Int32)), .val (.ref w0)] [(.int (1 : Int32))])
  refine own_go (fun _ => XS.iloadN X2.here hx rfl (hb hby d1_24) rfl) ?_
  show GG _ _ _ _ _ _ _ T2 (mkF m 25 #[.val (.int p0), .val (.ref bq1), .val (.int (12 : Int32)), .val (.int (0 : Int32)), .val (.ref w0)] [(.int p0), (.int (1 : Int32))])
  have hc25 : ¬ ((1 : Int32) = p0) := by rw [hp]; decide
  refine own_go (fun _ => XS.icmpYes X2.here hx rfl (pc0 := 25) (pc' := 31) rfl (hb hby d1_25) rfl (feq hc25).2 (by decide) (by decide)) ?_
  show GG _ _ _ _ _ _ _ T2 (mkF m 31 #[.val (.int p0), .val (.ref bq1), .val (.int (12 : Int32)), .val (.int (0 : Int32)), .val (.ref w0)] [])
  refine own_go (fun _ => XS.iinc X2.here hx rfl (hb hby d1_31) rfl (l' := #[.val (.int p0), .val (.ref bq1), .val (.int (12 : Int32)), .val (.int (1 : Int32)), .val (.ref w0)]) rfl) ?_
  show GG _ _ _ _ _ _ _ T2 (mkF m 34 #[.val (.int p0), .val (.ref bq1), .val (.int (12 : Int32)), .val (.int (1 : Int32)), .val (.ref w0)] [])
  refine own_go (fun _ => XS.goto X2.here hx rfl (pc0 := 34) (pc' := 9) rfl (hb hby d1_34) (by decide) (by decide)) ?_
  show GG _ _ _ _ _ _ _ T2 (mkF m 9 #[.val (.int p0), .val (.ref bq1), .val (.int (12 : Int32)), .val (.int (1 : Int32)), .val (.ref w0)] [])
  refine own_go (fun _ => XS.iloadN X2.here hx rfl (hb hby d1_9) rfl) ?_
  show GG _ _ _ _ _ _ _ T2 (mkF m 10 #[.val (.int p0), .val (.ref bq1), .val (.int (12 : Int32)), .val (.int (1 : Int32)), .val (.ref w0)] [(.int (1 : Int32))])
  refine own_go (fun _ => XS.iloadN X2.here hx rfl (hb hby d1_10) rfl) ?_
  show GG _ _ _ _ _ _ _ T2 (mkF m 11 #[.val (.int p0), .val (.ref bq1), .val (.int (12 : Int32)), .val (.int (1 : Int32)), .val (.ref w0)] [(.int (12 : Int32)), (.int (1 : Int32))])
  have hc11 : (1 : Int32) < (12 : Int32) := by decide
  refine own_go (fun _ => XS.icmpNo X2.here hx rfl (hb hby d1_11) rfl (tlt hc11).2.1) ?_
  show GG _ _ _ _ _ _ _ T2 (mkF m 14 #[.val (.int p0), .val (.ref bq1), .val (.int (12 : Int32)), .val (.int (1 : Int32)), .val (.ref w0)] [])
  refine own_go (fun _ => XS.aloadN X2.here hx rfl (hb hby d1_14) rfl rfl) ?_
  show GG _ _ _ _ _ _ _ T2 (mkF m 15 #[.val (.int p0), .val (.ref bq1), .val (.int (12 : Int32)), .val (.int (1 : Int32)), .val (.ref w0)] [(.ref bq1)])
  refine own_go (fun _ => XS.iloadN X2.here hx rfl (hb hby d1_15) rfl) ?_
  show GG _ _ _ _ _ _ _ T2 (mkF m 16 #[.val (.int p0), .val (.ref bq1), .val (.int (12 : Int32)), .val (.int (1 : Int32)), .val (.ref w0)] [(.int (1 : Int32)), (.ref bq1)])
  refine own_go (fun _ => own_aaload X2 hx hZ e2 Vq1 rfl (j := (1 : Int32)) (v := (.ref w1)) (by decide) rfl (g := (mkF m 16 #[.val (.int p0), .val (.ref bq1), .val (.int (12 : Int32)), .val (.int (1 : Int32)), .val (.ref w0)] [(.int (1 : Int32)), (.ref bq1)])) rfl rfl (hb hby d1_16) _) ?_
  show GG _ _ _ _ _ _ _ T2 (mkF m 17 #[.val (.int p0), .val (.ref bq1), .val (.int (12 : Int32)), .val (.int (1 : Int32)), .val (.ref w0)] [(.ref w1)])
  refine own_go (fun _ => XS.astore X2.here hx rfl (hb hby d1_17) rfl rfl (l' := #[.val (.int p0), .val (.ref bq1), .val (.int (12 : Int32)), .val (.int (1 : Int32)), .val (.ref w1)]) rfl) ?_
  show GG _ _ _ _ _ _ _ T2 (mkF m 19 #[.val (.int p0), .val (.ref bq1), .val (.int (12 : Int32)), .val (.int (1 : Int32)), .val (.ref w1)] [])
  refine own_go (fun _ => XS.aload X2.here hx rfl (hb hby d1_19) rfl rfl) ?_
  show GG _ _ _ _ _ _ _ T2 (mkF m 21 #[.val (.int p0), .val (.ref bq1), .val (.int (12 : Int32)), .val (.int (1 : Int32)), .val (.ref w1)] [(.ref w1)])
  obtain ⟨T3, X3, e3, st3⟩ := getF X2 hx hZ hown (host := "") (Or.inl (hw _ (List.mem_of_getElem? (i := 31) rfl))) Via.refl e2 F_1 (g := (mkF m 21 #[.val (.int p0), .val (.ref bq1), .val (.int (12 : Int32)), .val (.int (1 : Int32)), .val (.ref w1)] [(.ref w1)])) rfl rfl (hb hby d1_21)
  refine own_go (fun _ => st3 _) ?_
  show GG _ _ _ _ _ _ _ T3 (mkF m 24 #[.val (.int p0), .val (.ref bq1), .val (.int (12 : Int32)), .val (.int (1 : Int32)), .val (.ref w1)] [(.int (2 : Int32))])
  refine own_go (fun _ => XS.iloadN X3.here hx rfl (hb hby d1_24) rfl) ?_
  show GG _ _ _ _ _ _ _ T3 (mkF m 25 #[.val (.int p0), .val (.ref bq1), .val (.int (12 : Int32)), .val (.int (1 : Int32)), .val (.ref w1)] [(.int p0), (.int (2 : Int32))])
  have hc25 : ¬ ((2 : Int32) = p0) := by rw [hp]; decide
  refine own_go (fun _ => XS.icmpYes X3.here hx rfl (pc0 := 25) (pc' := 31) rfl (hb hby d1_25) rfl (feq hc25).2 (by decide) (by decide)) ?_
  show GG _ _ _ _ _ _ _ T3 (mkF m 31 #[.val (.int p0), .val (.ref bq1), .val (.int (12 : Int32)), .val (.int (1 : Int32)), .val (.ref w1)] [])
  refine own_go (fun _ => XS.iinc X3.here hx rfl (hb hby d1_31) rfl (l' := #[.val (.int p0), .val (.ref bq1), .val (.int (12 : Int32)), .val (.int (2 : Int32)), .val (.ref w1)]) rfl) ?_
  show GG _ _ _ _ _ _ _ T3 (mkF m 34 #[.val (.int p0), .val (.ref bq1), .val (.int (12 : Int32)), .val (.int (2 : Int32)), .val (.ref w1)] [])
  refine own_go (fun _ => XS.goto X3.here hx rfl (pc0 := 34) (pc' := 9) rfl (hb hby d1_34) (by decide) (by decide)) ?_
  show GG _ _ _ _ _ _ _ T3 (mkF m 9 #[.val (.int p0), .val (.ref bq1), .val (.int (12 : Int32)), .val (.int (2 : Int32)), .val (.ref w1)] [])
  refine own_go (fun _ => XS.iloadN X3.here hx rfl (hb hby d1_9) rfl) ?_
  show GG _ _ _ _ _ _ _ T3 (mkF m 10 #[.val (.int p0), .val (.ref bq1), .val (.int (12 : Int32)), .val (.int (2 : Int32)), .val (.ref w1)] [(.int (2 : Int32))])
  refine own_go (fun _ => XS.iloadN X3.here hx rfl (hb hby d1_10) rfl) ?_
  show GG _ _ _ _ _ _ _ T3 (mkF m 11 #[.val (.int p0), .val (.ref bq1), .val (.int (12 : Int32)), .val (.int (2 : Int32)), .val (.ref w1)] [(.int (12 : Int32)), (.int (2 : Int32))])
  have hc11 : (2 : Int32) < (12 : Int32) := by decide
  refine own_go (fun _ => XS.icmpNo X3.here hx rfl (hb hby d1_11) rfl (tlt hc11).2.1) ?_
  show GG _ _ _ _ _ _ _ T3 (mkF m 14 #[.val (.int p0), .val (.ref bq1), .val (.int (12 : Int32)), .val (.int (2 : Int32)), .val (.ref w1)] [])
  refine own_go (fun _ => XS.aloadN X3.here hx rfl (hb hby d1_14) rfl rfl) ?_
  show GG _ _ _ _ _ _ _ T3 (mkF m 15 #[.val (.int p0), .val (.ref bq1), .val (.int (12 : Int32)), .val (.int (2 : Int32)), .val (.ref w1)] [(.ref bq1)])
  refine own_go (fun _ => XS.iloadN X3.here hx rfl (hb hby d1_15) rfl) ?_
  show GG _ _ _ _ _ _ _ T3 (mkF m 16 #[.val (.int p0), .val (.ref bq1), .val (.int (12 : Int32)), .val (.int (2 : Int32)), .val (.ref w1)] [(.int (2 : Int32)), (.ref bq1)])
  refine own_go (fun _ => own_aaload X3 hx hZ e3 Vq1 rfl (j := (2 : Int32)) (v := (.ref w2)) (by decide) rfl (g := (mkF m 16 #[.val (.int p0), .val (.ref bq1), .val (.int (12 : Int32)), .val (.int (2 : Int32)), .val (.ref w1)] [(.int (2 : Int32)), (.ref bq1)])) rfl rfl (hb hby d1_16) _) ?_
  show GG _ _ _ _ _ _ _ T3 (mkF m 17 #[.val (.int p0), .val (.ref bq1), .val (.int (12 : Int32)), .val (.int (2 : Int32)), .val (.ref w1)] [(.ref w2)])
  refine own_go (fun _ => XS.astore X3.here hx rfl (hb hby d1_17) rfl rfl (l' := #[.val (.int p0), .val (.ref bq1), .val (.int (12 : Int32)), .val (.int (2 : Int32)), .val (.ref w2)]) rfl) ?_
  show GG _ _ _ _ _ _ _ T3 (mkF m 19 #[.val (.int p0), .val (.ref bq1), .val (.int (12 : Int32)), .val (.int (2 : Int32)), .val (.ref w2)] [])
  refine own_go (fun _ => XS.aload X3.here hx rfl (hb hby d1_19) rfl rfl) ?_
  show GG _ _ _ _ _ _ _ T3 (mkF m 21 #[.val (.int p0), .val (.ref bq1), .val (.int (12 : Int32)), .val (.int (2 : Int32)), .val (.ref w2)] [(.ref w2)])
  obtain ⟨T4, X4, e4, st4⟩ := getF X3 hx hZ hown (host := "") (Or.inl (hw _ (List.mem_of_getElem? (i := 31) rfl))) Via.refl e3 F_2 (g := (mkF m 21 #[.val (.int p0), .val (.ref bq1), .val (.int (12 : Int32)), .val (.int (2 : Int32)), .val (.ref w2)] [(.ref w2)])) rfl rfl (hb hby d1_21)
  refine own_go (fun _ => st4 _) ?_
  show GG _ _ _ _ _ _ _ T4 (mkF m 24 #[.val (.int p0), .val (.ref bq1), .val (.int (12 : Int32)), .val (.int (2 : Int32)), .val (.ref w2)] [(.int (3 : Int32))])
  refine own_go (fun _ => XS.iloadN X4.here hx rfl (hb hby d1_24) rfl) ?_
  show GG _ _ _ _ _ _ _ T4 (mkF m 25 #[.val (.int p0), .val (.ref bq1), .val (.int (12 : Int32)), .val (.int (2 : Int32)), .val (.ref w2)] [(.int p0), (.int (3 : Int32))])
  have hc25 : ¬ ((3 : Int32) = p0) := by rw [hp]; decide
  refine own_go (fun _ => XS.icmpYes X4.here hx rfl (pc0 := 25) (pc' := 31) rfl (hb hby d1_25) rfl (feq hc25).2 (by decide) (by decide)) ?_
  show GG _ _ _ _ _ _ _ T4 (mkF m 31 #[.val (.int p0), .val (.ref bq1), .val (.int (12 : Int32)), .val (.int (2 : Int32)), .val (.ref w2)] [])
  refine own_go (fun _ => XS.iinc X4.here hx rfl (hb hby d1_31) rfl (l' := #[.val (.int p0), .val (.ref bq1), .val (.int (12 : Int32)), .val (.int (3 : Int32)), .val (.ref w2)]) rfl) ?_
  show GG _ _ _ _ _ _ _ T4 (mkF m 34 #[.val (.int p0), .val (.ref bq1), .val (.int (12 : Int32)), .val (.int (3 : Int32)), .val (.ref w2)] [])
  refine own_go (fun _ => XS.goto X4.here hx rfl (pc0 := 34) (pc' := 9) rfl (hb hby d1_34) (by decide) (by decide)) ?_
  show GG _ _ _ _ _ _ _ T4 (mkF m 9 #[.val (.int p0), .val (.ref bq1), .val (.int (12 : Int32)), .val (.int (3 : Int32)), .val (.ref w2)] [])
  refine own_go (fun _ => XS.iloadN X4.here hx rfl (hb hby d1_9) rfl) ?_
  show GG _ _ _ _ _ _ _ T4 (mkF m 10 #[.val (.int p0), .val (.ref bq1), .val (.int (12 : Int32)), .val (.int (3 : Int32)), .val (.ref w2)] [(.int (3 : Int32))])
  refine own_go (fun _ => XS.iloadN X4.here hx rfl (hb hby d1_10) rfl) ?_
  show GG _ _ _ _ _ _ _ T4 (mkF m 11 #[.val (.int p0), .val (.ref bq1), .val (.int (12 : Int32)), .val (.int (3 : Int32)), .val (.ref w2)] [(.int (12 : Int32)), (.int (3 : Int32))])
  have hc11 : (3 : Int32) < (12 : Int32) := by decide
  refine own_go (fun _ => XS.icmpNo X4.here hx rfl (hb hby d1_11) rfl (tlt hc11).2.1) ?_
  show GG _ _ _ _ _ _ _ T4 (mkF m 14 #[.val (.int p0), .val (.ref bq1), .val (.int (12 : Int32)), .val (.int (3 : Int32)), .val (.ref w2)] [])
  refine own_go (fun _ => XS.aloadN X4.here hx rfl (hb hby d1_14) rfl rfl) ?_
  show GG _ _ _ _ _ _ _ T4 (mkF m 15 #[.val (.int p0), .val (.ref bq1), .val (.int (12 : Int32)), .val (.int (3 : Int32)), .val (.ref w2)] [(.ref bq1)])
  refine own_go (fun _ => XS.iloadN X4.here hx rfl (hb hby d1_15) rfl) ?_
  show GG _ _ _ _ _ _ _ T4 (mkF m 16 #[.val (.int p0), .val (.ref bq1), .val (.int (12 : Int32)), .val (.int (3 : Int32)), .val (.ref w2)] [(.int (3 : Int32)), (.ref bq1)])
  refine own_go (fun _ => own_aaload X4 hx hZ e4 Vq1 rfl (j := (3 : Int32)) (v := (.ref w3)) (by decide) rfl (g := (mkF m 16 #[.val (.int p0), .val (.ref bq1), .val (.int (12 : Int32)), .val (.int (3 : Int32)), .val (.ref w2)] [(.int (3 : Int32)), (.ref bq1)])) rfl rfl (hb hby d1_16) _) ?_
  show GG _ _ _ _ _ _ _ T4 (mkF m 17 #[.val (.int p0), .val (.ref bq1), .val (.int (12 : Int32)), .val (.int (3 : Int32)), .val (.ref w2)] [(.ref w3)])
  refine own_go (fun _ => XS.astore X4.here hx rfl (hb hby d1_17) rfl rfl (l' := #[.val (.int p0), .val (.ref bq1), .val (.int (12 : Int32)), .val (.int (3 : Int32)), .val (.ref w3)]) rfl) ?_
  show GG _ _ _ _ _ _ _ T4 (mkF m 19 #[.val (.int p0), .val (.ref bq1), .val (.int (12 : Int32)), .val (.int (3 : Int32)), .val (.ref w3)] [])
  refine own_go (fun _ => XS.aload X4.here hx rfl (hb hby d1_19) rfl rfl) ?_
  show GG _ _ _ _ _ _ _ T4 (mkF m 21 #[.val (.int p0), .val (.ref bq1), .val (.int (12 : Int32)), .val (.int (3 : Int32)), .val (.ref w3)] [(.ref w3)])
  obtain ⟨T5, X5, e5, st5⟩ := getF X4 hx hZ hown (host := "") (Or.inl (hw _ (List.mem_of_getElem? (i := 31) rfl))) Via.refl e4 F_3 (g := (mkF m 21 #[.val (.int p0), .val (.ref bq1), .val (.int (12 : Int32)), .val (.int (3 : Int32)), .val (.ref w3)] [(.ref w3)])) rfl rfl (hb hby d1_21)
  refine own_go (fun _ => st5 _) ?_
  show GG _ _ _ _ _ _ _ T5 (mkF m 24 #[.val (.int p0), .val (.ref bq1), .val (.int (12 : Int32)), .val (.int (3 : Int32)), .val (.ref w3)] [(.int (4 : Int32))])
  refine own_go (fun _ => XS.iloadN X5.here hx rfl (hb hby d1_24) rfl) ?_
  show GG _ _ _ _ _ _ _ T5 (mkF m 25 #[.val (.int p0), .val (.ref bq1), .val (.int (12 : Int32)), .val (.int (3 : Int32)), .val (.ref w3)] [(.int p0), (.int (4 : Int32))])
  have hc25 : (4 : Int32) = p0 := hp.symm
  refine own_go (fun _ => XS.icmpNo X5.here hx rfl (hb hby d1_25) rfl (teq hc25).2) ?_
  show GG _ _ _ _ _ _ _ T5 (mkF m 28 #[.val (.int p0), .val (.ref bq1), .val (.int (12 : Int32)), .val (.int (3 : Int32)), .val (.ref w3)] [])
  refine own_go (fun _ => XS.aload X5.here hx rfl (hb hby d1_28) rfl rfl) ?_
  show GG _ _ _ _ _ _ _ T5 (mkF m 30 #[.val (.int p0), .val (.ref bq1), .val (.int (12 : Int32)), .val (.int (3 : Int32)), .val (.ref w3)] [(.ref w3)])
  refine own_ret X5 hx hlk (t := (.object "com/example/bellwether/bellwether/protocol/OpCode")) (w := (.ref w3)) Bd.returns rfl (Or.inr (Or.inr (Or.inr (Or.inr ⟨rfl, rfl, rfl⟩)))) (hb hby d1_30) (by decide) (by decide) ?_
  show Q1_3 Z p0 wV w0 w1 w2 w3 w4 w5 w6 w7 w8 w9 w10 w11 h0 n0 (some (.ref w3)) T5.heap _
  rw [e5]
  exact ⟨rfl, N1, K0⟩
def Q1_4 (Z : State) (p0 : Int32) (wV : Addr) (w0 w1 w2 w3 w4 w5 w6 w7 w8 w9 w10 w11 : Addr) (h0 : Heap) (n0 : Nat) (v : Option Value) (h : Heap) (L : List Loc) : Prop := v = some (.ref w4) ∧ Fr n0 L ∧ Keep h0 h []
set_option maxRecDepth 65536 in
set_option maxHeartbeats 40000000 in
theorem rm1_4 (l : Launch) (Z : State) (a0 : Array Value) (hw : ∀ d ∈ tables_1, d.before a0 Z = true) (ws : List Jvm.Cond) (p0 : Int32) (wV : Addr) (w0 w1 w2 w3 w4 w5 w6 w7 w8 w9 w10 w11 : Addr) (h0 : Heap) (n0 : Nat) (Z0 : n0 ≤ h0.size) (hp : p0 = (5 : Int32)) (S_V : Sta Z h0 "com/example/bellwether/bellwether/protocol/OpCode" "$VALUES" "[Lcom/example/bellwether/bellwether/protocol/OpCode;" (.ref wV)) (V_V : Arx Z h0 wV (.object "com/example/bellwether/bellwether/protocol/OpCode") [(.ref w0), (.ref w1), (.ref w2), (.ref w3), (.ref w4), (.ref w5), (.ref w6), (.ref w7), (.ref w8), (.ref w9), (.ref w10), (.ref w11)]) (E_V : Exa Z h0 wV "[Lcom/example/bellwether/bellwether/protocol/OpCode;") (F_0 : Fld Z h0 w0 "com/example/bellwether/bellwether/protocol/OpCode" "code" "I" (.int (1 : Int32))) (F_1 : Fld Z h0 w1 "com/example/bellwether/bellwether/protocol/OpCode" "code" "I" (.int (2 : Int32))) (F_2 : Fld Z h0 w2 "com/example/bellwether/bellwether/protocol/OpCode" "code" "I" (.int (3 : Int32))) (F_3 : Fld Z h0 w3 "com/example/bellwether/bellwether/protocol/OpCode" "code" "I" (.int (4 : Int32))) (F_4 : Fld Z h0 w4 "com/example/bellwether/bellwether/protocol/OpCode" "code" "I" (.int (5 : Int32))) (F_5 : Fld Z h0 w5 "com/example/bellwether/bellwether/protocol/OpCode" "code" "I" (.int (8 : Int32))) (F_6 : Fld Z h0 w6 "com/example/bellwether/bellwether/protocol/OpCode" "code" "I" (.int (9 : Int32))) (F_7 : Fld Z h0 w7 "com/example/bellwether/bellwether/protocol/OpCode" "code" "I" (.int (11 : Int32))) (F_8 : Fld Z h0 w8 "com/example/bellwether/bellwether/protocol/OpCode" "code" "I" (.int (12 : Int32))) (F_9 : Fld Z h0 w9 "com/example/bellwether/bellwether/protocol/OpCode" "code" "I" (.int (13 : Int32))) (F_10 : Fld Z h0 w10 "com/example/bellwether/bellwether/protocol/OpCode" "code" "I" (.int (14 : Int32))) (F_11 : Fld Z h0 w11 "com/example/bellwether/bellwether/protocol/OpCode" "code" "I" (.int (-11 : Int32))) :
    own_CT l Z (⟨"com/example/bellwether/bellwether/protocol/OpCode", "of", "(I)Lcom/example/bellwether/bellwether/protocol/OpCode;"⟩ : MethodName) prog_23_method_5_code 5 (some (.object "com/example/bellwether/bellwether/protocol/OpCode")) ws ({ frames := 2, cells := 1, slots := 12, locals := 25 } : Room) #[(.int p0)] h0 (Q1_4 Z p0 wV w0 w1 w2 w3 w4 w5 w6 w7 w8 w9 w10 w11 h0 n0) := by
  refine MetFree.of_bodySF (plainFor_of_name pn_com_example_bellwether_bellwether_protocol_OpCode) hisR ?_
  intro p e s m args below meth c s₁ Bd hml0 hP hK
  obtain ⟨rfl, hZ, hh⟩ := hP
  have hx := Bd.exec
  have hby := Bd.bytes
  have hml : c.maxLocals = 5 := hml0
  have hown : s.vm.findClass "com/example/bellwether/bellwether/protocol/OpCode" = some m.cls := findClass_of_methodNamed Bd.named
  have hnm := (name_of_methodNamed Bd.named Bd.method).1
  have hlk : meth.locks = false := BodyLoose.notSynchronized Bd
  have X0 : Stand p l e ({ frames := 2, cells := 1, slots := 12, locals := 25 } : Room) s m #[(.int p0)] below meth c s₁ [] 0 0 := Stand.of_body Bd
  have e0 : s₁.heap = h0 := by rw [← hh, Bd.state]; rfl
  have N0 := Fr.nil n0
  show GG p e below s ({ frames := 2, cells := 1, slots := 12, locals := 25 } : Room).cells ({ frames := 2, cells := 1, slots := 12, locals := 25 } : Room).slots (Q1_4 Z p0 wV w0 w1 w2 w3 w4 w5 w6 w7 w8 w9 w10 w11 h0 n0) s₁ (entryFrame m #[(.int p0)] 5)
  refine own_in (ef_1 m p0) ?_
  have K0 := Keep.refl h0 []
  show GG _ _ _ _ _ _ _ s₁ (mkF m 0 #[.val (.int p0), .unset, .unset, .unset, .unset] [])
  refine own_callS X0 hx hZ (y := (⟨"com/example/bellwether/bellwether/protocol/OpCode", "values", "()[Lcom/example/bellwether/bellwether/protocol/OpCode;"⟩ : MethodName)) 0 hown (hw _ (List.mem_of_getElem? (i := 4) rfl)) (hw _ (List.mem_of_getElem? (i := 5) rfl)) (hw _ (List.mem_of_getElem? (i := 2) rfl)) (hw _ (List.mem_of_getElem? (i := 6) rfl)) (by decide) (argsL := []) (rest := []) (rm2 l Z a0 hw [] wV w0 w1 w2 w3 w4 w5 w6 w7 w8 w9 w10 w11 h0 n0 Z0 S_V V_V E_V) (by decide) (by decide) (by decide) (by decide) (g := (mkF m 0 #[.val (.int p0), .unset, .unset, .unset, .unset] [])) rfl (by rw [hml]; rfl) (lenOf pd____Lcom_example_bellwether_bellwether_pr_216 rfl) rfl (by show 2 * 0 + _ ≤ _; exact Nat.le_of_eq rfl) (hb hby d1_0) e0 ?_
  rintro v1 T1 L1 X1 ⟨bq1, rfl, N1q, szq1, Kq1, Vq1⟩
  have N1 := Fr.app N0 N1q
  have K0 := K0.trans Kq1 all0
  have F_0 := F_0.keep Kq1 nin0
  have F_1 := F_1.keep Kq1 nin0
  have F_2 := F_2.keep Kq1 nin0
  have F_3 := F_3.keep Kq1 nin0
  have F_4 := F_4.keep Kq1 nin0
  have F_5 := F_5.keep Kq1 nin0
  have F_6 := F_6.keep Kq1 nin0
  have F_7 := F_7.keep Kq1 nin0
  have F_8 := F_8.keep Kq1 nin0
  have F_9 := F_9.keep Kq1 nin0
  have F_10 := F_10.keep Kq1 nin0
  have F_11 := F_11.keep Kq1 nin0
  show GG _ _ _ _ _ _ _ T1 (mkF m 3 #[.val (.int p0), .unset, .unset, .unset, .unset] [(.ref bq1)])
  refine own_go (fun _ => XS.astoreN X1.here hx rfl (hb hby d1_3) rfl rfl (l' := #[.val (.int p0), .val (.ref bq1), .unset, .unset, .unset]) rfl) ?_
  show GG _ _ _ _ _ _ _ T1 (mkF m 4 #[.val (.int p0), .val (.ref bq1), .unset, .unset, .unset] [])
  refine own_go (fun _ => XS.aloadN X1.here hx rfl (hb hby d1_4) rfl rfl) ?_
  show GG _ _ _ _ _ _ _ T1 (mkF m 5 #[.val (.int p0), .val (.ref bq1), .unset, .unset, .unset] [(.ref bq1)])
  refine own_go (fun _ => own_len X1 hx hZ rfl Vq1 (g := (mkF m 5 #[.val (.int p0), .val (.ref bq1), .unset, .unset, .unset] [(.ref bq1)])) rfl rfl (hb hby d1_5) _) ?_
  show GG _ _ _ _ _ _ _ T1 (mkF m 6 #[.val (.int p0), .val (.ref bq1), .unset, .unset, .unset] [(.int (12 : Int32))])
  refine own_go (fun _ => XS.istoreN X1.here hx rfl (hb hby d1_6) rfl (l' := #[.val (.int p0), .val (.ref bq1), .val (.int (12 : Int32)), .unset, .unset]) rfl) ?_
  show GG _ _ _ _ _ _ _ T1 (mkF m 7 #[.val (.int p0), .val (.ref bq1), .val (.int (12 : Int32)), .unset, .unset] [])
  refine own_go (fun _ => XS.iconst X1.here hx rfl (hb hby d1_7)) ?_
  show GG _ _ _ _ _ _ _ T1 (mkF m 8 #[.val (.int p0), .val (.ref bq1), .val (.int (12 : Int32)), .unset, .unset] [(.int (0 : Int32))])
  refine own_go (fun _ => XS.istoreN X1.here hx rfl (hb hby d1_8) rfl (l' := #[.val (.int p0), .val (.ref bq1), .val (.int (12 : Int32)), .val (.int (0 : Int32)), .unset]) rfl) ?_
  show GG _ _ _ _ _ _ _ T1 (mkF m 9 #[.val (.int p0), .val (.ref bq1), .val (.int (12 : Int32)), .val (.int (0 : Int32)), .unset] [])
  refine own_go (fun _ => XS.iloadN X1.here hx rfl (hb hby d1_9) rfl) ?_
  show GG _ _ _ _ _ _ _ T1 (mkF m 10 #[.val (.int p0), .val (.ref bq1), .val (.int (12 : Int32)), .val (.int (0 : Int32)), .unset] [(.int (0 : Int32))])
  refine own_go (fun _ => XS.iloadN X1.here hx rfl (hb hby d1_10) rfl) ?_
  show GG _ _ _ _ _ _ _ T1 (mkF m 11 #[.val (.int p0), .val (.ref bq1), .val (.int (12 : Int32)), .val (.int (0 : Int32)), .unset] [(.int (12 : Int32)), (.int (0 : Int32))])
  have hc11 : (0 : Int32) < (12 : Int32) := by decide
  refine own_go (fun _ => XS.icmpNo X1.here hx rfl (hb hby d1_11) rfl (tlt hc11).2.1) ?_
  show GG _ _ _ _ _ _ _ T1 (mkF m 14 #[.val (.int p0), .val (.ref bq1), .val (.int (12 : Int32)), .val (.int (0 : Int32)), .unset] [])
  refine own_go (fun _ => XS.aloadN X1.here hx rfl (hb hby d1_14) rfl rfl) ?_
  show GG _ _ _ _ _ _ _ T1 (mkF m 15 #[.val (.int p0), .val (.ref bq1), .val (.int (12 : Int32)), .val (.int (0 : Int32)), .unset] [(.ref bq1)])
  refine own_go (fun _ => XS.iloadN X1.here hx rfl (hb hby d1_15) rfl) ?_
  show GG _ _ _ _ _ _ _ T1 (mkF m 16 #[.val (.int p0), .val (.ref bq1), .val (.int (12 : Int32)), .val (.int (0 : Int32)), .unset] [(.int (0 : Int32)), (.ref bq1)])
  refine own_go (fun _ => own_aaload X1 hx hZ rfl Vq1 rfl (j := (0 : Int32)) (v := (.ref w0)) (by decide) rfl (g := (mkF m 16 #[.val (.int p0), .val (.ref bq1), .val (.int (12 : Int32)), .val (.int (0 : Int32)), .unset] [(.int (0 : Int32)), (.ref bq1)])) rfl rfl (hb hby d1_16) _) ?_
  show GG _ _ _ _ _ _ _ T1 (mkF m 17 #[.val (.int p0), .val (.ref bq1), .val (.int (12 : Int32)), .val (.int (0 : Int32)), .unset] [(.ref w0)])
  refine own_go (fun _ => XS.astore X1.here hx rfl (hb hby d1_17) rfl rfl (l' := #[.val (.int p0), .val (.ref bq1), .val (.int (12 : Int32)), .val (.int (0 : Int32)), .val (.ref w0)]) rfl) ?_
  show GG _ _ _ _ _ _ _ T1 (mkF m 19 #[.val (.int p0), .val (.ref bq1), .val (.int (12 : Int32)), .val (.int (0 : Int32)), .val (.ref w0)] [])
  refine own_go (fun _ => XS.aload X1.here hx rfl (hb hby d1_19) rfl rfl) ?_
  show GG _ _ _ _ _ _ _ T1 (mkF m 21 #[.val (.int p0), .val (.ref bq1), .val (.int (12 : Int32)), .val (.int (0 : Int32)), .val (.ref w0)] [(.ref w0)])
  obtain ⟨T2, X2, e2, st2⟩ := getF X1 hx hZ hown (host := "") (Or.inl (hw _ (List.mem_of_getElem? (i := 31) rfl))) Via.refl rfl F_0 (g := (mkF m 21 #[.val (.int p0), .val (.ref bq1), .val (.int (12 : Int32)), .val (.int (0 : Int32)), .val (.ref w0)] [(.ref w0)])) rfl rfl (hb hby d1_21)
  refine own_go (fun _ => st2 _) ?_
  show GG _ _ _ _ _ _ _ T2 (mkF m 24 #[.val (.int p0), .val (.ref bq1), .val (.int (12 : Int32)), .val (.int (0 : Int32)), .val (.ref w0)] [(.int (1 : Int32))])
  refine own_go (fun _ => XS.iloadN X2.here hx rfl (hb hby d1_24) rfl) ?_
  show GG _ _ _ _ _ _ _ T2 (mkF m 25 #[.val (.int p0), .val (.ref bq1), .val (.int (12 : Int32)), .val (.int (0 : Int32)), .val (.ref w0)] [(.int p0), (.int (1 : Int32))])
  have hc25 : ¬ ((1 : Int32) = p0) := by rw [hp]; decide
  refine own_go (fun _ => XS.icmpYes X2.here hx rfl (pc0 := 25) (pc' := 31) rfl (hb hby d1_25) rfl (feq hc25).2 (by decide) (by decide)) ?_
  show GG _ _ _ _ _ _ _ T2 (mkF m 31 #[.val (.int p0), .val (.ref bq1), .val (.int (12 : Int32)), .val (.int (0 : Int32)), .val (.ref w0)] [])
  refine own_go (fun _ => XS.iinc X2.here hx rfl (hb hby d1_31) rfl (l' := #[.val (.int p0), .val (.ref bq1), .val (.int (12 : Int32)), .val (.int (1 : Int32)), .val (.ref w0)]) rfl) ?_
  show GG _ _ _ _ _ _ _ T2 (mkF m 34 #[.val (.int p0), .val (.ref bq1), .val (.int (12 : Int32)), .val (.int (1 : Int32)), .val (.ref w0)] [])
  refine own_go (fun _ => XS.goto X2.here hx rfl (pc0 := 34) (pc' := 9) rfl (hb hby d1_34) (by decide) (by decide)) ?_
  show GG _ _ _ _ _ _ _ T2 (mkF m 9 #[.val (.int p0), .val (.ref bq1), .val (.int (12 : Int32)), .val (.int (1 : Int32)), .val (.ref w0)] [])
  refine own_go (fun _ => XS.iloadN X2.here hx rfl (hb hby d1_9) rfl) ?_
  show GG _ _ _ _ _ _ _ T2 (mkF m 10 #[.val (.int p0), .val (.ref bq1), .val (.int (12 : Int32)), .val (.int (1 : Int32)), .val (.ref w0)] [(.int (1 : Int32))])
  refine own_go (fun _ => XS.iloadN X2.here hx rfl (hb hby d1_10) rfl) ?_
  show GG _ _ _ _ _ _ _ T2 (mkF m 11 #[.val (.int p0), .val (.ref bq1), .val (.int (12 : Int32)), .val (.int (1 : Int32)), .val (.ref w0)] [(.int (12 : Int32)), (.int (1 : Int32))])
  have hc11 : (1 : Int32) < (12 : Int32) := by decide
  refine own_go (fun _ => XS.icmpNo X2.here hx rfl (hb hby d1_11) rfl (tlt hc11).2.1) ?_
  show GG _ _ _ _ _ _ _ T2 (mkF m 14 #[.val (.int p0), .val (.ref bq1), .val (.int (12 : Int32)), .val (.int (1 : Int32)), .val (.ref w0)] [])
  refine own_go (fun _ => XS.aloadN X2.here hx rfl (hb hby d1_14) rfl rfl) ?_
  show GG _ _ _ _ _ _ _ T2 (mkF m 15 #[.val (.int p0), .val (.ref bq1), .val (.int (12 : Int32)), .val (.int (1 : Int32)), .val (.ref w0)] [(.ref bq1)])
  refine own_go (fun _ => XS.iloadN X2.here hx rfl (hb hby d1_15) rfl) ?_
  show GG _ _ _ _ _ _ _ T2 (mkF m 16 #[.val (.int p0), .val (.ref bq1), .val (.int (12 : Int32)), .val (.int (1 : Int32)), .val (.ref w0)] [(.int (1 : Int32)), (.ref bq1)])
  refine own_go (fun _ => own_aaload X2 hx hZ e2 Vq1 rfl (j := (1 : Int32)) (v := (.ref w1)) (by decide) rfl (g := (mkF m 16 #[.val (.int p0), .val (.ref bq1), .val (.int (12 : Int32)), .val (.int (1 : Int32)), .val (.ref w0)] [(.int (1 : Int32)), (.ref bq1)])) rfl rfl (hb hby d1_16) _) ?_
  show GG _ _ _ _ _ _ _ T2 (mkF m 17 #[.val (.int p0), .val (.ref bq1), .val (.int (12 : Int32)), .val (.int (1 : Int32)), .val (.ref w0)] [(.ref w1)])
  refine own_go (fun _ => XS.astore X2.here hx rfl (hb hby d1_17) rfl rfl (l' := #[.val (.int p0), .val (.ref bq1), .val (.int (12 : Int32)), .val (.int (1 : Int32)), .val (.ref w1)]) rfl) ?_
  show GG _ _ _ _ _ _ _ T2 (mkF m 19 #[.val (.int p0), .val (.ref bq1), .val (.int (12 : Int32)), .val (.int (1 : Int32)), .val (.ref w1)] [])
  refine own_go (fun _ => XS.aload X2.here hx rfl (hb hby d1_19) rfl rfl) ?_
  show GG _ _ _ _ _ _ _ T2 (mkF m 21 #[.val (.int p0), .val (.ref bq1), .val (.int (12 : Int32)), .val (.int (1 : Int32)), .val (.ref w1)] [(.ref w1)])
  obtain ⟨T3, X3, e3, st3⟩ := getF X2 hx hZ hown (host := "") (Or.inl (hw _ (List.mem_of_getElem? (i := 31) rfl))) Via.refl e2 F_1 (g := (mkF m 21 #[.val (.int p0), .val (.ref bq1), .val (.int (12 : Int32)), .val (.int (1 : Int32)), .val (.ref w1)] [(.ref w1)])) rfl rfl (hb hby d1_21)
  refine own_go (fun _ => st3 _) ?_
  show GG _ _ _ _ _ _ _ T3 (mkF m 24 #[.val (.int p0), .val (.ref bq1), .val (.int (12 : Int32)), .val (.int (1 : Int32)), .val (.ref w1)] [(.int (2 : Int32))])
  refine own_go (fun _ => XS.iloadN X3.here hx rfl (hb hby d1_24) rfl) ?_
  show GG _ _ _ _ _ _ _ T3 (mkF m 25 #[.val (.int p0), .val (.ref bq1), .val (.int (12 : Int32)), .val (.int (1 : Int32)), .val (.ref w1)] [(.int p0), (.int (2 : Int32))])
  have hc25 : ¬ ((2 : Int32) = p0) := by rw [hp]; decide
  refine own_go (fun _ => XS.icmpYes X3.here hx rfl (pc0 := 25) (pc' := 31) rfl (hb hby d1_25) rfl (feq hc25).2 (by decide) (by decide)) ?_
  show GG _ _ _ _ _ _ _ T3 (mkF m 31 #[.val (.int p0), .val (.ref bq1), .val (.int (12 : Int32)), .val (.int (1 : Int32)), .val (.ref w1)] [])
  refine own_go (fun _ => XS.iinc X3.here hx rfl (hb hby d1_31) rfl (l' := #[.val (.int p0), .val (.ref bq1), .val (.int (12 : Int32)), .val (.int (2 : Int32)), .val (.ref w1)]) rfl) ?_
  show GG _ _ _ _ _ _ _ T3 (mkF m 34 #[.val (.int p0), .val (.ref bq1), .val (.int (12 : Int32)), .val (.int (2 : Int32)), .val (.ref w1)] [])
  refine own_go (fun _ => XS.goto X3.here hx rfl (pc0 := 34) (pc' := 9) rfl (hb hby d1_34) (by decide) (by decide)) ?_
  show GG _ _ _ _ _ _ _ T3 (mkF m 9 #[.val (.int p0), .val (.ref bq1), .val (.int (12 : Int32)), .val (.int (2 : Int32)), .val (.ref w1)] [])
  refine own_go (fun _ => XS.iloadN X3.here hx rfl (hb hby d1_9) rfl) ?_
  show GG _ _ _ _ _ _ _ T3 (mkF m 10 #[.val (.int p0), .val (.ref bq1), .val (.int (12 : Int32)), .val (.int (2 : Int32)), .val (.ref w1)] [(.int (2 : Int32))])
  refine own_go (fun _ => XS.iloadN X3.here hx rfl (hb hby d1_10) rfl) ?_
  show GG _ _ _ _ _ _ _ T3 (mkF m 11 #[.val (.int p0), .val (.ref bq1), .val (.int (12 : Int32)), .val (.int (2 : Int32)), .val (.ref w1)] [(.int (12 : Int32)), (.int (2 : Int32))])
  have hc11 : (2 : Int32) < (12 : Int32) := by decide
  refine own_go (fun _ => XS.icmpNo X3.here hx rfl (hb hby d1_11) rfl (tlt hc11).2.1) ?_
  show GG _ _ _ _ _ _ _ T3 (mkF m 14 #[.val (.int p0), .val (.ref bq1), .val (.int (12 : Int32)), .val (.int (2 : Int32)), .val (.ref w1)] [])
  refine own_go (fun _ => XS.aloadN X3.here hx rfl (hb hby d1_14) rfl rfl) ?_
  show GG _ _ _ _ _ _ _ T3 (mkF m 15 #[.val (.int p0), .val (.ref bq1), .val (.int (12 : Int32)), .val (.int (2 : Int32)), .val (.ref w1)] [(.ref bq1)])
  refine own_go (fun _ => XS.iloadN X3.here hx rfl (hb hby d1_15) rfl) ?_
  show GG _ _ _ _ _ _ _ T3 (mkF m 16 #[.val (.int p0), .val (.ref bq1), .val (.int (12 : Int32)), .val (.int (2 : Int32)), .val (.ref w1)] [(.int (2 : Int32)), (.ref bq1)])
  refine own_go (fun _ => own_aaload X3 hx hZ e3 Vq1 rfl (j := (2 : Int32)) (v := (.ref w2)) (by decide) rfl (g := (mkF m 16 #[.val (.int p0), .val (.ref bq1), .val (.int (12 : Int32)), .val (.int (2 : Int32)), .val (.ref w1)] [(.int (2 : Int32)), (.ref bq1)])) rfl rfl (hb hby d1_16) _) ?_
  show GG _ _ _ _ _ _ _ T3 (mkF m 17 #[.val (.int p0), .val (.ref bq1), .val (.int (12 : Int32)), .val (.int (2 : Int32)), .val (.ref w1)] [(.ref w2)])
  refine own_go (fun _ => XS.astore X3.here hx rfl (hb hby d1_17) rfl rfl (l' := #[.val (.int p0), .val (.ref bq1), .val (.int (12 : Int32)), .val (.int (2 : Int32)), .val (.ref w2)]) rfl) ?_
  show GG _ _ _ _ _ _ _ T3 (mkF m 19 #[.val (.int p0), .val (.ref bq1), .val (.int (12 : Int32)), .val (.int (2 : Int32)), .val (.ref w2)] [])
  refine own_go (fun _ => XS.aload X3.here hx rfl (hb hby d1_19) rfl rfl) ?_
  show GG _ _ _ _ _ _ _ T3 (mkF m 21 #[.val (.int p0), .val (.ref bq1), .val (.int (12 : Int32)), .val (.int (2 : Int32)), .val (.ref w2)] [(.ref w2)])
  obtain ⟨T4, X4, e4, st4⟩ := getF X3 hx hZ hown (host := "") (Or.inl (hw _ (List.mem_of_getElem? (i := 31) rfl))) Via.refl e3 F_2 (g := (mkF m 21 #[.val (.int p0), .val (.ref bq1), .val (.int (12 : Int32)), .val (.int (2 : Int32)), .val (.ref w2)] [(.ref w2)])) rfl rfl (hb hby d1_21)
  refine own_go (fun _ => st4 _) ?_
  show GG _ _ _ _ _ _ _ T4 (mkF m 24 #[.val (.int p0), .val (.ref bq1), .val (.int (12 : Int32)), .val (.int (2 : Int32)), .val (.ref w2)] [(.int (3 : Int32))])
  refine own_go (fun _ => XS.iloadN X4.here hx rfl (hb hby d1_24) rfl) ?_
  show GG _ _ _ _ _ _ _ T4 (mkF m 25 #[.val (.int p0), .val (.ref bq1), .val (.int (12 : Int32)), .val (.int (2 : Int32)), .val (.ref w2)] [(.int p0), (.int (3 : Int32))])
  have hc25 : ¬ ((3 : Int32) = p0) := by rw [hp]; decide
  refine own_go (fun _ => XS.icmpYes X4.here hx rfl (pc0 := 25) (pc' := 31) rfl (hb hby d1_25) rfl (feq hc25).2 (by decide) (by decide)) ?_
  show GG _ _ _ _ _ _ _ T4 (mkF m 31 #[.val (.int p0), .val (.ref bq1), .val (.int (12 : Int32)), .val (.int (2 : Int32)), .val (.ref w2)] [])
  refine own_go (fun _ => XS.iinc X4.here hx rfl (hb hby d1_31) rfl (l' := #[.val (.int p0), .val (.ref bq1), .val (.int (12 : Int32)), .val (.int (3 : Int32)), .val (.ref w2)]) rfl) ?_
  show GG _ _ _ _ _ _ _ T4 (mkF m 34 #[.val (.int p0), .val (.ref bq1), .val (.int (12 : Int32)), .val (.int (3 : Int32)), .val (.ref w2)] [])
  refine own_go (fun _ => XS.goto X4.here hx rfl (pc0 := 34) (pc' := 9) rfl (hb hby d1_34) (by decide) (by decide)) ?_
  show GG _ _ _ _ _ _ _ T4 (mkF m 9 #[.val (.int p0), .val (.ref bq1), .val (.int (12 : Int32)), .val (.int (3 : Int32)), .val (.ref w2)] [])
  refine own_go (fun _ => XS.iloadN X4.here hx rfl (hb hby d1_9) rfl) ?_
  show GG _ _ _ _ _ _ _ T4 (mkF m 10 #[.val (.int p0), .val (.ref bq1), .val (.int (12 : Int32)), .val (.int (3 : Int32)), .val (.ref w2)] [(.int (3 : Int32))])
  refine own_go (fun _ => XS.iloadN X4.here hx rfl (hb hby d1_10) rfl) ?_
  show GG _ _ _ _ _ _ _ T4 (mkF m 11 #[.val (.int p0), .val (.ref bq1), .val (.int (12 : Int32)), .val (.int (3 : Int32)), .val (.ref w2)] [(.int (12 : Int32)), (.int (3 : Int32))])
  have hc11 : (3 : Int32) < (12 : Int32) := by decide
  refine own_go (fun _ => XS.icmpNo X4.here hx rfl (hb hby d1_11) rfl (tlt hc11).2.1) ?_
  show GG _ _ _ _ _ _ _ T4 (mkF m 14 #[.val (.int p0), .val (.ref bq1), .val (.int (12 : Int32)), .val (.int (3 : Int32)), .val (.ref w2)] [])
  refine own_go (fun _ => XS.aloadN X4.here hx rfl (hb hby d1_14) rfl rfl) ?_
  show GG _ _ _ _ _ _ _ T4 (mkF m 15 #[.val (.int p0), .val (.ref bq1), .val (.int (12 : Int32)), .val (.int (3 : Int32)), .val (.ref w2)] [(.ref bq1)])
  refine own_go (fun _ => XS.iloadN X4.here hx rfl (hb hby d1_15) rfl) ?_
  show GG _ _ _ _ _ _ _ T4 (mkF m 16 #[.val (.int p0), .val (.ref bq1), .val (.int (12 : Int32)), .val (.int (3 : Int32)), .val (.ref w2)] [(.int (3 : Int32)), (.ref bq1)])
  refine own_go (fun _ => own_aaload X4 hx hZ e4 Vq1 rfl (j := (3 : Int32)) (v := (.ref w3)) (by decide) rfl (g := (mkF m 16 #[.val (.int p0), .val (.ref bq1), .val (.int (12 : Int32)), .val (.int (3 : Int32)), .val (.ref w2)] [(.int (3 : Int32)), (.ref bq1)])) rfl rfl (hb hby d1_16) _) ?_
  show GG _ _ _ _ _ _ _ T4 (mkF m 17 #[.val (.int p0), .val (.ref bq1), .val (.int (12 : Int32)), .val (.int (3 : Int32)), .val (.ref w2)] [(.ref w3)])
  refine own_go (fun _ => XS.astore X4.here hx rfl (hb hby d1_17) rfl rfl (l' := #[.val (.int p0), .val (.ref bq1), .val (.int (12 : Int32)), .val (.int (3 : Int32)), .val (.ref w3)]) rfl) ?_
  show GG _ _ _ _ _ _ _ T4 (mkF m 19 #[.val (.int p0), .val (.ref bq1), .val (.int (12 : Int32)), .val (.int (3 : Int32)), .val (.ref w3)] [])
  refine own_go (fun _ => XS.aload X4.here hx rfl (hb hby d1_19) rfl rfl) ?_
  show GG _ _ _ _ _ _ _ T4 (mkF m 21 #[.val (.int p0), .val (.ref bq1), .val (.int (12 : Int32)), .val (.int (3 : Int32)), .val (.ref w3)] [(.ref w3)])
  obtain ⟨T5, X5, e5, st5⟩ := getF X4 hx hZ hown (host := "") (Or.inl (hw _ (List.mem_of_getElem? (i := 31) rfl))) Via.refl e4 F_3 (g := (mkF m 21 #[.val (.int p0), .val (.ref bq1), .val (.int (12 : Int32)), .val (.int (3 : Int32)), .val (.ref w3)] [(.ref w3)])) rfl rfl (hb hby d1_21)
  refine own_go (fun _ => st5 _) ?_
  show GG _ _ _ _ _ _ _ T5 (mkF m 24 #[.val (.int p0), .val (.ref bq1), .val (.int (12 : Int32)), .val (.int (3 : Int32)), .val (.ref w3)] [(.int (4 : Int32))])
  refine own_go (fun _ => XS.iloadN X5.here hx rfl (hb hby d1_24) rfl) ?_
  show GG _ _ _ _ _ _ _ T5 (mkF m 25 #[.val (.int p0), .val (.ref bq1), .val (.int (12 : Int32)), .val (.int (3 : Int32)), .val (.ref w3)] [(.int p0), (.int (4 : Int32))])
  have hc25 : ¬ ((4 : Int32) = p0) := by rw [hp]; decide
  refine own_go (fun _ => XS.icmpYes X5.here hx rfl (pc0 := 25) (pc' := 31) rfl (hb hby d1_25) rfl (feq hc25).2 (by decide) (by decide)) ?_
  show GG _ _ _ _ _ _ _ T5 (mkF m 31 #[.val (.int p0), .val (.ref bq1), .val (.int (12 : Int32)), .val (.int (3 : Int32)), .val (.ref w3)] [])
  refine own_go (fun _ => XS.iinc X5.here hx rfl (hb hby d1_31) rfl (l' := #[.val (.int p0), .val (.ref bq1), .val (.int (12 : Int32)), .val (.int (4 : Int32)), .val (.ref w3)]) rfl) ?_
  show GG _ _ _ _ _ _ _ T5 (mkF m 34 #[.val (.int p0), .val (.ref bq1), .val (.int (12 : Int32)), .val (.int (4 : Int32)), .val (.ref w3)] [])
  refine own_go (fun _ => XS.goto X5.here hx rfl (pc0 := 34) (pc' := 9) rfl (hb hby d1_34) (by decide) (by decide)) ?_
  show GG _ _ _ _ _ _ _ T5 (mkF m 9 #[.val (.int p0), .val (.ref bq1), .val (.int (12 : Int32)), .val (.int (4 : Int32)), .val (.ref w3)] [])
  refine own_go (fun _ => XS.iloadN X5.here hx rfl (hb hby d1_9) rfl) ?_
  show GG _ _ _ _ _ _ _ T5 (mkF m 10 #[.val (.int p0), .val (.ref bq1), .val (.int (12 : Int32)), .val (.int (4 : Int32)), .val (.ref w3)] [(.int (4 : Int32))])
  refine own_go (fun _ => XS.iloadN X5.here hx rfl (hb hby d1_10) rfl) ?_
  show GG _ _ _ _ _ _ _ T5 (mkF m 11 #[.val (.int p0), .val (.ref bq1), .val (.int (12 : Int32)), .val (.int (4 : Int32)), .val (.ref w3)] [(.int (12 : Int32)), (.int (4 : Int32))])
  have hc11 : (4 : Int32) < (12 : Int32) := by decide
  refine own_go (fun _ => XS.icmpNo X5.here hx rfl (hb hby d1_11) rfl (tlt hc11).2.1) ?_
  show GG _ _ _ _ _ _ _ T5 (mkF m 14 #[.val (.int p0), .val (.ref bq1), .val (.int (12 : Int32)), .val (.int (4 : Int32)), .val (.ref w3)] [])
  refine own_go (fun _ => XS.aloadN X5.here hx rfl (hb hby d1_14) rfl rfl) ?_
  show GG _ _ _ _ _ _ _ T5 (mkF m 15 #[.val (.int p0), .val (.ref bq1), .val (.int (12 : Int32)), .val (.int (4 : Int32)), .val (.ref w3)] [(.ref bq1)])
  refine own_go (fun _ => XS.iloadN X5.here hx rfl (hb hby d1_15) rfl) ?_
  show GG _ _ _ _ _ _ _ T5 (mkF m 16 #[.val (.int p0), .val (.ref bq1), .val (.int (12 : Int32)), .val (.int (4 : Int32)), .val (.ref w3)] [(.int (4 : Int32)), (.ref bq1)])
  refine own_go (fun _ => own_aaload X5 hx hZ e5 Vq1 rfl (j := (4 : Int32)) (v := (.ref w4)) (by decide) rfl (g := (mkF m 16 #[.val (.int p0), .val (.ref bq1), .val (.int (12 : Int32)), .val (.int (4 : Int32)), .val (.ref w3)] [(.int (4 : Int32)), (.ref bq1)])) rfl rfl (hb hby d1_16) _) ?_
  show GG _ _ _ _ _ _ _ T5 (mkF m 17 #[.val (.int p0), .val (.ref bq1), .val (.int (12 : Int32)), .val (.int (4 : Int32)), .val (.ref w3)] [(.ref w4)])
  refine own_go (fun _ => XS.astore X5.here hx rfl (hb hby d1_17) rfl rfl (l' := #[.val (.int p0), .val (.ref bq1), .val (.int (12 : Int32)), .val (.int (4 : Int32)), .val (.ref w4)]) rfl) ?_
  show GG _ _ _ _ _ _ _ T5 (mkF m 19 #[.val (.int p0), .val (.ref bq1), .val (.int (12 : Int32)), .val (.int (4 : Int32)), .val (.ref w4)] [])
  refine own_go (fun _ => XS.aload X5.here hx rfl (hb hby d1_19) rfl rfl) ?_
  show GG _ _ _ _ _ _ _ T5 (mkF m 21 #[.val (.int p0), .val (.ref bq1), .val (.int (12 : Int32)), .val (.int (4 : Int32)), .val (.ref w4)] [(.ref w4)])
  obtain ⟨T6, X6, e6, st6⟩ := getF X5 hx hZ hown (host := "") (Or.inl (hw _ (List.mem_of_getElem? (i := 31) rfl))) Via.refl e5 F_4 (g := (mkF m 21 #[.val (.int p0), .val (.ref bq1), .val (.int (12 : Int32)), .val (.int (4 : Int32)), .val (.ref w4)] [(.ref w4)])) rfl rfl (hb hby d1_21)
  refine own_go (fun _ => st6 _) ?_
  show GG _ _ _ _ _ _ _ T6 (mkF m 24 #[.val (.int p0), .val (.ref bq1), .val (.int (12 : Int32)), .val (.int (4 : Int32)), .val (.ref w4)] [(.int (5 : Int32))])
  refine own_go (fun _ => XS.iloadN X6.here hx rfl (hb hby d1_24) rfl) ?_
  show GG _ _ _ _ _ _ _ T6 (mkF m 25 #[.val (.int p0), .val (.ref bq1), .val (.int (12 : Int32)), .val (.int (4 : Int32)), .val (.ref w4)] [(.int p0), (.int (5 : Int32))])
  have hc25 : (5 : Int32) = p0 := hp.symm
  refine own_go (fun _ => XS.icmpNo X6.here hx rfl (hb hby d1_25) rfl (teq hc25).2) ?_
  show GG _ _ _ _ _ _ _ T6 (mkF m 28 #[.val (.int p0), .val (.ref bq1), .val (.int (12 : Int32)), .val (.int (4 : Int32)), .val (.ref w4)] [])
  refine own_go (fun _ => XS.aload X6.here hx rfl (hb hby d1_28) rfl rfl) ?_
  show GG _ _ _ _ _ _ _ T6 (mkF m 30 #[.val (.int p0), .val (.ref bq1), .val (.int (12 : Int32)), .val (.int (4 : Int32)), .val (.ref w4)] [(.ref w4)])
  refine own_ret X6 hx hlk (t := (.object "com/example/bellwether/bellwether/protocol/OpCode")) (w := (.ref w4)) Bd.returns rfl (Or.inr (Or.inr (Or.inr (Or.inr ⟨rfl, rfl, rfl⟩)))) (hb hby d1_30) (by decide) (by decide) ?_
  show Q1_4 Z p0 wV w0 w1 w2 w3 w4 w5 w6 w7 w8 w9 w10 w11 h0 n0 (some (.ref w4)) T6.heap _
  rw [e6]
  exact ⟨rfl, N1, K0⟩
def Q1_5 (Z : State) (p0 : Int32) (wV : Addr) (w0 w1 w2 w3 w4 w5 w6 w7 w8 w9 w10 w11 : Addr) (h0 : Heap) (n0 : Nat) (v : Option Value) (h : Heap) (L : List Loc) : Prop := v = some (.ref w5) ∧ Fr n0 L ∧ Keep h0 h []
set_option maxRecDepth 65536 in
set_option maxHeartbeats 40000000 in
theorem rm1_5 (l : Launch) (Z : State) (a0 : Array Value) (hw : ∀ d ∈ tables_1, d.before a0 Z = true) (ws : List Jvm.Cond) (p0 : Int32) (wV : Addr) (w0 w1 w2 w3 w4 w5 w6 w7 w8 w9 w10 w11 : Addr) (h0 : Heap) (n0 : Nat) (Z0 : n0 ≤ h0.size) (hp : p0 = (8 : Int32)) (S_V : Sta Z h0 "com/example/bellwether/bellwether/protocol/OpCode" "$VALUES" "[Lcom/example/bellwether/bellwether/protocol/OpCode;" (.ref wV)) (V_V : Arx Z h0 wV (.object "com/example/bellwether/bellwether/protocol/OpCode") [(.ref w0), (.ref w1), (.ref w2), (.ref w3), (.ref w4), (.ref w5), (.ref w6), (.ref w7), (.ref w8), (.ref w9), (.ref w10), (.ref w11)]) (E_V : Exa Z h0 wV "[Lcom/example/bellwether/bellwether/protocol/OpCode;") (F_0 : Fld Z h0 w0 "com/example/bellwether/bellwether/protocol/OpCode" "code" "I" (.int (1 : Int32))) (F_1 : Fld Z h0 w1 "com/example/bellwether/bellwether/protocol/OpCode" "code" "I" (.int (2 : Int32))) (F_2 : Fld Z h0 w2 "com/example/bellwether/bellwether/protocol/OpCode" "code" "I" (.int (3 : Int32))) (F_3 : Fld Z h0 w3 "com/example/bellwether/bellwether/protocol/OpCode" "code" "I" (.int (4 : Int32))) (F_4 : Fld Z h0 w4 "com/example/bellwether/bellwether/protocol/OpCode" "code" "I" (.int (5 : Int32))) (F_5 : Fld Z h0 w5 "com/example/bellwether/bellwether/protocol/OpCode" "code" "I" (.int (8 : Int32))) (F_6 : Fld Z h0 w6 "com/example/bellwether/bellwether/protocol/OpCode" "code" "I" (.int (9 : Int32))) (F_7 : Fld Z h0 w7 "com/example/bellwether/bellwether/protocol/OpCode" "code" "I" (.int (11 : Int32))) (F_8 : Fld Z h0 w8 "com/example/bellwether/bellwether/protocol/OpCode" "code" "I" (.int (12 : Int32))) (F_9 : Fld Z h0 w9 "com/example/bellwether/bellwether/protocol/OpCode" "code" "I" (.int (13 : Int32))) (F_10 : Fld Z h0 w10 "com/example/bellwether/bellwether/protocol/OpCode" "code" "I" (.int (14 : Int32))) (F_11 : Fld Z h0 w11 "com/example/bellwether/bellwether/protocol/OpCode" "code" "I" (.int (-11 : Int32))) :
    own_CT l Z (⟨"com/example/bellwether/bellwether/protocol/OpCode", "of", "(I)Lcom/example/bellwether/bellwether/protocol/OpCode;"⟩ : MethodName) prog_23_method_5_code 5 (some (.object "com/example/bellwether/bellwether/protocol/OpCode")) ws ({ frames := 2, cells := 1, slots := 12, locals := 25 } : Room) #[(.int p0)] h0 (Q1_5 Z p0 wV w0 w1 w2 w3 w4 w5 w6 w7 w8 w9 w10 w11 h0 n0) := by
  refine MetFree.of_bodySF (plainFor_of_name pn_com_example_bellwether_bellwether_protocol_OpCode) hisR ?_
  intro p e s m args below meth c s₁ Bd hml0 hP hK
  obtain ⟨rfl, hZ, hh⟩ := hP
  have hx := Bd.exec
  have hby := Bd.bytes
  have hml : c.maxLocals = 5 := hml0
  have hown : s.vm.findClass "com/example/bellwether/bellwether/protocol/OpCode" = some m.cls := findClass_of_methodNamed Bd.named
  have hnm := (name_of_methodNamed Bd.named Bd.method).1
  have hlk : meth.locks = false := BodyLoose.notSynchronized Bd
  have X0 : Stand p l e ({ frames := 2, cells := 1, slots := 12, locals := 25 } : Room) s m #[(.int p0)] below meth c s₁ [] 0 0 := Stand.of_body Bd
  have e0 : s₁.heap = h0 := by rw [← hh, Bd.state]; rfl
  have N0 := Fr.nil n0
  show GG p e below s ({ frames := 2, cells := 1, slots := 12, locals := 25 } : Room).cells ({ frames := 2, cells := 1, slots := 12, locals := 25 } : Room).slots (Q1_5 Z p0 wV w0 w1 w2 w3 w4 w5 w6 w7 w8 w9 w10 w11 h0 n0) s₁ (entryFrame m #[(.int p0)] 5)
  refine own_in (ef_1 m p0) ?_
  have K0 := Keep.refl h0 []
  show GG _ _ _ _ _ _ _ s₁ (mkF m 0 #[.val (.int p0), .unset, .unset, .unset, .unset] [])
  refine own_callS X0 hx hZ (y := (⟨"com/example/bellwether/bellwether/protocol/OpCode", "values", "()[Lcom/example/bellwether/bellwether/protocol/OpCode;"⟩ : MethodName)) 0 hown (hw _ (List.mem_of_getElem? (i := 4) rfl)) (hw _ (List.mem_of_getElem? (i := 5) rfl)) (hw _ (List.mem_of_getElem? (i := 2) rfl)) (hw _ (List.mem_of_getElem? (i := 6) rfl)) (by decide) (argsL := []) (rest := []) (rm2 l Z a0 hw [] wV w0 w1 w2 w3 w4 w5 w6 w7 w8 w9 w10 w11 h0 n0 Z0 S_V V_V E_V) (by decide) (by decide) (by decide) (by decide) (g := (mkF m 0 #[.val (.int p0), .unset, .unset, .unset, .unset] [])) rfl (by rw [hml]; rfl) (lenOf pd____Lcom_example_bellwether_bellwether_pr_216 rfl) rfl (by show 2 * 0 + _ ≤ _; exact Nat.le_of_eq rfl) (hb hby d1_0) e0 ?_
  rintro v1 T1 L1 X1 ⟨bq1, rfl, N1q, szq1, Kq1, Vq1⟩
  have N1 := Fr.app N0 N1q
  have K0 := K0.trans Kq1 all0
  have F_0 := F_0.keep Kq1 nin0
  have F_1 := F_1.keep Kq1 nin0
  have F_2 := F_2.keep Kq1 nin0
  have F_3 := F_3.keep Kq1 nin0
  have F_4 := F_4.keep Kq1 nin0
  have F_5 := F_5.keep Kq1 nin0
  have F_6 := F_6.keep Kq1 nin0
  have F_7 := F_7.keep Kq1 nin0
  have F_8 := F_8.keep Kq1 nin0
  have F_9 := F_9.keep Kq1 nin0
  have F_10 := F_10.keep Kq1 nin0
  have F_11 := F_11.keep Kq1 nin0
  show GG _ _ _ _ _ _ _ T1 (mkF m 3 #[.val (.int p0), .unset, .unset, .unset, .unset] [(.ref bq1)])
  refine own_go (fun _ => XS.astoreN X1.here hx rfl (hb hby d1_3) rfl rfl (l' := #[.val (.int p0), .val (.ref bq1), .unset, .unset, .unset]) rfl) ?_
  show GG _ _ _ _ _ _ _ T1 (mkF m 4 #[.val (.int p0), .val (.ref bq1), .unset, .unset, .unset] [])
  refine own_go (fun _ => XS.aloadN X1.here hx rfl (hb hby d1_4) rfl rfl) ?_
  show GG _ _ _ _ _ _ _ T1 (mkF m 5 #[.val (.int p0), .val (.ref bq1), .unset, .unset, .unset] [(.ref bq1)])
  refine own_go (fun _ => own_len X1 hx hZ rfl Vq1 (g := (mkF m 5 #[.val (.int p0), .val (.ref bq1), .unset, .unset, .unset] [(.ref bq1)])) rfl rfl (hb hby d1_5) _) ?_
  show GG _ _ _ _ _ _ _ T1 (mkF m 6 #[.val (.int p0), .val (.ref bq1), .unset, .unset, .unset] [(.int (12 : Int32))])
  refine own_go (fun _ => XS.istoreN X1.here hx rfl (hb hby d1_6) rfl (l' := #[.val (.int p0), .val (.ref bq1), .val (.int (12 : Int32)), .unset, .unset]) rfl) ?_
  show GG _ _ _ _ _ _ _ T1 (mkF m 7 #[.val (.int p0), .val (.ref bq1), .val (.int (12 : Int32)), .unset, .unset] [])
  refine own_go (fun _ => XS.iconst X1.here hx rfl (hb hby d1_7)) ?_
  show GG _ _ _ _ _ _ _ T1 (mkF m 8 #[.val (.int p0), .val (.ref bq1), .val (.int (12 : Int32)), .unset, .unset] [(.int (0 : Int32))])
  refine own_go (fun _ => XS.istoreN X1.here hx rfl (hb hby d1_8) rfl (l' := #[.val (.int p0), .val (.ref bq1), .val (.int (12 : Int32)), .val (.int (0 : Int32)), .unset]) rfl) ?_
  show GG _ _ _ _ _ _ _ T1 (mkF m 9 #[.val (.int p0), .val (.ref bq1), .val (.int (12 : Int32)), .val (.int (0 : Int32)), .unset] [])
  refine own_go (fun _ => XS.iloadN X1.here hx rfl (hb hby d1_9) rfl) ?_
  show GG _ _ _ _ _ _ _ T1 (mkF m 10 #[.val (.int p0), .val (.ref bq1), .val (.int (12 : Int32)), .val (.int (0 : Int32)), .unset] [(.int (0 : Int32))])
  refine own_go (fun _ => XS.iloadN X1.here hx rfl (hb hby d1_10) rfl) ?_
  show GG _ _ _ _ _ _ _ T1 (mkF m 11 #[.val (.int p0), .val (.ref bq1), .val (.int (12 : Int32)), .val (.int (0 : Int32)), .unset] [(.int (12 : Int32)), (.int (0 : Int32))])
  have hc11 : (0 : Int32) < (12 : Int32) := by decide
  refine own_go (fun _ => XS.icmpNo X1.here hx rfl (hb hby d1_11) rfl (tlt hc11).2.1) ?_
  show GG _ _ _ _ _ _ _ T1 (mkF m 14 #[.val (.int p0), .val (.ref bq1), .val (.int (12 : Int32)), .val (.int (0 : Int32)), .unset] [])
  refine own_go (fun _ => XS.aloadN X1.here hx rfl (hb hby d1_14) rfl rfl) ?_
  show GG _ _ _ _ _ _ _ T1 (mkF m 15 #[.val (.int p0), .val (.ref bq1), .val (.int (12 : Int32)), .val (.int (0 : Int32)), .unset] [(.ref bq1)])
  refine own_go (fun _ => XS.iloadN X1.here hx rfl (hb hby d1_15) rfl) ?_
  show GG _ _ _ _ _ _ _ T1 (mkF m 16 #[.val (.int p0), .val (.ref bq1), .val (.int (12 : Int32)), .val (.int (0 : Int32)), .unset] [(.int (0 : Int32)), (.ref bq1)])
  refine own_go (fun _ => own_aaload X1 hx hZ rfl Vq1 rfl (j := (0 : Int32)) (v := (.ref w0)) (by decide) rfl (g := (mkF m 16 #[.val (.int p0), .val (.ref bq1), .val (.int (12 : Int32)), .val (.int (0 : Int32)), .unset] [(.int (0 : Int32)), (.ref bq1)])) rfl rfl (hb hby d1_16) _) ?_
  show GG _ _ _ _ _ _ _ T1 (mkF m 17 #[.val (.int p0), .val (.ref bq1), .val (.int (12 : Int32)), .val (.int (0 : Int32)), .unset] [(.ref w0)])
  refine own_go (fun _ => XS.astore X1.here hx rfl (hb hby d1_17) rfl rfl (l' := #[.val (.int p0), .val (.ref bq1), .val (.int (12 : Int32)), .val (.int (0 : Int32)), .val (.ref w0)]) rfl) ?_
  show GG _ _ _ _ _ _ _ T1 (mkF m 19 #[.val (.int p0), .val (.ref bq1), .val (.int (12 : Int32)), .val (.int (0 : Int32)), .val (.ref w0)] [])
  refine own_go (fun _ => XS.aload X1.here hx rfl (hb hby d1_19) rfl rfl) ?_
  show GG _ _ _ _ _ _ _ T1 (mkF m 21 #[.val (.int p0), .val (.ref bq1), .val (.int (12 : Int32)), .val (.int (0 : Int32)), .val (.ref w0)] [(.ref w0)])
  obtain ⟨T2, X2, e2, st2⟩ := getF X1 hx hZ hown (host := "") (Or.inl (hw _ (List.mem_of_getElem? (i := 31) rfl))) Via.refl rfl F_0 (g := (mkF m 21 #[.val (.int p0), .val (.ref bq1), .val (.int (12 : Int32)), .val (.int (0 : Int32)), .val (.ref w0)] [(.ref w0)])) rfl rfl (hb hby d1_21)
  refine own_go (fun _ => st2 _) ?_
  show GG _ _ _ _ _ _ _ T2 (mkF m 24 #[.val (.int p0), .val (.ref bq1), .val (.int (12 : Int32)), .val (.int (0 : Int32)), .val (.ref w0)] [(.int (1 : Int32))])
  refine own_go (fun _ => XS.iloadN X2.here hx rfl (hb hby d1_24) rfl) ?_
  show GG _ _ _ _ _ _ _ T2 (mkF m 25 #[.val (.int p0), .val (.ref bq1), .val (.int (12 : Int32)), .val (.int (0 : Int32)), .val (.ref w0)] [(.int p0), (.int (1 : Int32))])
  have hc25 : ¬ ((1 : Int32) = p0) := by rw [hp]; decide
  refine own_go (fun _ => XS.icmpYes X2.here hx rfl (pc0 := 25) (pc' := 31) rfl (hb hby d1_25) rfl (feq hc25).2 (by decide) (by decide)) ?_
  show GG _ _ _ _ _ _ _ T2 (mkF m 31 #[.val (.int p0), .val (.ref bq1), .val (.int (12 : Int32)), .val (.int (0 : Int32)), .val (.ref w0)] [])
  refine own_go (fun _ => XS.iinc X2.here hx rfl (hb hby d1_31) rfl (l' := #[.val (.int p0), .val (.ref bq1), .val (.int (12 : Int32)), .val (.int (1 : Int32)), .val (.ref w0)]) rfl) ?_
  show GG _ _ _ _ _ _ _ T2 (mkF m 34 #[.val (.int p0), .val (.ref bq1), .val (.int (12 : Int32)), .val (.int (1 : Int32)), .val (.ref w0)] [])
  refine own_go (fun _ => XS.goto X2.here hx rfl (pc0 := 34) (pc' := 9) rfl (hb hby d1_34) (by decide) (by decide)) ?_
  show GG _ _ _ _ _ _ _ T2 (mkF m 9 #[.val (.int p0), .val (.ref bq1), .val (.int (12 : Int32)), .val (.int (1 : Int32)), .val (.ref w0)] [])
  refine own_go (fun _ => XS.iloadN X2.here hx rfl (hb hby d1_9) rfl) ?_
  show GG _ _ _ _ _ _ _ T2 (mkF m 10 #[.val (.int p0), .val (.ref bq1), .val (.int (12 : Int32)), .val (.int (1 : Int32)), .val (.ref w0)] [(.int (1 : Int32))])
  refine own_go (fun _ => XS.iloadN X2.here hx rfl (hb hby d1_10) rfl) ?_
  show GG _ _ _ _ _ _ _ T2 (mkF m 11 #[.val (.int p0), .val (.ref bq1), .val (.int (12 : Int32)), .val (.int (1 : Int32)), .val (.ref w0)] [(.int (12 : Int32)), (.int (1 : Int32))])
  have hc11 : (1 : Int32) < (12 : Int32) := by decide
  refine own_go (fun _ => XS.icmpNo X2.here hx rfl (hb hby d1_11) rfl (tlt hc11).2.1) ?_
  show GG _ _ _ _ _ _ _ T2 (mkF m 14 #[.val (.int p0), .val (.ref bq1), .val (.int (12 : Int32)), .val (.int (1 : Int32)), .val (.ref w0)] [])
  refine own_go (fun _ => XS.aloadN X2.here hx rfl (hb hby d1_14) rfl rfl) ?_
  show GG _ _ _ _ _ _ _ T2 (mkF m 15 #[.val (.int p0), .val (.ref bq1), .val (.int (12 : Int32)), .val (.int (1 : Int32)), .val (.ref w0)] [(.ref bq1)])
  refine own_go (fun _ => XS.iloadN X2.here hx rfl (hb hby d1_15) rfl) ?_
  show GG _ _ _ _ _ _ _ T2 (mkF m 16 #[.val (.int p0), .val (.ref bq1), .val (.int (12 : Int32)), .val (.int (1 : Int32)), .val (.ref w0)] [(.int (1 : Int32)), (.ref bq1)])
  refine own_go (fun _ => own_aaload X2 hx hZ e2 Vq1 rfl (j := (1 : Int32)) (v := (.ref w1)) (by decide) rfl (g := (mkF m 16 #[.val (.int p0), .val (.ref bq1), .val (.int (12 : Int32)), .val (.int (1 : Int32)), .val (.ref w0)] [(.int (1 : Int32)), (.ref bq1)])) rfl rfl (hb hby d1_16) _) ?_
  show GG _ _ _ _ _ _ _ T2 (mkF m 17 #[.val (.int p0), .val (.ref bq1), .val (.int (12 : Int32)), .val (.int (1 : Int32)), .val (.ref w0)] [(.ref w1)])
  refine own_go (fun _ => XS.astore X2.here hx rfl (hb hby d1_17) rfl rfl (l' := #[.val (.int p0), .val (.ref bq1), .val (.int (12 : Int32)), .val (.int (1 : Int32)), .val (.ref w1)]) rfl) ?_
  show GG _ _ _ _ _ _ _ T2 (mkF m 19 #[.val (.int p0), .val (.ref bq1), .val (.int (12 : Int32)), .val (.int (1 : Int32)), .val (.ref w1)] [])
  refine own_go (fun _ => XS.aload X2.here hx rfl (hb hby d1_19) rfl rfl) ?_
  show GG _ _ _ _ _ _ _ T2 (mkF m 21 #[.val (.int p0), .val (.ref bq1), .val (.int (12 : Int32)), .val (.int (1 : Int32)), .val (.ref w1)] [(.ref w1)])
  obtain ⟨T3, X3, e3, st3⟩ := getF X2 hx hZ hown (host := "") (Or.inl (hw _ (List.mem_of_getElem? (i := 31) rfl))) Via.refl e2 F_1 (g := (mkF m 21 #[.val (.int p0), .val (.ref bq1), .val (.int (12 : Int32)), .val (.int (1 : Int32)), .val (.ref w1)] [(.ref w1)])) rfl rfl (hb hby d1_21)
  refine own_go (fun _ => st3 _) ?_
  show GG _ _ _ _ _ _ _ T3 (mkF m 24 #[.val (.int p0), .val (.ref bq1), .val (.int (12 : Int32)), .val (.int (1 : Int32)), .val (.ref w1)] [(.int (2 : Int32))])
  refine own_go (fun _ => XS.iloadN X3.here hx rfl (hb hby d1_24) rfl) ?_
  show GG _ _ _ _ _ _ _ T3 (mkF m 25 #[.val (.int p0), .val (.ref bq1), .val (.int (12 : Int32)), .val (.int (1 : Int32)), .val (.ref w1)] [(.int p0), (.int (2 : Int32))])
  have hc25 : ¬ ((2 : Int32) = p0) := by rw [hp]; decide
  refine own_go (fun _ => XS.icmpYes X3.here hx rfl (pc0 := 25) (pc' := 31) rfl (hb hby d1_25) rfl (feq hc25).2 (by decide) (by decide)) ?_
  show GG _ _ _ _ _ _ _ T3 (mkF m 31 #[.val (.int p0), .val (.ref bq1), .val (.int (12 : Int32)), .val (.int (1 : Int32)), .val (.ref w1)] [])
  refine own_go (fun _ => XS.iinc X3.here hx rfl (hb hby d1_31) rfl (l' := #[.val (.int p0), .val (.ref bq1), .val (.int (12 : Int32)), .val (.int (2 : Int32)), .val (.ref w1)]) rfl) ?_
  show GG _ _ _ _ _ _ _ T3 (mkF m 34 #[.val (.int p0), .val (.ref bq1), .val (.int (12 : Int32)), .val (.int (2 : Int32)), .val (.ref w1)] [])
  refine own_go (fun _ => XS.goto X3.here hx rfl (pc0 := 34) (pc' := 9) rfl (hb hby d1_34) (by decide) (by decide)) ?_
  show GG _ _ _ _ _ _ _ T3 (mkF m 9 #[.val (.int p0), .val (.ref bq1), .val (.int (12 : Int32)), .val (.int (2 : Int32)), .val (.ref w1)] [])
  refine own_go (fun _ => XS.iloadN X3.here hx rfl (hb hby d1_9) rfl) ?_
  show GG _ _ _ _ _ _ _ T3 (mkF m 10 #[.val (.int p0), .val (.ref bq1), .val (.int (12 : Int32)), .val (.int (2 : Int32)), .val (.ref w1)] [(.int (2 : Int32))])
  refine own_go (fun _ => XS.iloadN X3.here hx rfl (hb hby d1_10) rfl) ?_
  show GG _ _ _ _ _ _ _ T3 (mkF m 11 #[.val (.int p0), .val (.ref bq1), .val (.int (12 : Int32)), .val (.int (2 : Int32)), .val (.ref w1)] [(.int (12 : Int32)), (.int (2 : Int32))])
  have hc11 : (2 : Int32) < (12 : Int32) := by decide
  refine own_go (fun _ => XS.icmpNo X3.here hx rfl (hb hby d1_11) rfl (tlt hc11).2.1) ?_
  show GG _ _ _ _ _ _ _ T3 (mkF m 14 #[.val (.int p0), .val (.ref bq1), .val (.int (12 : Int32)), .val (.int (2 : Int32)), .val (.ref w1)] [])
  refine own_go (fun _ => XS.aloadN X3.here hx rfl (hb hby d1_14) rfl rfl) ?_
  show GG _ _ _ _ _ _ _ T3 (mkF m 15 #[.val (.int p0), .val (.ref bq1), .val (.int (12 : Int32)), .val (.int (2 : Int32)), .val (.ref w1)] [(.ref bq1)])
  refine own_go (fun _ => XS.iloadN X3.here hx rfl (hb hby d1_15) rfl) ?_
  show GG _ _ _ _ _ _ _ T3 (mkF m 16 #[.val (.int p0), .val (.ref bq1), .val (.int (12 : Int32)), .val (.int (2 : Int32)), .val (.ref w1)] [(.int (2 : Int32)), (.ref bq1)])
  refine own_go (fun _ => own_aaload X3 hx hZ e3 Vq1 rfl (j := (2 : Int32)) (v := (.ref w2)) (by decide) rfl (g := (mkF m 16 #[.val (.int p0), .val (.ref bq1), .val (.int (12 : Int32)), .val (.int (2 : Int32)), .val (.ref w1)] [(.int (2 : Int32)), (.ref bq1)])) rfl rfl (hb hby d1_16) _) ?_
  show GG _ _ _ _ _ _ _ T3 (mkF m 17 #[.val (.int p0), .val (.ref bq1), .val (.int (12 : Int32)), .val (.int (2 : Int32)), .val (.ref w1)] [(.ref w2)])
  refine own_go (fun _ => XS.astore X3.here hx rfl (hb hby d1_17) rfl rfl (l' := #[.val (.int p0), .val (.ref bq1), .val (.int (12 : Int32)), .val (.int (2 : Int32)), .val (.ref w2)]) rfl) ?_
  show GG _ _ _ _ _ _ _ T3 (mkF m 19 #[.val (.int p0), .val (.ref bq1), .val (.int (12 : Int32)), .val (.int (2 : Int32)), .val (.ref w2)] [])
  refine own_go (fun _ => XS.aload X3.here hx rfl (hb hby d1_19) rfl rfl) ?_
  show GG _ _ _ _ _ _ _ T3 (mkF m 21 #[.val (.int p0), .val (.ref bq1), .val (.int (12 : Int32)), .val (.int (2 : Int32)), .val (.ref w2)] [(.ref w2)])
  obtain ⟨T4, X4, e4, st4⟩ := getF X3 hx hZ hown (host := "") (Or.inl (hw _ (List.mem_of_getElem? (i := 31) rfl))) Via.refl e3 F_2 (g := (mkF m 21 #[.val (.int p0), .val (.ref bq1), .val (.int (12 : Int32)), .val (.int (2 : Int32)), .val (.ref w2)] [(.ref w2)])) rfl rfl (hb hby d1_21)
  refine own_go (fun _ => st4 _) ?_
  show GG _ _ _ _ _ _ _ T4 (mkF m 24 #[.val (.int p0), .val (.ref bq1), .val (.int (12 : Int32)), .val (.int (2 : Int32)), .val (.ref w2)] [(.int (3 : Int32))])
  refine own_go (fun _ => XS.iloadN X4.here hx rfl (hb hby d1_24) rfl) ?_
  show GG _ _ _ _ _ _ _ T4 (mkF m 25 #[.val (.int p0), .val (.ref bq1), .val (.int (12 : Int32)), .val (.int (2 : Int32)), .val (.ref w2)] [(.int p0), (.int (3 : Int32))])
  have hc25 : ¬ ((3 : Int32) = p0) := by rw [hp]; decide
  refine own_go (fun _ => XS.icmpYes X4.here hx rfl (pc0 := 25) (pc' := 31) rfl (hb hby d1_25) rfl (feq hc25).2 (by decide) (by decide)) ?_
  show GG _ _ _ _ _ _ _ T4 (mkF m 31 #[.val (.int p0), .val (.ref bq1), .val (.int (12 : Int32)), .val (.int (2 : Int32)), .val (.ref w2)] [])
  refine own_go (fun _ => XS.iinc X4.here hx rfl (hb hby d1_31) rfl (l' := #[.val (.int p0), .val (.ref bq1), .val (.int (12 : Int32)), .val (.int (3 : Int32)), .val (.ref w2)]) rfl) ?_
  show GG _ _ _ _ _ _ _ T4 (mkF m 34 #[.val (.int p0), .val (.ref bq1), .val (.int (12 : Int32)), .val (.int (3 : Int32)), .val (.ref w2)] [])
  refine own_go (fun _ => XS.goto X4.here hx rfl (pc0 := 34) (pc' := 9) rfl (hb hby d1_34) (by decide) (by decide)) ?_
  show GG _ _ _ _ _ _ _ T4 (mkF m 9 #[.val (.int p0), .val (.ref bq1), .val (.int (12 : Int32)), .val (.int (3 : Int32)), .val (.ref w2)] [])
  refine own_go (fun _ => XS.iloadN X4.here hx rfl (hb hby d1_9) rfl) ?_
  show GG _ _ _ _ _ _ _ T4 (mkF m 10 #[.val (.int p0), .val (.ref bq1), .val (.int (12 : Int32)), .val (.int (3 : Int32)), .val (.ref w2)] [(.int (3 : Int32))])
  refine own_go (fun _ => XS.iloadN X4.here hx rfl (hb hby d1_10) rfl) ?_
  show GG _ _ _ _ _ _ _ T4 (mkF m 11 #[.val (.int p0), .val (.ref bq1), .val (.int (12 : Int32)), .val (.int (3 : Int32)), .val (.ref w2)] [(.int (12 : Int32)), (.int (3 : Int32))])
  have hc11 : (3 : Int32) < (12 : Int32) := by decide
  refine own_go (fun _ => XS.icmpNo X4.here hx rfl (hb hby d1_11) rfl (tlt hc11).2.1) ?_
  show GG _ _ _ _ _ _ _ T4 (mkF m 14 #[.val (.int p0), .val (.ref bq1), .val (.int (12 : Int32)), .val (.int (3 : Int32)), .val (.ref w2)] [])
  refine own_go (fun _ => XS.aloadN X4.here hx rfl (hb hby d1_14) rfl rfl) ?_
  show GG _ _ _ _ _ _ _ T4 (mkF m 15 #[.val (.int p0), .val (.ref bq1), .val (.int (12 : Int32)), .val (.int (3 : Int32)), .val (.ref w2)] [(.ref bq1)])
  refine own_go (fun _ => XS.iloadN X4.here hx rfl (hb hby d1_15) rfl) ?_
  show GG _ _ _ _ _ _ _ T4 (mkF m 16 #[.val (.int p0), .val (.ref bq1), .val (.int (12 : Int32)), .val (.int (3 : Int32)), .val (.ref w2)] [(.int (3 : Int32)), (.ref bq1)])
  refine own_go (fun _ => own_aaload X4 hx hZ e4 Vq1 rfl (j := (3 : Int32)) (v := (.ref w3)) (by decide) rfl (g := (mkF m 16 #[.val (.int p0), .val (.ref bq1), .val (.int (12 : Int32)), .val (.int (3 : Int32)), .val (.ref w2)] [(.int (3 : Int32)), (.ref bq1)])) rfl rfl (hb hby d1_16) _) ?_
  show GG _ _ _ _ _ _ _ T4 (mkF m 17 #[.val (.int p0), .val (.ref bq1), .val (.int (12 : Int32)), .val (.int (3 : Int32)), .val (.ref w2)] [(.ref w3)])
  refine own_go (fun _ => XS.astore X4.here hx rfl (hb hby d1_17) rfl rfl (l' := #[.val (.int p0), .val (.ref bq1), .val (.int (12 : Int32)), .val (.int (3 : Int32)), .val (.ref w3)]) rfl) ?_
  show GG _ _ _ _ _ _ _ T4 (mkF m 19 #[.val (.int p0), .val (.ref bq1), .val (.int (12 : Int32)), .val (.int (3 : Int32)), .val (.ref w3)] [])
  refine own_go (fun _ => XS.aload X4.here hx rfl (hb hby d1_19) rfl rfl) ?_
  show GG _ _ _ _ _ _ _ T4 (mkF m 21 #[.val (.int p0), .val (.ref bq1), .val (.int (12 : Int32)), .val (.int (3 : Int32)), .val (.ref w3)] [(.ref w3)])
  obtain ⟨T5, X5, e5, st5⟩ := getF X4 hx hZ hown (host := "") (Or.inl (hw _ (List.mem_of_getElem? (i := 31) rfl))) Via.refl e4 F_3 (g := (mkF m 21 #[.val (.int p0), .val (.ref bq1), .val (.int (12 : Int32)), .val (.int (3 : Int32)), .val (.ref w3)] [(.ref w3)])) rfl rfl (hb hby d1_21)
  refine own_go (fun _ => st5 _) ?_
  show GG _ _ _ _ _ _ _ T5 (mkF m 24 #[.val (.int p0), .val (.ref bq1), .val (.int (12 : Int32)), .val (.int (3 : Int32)), .val (.ref w3)] [(.int (4 : Int32))])
  refine own_go (fun _ => XS.iloadN X5.here hx rfl (hb hby d1_24) rfl) ?_
  show GG _ _ _ _ _ _ _ T5 (mkF m 25 #[.val (.int p0), .val (.ref bq1), .val (.int (12 : Int32)), .val (.int (3 : Int32)), .val (.ref w3)] [(.int p0), (.int (4 : Int32))])
  have hc25 : ¬ ((4 : Int32) = p0) := by rw [hp]; decide
  refine own_go (fun _ => XS.icmpYes X5.here hx rfl (pc0 := 25) (pc' := 31) rfl (hb hby d1_25) rfl (feq hc25).2 (by decide) (by decide)) ?_
  show GG _ _ _ _ _ _ _ T5 (mkF m 31 #[.val (.int p0), .val (.ref bq1), .val (.int (12 : Int32)), .val (.int (3 : Int32)), .val (.ref w3)] [])
  refine own_go (fun _ => XS.iinc X5.here hx rfl (hb hby d1_31) rfl (l' := #[.val (.int p0), .val (.ref bq1), .val (.int (12 : Int32)), .val (.int (4 : Int32)), .val (.ref w3)]) rfl) ?_
  show GG _ _ _ _ _ _ _ T5 (mkF m 34 #[.val (.int p0), .val (.ref bq1), .val (.int (12 : Int32)), .val (.int (4 : Int32)), .val (.ref w3)] [])
  refine own_go (fun _ => XS.goto X5.here hx rfl (pc0 := 34) (pc' := 9) rfl (hb hby d1_34) (by decide) (by decide)) ?_
  show GG _ _ _ _ _ _ _ T5 (mkF m 9 #[.val (.int p0), .val (.ref bq1), .val (.int (12 : Int32)), .val (.int (4 : Int32)), .val (.ref w3)] [])
  refine own_go (fun _ => XS.iloadN X5.here hx rfl (hb hby d1_9) rfl) ?_
  show GG _ _ _ _ _ _ _ T5 (mkF m 10 #[.val (.int p0), .val (.ref bq1), .val (.int (12 : Int32)), .val (.int (4 : Int32)), .val (.ref w3)] [(.int (4 : Int32))])
  refine own_go (fun _ => XS.iloadN X5.here hx rfl (hb hby d1_10) rfl) ?_
  show GG _ _ _ _ _ _ _ T5 (mkF m 11 #[.val (.int p0), .val (.ref bq1), .val (.int (12 : Int32)), .val (.int (4 : Int32)), .val (.ref w3)] [(.int (12 : Int32)), (.int (4 : Int32))])
  have hc11 : (4 : Int32) < (12 : Int32) := by decide
  refine own_go (fun _ => XS.icmpNo X5.here hx rfl (hb hby d1_11) rfl (tlt hc11).2.1) ?_
  show GG _ _ _ _ _ _ _ T5 (mkF m 14 #[.val (.int p0), .val (.ref bq1), .val (.int (12 : Int32)), .val (.int (4 : Int32)), .val (.ref w3)] [])
  refine own_go (fun _ => XS.aloadN X5.here hx rfl (hb hby d1_14) rfl rfl) ?_
  show GG _ _ _ _ _ _ _ T5 (mkF m 15 #[.val (.int p0), .val (.ref bq1), .val (.int (12 : Int32)), .val (.int (4 : Int32)), .val (.ref w3)] [(.ref bq1)])
  refine own_go (fun _ => XS.iloadN X5.here hx rfl (hb hby d1_15) rfl) ?_
  show GG _ _ _ _ _ _ _ T5 (mkF m 16 #[.val (.int p0), .val (.ref bq1), .val (.int (12 : Int32)), .val (.int (4 : Int32)), .val (.ref w3)] [(.int (4 : Int32)), (.ref bq1)])
  refine own_go (fun _ => own_aaload X5 hx hZ e5 Vq1 rfl (j := (4 : Int32)) (v := (.ref w4)) (by decide) rfl (g := (mkF m 16 #[.val (.int p0), .val (.ref bq1), .val (.int (12 : Int32)), .val (.int (4 : Int32)), .val (.ref w3)] [(.int (4 : Int32)), (.ref bq1)])) rfl rfl (hb hby d1_16) _) ?_
  show GG _ _ _ _ _ _ _ T5 (mkF m 17 #[.val (.int p0), .val (.ref bq1), .val (.int (12 : Int32)), .val (.int (4 : Int32)), .val (.ref w3)] [(.ref w4)])
  refine own_go (fun _ => XS.astore X5.here hx rfl (hb hby d1_17) rfl rfl (l' := #[.val (.int p0), .val (.ref bq1), .val (.int (12 : Int32)), .val (.int (4 : Int32)), .val (.ref w4)]) rfl) ?_
  show GG _ _ _ _ _ _ _ T5 (mkF m 19 #[.val (.int p0), .val (.ref bq1), .val (.int (12 : Int32)), .val (.int (4 : Int32)), .val (.ref w4)] [])
  refine own_go (fun _ => XS.aload X5.here hx rfl (hb hby d1_19) rfl rfl) ?_
  show GG _ _ _ _ _ _ _ T5 (mkF m 21 #[.val (.int p0), .val (.ref bq1), .val (.int (12 : Int32)), .val (.int (4 : Int32)), .val (.ref w4)] [(.ref w4)])
  obtain ⟨T6, X6, e6, st6⟩ := getF X5 hx hZ hown (host := "") (Or.inl (hw _ (List.mem_of_getElem? (i := 31) rfl))) Via.refl e5 F_4 (g := (mkF m 21 #[.val (.int p0), .val (.ref bq1), .val (.int (12 : Int32)), .val (.int (4 : Int32)), .val (.ref w4)] [(.ref w4)])) rfl rfl (hb hby d1_21)
  refine own_go (fun _ => st6 _) ?_
  show GG _ _ _ _ _ _ _ T6 (mkF m 24 #[.val (.int p0), .val (.ref bq1), .val (.int (12 : Int32)), .val (.int (4 : Int32)), .val (.ref w4)] [(.int (5 : Int32))])
  refine own_go (fun _ => XS.iloadN X6.here hx rfl (hb hby d1_24) rfl) ?_
  show GG _ _ _ _ _ _ _ T6 (mkF m 25 #[.val (.int p0), .val (.ref bq1), .val (.int (12 : Int32)), .val (.int (4 : Int32)), .val (.ref w4)] [(.int p0), (.int (5 : Int32))])
  have hc25 : ¬ ((5 : Int32) = p0) := by rw [hp]; decide
  refine own_go (fun _ => XS.icmpYes X6.here hx rfl (pc0 := 25) (pc' := 31) rfl (hb hby d1_25) rfl (feq hc25).2 (by decide) (by decide)) ?_
  show GG _ _ _ _ _ _ _ T6 (mkF m 31 #[.val (.int p0), .val (.ref bq1), .val (.int (12 : Int32)), .val (.int (4 : Int32)), .val (.ref w4)] [])
  refine own_go (fun _ => XS.iinc X6.here hx rfl (hb hby d1_31) rfl (l' := #[.val (.int p0), .val (.ref bq1), .val (.int (12 : Int32)), .val (.int (5 : Int32)), .val (.ref w4)]) rfl) ?_
  show GG _ _ _ _ _ _ _ T6 (mkF m 34 #[.val (.int p0), .val (.ref bq1), .val (.int (12 : Int32)), .val (.int (5 : Int32)), .val (.ref w4)] [])
  refine own_go (fun _ => XS.goto X6.here hx rfl (pc0 := 34) (pc' := 9) rfl (hb hby d1_34) (by decide) (by decide)) ?_
  show GG _ _ _ _ _ _ _ T6 (mkF m 9 #[.val (.int p0), .val (.ref bq1), .val (.int (12 : Int32)), .val (.int (5 : Int32)), .val (.ref w4)] [])
  refine own_go (fun _ => XS.iloadN X6.here hx rfl (hb hby d1_9) rfl) ?_
  show GG _ _ _ _ _ _ _ T6 (mkF m 10 #[.val (.int p0), .val (.ref bq1), .val (.int (12 : Int32)), .val (.int (5 : Int32)), .val (.ref w4)] [(.int (5 : Int32))])
  refine own_go (fun _ => XS.iloadN X6.here hx rfl (hb hby d1_10) rfl) ?_
  show GG _ _ _ _ _ _ _ T6 (mkF m 11 #[.val (.int p0), .val (.ref bq1), .val (.int (12 : Int32)), .val (.int (5 : Int32)), .val (.ref w4)] [(.int (12 : Int32)), (.int (5 : Int32))])
  have hc11 : (5 : Int32) < (12 : Int32) := by decide
  refine own_go (fun _ => XS.icmpNo X6.here hx rfl (hb hby d1_11) rfl (tlt hc11).2.1) ?_
  show GG _ _ _ _ _ _ _ T6 (mkF m 14 #[.val (.int p0), .val (.ref bq1), .val (.int (12 : Int32)), .val (.int (5 : Int32)), .val (.ref w4)] [])
  refine own_go (fun _ => XS.aloadN X6.here hx rfl (hb hby d1_14) rfl rfl) ?_
  show GG _ _ _ _ _ _ _ T6 (mkF m 15 #[.val (.int p0), .val (.ref bq1), .val (.int (12 : Int32)), .val (.int (5 : Int32)), .val (.ref w4)] [(.ref bq1)])
  refine own_go (fun _ => XS.iloadN X6.here hx rfl (hb hby d1_15) rfl) ?_
  show GG _ _ _ _ _ _ _ T6 (mkF m 16 #[.val (.int p0), .val (.ref bq1), .val (.int (12 : Int32)), .val (.int (5 : Int32)), .val (.ref w4)] [(.int (5 : Int32)), (.ref bq1)])
  refine own_go (fun _ => own_aaload X6 hx hZ e6 Vq1 rfl (j := (5 : Int32)) (v := (.ref w5)) (by decide) rfl (g := (mkF m 16 #[.val (.int p0), .val (.ref bq1), .val (.int (12 : Int32)), .val (.int (5 : Int32)), .val (.ref w4)] [(.int (5 : Int32)), (.ref bq1)])) rfl rfl (hb hby d1_16) _) ?_
  show GG _ _ _ _ _ _ _ T6 (mkF m 17 #[.val (.int p0), .val (.ref bq1), .val (.int (12 : Int32)), .val (.int (5 : Int32)), .val (.ref w4)] [(.ref w5)])
  refine own_go (fun _ => XS.astore X6.here hx rfl (hb hby d1_17) rfl rfl (l' := #[.val (.int p0), .val (.ref bq1), .val (.int (12 : Int32)), .val (.int (5 : Int32)), .val (.ref w5)]) rfl) ?_
  show GG _ _ _ _ _ _ _ T6 (mkF m 19 #[.val (.int p0), .val (.ref bq1), .val (.int (12 : Int32)), .val (.int (5 : Int32)), .val (.ref w5)] [])
  refine own_go (fun _ => XS.aload X6.here hx rfl (hb hby d1_19) rfl rfl) ?_
  show GG _ _ _ _ _ _ _ T6 (mkF m 21 #[.val (.int p0), .val (.ref bq1), .val (.int (12 : Int32)), .val (.int (5 : Int32)), .val (.ref w5)] [(.ref w5)])
  obtain ⟨T7, X7, e7, st7⟩ := getF X6 hx hZ hown (host := "") (Or.inl (hw _ (List.mem_of_getElem? (i := 31) rfl))) Via.refl e6 F_5 (g := (mkF m 21 #[.val (.int p0), .val (.ref bq1), .val (.int (12 : Int32)), .val (.int (5 : Int32)), .val (.ref w5)] [(.ref w5)])) rfl rfl (hb hby d1_21)
  refine own_go (fun _ => st7 _) ?_
  show GG _ _ _ _ _ _ _ T7 (mkF m 24 #[.val (.int p0), .val (.ref bq1), .val (.int (12 : Int32)), .val (.int (5 : Int32)), .val (.ref w5)] [(.int (8 : Int32))])
  refine own_go (fun _ => XS.iloadN X7.here hx rfl (hb hby d1_24) rfl) ?_
  show GG _ _ _ _ _ _ _ T7 (mkF m 25 #[.val (.int p0), .val (.ref bq1), .val (.int (12 : Int32)), .val (.int (5 : Int32)), .val (.ref w5)] [(.int p0), (.int (8 : Int32))])
  have hc25 : (8 : Int32) = p0 := hp.symm
  refine own_go (fun _ => XS.icmpNo X7.here hx rfl (hb hby d1_25) rfl (teq hc25).2) ?_
  show GG _ _ _ _ _ _ _ T7 (mkF m 28 #[.val (.int p0), .val (.ref bq1), .val (.int (12 : Int32)), .val (.int (5 : Int32)), .val (.ref w5)] [])
  refine own_go (fun _ => XS.aload X7.here hx rfl (hb hby d1_28) rfl rfl) ?_
  show GG _ _ _ _ _ _ _ T7 (mkF m 30 #[.val (.int p0), .val (.ref bq1), .val (.int (12 : Int32)), .val (.int (5 : Int32)), .val (.ref w5)] [(.ref w5)])
  refine own_ret X7 hx hlk (t := (.object "com/example/bellwether/bellwether/protocol/OpCode")) (w := (.ref w5)) Bd.returns rfl (Or.inr (Or.inr (Or.inr (Or.inr ⟨rfl, rfl, rfl⟩)))) (hb hby d1_30) (by decide) (by decide) ?_
  show Q1_5 Z p0 wV w0 w1 w2 w3 w4 w5 w6 w7 w8 w9 w10 w11 h0 n0 (some (.ref w5)) T7.heap _
  rw [e7]
  exact ⟨rfl, N1, K0⟩
def Q1_6 (Z : State) (p0 : Int32) (wV : Addr) (w0 w1 w2 w3 w4 w5 w6 w7 w8 w9 w10 w11 : Addr) (h0 : Heap) (n0 : Nat) (v : Option Value) (h : Heap) (L : List Loc) : Prop := v = some (.ref w6) ∧ Fr n0 L ∧ Keep h0 h []
set_option maxRecDepth 65536 in
set_option maxHeartbeats 40000000 in
theorem rm1_6 (l : Launch) (Z : State) (a0 : Array Value) (hw : ∀ d ∈ tables_1, d.before a0 Z = true) (ws : List Jvm.Cond) (p0 : Int32) (wV : Addr) (w0 w1 w2 w3 w4 w5 w6 w7 w8 w9 w10 w11 : Addr) (h0 : Heap) (n0 : Nat) (Z0 : n0 ≤ h0.size) (hp : p0 = (9 : Int32)) (S_V : Sta Z h0 "com/example/bellwether/bellwether/protocol/OpCode" "$VALUES" "[Lcom/example/bellwether/bellwether/protocol/OpCode;" (.ref wV)) (V_V : Arx Z h0 wV (.object "com/example/bellwether/bellwether/protocol/OpCode") [(.ref w0), (.ref w1), (.ref w2), (.ref w3), (.ref w4), (.ref w5), (.ref w6), (.ref w7), (.ref w8), (.ref w9), (.ref w10), (.ref w11)]) (E_V : Exa Z h0 wV "[Lcom/example/bellwether/bellwether/protocol/OpCode;") (F_0 : Fld Z h0 w0 "com/example/bellwether/bellwether/protocol/OpCode" "code" "I" (.int (1 : Int32))) (F_1 : Fld Z h0 w1 "com/example/bellwether/bellwether/protocol/OpCode" "code" "I" (.int (2 : Int32))) (F_2 : Fld Z h0 w2 "com/example/bellwether/bellwether/protocol/OpCode" "code" "I" (.int (3 : Int32))) (F_3 : Fld Z h0 w3 "com/example/bellwether/bellwether/protocol/OpCode" "code" "I" (.int (4 : Int32))) (F_4 : Fld Z h0 w4 "com/example/bellwether/bellwether/protocol/OpCode" "code" "I" (.int (5 : Int32))) (F_5 : Fld Z h0 w5 "com/example/bellwether/bellwether/protocol/OpCode" "code" "I" (.int (8 : Int32))) (F_6 : Fld Z h0 w6 "com/example/bellwether/bellwether/protocol/OpCode" "code" "I" (.int (9 : Int32))) (F_7 : Fld Z h0 w7 "com/example/bellwether/bellwether/protocol/OpCode" "code" "I" (.int (11 : Int32))) (F_8 : Fld Z h0 w8 "com/example/bellwether/bellwether/protocol/OpCode" "code" "I" (.int (12 : Int32))) (F_9 : Fld Z h0 w9 "com/example/bellwether/bellwether/protocol/OpCode" "code" "I" (.int (13 : Int32))) (F_10 : Fld Z h0 w10 "com/example/bellwether/bellwether/protocol/OpCode" "code" "I" (.int (14 : Int32))) (F_11 : Fld Z h0 w11 "com/example/bellwether/bellwether/protocol/OpCode" "code" "I" (.int (-11 : Int32))) :
    own_CT l Z (⟨"com/example/bellwether/bellwether/protocol/OpCode", "of", "(I)Lcom/example/bellwether/bellwether/protocol/OpCode;"⟩ : MethodName) prog_23_method_5_code 5 (some (.object "com/example/bellwether/bellwether/protocol/OpCode")) ws ({ frames := 2, cells := 1, slots := 12, locals := 25 } : Room) #[(.int p0)] h0 (Q1_6 Z p0 wV w0 w1 w2 w3 w4 w5 w6 w7 w8 w9 w10 w11 h0 n0) := by
  refine MetFree.of_bodySF (plainFor_of_name pn_com_example_bellwether_bellwether_protocol_OpCode) hisR ?_
  intro p e s m args below meth c s₁ Bd hml0 hP hK
  obtain ⟨rfl, hZ, hh⟩ := hP
  have hx := Bd.exec
  have hby := Bd.bytes
  have hml : c.maxLocals = 5 := hml0
  have hown : s.vm.findClass "com/example/bellwether/bellwether/protocol/OpCode" = some m.cls := findClass_of_methodNamed Bd.named
  have hnm := (name_of_methodNamed Bd.named Bd.method).1
  have hlk : meth.locks = false := BodyLoose.notSynchronized Bd
  have X0 : Stand p l e ({ frames := 2, cells := 1, slots := 12, locals := 25 } : Room) s m #[(.int p0)] below meth c s₁ [] 0 0 := Stand.of_body Bd
  have e0 : s₁.heap = h0 := by rw [← hh, Bd.state]; rfl
  have N0 := Fr.nil n0
  show GG p e below s ({ frames := 2, cells := 1, slots := 12, locals := 25 } : Room).cells ({ frames := 2, cells := 1, slots := 12, locals := 25 } : Room).slots (Q1_6 Z p0 wV w0 w1 w2 w3 w4 w5 w6 w7 w8 w9 w10 w11 h0 n0) s₁ (entryFrame m #[(.int p0)] 5)
  refine own_in (ef_1 m p0) ?_
  have K0 := Keep.refl h0 []
  show GG _ _ _ _ _ _ _ s₁ (mkF m 0 #[.val (.int p0), .unset, .unset, .unset, .unset] [])
  refine own_callS X0 hx hZ (y := (⟨"com/example/bellwether/bellwether/protocol/OpCode", "values", "()[Lcom/example/bellwether/bellwether/protocol/OpCode;"⟩ : MethodName)) 0 hown (hw _ (List.mem_of_getElem? (i := 4) rfl)) (hw _ (List.mem_of_getElem? (i := 5) rfl)) (hw _ (List.mem_of_getElem? (i := 2) rfl)) (hw _ (List.mem_of_getElem? (i := 6) rfl)) (by decide) (argsL := []) (rest := []) (rm2 l Z a0 hw [] wV w0 w1 w2 w3 w4 w5 w6 w7 w8 w9 w10 w11 h0 n0 Z0 S_V V_V E_V) (by decide) (by decide) (by decide) (by decide) (g := (mkF m 0 #[.val (.int p0), .unset, .unset, .unset, .unset] [])) rfl (by rw [hml]; rfl) (lenOf pd____Lcom_example_bellwether_bellwether_pr_216 rfl) rfl (by show 2 * 0 + _ ≤ _; exact Nat.le_of_eq rfl) (hb hby d1_0) e0 ?_
  rintro v1 T1 L1 X1 ⟨bq1, rfl, N1q, szq1, Kq1, Vq1⟩
  have N1 := Fr.app N0 N1q
  have K0 := K0.trans Kq1 all0
  have F_0 := F_0.keep Kq1 nin0
  have F_1 := F_1.keep Kq1 nin0
  have F_2 := F_2.keep Kq1 nin0
  have F_3 := F_3.keep Kq1 nin0
  have F_4 := F_4.keep Kq1 nin0
  have F_5 := F_5.keep Kq1 nin0
  have F_6 := F_6.keep Kq1 nin0
  have F_7 := F_7.keep Kq1 nin0
  have F_8 := F_8.keep Kq1 nin0
  have F_9 := F_9.keep Kq1 nin0
  have F_10 := F_10.keep Kq1 nin0
  have F_11 := F_11.keep Kq1 nin0
  show GG _ _ _ _ _ _ _ T1 (mkF m 3 #[.val (.int p0), .unset, .unset, .unset, .unset] [(.ref bq1)])
  refine own_go (fun _ => XS.astoreN X1.here hx rfl (hb hby d1_3) rfl rfl (l' := #[.val (.int p0), .val (.ref bq1), .unset, .unset, .unset]) rfl) ?_
  show GG _ _ _ _ _ _ _ T1 (mkF m 4 #[.val (.int p0), .val (.ref bq1), .unset, .unset, .unset] [])
  refine own_go (fun _ => XS.aloadN X1.here hx rfl (hb hby d1_4) rfl rfl) ?_
  show GG _ _ _ _ _ _ _ T1 (mkF m 5 #[.val (.int p0), .val (.ref bq1), .unset, .unset, .unset] [(.ref bq1)])
  refine own_go (fun _ => own_len X1 hx hZ rfl Vq1 (g := (mkF m 5 #[.val (.int p0), .val (.ref bq1), .unset, .unset, .unset] [(.ref bq1)])) rfl rfl (hb hby d1_5) _) ?_
  show GG _ _ _ _ _ _ _ T1 (mkF m 6 #[.val (.int p0), .val (.ref bq1), .unset, .unset, .unset] [(.int (12 : Int32))])
  refine own_go (fun _ => XS.istoreN X1.here hx rfl (hb hby d1_6) rfl (l' := #[.val (.int p0), .val (.ref bq1), .val (.int (12 : Int32)), .unset, .unset]) rfl) ?_
  show GG _ _ _ _ _ _ _ T1 (mkF m 7 #[.val (.int p0), .val (.ref bq1), .val (.int (12 : Int32)), .unset, .unset] [])
  refine own_go (fun _ => XS.iconst X1.here hx rfl (hb hby d1_7)) ?_
  show GG _ _ _ _ _ _ _ T1 (mkF m 8 #[.val (.int p0), .val (.ref bq1), .val (.int (12 : Int32)), .unset, .unset] [(.int (0 : Int32))])
  refine own_go (fun _ => XS.istoreN X1.here hx rfl (hb hby d1_8) rfl (l' := #[.val (.int p0), .val (.ref bq1), .val (.int (12 : Int32)), .val (.int (0 : Int32)), .unset]) rfl) ?_
  show GG _ _ _ _ _ _ _ T1 (mkF m 9 #[.val (.int p0), .val (.ref bq1), .val (.int (12 : Int32)), .val (.int (0 : Int32)), .unset] [])
  refine own_go (fun _ => XS.iloadN X1.here hx rfl (hb hby d1_9) rfl) ?_
  show GG _ _ _ _ _ _ _ T1 (mkF m 10 #[.val (.int p0), .val (.ref bq1), .val (.int (12 : Int32)), .val (.int (0 : Int32)), .unset] [(.int (0 : Int32))])
  refine own_go (fun _ => XS.iloadN X1.here hx rfl (hb hby d1_10) rfl) ?_
  show GG _ _ _ _ _ _ _ T1 (mkF m 11 #[.val (.int p0), .val (.ref bq1), .val (.int (12 : Int32)), .val (.int (0 : Int32)), .unset] [(.int (12 : Int32)), (.int (0 : Int32))])
  have hc11 : (0 : Int32) < (12 : Int32) := by decide
  refine own_go (fun _ => XS.icmpNo X1.here hx rfl (hb hby d1_11) rfl (tlt hc11).2.1) ?_
  show GG _ _ _ _ _ _ _ T1 (mkF m 14 #[.val (.int p0), .val (.ref bq1), .val (.int (12 : Int32)), .val (.int (0 : Int32)), .unset] [])
  refine own_go (fun _ => XS.aloadN X1.here hx rfl (hb hby d1_14) rfl rfl) ?_
  show GG _ _ _ _ _ _ _ T1 (mkF m 15 #[.val (.int p0), .val (.ref bq1), .val (.int (12 : Int32)), .val (.int (0 : Int32)), .unset] [(.ref bq1)])
  refine own_go (fun _ => XS.iloadN X1.here hx rfl (hb hby d1_15) rfl) ?_
  show GG _ _ _ _ _ _ _ T1 (mkF m 16 #[.val (.int p0), .val (.ref bq1), .val (.int (12 : Int32)), .val (.int (0 : Int32)), .unset] [(.int (0 : Int32)), (.ref bq1)])
  refine own_go (fun _ => own_aaload X1 hx hZ rfl Vq1 rfl (j := (0 : Int32)) (v := (.ref w0)) (by decide) rfl (g := (mkF m 16 #[.val (.int p0), .val (.ref bq1), .val (.int (12 : Int32)), .val (.int (0 : Int32)), .unset] [(.int (0 : Int32)), (.ref bq1)])) rfl rfl (hb hby d1_16) _) ?_
  show GG _ _ _ _ _ _ _ T1 (mkF m 17 #[.val (.int p0), .val (.ref bq1), .val (.int (12 : Int32)), .val (.int (0 : Int32)), .unset] [(.ref w0)])
  refine own_go (fun _ => XS.astore X1.here hx rfl (hb hby d1_17) rfl rfl (l' := #[.val (.int p0), .val (.ref bq1), .val (.int (12 : Int32)), .val (.int (0 : Int32)), .val (.ref w0)]) rfl) ?_
  show GG _ _ _ _ _ _ _ T1 (mkF m 19 #[.val (.int p0), .val (.ref bq1), .val (.int (12 : Int32)), .val (.int (0 : Int32)), .val (.ref w0)] [])
  refine own_go (fun _ => XS.aload X1.here hx rfl (hb hby d1_19) rfl rfl) ?_
  show GG _ _ _ _ _ _ _ T1 (mkF m 21 #[.val (.int p0), .val (.ref bq1), .val (.int (12 : Int32)), .val (.int (0 : Int32)), .val (.ref w0)] [(.ref w0)])
  obtain ⟨T2, X2, e2, st2⟩ := getF X1 hx hZ hown (host := "") (Or.inl (hw _ (List.mem_of_getElem? (i := 31) rfl))) Via.refl rfl F_0 (g := (mkF m 21 #[.val (.int p0), .val (.ref bq1), .val (.int (12 : Int32)), .val (.int (0 : Int32)), .val (.ref w0)] [(.ref w0)])) rfl rfl (hb hby d1_21)
  refine own_go (fun _ => st2 _) ?_
  show GG _ _ _ _ _ _ _ T2 (mkF m 24 #[.val (.int p0), .val (.ref bq1), .val (.int (12 : Int32)), .val (.int (0 : Int32)), .val (.ref w0)] [(.int (1 : Int32))])
  refine own_go (fun _ => XS.iloadN X2.here hx rfl (hb hby d1_24) rfl) ?_
  show GG _ _ _ _ _ _ _ T2 (mkF m 25 #[.val (.int p0), .val (.ref bq1), .val (.int (12 : Int32)), .val (.int (0 : Int32)), .val (.ref w0)] [(.int p0), (.int (1 : Int32))])
  have hc25 : ¬ ((1 : Int32) = p0) := by rw [hp]; decide
  refine own_go (fun _ => XS.icmpYes X2.here hx rfl (pc0 := 25) (pc' := 31) rfl (hb hby d1_25) rfl (feq hc25).2 (by decide) (by decide)) ?_
  show GG _ _ _ _ _ _ _ T2 (mkF m 31 #[.val (.int p0), .val (.ref bq1), .val (.int (12 : Int32)), .val (.int (0 : Int32)), .val (.ref w0)] [])
  refine own_go (fun _ => XS.iinc X2.here hx rfl (hb hby d1_31) rfl (l' := #[.val (.int p0), .val (.ref bq1), .val (.int (12 : Int32)), .val (.int (1 : Int32)), .val (.ref w0)]) rfl) ?_
  show GG _ _ _ _ _ _ _ T2 (mkF m 34 #[.val (.int p0), .val (.ref bq1), .val (.int (12 : Int32)), .val (.int (1 : Int32)), .val (.ref w0)] [])
  refine own_go (fun _ => XS.goto X2.here hx rfl (pc0 := 34) (pc' := 9) rfl (hb hby d1_34) (by decide) (by decide)) ?_
  show GG _ _ _ _ _ _ _ T2 (mkF m 9 #[.val (.int p0), .val (.ref bq1), .val (.int (12 : Int32)), .val (.int (1 : Int32)), .val (.ref w0)] [])
  refine own_go (fun _ => XS.iloadN X2.here hx rfl (hb hby d1_9) rfl) ?_
  show GG _ _ _ _ _ _ _ T2 (mkF m 10 #[.val (.int p0), .val (.ref bq1), .val (.int (12 : Int32)), .val (.int (1 : Int32)), .val (.ref w0)] [(.int (1 : Int32))])
  refine own_go (fun _ => XS.iloadN X2.here hx rfl (hb hby d1_10) rfl) ?_
  show GG _ _ _ _ _ _ _ T2 (mkF m 11 #[.val (.int p0), .val (.ref bq1), .val (.int (12 : Int32)), .val (.int (1 : Int32)), .val (.ref w0)] [(.int (12 : Int32)), (.int (1 : Int32))])
  have hc11 : (1 : Int32) < (12 : Int32) := by decide
  refine own_go (fun _ => XS.icmpNo X2.here hx rfl (hb hby d1_11) rfl (tlt hc11).2.1) ?_
  show GG _ _ _ _ _ _ _ T2 (mkF m 14 #[.val (.int p0), .val (.ref bq1), .val (.int (12 : Int32)), .val (.int (1 : Int32)), .val (.ref w0)] [])
  refine own_go (fun _ => XS.aloadN X2.here hx rfl (hb hby d1_14) rfl rfl) ?_
  show GG _ _ _ _ _ _ _ T2 (mkF m 15 #[.val (.int p0), .val (.ref bq1), .val (.int (12 : Int32)), .val (.int (1 : Int32)), .val (.ref w0)] [(.ref bq1)])
  refine own_go (fun _ => XS.iloadN X2.here hx rfl (hb hby d1_15) rfl) ?_
  show GG _ _ _ _ _ _ _ T2 (mkF m 16 #[.val (.int p0), .val (.ref bq1), .val (.int (12 : Int32)), .val (.int (1 : Int32)), .val (.ref w0)] [(.int (1 : Int32)), (.ref bq1)])
  refine own_go (fun _ => own_aaload X2 hx hZ e2 Vq1 rfl (j := (1 : Int32)) (v := (.ref w1)) (by decide) rfl (g := (mkF m 16 #[.val (.int p0), .val (.ref bq1), .val (.int (12 : Int32)), .val (.int (1 : Int32)), .val (.ref w0)] [(.int (1 : Int32)), (.ref bq1)])) rfl rfl (hb hby d1_16) _) ?_
  show GG _ _ _ _ _ _ _ T2 (mkF m 17 #[.val (.int p0), .val (.ref bq1), .val (.int (12 : Int32)), .val (.int (1 : Int32)), .val (.ref w0)] [(.ref w1)])
  refine own_go (fun _ => XS.astore X2.here hx rfl (hb hby d1_17) rfl rfl (l' := #[.val (.int p0), .val (.ref bq1), .val (.int (12 : Int32)), .val (.int (1 : Int32)), .val (.ref w1)]) rfl) ?_
  show GG _ _ _ _ _ _ _ T2 (mkF m 19 #[.val (.int p0), .val (.ref bq1), .val (.int (12 : Int32)), .val (.int (1 : Int32)), .val (.ref w1)] [])
  refine own_go (fun _ => XS.aload X2.here hx rfl (hb hby d1_19) rfl rfl) ?_
  show GG _ _ _ _ _ _ _ T2 (mkF m 21 #[.val (.int p0), .val (.ref bq1), .val (.int (12 : Int32)), .val (.int (1 : Int32)), .val (.ref w1)] [(.ref w1)])
  obtain ⟨T3, X3, e3, st3⟩ := getF X2 hx hZ hown (host := "") (Or.inl (hw _ (List.mem_of_getElem? (i := 31) rfl))) Via.refl e2 F_1 (g := (mkF m 21 #[.val (.int p0), .val (.ref bq1), .val (.int (12 : Int32)), .val (.int (1 : Int32)), .val (.ref w1)] [(.ref w1)])) rfl rfl (hb hby d1_21)
  refine own_go (fun _ => st3 _) ?_
  show GG _ _ _ _ _ _ _ T3 (mkF m 24 #[.val (.int p0), .val (.ref bq1), .val (.int (12 : Int32)), .val (.int (1 : Int32)), .val (.ref w1)] [(.int (2 : Int32))])
  refine own_go (fun _ => XS.iloadN X3.here hx rfl (hb hby d1_24) rfl) ?_
  show GG _ _ _ _ _ _ _ T3 (mkF m 25 #[.val (.int p0), .val (.ref bq1), .val (.int (12 : Int32)), .val (.int (1 : Int32)), .val (.ref w1)] [(.int p0), (.int (2 : Int32))])
  have hc25 : ¬ ((2 : Int32) = p0) := by rw [hp]; decide
  refine own_go (fun _ => XS.icmpYes X3.here hx rfl (pc0 := 25) (pc' := 31) rfl (hb hby d1_25) rfl (feq hc25).2 (by decide) (by decide)) ?_
  show GG _ _ _ _ _ _ _ T3 (mkF m 31 #[.val (.int p0), .val (.ref bq1), .val (.int (12 : Int32)), .val (.int (1 : Int32)), .val (.ref w1)] [])
  refine own_go (fun _ => XS.iinc X3.here hx rfl (hb hby d1_31) rfl (l' := #[.val (.int p0), .val (.ref bq1), .val (.int (12 : Int32)), .val (.int (2 : Int32)), .val (.ref w1)]) rfl) ?_
  show GG _ _ _ _ _ _ _ T3 (mkF m 34 #[.val (.int p0), .val (.ref bq1), .val (.int (12 : Int32)), .val (.int (2 : Int32)), .val (.ref w1)] [])
  refine own_go (fun _ => XS.goto X3.here hx rfl (pc0 := 34) (pc' := 9) rfl (hb hby d1_34) (by decide) (by decide)) ?_
  show GG _ _ _ _ _ _ _ T3 (mkF m 9 #[.val (.int p0), .val (.ref bq1), .val (.int (12 : Int32)), .val (.int (2 : Int32)), .val (.ref w1)] [])
  refine own_go (fun _ => XS.iloadN X3.here hx rfl (hb hby d1_9) rfl) ?_
  show GG _ _ _ _ _ _ _ T3 (mkF m 10 #[.val (.int p0), .val (.ref bq1), .val (.int (12 : Int32)), .val (.int (2 : Int32)), .val (.ref w1)] [(.int (2 : Int32))])
  refine own_go (fun _ => XS.iloadN X3.here hx rfl (hb hby d1_10) rfl) ?_
  show GG _ _ _ _ _ _ _ T3 (mkF m 11 #[.val (.int p0), .val (.ref bq1), .val (.int (12 : Int32)), .val (.int (2 : Int32)), .val (.ref w1)] [(.int (12 : Int32)), (.int (2 : Int32))])
  have hc11 : (2 : Int32) < (12 : Int32) := by decide
  refine own_go (fun _ => XS.icmpNo X3.here hx rfl (hb hby d1_11) rfl (tlt hc11).2.1) ?_
  show GG _ _ _ _ _ _ _ T3 (mkF m 14 #[.val (.int p0), .val (.ref bq1), .val (.int (12 : Int32)), .val (.int (2 : Int32)), .val (.ref w1)] [])
  refine own_go (fun _ => XS.aloadN X3.here hx rfl (hb hby d1_14) rfl rfl) ?_
  show GG _ _ _ _ _ _ _ T3 (mkF m 15 #[.val (.int p0), .val (.ref bq1), .val (.int (12 : Int32)), .val (.int (2 : Int32)), .val (.ref w1)] [(.ref bq1)])
  refine own_go (fun _ => XS.iloadN X3.here hx rfl (hb hby d1_15) rfl) ?_
  show GG _ _ _ _ _ _ _ T3 (mkF m 16 #[.val (.int p0), .val (.ref bq1), .val (.int (12 : Int32)), .val (.int (2 : Int32)), .val (.ref w1)] [(.int (2 : Int32)), (.ref bq1)])
  refine own_go (fun _ => own_aaload X3 hx hZ e3 Vq1 rfl (j := (2 : Int32)) (v := (.ref w2)) (by decide) rfl (g := (mkF m 16 #[.val (.int p0), .val (.ref bq1), .val (.int (12 : Int32)), .val (.int (2 : Int32)), .val (.ref w1)] [(.int (2 : Int32)), (.ref bq1)])) rfl rfl (hb hby d1_16) _) ?_
  show GG _ _ _ _ _ _ _ T3 (mkF m 17 #[.val (.int p0), .val (.ref bq1), .val (.int (12 : Int32)), .val (.int (2 : Int32)), .val (.ref w1)] [(.ref w2)])
  refine own_go (fun _ => XS.astore X3.here hx rfl (hb hby d1_17) rfl rfl (l' := #[.val (.int p0), .val (.ref bq1), .val (.int (12 : Int32)), .val (.int (2 : Int32)), .val (.ref w2)]) rfl) ?_
  show GG _ _ _ _ _ _ _ T3 (mkF m 19 #[.val (.int p0), .val (.ref bq1), .val (.int (12 : Int32)), .val (.int (2 : Int32)), .val (.ref w2)] [])
  refine own_go (fun _ => XS.aload X3.here hx rfl (hb hby d1_19) rfl rfl) ?_
  show GG _ _ _ _ _ _ _ T3 (mkF m 21 #[.val (.int p0), .val (.ref bq1), .val (.int (12 : Int32)), .val (.int (2 : Int32)), .val (.ref w2)] [(.ref w2)])
  obtain ⟨T4, X4, e4, st4⟩ := getF X3 hx hZ hown (host := "") (Or.inl (hw _ (List.mem_of_getElem? (i := 31) rfl))) Via.refl e3 F_2 (g := (mkF m 21 #[.val (.int p0), .val (.ref bq1), .val (.int (12 : Int32)), .val (.int (2 : Int32)), .val (.ref w2)] [(.ref w2)])) rfl rfl (hb hby d1_21)
  refine own_go (fun _ => st4 _) ?_
  show GG _ _ _ _ _ _ _ T4 (mkF m 24 #[.val (.int p0), .val (.ref bq1), .val (.int (12 : Int32)), .val (.int (2 : Int32)), .val (.ref w2)] [(.int (3 : Int32))])
  refine own_go (fun _ => XS.iloadN X4.here hx rfl (hb hby d1_24) rfl) ?_
  show GG _ _ _ _ _ _ _ T4 (mkF m 25 #[.val (.int p0), .val (.ref bq1), .val (.int (12 : Int32)), .val (.int (2 : Int32)), .val (.ref w2)] [(.int p0), (.int (3 : Int32))])
  have hc25 : ¬ ((3 : Int32) = p0) := by rw [hp]; decide
  refine own_go (fun _ => XS.icmpYes X4.here hx rfl (pc0 := 25) (pc' := 31) rfl (hb hby d1_25) rfl (feq hc25).2 (by decide) (by decide)) ?_
  show GG _ _ _ _ _ _ _ T4 (mkF m 31 #[.val (.int p0), .val (.ref bq1), .val (.int (12 : Int32)), .val (.int (2 : Int32)), .val (.ref w2)] [])
  refine own_go (fun _ => XS.iinc X4.here hx rfl (hb hby d1_31) rfl (l' := #[.val (.int p0), .val (.ref bq1), .val (.int (12 : Int32)), .val (.int (3 : Int32)), .val (.ref w2)]) rfl) ?_
  show GG _ _ _ _ _ _ _ T4 (mkF m 34 #[.val (.int p0), .val (.ref bq1), .val (.int (12 : Int32)), .val (.int (3 : Int32)), .val (.ref w2)] [])
  refine own_go (fun _ => XS.goto X4.here hx rfl (pc0 := 34) (pc' := 9) rfl (hb hby d1_34) (by decide) (by decide)) ?_
  show GG _ _ _ _ _ _ _ T4 (mkF m 9 #[.val (.int p0), .val (.ref bq1), .val (.int (12 : Int32)), .val (.int (3 : Int32)), .val (.ref w2)] [])
  refine own_go (fun _ => XS.iloadN X4.here hx rfl (hb hby d1_9) rfl) ?_
  show GG _ _ _ _ _ _ _ T4 (mkF m 10 #[.val (.int p0), .val (.ref bq1), .val (.int (12 : Int32)), .val (.int (3 : Int32)), .val (.ref w2)] [(.int (3 : Int32))])
  refine own_go (fun _ => XS.iloadN X4.here hx rfl (hb hby d1_10) rfl) ?_
  show GG _ _ _ _ _ _ _ T4 (mkF m 11 #[.val (.int p0), .val (.ref bq1), .val (.int (12 : Int32)), .val (.int (3 : Int32)), .val (.ref w2)] [(.int (12 : Int32)), (.int (3 : Int32))])
  have hc11 : (3 : Int32) < (12 : Int32) := by decide
  refine own_go (fun _ => XS.icmpNo X4.here hx rfl (hb hby d1_11) rfl (tlt hc11).2.1) ?_
  show GG _ _ _ _ _ _ _ T4 (mkF m 14 #[.val (.int p0), .val (.ref bq1), .val (.int (12 : Int32)), .val (.int (3 : Int32)), .val (.ref w2)] [])
  refine own_go (fun _ => XS.aloadN X4.here hx rfl (hb hby d1_14) rfl rfl) ?_
  show GG _ _ _ _ _ _ _ T4 (mkF m 15 #[.val (.int p0), .val (.ref bq1), .val (.int (12 : Int32)), .val (.int (3 : Int32)), .val (.ref w2)] [(.ref bq1)])
  refine own_go (fun _ => XS.iloadN X4.here hx rfl (hb hby d1_15) rfl) ?_
  show GG _ _ _ _ _ _ _ T4 (mkF m 16 #[.val (.int p0), .val (.ref bq1), .val (.int (12 : Int32)), .val (.int (3 : Int32)), .val (.ref w2)] [(.int (3 : Int32)), (.ref bq1)])
  refine own_go (fun _ => own_aaload X4 hx hZ e4 Vq1 rfl (j := (3 : Int32)) (v := (.ref w3)) (by decide) rfl (g := (mkF m 16 #[.val (.int p0), .val (.ref bq1), .val (.int (12 : Int32)), .val (.int (3 : Int32)), .val (.ref w2)] [(.int (3 : Int32)), (.ref bq1)])) rfl rfl (hb hby d1_16) _) ?_
  show GG _ _ _ _ _ _ _ T4 (mkF m 17 #[.val (.int p0), .val (.ref bq1), .val (.int (12 : Int32)), .val (.int (3 : Int32)), .val (.ref w2)] [(.ref w3)])
  refine own_go (fun _ => XS.astore X4.here hx rfl (hb hby d1_17) rfl rfl (l' := #[.val (.int p0), .val (.ref bq1), .val (.int (12 : Int32)), .val (.int (3 : Int32)), .val (.ref w3)]) rfl) ?_
  show GG _ _ _ _ _ _ _ T4 (mkF m 19 #[.val (.int p0), .val (.ref bq1), .val (.int (12 : Int32)), .val (.int (3 : Int32)), .val (.ref w3)] [])
  refine own_go (fun _ => XS.aload X4.here hx rfl (hb hby d1_19) rfl rfl) ?_
  show GG _ _ _ _ _ _ _ T4 (mkF m 21 #[.val (.int p0), .val (.ref bq1), .val (.int (12 : Int32)), .val (.int (3 : Int32)), .val (.ref w3)] [(.ref w3)])
  obtain ⟨T5, X5, e5, st5⟩ := getF X4 hx hZ hown (host := "") (Or.inl (hw _ (List.mem_of_getElem? (i := 31) rfl))) Via.refl e4 F_3 (g := (mkF m 21 #[.val (.int p0), .val (.ref bq1), .val (.int (12 : Int32)), .val (.int (3 : Int32)), .val (.ref w3)] [(.ref w3)])) rfl rfl (hb hby d1_21)
  refine own_go (fun _ => st5 _) ?_
  show GG _ _ _ _ _ _ _ T5 (mkF m 24 #[.val (.int p0), .val (.ref bq1), .val (.int (12 : Int32)), .val (.int (3 : Int32)), .val (.ref w3)] [(.int (4 : Int32))])
  refine own_go (fun _ => XS.iloadN X5.here hx rfl (hb hby d1_24) rfl) ?_
  show GG _ _ _ _ _ _ _ T5 (mkF m 25 #[.val (.int p0), .val (.ref bq1), .val (.int (12 : Int32)), .val (.int (3 : Int32)), .val (.ref w3)] [(.int p0), (.int (4 : Int32))])
  have hc25 : ¬ ((4 : Int32) = p0) := by rw [hp]; decide
  refine own_go (fun _ => XS.icmpYes X5.here hx rfl (pc0 := 25) (pc' := 31) rfl (hb hby d1_25) rfl (feq hc25).2 (by decide) (by decide)) ?_
  show GG _ _ _ _ _ _ _ T5 (mkF m 31 #[.val (.int p0), .val (.ref bq1), .val (.int (12 : Int32)), .val (.int (3 : Int32)), .val (.ref w3)] [])
  refine own_go (fun _ => XS.iinc X5.here hx rfl (hb hby d1_31) rfl (l' := #[.val (.int p0), .val (.ref bq1), .val (.int (12 : Int32)), .val (.int (4 : Int32)), .val (.ref w3)]) rfl) ?_
  show GG _ _ _ _ _ _ _ T5 (mkF m 34 #[.val (.int p0), .val (.ref bq1), .val (.int (12 : Int32)), .val (.int (4 : Int32)), .val (.ref w3)] [])
  refine own_go (fun _ => XS.goto X5.here hx rfl (pc0 := 34) (pc' := 9) rfl (hb hby d1_34) (by decide) (by decide)) ?_
  show GG _ _ _ _ _ _ _ T5 (mkF m 9 #[.val (.int p0), .val (.ref bq1), .val (.int (12 : Int32)), .val (.int (4 : Int32)), .val (.ref w3)] [])
  refine own_go (fun _ => XS.iloadN X5.here hx rfl (hb hby d1_9) rfl) ?_
  show GG _ _ _ _ _ _ _ T5 (mkF m 10 #[.val (.int p0), .val (.ref bq1), .val (.int (12 : Int32)), .val (.int (4 : Int32)), .val (.ref w3)] [(.int (4 : Int32))])
  refine own_go (fun _ => XS.iloadN X5.here hx rfl (hb hby d1_10) rfl) ?_
  show GG _ _ _ _ _ _ _ T5 (mkF m 11 #[.val (.int p0), .val (.ref bq1), .val (.int (12 : Int32)), .val (.int (4 : Int32)), .val (.ref w3)] [(.int (12 : Int32)), (.int (4 : Int32))])
  have hc11 : (4 : Int32) < (12 : Int32) := by decide
  refine own_go (fun _ => XS.icmpNo X5.here hx rfl (hb hby d1_11) rfl (tlt hc11).2.1) ?_
  show GG _ _ _ _ _ _ _ T5 (mkF m 14 #[.val (.int p0), .val (.ref bq1), .val (.int (12 : Int32)), .val (.int (4 : Int32)), .val (.ref w3)] [])
  refine own_go (fun _ => XS.aloadN X5.here hx rfl (hb hby d1_14) rfl rfl) ?_
  show GG _ _ _ _ _ _ _ T5 (mkF m 15 #[.val (.int p0), .val (.ref bq1), .val (.int (12 : Int32)), .val (.int (4 : Int32)), .val (.ref w3)] [(.ref bq1)])
  refine own_go (fun _ => XS.iloadN X5.here hx rfl (hb hby d1_15) rfl) ?_
  show GG _ _ _ _ _ _ _ T5 (mkF m 16 #[.val (.int p0), .val (.ref bq1), .val (.int (12 : Int32)), .val (.int (4 : Int32)), .val (.ref w3)] [(.int (4 : Int32)), (.ref bq1)])
  refine own_go (fun _ => own_aaload X5 hx hZ e5 Vq1 rfl (j := (4 : Int32)) (v := (.ref w4)) (by decide) rfl (g := (mkF m 16 #[.val (.int p0), .val (.ref bq1), .val (.int (12 : Int32)), .val (.int (4 : Int32)), .val (.ref w3)] [(.int (4 : Int32)), (.ref bq1)])) rfl rfl (hb hby d1_16) _) ?_
  show GG _ _ _ _ _ _ _ T5 (mkF m 17 #[.val (.int p0), .val (.ref bq1), .val (.int (12 : Int32)), .val (.int (4 : Int32)), .val (.ref w3)] [(.ref w4)])
  refine own_go (fun _ => XS.astore X5.here hx rfl (hb hby d1_17) rfl rfl (l' := #[.val (.int p0), .val (.ref bq1), .val (.int (12 : Int32)), .val (.int (4 : Int32)), .val (.ref w4)]) rfl) ?_
  show GG _ _ _ _ _ _ _ T5 (mkF m 19 #[.val (.int p0), .val (.ref bq1), .val (.int (12 : Int32)), .val (.int (4 : Int32)), .val (.ref w4)] [])
  refine own_go (fun _ => XS.aload X5.here hx rfl (hb hby d1_19) rfl rfl) ?_
  show GG _ _ _ _ _ _ _ T5 (mkF m 21 #[.val (.int p0), .val (.ref bq1), .val (.int (12 : Int32)), .val (.int (4 : Int32)), .val (.ref w4)] [(.ref w4)])
  obtain ⟨T6, X6, e6, st6⟩ := getF X5 hx hZ hown (host := "") (Or.inl (hw _ (List.mem_of_getElem? (i := 31) rfl))) Via.refl e5 F_4 (g := (mkF m 21 #[.val (.int p0), .val (.ref bq1), .val (.int (12 : Int32)), .val (.int (4 : Int32)), .val (.ref w4)] [(.ref w4)])) rfl rfl (hb hby d1_21)
  refine own_go (fun _ => st6 _) ?_
  show GG _ _ _ _ _ _ _ T6 (mkF m 24 #[.val (.int p0), .val (.ref bq1), .val (.int (12 : Int32)), .val (.int (4 : Int32)), .val (.ref w4)] [(.int (5 : Int32))])
  refine own_go (fun _ => XS.iloadN X6.here hx rfl (hb hby d1_24) rfl) ?_
  show GG _ _ _ _ _ _ _ T6 (mkF m 25 #[.val (.int p0), .val (.ref bq1), .val (.int (12 : Int32)), .val (.int (4 : Int32)), .val (.ref w4)] [(.int p0), (.int (5 : Int32))])
  have hc25 : ¬ ((5 : Int32) = p0) := by rw [hp]; decide
  refine own_go (fun _ => XS.icmpYes X6.here hx rfl (pc0 := 25) (pc' := 31) rfl (hb hby d1_25) rfl (feq hc25).2 (by decide) (by decide)) ?_
  show GG _ _ _ _ _ _ _ T6 (mkF m 31 #[.val (.int p0), .val (.ref bq1), .val (.int (12 : Int32)), .val (.int (4 : Int32)), .val (.ref w4)] [])
  refine own_go (fun _ => XS.iinc X6.here hx rfl (hb hby d1_31) rfl (l' := #[.val (.int p0), .val (.ref bq1), .val (.int (12 : Int32)), .val (.int (5 : Int32)), .val (.ref w4)]) rfl) ?_
  show GG _ _ _ _ _ _ _ T6 (mkF m 34 #[.val (.int p0), .val (.ref bq1), .val (.int (12 : Int32)), .val (.int (5 : Int32)), .val (.ref w4)] [])
  refine own_go (fun _ => XS.goto X6.here hx rfl (pc0 := 34) (pc' := 9) rfl (hb hby d1_34) (by decide) (by decide)) ?_
  show GG _ _ _ _ _ _ _ T6 (mkF m 9 #[.val (.int p0), .val (.ref bq1), .val (.int (12 : Int32)), .val (.int (5 : Int32)), .val (.ref w4)] [])
  refine own_go (fun _ => XS.iloadN X6.here hx rfl (hb hby d1_9) rfl) ?_
  show GG _ _ _ _ _ _ _ T6 (mkF m 10 #[.val (.int p0), .val (.ref bq1), .val (.int (12 : Int32)), .val (.int (5 : Int32)), .val (.ref w4)] [(.int (5 : Int32))])
  refine own_go (fun _ => XS.iloadN X6.here hx rfl (hb hby d1_10) rfl) ?_
  show GG _ _ _ _ _ _ _ T6 (mkF m 11 #[.val (.int p0), .val (.ref bq1), .val (.int (12 : Int32)), .val (.int (5 : Int32)), .val (.ref w4)] [(.int (12 : Int32)), (.int (5 : Int32))])
  have hc11 : (5 : Int32) < (12 : Int32) := by decide
  refine own_go (fun _ => XS.icmpNo X6.here hx rfl (hb hby d1_11) rfl (tlt hc11).2.1) ?_
  show GG _ _ _ _ _ _ _ T6 (mkF m 14 #[.val (.int p0), .val (.ref bq1), .val (.int (12 : Int32)), .val (.int (5 : Int32)), .val (.ref w4)] [])
  refine own_go (fun _ => XS.aloadN X6.here hx rfl (hb hby d1_14) rfl rfl) ?_
  show GG _ _ _ _ _ _ _ T6 (mkF m 15 #[.val (.int p0), .val (.ref bq1), .val (.int (12 : Int32)), .val (.int (5 : Int32)), .val (.ref w4)] [(.ref bq1)])
  refine own_go (fun _ => XS.iloadN X6.here hx rfl (hb hby d1_15) rfl) ?_
  show GG _ _ _ _ _ _ _ T6 (mkF m 16 #[.val (.int p0), .val (.ref bq1), .val (.int (12 : Int32)), .val (.int (5 : Int32)), .val (.ref w4)] [(.int (5 : Int32)), (.ref bq1)])
  refine own_go (fun _ => own_aaload X6 hx hZ e6 Vq1 rfl (j := (5 : Int32)) (v := (.ref w5)) (by decide) rfl (g := (mkF m 16 #[.val (.int p0), .val (.ref bq1), .val (.int (12 : Int32)), .val (.int (5 : Int32)), .val (.ref w4)] [(.int (5 : Int32)), (.ref bq1)])) rfl rfl (hb hby d1_16) _) ?_
  show GG _ _ _ _ _ _ _ T6 (mkF m 17 #[.val (.int p0), .val (.ref bq1), .val (.int (12 : Int32)), .val (.int (5 : Int32)), .val (.ref w4)] [(.ref w5)])
  refine own_go (fun _ => XS.astore X6.here hx rfl (hb hby d1_17) rfl rfl (l' := #[.val (.int p0), .val (.ref bq1), .val (.int (12 : Int32)), .val (.int (5 : Int32)), .val (.ref w5)]) rfl) ?_
  show GG _ _ _ _ _ _ _ T6 (mkF m 19 #[.val (.int p0), .val (.ref bq1), .val (.int (12 : Int32)), .val (.int (5 : Int32)), .val (.ref w5)] [])
  refine own_go (fun _ => XS.aload X6.here hx rfl (hb hby d1_19) rfl rfl) ?_
  show GG _ _ _ _ _ _ _ T6 (mkF m 21 #[.val (.int p0), .val (.ref bq1), .val (.int (12 : Int32)), .val (.int (5 : Int32)), .val (.ref w5)] [(.ref w5)])
  obtain ⟨T7, X7, e7, st7⟩ := getF X6 hx hZ hown (host := "") (Or.inl (hw _ (List.mem_of_getElem? (i := 31) rfl))) Via.refl e6 F_5 (g := (mkF m 21 #[.val (.int p0), .val (.ref bq1), .val (.int (12 : Int32)), .val (.int (5 : Int32)), .val (.ref w5)] [(.ref w5)])) rfl rfl (hb hby d1_21)
  refine own_go (fun _ => st7 _) ?_
  show GG _ _ _ _ _ _ _ T7 (mkF m 24 #[.val (.int p0), .val (.ref bq1), .val (.int (12 : Int32)), .val (.int (5 : Int32)), .val (.ref w5)] [(.int (8 : Int32))])
  refine own_go (fun _ => XS.iloadN X7.here hx rfl (hb hby d1_24) rfl) ?_
  show GG _ _ _ _ _ _ _ T7 (mkF m 25 #[.val (.int p0), .val (.ref bq1), .val (.int (12 : Int32)), .val (.int (5 : Int32)), .val (.ref w5)] [(.int p0), (.int (8 : Int32))])
  have hc25 : ¬ ((8 : Int32) = p0) := by rw [hp]; decide
  refine own_go (fun _ => XS.icmpYes X7.here hx rfl (pc0 := 25) (pc' := 31) rfl (hb hby d1_25) rfl (feq hc25).2 (by decide) (by decide)) ?_
  show GG _ _ _ _ _ _ _ T7 (mkF m 31 #[.val (.int p0), .val (.ref bq1), .val (.int (12 : Int32)), .val (.int (5 : Int32)), .val (.ref w5)] [])
  refine own_go (fun _ => XS.iinc X7.here hx rfl (hb hby d1_31) rfl (l' := #[.val (.int p0), .val (.ref bq1), .val (.int (12 : Int32)), .val (.int (6 : Int32)), .val (.ref w5)]) rfl) ?_
  show GG _ _ _ _ _ _ _ T7 (mkF m 34 #[.val (.int p0), .val (.ref bq1), .val (.int (12 : Int32)), .val (.int (6 : Int32)), .val (.ref w5)] [])
  refine own_go (fun _ => XS.goto X7.here hx rfl (pc0 := 34) (pc' := 9) rfl (hb hby d1_34) (by decide) (by decide)) ?_
  show GG _ _ _ _ _ _ _ T7 (mkF m 9 #[.val (.int p0), .val (.ref bq1), .val (.int (12 : Int32)), .val (.int (6 : Int32)), .val (.ref w5)] [])
  refine own_go (fun _ => XS.iloadN X7.here hx rfl (hb hby d1_9) rfl) ?_
  show GG _ _ _ _ _ _ _ T7 (mkF m 10 #[.val (.int p0), .val (.ref bq1), .val (.int (12 : Int32)), .val (.int (6 : Int32)), .val (.ref w5)] [(.int (6 : Int32))])
  refine own_go (fun _ => XS.iloadN X7.here hx rfl (hb hby d1_10) rfl) ?_
  show GG _ _ _ _ _ _ _ T7 (mkF m 11 #[.val (.int p0), .val (.ref bq1), .val (.int (12 : Int32)), .val (.int (6 : Int32)), .val (.ref w5)] [(.int (12 : Int32)), (.int (6 : Int32))])
  have hc11 : (6 : Int32) < (12 : Int32) := by decide
  refine own_go (fun _ => XS.icmpNo X7.here hx rfl (hb hby d1_11) rfl (tlt hc11).2.1) ?_
  show GG _ _ _ _ _ _ _ T7 (mkF m 14 #[.val (.int p0), .val (.ref bq1), .val (.int (12 : Int32)), .val (.int (6 : Int32)), .val (.ref w5)] [])
  refine own_go (fun _ => XS.aloadN X7.here hx rfl (hb hby d1_14) rfl rfl) ?_
  show GG _ _ _ _ _ _ _ T7 (mkF m 15 #[.val (.int p0), .val (.ref bq1), .val (.int (12 : Int32)), .val (.int (6 : Int32)), .val (.ref w5)] [(.ref bq1)])
  refine own_go (fun _ => XS.iloadN X7.here hx rfl (hb hby d1_15) rfl) ?_
  show GG _ _ _ _ _ _ _ T7 (mkF m 16 #[.val (.int p0), .val (.ref bq1), .val (.int (12 : Int32)), .val (.int (6 : Int32)), .val (.ref w5)] [(.int (6 : Int32)), (.ref bq1)])
  refine own_go (fun _ => own_aaload X7 hx hZ e7 Vq1 rfl (j := (6 : Int32)) (v := (.ref w6)) (by decide) rfl (g := (mkF m 16 #[.val (.int p0), .val (.ref bq1), .val (.int (12 : Int32)), .val (.int (6 : Int32)), .val (.ref w5)] [(.int (6 : Int32)), (.ref bq1)])) rfl rfl (hb hby d1_16) _) ?_
  show GG _ _ _ _ _ _ _ T7 (mkF m 17 #[.val (.int p0), .val (.ref bq1), .val (.int (12 : Int32)), .val (.int (6 : Int32)), .val (.ref w5)] [(.ref w6)])
  refine own_go (fun _ => XS.astore X7.here hx rfl (hb hby d1_17) rfl rfl (l' := #[.val (.int p0), .val (.ref bq1), .val (.int (12 : Int32)), .val (.int (6 : Int32)), .val (.ref w6)]) rfl) ?_
  show GG _ _ _ _ _ _ _ T7 (mkF m 19 #[.val (.int p0), .val (.ref bq1), .val (.int (12 : Int32)), .val (.int (6 : Int32)), .val (.ref w6)] [])
  refine own_go (fun _ => XS.aload X7.here hx rfl (hb hby d1_19) rfl rfl) ?_
  show GG _ _ _ _ _ _ _ T7 (mkF m 21 #[.val (.int p0), .val (.ref bq1), .val (.int (12 : Int32)), .val (.int (6 : Int32)), .val (.ref w6)] [(.ref w6)])
  obtain ⟨T8, X8, e8, st8⟩ := getF X7 hx hZ hown (host := "") (Or.inl (hw _ (List.mem_of_getElem? (i := 31) rfl))) Via.refl e7 F_6 (g := (mkF m 21 #[.val (.int p0), .val (.ref bq1), .val (.int (12 : Int32)), .val (.int (6 : Int32)), .val (.ref w6)] [(.ref w6)])) rfl rfl (hb hby d1_21)
  refine own_go (fun _ => st8 _) ?_
  show GG _ _ _ _ _ _ _ T8 (mkF m 24 #[.val (.int p0), .val (.ref bq1), .val (.int (12 : Int32)), .val (.int (6 : Int32)), .val (.ref w6)] [(.int (9 : Int32))])
  refine own_go (fun _ => XS.iloadN X8.here hx rfl (hb hby d1_24) rfl) ?_
  show GG _ _ _ _ _ _ _ T8 (mkF m 25 #[.val (.int p0), .val (.ref bq1), .val (.int (12 : Int32)), .val (.int (6 : Int32)), .val (.ref w6)] [(.int p0), (.int (9 : Int32))])
  have hc25 : (9 : Int32) = p0 := hp.symm
  refine own_go (fun _ => XS.icmpNo X8.here hx rfl (hb hby d1_25) rfl (teq hc25).2) ?_
  show GG _ _ _ _ _ _ _ T8 (mkF m 28 #[.val (.int p0), .val (.ref bq1), .val (.int (12 : Int32)), .val (.int (6 : Int32)), .val (.ref w6)] [])
  refine own_go (fun _ => XS.aload X8.here hx rfl (hb hby d1_28) rfl rfl) ?_
  show GG _ _ _ _ _ _ _ T8 (mkF m 30 #[.val (.int p0), .val (.ref bq1), .val (.int (12 : Int32)), .val (.int (6 : Int32)), .val (.ref w6)] [(.ref w6)])
  refine own_ret X8 hx hlk (t := (.object "com/example/bellwether/bellwether/protocol/OpCode")) (w := (.ref w6)) Bd.returns rfl (Or.inr (Or.inr (Or.inr (Or.inr ⟨rfl, rfl, rfl⟩)))) (hb hby d1_30) (by decide) (by decide) ?_
  show Q1_6 Z p0 wV w0 w1 w2 w3 w4 w5 w6 w7 w8 w9 w10 w11 h0 n0 (some (.ref w6)) T8.heap _
  rw [e8]
  exact ⟨rfl, N1, K0⟩
def Q1_7 (Z : State) (p0 : Int32) (wV : Addr) (w0 w1 w2 w3 w4 w5 w6 w7 w8 w9 w10 w11 : Addr) (h0 : Heap) (n0 : Nat) (v : Option Value) (h : Heap) (L : List Loc) : Prop := v = some (.ref w7) ∧ Fr n0 L ∧ Keep h0 h []
set_option maxRecDepth 65536 in
set_option maxHeartbeats 40000000 in
theorem rm1_7 (l : Launch) (Z : State) (a0 : Array Value) (hw : ∀ d ∈ tables_1, d.before a0 Z = true) (ws : List Jvm.Cond) (p0 : Int32) (wV : Addr) (w0 w1 w2 w3 w4 w5 w6 w7 w8 w9 w10 w11 : Addr) (h0 : Heap) (n0 : Nat) (Z0 : n0 ≤ h0.size) (hp : p0 = (11 : Int32)) (S_V : Sta Z h0 "com/example/bellwether/bellwether/protocol/OpCode" "$VALUES" "[Lcom/example/bellwether/bellwether/protocol/OpCode;" (.ref wV)) (V_V : Arx Z h0 wV (.object "com/example/bellwether/bellwether/protocol/OpCode") [(.ref w0), (.ref w1), (.ref w2), (.ref w3), (.ref w4), (.ref w5), (.ref w6), (.ref w7), (.ref w8), (.ref w9), (.ref w10), (.ref w11)]) (E_V : Exa Z h0 wV "[Lcom/example/bellwether/bellwether/protocol/OpCode;") (F_0 : Fld Z h0 w0 "com/example/bellwether/bellwether/protocol/OpCode" "code" "I" (.int (1 : Int32))) (F_1 : Fld Z h0 w1 "com/example/bellwether/bellwether/protocol/OpCode" "code" "I" (.int (2 : Int32))) (F_2 : Fld Z h0 w2 "com/example/bellwether/bellwether/protocol/OpCode" "code" "I" (.int (3 : Int32))) (F_3 : Fld Z h0 w3 "com/example/bellwether/bellwether/protocol/OpCode" "code" "I" (.int (4 : Int32))) (F_4 : Fld Z h0 w4 "com/example/bellwether/bellwether/protocol/OpCode" "code" "I" (.int (5 : Int32))) (F_5 : Fld Z h0 w5 "com/example/bellwether/bellwether/protocol/OpCode" "code" "I" (.int (8 : Int32))) (F_6 : Fld Z h0 w6 "com/example/bellwether/bellwether/protocol/OpCode" "code" "I" (.int (9 : Int32))) (F_7 : Fld Z h0 w7 "com/example/bellwether/bellwether/protocol/OpCode" "code" "I" (.int (11 : Int32))) (F_8 : Fld Z h0 w8 "com/example/bellwether/bellwether/protocol/OpCode" "code" "I" (.int (12 : Int32))) (F_9 : Fld Z h0 w9 "com/example/bellwether/bellwether/protocol/OpCode" "code" "I" (.int (13 : Int32))) (F_10 : Fld Z h0 w10 "com/example/bellwether/bellwether/protocol/OpCode" "code" "I" (.int (14 : Int32))) (F_11 : Fld Z h0 w11 "com/example/bellwether/bellwether/protocol/OpCode" "code" "I" (.int (-11 : Int32))) :
    own_CT l Z (⟨"com/example/bellwether/bellwether/protocol/OpCode", "of", "(I)Lcom/example/bellwether/bellwether/protocol/OpCode;"⟩ : MethodName) prog_23_method_5_code 5 (some (.object "com/example/bellwether/bellwether/protocol/OpCode")) ws ({ frames := 2, cells := 1, slots := 12, locals := 25 } : Room) #[(.int p0)] h0 (Q1_7 Z p0 wV w0 w1 w2 w3 w4 w5 w6 w7 w8 w9 w10 w11 h0 n0) := by
  refine MetFree.of_bodySF (plainFor_of_name pn_com_example_bellwether_bellwether_protocol_OpCode) hisR ?_
  intro p e s m args below meth c s₁ Bd hml0 hP hK
  obtain ⟨rfl, hZ, hh⟩ := hP
  have hx := Bd.exec
  have hby := Bd.bytes
  have hml : c.maxLocals = 5 := hml0
  have hown : s.vm.findClass "com/example/bellwether/bellwether/protocol/OpCode" = some m.cls := findClass_of_methodNamed Bd.named
  have hnm := (name_of_methodNamed Bd.named Bd.method).1
  have hlk : meth.locks = false := BodyLoose.notSynchronized Bd
  have X0 : Stand p l e ({ frames := 2, cells := 1, slots := 12, locals := 25 } : Room) s m #[(.int p0)] below meth c s₁ [] 0 0 := Stand.of_body Bd
  have e0 : s₁.heap = h0 := by rw [← hh, Bd.state]; rfl
  have N0 := Fr.nil n0
  show GG p e below s ({ frames := 2, cells := 1, slots := 12, locals := 25 } : Room).cells ({ frames := 2, cells := 1, slots := 12, locals := 25 } : Room).slots (Q1_7 Z p0 wV w0 w1 w2 w3 w4 w5 w6 w7 w8 w9 w10 w11 h0 n0) s₁ (entryFrame m #[(.int p0)] 5)
  refine own_in (ef_1 m p0) ?_
  have K0 := Keep.refl h0 []
  show GG _ _ _ _ _ _ _ s₁ (mkF m 0 #[.val (.int p0), .unset, .unset, .unset, .unset] [])
  refine own_callS X0 hx hZ (y := (⟨"com/example/bellwether/bellwether/protocol/OpCode", "values", "()[Lcom/example/bellwether/bellwether/protocol/OpCode;"⟩ : MethodName)) 0 hown (hw _ (List.mem_of_getElem? (i := 4) rfl)) (hw _ (List.mem_of_getElem? (i := 5) rfl)) (hw _ (List.mem_of_getElem? (i := 2) rfl)) (hw _ (List.mem_of_getElem? (i := 6) rfl)) (by decide) (argsL := []) (rest := []) (rm2 l Z a0 hw [] wV w0 w1 w2 w3 w4 w5 w6 w7 w8 w9 w10 w11 h0 n0 Z0 S_V V_V E_V) (by decide) (by decide) (by decide) (by decide) (g := (mkF m 0 #[.val (.int p0), .unset, .unset, .unset, .unset] [])) rfl (by rw [hml]; rfl) (lenOf pd____Lcom_example_bellwether_bellwether_pr_216 rfl) rfl (by show 2 * 0 + _ ≤ _; exact Nat.le_of_eq rfl) (hb hby d1_0) e0 ?_
  rintro v1 T1 L1 X1 ⟨bq1, rfl, N1q, szq1, Kq1, Vq1⟩
  have N1 := Fr.app N0 N1q
  have K0 := K0.trans Kq1 all0
  have F_0 := F_0.keep Kq1 nin0
  have F_1 := F_1.keep Kq1 nin0
  have F_2 := F_2.keep Kq1 nin0
  have F_3 := F_3.keep Kq1 nin0
  have F_4 := F_4.keep Kq1 nin0
  have F_5 := F_5.keep Kq1 nin0
  have F_6 := F_6.keep Kq1 nin0
  have F_7 := F_7.keep Kq1 nin0
  have F_8 := F_8.keep Kq1 nin0
  have F_9 := F_9.keep Kq1 nin0
  have F_10 := F_10.keep Kq1 nin0
  have F_11 := F_11.keep Kq1 nin0
  show GG _ _ _ _ _ _ _ T1 (mkF m 3 #[.val (.int p0), .unset, .unset, .unset, .unset] [(.ref bq1)])
  refine own_go (fun _ => XS.astoreN X1.here hx rfl (hb hby d1_3) rfl rfl (l' := #[.val (.int p0), .val (.ref bq1), .unset, .unset, .unset]) rfl) ?_
  show GG _ _ _ _ _ _ _ T1 (mkF m 4 #[.val (.int p0), .val (.ref bq1), .unset, .unset, .unset] [])
  refine own_go (fun _ => XS.aloadN X1.here hx rfl (hb hby d1_4) rfl rfl) ?_
  show GG _ _ _ _ _ _ _ T1 (mkF m 5 #[.val (.int p0), .val (.ref bq1), .unset, .unset, .unset] [(.ref bq1)])
  refine own_go (fun _ => own_len X1 hx hZ rfl Vq1 (g := (mkF m 5 #[.val (.int p0), .val (.ref bq1), .unset, .unset, .unset] [(.ref bq1)])) rfl rfl (hb hby d1_5) _) ?_
  show GG _ _ _ _ _ _ _ T1 (mkF m 6 #[.val (.int p0), .val (.ref bq1), .unset, .unset, .unset] [(.int (12 : Int32))])
  refine own_go (fun _ => XS.istoreN X1.here hx rfl (hb hby d1_6) rfl (l' := #[.val (.int p0), .val (.ref bq1), .val (.int (12 : Int32)), .unset, .unset]) rfl) ?_
  show GG _ _ _ _ _ _ _ T1 (mkF m 7 #[.val (.int p0), .val (.ref bq1), .val (.int (12 : Int32)), .unset, .unset] [])
  refine own_go (fun _ => XS.iconst X1.here hx rfl (hb hby d1_7)) ?_
  show GG _ _ _ _ _ _ _ T1 (mkF m 8 #[.val (.int p0), .val (.ref bq1), .val (.int (12 : Int32)), .unset, .unset] [(.int (0 : Int32))])
  refine own_go (fun _ => XS.istoreN X1.here hx rfl (hb hby d1_8) rfl (l' := #[.val (.int p0), .val (.ref bq1), .val (.int (12 : Int32)), .val (.int (0 : Int32)), .unset]) rfl) ?_
  show GG _ _ _ _ _ _ _ T1 (mkF m 9 #[.val (.int p0), .val (.ref bq1), .val (.int (12 : Int32)), .val (.int (0 : Int32)), .unset] [])
  refine own_go (fun _ => XS.iloadN X1.here hx rfl (hb hby d1_9) rfl) ?_
  show GG _ _ _ _ _ _ _ T1 (mkF m 10 #[.val (.int p0), .val (.ref bq1), .val (.int (12 : Int32)), .val (.int (0 : Int32)), .unset] [(.int (0 : Int32))])
  refine own_go (fun _ => XS.iloadN X1.here hx rfl (hb hby d1_10) rfl) ?_
  show GG _ _ _ _ _ _ _ T1 (mkF m 11 #[.val (.int p0), .val (.ref bq1), .val (.int (12 : Int32)), .val (.int (0 : Int32)), .unset] [(.int (12 : Int32)), (.int (0 : Int32))])
  have hc11 : (0 : Int32) < (12 : Int32) := by decide
  refine own_go (fun _ => XS.icmpNo X1.here hx rfl (hb hby d1_11) rfl (tlt hc11).2.1) ?_
  show GG _ _ _ _ _ _ _ T1 (mkF m 14 #[.val (.int p0), .val (.ref bq1), .val (.int (12 : Int32)), .val (.int (0 : Int32)), .unset] [])
  refine own_go (fun _ => XS.aloadN X1.here hx rfl (hb hby d1_14) rfl rfl) ?_
  show GG _ _ _ _ _ _ _ T1 (mkF m 15 #[.val (.int p0), .val (.ref bq1), .val (.int (12 : Int32)), .val (.int (0 : Int32)), .unset] [(.ref bq1)])
  refine own_go (fun _ => XS.iloadN X1.here hx rfl (hb hby d1_15) rfl) ?_
  show GG _ _ _ _ _ _ _ T1 (mkF m 16 #[.val (.int p0), .val (.ref bq1), .val (.int (12 : Int32)), .val (.int (0 : Int32)), .unset] [(.int (0 : Int32)), (.ref bq1)])
  refine own_go (fun _ => own_aaload X1 hx hZ rfl Vq1 rfl (j := (0 : Int32)) (v := (.ref w0)) (by decide) rfl (g := (mkF m 16 #[.val (.int p0), .val (.ref bq1), .val (.int (12 : Int32)), .val (.int (0 : Int32)), .unset] [(.int (0 : Int32)), (.ref bq1)])) rfl rfl (hb hby d1_16) _) ?_
  show GG _ _ _ _ _ _ _ T1 (mkF m 17 #[.val (.int p0), .val (.ref bq1), .val (.int (12 : Int32)), .val (.int (0 : Int32)), .unset] [(.ref w0)])
  refine own_go (fun _ => XS.astore X1.here hx rfl (hb hby d1_17) rfl rfl (l' := #[.val (.int p0), .val (.ref bq1), .val (.int (12 : Int32)), .val (.int (0 : Int32)), .val (.ref w0)]) rfl) ?_
  show GG _ _ _ _ _ _ _ T1 (mkF m 19 #[.val (.int p0), .val (.ref bq1), .val (.int (12 : Int32)), .val (.int (0 : Int32)), .val (.ref w0)] [])
  refine own_go (fun _ => XS.aload X1.here hx rfl (hb hby d1_19) rfl rfl) ?_
  show GG _ _ _ _ _ _ _ T1 (mkF m 21 #[.val (.int p0), .val (.ref bq1), .val (.int (12 : Int32)), .val (.int (0 : Int32)), .val (.ref w0)] [(.ref w0)])
  obtain ⟨T2, X2, e2, st2⟩ := getF X1 hx hZ hown (host := "") (Or.inl (hw _ (List.mem_of_getElem? (i := 31) rfl))) Via.refl rfl F_0 (g := (mkF m 21 #[.val (.int p0), .val (.ref bq1), .val (.int (12 : Int32)), .val (.int (0 : Int32)), .val (.ref w0)] [(.ref w0)])) rfl rfl (hb hby d1_21)
  refine own_go (fun _ => st2 _) ?_
  show GG _ _ _ _ _ _ _ T2 (mkF m 24 #[.val (.int p0), .val (.ref bq1), .val (.int (12 : Int32)), .val (.int (0 : Int32)), .val (.ref w0)] [(.int (1 : Int32))])
  refine own_go (fun _ => XS.iloadN X2.here hx rfl (hb hby d1_24) rfl) ?_
  show GG _ _ _ _ _ _ _ T2 (mkF m 25 #[.val (.int p0), .val (.ref bq1), .val (.int (12 : Int32)), .val (.int (0 : Int32)), .val (.ref w0)] [(.int p0), (.int (1 : Int32))])
  have hc25 : ¬ ((1 : Int32) = p0) := by rw [hp]; decide
  refine own_go (fun _ => XS.icmpYes X2.here hx rfl (pc0 := 25) (pc' := 31) rfl (hb hby d1_25) rfl (feq hc25).2 (by decide) (by decide)) ?_
  show GG _ _ _ _ _ _ _ T2 (mkF m 31 #[.val (.int p0), .val (.ref bq1), .val (.int (12 : Int32)), .val (.int (0 : Int32)), .val (.ref w0)] [])
  refine own_go (fun _ => XS.iinc X2.here hx rfl (hb hby d1_31) rfl (l' := #[.val (.int p0), .val (.ref bq1), .val (.int (12 : Int32)), .val (.int (1 : Int32)), .val (.ref w0)]) rfl) ?_
  show GG _ _ _ _ _ _ _ T2 (mkF m 34 #[.val (.int p0), .val (.ref bq1), .val (.int (12 : Int32)), .val (.int (1 : Int32)), .val (.ref w0)] [])
  refine own_go (fun _ => XS.goto X2.here hx rfl (pc0 := 34) (pc' := 9) rfl (hb hby d1_34) (by decide) (by decide)) ?_
  show GG _ _ _ _ _ _ _ T2 (mkF m 9 #[.val (.int p0), .val (.ref bq1), .val (.int (12 : Int32)), .val (.int (1 : Int32)), .val (.ref w0)] [])
  refine own_go (fun _ => XS.iloadN X2.here hx rfl (hb hby d1_9) rfl) ?_
  show GG _ _ _ _ _ _ _ T2 (mkF m 10 #[.val (.int p0), .val (.ref bq1), .val (.int (12 : Int32)), .val (.int (1 : Int32)), .val (.ref w0)] [(.int (1 : Int32))])
  refine own_go (fun _ => XS.iloadN X2.here hx rfl (hb hby d1_10) rfl) ?_
  show GG _ _ _ _ _ _ _ T2 (mkF m 11 #[.val (.int p0), .val (.ref bq1), .val (.int (12 : Int32)), .val (.int (1 : Int32)), .val (.ref w0)] [(.int (12 : Int32)), (.int (1 : Int32))])
  have hc11 : (1 : Int32) < (12 : Int32) := by decide
  refine own_go (fun _ => XS.icmpNo X2.here hx rfl (hb hby d1_11) rfl (tlt hc11).2.1) ?_
  show GG _ _ _ _ _ _ _ T2 (mkF m 14 #[.val (.int p0), .val (.ref bq1), .val (.int (12 : Int32)), .val (.int (1 : Int32)), .val (.ref w0)] [])
  refine own_go (fun _ => XS.aloadN X2.here hx rfl (hb hby d1_14) rfl rfl) ?_
  show GG _ _ _ _ _ _ _ T2 (mkF m 15 #[.val (.int p0), .val (.ref bq1), .val (.int (12 : Int32)), .val (.int (1 : Int32)), .val (.ref w0)] [(.ref bq1)])
  refine own_go (fun _ => XS.iloadN X2.here hx rfl (hb hby d1_15) rfl) ?_
  show GG _ _ _ _ _ _ _ T2 (mkF m 16 #[.val (.int p0), .val (.ref bq1), .val (.int (12 : Int32)), .val (.int (1 : Int32)), .val (.ref w0)] [(.int (1 : Int32)), (.ref bq1)])
  refine own_go (fun _ => own_aaload X2 hx hZ e2 Vq1 rfl (j := (1 : Int32)) (v := (.ref w1)) (by decide) rfl (g := (mkF m 16 #[.val (.int p0), .val (.ref bq1), .val (.int (12 : Int32)), .val (.int (1 : Int32)), .val (.ref w0)] [(.int (1 : Int32)), (.ref bq1)])) rfl rfl (hb hby d1_16) _) ?_
  show GG _ _ _ _ _ _ _ T2 (mkF m 17 #[.val (.int p0), .val (.ref bq1), .val (.int (12 : Int32)), .val (.int (1 : Int32)), .val (.ref w0)] [(.ref w1)])
  refine own_go (fun _ => XS.astore X2.here hx rfl (hb hby d1_17) rfl rfl (l' := #[.val (.int p0), .val (.ref bq1), .val (.int (12 : Int32)), .val (.int (1 : Int32)), .val (.ref w1)]) rfl) ?_
  show GG _ _ _ _ _ _ _ T2 (mkF m 19 #[.val (.int p0), .val (.ref bq1), .val (.int (12 : Int32)), .val (.int (1 : Int32)), .val (.ref w1)] [])
  refine own_go (fun _ => XS.aload X2.here hx rfl (hb hby d1_19) rfl rfl) ?_
  show GG _ _ _ _ _ _ _ T2 (mkF m 21 #[.val (.int p0), .val (.ref bq1), .val (.int (12 : Int32)), .val (.int (1 : Int32)), .val (.ref w1)] [(.ref w1)])
  obtain ⟨T3, X3, e3, st3⟩ := getF X2 hx hZ hown (host := "") (Or.inl (hw _ (List.mem_of_getElem? (i := 31) rfl))) Via.refl e2 F_1 (g := (mkF m 21 #[.val (.int p0), .val (.ref bq1), .val (.int (12 : Int32)), .val (.int (1 : Int32)), .val (.ref w1)] [(.ref w1)])) rfl rfl (hb hby d1_21)
  refine own_go (fun _ => st3 _) ?_
  show GG _ _ _ _ _ _ _ T3 (mkF m 24 #[.val (.int p0), .val (.ref bq1), .val (.int (12 : Int32)), .val (.int (1 : Int32)), .val (.ref w1)] [(.int (2 : Int32))])
  refine own_go (fun _ => XS.iloadN X3.here hx rfl (hb hby d1_24) rfl) ?_
  show GG _ _ _ _ _ _ _ T3 (mkF m 25 #[.val (.int p0), .val (.ref bq1), .val (.int (12 : Int32)), .val (.int (1 : Int32)), .val (.ref w1)] [(.int p0), (.int (2 : Int32))])
  have hc25 : ¬ ((2 : Int32) = p0) := by rw [hp]; decide
  refine own_go (fun _ => XS.icmpYes X3.here hx rfl (pc0 := 25) (pc' := 31) rfl (hb hby d1_25) rfl (feq hc25).2 (by decide) (by decide)) ?_
  show GG _ _ _ _ _ _ _ T3 (mkF m 31 #[.val (.int p0), .val (.ref bq1), .val (.int (12 : Int32)), .val (.int (1 : Int32)), .val (.ref w1)] [])
  refine own_go (fun _ => XS.iinc X3.here hx rfl (hb hby d1_31) rfl (l' := #[.val (.int p0), .val (.ref bq1), .val (.int (12 : Int32)), .val (.int (2 : Int32)), .val (.ref w1)]) rfl) ?_
  show GG _ _ _ _ _ _ _ T3 (mkF m 34 #[.val (.int p0), .val (.ref bq1), .val (.int (12 : Int32)), .val (.int (2 : Int32)), .val (.ref w1)] [])
  refine own_go (fun _ => XS.goto X3.here hx rfl (pc0 := 34) (pc' := 9) rfl (hb hby d1_34) (by decide) (by decide)) ?_
  show GG _ _ _ _ _ _ _ T3 (mkF m 9 #[.val (.int p0), .val (.ref bq1), .val (.int (12 : Int32)), .val (.int (2 : Int32)), .val (.ref w1)] [])
  refine own_go (fun _ => XS.iloadN X3.here hx rfl (hb hby d1_9) rfl) ?_
  show GG _ _ _ _ _ _ _ T3 (mkF m 10 #[.val (.int p0), .val (.ref bq1), .val (.int (12 : Int32)), .val (.int (2 : Int32)), .val (.ref w1)] [(.int (2 : Int32))])
  refine own_go (fun _ => XS.iloadN X3.here hx rfl (hb hby d1_10) rfl) ?_
  show GG _ _ _ _ _ _ _ T3 (mkF m 11 #[.val (.int p0), .val (.ref bq1), .val (.int (12 : Int32)), .val (.int (2 : Int32)), .val (.ref w1)] [(.int (12 : Int32)), (.int (2 : Int32))])
  have hc11 : (2 : Int32) < (12 : Int32) := by decide
  refine own_go (fun _ => XS.icmpNo X3.here hx rfl (hb hby d1_11) rfl (tlt hc11).2.1) ?_
  show GG _ _ _ _ _ _ _ T3 (mkF m 14 #[.val (.int p0), .val (.ref bq1), .val (.int (12 : Int32)), .val (.int (2 : Int32)), .val (.ref w1)] [])
  refine own_go (fun _ => XS.aloadN X3.here hx rfl (hb hby d1_14) rfl rfl) ?_
  show GG _ _ _ _ _ _ _ T3 (mkF m 15 #[.val (.int p0), .val (.ref bq1), .val (.int (12 : Int32)), .val (.int (2 : Int32)), .val (.ref w1)] [(.ref bq1)])
  refine own_go (fun _ => XS.iloadN X3.here hx rfl (hb hby d1_15) rfl) ?_
  show GG _ _ _ _ _ _ _ T3 (mkF m 16 #[.val (.int p0), .val (.ref bq1), .val (.int (12 : Int32)), .val (.int (2 : Int32)), .val (.ref w1)] [(.int (2 : Int32)), (.ref bq1)])
  refine own_go (fun _ => own_aaload X3 hx hZ e3 Vq1 rfl (j := (2 : Int32)) (v := (.ref w2)) (by decide) rfl (g := (mkF m 16 #[.val (.int p0), .val (.ref bq1), .val (.int (12 : Int32)), .val (.int (2 : Int32)), .val (.ref w1)] [(.int (2 : Int32)), (.ref bq1)])) rfl rfl (hb hby d1_16) _) ?_
  show GG _ _ _ _ _ _ _ T3 (mkF m 17 #[.val (.int p0), .val (.ref bq1), .val (.int (12 : Int32)), .val (.int (2 : Int32)), .val (.ref w1)] [(.ref w2)])
  refine own_go (fun _ => XS.astore X3.here hx rfl (hb hby d1_17) rfl rfl (l' := #[.val (.int p0), .val (.ref bq1), .val (.int (12 : Int32)), .val (.int (2 : Int32)), .val (.ref w2)]) rfl) ?_
  show GG _ _ _ _ _ _ _ T3 (mkF m 19 #[.val (.int p0), .val (.ref bq1), .val (.int (12 : Int32)), .val (.int (2 : Int32)), .val (.ref w2)] [])
  refine own_go (fun _ => XS.aload X3.here hx rfl (hb hby d1_19) rfl rfl) ?_
  show GG _ _ _ _ _ _ _ T3 (mkF m 21 #[.val (.int p0), .val (.ref bq1), .val (.int (12 : Int32)), .val (.int (2 : Int32)), .val (.ref w2)] [(.ref w2)])
  obtain ⟨T4, X4, e4, st4⟩ := getF X3 hx hZ hown (host := "") (Or.inl (hw _ (List.mem_of_getElem? (i := 31) rfl))) Via.refl e3 F_2 (g := (mkF m 21 #[.val (.int p0), .val (.ref bq1), .val (.int (12 : Int32)), .val (.int (2 : Int32)), .val (.ref w2)] [(.ref w2)])) rfl rfl (hb hby d1_21)
  refine own_go (fun _ => st4 _) ?_
  show GG _ _ _ _ _ _ _ T4 (mkF m 24 #[.val (.int p0), .val (.ref bq1), .val (.int (12 : Int32)), .val (.int (2 : Int32)), .val (.ref w2)] [(.int (3 : Int32))])
  refine own_go (fun _ => XS.iloadN X4.here hx rfl (hb hby d1_24) rfl) ?_
  show GG _ _ _ _ _ _ _ T4 (mkF m 25 #[.val (.int p0), .val (.ref bq1), .val (.int (12 : Int32)), .val (.int (2 : Int32)), .val (.ref w2)] [(.int p0), (.int (3 : Int32))])
  have hc25 : ¬ ((3 : Int32) = p0) := by rw [hp]; decide
  refine own_go (fun _ => XS.icmpYes X4.here hx rfl (pc0 := 25) (pc' := 31) rfl (hb hby d1_25) rfl (feq hc25).2 (by decide) (by decide)) ?_
  show GG _ _ _ _ _ _ _ T4 (mkF m 31 #[.val (.int p0), .val (.ref bq1), .val (.int (12 : Int32)), .val (.int (2 : Int32)), .val (.ref w2)] [])
  refine own_go (fun _ => XS.iinc X4.here hx rfl (hb hby d1_31) rfl (l' := #[.val (.int p0), .val (.ref bq1), .val (.int (12 : Int32)), .val (.int (3 : Int32)), .val (.ref w2)]) rfl) ?_
  show GG _ _ _ _ _ _ _ T4 (mkF m 34 #[.val (.int p0), .val (.ref bq1), .val (.int (12 : Int32)), .val (.int (3 : Int32)), .val (.ref w2)] [])
  refine own_go (fun _ => XS.goto X4.here hx rfl (pc0 := 34) (pc' := 9) rfl (hb hby d1_34) (by decide) (by decide)) ?_
  show GG _ _ _ _ _ _ _ T4 (mkF m 9 #[.val (.int p0), .val (.ref bq1), .val (.int (12 : Int32)), .val (.int (3 : Int32)), .val (.ref w2)] [])
  refine own_go (fun _ => XS.iloadN X4.here hx rfl (hb hby d1_9) rfl) ?_
  show GG _ _ _ _ _ _ _ T4 (mkF m 10 #[.val (.int p0), .val (.ref bq1), .val (.int (12 : Int32)), .val (.int (3 : Int32)), .val (.ref w2)] [(.int (3 : Int32))])
  refine own_go (fun _ => XS.iloadN X4.here hx rfl (hb hby d1_10) rfl) ?_
  show GG _ _ _ _ _ _ _ T4 (mkF m 11 #[.val (.int p0), .val (.ref bq1), .val (.int (12 : Int32)), .val (.int (3 : Int32)), .val (.ref w2)] [(.int (12 : Int32)), (.int (3 : Int32))])
  have hc11 : (3 : Int32) < (12 : Int32) := by decide
  refine own_go (fun _ => XS.icmpNo X4.here hx rfl (hb hby d1_11) rfl (tlt hc11).2.1) ?_
  show GG _ _ _ _ _ _ _ T4 (mkF m 14 #[.val (.int p0), .val (.ref bq1), .val (.int (12 : Int32)), .val (.int (3 : Int32)), .val (.ref w2)] [])
  refine own_go (fun _ => XS.aloadN X4.here hx rfl (hb hby d1_14) rfl rfl) ?_
  show GG _ _ _ _ _ _ _ T4 (mkF m 15 #[.val (.int p0), .val (.ref bq1), .val (.int (12 : Int32)), .val (.int (3 : Int32)), .val (.ref w2)] [(.ref bq1)])
  refine own_go (fun _ => XS.iloadN X4.here hx rfl (hb hby d1_15) rfl) ?_
  show GG _ _ _ _ _ _ _ T4 (mkF m 16 #[.val (.int p0), .val (.ref bq1), .val (.int (12 : Int32)), .val (.int (3 : Int32)), .val (.ref w2)] [(.int (3 : Int32)), (.ref bq1)])
  refine own_go (fun _ => own_aaload X4 hx hZ e4 Vq1 rfl (j := (3 : Int32)) (v := (.ref w3)) (by decide) rfl (g := (mkF m 16 #[.val (.int p0), .val (.ref bq1), .val (.int (12 : Int32)), .val (.int (3 : Int32)), .val (.ref w2)] [(.int (3 : Int32)), (.ref bq1)])) rfl rfl (hb hby d1_16) _) ?_
  show GG _ _ _ _ _ _ _ T4 (mkF m 17 #[.val (.int p0), .val (.ref bq1), .val (.int (12 : Int32)), .val (.int (3 : Int32)), .val (.ref w2)] [(.ref w3)])
  refine own_go (fun _ => XS.astore X4.here hx rfl (hb hby d1_17) rfl rfl (l' := #[.val (.int p0), .val (.ref bq1), .val (.int (12 : Int32)), .val (.int (3 : Int32)), .val (.ref w3)]) rfl) ?_
  show GG _ _ _ _ _ _ _ T4 (mkF m 19 #[.val (.int p0), .val (.ref bq1), .val (.int (12 : Int32)), .val (.int (3 : Int32)), .val (.ref w3)] [])
  refine own_go (fun _ => XS.aload X4.here hx rfl (hb hby d1_19) rfl rfl) ?_
  show GG _ _ _ _ _ _ _ T4 (mkF m 21 #[.val (.int p0), .val (.ref bq1), .val (.int (12 : Int32)), .val (.int (3 : Int32)), .val (.ref w3)] [(.ref w3)])
  obtain ⟨T5, X5, e5, st5⟩ := getF X4 hx hZ hown (host := "") (Or.inl (hw _ (List.mem_of_getElem? (i := 31) rfl))) Via.refl e4 F_3 (g := (mkF m 21 #[.val (.int p0), .val (.ref bq1), .val (.int (12 : Int32)), .val (.int (3 : Int32)), .val (.ref w3)] [(.ref w3)])) rfl rfl (hb hby d1_21)
  refine own_go (fun _ => st5 _) ?_
  show GG _ _ _ _ _ _ _ T5 (mkF m 24 #[.val (.int p0), .val (.ref bq1), .val (.int (12 : Int32)), .val (.int (3 : Int32)), .val (.ref w3)] [(.int (4 : Int32))])
  refine own_go (fun _ => XS.iloadN X5.here hx rfl (hb hby d1_24) rfl) ?_
  show GG _ _ _ _ _ _ _ T5 (mkF m 25 #[.val (.int p0), .val (.ref bq1), .val (.int (12 : Int32)), .val (.int (3 : Int32)), .val (.ref w3)] [(.int p0), (.int (4 : Int32))])
  have hc25 : ¬ ((4 : Int32) = p0) := by rw [hp]; decide
  refine own_go (fun _ => XS.icmpYes X5.here hx rfl (pc0 := 25) (pc' := 31) rfl (hb hby d1_25) rfl (feq hc25).2 (by decide) (by decide)) ?_
  show GG _ _ _ _ _ _ _ T5 (mkF m 31 #[.val (.int p0), .val (.ref bq1), .val (.int (12 : Int32)), .val (.int (3 : Int32)), .val (.ref w3)] [])
  refine own_go (fun _ => XS.iinc X5.here hx rfl (hb hby d1_31) rfl (l' := #[.val (.int p0), .val (.ref bq1), .val (.int (12 : Int32)), .val (.int (4 : Int32)), .val (.ref w3)]) rfl) ?_
  show GG _ _ _ _ _ _ _ T5 (mkF m 34 #[.val (.int p0), .val (.ref bq1), .val (.int (12 : Int32)), .val (.int (4 : Int32)), .val (.ref w3)] [])
  refine own_go (fun _ => XS.goto X5.here hx rfl (pc0 := 34) (pc' := 9) rfl (hb hby d1_34) (by decide) (by decide)) ?_
  show GG _ _ _ _ _ _ _ T5 (mkF m 9 #[.val (.int p0), .val (.ref bq1), .val (.int (12 : Int32)), .val (.int (4 : Int32)), .val (.ref w3)] [])
  refine own_go (fun _ => XS.iloadN X5.here hx rfl (hb hby d1_9) rfl) ?_
  show GG _ _ _ _ _ _ _ T5 (mkF m 10 #[.val (.int p0), .val (.ref bq1), .val (.int (12 : Int32)), .val (.int (4 : Int32)), .val (.ref w3)] [(.int (4 : Int32))])
  refine own_go (fun _ => XS.iloadN X5.here hx rfl (hb hby d1_10) rfl) ?_
  show GG _ _ _ _ _ _ _ T5 (mkF m 11 #[.val (.int p0), .val (.ref bq1), .val (.int (12 : Int32)), .val (.int (4 : Int32)), .val (.ref w3)] [(.int (12 : Int32)), (.int (4 : Int32))])
  have hc11 : (4 : Int32) < (12 : Int32) := by decide
  refine own_go (fun _ => XS.icmpNo X5.here hx rfl (hb hby d1_11) rfl (tlt hc11).2.1) ?_
  show GG _ _ _ _ _ _ _ T5 (mkF m 14 #[.val (.int p0), .val (.ref bq1), .val (.int (12 : Int32)), .val (.int (4 : Int32)), .val (.ref w3)] [])
  refine own_go (fun _ => XS.aloadN X5.here hx rfl (hb hby d1_14) rfl rfl) ?_
  show GG _ _ _ _ _ _ _ T5 (mkF m 15 #[.val (.int p0), .val (.ref bq1), .val (.int (12 : Int32)), .val (.int (4 : Int32)), .val (.ref w3)] [(.ref bq1)])
  refine own_go (fun _ => XS.iloadN X5.here hx rfl (hb hby d1_15) rfl) ?_
  show GG _ _ _ _ _ _ _ T5 (mkF m 16 #[.val (.int p0), .val (.ref bq1), .val (.int (12 : Int32)), .val (.int (4 : Int32)), .val (.ref w3)] [(.int (4 : Int32)), (.ref bq1)])
  refine own_go (fun _ => own_aaload X5 hx hZ e5 Vq1 rfl (j := (4 : Int32)) (v := (.ref w4)) (by decide) rfl (g := (mkF m 16 #[.val (.int p0), .val (.ref bq1), .val (.int (12 : Int32)), .val (.int (4 : Int32)), .val (.ref w3)] [(.int (4 : Int32)), (.ref bq1)])) rfl rfl (hb hby d1_16) _) ?_
  show GG _ _ _ _ _ _ _ T5 (mkF m 17 #[.val (.int p0), .val (.ref bq1), .val (.int (12 : Int32)), .val (.int (4 : Int32)), .val (.ref w3)] [(.ref w4)])
  refine own_go (fun _ => XS.astore X5.here hx rfl (hb hby d1_17) rfl rfl (l' := #[.val (.int p0), .val (.ref bq1), .val (.int (12 : Int32)), .val (.int (4 : Int32)), .val (.ref w4)]) rfl) ?_
  show GG _ _ _ _ _ _ _ T5 (mkF m 19 #[.val (.int p0), .val (.ref bq1), .val (.int (12 : Int32)), .val (.int (4 : Int32)), .val (.ref w4)] [])
  refine own_go (fun _ => XS.aload X5.here hx rfl (hb hby d1_19) rfl rfl) ?_
  show GG _ _ _ _ _ _ _ T5 (mkF m 21 #[.val (.int p0), .val (.ref bq1), .val (.int (12 : Int32)), .val (.int (4 : Int32)), .val (.ref w4)] [(.ref w4)])
  obtain ⟨T6, X6, e6, st6⟩ := getF X5 hx hZ hown (host := "") (Or.inl (hw _ (List.mem_of_getElem? (i := 31) rfl))) Via.refl e5 F_4 (g := (mkF m 21 #[.val (.int p0), .val (.ref bq1), .val (.int (12 : Int32)), .val (.int (4 : Int32)), .val (.ref w4)] [(.ref w4)])) rfl rfl (hb hby d1_21)
  refine own_go (fun _ => st6 _) ?_
  show GG _ _ _ _ _ _ _ T6 (mkF m 24 #[.val (.int p0), .val (.ref bq1), .val (.int (12 : Int32)), .val (.int (4 : Int32)), .val (.ref w4)] [(.int (5 : Int32))])
  refine own_go (fun _ => XS.iloadN X6.here hx rfl (hb hby d1_24) rfl) ?_
  show GG _ _ _ _ _ _ _ T6 (mkF m 25 #[.val (.int p0), .val (.ref bq1), .val (.int (12 : Int32)), .val (.int (4 : Int32)), .val (.ref w4)] [(.int p0), (.int (5 : Int32))])
  have hc25 : ¬ ((5 : Int32) = p0) := by rw [hp]; decide
  refine own_go (fun _ => XS.icmpYes X6.here hx rfl (pc0 := 25) (pc' := 31) rfl (hb hby d1_25) rfl (feq hc25).2 (by decide) (by decide)) ?_
  show GG _ _ _ _ _ _ _ T6 (mkF m 31 #[.val (.int p0), .val (.ref bq1), .val (.int (12 : Int32)), .val (.int (4 : Int32)), .val (.ref w4)] [])
  refine own_go (fun _ => XS.iinc X6.here hx rfl (hb hby d1_31) rfl (l' := #[.val (.int p0), .val (.ref bq1), .val (.int (12 : Int32)), .val (.int (5 : Int32)), .val (.ref w4)]) rfl) ?_
  show GG _ _ _ _ _ _ _ T6 (mkF m 34 #[.val (.int p0), .val (.ref bq1), .val (.int (12 : Int32)), .val (.int (5 : Int32)), .val (.ref w4)] [])
  refine own_go (fun _ => XS.goto X6.here hx rfl (pc0 := 34) (pc' := 9) rfl (hb hby d1_34) (by decide) (by decide)) ?_
  show GG _ _ _ _ _ _ _ T6 (mkF m 9 #[.val (.int p0), .val (.ref bq1), .val (.int (12 : Int32)), .val (.int (5 : Int32)), .val (.ref w4)] [])
  refine own_go (fun _ => XS.iloadN X6.here hx rfl (hb hby d1_9) rfl) ?_
  show GG _ _ _ _ _ _ _ T6 (mkF m 10 #[.val (.int p0), .val (.ref bq1), .val (.int (12 : Int32)), .val (.int (5 : Int32)), .val (.ref w4)] [(.int (5 : Int32))])
  refine own_go (fun _ => XS.iloadN X6.here hx rfl (hb hby d1_10) rfl) ?_
  show GG _ _ _ _ _ _ _ T6 (mkF m 11 #[.val (.int p0), .val (.ref bq1), .val (.int (12 : Int32)), .val (.int (5 : Int32)), .val (.ref w4)] [(.int (12 : Int32)), (.int (5 : Int32))])
  have hc11 : (5 : Int32) < (12 : Int32) := by decide
  refine own_go (fun _ => XS.icmpNo X6.here hx rfl (hb hby d1_11) rfl (tlt hc11).2.1) ?_
  show GG _ _ _ _ _ _ _ T6 (mkF m 14 #[.val (.int p0), .val (.ref bq1), .val (.int (12 : Int32)), .val (.int (5 : Int32)), .val (.ref w4)] [])
  refine own_go (fun _ => XS.aloadN X6.here hx rfl (hb hby d1_14) rfl rfl) ?_
  show GG _ _ _ _ _ _ _ T6 (mkF m 15 #[.val (.int p0), .val (.ref bq1), .val (.int (12 : Int32)), .val (.int (5 : Int32)), .val (.ref w4)] [(.ref bq1)])
  refine own_go (fun _ => XS.iloadN X6.here hx rfl (hb hby d1_15) rfl) ?_
  show GG _ _ _ _ _ _ _ T6 (mkF m 16 #[.val (.int p0), .val (.ref bq1), .val (.int (12 : Int32)), .val (.int (5 : Int32)), .val (.ref w4)] [(.int (5 : Int32)), (.ref bq1)])
  refine own_go (fun _ => own_aaload X6 hx hZ e6 Vq1 rfl (j := (5 : Int32)) (v := (.ref w5)) (by decide) rfl (g := (mkF m 16 #[.val (.int p0), .val (.ref bq1), .val (.int (12 : Int32)), .val (.int (5 : Int32)), .val (.ref w4)] [(.int (5 : Int32)), (.ref bq1)])) rfl rfl (hb hby d1_16) _) ?_
  show GG _ _ _ _ _ _ _ T6 (mkF m 17 #[.val (.int p0), .val (.ref bq1), .val (.int (12 : Int32)), .val (.int (5 : Int32)), .val (.ref w4)] [(.ref w5)])
  refine own_go (fun _ => XS.astore X6.here hx rfl (hb hby d1_17) rfl rfl (l' := #[.val (.int p0), .val (.ref bq1), .val (.int (12 : Int32)), .val (.int (5 : Int32)), .val (.ref w5)]) rfl) ?_
  show GG _ _ _ _ _ _ _ T6 (mkF m 19 #[.val (.int p0), .val (.ref bq1), .val (.int (12 : Int32)), .val (.int (5 : Int32)), .val (.ref w5)] [])
  refine own_go (fun _ => XS.aload X6.here hx rfl (hb hby d1_19) rfl rfl) ?_
  show GG _ _ _ _ _ _ _ T6 (mkF m 21 #[.val (.int p0), .val (.ref bq1), .val (.int (12 : Int32)), .val (.int (5 : Int32)), .val (.ref w5)] [(.ref w5)])
  obtain ⟨T7, X7, e7, st7⟩ := getF X6 hx hZ hown (host := "") (Or.inl (hw _ (List.mem_of_getElem? (i := 31) rfl))) Via.refl e6 F_5 (g := (mkF m 21 #[.val (.int p0), .val (.ref bq1), .val (.int (12 : Int32)), .val (.int (5 : Int32)), .val (.ref w5)] [(.ref w5)])) rfl rfl (hb hby d1_21)
  refine own_go (fun _ => st7 _) ?_
  show GG _ _ _ _ _ _ _ T7 (mkF m 24 #[.val (.int p0), .val (.ref bq1), .val (.int (12 : Int32)), .val (.int (5 : Int32)), .val (.ref w5)] [(.int (8 : Int32))])
  refine own_go (fun _ => XS.iloadN X7.here hx rfl (hb hby d1_24) rfl) ?_
  show GG _ _ _ _ _ _ _ T7 (mkF m 25 #[.val (.int p0), .val (.ref bq1), .val (.int (12 : Int32)), .val (.int (5 : Int32)), .val (.ref w5)] [(.int p0), (.int (8 : Int32))])
  have hc25 : ¬ ((8 : Int32) = p0) := by rw [hp]; decide
  refine own_go (fun _ => XS.icmpYes X7.here hx rfl (pc0 := 25) (pc' := 31) rfl (hb hby d1_25) rfl (feq hc25).2 (by decide) (by decide)) ?_
  show GG _ _ _ _ _ _ _ T7 (mkF m 31 #[.val (.int p0), .val (.ref bq1), .val (.int (12 : Int32)), .val (.int (5 : Int32)), .val (.ref w5)] [])
  refine own_go (fun _ => XS.iinc X7.here hx rfl (hb hby d1_31) rfl (l' := #[.val (.int p0), .val (.ref bq1), .val (.int (12 : Int32)), .val (.int (6 : Int32)), .val (.ref w5)]) rfl) ?_
  show GG _ _ _ _ _ _ _ T7 (mkF m 34 #[.val (.int p0), .val (.ref bq1), .val (.int (12 : Int32)), .val (.int (6 : Int32)), .val (.ref w5)] [])
  refine own_go (fun _ => XS.goto X7.here hx rfl (pc0 := 34) (pc' := 9) rfl (hb hby d1_34) (by decide) (by decide)) ?_
  show GG _ _ _ _ _ _ _ T7 (mkF m 9 #[.val (.int p0), .val (.ref bq1), .val (.int (12 : Int32)), .val (.int (6 : Int32)), .val (.ref w5)] [])
  refine own_go (fun _ => XS.iloadN X7.here hx rfl (hb hby d1_9) rfl) ?_
  show GG _ _ _ _ _ _ _ T7 (mkF m 10 #[.val (.int p0), .val (.ref bq1), .val (.int (12 : Int32)), .val (.int (6 : Int32)), .val (.ref w5)] [(.int (6 : Int32))])
  refine own_go (fun _ => XS.iloadN X7.here hx rfl (hb hby d1_10) rfl) ?_
  show GG _ _ _ _ _ _ _ T7 (mkF m 11 #[.val (.int p0), .val (.ref bq1), .val (.int (12 : Int32)), .val (.int (6 : Int32)), .val (.ref w5)] [(.int (12 : Int32)), (.int (6 : Int32))])
  have hc11 : (6 : Int32) < (12 : Int32) := by decide
  refine own_go (fun _ => XS.icmpNo X7.here hx rfl (hb hby d1_11) rfl (tlt hc11).2.1) ?_
  show GG _ _ _ _ _ _ _ T7 (mkF m 14 #[.val (.int p0), .val (.ref bq1), .val (.int (12 : Int32)), .val (.int (6 : Int32)), .val (.ref w5)] [])
  refine own_go (fun _ => XS.aloadN X7.here hx rfl (hb hby d1_14) rfl rfl) ?_
  show GG _ _ _ _ _ _ _ T7 (mkF m 15 #[.val (.int p0), .val (.ref bq1), .val (.int (12 : Int32)), .val (.int (6 : Int32)), .val (.ref w5)] [(.ref bq1)])
  refine own_go (fun _ => XS.iloadN X7.here hx rfl (hb hby d1_15) rfl) ?_
  show GG _ _ _ _ _ _ _ T7 (mkF m 16 #[.val (.int p0), .val (.ref bq1), .val (.int (12 : Int32)), .val (.int (6 : Int32)), .val (.ref w5)] [(.int (6 : Int32)), (.ref bq1)])
  refine own_go (fun _ => own_aaload X7 hx hZ e7 Vq1 rfl (j := (6 : Int32)) (v := (.ref w6)) (by decide) rfl (g := (mkF m 16 #[.val (.int p0), .val (.ref bq1), .val (.int (12 : Int32)), .val (.int (6 : Int32)), .val (.ref w5)] [(.int (6 : Int32)), (.ref bq1)])) rfl rfl (hb hby d1_16) _) ?_
  show GG _ _ _ _ _ _ _ T7 (mkF m 17 #[.val (.int p0), .val (.ref bq1), .val (.int (12 : Int32)), .val (.int (6 : Int32)), .val (.ref w5)] [(.ref w6)])
  refine own_go (fun _ => XS.astore X7.here hx rfl (hb hby d1_17) rfl rfl (l' := #[.val (.int p0), .val (.ref bq1), .val (.int (12 : Int32)), .val (.int (6 : Int32)), .val (.ref w6)]) rfl) ?_
  show GG _ _ _ _ _ _ _ T7 (mkF m 19 #[.val (.int p0), .val (.ref bq1), .val (.int (12 : Int32)), .val (.int (6 : Int32)), .val (.ref w6)] [])
  refine own_go (fun _ => XS.aload X7.here hx rfl (hb hby d1_19) rfl rfl) ?_
  show GG _ _ _ _ _ _ _ T7 (mkF m 21 #[.val (.int p0), .val (.ref bq1), .val (.int (12 : Int32)), .val (.int (6 : Int32)), .val (.ref w6)] [(.ref w6)])
  obtain ⟨T8, X8, e8, st8⟩ := getF X7 hx hZ hown (host := "") (Or.inl (hw _ (List.mem_of_getElem? (i := 31) rfl))) Via.refl e7 F_6 (g := (mkF m 21 #[.val (.int p0), .val (.ref bq1), .val (.int (12 : Int32)), .val (.int (6 : Int32)), .val (.ref w6)] [(.ref w6)])) rfl rfl (hb hby d1_21)
  refine own_go (fun _ => st8 _) ?_
  show GG _ _ _ _ _ _ _ T8 (mkF m 24 #[.val (.int p0), .val (.ref bq1), .val (.int (12 : Int32)), .val (.int (6 : Int32)), .val (.ref w6)] [(.int (9 : Int32))])
  refine own_go (fun _ => XS.iloadN X8.here hx rfl (hb hby d1_24) rfl) ?_
  show GG _ _ _ _ _ _ _ T8 (mkF m 25 #[.val (.int p0), .val (.ref bq1), .val (.int (12 : Int32)), .val (.int (6 : Int32)), .val (.ref w6)] [(.int p0), (.int (9 : Int32))])
  have hc25 : ¬ ((9 : Int32) = p0) := by rw [hp]; decide
  refine own_go (fun _ => XS.icmpYes X8.here hx rfl (pc0 := 25) (pc' := 31) rfl (hb hby d1_25) rfl (feq hc25).2 (by decide) (by decide)) ?_
  show GG _ _ _ _ _ _ _ T8 (mkF m 31 #[.val (.int p0), .val (.ref bq1), .val (.int (12 : Int32)), .val (.int (6 : Int32)), .val (.ref w6)] [])
  refine own_go (fun _ => XS.iinc X8.here hx rfl (hb hby d1_31) rfl (l' := #[.val (.int p0), .val (.ref bq1), .val (.int (12 : Int32)), .val (.int (7 : Int32)), .val (.ref w6)]) rfl) ?_
  show GG _ _ _ _ _ _ _ T8 (mkF m 34 #[.val (.int p0), .val (.ref bq1), .val (.int (12 : Int32)), .val (.int (7 : Int32)), .val (.ref w6)] [])
  refine own_go (fun _ => XS.goto X8.here hx rfl (pc0 := 34) (pc' := 9) rfl (hb hby d1_34) (by decide) (by decide)) ?_
  show GG _ _ _ _ _ _ _ T8 (mkF m 9 #[.val (.int p0), .val (.ref bq1), .val (.int (12 : Int32)), .val (.int (7 : Int32)), .val (.ref w6)] [])
  refine own_go (fun _ => XS.iloadN X8.here hx rfl (hb hby d1_9) rfl) ?_
  show GG _ _ _ _ _ _ _ T8 (mkF m 10 #[.val (.int p0), .val (.ref bq1), .val (.int (12 : Int32)), .val (.int (7 : Int32)), .val (.ref w6)] [(.int (7 : Int32))])
  refine own_go (fun _ => XS.iloadN X8.here hx rfl (hb hby d1_10) rfl) ?_
  show GG _ _ _ _ _ _ _ T8 (mkF m 11 #[.val (.int p0), .val (.ref bq1), .val (.int (12 : Int32)), .val (.int (7 : Int32)), .val (.ref w6)] [(.int (12 : Int32)), (.int (7 : Int32))])
  have hc11 : (7 : Int32) < (12 : Int32) := by decide
  refine own_go (fun _ => XS.icmpNo X8.here hx rfl (hb hby d1_11) rfl (tlt hc11).2.1) ?_
  show GG _ _ _ _ _ _ _ T8 (mkF m 14 #[.val (.int p0), .val (.ref bq1), .val (.int (12 : Int32)), .val (.int (7 : Int32)), .val (.ref w6)] [])
  refine own_go (fun _ => XS.aloadN X8.here hx rfl (hb hby d1_14) rfl rfl) ?_
  show GG _ _ _ _ _ _ _ T8 (mkF m 15 #[.val (.int p0), .val (.ref bq1), .val (.int (12 : Int32)), .val (.int (7 : Int32)), .val (.ref w6)] [(.ref bq1)])
  refine own_go (fun _ => XS.iloadN X8.here hx rfl (hb hby d1_15) rfl) ?_
  show GG _ _ _ _ _ _ _ T8 (mkF m 16 #[.val (.int p0), .val (.ref bq1), .val (.int (12 : Int32)), .val (.int (7 : Int32)), .val (.ref w6)] [(.int (7 : Int32)), (.ref bq1)])
  refine own_go (fun _ => own_aaload X8 hx hZ e8 Vq1 rfl (j := (7 : Int32)) (v := (.ref w7)) (by decide) rfl (g := (mkF m 16 #[.val (.int p0), .val (.ref bq1), .val (.int (12 : Int32)), .val (.int (7 : Int32)), .val (.ref w6)] [(.int (7 : Int32)), (.ref bq1)])) rfl rfl (hb hby d1_16) _) ?_
  show GG _ _ _ _ _ _ _ T8 (mkF m 17 #[.val (.int p0), .val (.ref bq1), .val (.int (12 : Int32)), .val (.int (7 : Int32)), .val (.ref w6)] [(.ref w7)])
  refine own_go (fun _ => XS.astore X8.here hx rfl (hb hby d1_17) rfl rfl (l' := #[.val (.int p0), .val (.ref bq1), .val (.int (12 : Int32)), .val (.int (7 : Int32)), .val (.ref w7)]) rfl) ?_
  show GG _ _ _ _ _ _ _ T8 (mkF m 19 #[.val (.int p0), .val (.ref bq1), .val (.int (12 : Int32)), .val (.int (7 : Int32)), .val (.ref w7)] [])
  refine own_go (fun _ => XS.aload X8.here hx rfl (hb hby d1_19) rfl rfl) ?_
  show GG _ _ _ _ _ _ _ T8 (mkF m 21 #[.val (.int p0), .val (.ref bq1), .val (.int (12 : Int32)), .val (.int (7 : Int32)), .val (.ref w7)] [(.ref w7)])
  obtain ⟨T9, X9, e9, st9⟩ := getF X8 hx hZ hown (host := "") (Or.inl (hw _ (List.mem_of_getElem? (i := 31) rfl))) Via.refl e8 F_7 (g := (mkF m 21 #[.val (.int p0), .val (.ref bq1), .val (.int (12 : Int32)), .val (.int (7 : Int32)), .val (.ref w7)] [(.ref w7)])) rfl rfl (hb hby d1_21)
  refine own_go (fun _ => st9 _) ?_
  show GG _ _ _ _ _ _ _ T9 (mkF m 24 #[.val (.int p0), .val (.ref bq1), .val (.int (12 : Int32)), .val (.int (7 : Int32)), .val (.ref w7)] [(.int (11 : Int32))])
  refine own_go (fun _ => XS.iloadN X9.here hx rfl (hb hby d1_24) rfl) ?_
  show GG _ _ _ _ _ _ _ T9 (mkF m 25 #[.val (.int p0), .val (.ref bq1), .val (.int (12 : Int32)), .val (.int (7 : Int32)), .val (.ref w7)] [(.int p0), (.int (11 : Int32))])
  have hc25 : (11 : Int32) = p0 := hp.symm
  refine own_go (fun _ => XS.icmpNo X9.here hx rfl (hb hby d1_25) rfl (teq hc25).2) ?_
  show GG _ _ _ _ _ _ _ T9 (mkF m 28 #[.val (.int p0), .val (.ref bq1), .val (.int (12 : Int32)), .val (.int (7 : Int32)), .val (.ref w7)] [])
  refine own_go (fun _ => XS.aload X9.here hx rfl (hb hby d1_28) rfl rfl) ?_
  show GG _ _ _ _ _ _ _ T9 (mkF m 30 #[.val (.int p0), .val (.ref bq1), .val (.int (12 : Int32)), .val (.int (7 : Int32)), .val (.ref w7)] [(.ref w7)])
  refine own_ret X9 hx hlk (t := (.object "com/example/bellwether/bellwether/protocol/OpCode")) (w := (.ref w7)) Bd.returns rfl (Or.inr (Or.inr (Or.inr (Or.inr ⟨rfl, rfl, rfl⟩)))) (hb hby d1_30) (by decide) (by decide) ?_
  show Q1_7 Z p0 wV w0 w1 w2 w3 w4 w5 w6 w7 w8 w9 w10 w11 h0 n0 (some (.ref w7)) T9.heap _
  rw [e9]
  exact ⟨rfl, N1, K0⟩
def Q1_8 (Z : State) (p0 : Int32) (wV : Addr) (w0 w1 w2 w3 w4 w5 w6 w7 w8 w9 w10 w11 : Addr) (h0 : Heap) (n0 : Nat) (v : Option Value) (h : Heap) (L : List Loc) : Prop := v = some (.ref w8) ∧ Fr n0 L ∧ Keep h0 h []
set_option maxRecDepth 65536 in
set_option maxHeartbeats 40000000 in
theorem rm1_8 (l : Launch) (Z : State) (a0 : Array Value) (hw : ∀ d ∈ tables_1, d.before a0 Z = true) (ws : List Jvm.Cond) (p0 : Int32) (wV : Addr) (w0 w1 w2 w3 w4 w5 w6 w7 w8 w9 w10 w11 : Addr) (h0 : Heap) (n0 : Nat) (Z0 : n0 ≤ h0.size) (hp : p0 = (12 : Int32)) (S_V : Sta Z h0 "com/example/bellwether/bellwether/protocol/OpCode" "$VALUES" "[Lcom/example/bellwether/bellwether/protocol/OpCode;" (.ref wV)) (V_V : Arx Z h0 wV (.object "com/example/bellwether/bellwether/protocol/OpCode") [(.ref w0), (.ref w1), (.ref w2), (.ref w3), (.ref w4), (.ref w5), (.ref w6), (.ref w7), (.ref w8), (.ref w9), (.ref w10), (.ref w11)]) (E_V : Exa Z h0 wV "[Lcom/example/bellwether/bellwether/protocol/OpCode;") (F_0 : Fld Z h0 w0 "com/example/bellwether/bellwether/protocol/OpCode" "code" "I" (.int (1 : Int32))) (F_1 : Fld Z h0 w1 "com/example/bellwether/bellwether/protocol/OpCode" "code" "I" (.int (2 : Int32))) (F_2 : Fld Z h0 w2 "com/example/bellwether/bellwether/protocol/OpCode" "code" "I" (.int (3 : Int32))) (F_3 : Fld Z h0 w3 "com/example/bellwether/bellwether/protocol/OpCode" "code" "I" (.int (4 : Int32))) (F_4 : Fld Z h0 w4 "com/example/bellwether/bellwether/protocol/OpCode" "code" "I" (.int (5 : Int32))) (F_5 : Fld Z h0 w5 "com/example/bellwether/bellwether/protocol/OpCode" "code" "I" (.int (8 : Int32))) (F_6 : Fld Z h0 w6 "com/example/bellwether/bellwether/protocol/OpCode" "code" "I" (.int (9 : Int32))) (F_7 : Fld Z h0 w7 "com/example/bellwether/bellwether/protocol/OpCode" "code" "I" (.int (11 : Int32))) (F_8 : Fld Z h0 w8 "com/example/bellwether/bellwether/protocol/OpCode" "code" "I" (.int (12 : Int32))) (F_9 : Fld Z h0 w9 "com/example/bellwether/bellwether/protocol/OpCode" "code" "I" (.int (13 : Int32))) (F_10 : Fld Z h0 w10 "com/example/bellwether/bellwether/protocol/OpCode" "code" "I" (.int (14 : Int32))) (F_11 : Fld Z h0 w11 "com/example/bellwether/bellwether/protocol/OpCode" "code" "I" (.int (-11 : Int32))) :
    own_CT l Z (⟨"com/example/bellwether/bellwether/protocol/OpCode", "of", "(I)Lcom/example/bellwether/bellwether/protocol/OpCode;"⟩ : MethodName) prog_23_method_5_code 5 (some (.object "com/example/bellwether/bellwether/protocol/OpCode")) ws ({ frames := 2, cells := 1, slots := 12, locals := 25 } : Room) #[(.int p0)] h0 (Q1_8 Z p0 wV w0 w1 w2 w3 w4 w5 w6 w7 w8 w9 w10 w11 h0 n0) := by
  refine MetFree.of_bodySF (plainFor_of_name pn_com_example_bellwether_bellwether_protocol_OpCode) hisR ?_
  intro p e s m args below meth c s₁ Bd hml0 hP hK
  obtain ⟨rfl, hZ, hh⟩ := hP
  have hx := Bd.exec
  have hby := Bd.bytes
  have hml : c.maxLocals = 5 := hml0
  have hown : s.vm.findClass "com/example/bellwether/bellwether/protocol/OpCode" = some m.cls := findClass_of_methodNamed Bd.named
  have hnm := (name_of_methodNamed Bd.named Bd.method).1
  have hlk : meth.locks = false := BodyLoose.notSynchronized Bd
  have X0 : Stand p l e ({ frames := 2, cells := 1, slots := 12, locals := 25 } : Room) s m #[(.int p0)] below meth c s₁ [] 0 0 := Stand.of_body Bd
  have e0 : s₁.heap = h0 := by rw [← hh, Bd.state]; rfl
  have N0 := Fr.nil n0
  show GG p e below s ({ frames := 2, cells := 1, slots := 12, locals := 25 } : Room).cells ({ frames := 2, cells := 1, slots := 12, locals := 25 } : Room).slots (Q1_8 Z p0 wV w0 w1 w2 w3 w4 w5 w6 w7 w8 w9 w10 w11 h0 n0) s₁ (entryFrame m #[(.int p0)] 5)
  refine own_in (ef_1 m p0) ?_
  have K0 := Keep.refl h0 []
  show GG _ _ _ _ _ _ _ s₁ (mkF m 0 #[.val (.int p0), .unset, .unset, .unset, .unset] [])
  refine own_callS X0 hx hZ (y := (⟨"com/example/bellwether/bellwether/protocol/OpCode", "values", "()[Lcom/example/bellwether/bellwether/protocol/OpCode;"⟩ : MethodName)) 0 hown (hw _ (List.mem_of_getElem? (i := 4) rfl)) (hw _ (List.mem_of_getElem? (i := 5) rfl)) (hw _ (List.mem_of_getElem? (i := 2) rfl)) (hw _ (List.mem_of_getElem? (i := 6) rfl)) (by decide) (argsL := []) (rest := []) (rm2 l Z a0 hw [] wV w0 w1 w2 w3 w4 w5 w6 w7 w8 w9 w10 w11 h0 n0 Z0 S_V V_V E_V) (by decide) (by decide) (by decide) (by decide) (g := (mkF m 0 #[.val (.int p0), .unset, .unset, .unset, .unset] [])) rfl (by rw [hml]; rfl) (lenOf pd____Lcom_example_bellwether_bellwether_pr_216 rfl) rfl (by show 2 * 0 + _ ≤ _; exact Nat.le_of_eq rfl) (hb hby d1_0) e0 ?_
  rintro v1 T1 L1 X1 ⟨bq1, rfl, N1q, szq1, Kq1, Vq1⟩
  have N1 := Fr.app N0 N1q
  have K0 := K0.trans Kq1 all0
  have F_0 := F_0.keep Kq1 nin0
  have F_1 := F_1.keep Kq1 nin0
  have F_2 := F_2.keep Kq1 nin0
  have F_3 := F_3.keep Kq1 nin0
  have F_4 := F_4.keep Kq1 nin0
  have F_5 := F_5.keep Kq1 nin0
  have F_6 := F_6.keep Kq1 nin0
  have F_7 := F_7.keep Kq1 nin0
  have F_8 := F_8.keep Kq1 nin0
  have F_9 := F_9.keep Kq1 nin0
  have F_10 := F_10.keep Kq1 nin0
  have F_11 := F_11.keep Kq1 nin0
  show GG _ _ _ _ _ _ _ T1 (mkF m 3 #[.val (.int p0), .unset, .unset, .unset, .unset] [(.ref bq1)])
  refine own_go (fun _ => XS.astoreN X1.here hx rfl (hb hby d1_3) rfl rfl (l' := #[.val (.int p0), .val (.ref bq1), .unset, .unset, .unset]) rfl) ?_
  show GG _ _ _ _ _ _ _ T1 (mkF m 4 #[.val (.int p0), .val (.ref bq1), .unset, .unset, .unset] [])
  refine own_go (fun _ => XS.aloadN X1.here hx rfl (hb hby d1_4) rfl rfl) ?_
  show GG _ _ _ _ _ _ _ T1 (mkF m 5 #[.val (.int p0), .val (.ref bq1), .unset, .unset, .unset] [(.ref bq1)])
  refine own_go (fun _ => own_len X1 hx hZ rfl Vq1 (g := (mkF m 5 #[.val (.int p0), .val (.ref bq1), .unset, .unset, .unset] [(.ref bq1)])) rfl rfl (hb hby d1_5) _) ?_
  show GG _ _ _ _ _ _ _ T1 (mkF m 6 #[.val (.int p0), .val (.ref bq1), .unset, .unset, .unset] [(.int (12 : Int32))])
  refine own_go (fun _ => XS.istoreN X1.here hx rfl (hb hby d1_6) rfl (l' := #[.val (.int p0), .val (.ref bq1), .val (.int (12 : Int32)), .unset, .unset]) rfl) ?_
  show GG _ _ _ _ _ _ _ T1 (mkF m 7 #[.val (.int p0), .val (.ref bq1), .val (.int (12 : Int32)), .unset, .unset] [])
  refine own_go (fun _ => XS.iconst X1.here hx rfl (hb hby d1_7)) ?_
  show GG _ _ _ _ _ _ _ T1 (mkF m 8 #[.val (.int p0), .val (.ref bq1), .val (.int (12 : Int32)), .unset, .unset] [(.int (0 : Int32))])
  refine own_go (fun _ => XS.istoreN X1.here hx rfl (hb hby d1_8) rfl (l' := #[.val (.int p0), .val (.ref bq1), .val (.int (12 : Int32)), .val (.int (0 : Int32)), .unset]) rfl) ?_
  show GG _ _ _ _ _ _ _ T1 (mkF m 9 #[.val (.int p0), .val (.ref bq1), .val (.int (12 : Int32)), .val (.int (0 : Int32)), .unset] [])
  refine own_go (fun _ => XS.iloadN X1.here hx rfl (hb hby d1_9) rfl) ?_
  show GG _ _ _ _ _ _ _ T1 (mkF m 10 #[.val (.int p0), .val (.ref bq1), .val (.int (12 : Int32)), .val (.int (0 : Int32)), .unset] [(.int (0 : Int32))])
  refine own_go (fun _ => XS.iloadN X1.here hx rfl (hb hby d1_10) rfl) ?_
  show GG _ _ _ _ _ _ _ T1 (mkF m 11 #[.val (.int p0), .val (.ref bq1), .val (.int (12 : Int32)), .val (.int (0 : Int32)), .unset] [(.int (12 : Int32)), (.int (0 : Int32))])
  have hc11 : (0 : Int32) < (12 : Int32) := by decide
  refine own_go (fun _ => XS.icmpNo X1.here hx rfl (hb hby d1_11) rfl (tlt hc11).2.1) ?_
  show GG _ _ _ _ _ _ _ T1 (mkF m 14 #[.val (.int p0), .val (.ref bq1), .val (.int (12 : Int32)), .val (.int (0 : Int32)), .unset] [])
  refine own_go (fun _ => XS.aloadN X1.here hx rfl (hb hby d1_14) rfl rfl) ?_
  show GG _ _ _ _ _ _ _ T1 (mkF m 15 #[.val (.int p0), .val (.ref bq1), .val (.int (12 : Int32)), .val (.int (0 : Int32)), .unset] [(.ref bq1)])
  refine own_go (fun _ => XS.iloadN X1.here hx rfl (hb hby d1_15) rfl) ?_
  show GG _ _ _ _ _ _ _ T1 (mkF m 16 #[.val (.int p0), .val (.ref bq1), .val (.int (12 : Int32)), .val (.int (0 : Int32)), .unset] [(.int (0 : Int32)), (.ref bq1)])
  refine own_go (fun _ => own_aaload X1 hx hZ rfl Vq1 rfl (j := (0 : Int32)) (v := (.ref w0)) (by decide) rfl (g := (mkF m 16 #[.val (.int p0), .val (.ref bq1), .val (.int (12 : Int32)), .val (.int (0 : Int32)), .unset] [(.int (0 : Int32)), (.ref bq1)])) rfl rfl (hb hby d1_16) _) ?_
  show GG _ _ _ _ _ _ _ T1 (mkF m 17 #[.val (.int p0), .val (.ref bq1), .val (.int (12 : Int32)), .val (.int (0 : Int32)), .unset] [(.ref w0)])
  refine own_go (fun _ => XS.astore X1.here hx rfl (hb hby d1_17) rfl rfl (l' := #[.val (.int p0), .val (.ref bq1), .val (.int (12 : Int32)), .val (.int (0 : Int32)), .val (.ref w0)]) rfl) ?_
  show GG _ _ _ _ _ _ _ T1 (mkF m 19 #[.val (.int p0), .val (.ref bq1), .val (.int (12 : Int32)), .val (.int (0 : Int32)), .val (.ref w0)] [])
  refine own_go (fun _ => XS.aload X1.here hx rfl (hb hby d1_19) rfl rfl) ?_
  show GG _ _ _ _ _ _ _ T1 (mkF m 21 #[.val (.int p0), .val (.ref bq1), .val (.int (12 : Int32)), .val (.int (0 : Int32)), .val (.ref w0)] [(.ref w0)])
  obtain ⟨T2, X2, e2, st2⟩ := getF X1 hx hZ hown (host := "") (Or.inl (hw _ (List.mem_of_getElem? (i := 31) rfl))) Via.refl rfl F_0 (g := (mkF m 21 #[.val (.int p0), .val (.ref bq1), .val (.int (12 : Int32)), .val (.int (0 : Int32)), .val (.ref w0)] [(.ref w0)])) rfl rfl (hb hby d1_21)
  refine own_go (fun _ => st2 _) ?_
  show GG _ _ _ _ _ _ _ T2 (mkF m 24 #[.val (.int p0), .val (.ref bq1), .val (.int (12 : Int32)), .val (.int (0 : Int32)), .val (.ref w0)] [(.int (1 : Int32))])
  refine own_go (fun _ => XS.iloadN X2.here hx rfl (hb hby d1_24) rfl) ?_
  show GG _ _ _ _ _ _ _ T2 (mkF m 25 #[.val (.int p0), .val (.ref bq1), .val (.int (12 : Int32)), .val (.int (0 : Int32)), .val (.ref w0)] [(.int p0), (.int (1 : Int32))])
  have hc25 : ¬ ((1 : Int32) = p0) := by rw [hp]; decide
  refine own_go (fun _ => XS.icmpYes X2.here hx rfl (pc0 := 25) (pc' := 31) rfl (hb hby d1_25) rfl (feq hc25).2 (by decide) (by decide)) ?_
  show GG _ _ _ _ _ _ _ T2 (mkF m 31 #[.val (.int p0), .val (.ref bq1), .val (.int (12 : Int32)), .val (.int (0 : Int32)), .val (.ref w0)] [])
  refine own_go (fun _ => XS.iinc X2.here hx rfl (hb hby d1_31) rfl (l' := #[.val (.int p0), .val (.ref bq1), .val (.int (12 : Int32)), .val (.int (1 : Int32)), .val (.ref w0)]) rfl) ?_
  show GG _ _ _ _ _ _ _ T2 (mkF m 34 #[.val (.int p0), .val (.ref bq1), .val (.int (12 : Int32)), .val (.int (1 : Int32)), .val (.ref w0)] [])
  refine own_go (fun _ => XS.goto X2.here hx rfl (pc0 := 34) (pc' := 9) rfl (hb hby d1_34) (by decide) (by decide)) ?_
  show GG _ _ _ _ _ _ _ T2 (mkF m 9 #[.val (.int p0), .val (.ref bq1), .val (.int (12 : Int32)), .val (.int (1 : Int32)), .val (.ref w0)] [])
  refine own_go (fun _ => XS.iloadN X2.here hx rfl (hb hby d1_9) rfl) ?_
  show GG _ _ _ _ _ _ _ T2 (mkF m 10 #[.val (.int p0), .val (.ref bq1), .val (.int (12 : Int32)), .val (.int (1 : Int32)), .val (.ref w0)] [(.int (1 : Int32))])
  refine own_go (fun _ => XS.iloadN X2.here hx rfl (hb hby d1_10) rfl) ?_
  show GG _ _ _ _ _ _ _ T2 (mkF m 11 #[.val (.int p0), .val (.ref bq1), .val (.int (12 : Int32)), .val (.int (1 : Int32)), .val (.ref w0)] [(.int (12 : Int32)), (.int (1 : Int32))])
  have hc11 : (1 : Int32) < (12 : Int32) := by decide
  refine own_go (fun _ => XS.icmpNo X2.here hx rfl (hb hby d1_11) rfl (tlt hc11).2.1) ?_
  show GG _ _ _ _ _ _ _ T2 (mkF m 14 #[.val (.int p0), .val (.ref bq1), .val (.int (12 : Int32)), .val (.int (1 : Int32)), .val (.ref w0)] [])
  refine own_go (fun _ => XS.aloadN X2.here hx rfl (hb hby d1_14) rfl rfl) ?_
  show GG _ _ _ _ _ _ _ T2 (mkF m 15 #[.val (.int p0), .val (.ref bq1), .val (.int (12 : Int32)), .val (.int (1 : Int32)), .val (.ref w0)] [(.ref bq1)])
  refine own_go (fun _ => XS.iloadN X2.here hx rfl (hb hby d1_15) rfl) ?_
  show GG _ _ _ _ _ _ _ T2 (mkF m 16 #[.val (.int p0), .val (.ref bq1), .val (.int (12 : Int32)), .val (.int (1 : Int32)), .val (.ref w0)] [(.int (1 : Int32)), (.ref bq1)])
  refine own_go (fun _ => own_aaload X2 hx hZ e2 Vq1 rfl (j := (1 : Int32)) (v := (.ref w1)) (by decide) rfl (g := (mkF m 16 #[.val (.int p0), .val (.ref bq1), .val (.int (12 : Int32)), .val (.int (1 : Int32)), .val (.ref w0)] [(.int (1 : Int32)), (.ref bq1)])) rfl rfl (hb hby d1_16) _) ?_
  show GG _ _ _ _ _ _ _ T2 (mkF m 17 #[.val (.int p0), .val (.ref bq1), .val (.int (12 : Int32)), .val (.int (1 : Int32)), .val (.ref w0)] [(.ref w1)])
  refine own_go (fun _ => XS.astore X2.here hx rfl (hb hby d1_17) rfl rfl (l' := #[.val (.int p0), .val (.ref bq1), .val (.int (12 : Int32)), .val (.int (1 : Int32)), .val (.ref w1)]) rfl) ?_
  show GG _ _ _ _ _ _ _ T2 (mkF m 19 #[.val (.int p0), .val (.ref bq1), .val (.int (12 : Int32)), .val (.int (1 : Int32)), .val (.ref w1)] [])
  refine own_go (fun _ => XS.aload X2.here hx rfl (hb hby d1_19) rfl rfl) ?_
  show GG _ _ _ _ _ _ _ T2 (mkF m 21 #[.val (.int p0), .val (.ref bq1), .val (.int (12 : Int32)), .val (.int (1 : Int32)), .val (.ref w1)] [(.ref w1)])
  obtain ⟨T3, X3, e3, st3⟩ := getF X2 hx hZ hown (host := "") (Or.inl (hw _ (List.mem_of_getElem? (i := 31) rfl))) Via.refl e2 F_1 (g := (mkF m 21 #[.val (.int p0), .val (.ref bq1), .val (.int (12 : Int32)), .val (.int (1 : Int32)), .val (.ref w1)] [(.ref w1)])) rfl rfl (hb hby d1_21)
  refine own_go (fun _ => st3 _) ?_
  show GG _ _ _ _ _ _ _ T3 (mkF m 24 #[.val (.int p0), .val (.ref bq1), .val (.int (12 : Int32)), .val (.int (1 : Int32)), .val (.ref w1)] [(.int (2 : Int32))])
  refine own_go (fun _ => XS.iloadN X3.here hx rfl (hb hby d1_24) rfl) ?_
  show GG _ _ _ _ _ _ _ T3 (mkF m 25 #[.val (.int p0), .val (.ref bq1), .val (.int (12 : Int32)), .val (.int (1 : Int32)), .val (.ref w1)] [(.int p0), (.int (2 : Int32))])
  have hc25 : ¬ ((2 : Int32) = p0) := by rw [hp]; decide
  refine own_go (fun _ => XS.icmpYes X3.here hx rfl (pc0 := 25) (pc' := 31) rfl (hb hby d1_25) rfl (feq hc25).2 (by decide) (by decide)) ?_
  show GG _ _ _ _ _ _ _ T3 (mkF m 31 #[.val (.int p0), .val (.ref bq1), .val (.int (12 : Int32)), .val (.int (1 : Int32)), .val (.ref w1)] [])
  refine own_go (fun _ => XS.iinc X3.here hx rfl (hb hby d1_31) rfl (l' := #[.val (.int p0), .val (.ref bq1), .val (.int (12 : Int32)), .val (.int (2 : Int32)), .val (.ref w1)]) rfl) ?_
  show GG _ _ _ _ _ _ _ T3 (mkF m 34 #[.val (.int p0), .val (.ref bq1), .val (.int (12 : Int32)), .val (.int (2 : Int32)), .val (.ref w1)] [])
  refine own_go (fun _ => XS.goto X3.here hx rfl (pc0 := 34) (pc' := 9) rfl (hb hby d1_34) (by decide) (by decide)) ?_
  show GG _ _ _ _ _ _ _ T3 (mkF m 9 #[.val (.int p0), .val (.ref bq1), .val (.int (12 : Int32)), .val (.int (2 : Int32)), .val (.ref w1)] [])
  refine own_go (fun _ => XS.iloadN X3.here hx rfl (hb hby d1_9) rfl) ?_
  show GG _ _ _ _ _ _ _ T3 (mkF m 10 #[.val (.int p0), .val (.ref bq1), .val (.int (12 : Int32)), .val (.int (2 : Int32)), .val (.ref w1)] [(.int (2 : Int32))])
  refine own_go (fun _ => XS.iloadN X3.here hx rfl (hb hby d1_10) rfl) ?_
  show GG _ _ _ _ _ _ _ T3 (mkF m 11 #[.val (.int p0), .val (.ref bq1), .val (.int (12 : Int32)), .val (.int (2 : Int32)), .val (.ref w1)] [(.int (12 : Int32)), (.int (2 : Int32))])
  have hc11 : (2 : Int32) < (12 : Int32) := by decide
  refine own_go (fun _ => XS.icmpNo X3.here hx rfl (hb hby d1_11) rfl (tlt hc11).2.1) ?_
  show GG _ _ _ _ _ _ _ T3 (mkF m 14 #[.val (.int p0), .val (.ref bq1), .val (.int (12 : Int32)), .val (.int (2 : Int32)), .val (.ref w1)] [])
  refine own_go (fun _ => XS.aloadN X3.here hx rfl (hb hby d1_14) rfl rfl) ?_
  show GG _ _ _ _ _ _ _ T3 (mkF m 15 #[.val (.int p0), .val (.ref bq1), .val (.int (12 : Int32)), .val (.int (2 : Int32)), .val (.ref w1)] [(.ref bq1)])
  refine own_go (fun _ => XS.iloadN X3.here hx rfl (hb hby d1_15) rfl) ?_
  show GG _ _ _ _ _ _ _ T3 (mkF m 16 #[.val (.int p0), .val (.ref bq1), .val (.int (12 : Int32)), .val (.int (2 : Int32)), .val (.ref w1)] [(.int (2 : Int32)), (.ref bq1)])
  refine own_go (fun _ => own_aaload X3 hx hZ e3 Vq1 rfl (j := (2 : Int32)) (v := (.ref w2)) (by decide) rfl (g := (mkF m 16 #[.val (.int p0), .val (.ref bq1), .val (.int (12 : Int32)), .val (.int (2 : Int32)), .val (.ref w1)] [(.int (2 : Int32)), (.ref bq1)])) rfl rfl (hb hby d1_16) _) ?_
  show GG _ _ _ _ _ _ _ T3 (mkF m 17 #[.val (.int p0), .val (.ref bq1), .val (.int (12 : Int32)), .val (.int (2 : Int32)), .val (.ref w1)] [(.ref w2)])
  refine own_go (fun _ => XS.astore X3.here hx rfl (hb hby d1_17) rfl rfl (l' := #[.val (.int p0), .val (.ref bq1), .val (.int (12 : Int32)), .val (.int (2 : Int32)), .val (.ref w2)]) rfl) ?_
  show GG _ _ _ _ _ _ _ T3 (mkF m 19 #[.val (.int p0), .val (.ref bq1), .val (.int (12 : Int32)), .val (.int (2 : Int32)), .val (.ref w2)] [])
  refine own_go (fun _ => XS.aload X3.here hx rfl (hb hby d1_19) rfl rfl) ?_
  show GG _ _ _ _ _ _ _ T3 (mkF m 21 #[.val (.int p0), .val (.ref bq1), .val (.int (12 : Int32)), .val (.int (2 : Int32)), .val (.ref w2)] [(.ref w2)])
  obtain ⟨T4, X4, e4, st4⟩ := getF X3 hx hZ hown (host := "") (Or.inl (hw _ (List.mem_of_getElem? (i := 31) rfl))) Via.refl e3 F_2 (g := (mkF m 21 #[.val (.int p0), .val (.ref bq1), .val (.int (12 : Int32)), .val (.int (2 : Int32)), .val (.ref w2)] [(.ref w2)])) rfl rfl (hb hby d1_21)
  refine own_go (fun _ => st4 _) ?_
  show GG _ _ _ _ _ _ _ T4 (mkF m 24 #[.val (.int p0), .val (.ref bq1), .val (.int (12 : Int32)), .val (.int (2 : Int32)), .val (.ref w2)] [(.int (3 : Int32))])
  refine own_go (fun _ => XS.iloadN X4.here hx rfl (hb hby d1_24) rfl) ?_
  show GG _ _ _ _ _ _ _ T4 (mkF m 25 #[.val (.int p0), .val (.ref bq1), .val (.int (12 : Int32)), .val (.int (2 : Int32)), .val (.ref w2)] [(.int p0), (.int (3 : Int32))])
  have hc25 : ¬ ((3 : Int32) = p0) := by rw [hp]; decide
  refine own_go (fun _ => XS.icmpYes X4.here hx rfl (pc0 := 25) (pc' := 31) rfl (hb hby d1_25) rfl (feq hc25).2 (by decide) (by decide)) ?_
  show GG _ _ _ _ _ _ _ T4 (mkF m 31 #[.val (.int p0), .val (.ref bq1), .val (.int (12 : Int32)), .val (.int (2 : Int32)), .val (.ref w2)] [])
  refine own_go (fun _ => XS.iinc X4.here hx rfl (hb hby d1_31) rfl (l' := #[.val (.int p0), .val (.ref bq1), .val (.int (12 : Int32)), .val (.int (3 : Int32)), .val (.ref w2)]) rfl) ?_
  show GG _ _ _ _ _ _ _ T4 (mkF m 34 #[.val (.int p0), .val (.ref bq1), .val (.int (12 : Int32)), .val (.int (3 : Int32)), .val (.ref w2)] [])
  refine own_go (fun _ => XS.goto X4.here hx rfl (pc0 := 34) (pc' := 9) rfl (hb hby d1_34) (by decide) (by decide)) ?_
  show GG _ _ _ _ _ _ _ T4 (mkF m 9 #[.val (.int p0), .val (.ref bq1), .val (.int (12 : Int32)), .val (.int (3 : Int32)), .val (.ref w2)] [])
  refine own_go (fun _ => XS.iloadN X4.here hx rfl (hb hby d1_9) rfl) ?_
  show GG _ _ _ _ _ _ _ T4 (mkF m 10 #[.val (.int p0), .val (.ref bq1), .val (.int (12 : Int32)), .val (.int (3 : Int32)), .val (.ref w2)] [(.int (3 : Int32))])
  refine own_go (fun _ => XS.iloadN X4.here hx rfl (hb hby d1_10) rfl) ?_
  show GG _ _ _ _ _ _ _ T4 (mkF m 11 #[.val (.int p0), .val (.ref bq1), .val (.int (12 : Int32)), .val (.int (3 : Int32)), .val (.ref w2)] [(.int (12 : Int32)), (.int (3 : Int32))])
  have hc11 : (3 : Int32) < (12 : Int32) := by decide
  refine own_go (fun _ => XS.icmpNo X4.here hx rfl (hb hby d1_11) rfl (tlt hc11).2.1) ?_
  show GG _ _ _ _ _ _ _ T4 (mkF m 14 #[.val (.int p0), .val (.ref bq1), .val (.int (12 : Int32)), .val (.int (3 : Int32)), .val (.ref w2)] [])
  refine own_go (fun _ => XS.aloadN X4.here hx rfl (hb hby d1_14) rfl rfl) ?_
  show GG _ _ _ _ _ _ _ T4 (mkF m 15 #[.val (.int p0), .val (.ref bq1), .val (.int (12 : Int32)), .val (.int (3 : Int32)), .val (.ref w2)] [(.ref bq1)])
  refine own_go (fun _ => XS.iloadN X4.here hx rfl (hb hby d1_15) rfl) ?_
  show GG _ _ _ _ _ _ _ T4 (mkF m 16 #[.val (.int p0), .val (.ref bq1), .val (.int (12 : Int32)), .val (.int (3 : Int32)), .val (.ref w2)] [(.int (3 : Int32)), (.ref bq1)])
  refine own_go (fun _ => own_aaload X4 hx hZ e4 Vq1 rfl (j := (3 : Int32)) (v := (.ref w3)) (by decide) rfl (g := (mkF m 16 #[.val (.int p0), .val (.ref bq1), .val (.int (12 : Int32)), .val (.int (3 : Int32)), .val (.ref w2)] [(.int (3 : Int32)), (.ref bq1)])) rfl rfl (hb hby d1_16) _) ?_
  show GG _ _ _ _ _ _ _ T4 (mkF m 17 #[.val (.int p0), .val (.ref bq1), .val (.int (12 : Int32)), .val (.int (3 : Int32)), .val (.ref w2)] [(.ref w3)])
  refine own_go (fun _ => XS.astore X4.here hx rfl (hb hby d1_17) rfl rfl (l' := #[.val (.int p0), .val (.ref bq1), .val (.int (12 : Int32)), .val (.int (3 : Int32)), .val (.ref w3)]) rfl) ?_
  show GG _ _ _ _ _ _ _ T4 (mkF m 19 #[.val (.int p0), .val (.ref bq1), .val (.int (12 : Int32)), .val (.int (3 : Int32)), .val (.ref w3)] [])
  refine own_go (fun _ => XS.aload X4.here hx rfl (hb hby d1_19) rfl rfl) ?_
  show GG _ _ _ _ _ _ _ T4 (mkF m 21 #[.val (.int p0), .val (.ref bq1), .val (.int (12 : Int32)), .val (.int (3 : Int32)), .val (.ref w3)] [(.ref w3)])
  obtain ⟨T5, X5, e5, st5⟩ := getF X4 hx hZ hown (host := "") (Or.inl (hw _ (List.mem_of_getElem? (i := 31) rfl))) Via.refl e4 F_3 (g := (mkF m 21 #[.val (.int p0), .val (.ref bq1), .val (.int (12 : Int32)), .val (.int (3 : Int32)), .val (.ref w3)] [(.ref w3)])) rfl rfl (hb hby d1_21)
  refine own_go (fun _ => st5 _) ?_
  show GG _ _ _ _ _ _ _ T5 (mkF m 24 #[.val (.int p0), .val (.ref bq1), .val (.int (12 : Int32)), .val (.int (3 : Int32)), .val (.ref w3)] [(.int (4 : Int32))])
  refine own_go (fun _ => XS.iloadN X5.here hx rfl (hb hby d1_24) rfl) ?_
  show GG _ _ _ _ _ _ _ T5 (mkF m 25 #[.val (.int p0), .val (.ref bq1), .val (.int (12 : Int32)), .val (.int (3 : Int32)), .val (.ref w3)] [(.int p0), (.int (4 : Int32))])
  have hc25 : ¬ ((4 : Int32) = p0) := by rw [hp]; decide
  refine own_go (fun _ => XS.icmpYes X5.here hx rfl (pc0 := 25) (pc' := 31) rfl (hb hby d1_25) rfl (feq hc25).2 (by decide) (by decide)) ?_
  show GG _ _ _ _ _ _ _ T5 (mkF m 31 #[.val (.int p0), .val (.ref bq1), .val (.int (12 : Int32)), .val (.int (3 : Int32)), .val (.ref w3)] [])
  refine own_go (fun _ => XS.iinc X5.here hx rfl (hb hby d1_31) rfl (l' := #[.val (.int p0), .val (.ref bq1), .val (.int (12 : Int32)), .val (.int (4 : Int32)), .val (.ref w3)]) rfl) ?_
  show GG _ _ _ _ _ _ _ T5 (mkF m 34 #[.val (.int p0), .val (.ref bq1), .val (.int (12 : Int32)), .val (.int (4 : Int32)), .val (.ref w3)] [])
  refine own_go (fun _ => XS.goto X5.here hx rfl (pc0 := 34) (pc' := 9) rfl (hb hby d1_34) (by decide) (by decide)) ?_
  show GG _ _ _ _ _ _ _ T5 (mkF m 9 #[.val (.int p0), .val (.ref bq1), .val (.int (12 : Int32)), .val (.int (4 : Int32)), .val (.ref w3)] [])
  refine own_go (fun _ => XS.iloadN X5.here hx rfl (hb hby d1_9) rfl) ?_
  show GG _ _ _ _ _ _ _ T5 (mkF m 10 #[.val (.int p0), .val (.ref bq1), .val (.int (12 : Int32)), .val (.int (4 : Int32)), .val (.ref w3)] [(.int (4 : Int32))])
  refine own_go (fun _ => XS.iloadN X5.here hx rfl (hb hby d1_10) rfl) ?_
  show GG _ _ _ _ _ _ _ T5 (mkF m 11 #[.val (.int p0), .val (.ref bq1), .val (.int (12 : Int32)), .val (.int (4 : Int32)), .val (.ref w3)] [(.int (12 : Int32)), (.int (4 : Int32))])
  have hc11 : (4 : Int32) < (12 : Int32) := by decide
  refine own_go (fun _ => XS.icmpNo X5.here hx rfl (hb hby d1_11) rfl (tlt hc11).2.1) ?_
  show GG _ _ _ _ _ _ _ T5 (mkF m 14 #[.val (.int p0), .val (.ref bq1), .val (.int (12 : Int32)), .val (.int (4 : Int32)), .val (.ref w3)] [])
  refine own_go (fun _ => XS.aloadN X5.here hx rfl (hb hby d1_14) rfl rfl) ?_
  show GG _ _ _ _ _ _ _ T5 (mkF m 15 #[.val (.int p0), .val (.ref bq1), .val (.int (12 : Int32)), .val (.int (4 : Int32)), .val (.ref w3)] [(.ref bq1)])
  refine own_go (fun _ => XS.iloadN X5.here hx rfl (hb hby d1_15) rfl) ?_
  show GG _ _ _ _ _ _ _ T5 (mkF m 16 #[.val (.int p0), .val (.ref bq1), .val (.int (12 : Int32)), .val (.int (4 : Int32)), .val (.ref w3)] [(.int (4 : Int32)), (.ref bq1)])
  refine own_go (fun _ => own_aaload X5 hx hZ e5 Vq1 rfl (j := (4 : Int32)) (v := (.ref w4)) (by decide) rfl (g := (mkF m 16 #[.val (.int p0), .val (.ref bq1), .val (.int (12 : Int32)), .val (.int (4 : Int32)), .val (.ref w3)] [(.int (4 : Int32)), (.ref bq1)])) rfl rfl (hb hby d1_16) _) ?_
  show GG _ _ _ _ _ _ _ T5 (mkF m 17 #[.val (.int p0), .val (.ref bq1), .val (.int (12 : Int32)), .val (.int (4 : Int32)), .val (.ref w3)] [(.ref w4)])
  refine own_go (fun _ => XS.astore X5.here hx rfl (hb hby d1_17) rfl rfl (l' := #[.val (.int p0), .val (.ref bq1), .val (.int (12 : Int32)), .val (.int (4 : Int32)), .val (.ref w4)]) rfl) ?_
  show GG _ _ _ _ _ _ _ T5 (mkF m 19 #[.val (.int p0), .val (.ref bq1), .val (.int (12 : Int32)), .val (.int (4 : Int32)), .val (.ref w4)] [])
  refine own_go (fun _ => XS.aload X5.here hx rfl (hb hby d1_19) rfl rfl) ?_
  show GG _ _ _ _ _ _ _ T5 (mkF m 21 #[.val (.int p0), .val (.ref bq1), .val (.int (12 : Int32)), .val (.int (4 : Int32)), .val (.ref w4)] [(.ref w4)])
  obtain ⟨T6, X6, e6, st6⟩ := getF X5 hx hZ hown (host := "") (Or.inl (hw _ (List.mem_of_getElem? (i := 31) rfl))) Via.refl e5 F_4 (g := (mkF m 21 #[.val (.int p0), .val (.ref bq1), .val (.int (12 : Int32)), .val (.int (4 : Int32)), .val (.ref w4)] [(.ref w4)])) rfl rfl (hb hby d1_21)
  refine own_go (fun _ => st6 _) ?_
  show GG _ _ _ _ _ _ _ T6 (mkF m 24 #[.val (.int p0), .val (.ref bq1), .val (.int (12 : Int32)), .val (.int (4 : Int32)), .val (.ref w4)] [(.int (5 : Int32))])
  refine own_go (fun _ => XS.iloadN X6.here hx rfl (hb hby d1_24) rfl) ?_
  show GG _ _ _ _ _ _ _ T6 (mkF m 25 #[.val (.int p0), .val (.ref bq1), .val (.int (12 : Int32)), .val (.int (4 : Int32)), .val (.ref w4)] [(.int p0), (.int (5 : Int32))])
  have hc25 : ¬ ((5 : Int32) = p0) := by rw [hp]; decide
  refine own_go (fun _ => XS.icmpYes X6.here hx rfl (pc0 := 25) (pc' := 31) rfl (hb hby d1_25) rfl (feq hc25).2 (by decide) (by decide)) ?_
  show GG _ _ _ _ _ _ _ T6 (mkF m 31 #[.val (.int p0), .val (.ref bq1), .val (.int (12 : Int32)), .val (.int (4 : Int32)), .val (.ref w4)] [])
  refine own_go (fun _ => XS.iinc X6.here hx rfl (hb hby d1_31) rfl (l' := #[.val (.int p0), .val (.ref bq1), .val (.int (12 : Int32)), .val (.int (5 : Int32)), .val (.ref w4)]) rfl) ?_
  show GG _ _ _ _ _ _ _ T6 (mkF m 34 #[.val (.int p0), .val (.ref bq1), .val (.int (12 : Int32)), .val (.int (5 : Int32)), .val (.ref w4)] [])
  refine own_go (fun _ => XS.goto X6.here hx rfl (pc0 := 34) (pc' := 9) rfl (hb hby d1_34) (by decide) (by decide)) ?_
  show GG _ _ _ _ _ _ _ T6 (mkF m 9 #[.val (.int p0), .val (.ref bq1), .val (.int (12 : Int32)), .val (.int (5 : Int32)), .val (.ref w4)] [])
  refine own_go (fun _ => XS.iloadN X6.here hx rfl (hb hby d1_9) rfl) ?_
  show GG _ _ _ _ _ _ _ T6 (mkF m 10 #[.val (.int p0), .val (.ref bq1), .val (.int (12 : Int32)), .val (.int (5 : Int32)), .val (.ref w4)] [(.int (5 : Int32))])
  refine own_go (fun _ => XS.iloadN X6.here hx rfl (hb hby d1_10) rfl) ?_
  show GG _ _ _ _ _ _ _ T6 (mkF m 11 #[.val (.int p0), .val (.ref bq1), .val (.int (12 : Int32)), .val (.int (5 : Int32)), .val (.ref w4)] [(.int (12 : Int32)), (.int (5 : Int32))])
  have hc11 : (5 : Int32) < (12 : Int32) := by decide
  refine own_go (fun _ => XS.icmpNo X6.here hx rfl (hb hby d1_11) rfl (tlt hc11).2.1) ?_
  show GG _ _ _ _ _ _ _ T6 (mkF m 14 #[.val (.int p0), .val (.ref bq1), .val (.int (12 : Int32)), .val (.int (5 : Int32)), .val (.ref w4)] [])
  refine own_go (fun _ => XS.aloadN X6.here hx rfl (hb hby d1_14) rfl rfl) ?_
  show GG _ _ _ _ _ _ _ T6 (mkF m 15 #[.val (.int p0), .val (.ref bq1), .val (.int (12 : Int32)), .val (.int (5 : Int32)), .val (.ref w4)] [(.ref bq1)])
  refine own_go (fun _ => XS.iloadN X6.here hx rfl (hb hby d1_15) rfl) ?_
  show GG _ _ _ _ _ _ _ T6 (mkF m 16 #[.val (.int p0), .val (.ref bq1), .val (.int (12 : Int32)), .val (.int (5 : Int32)), .val (.ref w4)] [(.int (5 : Int32)), (.ref bq1)])
  refine own_go (fun _ => own_aaload X6 hx hZ e6 Vq1 rfl (j := (5 : Int32)) (v := (.ref w5)) (by decide) rfl (g := (mkF m 16 #[.val (.int p0), .val (.ref bq1), .val (.int (12 : Int32)), .val (.int (5 : Int32)), .val (.ref w4)] [(.int (5 : Int32)), (.ref bq1)])) rfl rfl (hb hby d1_16) _) ?_
  show GG _ _ _ _ _ _ _ T6 (mkF m 17 #[.val (.int p0), .val (.ref bq1), .val (.int (12 : Int32)), .val (.int (5 : Int32)), .val (.ref w4)] [(.ref w5)])
  refine own_go (fun _ => XS.astore X6.here hx rfl (hb hby d1_17) rfl rfl (l' := #[.val (.int p0), .val (.ref bq1), .val (.int (12 : Int32)), .val (.int (5 : Int32)), .val (.ref w5)]) rfl) ?_
  show GG _ _ _ _ _ _ _ T6 (mkF m 19 #[.val (.int p0), .val (.ref bq1), .val (.int (12 : Int32)), .val (.int (5 : Int32)), .val (.ref w5)] [])
  refine own_go (fun _ => XS.aload X6.here hx rfl (hb hby d1_19) rfl rfl) ?_
  show GG _ _ _ _ _ _ _ T6 (mkF m 21 #[.val (.int p0), .val (.ref bq1), .val (.int (12 : Int32)), .val (.int (5 : Int32)), .val (.ref w5)] [(.ref w5)])
  obtain ⟨T7, X7, e7, st7⟩ := getF X6 hx hZ hown (host := "") (Or.inl (hw _ (List.mem_of_getElem? (i := 31) rfl))) Via.refl e6 F_5 (g := (mkF m 21 #[.val (.int p0), .val (.ref bq1), .val (.int (12 : Int32)), .val (.int (5 : Int32)), .val (.ref w5)] [(.ref w5)])) rfl rfl (hb hby d1_21)
  refine own_go (fun _ => st7 _) ?_
  show GG _ _ _ _ _ _ _ T7 (mkF m 24 #[.val (.int p0), .val (.ref bq1), .val (.int (12 : Int32)), .val (.int (5 : Int32)), .val (.ref w5)] [(.int (8 : Int32))])
  refine own_go (fun _ => XS.iloadN X7.here hx rfl (hb hby d1_24) rfl) ?_
  show GG _ _ _ _ _ _ _ T7 (mkF m 25 #[.val (.int p0), .val (.ref bq1), .val (.int (12 : Int32)), .val (.int (5 : Int32)), .val (.ref w5)] [(.int p0), (.int (8 : Int32))])
  have hc25 : ¬ ((8 : Int32) = p0) := by rw [hp]; decide
  refine own_go (fun _ => XS.icmpYes X7.here hx rfl (pc0 := 25) (pc' := 31) rfl (hb hby d1_25) rfl (feq hc25).2 (by decide) (by decide)) ?_
  show GG _ _ _ _ _ _ _ T7 (mkF m 31 #[.val (.int p0), .val (.ref bq1), .val (.int (12 : Int32)), .val (.int (5 : Int32)), .val (.ref w5)] [])
  refine own_go (fun _ => XS.iinc X7.here hx rfl (hb hby d1_31) rfl (l' := #[.val (.int p0), .val (.ref bq1), .val (.int (12 : Int32)), .val (.int (6 : Int32)), .val (.ref w5)]) rfl) ?_
  show GG _ _ _ _ _ _ _ T7 (mkF m 34 #[.val (.int p0), .val (.ref bq1), .val (.int (12 : Int32)), .val (.int (6 : Int32)), .val (.ref w5)] [])
  refine own_go (fun _ => XS.goto X7.here hx rfl (pc0 := 34) (pc' := 9) rfl (hb hby d1_34) (by decide) (by decide)) ?_
  show GG _ _ _ _ _ _ _ T7 (mkF m 9 #[.val (.int p0), .val (.ref bq1), .val (.int (12 : Int32)), .val (.int (6 : Int32)), .val (.ref w5)] [])
  refine own_go (fun _ => XS.iloadN X7.here hx rfl (hb hby d1_9) rfl) ?_
  show GG _ _ _ _ _ _ _ T7 (mkF m 10 #[.val (.int p0), .val (.ref bq1), .val (.int (12 : Int32)), .val (.int (6 : Int32)), .val (.ref w5)] [(.int (6 : Int32))])
  refine own_go (fun _ => XS.iloadN X7.here hx rfl (hb hby d1_10) rfl) ?_
  show GG _ _ _ _ _ _ _ T7 (mkF m 11 #[.val (.int p0), .val (.ref bq1), .val (.int (12 : Int32)), .val (.int (6 : Int32)), .val (.ref w5)] [(.int (12 : Int32)), (.int (6 : Int32))])
  have hc11 : (6 : Int32) < (12 : Int32) := by decide
  refine own_go (fun _ => XS.icmpNo X7.here hx rfl (hb hby d1_11) rfl (tlt hc11).2.1) ?_
  show GG _ _ _ _ _ _ _ T7 (mkF m 14 #[.val (.int p0), .val (.ref bq1), .val (.int (12 : Int32)), .val (.int (6 : Int32)), .val (.ref w5)] [])
  refine own_go (fun _ => XS.aloadN X7.here hx rfl (hb hby d1_14) rfl rfl) ?_
  show GG _ _ _ _ _ _ _ T7 (mkF m 15 #[.val (.int p0), .val (.ref bq1), .val (.int (12 : Int32)), .val (.int (6 : Int32)), .val (.ref w5)] [(.ref bq1)])
  refine own_go (fun _ => XS.iloadN X7.here hx rfl (hb hby d1_15) rfl) ?_
  show GG _ _ _ _ _ _ _ T7 (mkF m 16 #[.val (.int p0), .val (.ref bq1), .val (.int (12 : Int32)), .val (.int (6 : Int32)), .val (.ref w5)] [(.int (6 : Int32)), (.ref bq1)])
  refine own_go (fun _ => own_aaload X7 hx hZ e7 Vq1 rfl (j := (6 : Int32)) (v := (.ref w6)) (by decide) rfl (g := (mkF m 16 #[.val (.int p0), .val (.ref bq1), .val (.int (12 : Int32)), .val (.int (6 : Int32)), .val (.ref w5)] [(.int (6 : Int32)), (.ref bq1)])) rfl rfl (hb hby d1_16) _) ?_
  show GG _ _ _ _ _ _ _ T7 (mkF m 17 #[.val (.int p0), .val (.ref bq1), .val (.int (12 : Int32)), .val (.int (6 : Int32)), .val (.ref w5)] [(.ref w6)])
  refine own_go (fun _ => XS.astore X7.here hx rfl (hb hby d1_17) rfl rfl (l' := #[.val (.int p0), .val (.ref bq1), .val (.int (12 : Int32)), .val (.int (6 : Int32)), .val (.ref w6)]) rfl) ?_
  show GG _ _ _ _ _ _ _ T7 (mkF m 19 #[.val (.int p0), .val (.ref bq1), .val (.int (12 : Int32)), .val (.int (6 : Int32)), .val (.ref w6)] [])
  refine own_go (fun _ => XS.aload X7.here hx rfl (hb hby d1_19) rfl rfl) ?_
  show GG _ _ _ _ _ _ _ T7 (mkF m 21 #[.val (.int p0), .val (.ref bq1), .val (.int (12 : Int32)), .val (.int (6 : Int32)), .val (.ref w6)] [(.ref w6)])
  obtain ⟨T8, X8, e8, st8⟩ := getF X7 hx hZ hown (host := "") (Or.inl (hw _ (List.mem_of_getElem? (i := 31) rfl))) Via.refl e7 F_6 (g := (mkF m 21 #[.val (.int p0), .val (.ref bq1), .val (.int (12 : Int32)), .val (.int (6 : Int32)), .val (.ref w6)] [(.ref w6)])) rfl rfl (hb hby d1_21)
  refine own_go (fun _ => st8 _) ?_
  show GG _ _ _ _ _ _ _ T8 (mkF m 24 #[.val (.int p0), .val (.ref bq1), .val (.int (12 : Int32)), .val (.int (6 : Int32)), .val (.ref w6)] [(.int (9 : Int32))])
  refine own_go (fun _ => XS.iloadN X8.here hx rfl (hb hby d1_24) rfl) ?_
  show GG _ _ _ _ _ _ _ T8 (mkF m 25 #[.val (.int p0), .val (.ref bq1), .val (.int (12 : Int32)), .val (.int (6 : Int32)), .val (.ref w6)] [(.int p0), (.int (9 : Int32))])
  have hc25 : ¬ ((9 : Int32) = p0) := by rw [hp]; decide
  refine own_go (fun _ => XS.icmpYes X8.here hx rfl (pc0 := 25) (pc' := 31) rfl (hb hby d1_25) rfl (feq hc25).2 (by decide) (by decide)) ?_
  show GG _ _ _ _ _ _ _ T8 (mkF m 31 #[.val (.int p0), .val (.ref bq1), .val (.int (12 : Int32)), .val (.int (6 : Int32)), .val (.ref w6)] [])
  refine own_go (fun _ => XS.iinc X8.here hx rfl (hb hby d1_31) rfl (l' := #[.val (.int p0), .val (.ref bq1), .val (.int (12 : Int32)), .val (.int (7 : Int32)), .val (.ref w6)]) rfl) ?_
  show GG _ _ _ _ _ _ _ T8 (mkF m 34 #[.val (.int p0), .val (.ref bq1), .val (.int (12 : Int32)), .val (.int (7 : Int32)), .val (.ref w6)] [])
  refine own_go (fun _ => XS.goto X8.here hx rfl (pc0 := 34) (pc' := 9) rfl (hb hby d1_34) (by decide) (by decide)) ?_
  show GG _ _ _ _ _ _ _ T8 (mkF m 9 #[.val (.int p0), .val (.ref bq1), .val (.int (12 : Int32)), .val (.int (7 : Int32)), .val (.ref w6)] [])
  refine own_go (fun _ => XS.iloadN X8.here hx rfl (hb hby d1_9) rfl) ?_
  show GG _ _ _ _ _ _ _ T8 (mkF m 10 #[.val (.int p0), .val (.ref bq1), .val (.int (12 : Int32)), .val (.int (7 : Int32)), .val (.ref w6)] [(.int (7 : Int32))])
  refine own_go (fun _ => XS.iloadN X8.here hx rfl (hb hby d1_10) rfl) ?_
  show GG _ _ _ _ _ _ _ T8 (mkF m 11 #[.val (.int p0), .val (.ref bq1), .val (.int (12 : Int32)), .val (.int (7 : Int32)), .val (.ref w6)] [(.int (12 : Int32)), (.int (7 : Int32))])
  have hc11 : (7 : Int32) < (12 : Int32) := by decide
  refine own_go (fun _ => XS.icmpNo X8.here hx rfl (hb hby d1_11) rfl (tlt hc11).2.1) ?_
  show GG _ _ _ _ _ _ _ T8 (mkF m 14 #[.val (.int p0), .val (.ref bq1), .val (.int (12 : Int32)), .val (.int (7 : Int32)), .val (.ref w6)] [])
  refine own_go (fun _ => XS.aloadN X8.here hx rfl (hb hby d1_14) rfl rfl) ?_
  show GG _ _ _ _ _ _ _ T8 (mkF m 15 #[.val (.int p0), .val (.ref bq1), .val (.int (12 : Int32)), .val (.int (7 : Int32)), .val (.ref w6)] [(.ref bq1)])
  refine own_go (fun _ => XS.iloadN X8.here hx rfl (hb hby d1_15) rfl) ?_
  show GG _ _ _ _ _ _ _ T8 (mkF m 16 #[.val (.int p0), .val (.ref bq1), .val (.int (12 : Int32)), .val (.int (7 : Int32)), .val (.ref w6)] [(.int (7 : Int32)), (.ref bq1)])
  refine own_go (fun _ => own_aaload X8 hx hZ e8 Vq1 rfl (j := (7 : Int32)) (v := (.ref w7)) (by decide) rfl (g := (mkF m 16 #[.val (.int p0), .val (.ref bq1), .val (.int (12 : Int32)), .val (.int (7 : Int32)), .val (.ref w6)] [(.int (7 : Int32)), (.ref bq1)])) rfl rfl (hb hby d1_16) _) ?_
  show GG _ _ _ _ _ _ _ T8 (mkF m 17 #[.val (.int p0), .val (.ref bq1), .val (.int (12 : Int32)), .val (.int (7 : Int32)), .val (.ref w6)] [(.ref w7)])
  refine own_go (fun _ => XS.astore X8.here hx rfl (hb hby d1_17) rfl rfl (l' := #[.val (.int p0), .val (.ref bq1), .val (.int (12 : Int32)), .val (.int (7 : Int32)), .val (.ref w7)]) rfl) ?_
  show GG _ _ _ _ _ _ _ T8 (mkF m 19 #[.val (.int p0), .val (.ref bq1), .val (.int (12 : Int32)), .val (.int (7 : Int32)), .val (.ref w7)] [])
  refine own_go (fun _ => XS.aload X8.here hx rfl (hb hby d1_19) rfl rfl) ?_
  show GG _ _ _ _ _ _ _ T8 (mkF m 21 #[.val (.int p0), .val (.ref bq1), .val (.int (12 : Int32)), .val (.int (7 : Int32)), .val (.ref w7)] [(.ref w7)])
  obtain ⟨T9, X9, e9, st9⟩ := getF X8 hx hZ hown (host := "") (Or.inl (hw _ (List.mem_of_getElem? (i := 31) rfl))) Via.refl e8 F_7 (g := (mkF m 21 #[.val (.int p0), .val (.ref bq1), .val (.int (12 : Int32)), .val (.int (7 : Int32)), .val (.ref w7)] [(.ref w7)])) rfl rfl (hb hby d1_21)
  refine own_go (fun _ => st9 _) ?_
  show GG _ _ _ _ _ _ _ T9 (mkF m 24 #[.val (.int p0), .val (.ref bq1), .val (.int (12 : Int32)), .val (.int (7 : Int32)), .val (.ref w7)] [(.int (11 : Int32))])
  refine own_go (fun _ => XS.iloadN X9.here hx rfl (hb hby d1_24) rfl) ?_
  show GG _ _ _ _ _ _ _ T9 (mkF m 25 #[.val (.int p0), .val (.ref bq1), .val (.int (12 : Int32)), .val (.int (7 : Int32)), .val (.ref w7)] [(.int p0), (.int (11 : Int32))])
  have hc25 : ¬ ((11 : Int32) = p0) := by rw [hp]; decide
  refine own_go (fun _ => XS.icmpYes X9.here hx rfl (pc0 := 25) (pc' := 31) rfl (hb hby d1_25) rfl (feq hc25).2 (by decide) (by decide)) ?_
  show GG _ _ _ _ _ _ _ T9 (mkF m 31 #[.val (.int p0), .val (.ref bq1), .val (.int (12 : Int32)), .val (.int (7 : Int32)), .val (.ref w7)] [])
  refine own_go (fun _ => XS.iinc X9.here hx rfl (hb hby d1_31) rfl (l' := #[.val (.int p0), .val (.ref bq1), .val (.int (12 : Int32)), .val (.int (8 : Int32)), .val (.ref w7)]) rfl) ?_
  show GG _ _ _ _ _ _ _ T9 (mkF m 34 #[.val (.int p0), .val (.ref bq1), .val (.int (12 : Int32)), .val (.int (8 : Int32)), .val (.ref w7)] [])
  refine own_go (fun _ => XS.goto X9.here hx rfl (pc0 := 34) (pc' := 9) rfl (hb hby d1_34) (by decide) (by decide)) ?_
  show GG _ _ _ _ _ _ _ T9 (mkF m 9 #[.val (.int p0), .val (.ref bq1), .val (.int (12 : Int32)), .val (.int (8 : Int32)), .val (.ref w7)] [])
  refine own_go (fun _ => XS.iloadN X9.here hx rfl (hb hby d1_9) rfl) ?_
  show GG _ _ _ _ _ _ _ T9 (mkF m 10 #[.val (.int p0), .val (.ref bq1), .val (.int (12 : Int32)), .val (.int (8 : Int32)), .val (.ref w7)] [(.int (8 : Int32))])
  refine own_go (fun _ => XS.iloadN X9.here hx rfl (hb hby d1_10) rfl) ?_
  show GG _ _ _ _ _ _ _ T9 (mkF m 11 #[.val (.int p0), .val (.ref bq1), .val (.int (12 : Int32)), .val (.int (8 : Int32)), .val (.ref w7)] [(.int (12 : Int32)), (.int (8 : Int32))])
  have hc11 : (8 : Int32) < (12 : Int32) := by decide
  refine own_go (fun _ => XS.icmpNo X9.here hx rfl (hb hby d1_11) rfl (tlt hc11).2.1) ?_
  show GG _ _ _ _ _ _ _ T9 (mkF m 14 #[.val (.int p0), .val (.ref bq1), .val (.int (12 : Int32)), .val (.int (8 : Int32)), .val (.ref w7)] [])
  refine own_go (fun _ => XS.aloadN X9.here hx rfl (hb hby d1_14) rfl rfl) ?_
  show GG _ _ _ _ _ _ _ T9 (mkF m 15 #[.val (.int p0), .val (.ref bq1), .val (.int (12 : Int32)), .val (.int (8 : Int32)), .val (.ref w7)] [(.ref bq1)])
  refine own_go (fun _ => XS.iloadN X9.here hx rfl (hb hby d1_15) rfl) ?_
  show GG _ _ _ _ _ _ _ T9 (mkF m 16 #[.val (.int p0), .val (.ref bq1), .val (.int (12 : Int32)), .val (.int (8 : Int32)), .val (.ref w7)] [(.int (8 : Int32)), (.ref bq1)])
  refine own_go (fun _ => own_aaload X9 hx hZ e9 Vq1 rfl (j := (8 : Int32)) (v := (.ref w8)) (by decide) rfl (g := (mkF m 16 #[.val (.int p0), .val (.ref bq1), .val (.int (12 : Int32)), .val (.int (8 : Int32)), .val (.ref w7)] [(.int (8 : Int32)), (.ref bq1)])) rfl rfl (hb hby d1_16) _) ?_
  show GG _ _ _ _ _ _ _ T9 (mkF m 17 #[.val (.int p0), .val (.ref bq1), .val (.int (12 : Int32)), .val (.int (8 : Int32)), .val (.ref w7)] [(.ref w8)])
  refine own_go (fun _ => XS.astore X9.here hx rfl (hb hby d1_17) rfl rfl (l' := #[.val (.int p0), .val (.ref bq1), .val (.int (12 : Int32)), .val (.int (8 : Int32)), .val (.ref w8)]) rfl) ?_
  show GG _ _ _ _ _ _ _ T9 (mkF m 19 #[.val (.int p0), .val (.ref bq1), .val (.int (12 : Int32)), .val (.int (8 : Int32)), .val (.ref w8)] [])
  refine own_go (fun _ => XS.aload X9.here hx rfl (hb hby d1_19) rfl rfl) ?_
  show GG _ _ _ _ _ _ _ T9 (mkF m 21 #[.val (.int p0), .val (.ref bq1), .val (.int (12 : Int32)), .val (.int (8 : Int32)), .val (.ref w8)] [(.ref w8)])
  obtain ⟨T10, X10, e10, st10⟩ := getF X9 hx hZ hown (host := "") (Or.inl (hw _ (List.mem_of_getElem? (i := 31) rfl))) Via.refl e9 F_8 (g := (mkF m 21 #[.val (.int p0), .val (.ref bq1), .val (.int (12 : Int32)), .val (.int (8 : Int32)), .val (.ref w8)] [(.ref w8)])) rfl rfl (hb hby d1_21)
  refine own_go (fun _ => st10 _) ?_
  show GG _ _ _ _ _ _ _ T10 (mkF m 24 #[.val (.int p0), .val (.ref bq1), .val (.int (12 : Int32)), .val (.int (8 : Int32)), .val (.ref w8)] [(.int (12 : Int32))])
  refine own_go (fun _ => XS.iloadN X10.here hx rfl (hb hby d1_24) rfl) ?_
  show GG _ _ _ _ _ _ _ T10 (mkF m 25 #[.val (.int p0), .val (.ref bq1), .val (.int (12 : Int32)), .val (.int (8 : Int32)), .val (.ref w8)] [(.int p0), (.int (12 : Int32))])
  have hc25 : (12 : Int32) = p0 := hp.symm
  refine own_go (fun _ => XS.icmpNo X10.here hx rfl (hb hby d1_25) rfl (teq hc25).2) ?_
  show GG _ _ _ _ _ _ _ T10 (mkF m 28 #[.val (.int p0), .val (.ref bq1), .val (.int (12 : Int32)), .val (.int (8 : Int32)), .val (.ref w8)] [])
  refine own_go (fun _ => XS.aload X10.here hx rfl (hb hby d1_28) rfl rfl) ?_
  show GG _ _ _ _ _ _ _ T10 (mkF m 30 #[.val (.int p0), .val (.ref bq1), .val (.int (12 : Int32)), .val (.int (8 : Int32)), .val (.ref w8)] [(.ref w8)])
  refine own_ret X10 hx hlk (t := (.object "com/example/bellwether/bellwether/protocol/OpCode")) (w := (.ref w8)) Bd.returns rfl (Or.inr (Or.inr (Or.inr (Or.inr ⟨rfl, rfl, rfl⟩)))) (hb hby d1_30) (by decide) (by decide) ?_
  show Q1_8 Z p0 wV w0 w1 w2 w3 w4 w5 w6 w7 w8 w9 w10 w11 h0 n0 (some (.ref w8)) T10.heap _
  rw [e10]
  exact ⟨rfl, N1, K0⟩
def Q1_9 (Z : State) (p0 : Int32) (wV : Addr) (w0 w1 w2 w3 w4 w5 w6 w7 w8 w9 w10 w11 : Addr) (h0 : Heap) (n0 : Nat) (v : Option Value) (h : Heap) (L : List Loc) : Prop := v = some (.ref w9) ∧ Fr n0 L ∧ Keep h0 h []
set_option maxRecDepth 65536 in
set_option maxHeartbeats 40000000 in
theorem rm1_9 (l : Launch) (Z : State) (a0 : Array Value) (hw : ∀ d ∈ tables_1, d.before a0 Z = true) (ws : List Jvm.Cond) (p0 : Int32) (wV : Addr) (w0 w1 w2 w3 w4 w5 w6 w7 w8 w9 w10 w11 : Addr) (h0 : Heap) (n0 : Nat) (Z0 : n0 ≤ h0.size) (hp : p0 = (13 : Int32)) (S_V : Sta Z h0 "com/example/bellwether/bellwether/protocol/OpCode" "$VALUES" "[Lcom/example/bellwether/bellwether/protocol/OpCode;" (.ref wV)) (V_V : Arx Z h0 wV (.object "com/example/bellwether/bellwether/protocol/OpCode") [(.ref w0), (.ref w1), (.ref w2), (.ref w3), (.ref w4), (.ref w5), (.ref w6), (.ref w7), (.ref w8), (.ref w9), (.ref w10), (.ref w11)]) (E_V : Exa Z h0 wV "[Lcom/example/bellwether/bellwether/protocol/OpCode;") (F_0 : Fld Z h0 w0 "com/example/bellwether/bellwether/protocol/OpCode" "code" "I" (.int (1 : Int32))) (F_1 : Fld Z h0 w1 "com/example/bellwether/bellwether/protocol/OpCode" "code" "I" (.int (2 : Int32))) (F_2 : Fld Z h0 w2 "com/example/bellwether/bellwether/protocol/OpCode" "code" "I" (.int (3 : Int32))) (F_3 : Fld Z h0 w3 "com/example/bellwether/bellwether/protocol/OpCode" "code" "I" (.int (4 : Int32))) (F_4 : Fld Z h0 w4 "com/example/bellwether/bellwether/protocol/OpCode" "code" "I" (.int (5 : Int32))) (F_5 : Fld Z h0 w5 "com/example/bellwether/bellwether/protocol/OpCode" "code" "I" (.int (8 : Int32))) (F_6 : Fld Z h0 w6 "com/example/bellwether/bellwether/protocol/OpCode" "code" "I" (.int (9 : Int32))) (F_7 : Fld Z h0 w7 "com/example/bellwether/bellwether/protocol/OpCode" "code" "I" (.int (11 : Int32))) (F_8 : Fld Z h0 w8 "com/example/bellwether/bellwether/protocol/OpCode" "code" "I" (.int (12 : Int32))) (F_9 : Fld Z h0 w9 "com/example/bellwether/bellwether/protocol/OpCode" "code" "I" (.int (13 : Int32))) (F_10 : Fld Z h0 w10 "com/example/bellwether/bellwether/protocol/OpCode" "code" "I" (.int (14 : Int32))) (F_11 : Fld Z h0 w11 "com/example/bellwether/bellwether/protocol/OpCode" "code" "I" (.int (-11 : Int32))) :
    own_CT l Z (⟨"com/example/bellwether/bellwether/protocol/OpCode", "of", "(I)Lcom/example/bellwether/bellwether/protocol/OpCode;"⟩ : MethodName) prog_23_method_5_code 5 (some (.object "com/example/bellwether/bellwether/protocol/OpCode")) ws ({ frames := 2, cells := 1, slots := 12, locals := 25 } : Room) #[(.int p0)] h0 (Q1_9 Z p0 wV w0 w1 w2 w3 w4 w5 w6 w7 w8 w9 w10 w11 h0 n0) := by
  refine MetFree.of_bodySF (plainFor_of_name pn_com_example_bellwether_bellwether_protocol_OpCode) hisR ?_
  intro p e s m args below meth c s₁ Bd hml0 hP hK
  obtain ⟨rfl, hZ, hh⟩ := hP
  have hx := Bd.exec
  have hby := Bd.bytes
  have hml : c.maxLocals = 5 := hml0
  have hown : s.vm.findClass "com/example/bellwether/bellwether/protocol/OpCode" = some m.cls := findClass_of_methodNamed Bd.named
  have hnm := (name_of_methodNamed Bd.named Bd.method).1
  have hlk : meth.locks = false := BodyLoose.notSynchronized Bd
  have X0 : Stand p l e ({ frames := 2, cells := 1, slots := 12, locals := 25 } : Room) s m #[(.int p0)] below meth c s₁ [] 0 0 := Stand.of_body Bd
  have e0 : s₁.heap = h0 := by rw [← hh, Bd.state]; rfl
  have N0 := Fr.nil n0
  show GG p e below s ({ frames := 2, cells := 1, slots := 12, locals := 25 } : Room).cells ({ frames := 2, cells := 1, slots := 12, locals := 25 } : Room).slots (Q1_9 Z p0 wV w0 w1 w2 w3 w4 w5 w6 w7 w8 w9 w10 w11 h0 n0) s₁ (entryFrame m #[(.int p0)] 5)
  refine own_in (ef_1 m p0) ?_
  have K0 := Keep.refl h0 []
  show GG _ _ _ _ _ _ _ s₁ (mkF m 0 #[.val (.int p0), .unset, .unset, .unset, .unset] [])
  refine own_callS X0 hx hZ (y := (⟨"com/example/bellwether/bellwether/protocol/OpCode", "values", "()[Lcom/example/bellwether/bellwether/protocol/OpCode;"⟩ : MethodName)) 0 hown (hw _ (List.mem_of_getElem? (i := 4) rfl)) (hw _ (List.mem_of_getElem? (i := 5) rfl)) (hw _ (List.mem_of_getElem? (i := 2) rfl)) (hw _ (List.mem_of_getElem? (i := 6) rfl)) (by decide) (argsL := []) (rest := []) (rm2 l Z a0 hw [] wV w0 w1 w2 w3 w4 w5 w6 w7 w8 w9 w10 w11 h0 n0 Z0 S_V V_V E_V) (by decide) (by decide) (by decide) (by decide) (g := (mkF m 0 #[.val (.int p0), .unset, .unset, .unset, .unset] [])) rfl (by rw [hml]; rfl) (lenOf pd____Lcom_example_bellwether_bellwether_pr_216 rfl) rfl (by show 2 * 0 + _ ≤ _; exact Nat.le_of_eq rfl) (hb hby d1_0) e0 ?_
  rintro v1 T1 L1 X1 ⟨bq1, rfl, N1q, szq1, Kq1, Vq1⟩
  have N1 := Fr.app N0 N1q
  have K0 := K0.trans Kq1 all0
  have F_0 := F_0.keep Kq1 nin0
  have F_1 := F_1.keep Kq1 nin0
  have F_2 := F_2.keep Kq1 nin0
  have F_3 := F_3.keep Kq1 nin0
  have F_4 := F_4.keep Kq1 nin0
  have F_5 := F_5.keep Kq1 nin0
  have F_6 := F_6.keep Kq1 nin0
  have F_7 := F_7.keep Kq1 nin0
  have F_8 := F_8.keep Kq1 nin0
  have F_9 := F_9.keep Kq1 nin0
  have F_10 := F_10.keep Kq1 nin0
  have F_11 := F_11.keep Kq1 nin0
  show GG _ _ _ _ _ _ _ T1 (mkF m 3 #[.val (.int p0), .unset, .unset, .unset, .unset] [(.ref bq1)])
  refine own_go (fun _ => XS.astoreN X1.here hx rfl (hb hby d1_3) rfl rfl (l' := #[.val (.int p0), .val (.ref bq1), .unset, .unset, .unset]) rfl) ?_
  show GG _ _ _ _ _ _ _ T1 (mkF m 4 #[.val (.int p0), .val (.ref bq1), .unset, .unset, .unset] [])
  refine own_go (fun _ => XS.aloadN X1.here hx rfl (hb hby d1_4) rfl rfl) ?_
  show GG _ _ _ _ _ _ _ T1 (mkF m 5 #[.val (.int p0), .val (.ref bq1), .unset, .unset, .unset] [(.ref bq1)])
  refine own_go (fun _ => own_len X1 hx hZ rfl Vq1 (g := (mkF m 5 #[.val (.int p0), .val (.ref bq1), .unset, .unset, .unset] [(.ref bq1)])) rfl rfl (hb hby d1_5) _) ?_
  show GG _ _ _ _ _ _ _ T1 (mkF m 6 #[.val (.int p0), .val (.ref bq1), .unset, .unset, .unset] [(.int (12 : Int32))])
  refine own_go (fun _ => XS.istoreN X1.here hx rfl (hb hby d1_6) rfl (l' := #[.val (.int p0), .val (.ref bq1), .val (.int (12 : Int32)), .unset, .unset]) rfl) ?_
  show GG _ _ _ _ _ _ _ T1 (mkF m 7 #[.val (.int p0), .val (.ref bq1), .val (.int (12 : Int32)), .unset, .unset] [])
  refine own_go (fun _ => XS.iconst X1.here hx rfl (hb hby d1_7)) ?_
  show GG _ _ _ _ _ _ _ T1 (mkF m 8 #[.val (.int p0), .val (.ref bq1), .val (.int (12 : Int32)), .unset, .unset] [(.int (0 : Int32))])
  refine own_go (fun _ => XS.istoreN X1.here hx rfl (hb hby d1_8) rfl (l' := #[.val (.int p0), .val (.ref bq1), .val (.int (12 : Int32)), .val (.int (0 : Int32)), .unset]) rfl) ?_
  show GG _ _ _ _ _ _ _ T1 (mkF m 9 #[.val (.int p0), .val (.ref bq1), .val (.int (12 : Int32)), .val (.int (0 : Int32)), .unset] [])
  refine own_go (fun _ => XS.iloadN X1.here hx rfl (hb hby d1_9) rfl) ?_
  show GG _ _ _ _ _ _ _ T1 (mkF m 10 #[.val (.int p0), .val (.ref bq1), .val (.int (12 : Int32)), .val (.int (0 : Int32)), .unset] [(.int (0 : Int32))])
  refine own_go (fun _ => XS.iloadN X1.here hx rfl (hb hby d1_10) rfl) ?_
  show GG _ _ _ _ _ _ _ T1 (mkF m 11 #[.val (.int p0), .val (.ref bq1), .val (.int (12 : Int32)), .val (.int (0 : Int32)), .unset] [(.int (12 : Int32)), (.int (0 : Int32))])
  have hc11 : (0 : Int32) < (12 : Int32) := by decide
  refine own_go (fun _ => XS.icmpNo X1.here hx rfl (hb hby d1_11) rfl (tlt hc11).2.1) ?_
  show GG _ _ _ _ _ _ _ T1 (mkF m 14 #[.val (.int p0), .val (.ref bq1), .val (.int (12 : Int32)), .val (.int (0 : Int32)), .unset] [])
  refine own_go (fun _ => XS.aloadN X1.here hx rfl (hb hby d1_14) rfl rfl) ?_
  show GG _ _ _ _ _ _ _ T1 (mkF m 15 #[.val (.int p0), .val (.ref bq1), .val (.int (12 : Int32)), .val (.int (0 : Int32)), .unset] [(.ref bq1)])
  refine own_go (fun _ => XS.iloadN X1.here hx rfl (hb hby d1_15) rfl) ?_
  show GG _ _ _ _ _ _ _ T1 (mkF m 16 #[.val (.int p0), .val (.ref bq1), .val (.int (12 : Int32)), .val (.int (0 : Int32)), .unset] [(.int (0 : Int32)), (.ref bq1)])
  refine own_go (fun _ => own_aaload X1 hx hZ rfl Vq1 rfl (j := (0 : Int32)) (v := (.ref w0)) (by decide) rfl (g := (mkF m 16 #[.val (.int p0), .val (.ref bq1), .val (.int (12 : Int32)), .val (.int (0 : Int32)), .unset] [(.int (0 : Int32)), (.ref bq1)])) rfl rfl (hb hby d1_16) _) ?_
  show GG _ _ _ _ _ _ _ T1 (mkF m 17 #[.val (.int p0), .val (.ref bq1), .val (.int (12 : Int32)), .val (.int (0 : Int32)), .unset] [(.ref w0)])
  refine own_go (fun _ => XS.astore X1.here hx rfl (hb hby d1_17) rfl rfl (l' := #[.val (.int p0), .val (.ref bq1), .val (.int (12 : Int32)), .val (.int (0 : Int32)), .val (.ref w0)]) rfl) ?_
  show GG _ _ _ _ _ _ _ T1 (mkF m 19 #[.val (.int p0), .val (.ref bq1), .val (.int (12 : Int32)), .val (.int (0 : Int32)), .val (.ref w0)] [])
  refine own_go (fun _ => XS.aload X1.here hx rfl (hb hby d1_19) rfl rfl) ?_
  show GG _ _ _ _ _ _ _ T1 (mkF m 21 #[.val (.int p0), .val (.ref bq1), .val (.int (12 : Int32)), .val (.int (0 : Int32)), .val (.ref w0)] [(.ref w0)])
  obtain ⟨T2, X2, e2, st2⟩ := getF X1 hx hZ hown (host := "") (Or.inl (hw _ (List.mem_of_getElem? (i := 31) rfl))) Via.refl rfl F_0 (g := (mkF m 21 #[.val (.int p0), .val (.ref bq1), .val (.int (12 : Int32)), .val (.int (0 : Int32)), .val (.ref w0)] [(.ref w0)])) rfl rfl (hb hby d1_21)
  refine own_go (fun _ => st2 _) ?_
  show GG _ _ _ _ _ _ _ T2 (mkF m 24 #[.val (.int p0), .val (.ref bq1), .val (.int (12 : Int32)), .val (.int (0 : Int32)), .val (.ref w0)] [(.int (1 : Int32))])
  refine own_go (fun _ => XS.iloadN X2.here hx rfl (hb hby d1_24) rfl) ?_
  show GG _ _ _ _ _ _ _ T2 (mkF m 25 #[.val (.int p0), .val (.ref bq1), .val (.int (12 : Int32)), .val (.int (0 : Int32)), .val (.ref w0)] [(.int p0), (.int (1 : Int32))])
  have hc25 : ¬ ((1 : Int32) = p0) := by rw [hp]; decide
  refine own_go (fun _ => XS.icmpYes X2.here hx rfl (pc0 := 25) (pc' := 31) rfl (hb hby d1_25) rfl (feq hc25).2 (by decide) (by decide)) ?_
  show GG _ _ _ _ _ _ _ T2 (mkF m 31 #[.val (.int p0), .val (.ref bq1), .val (.int (12 : Int32)), .val (.int (0 : Int32)), .val (.ref w0)] [])
  refine own_go (fun _ => XS.iinc X2.here hx rfl (hb hby d1_31) rfl (l' := #[.val (.int p0), .val (.ref bq1), .val (.int (12 : Int32)), .val (.int (1 : Int32)), .val (.ref w0)]) rfl) ?_
  show GG _ _ _ _ _ _ _ T2 (mkF m 34 #[.val (.int p0), .val (.ref bq1), .val (.int (12 : Int32)), .val (.int (1 : Int32)), .val (.ref w0)] [])
  refine own_go (fun _ => XS.goto X2.here hx rfl (pc0 := 34) (pc' := 9) rfl (hb hby d1_34) (by decide) (by decide)) ?_
  show GG _ _ _ _ _ _ _ T2 (mkF m 9 #[.val (.int p0), .val (.ref bq1), .val (.int (12 : Int32)), .val (.int (1 : Int32)), .val (.ref w0)] [])
  refine own_go (fun _ => XS.iloadN X2.here hx rfl (hb hby d1_9) rfl) ?_
  show GG _ _ _ _ _ _ _ T2 (mkF m 10 #[.val (.int p0), .val (.ref bq1), .val (.int (12 : Int32)), .val (.int (1 : Int32)), .val (.ref w0)] [(.int (1 : Int32))])
  refine own_go (fun _ => XS.iloadN X2.here hx rfl (hb hby d1_10) rfl) ?_
  show GG _ _ _ _ _ _ _ T2 (mkF m 11 #[.val (.int p0), .val (.ref bq1), .val (.int (12 : Int32)), .val (.int (1 : Int32)), .val (.ref w0)] [(.int (12 : Int32)), (.int (1 : Int32))])
  have hc11 : (1 : Int32) < (12 : Int32) := by decide
  refine own_go (fun _ => XS.icmpNo X2.here hx rfl (hb hby d1_11) rfl (tlt hc11).2.1) ?_
  show GG _ _ _ _ _ _ _ T2 (mkF m 14 #[.val (.int p0), .val (.ref bq1), .val (.int (12 : Int32)), .val (.int (1 : Int32)), .val (.ref w0)] [])
  refine own_go (fun _ => XS.aloadN X2.here hx rfl (hb hby d1_14) rfl rfl) ?_
  show GG _ _ _ _ _ _ _ T2 (mkF m 15 #[.val (.int p0), .val (.ref bq1), .val (.int (12 : Int32)), .val (.int (1 : Int32)), .val (.ref w0)] [(.ref bq1)])
  refine own_go (fun _ => XS.iloadN X2.here hx rfl (hb hby d1_15) rfl) ?_
  show GG _ _ _ _ _ _ _ T2 (mkF m 16 #[.val (.int p0), .val (.ref bq1), .val (.int (12 : Int32)), .val (.int (1 : Int32)), .val (.ref w0)] [(.int (1 : Int32)), (.ref bq1)])
  refine own_go (fun _ => own_aaload X2 hx hZ e2 Vq1 rfl (j := (1 : Int32)) (v := (.ref w1)) (by decide) rfl (g := (mkF m 16 #[.val (.int p0), .val (.ref bq1), .val (.int (12 : Int32)), .val (.int (1 : Int32)), .val (.ref w0)] [(.int (1 : Int32)), (.ref bq1)])) rfl rfl (hb hby d1_16) _) ?_
  show GG _ _ _ _ _ _ _ T2 (mkF m 17 #[.val (.int p0), .val (.ref bq1), .val (.int (12 : Int32)), .val (.int (1 : Int32)), .val (.ref w0)] [(.ref w1)])
  refine own_go (fun _ => XS.astore X2.here hx rfl (hb hby d1_17) rfl rfl (l' := #[.val (.int p0), .val (.ref bq1), .val (.int (12 : Int32)), .val (.int (1 : Int32)), .val (.ref w1)]) rfl) ?_
  show GG _ _ _ _ _ _ _ T2 (mkF m 19 #[.val (.int p0), .val (.ref bq1), .val (.int (12 : Int32)), .val (.int (1 : Int32)), .val (.ref w1)] [])
  refine own_go (fun _ => XS.aload X2.here hx rfl (hb hby d1_19) rfl rfl) ?_
  show GG _ _ _ _ _ _ _ T2 (mkF m 21 #[.val (.int p0), .val (.ref bq1), .val (.int (12 : Int32)), .val (.int (1 : Int32)), .val (.ref w1)] [(.ref w1)])
  obtain ⟨T3, X3, e3, st3⟩ := getF X2 hx hZ hown (host := "") (Or.inl (hw _ (List.mem_of_getElem? (i := 31) rfl))) Via.refl e2 F_1 (g := (mkF m 21 #[.val (.int p0), .val (.ref bq1), .val (.int (12 : Int32)), .val (.int (1 : Int32)), .val (.ref w1)] [(.ref w1)])) rfl rfl (hb hby d1_21)
  refine own_go (fun _ => st3 _) ?_
  show GG _ _ _ _ _ _ _ T3 (mkF m 24 #[.val (.int p0), .val (.ref bq1), .val (.int (12 : Int32)), .val (.int (1 : Int32)), .val (.ref w1)] [(.int (2 : Int32))])
  refine own_go (fun _ => XS.iloadN X3.here hx rfl (hb hby d1_24) rfl) ?_
  show GG _ _ _ _ _ _ _ T3 (mkF m 25 #[.val (.int p0), .val (.ref bq1), .val (.int (12 : Int32)), .val (.int (1 : Int32)), .val (.ref w1)] [(.int p0), (.int (2 : Int32))])
  have hc25 : ¬ ((2 : Int32) = p0) := by rw [hp]; decide
  refine own_go (fun _ => XS.icmpYes X3.here hx rfl (pc0 := 25) (pc' := 31) rfl (hb hby d1_25) rfl (feq hc25).2 (by decide) (by decide)) ?_
  show GG _ _ _ _ _ _ _ T3 (mkF m 31 #[.val (.int p0), .val (.ref bq1), .val (.int (12 : Int32)), .val (.int (1 : Int32)), .val (.ref w1)] [])
  refine own_go (fun _ => XS.iinc X3.here hx rfl (hb hby d1_31) rfl (l' := #[.val (.int p0), .val (.ref bq1), .val (.int (12 : Int32)), .val (.int (2 : Int32)), .val (.ref w1)]) rfl) ?_
  show GG _ _ _ _ _ _ _ T3 (mkF m 34 #[.val (.int p0), .val (.ref bq1), .val (.int (12 : Int32)), .val (.int (2 : Int32)), .val (.ref w1)] [])
  refine own_go (fun _ => XS.goto X3.here hx rfl (pc0 := 34) (pc' := 9) rfl (hb hby d1_34) (by decide) (by decide)) ?_
  show GG _ _ _ _ _ _ _ T3 (mkF m 9 #[.val (.int p0), .val (.ref bq1), .val (.int (12 : Int32)), .val (.int (2 : Int32)), .val (.ref w1)] [])
  refine own_go (fun _ => XS.iloadN X3.here hx rfl (hb hby d1_9) rfl) ?_
  show GG _ _ _ _ _ _ _ T3 (mkF m 10 #[.val (.int p0), .val (.ref bq1), .val (.int (12 : Int32)), .val (.int (2 : Int32)), .val (.ref w1)] [(.int (2 : Int32))])
  refine own_go (fun _ => XS.iloadN X3.here hx rfl (hb hby d1_10) rfl) ?_
  show GG _ _ _ _ _ _ _ T3 (mkF m 11 #[.val (.int p0), .val (.ref bq1), .val (.int (12 : Int32)), .val (.int (2 : Int32)), .val (.ref w1)] [(.int (12 : Int32)), (.int (2 : Int32))])
  have hc11 : (2 : Int32) < (12 : Int32) := by decide
  refine own_go (fun _ => XS.icmpNo X3.here hx rfl (hb hby d1_11) rfl (tlt hc11).2.1) ?_
  show GG _ _ _ _ _ _ _ T3 (mkF m 14 #[.val (.int p0), .val (.ref bq1), .val (.int (12 : Int32)), .val (.int (2 : Int32)), .val (.ref w1)] [])
  refine own_go (fun _ => XS.aloadN X3.here hx rfl (hb hby d1_14) rfl rfl) ?_
  show GG _ _ _ _ _ _ _ T3 (mkF m 15 #[.val (.int p0), .val (.ref bq1), .val (.int (12 : Int32)), .val (.int (2 : Int32)), .val (.ref w1)] [(.ref bq1)])
  refine own_go (fun _ => XS.iloadN X3.here hx rfl (hb hby d1_15) rfl) ?_
  show GG _ _ _ _ _ _ _ T3 (mkF m 16 #[.val (.int p0), .val (.ref bq1), .val (.int (12 : Int32)), .val (.int (2 : Int32)), .val (.ref w1)] [(.int (2 : Int32)), (.ref bq1)])
  refine own_go (fun _ => own_aaload X3 hx hZ e3 Vq1 rfl (j := (2 : Int32)) (v := (.ref w2)) (by decide) rfl (g := (mkF m 16 #[.val (.int p0), .val (.ref bq1), .val (.int (12 : Int32)), .val (.int (2 : Int32)), .val (.ref w1)] [(.int (2 : Int32)), (.ref bq1)])) rfl rfl (hb hby d1_16) _) ?_
  show GG _ _ _ _ _ _ _ T3 (mkF m 17 #[.val (.int p0), .val (.ref bq1), .val (.int (12 : Int32)), .val (.int (2 : Int32)), .val (.ref w1)] [(.ref w2)])
  refine own_go (fun _ => XS.astore X3.here hx rfl (hb hby d1_17) rfl rfl (l' := #[.val (.int p0), .val (.ref bq1), .val (.int (12 : Int32)), .val (.int (2 : Int32)), .val (.ref w2)]) rfl) ?_
  show GG _ _ _ _ _ _ _ T3 (mkF m 19 #[.val (.int p0), .val (.ref bq1), .val (.int (12 : Int32)), .val (.int (2 : Int32)), .val (.ref w2)] [])
  refine own_go (fun _ => XS.aload X3.here hx rfl (hb hby d1_19) rfl rfl) ?_
  show GG _ _ _ _ _ _ _ T3 (mkF m 21 #[.val (.int p0), .val (.ref bq1), .val (.int (12 : Int32)), .val (.int (2 : Int32)), .val (.ref w2)] [(.ref w2)])
  obtain ⟨T4, X4, e4, st4⟩ := getF X3 hx hZ hown (host := "") (Or.inl (hw _ (List.mem_of_getElem? (i := 31) rfl))) Via.refl e3 F_2 (g := (mkF m 21 #[.val (.int p0), .val (.ref bq1), .val (.int (12 : Int32)), .val (.int (2 : Int32)), .val (.ref w2)] [(.ref w2)])) rfl rfl (hb hby d1_21)
  refine own_go (fun _ => st4 _) ?_
  show GG _ _ _ _ _ _ _ T4 (mkF m 24 #[.val (.int p0), .val (.ref bq1), .val (.int (12 : Int32)), .val (.int (2 : Int32)), .val (.ref w2)] [(.int (3 : Int32))])
  refine own_go (fun _ => XS.iloadN X4.here hx rfl (hb hby d1_24) rfl) ?_
  show GG _ _ _ _ _ _ _ T4 (mkF m 25 #[.val (.int p0), .val (.ref bq1), .val (.int (12 : Int32)), .val (.int (2 : Int32)), .val (.ref w2)] [(.int p0), (.int (3 : Int32))])
  have hc25 : ¬ ((3 : Int32) = p0) := by rw [hp]; decide
  refine own_go (fun _ => XS.icmpYes X4.here hx rfl (pc0 := 25) (pc' := 31) rfl (hb hby d1_25) rfl (feq hc25).2 (by decide) (by decide)) ?_
  show GG _ _ _ _ _ _ _ T4 (mkF m 31 #[.val (.int p0), .val (.ref bq1), .val (.int (12 : Int32)), .val (.int (2 : Int32)), .val (.ref w2)] [])
  refine own_go (fun _ => XS.iinc X4.here hx rfl (hb hby d1_31) rfl (l' := #[.val (.int p0), .val (.ref bq1), .val (.int (12 : Int32)), .val (.int (3 : Int32)), .val (.ref w2)]) rfl) ?_
  show GG _ _ _ _ _ _ _ T4 (mkF m 34 #[.val (.int p0), .val (.ref bq1), .val (.int (12 : Int32)), .val (.int (3 : Int32)), .val (.ref w2)] [])
  refine own_go (fun _ => XS.goto X4.here hx rfl (pc0 := 34) (pc' := 9) rfl (hb hby d1_34) (by decide) (by decide)) ?_
  show GG _ _ _ _ _ _ _ T4 (mkF m 9 #[.val (.int p0), .val (.ref bq1), .val (.int (12 : Int32)), .val (.int (3 : Int32)), .val (.ref w2)] [])
  refine own_go (fun _ => XS.iloadN X4.here hx rfl (hb hby d1_9) rfl) ?_
  show GG _ _ _ _ _ _ _ T4 (mkF m 10 #[.val (.int p0), .val (.ref bq1), .val (.int (12 : Int32)), .val (.int (3 : Int32)), .val (.ref w2)] [(.int (3 : Int32))])
  refine own_go (fun _ => XS.iloadN X4.here hx rfl (hb hby d1_10) rfl) ?_
  show GG _ _ _ _ _ _ _ T4 (mkF m 11 #[.val (.int p0), .val (.ref bq1), .val (.int (12 : Int32)), .val (.int (3 : Int32)), .val (.ref w2)] [(.int (12 : Int32)), (.int (3 : Int32))])
  have hc11 : (3 : Int32) < (12 : Int32) := by decide
  refine own_go (fun _ => XS.icmpNo X4.here hx rfl (hb hby d1_11) rfl (tlt hc11).2.1) ?_
  show GG _ _ _ _ _ _ _ T4 (mkF m 14 #[.val (.int p0), .val (.ref bq1), .val (.int (12 : Int32)), .val (.int (3 : Int32)), .val (.ref w2)] [])
  refine own_go (fun _ => XS.aloadN X4.here hx rfl (hb hby d1_14) rfl rfl) ?_
  show GG _ _ _ _ _ _ _ T4 (mkF m 15 #[.val (.int p0), .val (.ref bq1), .val (.int (12 : Int32)), .val (.int (3 : Int32)), .val (.ref w2)] [(.ref bq1)])
  refine own_go (fun _ => XS.iloadN X4.here hx rfl (hb hby d1_15) rfl) ?_
  show GG _ _ _ _ _ _ _ T4 (mkF m 16 #[.val (.int p0), .val (.ref bq1), .val (.int (12 : Int32)), .val (.int (3 : Int32)), .val (.ref w2)] [(.int (3 : Int32)), (.ref bq1)])
  refine own_go (fun _ => own_aaload X4 hx hZ e4 Vq1 rfl (j := (3 : Int32)) (v := (.ref w3)) (by decide) rfl (g := (mkF m 16 #[.val (.int p0), .val (.ref bq1), .val (.int (12 : Int32)), .val (.int (3 : Int32)), .val (.ref w2)] [(.int (3 : Int32)), (.ref bq1)])) rfl rfl (hb hby d1_16) _) ?_
  show GG _ _ _ _ _ _ _ T4 (mkF m 17 #[.val (.int p0), .val (.ref bq1), .val (.int (12 : Int32)), .val (.int (3 : Int32)), .val (.ref w2)] [(.ref w3)])
  refine own_go (fun _ => XS.astore X4.here hx rfl (hb hby d1_17) rfl rfl (l' := #[.val (.int p0), .val (.ref bq1), .val (.int (12 : Int32)), .val (.int (3 : Int32)), .val (.ref w3)]) rfl) ?_
  show GG _ _ _ _ _ _ _ T4 (mkF m 19 #[.val (.int p0), .val (.ref bq1), .val (.int (12 : Int32)), .val (.int (3 : Int32)), .val (.ref w3)] [])
  refine own_go (fun _ => XS.aload X4.here hx rfl (hb hby d1_19) rfl rfl) ?_
  show GG _ _ _ _ _ _ _ T4 (mkF m 21 #[.val (.int p0), .val (.ref bq1), .val (.int (12 : Int32)), .val (.int (3 : Int32)), .val (.ref w3)] [(.ref w3)])
  obtain ⟨T5, X5, e5, st5⟩ := getF X4 hx hZ hown (host := "") (Or.inl (hw _ (List.mem_of_getElem? (i := 31) rfl))) Via.refl e4 F_3 (g := (mkF m 21 #[.val (.int p0), .val (.ref bq1), .val (.int (12 : Int32)), .val (.int (3 : Int32)), .val (.ref w3)] [(.ref w3)])) rfl rfl (hb hby d1_21)
  refine own_go (fun _ => st5 _) ?_
  show GG _ _ _ _ _ _ _ T5 (mkF m 24 #[.val (.int p0), .val (.ref bq1), .val (.int (12 : Int32)), .val (.int (3 : Int32)), .val (.ref w3)] [(.int (4 : Int32))])
  refine own_go (fun _ => XS.iloadN X5.here hx rfl (hb hby d1_24) rfl) ?_
  show GG _ _ _ _ _ _ _ T5 (mkF m 25 #[.val (.int p0), .val (.ref bq1), .val (.int (12 : Int32)), .val (.int (3 : Int32)), .val (.ref w3)] [(.int p0), (.int (4 : Int32))])
  have hc25 : ¬ ((4 : Int32) = p0) := by rw [hp]; decide
  refine own_go (fun _ => XS.icmpYes X5.here hx rfl (pc0 := 25) (pc' := 31) rfl (hb hby d1_25) rfl (feq hc25).2 (by decide) (by decide)) ?_
  show GG _ _ _ _ _ _ _ T5 (mkF m 31 #[.val (.int p0), .val (.ref bq1), .val (.int (12 : Int32)), .val (.int (3 : Int32)), .val (.ref w3)] [])
  refine own_go (fun _ => XS.iinc X5.here hx rfl (hb hby d1_31) rfl (l' := #[.val (.int p0), .val (.ref bq1), .val (.int (12 : Int32)), .val (.int (4 : Int32)), .val (.ref w3)]) rfl) ?_
  show GG _ _ _ _ _ _ _ T5 (mkF m 34 #[.val (.int p0), .val (.ref bq1), .val (.int (12 : Int32)), .val (.int (4 : Int32)), .val (.ref w3)] [])
  refine own_go (fun _ => XS.goto X5.here hx rfl (pc0 := 34) (pc' := 9) rfl (hb hby d1_34) (by decide) (by decide)) ?_
  show GG _ _ _ _ _ _ _ T5 (mkF m 9 #[.val (.int p0), .val (.ref bq1), .val (.int (12 : Int32)), .val (.int (4 : Int32)), .val (.ref w3)] [])
  refine own_go (fun _ => XS.iloadN X5.here hx rfl (hb hby d1_9) rfl) ?_
  show GG _ _ _ _ _ _ _ T5 (mkF m 10 #[.val (.int p0), .val (.ref bq1), .val (.int (12 : Int32)), .val (.int (4 : Int32)), .val (.ref w3)] [(.int (4 : Int32))])
  refine own_go (fun _ => XS.iloadN X5.here hx rfl (hb hby d1_10) rfl) ?_
  show GG _ _ _ _ _ _ _ T5 (mkF m 11 #[.val (.int p0), .val (.ref bq1), .val (.int (12 : Int32)), .val (.int (4 : Int32)), .val (.ref w3)] [(.int (12 : Int32)), (.int (4 : Int32))])
  have hc11 : (4 : Int32) < (12 : Int32) := by decide
  refine own_go (fun _ => XS.icmpNo X5.here hx rfl (hb hby d1_11) rfl (tlt hc11).2.1) ?_
  show GG _ _ _ _ _ _ _ T5 (mkF m 14 #[.val (.int p0), .val (.ref bq1), .val (.int (12 : Int32)), .val (.int (4 : Int32)), .val (.ref w3)] [])
  refine own_go (fun _ => XS.aloadN X5.here hx rfl (hb hby d1_14) rfl rfl) ?_
  show GG _ _ _ _ _ _ _ T5 (mkF m 15 #[.val (.int p0), .val (.ref bq1), .val (.int (12 : Int32)), .val (.int (4 : Int32)), .val (.ref w3)] [(.ref bq1)])
  refine own_go (fun _ => XS.iloadN X5.here hx rfl (hb hby d1_15) rfl) ?_
  show GG _ _ _ _ _ _ _ T5 (mkF m 16 #[.val (.int p0), .val (.ref bq1), .val (.int (12 : Int32)), .val (.int (4 : Int32)), .val (.ref w3)] [(.int (4 : Int32)), (.ref bq1)])
  refine own_go (fun _ => own_aaload X5 hx hZ e5 Vq1 rfl (j := (4 : Int32)) (v := (.ref w4)) (by decide) rfl (g := (mkF m 16 #[.val (.int p0), .val (.ref bq1), .val (.int (12 : Int32)), .val (.int (4 : Int32)), .val (.ref w3)] [(.int (4 : Int32)), (.ref bq1)])) rfl rfl (hb hby d1_16) _) ?_
  show GG _ _ _ _ _ _ _ T5 (mkF m 17 #[.val (.int p0), .val (.ref bq1), .val (.int (12 : Int32)), .val (.int (4 : Int32)), .val (.ref w3)] [(.ref w4)])
  refine own_go (fun _ => XS.astore X5.here hx rfl (hb hby d1_17) rfl rfl (l' := #[.val (.int p0), .val (.ref bq1), .val (.int (12 : Int32)), .val (.int (4 : Int32)), .val (.ref w4)]) rfl) ?_
  show GG _ _ _ _ _ _ _ T5 (mkF m 19 #[.val (.int p0), .val (.ref bq1), .val (.int (12 : Int32)), .val (.int (4 : Int32)), .val (.ref w4)] [])
  refine own_go (fun _ => XS.aload X5.here hx rfl (hb hby d1_19) rfl rfl) ?_
  show GG _ _ _ _ _ _ _ T5 (mkF m 21 #[.val (.int p0), .val (.ref bq1), .val (.int (12 : Int32)), .val (.int (4 : Int32)), .val (.ref w4)] [(.ref w4)])
  obtain ⟨T6, X6, e6, st6⟩ := getF X5 hx hZ hown (host := "") (Or.inl (hw _ (List.mem_of_getElem? (i := 31) rfl))) Via.refl e5 F_4 (g := (mkF m 21 #[.val (.int p0), .val (.ref bq1), .val (.int (12 : Int32)), .val (.int (4 : Int32)), .val (.ref w4)] [(.ref w4)])) rfl rfl (hb hby d1_21)
  refine own_go (fun _ => st6 _) ?_
  show GG _ _ _ _ _ _ _ T6 (mkF m 24 #[.val (.int p0), .val (.ref bq1), .val (.int (12 : Int32)), .val (.int (4 : Int32)), .val (.ref w4)] [(.int (5 : Int32))])
  refine own_go (fun _ => XS.iloadN X6.here hx rfl (hb hby d1_24) rfl) ?_
  show GG _ _ _ _ _ _ _ T6 (mkF m 25 #[.val (.int p0), .val (.ref bq1), .val (.int (12 : Int32)), .val (.int (4 : Int32)), .val (.ref w4)] [(.int p0), (.int (5 : Int32))])
  have hc25 : ¬ ((5 : Int32) = p0) := by rw [hp]; decide
  refine own_go (fun _ => XS.icmpYes X6.here hx rfl (pc0 := 25) (pc' := 31) rfl (hb hby d1_25) rfl (feq hc25).2 (by decide) (by decide)) ?_
  show GG _ _ _ _ _ _ _ T6 (mkF m 31 #[.val (.int p0), .val (.ref bq1), .val (.int (12 : Int32)), .val (.int (4 : Int32)), .val (.ref w4)] [])
  refine own_go (fun _ => XS.iinc X6.here hx rfl (hb hby d1_31) rfl (l' := #[.val (.int p0), .val (.ref bq1), .val (.int (12 : Int32)), .val (.int (5 : Int32)), .val (.ref w4)]) rfl) ?_
  show GG _ _ _ _ _ _ _ T6 (mkF m 34 #[.val (.int p0), .val (.ref bq1), .val (.int (12 : Int32)), .val (.int (5 : Int32)), .val (.ref w4)] [])
  refine own_go (fun _ => XS.goto X6.here hx rfl (pc0 := 34) (pc' := 9) rfl (hb hby d1_34) (by decide) (by decide)) ?_
  show GG _ _ _ _ _ _ _ T6 (mkF m 9 #[.val (.int p0), .val (.ref bq1), .val (.int (12 : Int32)), .val (.int (5 : Int32)), .val (.ref w4)] [])
  refine own_go (fun _ => XS.iloadN X6.here hx rfl (hb hby d1_9) rfl) ?_
  show GG _ _ _ _ _ _ _ T6 (mkF m 10 #[.val (.int p0), .val (.ref bq1), .val (.int (12 : Int32)), .val (.int (5 : Int32)), .val (.ref w4)] [(.int (5 : Int32))])
  refine own_go (fun _ => XS.iloadN X6.here hx rfl (hb hby d1_10) rfl) ?_
  show GG _ _ _ _ _ _ _ T6 (mkF m 11 #[.val (.int p0), .val (.ref bq1), .val (.int (12 : Int32)), .val (.int (5 : Int32)), .val (.ref w4)] [(.int (12 : Int32)), (.int (5 : Int32))])
  have hc11 : (5 : Int32) < (12 : Int32) := by decide
  refine own_go (fun _ => XS.icmpNo X6.here hx rfl (hb hby d1_11) rfl (tlt hc11).2.1) ?_
  show GG _ _ _ _ _ _ _ T6 (mkF m 14 #[.val (.int p0), .val (.ref bq1), .val (.int (12 : Int32)), .val (.int (5 : Int32)), .val (.ref w4)] [])
  refine own_go (fun _ => XS.aloadN X6.here hx rfl (hb hby d1_14) rfl rfl) ?_
  show GG _ _ _ _ _ _ _ T6 (mkF m 15 #[.val (.int p0), .val (.ref bq1), .val (.int (12 : Int32)), .val (.int (5 : Int32)), .val (.ref w4)] [(.ref bq1)])
  refine own_go (fun _ => XS.iloadN X6.here hx rfl (hb hby d1_15) rfl) ?_
  show GG _ _ _ _ _ _ _ T6 (mkF m 16 #[.val (.int p0), .val (.ref bq1), .val (.int (12 : Int32)), .val (.int (5 : Int32)), .val (.ref w4)] [(.int (5 : Int32)), (.ref bq1)])
  refine own_go (fun _ => own_aaload X6 hx hZ e6 Vq1 rfl (j := (5 : Int32)) (v := (.ref w5)) (by decide) rfl (g := (mkF m 16 #[.val (.int p0), .val (.ref bq1), .val (.int (12 : Int32)), .val (.int (5 : Int32)), .val (.ref w4)] [(.int (5 : Int32)), (.ref bq1)])) rfl rfl (hb hby d1_16) _) ?_
  show GG _ _ _ _ _ _ _ T6 (mkF m 17 #[.val (.int p0), .val (.ref bq1), .val (.int (12 : Int32)), .val (.int (5 : Int32)), .val (.ref w4)] [(.ref w5)])
  refine own_go (fun _ => XS.astore X6.here hx rfl (hb hby d1_17) rfl rfl (l' := #[.val (.int p0), .val (.ref bq1), .val (.int (12 : Int32)), .val (.int (5 : Int32)), .val (.ref w5)]) rfl) ?_
  show GG _ _ _ _ _ _ _ T6 (mkF m 19 #[.val (.int p0), .val (.ref bq1), .val (.int (12 : Int32)), .val (.int (5 : Int32)), .val (.ref w5)] [])
  refine own_go (fun _ => XS.aload X6.here hx rfl (hb hby d1_19) rfl rfl) ?_
  show GG _ _ _ _ _ _ _ T6 (mkF m 21 #[.val (.int p0), .val (.ref bq1), .val (.int (12 : Int32)), .val (.int (5 : Int32)), .val (.ref w5)] [(.ref w5)])
  obtain ⟨T7, X7, e7, st7⟩ := getF X6 hx hZ hown (host := "") (Or.inl (hw _ (List.mem_of_getElem? (i := 31) rfl))) Via.refl e6 F_5 (g := (mkF m 21 #[.val (.int p0), .val (.ref bq1), .val (.int (12 : Int32)), .val (.int (5 : Int32)), .val (.ref w5)] [(.ref w5)])) rfl rfl (hb hby d1_21)
  refine own_go (fun _ => st7 _) ?_
  show GG _ _ _ _ _ _ _ T7 (mkF m 24 #[.val (.int p0), .val (.ref bq1), .val (.int (12 : Int32)), .val (.int (5 : Int32)), .val (.ref w5)] [(.int (8 : Int32))])
  refine own_go (fun _ => XS.iloadN X7.here hx rfl (hb hby d1_24) rfl) ?_
  show GG _ _ _ _ _ _ _ T7 (mkF m 25 #[.val (.int p0), .val (.ref bq1), .val (.int (12 : Int32)), .val (.int (5 : Int32)), .val (.ref w5)] [(.int p0), (.int (8 : Int32))])
  have hc25 : ¬ ((8 : Int32) = p0) := by rw [hp]; decide
  refine own_go (fun _ => XS.icmpYes X7.here hx rfl (pc0 := 25) (pc' := 31) rfl (hb hby d1_25) rfl (feq hc25).2 (by decide) (by decide)) ?_
  show GG _ _ _ _ _ _ _ T7 (mkF m 31 #[.val (.int p0), .val (.ref bq1), .val (.int (12 : Int32)), .val (.int (5 : Int32)), .val (.ref w5)] [])
  refine own_go (fun _ => XS.iinc X7.here hx rfl (hb hby d1_31) rfl (l' := #[.val (.int p0), .val (.ref bq1), .val (.int (12 : Int32)), .val (.int (6 : Int32)), .val (.ref w5)]) rfl) ?_
  show GG _ _ _ _ _ _ _ T7 (mkF m 34 #[.val (.int p0), .val (.ref bq1), .val (.int (12 : Int32)), .val (.int (6 : Int32)), .val (.ref w5)] [])
  refine own_go (fun _ => XS.goto X7.here hx rfl (pc0 := 34) (pc' := 9) rfl (hb hby d1_34) (by decide) (by decide)) ?_
  show GG _ _ _ _ _ _ _ T7 (mkF m 9 #[.val (.int p0), .val (.ref bq1), .val (.int (12 : Int32)), .val (.int (6 : Int32)), .val (.ref w5)] [])
  refine own_go (fun _ => XS.iloadN X7.here hx rfl (hb hby d1_9) rfl) ?_
  show GG _ _ _ _ _ _ _ T7 (mkF m 10 #[.val (.int p0), .val (.ref bq1), .val (.int (12 : Int32)), .val (.int (6 : Int32)), .val (.ref w5)] [(.int (6 : Int32))])
  refine own_go (fun _ => XS.iloadN X7.here hx rfl (hb hby d1_10) rfl) ?_
  show GG _ _ _ _ _ _ _ T7 (mkF m 11 #[.val (.int p0), .val (.ref bq1), .val (.int (12 : Int32)), .val (.int (6 : Int32)), .val (.ref w5)] [(.int (12 : Int32)), (.int (6 : Int32))])
  have hc11 : (6 : Int32) < (12 : Int32) := by decide
  refine own_go (fun _ => XS.icmpNo X7.here hx rfl (hb hby d1_11) rfl (tlt hc11).2.1) ?_
  show GG _ _ _ _ _ _ _ T7 (mkF m 14 #[.val (.int p0), .val (.ref bq1), .val (.int (12 : Int32)), .val (.int (6 : Int32)), .val (.ref w5)] [])
  refine own_go (fun _ => XS.aloadN X7.here hx rfl (hb hby d1_14) rfl rfl) ?_
  show GG _ _ _ _ _ _ _ T7 (mkF m 15 #[.val (.int p0), .val (.ref bq1), .val (.int (12 : Int32)), .val (.int (6 : Int32)), .val (.ref w5)] [(.ref bq1)])
  refine own_go (fun _ => XS.iloadN X7.here hx rfl (hb hby d1_15) rfl) ?_
  show GG _ _ _ _ _ _ _ T7 (mkF m 16 #[.val (.int p0), .val (.ref bq1), .val (.int (12 : Int32)), .val (.int (6 : Int32)), .val (.ref w5)] [(.int (6 : Int32)), (.ref bq1)])
  refine own_go (fun _ => own_aaload X7 hx hZ e7 Vq1 rfl (j := (6 : Int32)) (v := (.ref w6)) (by decide) rfl (g := (mkF m 16 #[.val (.int p0), .val (.ref bq1), .val (.int (12 : Int32)), .val (.int (6 : Int32)), .val (.ref w5)] [(.int (6 : Int32)), (.ref bq1)])) rfl rfl (hb hby d1_16) _) ?_
  show GG _ _ _ _ _ _ _ T7 (mkF m 17 #[.val (.int p0), .val (.ref bq1), .val (.int (12 : Int32)), .val (.int (6 : Int32)), .val (.ref w5)] [(.ref w6)])
  refine own_go (fun _ => XS.astore X7.here hx rfl (hb hby d1_17) rfl rfl (l' := #[.val (.int p0), .val (.ref bq1), .val (.int (12 : Int32)), .val (.int (6 : Int32)), .val (.ref w6)]) rfl) ?_
  show GG _ _ _ _ _ _ _ T7 (mkF m 19 #[.val (.int p0), .val (.ref bq1), .val (.int (12 : Int32)), .val (.int (6 : Int32)), .val (.ref w6)] [])
  refine own_go (fun _ => XS.aload X7.here hx rfl (hb hby d1_19) rfl rfl) ?_
  show GG _ _ _ _ _ _ _ T7 (mkF m 21 #[.val (.int p0), .val (.ref bq1), .val (.int (12 : Int32)), .val (.int (6 : Int32)), .val (.ref w6)] [(.ref w6)])
  obtain ⟨T8, X8, e8, st8⟩ := getF X7 hx hZ hown (host := "") (Or.inl (hw _ (List.mem_of_getElem? (i := 31) rfl))) Via.refl e7 F_6 (g := (mkF m 21 #[.val (.int p0), .val (.ref bq1), .val (.int (12 : Int32)), .val (.int (6 : Int32)), .val (.ref w6)] [(.ref w6)])) rfl rfl (hb hby d1_21)
  refine own_go (fun _ => st8 _) ?_
  show GG _ _ _ _ _ _ _ T8 (mkF m 24 #[.val (.int p0), .val (.ref bq1), .val (.int (12 : Int32)), .val (.int (6 : Int32)), .val (.ref w6)] [(.int (9 : Int32))])
  refine own_go (fun _ => XS.iloadN X8.here hx rfl (hb hby d1_24) rfl) ?_
  show GG _ _ _ _ _ _ _ T8 (mkF m 25 #[.val (.int p0), .val (.ref bq1), .val (.int (12 : Int32)), .val (.int (6 : Int32)), .val (.ref w6)] [(.int p0), (.int (9 : Int32))])
  have hc25 : ¬ ((9 : Int32) = p0) := by rw [hp]; decide
  refine own_go (fun _ => XS.icmpYes X8.here hx rfl (pc0 := 25) (pc' := 31) rfl (hb hby d1_25) rfl (feq hc25).2 (by decide) (by decide)) ?_
  show GG _ _ _ _ _ _ _ T8 (mkF m 31 #[.val (.int p0), .val (.ref bq1), .val (.int (12 : Int32)), .val (.int (6 : Int32)), .val (.ref w6)] [])
  refine own_go (fun _ => XS.iinc X8.here hx rfl (hb hby d1_31) rfl (l' := #[.val (.int p0), .val (.ref bq1), .val (.int (12 : Int32)), .val (.int (7 : Int32)), .val (.ref w6)]) rfl) ?_
  show GG _ _ _ _ _ _ _ T8 (mkF m 34 #[.val (.int p0), .val (.ref bq1), .val (.int (12 : Int32)), .val (.int (7 : Int32)), .val (.ref w6)] [])
  refine own_go (fun _ => XS.goto X8.here hx rfl (pc0 := 34) (pc' := 9) rfl (hb hby d1_34) (by decide) (by decide)) ?_
  show GG _ _ _ _ _ _ _ T8 (mkF m 9 #[.val (.int p0), .val (.ref bq1), .val (.int (12 : Int32)), .val (.int (7 : Int32)), .val (.ref w6)] [])
  refine own_go (fun _ => XS.iloadN X8.here hx rfl (hb hby d1_9) rfl) ?_
  show GG _ _ _ _ _ _ _ T8 (mkF m 10 #[.val (.int p0), .val (.ref bq1), .val (.int (12 : Int32)), .val (.int (7 : Int32)), .val (.ref w6)] [(.int (7 : Int32))])
  refine own_go (fun _ => XS.iloadN X8.here hx rfl (hb hby d1_10) rfl) ?_
  show GG _ _ _ _ _ _ _ T8 (mkF m 11 #[.val (.int p0), .val (.ref bq1), .val (.int (12 : Int32)), .val (.int (7 : Int32)), .val (.ref w6)] [(.int (12 : Int32)), (.int (7 : Int32))])
  have hc11 : (7 : Int32) < (12 : Int32) := by decide
  refine own_go (fun _ => XS.icmpNo X8.here hx rfl (hb hby d1_11) rfl (tlt hc11).2.1) ?_
  show GG _ _ _ _ _ _ _ T8 (mkF m 14 #[.val (.int p0), .val (.ref bq1), .val (.int (12 : Int32)), .val (.int (7 : Int32)), .val (.ref w6)] [])
  refine own_go (fun _ => XS.aloadN X8.here hx rfl (hb hby d1_14) rfl rfl) ?_
  show GG _ _ _ _ _ _ _ T8 (mkF m 15 #[.val (.int p0), .val (.ref bq1), .val (.int (12 : Int32)), .val (.int (7 : Int32)), .val (.ref w6)] [(.ref bq1)])
  refine own_go (fun _ => XS.iloadN X8.here hx rfl (hb hby d1_15) rfl) ?_
  show GG _ _ _ _ _ _ _ T8 (mkF m 16 #[.val (.int p0), .val (.ref bq1), .val (.int (12 : Int32)), .val (.int (7 : Int32)), .val (.ref w6)] [(.int (7 : Int32)), (.ref bq1)])
  refine own_go (fun _ => own_aaload X8 hx hZ e8 Vq1 rfl (j := (7 : Int32)) (v := (.ref w7)) (by decide) rfl (g := (mkF m 16 #[.val (.int p0), .val (.ref bq1), .val (.int (12 : Int32)), .val (.int (7 : Int32)), .val (.ref w6)] [(.int (7 : Int32)), (.ref bq1)])) rfl rfl (hb hby d1_16) _) ?_
  show GG _ _ _ _ _ _ _ T8 (mkF m 17 #[.val (.int p0), .val (.ref bq1), .val (.int (12 : Int32)), .val (.int (7 : Int32)), .val (.ref w6)] [(.ref w7)])
  refine own_go (fun _ => XS.astore X8.here hx rfl (hb hby d1_17) rfl rfl (l' := #[.val (.int p0), .val (.ref bq1), .val (.int (12 : Int32)), .val (.int (7 : Int32)), .val (.ref w7)]) rfl) ?_
  show GG _ _ _ _ _ _ _ T8 (mkF m 19 #[.val (.int p0), .val (.ref bq1), .val (.int (12 : Int32)), .val (.int (7 : Int32)), .val (.ref w7)] [])
  refine own_go (fun _ => XS.aload X8.here hx rfl (hb hby d1_19) rfl rfl) ?_
  show GG _ _ _ _ _ _ _ T8 (mkF m 21 #[.val (.int p0), .val (.ref bq1), .val (.int (12 : Int32)), .val (.int (7 : Int32)), .val (.ref w7)] [(.ref w7)])
  obtain ⟨T9, X9, e9, st9⟩ := getF X8 hx hZ hown (host := "") (Or.inl (hw _ (List.mem_of_getElem? (i := 31) rfl))) Via.refl e8 F_7 (g := (mkF m 21 #[.val (.int p0), .val (.ref bq1), .val (.int (12 : Int32)), .val (.int (7 : Int32)), .val (.ref w7)] [(.ref w7)])) rfl rfl (hb hby d1_21)
  refine own_go (fun _ => st9 _) ?_
  show GG _ _ _ _ _ _ _ T9 (mkF m 24 #[.val (.int p0), .val (.ref bq1), .val (.int (12 : Int32)), .val (.int (7 : Int32)), .val (.ref w7)] [(.int (11 : Int32))])
  refine own_go (fun _ => XS.iloadN X9.here hx rfl (hb hby d1_24) rfl) ?_
  show GG _ _ _ _ _ _ _ T9 (mkF m 25 #[.val (.int p0), .val (.ref bq1), .val (.int (12 : Int32)), .val (.int (7 : Int32)), .val (.ref w7)] [(.int p0), (.int (11 : Int32))])
  have hc25 : ¬ ((11 : Int32) = p0) := by rw [hp]; decide
  refine own_go (fun _ => XS.icmpYes X9.here hx rfl (pc0 := 25) (pc' := 31) rfl (hb hby d1_25) rfl (feq hc25).2 (by decide) (by decide)) ?_
  show GG _ _ _ _ _ _ _ T9 (mkF m 31 #[.val (.int p0), .val (.ref bq1), .val (.int (12 : Int32)), .val (.int (7 : Int32)), .val (.ref w7)] [])
  refine own_go (fun _ => XS.iinc X9.here hx rfl (hb hby d1_31) rfl (l' := #[.val (.int p0), .val (.ref bq1), .val (.int (12 : Int32)), .val (.int (8 : Int32)), .val (.ref w7)]) rfl) ?_
  show GG _ _ _ _ _ _ _ T9 (mkF m 34 #[.val (.int p0), .val (.ref bq1), .val (.int (12 : Int32)), .val (.int (8 : Int32)), .val (.ref w7)] [])
  refine own_go (fun _ => XS.goto X9.here hx rfl (pc0 := 34) (pc' := 9) rfl (hb hby d1_34) (by decide) (by decide)) ?_
  show GG _ _ _ _ _ _ _ T9 (mkF m 9 #[.val (.int p0), .val (.ref bq1), .val (.int (12 : Int32)), .val (.int (8 : Int32)), .val (.ref w7)] [])
  refine own_go (fun _ => XS.iloadN X9.here hx rfl (hb hby d1_9) rfl) ?_
  show GG _ _ _ _ _ _ _ T9 (mkF m 10 #[.val (.int p0), .val (.ref bq1), .val (.int (12 : Int32)), .val (.int (8 : Int32)), .val (.ref w7)] [(.int (8 : Int32))])
  refine own_go (fun _ => XS.iloadN X9.here hx rfl (hb hby d1_10) rfl) ?_
  show GG _ _ _ _ _ _ _ T9 (mkF m 11 #[.val (.int p0), .val (.ref bq1), .val (.int (12 : Int32)), .val (.int (8 : Int32)), .val (.ref w7)] [(.int (12 : Int32)), (.int (8 : Int32))])
  have hc11 : (8 : Int32) < (12 : Int32) := by decide
  refine own_go (fun _ => XS.icmpNo X9.here hx rfl (hb hby d1_11) rfl (tlt hc11).2.1) ?_
  show GG _ _ _ _ _ _ _ T9 (mkF m 14 #[.val (.int p0), .val (.ref bq1), .val (.int (12 : Int32)), .val (.int (8 : Int32)), .val (.ref w7)] [])
  refine own_go (fun _ => XS.aloadN X9.here hx rfl (hb hby d1_14) rfl rfl) ?_
  show GG _ _ _ _ _ _ _ T9 (mkF m 15 #[.val (.int p0), .val (.ref bq1), .val (.int (12 : Int32)), .val (.int (8 : Int32)), .val (.ref w7)] [(.ref bq1)])
  refine own_go (fun _ => XS.iloadN X9.here hx rfl (hb hby d1_15) rfl) ?_
  show GG _ _ _ _ _ _ _ T9 (mkF m 16 #[.val (.int p0), .val (.ref bq1), .val (.int (12 : Int32)), .val (.int (8 : Int32)), .val (.ref w7)] [(.int (8 : Int32)), (.ref bq1)])
  refine own_go (fun _ => own_aaload X9 hx hZ e9 Vq1 rfl (j := (8 : Int32)) (v := (.ref w8)) (by decide) rfl (g := (mkF m 16 #[.val (.int p0), .val (.ref bq1), .val (.int (12 : Int32)), .val (.int (8 : Int32)), .val (.ref w7)] [(.int (8 : Int32)), (.ref bq1)])) rfl rfl (hb hby d1_16) _) ?_
  show GG _ _ _ _ _ _ _ T9 (mkF m 17 #[.val (.int p0), .val (.ref bq1), .val (.int (12 : Int32)), .val (.int (8 : Int32)), .val (.ref w7)] [(.ref w8)])
  refine own_go (fun _ => XS.astore X9.here hx rfl (hb hby d1_17) rfl rfl (l' := #[.val (.int p0), .val (.ref bq1), .val (.int (12 : Int32)), .val (.int (8 : Int32)), .val (.ref w8)]) rfl) ?_
  show GG _ _ _ _ _ _ _ T9 (mkF m 19 #[.val (.int p0), .val (.ref bq1), .val (.int (12 : Int32)), .val (.int (8 : Int32)), .val (.ref w8)] [])
  refine own_go (fun _ => XS.aload X9.here hx rfl (hb hby d1_19) rfl rfl) ?_
  show GG _ _ _ _ _ _ _ T9 (mkF m 21 #[.val (.int p0), .val (.ref bq1), .val (.int (12 : Int32)), .val (.int (8 : Int32)), .val (.ref w8)] [(.ref w8)])
  obtain ⟨T10, X10, e10, st10⟩ := getF X9 hx hZ hown (host := "") (Or.inl (hw _ (List.mem_of_getElem? (i := 31) rfl))) Via.refl e9 F_8 (g := (mkF m 21 #[.val (.int p0), .val (.ref bq1), .val (.int (12 : Int32)), .val (.int (8 : Int32)), .val (.ref w8)] [(.ref w8)])) rfl rfl (hb hby d1_21)
  refine own_go (fun _ => st10 _) ?_
  show GG _ _ _ _ _ _ _ T10 (mkF m 24 #[.val (.int p0), .val (.ref bq1), .val (.int (12 : Int32)), .val (.int (8 : Int32)), .val (.ref w8)] [(.int (12 : Int32))])
  refine own_go (fun _ => XS.iloadN X10.here hx rfl (hb hby d1_24) rfl) ?_
  show GG _ _ _ _ _ _ _ T10 (mkF m 25 #[.val (.int p0), .val (.ref bq1), .val (.int (12 : Int32)), .val (.int (8 : Int32)), .val (.ref w8)] [(.int p0), (.int (12 : Int32))])
  have hc25 : ¬ ((12 : Int32) = p0) := by rw [hp]; decide
  refine own_go (fun _ => XS.icmpYes X10.here hx rfl (pc0 := 25) (pc' := 31) rfl (hb hby d1_25) rfl (feq hc25).2 (by decide) (by decide)) ?_
  show GG _ _ _ _ _ _ _ T10 (mkF m 31 #[.val (.int p0), .val (.ref bq1), .val (.int (12 : Int32)), .val (.int (8 : Int32)), .val (.ref w8)] [])
  refine own_go (fun _ => XS.iinc X10.here hx rfl (hb hby d1_31) rfl (l' := #[.val (.int p0), .val (.ref bq1), .val (.int (12 : Int32)), .val (.int (9 : Int32)), .val (.ref w8)]) rfl) ?_
  show GG _ _ _ _ _ _ _ T10 (mkF m 34 #[.val (.int p0), .val (.ref bq1), .val (.int (12 : Int32)), .val (.int (9 : Int32)), .val (.ref w8)] [])
  refine own_go (fun _ => XS.goto X10.here hx rfl (pc0 := 34) (pc' := 9) rfl (hb hby d1_34) (by decide) (by decide)) ?_
  show GG _ _ _ _ _ _ _ T10 (mkF m 9 #[.val (.int p0), .val (.ref bq1), .val (.int (12 : Int32)), .val (.int (9 : Int32)), .val (.ref w8)] [])
  refine own_go (fun _ => XS.iloadN X10.here hx rfl (hb hby d1_9) rfl) ?_
  show GG _ _ _ _ _ _ _ T10 (mkF m 10 #[.val (.int p0), .val (.ref bq1), .val (.int (12 : Int32)), .val (.int (9 : Int32)), .val (.ref w8)] [(.int (9 : Int32))])
  refine own_go (fun _ => XS.iloadN X10.here hx rfl (hb hby d1_10) rfl) ?_
  show GG _ _ _ _ _ _ _ T10 (mkF m 11 #[.val (.int p0), .val (.ref bq1), .val (.int (12 : Int32)), .val (.int (9 : Int32)), .val (.ref w8)] [(.int (12 : Int32)), (.int (9 : Int32))])
  have hc11 : (9 : Int32) < (12 : Int32) := by decide
  refine own_go (fun _ => XS.icmpNo X10.here hx rfl (hb hby d1_11) rfl (tlt hc11).2.1) ?_
  show GG _ _ _ _ _ _ _ T10 (mkF m 14 #[.val (.int p0), .val (.ref bq1), .val (.int (12 : Int32)), .val (.int (9 : Int32)), .val (.ref w8)] [])
  refine own_go (fun _ => XS.aloadN X10.here hx rfl (hb hby d1_14) rfl rfl) ?_
  show GG _ _ _ _ _ _ _ T10 (mkF m 15 #[.val (.int p0), .val (.ref bq1), .val (.int (12 : Int32)), .val (.int (9 : Int32)), .val (.ref w8)] [(.ref bq1)])
  refine own_go (fun _ => XS.iloadN X10.here hx rfl (hb hby d1_15) rfl) ?_
  show GG _ _ _ _ _ _ _ T10 (mkF m 16 #[.val (.int p0), .val (.ref bq1), .val (.int (12 : Int32)), .val (.int (9 : Int32)), .val (.ref w8)] [(.int (9 : Int32)), (.ref bq1)])
  refine own_go (fun _ => own_aaload X10 hx hZ e10 Vq1 rfl (j := (9 : Int32)) (v := (.ref w9)) (by decide) rfl (g := (mkF m 16 #[.val (.int p0), .val (.ref bq1), .val (.int (12 : Int32)), .val (.int (9 : Int32)), .val (.ref w8)] [(.int (9 : Int32)), (.ref bq1)])) rfl rfl (hb hby d1_16) _) ?_
  show GG _ _ _ _ _ _ _ T10 (mkF m 17 #[.val (.int p0), .val (.ref bq1), .val (.int (12 : Int32)), .val (.int (9 : Int32)), .val (.ref w8)] [(.ref w9)])
  refine own_go (fun _ => XS.astore X10.here hx rfl (hb hby d1_17) rfl rfl (l' := #[.val (.int p0), .val (.ref bq1), .val (.int (12 : Int32)), .val (.int (9 : Int32)), .val (.ref w9)]) rfl) ?_
  show GG _ _ _ _ _ _ _ T10 (mkF m 19 #[.val (.int p0), .val (.ref bq1), .val (.int (12 : Int32)), .val (.int (9 : Int32)), .val (.ref w9)] [])
  refine own_go (fun _ => XS.aload X10.here hx rfl (hb hby d1_19) rfl rfl) ?_
  show GG _ _ _ _ _ _ _ T10 (mkF m 21 #[.val (.int p0), .val (.ref bq1), .val (.int (12 : Int32)), .val (.int (9 : Int32)), .val (.ref w9)] [(.ref w9)])
  obtain ⟨T11, X11, e11, st11⟩ := getF X10 hx hZ hown (host := "") (Or.inl (hw _ (List.mem_of_getElem? (i := 31) rfl))) Via.refl e10 F_9 (g := (mkF m 21 #[.val (.int p0), .val (.ref bq1), .val (.int (12 : Int32)), .val (.int (9 : Int32)), .val (.ref w9)] [(.ref w9)])) rfl rfl (hb hby d1_21)
  refine own_go (fun _ => st11 _) ?_
  show GG _ _ _ _ _ _ _ T11 (mkF m 24 #[.val (.int p0), .val (.ref bq1), .val (.int (12 : Int32)), .val (.int (9 : Int32)), .val (.ref w9)] [(.int (13 : Int32))])
  refine own_go (fun _ => XS.iloadN X11.here hx rfl (hb hby d1_24) rfl) ?_
  show GG _ _ _ _ _ _ _ T11 (mkF m 25 #[.val (.int p0), .val (.ref bq1), .val (.int (12 : Int32)), .val (.int (9 : Int32)), .val (.ref w9)] [(.int p0), (.int (13 : Int32))])
  have hc25 : (13 : Int32) = p0 := hp.symm
  refine own_go (fun _ => XS.icmpNo X11.here hx rfl (hb hby d1_25) rfl (teq hc25).2) ?_
  show GG _ _ _ _ _ _ _ T11 (mkF m 28 #[.val (.int p0), .val (.ref bq1), .val (.int (12 : Int32)), .val (.int (9 : Int32)), .val (.ref w9)] [])
  refine own_go (fun _ => XS.aload X11.here hx rfl (hb hby d1_28) rfl rfl) ?_
  show GG _ _ _ _ _ _ _ T11 (mkF m 30 #[.val (.int p0), .val (.ref bq1), .val (.int (12 : Int32)), .val (.int (9 : Int32)), .val (.ref w9)] [(.ref w9)])
  refine own_ret X11 hx hlk (t := (.object "com/example/bellwether/bellwether/protocol/OpCode")) (w := (.ref w9)) Bd.returns rfl (Or.inr (Or.inr (Or.inr (Or.inr ⟨rfl, rfl, rfl⟩)))) (hb hby d1_30) (by decide) (by decide) ?_
  show Q1_9 Z p0 wV w0 w1 w2 w3 w4 w5 w6 w7 w8 w9 w10 w11 h0 n0 (some (.ref w9)) T11.heap _
  rw [e11]
  exact ⟨rfl, N1, K0⟩
def Q1_10 (Z : State) (p0 : Int32) (wV : Addr) (w0 w1 w2 w3 w4 w5 w6 w7 w8 w9 w10 w11 : Addr) (h0 : Heap) (n0 : Nat) (v : Option Value) (h : Heap) (L : List Loc) : Prop := v = some (.ref w10) ∧ Fr n0 L ∧ Keep h0 h []
set_option maxRecDepth 65536 in
set_option maxHeartbeats 40000000 in
theorem rm1_10 (l : Launch) (Z : State) (a0 : Array Value) (hw : ∀ d ∈ tables_1, d.before a0 Z = true) (ws : List Jvm.Cond) (p0 : Int32) (wV : Addr) (w0 w1 w2 w3 w4 w5 w6 w7 w8 w9 w10 w11 : Addr) (h0 : Heap) (n0 : Nat) (Z0 : n0 ≤ h0.size) (hp : p0 = (14 : Int32)) (S_V : Sta Z h0 "com/example/bellwether/bellwether/protocol/OpCode" "$VALUES" "[Lcom/example/bellwether/bellwether/protocol/OpCode;" (.ref wV)) (V_V : Arx Z h0 wV (.object "com/example/bellwether/bellwether/protocol/OpCode") [(.ref w0), (.ref w1), (.ref w2), (.ref w3), (.ref w4), (.ref w5), (.ref w6), (.ref w7), (.ref w8), (.ref w9), (.ref w10), (.ref w11)]) (E_V : Exa Z h0 wV "[Lcom/example/bellwether/bellwether/protocol/OpCode;") (F_0 : Fld Z h0 w0 "com/example/bellwether/bellwether/protocol/OpCode" "code" "I" (.int (1 : Int32))) (F_1 : Fld Z h0 w1 "com/example/bellwether/bellwether/protocol/OpCode" "code" "I" (.int (2 : Int32))) (F_2 : Fld Z h0 w2 "com/example/bellwether/bellwether/protocol/OpCode" "code" "I" (.int (3 : Int32))) (F_3 : Fld Z h0 w3 "com/example/bellwether/bellwether/protocol/OpCode" "code" "I" (.int (4 : Int32))) (F_4 : Fld Z h0 w4 "com/example/bellwether/bellwether/protocol/OpCode" "code" "I" (.int (5 : Int32))) (F_5 : Fld Z h0 w5 "com/example/bellwether/bellwether/protocol/OpCode" "code" "I" (.int (8 : Int32))) (F_6 : Fld Z h0 w6 "com/example/bellwether/bellwether/protocol/OpCode" "code" "I" (.int (9 : Int32))) (F_7 : Fld Z h0 w7 "com/example/bellwether/bellwether/protocol/OpCode" "code" "I" (.int (11 : Int32))) (F_8 : Fld Z h0 w8 "com/example/bellwether/bellwether/protocol/OpCode" "code" "I" (.int (12 : Int32))) (F_9 : Fld Z h0 w9 "com/example/bellwether/bellwether/protocol/OpCode" "code" "I" (.int (13 : Int32))) (F_10 : Fld Z h0 w10 "com/example/bellwether/bellwether/protocol/OpCode" "code" "I" (.int (14 : Int32))) (F_11 : Fld Z h0 w11 "com/example/bellwether/bellwether/protocol/OpCode" "code" "I" (.int (-11 : Int32))) :
    own_CT l Z (⟨"com/example/bellwether/bellwether/protocol/OpCode", "of", "(I)Lcom/example/bellwether/bellwether/protocol/OpCode;"⟩ : MethodName) prog_23_method_5_code 5 (some (.object "com/example/bellwether/bellwether/protocol/OpCode")) ws ({ frames := 2, cells := 1, slots := 12, locals := 25 } : Room) #[(.int p0)] h0 (Q1_10 Z p0 wV w0 w1 w2 w3 w4 w5 w6 w7 w8 w9 w10 w11 h0 n0) := by
  refine MetFree.of_bodySF (plainFor_of_name pn_com_example_bellwether_bellwether_protocol_OpCode) hisR ?_
  intro p e s m args below meth c s₁ Bd hml0 hP hK
  obtain ⟨rfl, hZ, hh⟩ := hP
  have hx := Bd.exec
  have hby := Bd.bytes
  have hml : c.maxLocals = 5 := hml0
  have hown : s.vm.findClass "com/example/bellwether/bellwether/protocol/OpCode" = some m.cls := findClass_of_methodNamed Bd.named
  have hnm := (name_of_methodNamed Bd.named Bd.method).1
  have hlk : meth.locks = false := BodyLoose.notSynchronized Bd
  have X0 : Stand p l e ({ frames := 2, cells := 1, slots := 12, locals := 25 } : Room) s m #[(.int p0)] below meth c s₁ [] 0 0 := Stand.of_body Bd
  have e0 : s₁.heap = h0 := by rw [← hh, Bd.state]; rfl
  have N0 := Fr.nil n0
  show GG p e below s ({ frames := 2, cells := 1, slots := 12, locals := 25 } : Room).cells ({ frames := 2, cells := 1, slots := 12, locals := 25 } : Room).slots (Q1_10 Z p0 wV w0 w1 w2 w3 w4 w5 w6 w7 w8 w9 w10 w11 h0 n0) s₁ (entryFrame m #[(.int p0)] 5)
  refine own_in (ef_1 m p0) ?_
  have K0 := Keep.refl h0 []
  show GG _ _ _ _ _ _ _ s₁ (mkF m 0 #[.val (.int p0), .unset, .unset, .unset, .unset] [])
  refine own_callS X0 hx hZ (y := (⟨"com/example/bellwether/bellwether/protocol/OpCode", "values", "()[Lcom/example/bellwether/bellwether/protocol/OpCode;"⟩ : MethodName)) 0 hown (hw _ (List.mem_of_getElem? (i := 4) rfl)) (hw _ (List.mem_of_getElem? (i := 5) rfl)) (hw _ (List.mem_of_getElem? (i := 2) rfl)) (hw _ (List.mem_of_getElem? (i := 6) rfl)) (by decide) (argsL := []) (rest := []) (rm2 l Z a0 hw [] wV w0 w1 w2 w3 w4 w5 w6 w7 w8 w9 w10 w11 h0 n0 Z0 S_V V_V E_V) (by decide) (by decide) (by decide) (by decide) (g := (mkF m 0 #[.val (.int p0), .unset, .unset, .unset, .unset] [])) rfl (by rw [hml]; rfl) (lenOf pd____Lcom_example_bellwether_bellwether_pr_216 rfl) rfl (by show 2 * 0 + _ ≤ _; exact Nat.le_of_eq rfl) (hb hby d1_0) e0 ?_
  rintro v1 T1 L1 X1 ⟨bq1, rfl, N1q, szq1, Kq1, Vq1⟩
  have N1 := Fr.app N0 N1q
  have K0 := K0.trans Kq1 all0
  have F_0 := F_0.keep Kq1 nin0
  have F_1 := F_1.keep Kq1 nin0
  have F_2 := F_2.keep Kq1 nin0
  have F_3 := F_3.keep Kq1 nin0
  have F_4 := F_4.keep Kq1 nin0
  have F_5 := F_5.keep Kq1 nin0
  have F_6 := F_6.keep Kq1 nin0
  have F_7 := F_7.keep Kq1 nin0
  have F_8 := F_8.keep Kq1 nin0
  have F_9 := F_9.keep Kq1 nin0
  have F_10 := F_10.keep Kq1 nin0
  have F_11 := F_11.keep Kq1 nin0
  show GG _ _ _ _ _ _ _ T1 (mkF m 3 #[.val (.int p0), .unset, .unset, .unset, .unset] [(.ref bq1)])
  refine own_go (fun _ => XS.astoreN X1.here hx rfl (hb hby d1_3) rfl rfl (l' := #[.val (.int p0), .val (.ref bq1), .unset, .unset, .unset]) rfl) ?_
  show GG _ _ _ _ _ _ _ T1 (mkF m 4 #[.val (.int p0), .val (.ref bq1), .unset, .unset, .unset] [])
  refine own_go (fun _ => XS.aloadN X1.here hx rfl (hb hby d1_4) rfl rfl) ?_
  show GG _ _ _ _ _ _ _ T1 (mkF m 5 #[.val (.int p0), .val (.ref bq1), .unset, .unset, .unset] [(.ref bq1)])
  refine own_go (fun _ => own_len X1 hx hZ rfl Vq1 (g := (mkF m 5 #[.val (.int p0), .val (.ref bq1), .unset, .unset, .unset] [(.ref bq1)])) rfl rfl (hb hby d1_5) _) ?_
  show GG _ _ _ _ _ _ _ T1 (mkF m 6 #[.val (.int p0), .val (.ref bq1), .unset, .unset, .unset] [(.int (12 : Int32))])
  refine own_go (fun _ => XS.istoreN X1.here hx rfl (hb hby d1_6) rfl (l' := #[.val (.int p0), .val (.ref bq1), .val (.int (12 : Int32)), .unset, .unset]) rfl) ?_
  show GG _ _ _ _ _ _ _ T1 (mkF m 7 #[.val (.int p0), .val (.ref bq1), .val (.int (12 : Int32)), .unset, .unset] [])
  refine own_go (fun _ => XS.iconst X1.here hx rfl (hb hby d1_7)) ?_
  show GG _ _ _ _ _ _ _ T1 (mkF m 8 #[.val (.int p0), .val (.ref bq1), .val (.int (12 : Int32)), .unset, .unset] [(.int (0 : Int32))])
  refine own_go (fun _ => XS.istoreN X1.here hx rfl (hb hby d1_8) rfl (l' := #[.val (.int p0), .val (.ref bq1), .val (.int (12 : Int32)), .val (.int (0 : Int32)), .unset]) rfl) ?_
  show GG _ _ _ _ _ _ _ T1 (mkF m 9 #[.val (.int p0), .val (.ref bq1), .val (.int (12 : Int32)), .val (.int (0 : Int32)), .unset] [])
  refine own_go (fun _ => XS.iloadN X1.here hx rfl (hb hby d1_9) rfl) ?_
  show GG _ _ _ _ _ _ _ T1 (mkF m 10 #[.val (.int p0), .val (.ref bq1), .val (.int (12 : Int32)), .val (.int (0 : Int32)), .unset] [(.int (0 : Int32))])
  refine own_go (fun _ => XS.iloadN X1.here hx rfl (hb hby d1_10) rfl) ?_
  show GG _ _ _ _ _ _ _ T1 (mkF m 11 #[.val (.int p0), .val (.ref bq1), .val (.int (12 : Int32)), .val (.int (0 : Int32)), .unset] [(.int (12 : Int32)), (.int (0 : Int32))])
  have hc11 : (0 : Int32) < (12 : Int32) := by decide
  refine own_go (fun _ => XS.icmpNo X1.here hx rfl (hb hby d1_11) rfl (tlt hc11).2.1) ?_
  show GG _ _ _ _ _ _ _ T1 (mkF m 14 #[.val (.int p0), .val (.ref bq1), .val (.int (12 : Int32)), .val (.int (0 : Int32)), .unset] [])
  refine own_go (fun _ => XS.aloadN X1.here hx rfl (hb hby d1_14) rfl rfl) ?_
  show GG _ _ _ _ _ _ _ T1 (mkF m 15 #[.val (.int p0), .val (.ref bq1), .val (.int (12 : Int32)), .val (.int (0 : Int32)), .unset] [(.ref bq1)])
  refine own_go (fun _ => XS.iloadN X1.here hx rfl (hb hby d1_15) rfl) ?_
  show GG _ _ _ _ _ _ _ T1 (mkF m 16 #[.val (.int p0), .val (.ref bq1), .val (.int (12 : Int32)), .val (.int (0 : Int32)), .unset] [(.int (0 : Int32)), (.ref bq1)])
  refine own_go (fun _ => own_aaload X1 hx hZ rfl Vq1 rfl (j := (0 : Int32)) (v := (.ref w0)) (by decide) rfl (g := (mkF m 16 #[.val (.int p0), .val (.ref bq1), .val (.int (12 : Int32)), .val (.int (0 : Int32)), .unset] [(.int (0 : Int32)), (.ref bq1)])) rfl rfl (hb hby d1_16) _) ?_
  show GG _ _ _ _ _ _ _ T1 (mkF m 17 #[.val (.int p0), .val (.ref bq1), .val (.int (12 : Int32)), .val (.int (0 : Int32)), .unset] [(.ref w0)])
  refine own_go (fun _ => XS.astore X1.here hx rfl (hb hby d1_17) rfl rfl (l' := #[.val (.int p0), .val (.ref bq1), .val (.int (12 : Int32)), .val (.int (0 : Int32)), .val (.ref w0)]) rfl) ?_
  show GG _ _ _ _ _ _ _ T1 (mkF m 19 #[.val (.int p0), .val (.ref bq1), .val (.int (12 : Int32)), .val (.int (0 : Int32)), .val (.ref w0)] [])
  refine own_go (fun _ => XS.aload X1.here hx rfl (hb hby d1_19) rfl rfl) ?_
  show GG _ _ _ _ _ _ _ T1 (mkF m 21 #[.val (.int p0), .val (.ref bq1), .val (.int (12 : Int32)), .val (.int (0 : Int32)), .val (.ref w0)] [(.ref w0)])
  obtain ⟨T2, X2, e2, st2⟩ := getF X1 hx hZ hown (host := "") (Or.inl (hw _ (List.mem_of_getElem? (i := 31) rfl))) Via.refl rfl F_0 (g := (mkF m 21 #[.val (.int p0), .val (.ref bq1), .val (.int (12 : Int32)), .val (.int (0 : Int32)), .val (.ref w0)] [(.ref w0)])) rfl rfl (hb hby d1_21)
  refine own_go (fun _ => st2 _) ?_
  show GG _ _ _ _ _ _ _ T2 (mkF m 24 #[.val (.int p0), .val (.ref bq1), .val (.int (12 : Int32)), .val (.int (0 : Int32)), .val (.ref w0)] [(.int (1 : Int32))])
  refine own_go (fun _ => XS.iloadN X2.here hx rfl (hb hby d1_24) rfl) ?_
  show GG _ _ _ _ _ _ _ T2 (mkF m 25 #[.val (.int p0), .val (.ref bq1), .val (.int (12 : Int32)), .val (.int (0 : Int32)), .val (.ref w0)] [(.int p0), (.int (1 : Int32))])
  have hc25 : ¬ ((1 : Int32) = p0) := by rw [hp]; decide
  refine own_go (fun _ => XS.icmpYes X2.here hx rfl (pc0 := 25) (pc' := 31) rfl (hb hby d1_25) rfl (feq hc25).2 (by decide) (by decide)) ?_
  show GG _ _ _ _ _ _ _ T2 (mkF m 31 #[.val (.int p0), .val (.ref bq1), .val (.int (12 : Int32)), .val (.int (0 : Int32)), .val (.ref w0)] [])
  refine own_go (fun _ => XS.iinc X2.here hx rfl (hb hby d1_31) rfl (l' := #[.val (.int p0), .val (.ref bq1), .val (.int (12 : Int32)), .val (.int (1 : Int32)), .val (.ref w0)]) rfl) ?_
  show GG _ _ _ _ _ _ _ T2 (mkF m 34 #[.val (.int p0), .val (.ref bq1), .val (.int (12 : Int32)), .val (.int (1 : Int32)), .val (.ref w0)] [])
  refine own_go (fun _ => XS.goto X2.here hx rfl (pc0 := 34) (pc' := 9) rfl (hb hby d1_34) (by decide) (by decide)) ?_
  show GG _ _ _ _ _ _ _ T2 (mkF m 9 #[.val (.int p0), .val (.ref bq1), .val (.int (12 : Int32)), .val (.int (1 : Int32)), .val (.ref w0)] [])
  refine own_go (fun _ => XS.iloadN X2.here hx rfl (hb hby d1_9) rfl) ?_
  show GG _ _ _ _ _ _ _ T2 (mkF m 10 #[.val (.int p0), .val (.ref bq1), .val (.int (12 : Int32)), .val (.int (1 : Int32)), .val (.ref w0)] [(.int (1 : Int32))])
  refine own_go (fun _ => XS.iloadN X2.here hx rfl (hb hby d1_10) rfl) ?_
  show GG _ _ _ _ _ _ _ T2 (mkF m 11 #[.val (.int p0), .val (.ref bq1), .val (.int (12 : Int32)), .val (.int (1 : Int32)), .val (.ref w0)] [(.int (12 : Int32)), (.int (1 : Int32))])
  have hc11 : (1 : Int32) < (12 : Int32) := by decide
  refine own_go (fun _ => XS.icmpNo X2.here hx rfl (hb hby d1_11) rfl (tlt hc11).2.1) ?_
  show GG _ _ _ _ _ _ _ T2 (mkF m 14 #[.val (.int p0), .val (.ref bq1), .val (.int (12 : Int32)), .val (.int (1 : Int32)), .val (.ref w0)] [])
  refine own_go (fun _ => XS.aloadN X2.here hx rfl (hb hby d1_14) rfl rfl) ?_
  show GG _ _ _ _ _ _ _ T2 (mkF m 15 #[.val (.int p0), .val (.ref bq1), .val (.int (12 : Int32)), .val (.int (1 : Int32)), .val (.ref w0)] [(.ref bq1)])
  refine own_go (fun _ => XS.iloadN X2.here hx rfl (hb hby d1_15) rfl) ?_
  show GG _ _ _ _ _ _ _ T2 (mkF m 16 #[.val (.int p0), .val (.ref bq1), .val (.int (12 : Int32)), .val (.int (1 : Int32)), .val (.ref w0)] [(.int (1 : Int32)), (.ref bq1)])
  refine own_go (fun _ => own_aaload X2 hx hZ e2 Vq1 rfl (j := (1 : Int32)) (v := (.ref w1)) (by decide) rfl (g := (mkF m 16 #[.val (.int p0), .val (.ref bq1), .val (.int (12 : Int32)), .val (.int (1 : Int32)), .val (.ref w0)] [(.int (1 : Int32)), (.ref bq1)])) rfl rfl (hb hby d1_16) _) ?_
  show GG _ _ _ _ _ _ _ T2 (mkF m 17 #[.val (.int p0), .val (.ref bq1), .val (.int (12 : Int32)), .val (.int (1 : Int32)), .val (.ref w0)] [(.ref w1)])
  refine own_go (fun _ => XS.astore X2.here hx rfl (hb hby d1_17) rfl rfl (l' := #[.val (.int p0), .val (.ref bq1), .val (.int (12 : Int32)), .val (.int (1 : Int32)), .val (.ref w1)]) rfl) ?_
  show GG _ _ _ _ _ _ _ T2 (mkF m 19 #[.val (.int p0), .val (.ref bq1), .val (.int (12 : Int32)), .val (.int (1 : Int32)), .val (.ref w1)] [])
  refine own_go (fun _ => XS.aload X2.here hx rfl (hb hby d1_19) rfl rfl) ?_
  show GG _ _ _ _ _ _ _ T2 (mkF m 21 #[.val (.int p0), .val (.ref bq1), .val (.int (12 : Int32)), .val (.int (1 : Int32)), .val (.ref w1)] [(.ref w1)])
  obtain ⟨T3, X3, e3, st3⟩ := getF X2 hx hZ hown (host := "") (Or.inl (hw _ (List.mem_of_getElem? (i := 31) rfl))) Via.refl e2 F_1 (g := (mkF m 21 #[.val (.int p0), .val (.ref bq1), .val (.int (12 : Int32)), .val (.int (1 : Int32)), .val (.ref w1)] [(.ref w1)])) rfl rfl (hb hby d1_21)
  refine own_go (fun _ => st3 _) ?_
  show GG _ _ _ _ _ _ _ T3 (mkF m 24 #[.val (.int p0), .val (.ref bq1), .val (.int (12 : Int32)), .val (.int (1 : Int32)), .val (.ref w1)] [(.int (2 : Int32))])
  refine own_go (fun _ => XS.iloadN X3.here hx rfl (hb hby d1_24) rfl) ?_
  show GG _ _ _ _ _ _ _ T3 (mkF m 25 #[.val (.int p0), .val (.ref bq1), .val (.int (12 : Int32)), .val (.int (1 : Int32)), .val (.ref w1)] [(.int p0), (.int (2 : Int32))])
  have hc25 : ¬ ((2 : Int32) = p0) := by rw [hp]; decide
  refine own_go (fun _ => XS.icmpYes X3.here hx rfl (pc0 := 25) (pc' := 31) rfl (hb hby d1_25) rfl (feq hc25).2 (by decide) (by decide)) ?_
  show GG _ _ _ _ _ _ _ T3 (mkF m 31 #[.val (.int p0), .val (.ref bq1), .val (.int (12 : Int32)), .val (.int (1 : Int32)), .val (.ref w1)] [])
  refine own_go (fun _ => XS.iinc X3.here hx rfl (hb hby d1_31) rfl (l' := #[.val (.int p0), .val (.ref bq1), .val (.int (12 : Int32)), .val (.int (2 : Int32)), .val (.ref w1)]) rfl) ?_
  show GG _ _ _ _ _ _ _ T3 (mkF m 34 #[.val (.int p0), .val (.ref bq1), .val (.int (12 : Int32)), .val (.int (2 : Int32)), .val (.ref w1)] [])
  refine own_go (fun _ => XS.goto X3.here hx rfl (pc0 := 34) (pc' := 9) rfl (hb hby d1_34) (by decide) (by decide)) ?_
  show GG _ _ _ _ _ _ _ T3 (mkF m 9 #[.val (.int p0), .val (.ref bq1), .val (.int (12 : Int32)), .val (.int (2 : Int32)), .val (.ref w1)] [])
  refine own_go (fun _ => XS.iloadN X3.here hx rfl (hb hby d1_9) rfl) ?_
  show GG _ _ _ _ _ _ _ T3 (mkF m 10 #[.val (.int p0), .val (.ref bq1), .val (.int (12 : Int32)), .val (.int (2 : Int32)), .val (.ref w1)] [(.int (2 : Int32))])
  refine own_go (fun _ => XS.iloadN X3.here hx rfl (hb hby d1_10) rfl) ?_
  show GG _ _ _ _ _ _ _ T3 (mkF m 11 #[.val (.int p0), .val (.ref bq1), .val (.int (12 : Int32)), .val (.int (2 : Int32)), .val (.ref w1)] [(.int (12 : Int32)), (.int (2 : Int32))])
  have hc11 : (2 : Int32) < (12 : Int32) := by decide
  refine own_go (fun _ => XS.icmpNo X3.here hx rfl (hb hby d1_11) rfl (tlt hc11).2.1) ?_
  show GG _ _ _ _ _ _ _ T3 (mkF m 14 #[.val (.int p0), .val (.ref bq1), .val (.int (12 : Int32)), .val (.int (2 : Int32)), .val (.ref w1)] [])
  refine own_go (fun _ => XS.aloadN X3.here hx rfl (hb hby d1_14) rfl rfl) ?_
  show GG _ _ _ _ _ _ _ T3 (mkF m 15 #[.val (.int p0), .val (.ref bq1), .val (.int (12 : Int32)), .val (.int (2 : Int32)), .val (.ref w1)] [(.ref bq1)])
  refine own_go (fun _ => XS.iloadN X3.here hx rfl (hb hby d1_15) rfl) ?_
  show GG _ _ _ _ _ _ _ T3 (mkF m 16 #[.val (.int p0), .val (.ref bq1), .val (.int (12 : Int32)), .val (.int (2 : Int32)), .val (.ref w1)] [(.int (2 : Int32)), (.ref bq1)])
  refine own_go (fun _ => own_aaload X3 hx hZ e3 Vq1 rfl (j := (2 : Int32)) (v := (.ref w2)) (by decide) rfl (g := (mkF m 16 #[.val (.int p0), .val (.ref bq1), .val (.int (12 : Int32)), .val (.int (2 : Int32)), .val (.ref w1)] [(.int (2 : Int32)), (.ref bq1)])) rfl rfl (hb hby d1_16) _) ?_
  show GG _ _ _ _ _ _ _ T3 (mkF m 17 #[.val (.int p0), .val (.ref bq1), .val (.int (12 : Int32)), .val (.int (2 : Int32)), .val (.ref w1)] [(.ref w2)])
  refine own_go (fun _ => XS.astore X3.here hx rfl (hb hby d1_17) rfl rfl (l' := #[.val (.int p0), .val (.ref bq1), .val (.int (12 : Int32)), .val (.int (2 : Int32)), .val (.ref w2)]) rfl) ?_
  show GG _ _ _ _ _ _ _ T3 (mkF m 19 #[.val (.int p0), .val (.ref bq1), .val (.int (12 : Int32)), .val (.int (2 : Int32)), .val (.ref w2)] [])
  refine own_go (fun _ => XS.aload X3.here hx rfl (hb hby d1_19) rfl rfl) ?_
  show GG _ _ _ _ _ _ _ T3 (mkF m 21 #[.val (.int p0), .val (.ref bq1), .val (.int (12 : Int32)), .val (.int (2 : Int32)), .val (.ref w2)] [(.ref w2)])
  obtain ⟨T4, X4, e4, st4⟩ := getF X3 hx hZ hown (host := "") (Or.inl (hw _ (List.mem_of_getElem? (i := 31) rfl))) Via.refl e3 F_2 (g := (mkF m 21 #[.val (.int p0), .val (.ref bq1), .val (.int (12 : Int32)), .val (.int (2 : Int32)), .val (.ref w2)] [(.ref w2)])) rfl rfl (hb hby d1_21)
  refine own_go (fun _ => st4 _) ?_
  show GG _ _ _ _ _ _ _ T4 (mkF m 24 #[.val (.int p0), .val (.ref bq1), .val (.int (12 : Int32)), .val (.int (2 : Int32)), .val (.ref w2)] [(.int (3 : Int32))])
  refine own_go (fun _ => XS.iloadN X4.here hx rfl (hb hby d1_24) rfl) ?_
  show GG _ _ _ _ _ _ _ T4 (mkF m 25 #[.val (.int p0), .val (.ref bq1), .val (.int (12 : Int32)), .val (.int (2 : Int32)), .val (.ref w2)] [(.int p0), (.int (3 : Int32))])
  have hc25 : ¬ ((3 : Int32) = p0) := by rw [hp]; decide
  refine own_go (fun _ => XS.icmpYes X4.here hx rfl (pc0 := 25) (pc' := 31) rfl (hb hby d1_25) rfl (feq hc25).2 (by decide) (by decide)) ?_
  show GG _ _ _ _ _ _ _ T4 (mkF m 31 #[.val (.int p0), .val (.ref bq1), .val (.int (12 : Int32)), .val (.int (2 : Int32)), .val (.ref w2)] [])
  refine own_go (fun _ => XS.iinc X4.here hx rfl (hb hby d1_31) rfl (l' := #[.val (.int p0), .val (.ref bq1), .val (.int (12 : Int32)), .val (.int (3 : Int32)), .val (.ref w2)]) rfl) ?_
  show GG _ _ _ _ _ _ _ T4 (mkF m 34 #[.val (.int p0), .val (.ref bq1), .val (.int (12 : Int32)), .val (.int (3 : Int32)), .val (.ref w2)] [])
  refine own_go (fun _ => XS.goto X4.here hx rfl (pc0 := 34) (pc' := 9) rfl (hb hby d1_34) (by decide) (by decide)) ?_
  show GG _ _ _ _ _ _ _ T4 (mkF m 9 #[.val (.int p0), .val (.ref bq1), .val (.int (12 : Int32)), .val (.int (3 : Int32)), .val (.ref w2)] [])
  refine own_go (fun _ => XS.iloadN X4.here hx rfl (hb hby d1_9) rfl) ?_
  show GG _ _ _ _ _ _ _ T4 (mkF m 10 #[.val (.int p0), .val (.ref bq1), .val (.int (12 : Int32)), .val (.int (3 : Int32)), .val (.ref w2)] [(.int (3 : Int32))])
  refine own_go (fun _ => XS.iloadN X4.here hx rfl (hb hby d1_10) rfl) ?_
  show GG _ _ _ _ _ _ _ T4 (mkF m 11 #[.val (.int p0), .val (.ref bq1), .val (.int (12 : Int32)), .val (.int (3 : Int32)), .val (.ref w2)] [(.int (12 : Int32)), (.int (3 : Int32))])
  have hc11 : (3 : Int32) < (12 : Int32) := by decide
  refine own_go (fun _ => XS.icmpNo X4.here hx rfl (hb hby d1_11) rfl (tlt hc11).2.1) ?_
  show GG _ _ _ _ _ _ _ T4 (mkF m 14 #[.val (.int p0), .val (.ref bq1), .val (.int (12 : Int32)), .val (.int (3 : Int32)), .val (.ref w2)] [])
  refine own_go (fun _ => XS.aloadN X4.here hx rfl (hb hby d1_14) rfl rfl) ?_
  show GG _ _ _ _ _ _ _ T4 (mkF m 15 #[.val (.int p0), .val (.ref bq1), .val (.int (12 : Int32)), .val (.int (3 : Int32)), .val (.ref w2)] [(.ref bq1)])
  refine own_go (fun _ => XS.iloadN X4.here hx rfl (hb hby d1_15) rfl) ?_
  show GG _ _ _ _ _ _ _ T4 (mkF m 16 #[.val (.int p0), .val (.ref bq1), .val (.int (12 : Int32)), .val (.int (3 : Int32)), .val (.ref w2)] [(.int (3 : Int32)), (.ref bq1)])
  refine own_go (fun _ => own_aaload X4 hx hZ e4 Vq1 rfl (j := (3 : Int32)) (v := (.ref w3)) (by decide) rfl (g := (mkF m 16 #[.val (.int p0), .val (.ref bq1), .val (.int (12 : Int32)), .val (.int (3 : Int32)), .val (.ref w2)] [(.int (3 : Int32)), (.ref bq1)])) rfl rfl (hb hby d1_16) _) ?_
  show GG _ _ _ _ _ _ _ T4 (mkF m 17 #[.val (.int p0), .val (.ref bq1), .val (.int (12 : Int32)), .val (.int (3 : Int32)), .val (.ref w2)] [(.ref w3)])
  refine own_go (fun _ => XS.astore X4.here hx rfl (hb hby d1_17) rfl rfl (l' := #[.val (.int p0), .val (.ref bq1), .val (.int (12 : Int32)), .val (.int (3 : Int32)), .val (.ref w3)]) rfl) ?_
  show GG _ _ _ _ _ _ _ T4 (mkF m 19 #[.val (.int p0), .val (.ref bq1), .val (.int (12 : Int32)), .val (.int (3 : Int32)), .val (.ref w3)] [])
  refine own_go (fun _ => XS.aload X4.here hx rfl (hb hby d1_19) rfl rfl) ?_
  show GG _ _ _ _ _ _ _ T4 (mkF m 21 #[.val (.int p0), .val (.ref bq1), .val (.int (12 : Int32)), .val (.int (3 : Int32)), .val (.ref w3)] [(.ref w3)])
  obtain ⟨T5, X5, e5, st5⟩ := getF X4 hx hZ hown (host := "") (Or.inl (hw _ (List.mem_of_getElem? (i := 31) rfl))) Via.refl e4 F_3 (g := (mkF m 21 #[.val (.int p0), .val (.ref bq1), .val (.int (12 : Int32)), .val (.int (3 : Int32)), .val (.ref w3)] [(.ref w3)])) rfl rfl (hb hby d1_21)
  refine own_go (fun _ => st5 _) ?_
  show GG _ _ _ _ _ _ _ T5 (mkF m 24 #[.val (.int p0), .val (.ref bq1), .val (.int (12 : Int32)), .val (.int (3 : Int32)), .val (.ref w3)] [(.int (4 : Int32))])
  refine own_go (fun _ => XS.iloadN X5.here hx rfl (hb hby d1_24) rfl) ?_
  show GG _ _ _ _ _ _ _ T5 (mkF m 25 #[.val (.int p0), .val (.ref bq1), .val (.int (12 : Int32)), .val (.int (3 : Int32)), .val (.ref w3)] [(.int p0), (.int (4 : Int32))])
  have hc25 : ¬ ((4 : Int32) = p0) := by rw [hp]; decide
  refine own_go (fun _ => XS.icmpYes X5.here hx rfl (pc0 := 25) (pc' := 31) rfl (hb hby d1_25) rfl (feq hc25).2 (by decide) (by decide)) ?_
  show GG _ _ _ _ _ _ _ T5 (mkF m 31 #[.val (.int p0), .val (.ref bq1), .val (.int (12 : Int32)), .val (.int (3 : Int32)), .val (.ref w3)] [])
  refine own_go (fun _ => XS.iinc X5.here hx rfl (hb hby d1_31) rfl (l' := #[.val (.int p0), .val (.ref bq1), .val (.int (12 : Int32)), .val (.int (4 : Int32)), .val (.ref w3)]) rfl) ?_
  show GG _ _ _ _ _ _ _ T5 (mkF m 34 #[.val (.int p0), .val (.ref bq1), .val (.int (12 : Int32)), .val (.int (4 : Int32)), .val (.ref w3)] [])
  refine own_go (fun _ => XS.goto X5.here hx rfl (pc0 := 34) (pc' := 9) rfl (hb hby d1_34) (by decide) (by decide)) ?_
  show GG _ _ _ _ _ _ _ T5 (mkF m 9 #[.val (.int p0), .val (.ref bq1), .val (.int (12 : Int32)), .val (.int (4 : Int32)), .val (.ref w3)] [])
  refine own_go (fun _ => XS.iloadN X5.here hx rfl (hb hby d1_9) rfl) ?_
  show GG _ _ _ _ _ _ _ T5 (mkF m 10 #[.val (.int p0), .val (.ref bq1), .val (.int (12 : Int32)), .val (.int (4 : Int32)), .val (.ref w3)] [(.int (4 : Int32))])
  refine own_go (fun _ => XS.iloadN X5.here hx rfl (hb hby d1_10) rfl) ?_
  show GG _ _ _ _ _ _ _ T5 (mkF m 11 #[.val (.int p0), .val (.ref bq1), .val (.int (12 : Int32)), .val (.int (4 : Int32)), .val (.ref w3)] [(.int (12 : Int32)), (.int (4 : Int32))])
  have hc11 : (4 : Int32) < (12 : Int32) := by decide
  refine own_go (fun _ => XS.icmpNo X5.here hx rfl (hb hby d1_11) rfl (tlt hc11).2.1) ?_
  show GG _ _ _ _ _ _ _ T5 (mkF m 14 #[.val (.int p0), .val (.ref bq1), .val (.int (12 : Int32)), .val (.int (4 : Int32)), .val (.ref w3)] [])
  refine own_go (fun _ => XS.aloadN X5.here hx rfl (hb hby d1_14) rfl rfl) ?_
  show GG _ _ _ _ _ _ _ T5 (mkF m 15 #[.val (.int p0), .val (.ref bq1), .val (.int (12 : Int32)), .val (.int (4 : Int32)), .val (.ref w3)] [(.ref bq1)])
  refine own_go (fun _ => XS.iloadN X5.here hx rfl (hb hby d1_15) rfl) ?_
  show GG _ _ _ _ _ _ _ T5 (mkF m 16 #[.val (.int p0), .val (.ref bq1), .val (.int (12 : Int32)), .val (.int (4 : Int32)), .val (.ref w3)] [(.int (4 : Int32)), (.ref bq1)])
  refine own_go (fun _ => own_aaload X5 hx hZ e5 Vq1 rfl (j := (4 : Int32)) (v := (.ref w4)) (by decide) rfl (g := (mkF m 16 #[.val (.int p0), .val (.ref bq1), .val (.int (12 : Int32)), .val (.int (4 : Int32)), .val (.ref w3)] [(.int (4 : Int32)), (.ref bq1)])) rfl rfl (hb hby d1_16) _) ?_
  show GG _ _ _ _ _ _ _ T5 (mkF m 17 #[.val (.int p0), .val (.ref bq1), .val (.int (12 : Int32)), .val (.int (4 : Int32)), .val (.ref w3)] [(.ref w4)])
  refine own_go (fun _ => XS.astore X5.here hx rfl (hb hby d1_17) rfl rfl (l' := #[.val (.int p0), .val (.ref bq1), .val (.int (12 : Int32)), .val (.int (4 : Int32)), .val (.ref w4)]) rfl) ?_
  show GG _ _ _ _ _ _ _ T5 (mkF m 19 #[.val (.int p0), .val (.ref bq1), .val (.int (12 : Int32)), .val (.int (4 : Int32)), .val (.ref w4)] [])
  refine own_go (fun _ => XS.aload X5.here hx rfl (hb hby d1_19) rfl rfl) ?_
  show GG _ _ _ _ _ _ _ T5 (mkF m 21 #[.val (.int p0), .val (.ref bq1), .val (.int (12 : Int32)), .val (.int (4 : Int32)), .val (.ref w4)] [(.ref w4)])
  obtain ⟨T6, X6, e6, st6⟩ := getF X5 hx hZ hown (host := "") (Or.inl (hw _ (List.mem_of_getElem? (i := 31) rfl))) Via.refl e5 F_4 (g := (mkF m 21 #[.val (.int p0), .val (.ref bq1), .val (.int (12 : Int32)), .val (.int (4 : Int32)), .val (.ref w4)] [(.ref w4)])) rfl rfl (hb hby d1_21)
  refine own_go (fun _ => st6 _) ?_
  show GG _ _ _ _ _ _ _ T6 (mkF m 24 #[.val (.int p0), .val (.ref bq1), .val (.int (12 : Int32)), .val (.int (4 : Int32)), .val (.ref w4)] [(.int (5 : Int32))])
  refine own_go (fun _ => XS.iloadN X6.here hx rfl (hb hby d1_24) rfl) ?_
  show GG _ _ _ _ _ _ _ T6 (mkF m 25 #[.val (.int p0), .val (.ref bq1), .val (.int (12 : Int32)), .val (.int (4 : Int32)), .val (.ref w4)] [(.int p0), (.int (5 : Int32))])
  have hc25 : ¬ ((5 : Int32) = p0) := by rw [hp]; decide
  refine own_go (fun _ => XS.icmpYes X6.here hx rfl (pc0 := 25) (pc' := 31) rfl (hb hby d1_25) rfl (feq hc25).2 (by decide) (by decide)) ?_
  show GG _ _ _ _ _ _ _ T6 (mkF m 31 #[.val (.int p0), .val (.ref bq1), .val (.int (12 : Int32)), .val (.int (4 : Int32)), .val (.ref w4)] [])
  refine own_go (fun _ => XS.iinc X6.here hx rfl (hb hby d1_31) rfl (l' := #[.val (.int p0), .val (.ref bq1), .val (.int (12 : Int32)), .val (.int (5 : Int32)), .val (.ref w4)]) rfl) ?_
  show GG _ _ _ _ _ _ _ T6 (mkF m 34 #[.val (.int p0), .val (.ref bq1), .val (.int (12 : Int32)), .val (.int (5 : Int32)), .val (.ref w4)] [])
  refine own_go (fun _ => XS.goto X6.here hx rfl (pc0 := 34) (pc' := 9) rfl (hb hby d1_34) (by decide) (by decide)) ?_
  show GG _ _ _ _ _ _ _ T6 (mkF m 9 #[.val (.int p0), .val (.ref bq1), .val (.int (12 : Int32)), .val (.int (5 : Int32)), .val (.ref w4)] [])
  refine own_go (fun _ => XS.iloadN X6.here hx rfl (hb hby d1_9) rfl) ?_
  show GG _ _ _ _ _ _ _ T6 (mkF m 10 #[.val (.int p0), .val (.ref bq1), .val (.int (12 : Int32)), .val (.int (5 : Int32)), .val (.ref w4)] [(.int (5 : Int32))])
  refine own_go (fun _ => XS.iloadN X6.here hx rfl (hb hby d1_10) rfl) ?_
  show GG _ _ _ _ _ _ _ T6 (mkF m 11 #[.val (.int p0), .val (.ref bq1), .val (.int (12 : Int32)), .val (.int (5 : Int32)), .val (.ref w4)] [(.int (12 : Int32)), (.int (5 : Int32))])
  have hc11 : (5 : Int32) < (12 : Int32) := by decide
  refine own_go (fun _ => XS.icmpNo X6.here hx rfl (hb hby d1_11) rfl (tlt hc11).2.1) ?_
  show GG _ _ _ _ _ _ _ T6 (mkF m 14 #[.val (.int p0), .val (.ref bq1), .val (.int (12 : Int32)), .val (.int (5 : Int32)), .val (.ref w4)] [])
  refine own_go (fun _ => XS.aloadN X6.here hx rfl (hb hby d1_14) rfl rfl) ?_
  show GG _ _ _ _ _ _ _ T6 (mkF m 15 #[.val (.int p0), .val (.ref bq1), .val (.int (12 : Int32)), .val (.int (5 : Int32)), .val (.ref w4)] [(.ref bq1)])
  refine own_go (fun _ => XS.iloadN X6.here hx rfl (hb hby d1_15) rfl) ?_
  show GG _ _ _ _ _ _ _ T6 (mkF m 16 #[.val (.int p0), .val (.ref bq1), .val (.int (12 : Int32)), .val (.int (5 : Int32)), .val (.ref w4)] [(.int (5 : Int32)), (.ref bq1)])
  refine own_go (fun _ => own_aaload X6 hx hZ e6 Vq1 rfl (j := (5 : Int32)) (v := (.ref w5)) (by decide) rfl (g := (mkF m 16 #[.val (.int p0), .val (.ref bq1), .val (.int (12 : Int32)), .val (.int (5 : Int32)), .val (.ref w4)] [(.int (5 : Int32)), (.ref bq1)])) rfl rfl (hb hby d1_16) _) ?_
  show GG _ _ _ _ _ _ _ T6 (mkF m 17 #[.val (.int p0), .val (.ref bq1), .val (.int (12 : Int32)), .val (.int (5 : Int32)), .val (.ref w4)] [(.ref w5)])
  refine own_go (fun _ => XS.astore X6.here hx rfl (hb hby d1_17) rfl rfl (l' := #[.val (.int p0), .val (.ref bq1), .val (.int (12 : Int32)), .val (.int (5 : Int32)), .val (.ref w5)]) rfl) ?_
  show GG _ _ _ _ _ _ _ T6 (mkF m 19 #[.val (.int p0), .val (.ref bq1), .val (.int (12 : Int32)), .val (.int (5 : Int32)), .val (.ref w5)] [])
  refine own_go (fun _ => XS.aload X6.here hx rfl (hb hby d1_19) rfl rfl) ?_
  show GG _ _ _ _ _ _ _ T6 (mkF m 21 #[.val (.int p0), .val (.ref bq1), .val (.int (12 : Int32)), .val (.int (5 : Int32)), .val (.ref w5)] [(.ref w5)])
  obtain ⟨T7, X7, e7, st7⟩ := getF X6 hx hZ hown (host := "") (Or.inl (hw _ (List.mem_of_getElem? (i := 31) rfl))) Via.refl e6 F_5 (g := (mkF m 21 #[.val (.int p0), .val (.ref bq1), .val (.int (12 : Int32)), .val (.int (5 : Int32)), .val (.ref w5)] [(.ref w5)])) rfl rfl (hb hby d1_21)
  refine own_go (fun _ => st7 _) ?_
  show GG _ _ _ _ _ _ _ T7 (mkF m 24 #[.val (.int p0), .val (.ref bq1), .val (.int (12 : Int32)), .val (.int (5 : Int32)), .val (.ref w5)] [(.int (8 : Int32))])
  refine own_go (fun _ => XS.iloadN X7.here hx rfl (hb hby d1_24) rfl) ?_
  show GG _ _ _ _ _ _ _ T7 (mkF m 25 #[.val (.int p0), .val (.ref bq1), .val (.int (12 : Int32)), .val (.int (5 : Int32)), .val (.ref w5)] [(.int p0), (.int (8 : Int32))])
  have hc25 : ¬ ((8 : Int32) = p0) := by rw [hp]; decide
  refine own_go (fun _ => XS.icmpYes X7.here hx rfl (pc0 := 25) (pc' := 31) rfl (hb hby d1_25) rfl (feq hc25).2 (by decide) (by decide)) ?_
  show GG _ _ _ _ _ _ _ T7 (mkF m 31 #[.val (.int p0), .val (.ref bq1), .val (.int (12 : Int32)), .val (.int (5 : Int32)), .val (.ref w5)] [])
  refine own_go (fun _ => XS.iinc X7.here hx rfl (hb hby d1_31) rfl (l' := #[.val (.int p0), .val (.ref bq1), .val (.int (12 : Int32)), .val (.int (6 : Int32)), .val (.ref w5)]) rfl) ?_
  show GG _ _ _ _ _ _ _ T7 (mkF m 34 #[.val (.int p0), .val (.ref bq1), .val (.int (12 : Int32)), .val (.int (6 : Int32)), .val (.ref w5)] [])
  refine own_go (fun _ => XS.goto X7.here hx rfl (pc0 := 34) (pc' := 9) rfl (hb hby d1_34) (by decide) (by decide)) ?_
  show GG _ _ _ _ _ _ _ T7 (mkF m 9 #[.val (.int p0), .val (.ref bq1), .val (.int (12 : Int32)), .val (.int (6 : Int32)), .val (.ref w5)] [])
  refine own_go (fun _ => XS.iloadN X7.here hx rfl (hb hby d1_9) rfl) ?_
  show GG _ _ _ _ _ _ _ T7 (mkF m 10 #[.val (.int p0), .val (.ref bq1), .val (.int (12 : Int32)), .val (.int (6 : Int32)), .val (.ref w5)] [(.int (6 : Int32))])
  refine own_go (fun _ => XS.iloadN X7.here hx rfl (hb hby d1_10) rfl) ?_
  show GG _ _ _ _ _ _ _ T7 (mkF m 11 #[.val (.int p0), .val (.ref bq1), .val (.int (12 : Int32)), .val (.int (6 : Int32)), .val (.ref w5)] [(.int (12 : Int32)), (.int (6 : Int32))])
  have hc11 : (6 : Int32) < (12 : Int32) := by decide
  refine own_go (fun _ => XS.icmpNo X7.here hx rfl (hb hby d1_11) rfl (tlt hc11).2.1) ?_
  show GG _ _ _ _ _ _ _ T7 (mkF m 14 #[.val (.int p0), .val (.ref bq1), .val (.int (12 : Int32)), .val (.int (6 : Int32)), .val (.ref w5)] [])
  refine own_go (fun _ => XS.aloadN X7.here hx rfl (hb hby d1_14) rfl rfl) ?_
  show GG _ _ _ _ _ _ _ T7 (mkF m 15 #[.val (.int p0), .val (.ref bq1), .val (.int (12 : Int32)), .val (.int (6 : Int32)), .val (.ref w5)] [(.ref bq1)])
  refine own_go (fun _ => XS.iloadN X7.here hx rfl (hb hby d1_15) rfl) ?_
  show GG _ _ _ _ _ _ _ T7 (mkF m 16 #[.val (.int p0), .val (.ref bq1), .val (.int (12 : Int32)), .val (.int (6 : Int32)), .val (.ref w5)] [(.int (6 : Int32)), (.ref bq1)])
  refine own_go (fun _ => own_aaload X7 hx hZ e7 Vq1 rfl (j := (6 : Int32)) (v := (.ref w6)) (by decide) rfl (g := (mkF m 16 #[.val (.int p0), .val (.ref bq1), .val (.int (12 : Int32)), .val (.int (6 : Int32)), .val (.ref w5)] [(.int (6 : Int32)), (.ref bq1)])) rfl rfl (hb hby d1_16) _) ?_
  show GG _ _ _ _ _ _ _ T7 (mkF m 17 #[.val (.int p0), .val (.ref bq1), .val (.int (12 : Int32)), .val (.int (6 : Int32)), .val (.ref w5)] [(.ref w6)])
  refine own_go (fun _ => XS.astore X7.here hx rfl (hb hby d1_17) rfl rfl (l' := #[.val (.int p0), .val (.ref bq1), .val (.int (12 : Int32)), .val (.int (6 : Int32)), .val (.ref w6)]) rfl) ?_
  show GG _ _ _ _ _ _ _ T7 (mkF m 19 #[.val (.int p0), .val (.ref bq1), .val (.int (12 : Int32)), .val (.int (6 : Int32)), .val (.ref w6)] [])
  refine own_go (fun _ => XS.aload X7.here hx rfl (hb hby d1_19) rfl rfl) ?_
  show GG _ _ _ _ _ _ _ T7 (mkF m 21 #[.val (.int p0), .val (.ref bq1), .val (.int (12 : Int32)), .val (.int (6 : Int32)), .val (.ref w6)] [(.ref w6)])
  obtain ⟨T8, X8, e8, st8⟩ := getF X7 hx hZ hown (host := "") (Or.inl (hw _ (List.mem_of_getElem? (i := 31) rfl))) Via.refl e7 F_6 (g := (mkF m 21 #[.val (.int p0), .val (.ref bq1), .val (.int (12 : Int32)), .val (.int (6 : Int32)), .val (.ref w6)] [(.ref w6)])) rfl rfl (hb hby d1_21)
  refine own_go (fun _ => st8 _) ?_
  show GG _ _ _ _ _ _ _ T8 (mkF m 24 #[.val (.int p0), .val (.ref bq1), .val (.int (12 : Int32)), .val (.int (6 : Int32)), .val (.ref w6)] [(.int (9 : Int32))])
  refine own_go (fun _ => XS.iloadN X8.here hx rfl (hb hby d1_24) rfl) ?_
  show GG _ _ _ _ _ _ _ T8 (mkF m 25 #[.val (.int p0), .val (.ref bq1), .val (.int (12 : Int32)), .val (.int (6 : Int32)), .val (.ref w6)] [(.int p0), (.int (9 : Int32))])
  have hc25 : ¬ ((9 : Int32) = p0) := by rw [hp]; decide
  refine own_go (fun _ => XS.icmpYes X8.here hx rfl (pc0 := 25) (pc' := 31) rfl (hb hby d1_25) rfl (feq hc25).2 (by decide) (by decide)) ?_
  show GG _ _ _ _ _ _ _ T8 (mkF m 31 #[.val (.int p0), .val (.ref bq1), .val (.int (12 : Int32)), .val (.int (6 : Int32)), .val (.ref w6)] [])
  refine own_go (fun _ => XS.iinc X8.here hx rfl (hb hby d1_31) rfl (l' := #[.val (.int p0), .val (.ref bq1), .val (.int (12 : Int32)), .val (.int (7 : Int32)), .val (.ref w6)]) rfl) ?_
  show GG _ _ _ _ _ _ _ T8 (mkF m 34 #[.val (.int p0), .val (.ref bq1), .val (.int (12 : Int32)), .val (.int (7 : Int32)), .val (.ref w6)] [])
  refine own_go (fun _ => XS.goto X8.here hx rfl (pc0 := 34) (pc' := 9) rfl (hb hby d1_34) (by decide) (by decide)) ?_
  show GG _ _ _ _ _ _ _ T8 (mkF m 9 #[.val (.int p0), .val (.ref bq1), .val (.int (12 : Int32)), .val (.int (7 : Int32)), .val (.ref w6)] [])
  refine own_go (fun _ => XS.iloadN X8.here hx rfl (hb hby d1_9) rfl) ?_
  show GG _ _ _ _ _ _ _ T8 (mkF m 10 #[.val (.int p0), .val (.ref bq1), .val (.int (12 : Int32)), .val (.int (7 : Int32)), .val (.ref w6)] [(.int (7 : Int32))])
  refine own_go (fun _ => XS.iloadN X8.here hx rfl (hb hby d1_10) rfl) ?_
  show GG _ _ _ _ _ _ _ T8 (mkF m 11 #[.val (.int p0), .val (.ref bq1), .val (.int (12 : Int32)), .val (.int (7 : Int32)), .val (.ref w6)] [(.int (12 : Int32)), (.int (7 : Int32))])
  have hc11 : (7 : Int32) < (12 : Int32) := by decide
  refine own_go (fun _ => XS.icmpNo X8.here hx rfl (hb hby d1_11) rfl (tlt hc11).2.1) ?_
  show GG _ _ _ _ _ _ _ T8 (mkF m 14 #[.val (.int p0), .val (.ref bq1), .val (.int (12 : Int32)), .val (.int (7 : Int32)), .val (.ref w6)] [])
  refine own_go (fun _ => XS.aloadN X8.here hx rfl (hb hby d1_14) rfl rfl) ?_
  show GG _ _ _ _ _ _ _ T8 (mkF m 15 #[.val (.int p0), .val (.ref bq1), .val (.int (12 : Int32)), .val (.int (7 : Int32)), .val (.ref w6)] [(.ref bq1)])
  refine own_go (fun _ => XS.iloadN X8.here hx rfl (hb hby d1_15) rfl) ?_
  show GG _ _ _ _ _ _ _ T8 (mkF m 16 #[.val (.int p0), .val (.ref bq1), .val (.int (12 : Int32)), .val (.int (7 : Int32)), .val (.ref w6)] [(.int (7 : Int32)), (.ref bq1)])
  refine own_go (fun _ => own_aaload X8 hx hZ e8 Vq1 rfl (j := (7 : Int32)) (v := (.ref w7)) (by decide) rfl (g := (mkF m 16 #[.val (.int p0), .val (.ref bq1), .val (.int (12 : Int32)), .val (.int (7 : Int32)), .val (.ref w6)] [(.int (7 : Int32)), (.ref bq1)])) rfl rfl (hb hby d1_16) _) ?_
  show GG _ _ _ _ _ _ _ T8 (mkF m 17 #[.val (.int p0), .val (.ref bq1), .val (.int (12 : Int32)), .val (.int (7 : Int32)), .val (.ref w6)] [(.ref w7)])
  refine own_go (fun _ => XS.astore X8.here hx rfl (hb hby d1_17) rfl rfl (l' := #[.val (.int p0), .val (.ref bq1), .val (.int (12 : Int32)), .val (.int (7 : Int32)), .val (.ref w7)]) rfl) ?_
  show GG _ _ _ _ _ _ _ T8 (mkF m 19 #[.val (.int p0), .val (.ref bq1), .val (.int (12 : Int32)), .val (.int (7 : Int32)), .val (.ref w7)] [])
  refine own_go (fun _ => XS.aload X8.here hx rfl (hb hby d1_19) rfl rfl) ?_
  show GG _ _ _ _ _ _ _ T8 (mkF m 21 #[.val (.int p0), .val (.ref bq1), .val (.int (12 : Int32)), .val (.int (7 : Int32)), .val (.ref w7)] [(.ref w7)])
  obtain ⟨T9, X9, e9, st9⟩ := getF X8 hx hZ hown (host := "") (Or.inl (hw _ (List.mem_of_getElem? (i := 31) rfl))) Via.refl e8 F_7 (g := (mkF m 21 #[.val (.int p0), .val (.ref bq1), .val (.int (12 : Int32)), .val (.int (7 : Int32)), .val (.ref w7)] [(.ref w7)])) rfl rfl (hb hby d1_21)
  refine own_go (fun _ => st9 _) ?_
  show GG _ _ _ _ _ _ _ T9 (mkF m 24 #[.val (.int p0), .val (.ref bq1), .val (.int (12 : Int32)), .val (.int (7 : Int32)), .val (.ref w7)] [(.int (11 : Int32))])
  refine own_go (fun _ => XS.iloadN X9.here hx rfl (hb hby d1_24) rfl) ?_
  show GG _ _ _ _ _ _ _ T9 (mkF m 25 #[.val (.int p0), .val (.ref bq1), .val (.int (12 : Int32)), .val (.int (7 : Int32)), .val (.ref w7)] [(.int p0), (.int (11 : Int32))])
  have hc25 : ¬ ((11 : Int32) = p0) := by rw [hp]; decide
  refine own_go (fun _ => XS.icmpYes X9.here hx rfl (pc0 := 25) (pc' := 31) rfl (hb hby d1_25) rfl (feq hc25).2 (by decide) (by decide)) ?_
  show GG _ _ _ _ _ _ _ T9 (mkF m 31 #[.val (.int p0), .val (.ref bq1), .val (.int (12 : Int32)), .val (.int (7 : Int32)), .val (.ref w7)] [])
  refine own_go (fun _ => XS.iinc X9.here hx rfl (hb hby d1_31) rfl (l' := #[.val (.int p0), .val (.ref bq1), .val (.int (12 : Int32)), .val (.int (8 : Int32)), .val (.ref w7)]) rfl) ?_
  show GG _ _ _ _ _ _ _ T9 (mkF m 34 #[.val (.int p0), .val (.ref bq1), .val (.int (12 : Int32)), .val (.int (8 : Int32)), .val (.ref w7)] [])
  refine own_go (fun _ => XS.goto X9.here hx rfl (pc0 := 34) (pc' := 9) rfl (hb hby d1_34) (by decide) (by decide)) ?_
  show GG _ _ _ _ _ _ _ T9 (mkF m 9 #[.val (.int p0), .val (.ref bq1), .val (.int (12 : Int32)), .val (.int (8 : Int32)), .val (.ref w7)] [])
  refine own_go (fun _ => XS.iloadN X9.here hx rfl (hb hby d1_9) rfl) ?_
  show GG _ _ _ _ _ _ _ T9 (mkF m 10 #[.val (.int p0), .val (.ref bq1), .val (.int (12 : Int32)), .val (.int (8 : Int32)), .val (.ref w7)] [(.int (8 : Int32))])
  refine own_go (fun _ => XS.iloadN X9.here hx rfl (hb hby d1_10) rfl) ?_
  show GG _ _ _ _ _ _ _ T9 (mkF m 11 #[.val (.int p0), .val (.ref bq1), .val (.int (12 : Int32)), .val (.int (8 : Int32)), .val (.ref w7)] [(.int (12 : Int32)), (.int (8 : Int32))])
  have hc11 : (8 : Int32) < (12 : Int32) := by decide
  refine own_go (fun _ => XS.icmpNo X9.here hx rfl (hb hby d1_11) rfl (tlt hc11).2.1) ?_
  show GG _ _ _ _ _ _ _ T9 (mkF m 14 #[.val (.int p0), .val (.ref bq1), .val (.int (12 : Int32)), .val (.int (8 : Int32)), .val (.ref w7)] [])
  refine own_go (fun _ => XS.aloadN X9.here hx rfl (hb hby d1_14) rfl rfl) ?_
  show GG _ _ _ _ _ _ _ T9 (mkF m 15 #[.val (.int p0), .val (.ref bq1), .val (.int (12 : Int32)), .val (.int (8 : Int32)), .val (.ref w7)] [(.ref bq1)])
  refine own_go (fun _ => XS.iloadN X9.here hx rfl (hb hby d1_15) rfl) ?_
  show GG _ _ _ _ _ _ _ T9 (mkF m 16 #[.val (.int p0), .val (.ref bq1), .val (.int (12 : Int32)), .val (.int (8 : Int32)), .val (.ref w7)] [(.int (8 : Int32)), (.ref bq1)])
  refine own_go (fun _ => own_aaload X9 hx hZ e9 Vq1 rfl (j := (8 : Int32)) (v := (.ref w8)) (by decide) rfl (g := (mkF m 16 #[.val (.int p0), .val (.ref bq1), .val (.int (12 : Int32)), .val (.int (8 : Int32)), .val (.ref w7)] [(.int (8 : Int32)), (.ref bq1)])) rfl rfl (hb hby d1_16) _) ?_
  show GG _ _ _ _ _ _ _ T9 (mkF m 17 #[.val (.int p0), .val (.ref bq1), .val (.int (12 : Int32)), .val (.int (8 : Int32)), .val (.ref w7)] [(.ref w8)])
  refine own_go (fun _ => XS.astore X9.here hx rfl (hb hby d1_17) rfl rfl (l' := #[.val (.int p0), .val (.ref bq1), .val (.int (12 : Int32)), .val (.int (8 : Int32)), .val (.ref w8)]) rfl) ?_
  show GG _ _ _ _ _ _ _ T9 (mkF m 19 #[.val (.int p0), .val (.ref bq1), .val (.int (12 : Int32)), .val (.int (8 : Int32)), .val (.ref w8)] [])
  refine own_go (fun _ => XS.aload X9.here hx rfl (hb hby d1_19) rfl rfl) ?_
  show GG _ _ _ _ _ _ _ T9 (mkF m 21 #[.val (.int p0), .val (.ref bq1), .val (.int (12 : Int32)), .val (.int (8 : Int32)), .val (.ref w8)] [(.ref w8)])
  obtain ⟨T10, X10, e10, st10⟩ := getF X9 hx hZ hown (host := "") (Or.inl (hw _ (List.mem_of_getElem? (i := 31) rfl))) Via.refl e9 F_8 (g := (mkF m 21 #[.val (.int p0), .val (.ref bq1), .val (.int (12 : Int32)), .val (.int (8 : Int32)), .val (.ref w8)] [(.ref w8)])) rfl rfl (hb hby d1_21)
  refine own_go (fun _ => st10 _) ?_
  show GG _ _ _ _ _ _ _ T10 (mkF m 24 #[.val (.int p0), .val (.ref bq1), .val (.int (12 : Int32)), .val (.int (8 : Int32)), .val (.ref w8)] [(.int (12 : Int32))])
  refine own_go (fun _ => XS.iloadN X10.here hx rfl (hb hby d1_24) rfl) ?_
  show GG _ _ _ _ _ _ _ T10 (mkF m 25 #[.val (.int p0), .val (.ref bq1), .val (.int (12 : Int32)), .val (.int (8 : Int32)), .val (.ref w8)] [(.int p0), (.int (12 : Int32))])
  have hc25 : ¬ ((12 : Int32) = p0) := by rw [hp]; decide
  refine own_go (fun _ => XS.icmpYes X10.here hx rfl (pc0 := 25) (pc' := 31) rfl (hb hby d1_25) rfl (feq hc25).2 (by decide) (by decide)) ?_
  show GG _ _ _ _ _ _ _ T10 (mkF m 31 #[.val (.int p0), .val (.ref bq1), .val (.int (12 : Int32)), .val (.int (8 : Int32)), .val (.ref w8)] [])
  refine own_go (fun _ => XS.iinc X10.here hx rfl (hb hby d1_31) rfl (l' := #[.val (.int p0), .val (.ref bq1), .val (.int (12 : Int32)), .val (.int (9 : Int32)), .val (.ref w8)]) rfl) ?_
  show GG _ _ _ _ _ _ _ T10 (mkF m 34 #[.val (.int p0), .val (.ref bq1), .val (.int (12 : Int32)), .val (.int (9 : Int32)), .val (.ref w8)] [])
  refine own_go (fun _ => XS.goto X10.here hx rfl (pc0 := 34) (pc' := 9) rfl (hb hby d1_34) (by decide) (by decide)) ?_
  show GG _ _ _ _ _ _ _ T10 (mkF m 9 #[.val (.int p0), .val (.ref bq1), .val (.int (12 : Int32)), .val (.int (9 : Int32)), .val (.ref w8)] [])
  refine own_go (fun _ => XS.iloadN X10.here hx rfl (hb hby d1_9) rfl) ?_
  show GG _ _ _ _ _ _ _ T10 (mkF m 10 #[.val (.int p0), .val (.ref bq1), .val (.int (12 : Int32)), .val (.int (9 : Int32)), .val (.ref w8)] [(.int (9 : Int32))])
  refine own_go (fun _ => XS.iloadN X10.here hx rfl (hb hby d1_10) rfl) ?_
  show GG _ _ _ _ _ _ _ T10 (mkF m 11 #[.val (.int p0), .val (.ref bq1), .val (.int (12 : Int32)), .val (.int (9 : Int32)), .val (.ref w8)] [(.int (12 : Int32)), (.int (9 : Int32))])
  have hc11 : (9 : Int32) < (12 : Int32) := by decide
  refine own_go (fun _ => XS.icmpNo X10.here hx rfl (hb hby d1_11) rfl (tlt hc11).2.1) ?_
  show GG _ _ _ _ _ _ _ T10 (mkF m 14 #[.val (.int p0), .val (.ref bq1), .val (.int (12 : Int32)), .val (.int (9 : Int32)), .val (.ref w8)] [])
  refine own_go (fun _ => XS.aloadN X10.here hx rfl (hb hby d1_14) rfl rfl) ?_
  show GG _ _ _ _ _ _ _ T10 (mkF m 15 #[.val (.int p0), .val (.ref bq1), .val (.int (12 : Int32)), .val (.int (9 : Int32)), .val (.ref w8)] [(.ref bq1)])
  refine own_go (fun _ => XS.iloadN X10.here hx rfl (hb hby d1_15) rfl) ?_
  show GG _ _ _ _ _ _ _ T10 (mkF m 16 #[.val (.int p0), .val (.ref bq1), .val (.int (12 : Int32)), .val (.int (9 : Int32)), .val (.ref w8)] [(.int (9 : Int32)), (.ref bq1)])
  refine own_go (fun _ => own_aaload X10 hx hZ e10 Vq1 rfl (j := (9 : Int32)) (v := (.ref w9)) (by decide) rfl (g := (mkF m 16 #[.val (.int p0), .val (.ref bq1), .val (.int (12 : Int32)), .val (.int (9 : Int32)), .val (.ref w8)] [(.int (9 : Int32)), (.ref bq1)])) rfl rfl (hb hby d1_16) _) ?_
  show GG _ _ _ _ _ _ _ T10 (mkF m 17 #[.val (.int p0), .val (.ref bq1), .val (.int (12 : Int32)), .val (.int (9 : Int32)), .val (.ref w8)] [(.ref w9)])
  refine own_go (fun _ => XS.astore X10.here hx rfl (hb hby d1_17) rfl rfl (l' := #[.val (.int p0), .val (.ref bq1), .val (.int (12 : Int32)), .val (.int (9 : Int32)), .val (.ref w9)]) rfl) ?_
  show GG _ _ _ _ _ _ _ T10 (mkF m 19 #[.val (.int p0), .val (.ref bq1), .val (.int (12 : Int32)), .val (.int (9 : Int32)), .val (.ref w9)] [])
  refine own_go (fun _ => XS.aload X10.here hx rfl (hb hby d1_19) rfl rfl) ?_
  show GG _ _ _ _ _ _ _ T10 (mkF m 21 #[.val (.int p0), .val (.ref bq1), .val (.int (12 : Int32)), .val (.int (9 : Int32)), .val (.ref w9)] [(.ref w9)])
  obtain ⟨T11, X11, e11, st11⟩ := getF X10 hx hZ hown (host := "") (Or.inl (hw _ (List.mem_of_getElem? (i := 31) rfl))) Via.refl e10 F_9 (g := (mkF m 21 #[.val (.int p0), .val (.ref bq1), .val (.int (12 : Int32)), .val (.int (9 : Int32)), .val (.ref w9)] [(.ref w9)])) rfl rfl (hb hby d1_21)
  refine own_go (fun _ => st11 _) ?_
  show GG _ _ _ _ _ _ _ T11 (mkF m 24 #[.val (.int p0), .val (.ref bq1), .val (.int (12 : Int32)), .val (.int (9 : Int32)), .val (.ref w9)] [(.int (13 : Int32))])
  refine own_go (fun _ => XS.iloadN X11.here hx rfl (hb hby d1_24) rfl) ?_
  show GG _ _ _ _ _ _ _ T11 (mkF m 25 #[.val (.int p0), .val (.ref bq1), .val (.int (12 : Int32)), .val (.int (9 : Int32)), .val (.ref w9)] [(.int p0), (.int (13 : Int32))])
  have hc25 : ¬ ((13 : Int32) = p0) := by rw [hp]; decide
  refine own_go (fun _ => XS.icmpYes X11.here hx rfl (pc0 := 25) (pc' := 31) rfl (hb hby d1_25) rfl (feq hc25).2 (by decide) (by decide)) ?_
  show GG _ _ _ _ _ _ _ T11 (mkF m 31 #[.val (.int p0), .val (.ref bq1), .val (.int (12 : Int32)), .val (.int (9 : Int32)), .val (.ref w9)] [])
  refine own_go (fun _ => XS.iinc X11.here hx rfl (hb hby d1_31) rfl (l' := #[.val (.int p0), .val (.ref bq1), .val (.int (12 : Int32)), .val (.int (10 : Int32)), .val (.ref w9)]) rfl) ?_
  show GG _ _ _ _ _ _ _ T11 (mkF m 34 #[.val (.int p0), .val (.ref bq1), .val (.int (12 : Int32)), .val (.int (10 : Int32)), .val (.ref w9)] [])
  refine own_go (fun _ => XS.goto X11.here hx rfl (pc0 := 34) (pc' := 9) rfl (hb hby d1_34) (by decide) (by decide)) ?_
  show GG _ _ _ _ _ _ _ T11 (mkF m 9 #[.val (.int p0), .val (.ref bq1), .val (.int (12 : Int32)), .val (.int (10 : Int32)), .val (.ref w9)] [])
  refine own_go (fun _ => XS.iloadN X11.here hx rfl (hb hby d1_9) rfl) ?_
  show GG _ _ _ _ _ _ _ T11 (mkF m 10 #[.val (.int p0), .val (.ref bq1), .val (.int (12 : Int32)), .val (.int (10 : Int32)), .val (.ref w9)] [(.int (10 : Int32))])
  refine own_go (fun _ => XS.iloadN X11.here hx rfl (hb hby d1_10) rfl) ?_
  show GG _ _ _ _ _ _ _ T11 (mkF m 11 #[.val (.int p0), .val (.ref bq1), .val (.int (12 : Int32)), .val (.int (10 : Int32)), .val (.ref w9)] [(.int (12 : Int32)), (.int (10 : Int32))])
  have hc11 : (10 : Int32) < (12 : Int32) := by decide
  refine own_go (fun _ => XS.icmpNo X11.here hx rfl (hb hby d1_11) rfl (tlt hc11).2.1) ?_
  show GG _ _ _ _ _ _ _ T11 (mkF m 14 #[.val (.int p0), .val (.ref bq1), .val (.int (12 : Int32)), .val (.int (10 : Int32)), .val (.ref w9)] [])
  refine own_go (fun _ => XS.aloadN X11.here hx rfl (hb hby d1_14) rfl rfl) ?_
  show GG _ _ _ _ _ _ _ T11 (mkF m 15 #[.val (.int p0), .val (.ref bq1), .val (.int (12 : Int32)), .val (.int (10 : Int32)), .val (.ref w9)] [(.ref bq1)])
  refine own_go (fun _ => XS.iloadN X11.here hx rfl (hb hby d1_15) rfl) ?_
  show GG _ _ _ _ _ _ _ T11 (mkF m 16 #[.val (.int p0), .val (.ref bq1), .val (.int (12 : Int32)), .val (.int (10 : Int32)), .val (.ref w9)] [(.int (10 : Int32)), (.ref bq1)])
  refine own_go (fun _ => own_aaload X11 hx hZ e11 Vq1 rfl (j := (10 : Int32)) (v := (.ref w10)) (by decide) rfl (g := (mkF m 16 #[.val (.int p0), .val (.ref bq1), .val (.int (12 : Int32)), .val (.int (10 : Int32)), .val (.ref w9)] [(.int (10 : Int32)), (.ref bq1)])) rfl rfl (hb hby d1_16) _) ?_
  show GG _ _ _ _ _ _ _ T11 (mkF m 17 #[.val (.int p0), .val (.ref bq1), .val (.int (12 : Int32)), .val (.int (10 : Int32)), .val (.ref w9)] [(.ref w10)])
  refine own_go (fun _ => XS.astore X11.here hx rfl (hb hby d1_17) rfl rfl (l' := #[.val (.int p0), .val (.ref bq1), .val (.int (12 : Int32)), .val (.int (10 : Int32)), .val (.ref w10)]) rfl) ?_
  show GG _ _ _ _ _ _ _ T11 (mkF m 19 #[.val (.int p0), .val (.ref bq1), .val (.int (12 : Int32)), .val (.int (10 : Int32)), .val (.ref w10)] [])
  refine own_go (fun _ => XS.aload X11.here hx rfl (hb hby d1_19) rfl rfl) ?_
  show GG _ _ _ _ _ _ _ T11 (mkF m 21 #[.val (.int p0), .val (.ref bq1), .val (.int (12 : Int32)), .val (.int (10 : Int32)), .val (.ref w10)] [(.ref w10)])
  obtain ⟨T12, X12, e12, st12⟩ := getF X11 hx hZ hown (host := "") (Or.inl (hw _ (List.mem_of_getElem? (i := 31) rfl))) Via.refl e11 F_10 (g := (mkF m 21 #[.val (.int p0), .val (.ref bq1), .val (.int (12 : Int32)), .val (.int (10 : Int32)), .val (.ref w10)] [(.ref w10)])) rfl rfl (hb hby d1_21)
  refine own_go (fun _ => st12 _) ?_
  show GG _ _ _ _ _ _ _ T12 (mkF m 24 #[.val (.int p0), .val (.ref bq1), .val (.int (12 : Int32)), .val (.int (10 : Int32)), .val (.ref w10)] [(.int (14 : Int32))])
  refine own_go (fun _ => XS.iloadN X12.here hx rfl (hb hby d1_24) rfl) ?_
  show GG _ _ _ _ _ _ _ T12 (mkF m 25 #[.val (.int p0), .val (.ref bq1), .val (.int (12 : Int32)), .val (.int (10 : Int32)), .val (.ref w10)] [(.int p0), (.int (14 : Int32))])
  have hc25 : (14 : Int32) = p0 := hp.symm
  refine own_go (fun _ => XS.icmpNo X12.here hx rfl (hb hby d1_25) rfl (teq hc25).2) ?_
  show GG _ _ _ _ _ _ _ T12 (mkF m 28 #[.val (.int p0), .val (.ref bq1), .val (.int (12 : Int32)), .val (.int (10 : Int32)), .val (.ref w10)] [])
  refine own_go (fun _ => XS.aload X12.here hx rfl (hb hby d1_28) rfl rfl) ?_
  show GG _ _ _ _ _ _ _ T12 (mkF m 30 #[.val (.int p0), .val (.ref bq1), .val (.int (12 : Int32)), .val (.int (10 : Int32)), .val (.ref w10)] [(.ref w10)])
  refine own_ret X12 hx hlk (t := (.object "com/example/bellwether/bellwether/protocol/OpCode")) (w := (.ref w10)) Bd.returns rfl (Or.inr (Or.inr (Or.inr (Or.inr ⟨rfl, rfl, rfl⟩)))) (hb hby d1_30) (by decide) (by decide) ?_
  show Q1_10 Z p0 wV w0 w1 w2 w3 w4 w5 w6 w7 w8 w9 w10 w11 h0 n0 (some (.ref w10)) T12.heap _
  rw [e12]
  exact ⟨rfl, N1, K0⟩
def Q1_11 (Z : State) (p0 : Int32) (wV : Addr) (w0 w1 w2 w3 w4 w5 w6 w7 w8 w9 w10 w11 : Addr) (h0 : Heap) (n0 : Nat) (v : Option Value) (h : Heap) (L : List Loc) : Prop := v = some (.ref w11) ∧ Fr n0 L ∧ Keep h0 h []
set_option maxRecDepth 65536 in
set_option maxHeartbeats 40000000 in
theorem rm1_11 (l : Launch) (Z : State) (a0 : Array Value) (hw : ∀ d ∈ tables_1, d.before a0 Z = true) (ws : List Jvm.Cond) (p0 : Int32) (wV : Addr) (w0 w1 w2 w3 w4 w5 w6 w7 w8 w9 w10 w11 : Addr) (h0 : Heap) (n0 : Nat) (Z0 : n0 ≤ h0.size) (hp : p0 = (-11 : Int32)) (S_V : Sta Z h0 "com/example/bellwether/bellwether/protocol/OpCode" "$VALUES" "[Lcom/example/bellwether/bellwether/protocol/OpCode;" (.ref wV)) (V_V : Arx Z h0 wV (.object "com/example/bellwether/bellwether/protocol/OpCode") [(.ref w0), (.ref w1), (.ref w2), (.ref w3), (.ref w4), (.ref w5), (.ref w6), (.ref w7), (.ref w8), (.ref w9), (.ref w10), (.ref w11)]) (E_V : Exa Z h0 wV "[Lcom/example/bellwether/bellwether/protocol/OpCode;") (F_0 : Fld Z h0 w0 "com/example/bellwether/bellwether/protocol/OpCode" "code" "I" (.int (1 : Int32))) (F_1 : Fld Z h0 w1 "com/example/bellwether/bellwether/protocol/OpCode" "code" "I" (.int (2 : Int32))) (F_2 : Fld Z h0 w2 "com/example/bellwether/bellwether/protocol/OpCode" "code" "I" (.int (3 : Int32))) (F_3 : Fld Z h0 w3 "com/example/bellwether/bellwether/protocol/OpCode" "code" "I" (.int (4 : Int32))) (F_4 : Fld Z h0 w4 "com/example/bellwether/bellwether/protocol/OpCode" "code" "I" (.int (5 : Int32))) (F_5 : Fld Z h0 w5 "com/example/bellwether/bellwether/protocol/OpCode" "code" "I" (.int (8 : Int32))) (F_6 : Fld Z h0 w6 "com/example/bellwether/bellwether/protocol/OpCode" "code" "I" (.int (9 : Int32))) (F_7 : Fld Z h0 w7 "com/example/bellwether/bellwether/protocol/OpCode" "code" "I" (.int (11 : Int32))) (F_8 : Fld Z h0 w8 "com/example/bellwether/bellwether/protocol/OpCode" "code" "I" (.int (12 : Int32))) (F_9 : Fld Z h0 w9 "com/example/bellwether/bellwether/protocol/OpCode" "code" "I" (.int (13 : Int32))) (F_10 : Fld Z h0 w10 "com/example/bellwether/bellwether/protocol/OpCode" "code" "I" (.int (14 : Int32))) (F_11 : Fld Z h0 w11 "com/example/bellwether/bellwether/protocol/OpCode" "code" "I" (.int (-11 : Int32))) :
    own_CT l Z (⟨"com/example/bellwether/bellwether/protocol/OpCode", "of", "(I)Lcom/example/bellwether/bellwether/protocol/OpCode;"⟩ : MethodName) prog_23_method_5_code 5 (some (.object "com/example/bellwether/bellwether/protocol/OpCode")) ws ({ frames := 2, cells := 1, slots := 12, locals := 25 } : Room) #[(.int p0)] h0 (Q1_11 Z p0 wV w0 w1 w2 w3 w4 w5 w6 w7 w8 w9 w10 w11 h0 n0) := by
  refine MetFree.of_bodySF (plainFor_of_name pn_com_example_bellwether_bellwether_protocol_OpCode) hisR ?_
  intro p e s m args below meth c s₁ Bd hml0 hP hK
  obtain ⟨rfl, hZ, hh⟩ := hP
  have hx := Bd.exec
  have hby := Bd.bytes
  have hml : c.maxLocals = 5 := hml0
  have hown : s.vm.findClass "com/example/bellwether/bellwether/protocol/OpCode" = some m.cls := findClass_of_methodNamed Bd.named
  have hnm := (name_of_methodNamed Bd.named Bd.method).1
  have hlk : meth.locks = false := BodyLoose.notSynchronized Bd
  have X0 : Stand p l e ({ frames := 2, cells := 1, slots := 12, locals := 25 } : Room) s m #[(.int p0)] below meth c s₁ [] 0 0 := Stand.of_body Bd
  have e0 : s₁.heap = h0 := by rw [← hh, Bd.state]; rfl
  have N0 := Fr.nil n0
  show GG p e below s ({ frames := 2, cells := 1, slots := 12, locals := 25 } : Room).cells ({ frames := 2, cells := 1, slots := 12, locals := 25 } : Room).slots (Q1_11 Z p0 wV w0 w1 w2 w3 w4 w5 w6 w7 w8 w9 w10 w11 h0 n0) s₁ (entryFrame m #[(.int p0)] 5)
  refine own_in (ef_1 m p0) ?_
  have K0 := Keep.refl h0 []
  show GG _ _ _ _ _ _ _ s₁ (mkF m 0 #[.val (.int p0), .unset, .unset, .unset, .unset] [])
  refine own_callS X0 hx hZ (y := (⟨"com/example/bellwether/bellwether/protocol/OpCode", "values", "()[Lcom/example/bellwether/bellwether/protocol/OpCode;"⟩ : MethodName)) 0 hown (hw _ (List.mem_of_getElem? (i := 4) rfl)) (hw _ (List.mem_of_getElem? (i := 5) rfl)) (hw _ (List.mem_of_getElem? (i := 2) rfl)) (hw _ (List.mem_of_getElem? (i := 6) rfl)) (by decide) (argsL := []) (rest := []) (rm2 l Z a0 hw [] wV w0 w1 w2 w3 w4 w5 w6 w7 w8 w9 w10 w11 h0 n0 Z0 S_V V_V E_V) (by decide) (by decide) (by decide) (by decide) (g := (mkF m 0 #[.val (.int p0), .unset, .unset, .unset, .unset] [])) rfl (by rw [hml]; rfl) (lenOf pd____Lcom_example_bellwether_bellwether_pr_216 rfl) rfl (by show 2 * 0 + _ ≤ _; exact Nat.le_of_eq rfl) (hb hby d1_0) e0 ?_
  rintro v1 T1 L1 X1 ⟨bq1, rfl, N1q, szq1, Kq1, Vq1⟩
  have N1 := Fr.app N0 N1q
  have K0 := K0.trans Kq1 all0
  have F_0 := F_0.keep Kq1 nin0
  have F_1 := F_1.keep Kq1 nin0
  have F_2 := F_2.keep Kq1 nin0
  have F_3 := F_3.keep Kq1 nin0
  have F_4 := F_4.keep Kq1 nin0
  have F_5 := F_5.keep Kq1 nin0
  have F_6 := F_6.keep Kq1 nin0
  have F_7 := F_7.keep Kq1 nin0
  have F_8 := F_8.keep Kq1 nin0
  have F_9 := F_9.keep Kq1 nin0
  have F_10 := F_10.keep Kq1 nin0
  have F_11 := F_11.keep Kq1 nin0
  show GG _ _ _ _ _ _ _ T1 (mkF m 3 #[.val (.int p0), .unset, .unset, .unset, .unset] [(.ref bq1)])
  refine own_go (fun _ => XS.astoreN X1.here hx rfl (hb hby d1_3) rfl rfl (l' := #[.val (.int p0), .val (.ref bq1), .unset, .unset, .unset]) rfl) ?_
  show GG _ _ _ _ _ _ _ T1 (mkF m 4 #[.val (.int p0), .val (.ref bq1), .unset, .unset, .unset] [])
  refine own_go (fun _ => XS.aloadN X1.here hx rfl (hb hby d1_4) rfl rfl) ?_
  show GG _ _ _ _ _ _ _ T1 (mkF m 5 #[.val (.int p0), .val (.ref bq1), .unset, .unset, .unset] [(.ref bq1)])
  refine own_go (fun _ => own_len X1 hx hZ rfl Vq1 (g := (mkF m 5 #[.val (.int p0), .val (.ref bq1), .unset, .unset, .unset] [(.ref bq1)])) rfl rfl (hb hby d1_5) _) ?_
  show GG _ _ _ _ _ _ _ T1 (mkF m 6 #[.val (.int p0), .val (.ref bq1), .unset, .unset, .unset] [(.int (12 : Int32))])
  refine own_go (fun _ => XS.istoreN X1.here hx rfl (hb hby d1_6) rfl (l' := #[.val (.int p0), .val (.ref bq1), .val (.int (12 : Int32)), .unset, .unset]) rfl) ?_
  show GG _ _ _ _ _ _ _ T1 (mkF m 7 #[.val (.int p0), .val (.ref bq1), .val (.int (12 : Int32)), .unset, .unset] [])
  refine own_go (fun _ => XS.iconst X1.here hx rfl (hb hby d1_7)) ?_
  show GG _ _ _ _ _ _ _ T1 (mkF m 8 #[.val (.int p0), .val (.ref bq1), .val (.int (12 : Int32)), .unset, .unset] [(.int (0 : Int32))])
  refine own_go (fun _ => XS.istoreN X1.here hx rfl (hb hby d1_8) rfl (l' := #[.val (.int p0), .val (.ref bq1), .val (.int (12 : Int32)), .val (.int (0 : Int32)), .unset]) rfl) ?_
  show GG _ _ _ _ _ _ _ T1 (mkF m 9 #[.val (.int p0), .val (.ref bq1), .val (.int (12 : Int32)), .val (.int (0 : Int32)), .unset] [])
  refine own_go (fun _ => XS.iloadN X1.here hx rfl (hb hby d1_9) rfl) ?_
  show GG _ _ _ _ _ _ _ T1 (mkF m 10 #[.val (.int p0), .val (.ref bq1), .val (.int (12 : Int32)), .val (.int (0 : Int32)), .unset] [(.int (0 : Int32))])
  refine own_go (fun _ => XS.iloadN X1.here hx rfl (hb hby d1_10) rfl) ?_
  show GG _ _ _ _ _ _ _ T1 (mkF m 11 #[.val (.int p0), .val (.ref bq1), .val (.int (12 : Int32)), .val (.int (0 : Int32)), .unset] [(.int (12 : Int32)), (.int (0 : Int32))])
  have hc11 : (0 : Int32) < (12 : Int32) := by decide
  refine own_go (fun _ => XS.icmpNo X1.here hx rfl (hb hby d1_11) rfl (tlt hc11).2.1) ?_
  show GG _ _ _ _ _ _ _ T1 (mkF m 14 #[.val (.int p0), .val (.ref bq1), .val (.int (12 : Int32)), .val (.int (0 : Int32)), .unset] [])
  refine own_go (fun _ => XS.aloadN X1.here hx rfl (hb hby d1_14) rfl rfl) ?_
  show GG _ _ _ _ _ _ _ T1 (mkF m 15 #[.val (.int p0), .val (.ref bq1), .val (.int (12 : Int32)), .val (.int (0 : Int32)), .unset] [(.ref bq1)])
  refine own_go (fun _ => XS.iloadN X1.here hx rfl (hb hby d1_15) rfl) ?_
  show GG _ _ _ _ _ _ _ T1 (mkF m 16 #[.val (.int p0), .val (.ref bq1), .val (.int (12 : Int32)), .val (.int (0 : Int32)), .unset] [(.int (0 : Int32)), (.ref bq1)])
  refine own_go (fun _ => own_aaload X1 hx hZ rfl Vq1 rfl (j := (0 : Int32)) (v := (.ref w0)) (by decide) rfl (g := (mkF m 16 #[.val (.int p0), .val (.ref bq1), .val (.int (12 : Int32)), .val (.int (0 : Int32)), .unset] [(.int (0 : Int32)), (.ref bq1)])) rfl rfl (hb hby d1_16) _) ?_
  show GG _ _ _ _ _ _ _ T1 (mkF m 17 #[.val (.int p0), .val (.ref bq1), .val (.int (12 : Int32)), .val (.int (0 : Int32)), .unset] [(.ref w0)])
  refine own_go (fun _ => XS.astore X1.here hx rfl (hb hby d1_17) rfl rfl (l' := #[.val (.int p0), .val (.ref bq1), .val (.int (12 : Int32)), .val (.int (0 : Int32)), .val (.ref w0)]) rfl) ?_
  show GG _ _ _ _ _ _ _ T1 (mkF m 19 #[.val (.int p0), .val (.ref bq1), .val (.int (12 : Int32)), .val (.int (0 : Int32)), .val (.ref w0)] [])
  refine own_go (fun _ => XS.aload X1.here hx rfl (hb hby d1_19) rfl rfl) ?_
  show GG _ _ _ _ _ _ _ T1 (mkF m 21 #[.val (.int p0), .val (.ref bq1), .val (.int (12 : Int32)), .val (.int (0 : Int32)), .val (.ref w0)] [(.ref w0)])
  obtain ⟨T2, X2, e2, st2⟩ := getF X1 hx hZ hown (host := "") (Or.inl (hw _ (List.mem_of_getElem? (i := 31) rfl))) Via.refl rfl F_0 (g := (mkF m 21 #[.val (.int p0), .val (.ref bq1), .val (.int (12 : Int32)), .val (.int (0 : Int32)), .val (.ref w0)] [(.ref w0)])) rfl rfl (hb hby d1_21)
  refine own_go (fun _ => st2 _) ?_
  show GG _ _ _ _ _ _ _ T2 (mkF m 24 #[.val (.int p0), .val (.ref bq1), .val (.int (12 : Int32)), .val (.int (0 : Int32)), .val (.ref w0)] [(.int (1 : Int32))])
  refine own_go (fun _ => XS.iloadN X2.here hx rfl (hb hby d1_24) rfl) ?_
  show GG _ _ _ _ _ _ _ T2 (mkF m 25 #[.val (.int p0), .val (.ref bq1), .val (.int (12 : Int32)), .val (.int (0 : Int32)), .val (.ref w0)] [(.int p0), (.int (1 : Int32))])
  have hc25 : ¬ ((1 : Int32) = p0) := by rw [hp]; decide
  refine own_go (fun _ => XS.icmpYes X2.here hx rfl (pc0 := 25) (pc' := 31) rfl (hb hby d1_25) rfl (feq hc25).2 (by decide) (by decide)) ?_
  show GG _ _ _ _ _ _ _ T2 (mkF m 31 #[.val (.int p0), .val (.ref bq1), .val (.int (12 : Int32)), .val (.int (0 : Int32)), .val (.ref w0)] [])
  refine own_go (fun _ => XS.iinc X2.here hx rfl (hb hby d1_31) rfl (l' := #[.val (.int p0), .val (.ref bq1), .val (.int (12 : Int32)), .val (.int (1 : Int32)), .val (.ref w0)]) rfl) ?_
  show GG _ _ _ _ _ _ _ T2 (mkF m 34 #[.val (.int p0), .val (.ref bq1), .val (.int (12 : Int32)), .val (.int (1 : Int32)), .val (.ref w0)] [])
  refine own_go (fun _ => XS.goto X2.here hx rfl (pc0 := 34) (pc' := 9) rfl (hb hby d1_34) (by decide) (by decide)) ?_
  show GG _ _ _ _ _ _ _ T2 (mkF m 9 #[.val (.int p0), .val (.ref bq1), .val (.int (12 : Int32)), .val (.int (1 : Int32)), .val (.ref w0)] [])
  refine own_go (fun _ => XS.iloadN X2.here hx rfl (hb hby d1_9) rfl) ?_
  show GG _ _ _ _ _ _ _ T2 (mkF m 10 #[.val (.int p0), .val (.ref bq1), .val (.int (12 : Int32)), .val (.int (1 : Int32)), .val (.ref w0)] [(.int (1 : Int32))])
  refine own_go (fun _ => XS.iloadN X2.here hx rfl (hb hby d1_10) rfl) ?_
  show GG _ _ _ _ _ _ _ T2 (mkF m 11 #[.val (.int p0), .val (.ref bq1), .val (.int (12 : Int32)), .val (.int (1 : Int32)), .val (.ref w0)] [(.int (12 : Int32)), (.int (1 : Int32))])
  have hc11 : (1 : Int32) < (12 : Int32) := by decide
  refine own_go (fun _ => XS.icmpNo X2.here hx rfl (hb hby d1_11) rfl (tlt hc11).2.1) ?_
  show GG _ _ _ _ _ _ _ T2 (mkF m 14 #[.val (.int p0), .val (.ref bq1), .val (.int (12 : Int32)), .val (.int (1 : Int32)), .val (.ref w0)] [])
  refine own_go (fun _ => XS.aloadN X2.here hx rfl (hb hby d1_14) rfl rfl) ?_
  show GG _ _ _ _ _ _ _ T2 (mkF m 15 #[.val (.int p0), .val (.ref bq1), .val (.int (12 : Int32)), .val (.int (1 : Int32)), .val (.ref w0)] [(.ref bq1)])
  refine own_go (fun _ => XS.iloadN X2.here hx rfl (hb hby d1_15) rfl) ?_
  show GG _ _ _ _ _ _ _ T2 (mkF m 16 #[.val (.int p0), .val (.ref bq1), .val (.int (12 : Int32)), .val (.int (1 : Int32)), .val (.ref w0)] [(.int (1 : Int32)), (.ref bq1)])
  refine own_go (fun _ => own_aaload X2 hx hZ e2 Vq1 rfl (j := (1 : Int32)) (v := (.ref w1)) (by decide) rfl (g := (mkF m 16 #[.val (.int p0), .val (.ref bq1), .val (.int (12 : Int32)), .val (.int (1 : Int32)), .val (.ref w0)] [(.int (1 : Int32)), (.ref bq1)])) rfl rfl (hb hby d1_16) _) ?_
  show GG _ _ _ _ _ _ _ T2 (mkF m 17 #[.val (.int p0), .val (.ref bq1), .val (.int (12 : Int32)), .val (.int (1 : Int32)), .val (.ref w0)] [(.ref w1)])
  refine own_go (fun _ => XS.astore X2.here hx rfl (hb hby d1_17) rfl rfl (l' := #[.val (.int p0), .val (.ref bq1), .val (.int (12 : Int32)), .val (.int (1 : Int32)), .val (.ref w1)]) rfl) ?_
  show GG _ _ _ _ _ _ _ T2 (mkF m 19 #[.val (.int p0), .val (.ref bq1), .val (.int (12 : Int32)), .val (.int (1 : Int32)), .val (.ref w1)] [])
  refine own_go (fun _ => XS.aload X2.here hx rfl (hb hby d1_19) rfl rfl) ?_
  show GG _ _ _ _ _ _ _ T2 (mkF m 21 #[.val (.int p0), .val (.ref bq1), .val (.int (12 : Int32)), .val (.int (1 : Int32)), .val (.ref w1)] [(.ref w1)])
  obtain ⟨T3, X3, e3, st3⟩ := getF X2 hx hZ hown (host := "") (Or.inl (hw _ (List.mem_of_getElem? (i := 31) rfl))) Via.refl e2 F_1 (g := (mkF m 21 #[.val (.int p0), .val (.ref bq1), .val (.int (12 : Int32)), .val (.int (1 : Int32)), .val (.ref w1)] [(.ref w1)])) rfl rfl (hb hby d1_21)
  refine own_go (fun _ => st3 _) ?_
  show GG _ _ _ _ _ _ _ T3 (mkF m 24 #[.val (.int p0), .val (.ref bq1), .val (.int (12 : Int32)), .val (.int (1 : Int32)), .val (.ref w1)] [(.int (2 : Int32))])
  refine own_go (fun _ => XS.iloadN X3.here hx rfl (hb hby d1_24) rfl) ?_
  show GG _ _ _ _ _ _ _ T3 (mkF m 25 #[.val (.int p0), .val (.ref bq1), .val (.int (12 : Int32)), .val (.int (1 : Int32)), .val (.ref w1)] [(.int p0), (.int (2 : Int32))])
  have hc25 : ¬ ((2 : Int32) = p0) := by rw [hp]; decide
  refine own_go (fun _ => XS.icmpYes X3.here hx rfl (pc0 := 25) (pc' := 31) rfl (hb hby d1_25) rfl (feq hc25).2 (by decide) (by decide)) ?_
  show GG _ _ _ _ _ _ _ T3 (mkF m 31 #[.val (.int p0), .val (.ref bq1), .val (.int (12 : Int32)), .val (.int (1 : Int32)), .val (.ref w1)] [])
  refine own_go (fun _ => XS.iinc X3.here hx rfl (hb hby d1_31) rfl (l' := #[.val (.int p0), .val (.ref bq1), .val (.int (12 : Int32)), .val (.int (2 : Int32)), .val (.ref w1)]) rfl) ?_
  show GG _ _ _ _ _ _ _ T3 (mkF m 34 #[.val (.int p0), .val (.ref bq1), .val (.int (12 : Int32)), .val (.int (2 : Int32)), .val (.ref w1)] [])
  refine own_go (fun _ => XS.goto X3.here hx rfl (pc0 := 34) (pc' := 9) rfl (hb hby d1_34) (by decide) (by decide)) ?_
  show GG _ _ _ _ _ _ _ T3 (mkF m 9 #[.val (.int p0), .val (.ref bq1), .val (.int (12 : Int32)), .val (.int (2 : Int32)), .val (.ref w1)] [])
  refine own_go (fun _ => XS.iloadN X3.here hx rfl (hb hby d1_9) rfl) ?_
  show GG _ _ _ _ _ _ _ T3 (mkF m 10 #[.val (.int p0), .val (.ref bq1), .val (.int (12 : Int32)), .val (.int (2 : Int32)), .val (.ref w1)] [(.int (2 : Int32))])
  refine own_go (fun _ => XS.iloadN X3.here hx rfl (hb hby d1_10) rfl) ?_
  show GG _ _ _ _ _ _ _ T3 (mkF m 11 #[.val (.int p0), .val (.ref bq1), .val (.int (12 : Int32)), .val (.int (2 : Int32)), .val (.ref w1)] [(.int (12 : Int32)), (.int (2 : Int32))])
  have hc11 : (2 : Int32) < (12 : Int32) := by decide
  refine own_go (fun _ => XS.icmpNo X3.here hx rfl (hb hby d1_11) rfl (tlt hc11).2.1) ?_
  show GG _ _ _ _ _ _ _ T3 (mkF m 14 #[.val (.int p0), .val (.ref bq1), .val (.int (12 : Int32)), .val (.int (2 : Int32)), .val (.ref w1)] [])
  refine own_go (fun _ => XS.aloadN X3.here hx rfl (hb hby d1_14) rfl rfl) ?_
  show GG _ _ _ _ _ _ _ T3 (mkF m 15 #[.val (.int p0), .val (.ref bq1), .val (.int (12 : Int32)), .val (.int (2 : Int32)), .val (.ref w1)] [(.ref bq1)])
  refine own_go (fun _ => XS.iloadN X3.here hx rfl (hb hby d1_15) rfl) ?_
  show GG _ _ _ _ _ _ _ T3 (mkF m 16 #[.val (.int p0), .val (.ref bq1), .val (.int (12 : Int32)), .val (.int (2 : Int32)), .val (.ref w1)] [(.int (2 : Int32)), (.ref bq1)])
  refine own_go (fun _ => own_aaload X3 hx hZ e3 Vq1 rfl (j := (2 : Int32)) (v := (.ref w2)) (by decide) rfl (g := (mkF m 16 #[.val (.int p0), .val (.ref bq1), .val (.int (12 : Int32)), .val (.int (2 : Int32)), .val (.ref w1)] [(.int (2 : Int32)), (.ref bq1)])) rfl rfl (hb hby d1_16) _) ?_
  show GG _ _ _ _ _ _ _ T3 (mkF m 17 #[.val (.int p0), .val (.ref bq1), .val (.int (12 : Int32)), .val (.int (2 : Int32)), .val (.ref w1)] [(.ref w2)])
  refine own_go (fun _ => XS.astore X3.here hx rfl (hb hby d1_17) rfl rfl (l' := #[.val (.int p0), .val (.ref bq1), .val (.int (12 : Int32)), .val (.int (2 : Int32)), .val (.ref w2)]) rfl) ?_
  show GG _ _ _ _ _ _ _ T3 (mkF m 19 #[.val (.int p0), .val (.ref bq1), .val (.int (12 : Int32)), .val (.int (2 : Int32)), .val (.ref w2)] [])
  refine own_go (fun _ => XS.aload X3.here hx rfl (hb hby d1_19) rfl rfl) ?_
  show GG _ _ _ _ _ _ _ T3 (mkF m 21 #[.val (.int p0), .val (.ref bq1), .val (.int (12 : Int32)), .val (.int (2 : Int32)), .val (.ref w2)] [(.ref w2)])
  obtain ⟨T4, X4, e4, st4⟩ := getF X3 hx hZ hown (host := "") (Or.inl (hw _ (List.mem_of_getElem? (i := 31) rfl))) Via.refl e3 F_2 (g := (mkF m 21 #[.val (.int p0), .val (.ref bq1), .val (.int (12 : Int32)), .val (.int (2 : Int32)), .val (.ref w2)] [(.ref w2)])) rfl rfl (hb hby d1_21)
  refine own_go (fun _ => st4 _) ?_
  show GG _ _ _ _ _ _ _ T4 (mkF m 24 #[.val (.int p0), .val (.ref bq1), .val (.int (12 : Int32)), .val (.int (2 : Int32)), .val (.ref w2)] [(.int (3 : Int32))])
  refine own_go (fun _ => XS.iloadN X4.here hx rfl (hb hby d1_24) rfl) ?_
  show GG _ _ _ _ _ _ _ T4 (mkF m 25 #[.val (.int p0), .val (.ref bq1), .val (.int (12 : Int32)), .val (.int (2 : Int32)), .val (.ref w2)] [(.int p0), (.int (3 : Int32))])
  have hc25 : ¬ ((3 : Int32) = p0) := by rw [hp]; decide
  refine own_go (fun _ => XS.icmpYes X4.here hx rfl (pc0 := 25) (pc' := 31) rfl (hb hby d1_25) rfl (feq hc25).2 (by decide) (by decide)) ?_
  show GG _ _ _ _ _ _ _ T4 (mkF m 31 #[.val (.int p0), .val (.ref bq1), .val (.int (12 : Int32)), .val (.int (2 : Int32)), .val (.ref w2)] [])
  refine own_go (fun _ => XS.iinc X4.here hx rfl (hb hby d1_31) rfl (l' := #[.val (.int p0), .val (.ref bq1), .val (.int (12 : Int32)), .val (.int (3 : Int32)), .val (.ref w2)]) rfl) ?_
  show GG _ _ _ _ _ _ _ T4 (mkF m 34 #[.val (.int p0), .val (.ref bq1), .val (.int (12 : Int32)), .val (.int (3 : Int32)), .val (.ref w2)] [])
  refine own_go (fun _ => XS.goto X4.here hx rfl (pc0 := 34) (pc' := 9) rfl (hb hby d1_34) (by decide) (by decide)) ?_
  show GG _ _ _ _ _ _ _ T4 (mkF m 9 #[.val (.int p0), .val (.ref bq1), .val (.int (12 : Int32)), .val (.int (3 : Int32)), .val (.ref w2)] [])
  refine own_go (fun _ => XS.iloadN X4.here hx rfl (hb hby d1_9) rfl) ?_
  show GG _ _ _ _ _ _ _ T4 (mkF m 10 #[.val (.int p0), .val (.ref bq1), .val (.int (12 : Int32)), .val (.int (3 : Int32)), .val (.ref w2)] [(.int (3 : Int32))])
  refine own_go (fun _ => XS.iloadN X4.here hx rfl (hb hby d1_10) rfl) ?_
  show GG _ _ _ _ _ _ _ T4 (mkF m 11 #[.val (.int p0), .val (.ref bq1), .val (.int (12 : Int32)), .val (.int (3 : Int32)), .val (.ref w2)] [(.int (12 : Int32)), (.int (3 : Int32))])
  have hc11 : (3 : Int32) < (12 : Int32) := by decide
  refine own_go (fun _ => XS.icmpNo X4.here hx rfl (hb hby d1_11) rfl (tlt hc11).2.1) ?_
  show GG _ _ _ _ _ _ _ T4 (mkF m 14 #[.val (.int p0), .val (.ref bq1), .val (.int (12 : Int32)), .val (.int (3 : Int32)), .val (.ref w2)] [])
  refine own_go (fun _ => XS.aloadN X4.here hx rfl (hb hby d1_14) rfl rfl) ?_
  show GG _ _ _ _ _ _ _ T4 (mkF m 15 #[.val (.int p0), .val (.ref bq1), .val (.int (12 : Int32)), .val (.int (3 : Int32)), .val (.ref w2)] [(.ref bq1)])
  refine own_go (fun _ => XS.iloadN X4.here hx rfl (hb hby d1_15) rfl) ?_
  show GG _ _ _ _ _ _ _ T4 (mkF m 16 #[.val (.int p0), .val (.ref bq1), .val (.int (12 : Int32)), .val (.int (3 : Int32)), .val (.ref w2)] [(.int (3 : Int32)), (.ref bq1)])
  refine own_go (fun _ => own_aaload X4 hx hZ e4 Vq1 rfl (j := (3 : Int32)) (v := (.ref w3)) (by decide) rfl (g := (mkF m 16 #[.val (.int p0), .val (.ref bq1), .val (.int (12 : Int32)), .val (.int (3 : Int32)), .val (.ref w2)] [(.int (3 : Int32)), (.ref bq1)])) rfl rfl (hb hby d1_16) _) ?_
  show GG _ _ _ _ _ _ _ T4 (mkF m 17 #[.val (.int p0), .val (.ref bq1), .val (.int (12 : Int32)), .val (.int (3 : Int32)), .val (.ref w2)] [(.ref w3)])
  refine own_go (fun _ => XS.astore X4.here hx rfl (hb hby d1_17) rfl rfl (l' := #[.val (.int p0), .val (.ref bq1), .val (.int (12 : Int32)), .val (.int (3 : Int32)), .val (.ref w3)]) rfl) ?_
  show GG _ _ _ _ _ _ _ T4 (mkF m 19 #[.val (.int p0), .val (.ref bq1), .val (.int (12 : Int32)), .val (.int (3 : Int32)), .val (.ref w3)] [])
  refine own_go (fun _ => XS.aload X4.here hx rfl (hb hby d1_19) rfl rfl) ?_
  show GG _ _ _ _ _ _ _ T4 (mkF m 21 #[.val (.int p0), .val (.ref bq1), .val (.int (12 : Int32)), .val (.int (3 : Int32)), .val (.ref w3)] [(.ref w3)])
  obtain ⟨T5, X5, e5, st5⟩ := getF X4 hx hZ hown (host := "") (Or.inl (hw _ (List.mem_of_getElem? (i := 31) rfl))) Via.refl e4 F_3 (g := (mkF m 21 #[.val (.int p0), .val (.ref bq1), .val (.int (12 : Int32)), .val (.int (3 : Int32)), .val (.ref w3)] [(.ref w3)])) rfl rfl (hb hby d1_21)
  refine own_go (fun _ => st5 _) ?_
  show GG _ _ _ _ _ _ _ T5 (mkF m 24 #[.val (.int p0), .val (.ref bq1), .val (.int (12 : Int32)), .val (.int (3 : Int32)), .val (.ref w3)] [(.int (4 : Int32))])
  refine own_go (fun _ => XS.iloadN X5.here hx rfl (hb hby d1_24) rfl) ?_
  show GG _ _ _ _ _ _ _ T5 (mkF m 25 #[.val (.int p0), .val (.ref bq1), .val (.int (12 : Int32)), .val (.int (3 : Int32)), .val (.ref w3)] [(.int p0), (.int (4 : Int32))])
  have hc25 : ¬ ((4 : Int32) = p0) := by rw [hp]; decide
  refine own_go (fun _ => XS.icmpYes X5.here hx rfl (pc0 := 25) (pc' := 31) rfl (hb hby d1_25) rfl (feq hc25).2 (by decide) (by decide)) ?_
  show GG _ _ _ _ _ _ _ T5 (mkF m 31 #[.val (.int p0), .val (.ref bq1), .val (.int (12 : Int32)), .val (.int (3 : Int32)), .val (.ref w3)] [])
  refine own_go (fun _ => XS.iinc X5.here hx rfl (hb hby d1_31) rfl (l' := #[.val (.int p0), .val (.ref bq1), .val (.int (12 : Int32)), .val (.int (4 : Int32)), .val (.ref w3)]) rfl) ?_
  show GG _ _ _ _ _ _ _ T5 (mkF m 34 #[.val (.int p0), .val (.ref bq1), .val (.int (12 : Int32)), .val (.int (4 : Int32)), .val (.ref w3)] [])
  refine own_go (fun _ => XS.goto X5.here hx rfl (pc0 := 34) (pc' := 9) rfl (hb hby d1_34) (by decide) (by decide)) ?_
  show GG _ _ _ _ _ _ _ T5 (mkF m 9 #[.val (.int p0), .val (.ref bq1), .val (.int (12 : Int32)), .val (.int (4 : Int32)), .val (.ref w3)] [])
  refine own_go (fun _ => XS.iloadN X5.here hx rfl (hb hby d1_9) rfl) ?_
  show GG _ _ _ _ _ _ _ T5 (mkF m 10 #[.val (.int p0), .val (.ref bq1), .val (.int (12 : Int32)), .val (.int (4 : Int32)), .val (.ref w3)] [(.int (4 : Int32))])
  refine own_go (fun _ => XS.iloadN X5.here hx rfl (hb hby d1_10) rfl) ?_
  show GG _ _ _ _ _ _ _ T5 (mkF m 11 #[.val (.int p0), .val (.ref bq1), .val (.int (12 : Int32)), .val (.int (4 : Int32)), .val (.ref w3)] [(.int (12 : Int32)), (.int (4 : Int32))])
  have hc11 : (4 : Int32) < (12 : Int32) := by decide
  refine own_go (fun _ => XS.icmpNo X5.here hx rfl (hb hby d1_11) rfl (tlt hc11).2.1) ?_
  show GG _ _ _ _ _ _ _ T5 (mkF m 14 #[.val (.int p0), .val (.ref bq1), .val (.int (12 : Int32)), .val (.int (4 : Int32)), .val (.ref w3)] [])
  refine own_go (fun _ => XS.aloadN X5.here hx rfl (hb hby d1_14) rfl rfl) ?_
  show GG _ _ _ _ _ _ _ T5 (mkF m 15 #[.val (.int p0), .val (.ref bq1), .val (.int (12 : Int32)), .val (.int (4 : Int32)), .val (.ref w3)] [(.ref bq1)])
  refine own_go (fun _ => XS.iloadN X5.here hx rfl (hb hby d1_15) rfl) ?_
  show GG _ _ _ _ _ _ _ T5 (mkF m 16 #[.val (.int p0), .val (.ref bq1), .val (.int (12 : Int32)), .val (.int (4 : Int32)), .val (.ref w3)] [(.int (4 : Int32)), (.ref bq1)])
  refine own_go (fun _ => own_aaload X5 hx hZ e5 Vq1 rfl (j := (4 : Int32)) (v := (.ref w4)) (by decide) rfl (g := (mkF m 16 #[.val (.int p0), .val (.ref bq1), .val (.int (12 : Int32)), .val (.int (4 : Int32)), .val (.ref w3)] [(.int (4 : Int32)), (.ref bq1)])) rfl rfl (hb hby d1_16) _) ?_
  show GG _ _ _ _ _ _ _ T5 (mkF m 17 #[.val (.int p0), .val (.ref bq1), .val (.int (12 : Int32)), .val (.int (4 : Int32)), .val (.ref w3)] [(.ref w4)])
  refine own_go (fun _ => XS.astore X5.here hx rfl (hb hby d1_17) rfl rfl (l' := #[.val (.int p0), .val (.ref bq1), .val (.int (12 : Int32)), .val (.int (4 : Int32)), .val (.ref w4)]) rfl) ?_
  show GG _ _ _ _ _ _ _ T5 (mkF m 19 #[.val (.int p0), .val (.ref bq1), .val (.int (12 : Int32)), .val (.int (4 : Int32)), .val (.ref w4)] [])
  refine own_go (fun _ => XS.aload X5.here hx rfl (hb hby d1_19) rfl rfl) ?_
  show GG _ _ _ _ _ _ _ T5 (mkF m 21 #[.val (.int p0), .val (.ref bq1), .val (.int (12 : Int32)), .val (.int (4 : Int32)), .val (.ref w4)] [(.ref w4)])
  obtain ⟨T6, X6, e6, st6⟩ := getF X5 hx hZ hown (host := "") (Or.inl (hw _ (List.mem_of_getElem? (i := 31) rfl))) Via.refl e5 F_4 (g := (mkF m 21 #[.val (.int p0), .val (.ref bq1), .val (.int (12 : Int32)), .val (.int (4 : Int32)), .val (.ref w4)] [(.ref w4)])) rfl rfl (hb hby d1_21)
  refine own_go (fun _ => st6 _) ?_
  show GG _ _ _ _ _ _ _ T6 (mkF m 24 #[.val (.int p0), .val (.ref bq1), .val (.int (12 : Int32)), .val (.int (4 : Int32)), .val (.ref w4)] [(.int (5 : Int32))])
  refine own_go (fun _ => XS.iloadN X6.here hx rfl (hb hby d1_24) rfl) ?_
  show GG _ _ _ _ _ _ _ T6 (mkF m 25 #[.val (.int p0), .val (.ref bq1), .val (.int (12 : Int32)), .val (.int (4 : Int32)), .val (.ref w4)] [(.int p0), (.int (5 : Int32))])
  have hc25 : ¬ ((5 : Int32) = p0) := by rw [hp]; decide
  refine own_go (fun _ => XS.icmpYes X6.here hx rfl (pc0 := 25) (pc' := 31) rfl (hb hby d1_25) rfl (feq hc25).2 (by decide) (by decide)) ?_
  show GG _ _ _ _ _ _ _ T6 (mkF m 31 #[.val (.int p0), .val (.ref bq1), .val (.int (12 : Int32)), .val (.int (4 : Int32)), .val (.ref w4)] [])
  refine own_go (fun _ => XS.iinc X6.here hx rfl (hb hby d1_31) rfl (l' := #[.val (.int p0), .val (.ref bq1), .val (.int (12 : Int32)), .val (.int (5 : Int32)), .val (.ref w4)]) rfl) ?_
  show GG _ _ _ _ _ _ _ T6 (mkF m 34 #[.val (.int p0), .val (.ref bq1), .val (.int (12 : Int32)), .val (.int (5 : Int32)), .val (.ref w4)] [])
  refine own_go (fun _ => XS.goto X6.here hx rfl (pc0 := 34) (pc' := 9) rfl (hb hby d1_34) (by decide) (by decide)) ?_
  show GG _ _ _ _ _ _ _ T6 (mkF m 9 #[.val (.int p0), .val (.ref bq1), .val (.int (12 : Int32)), .val (.int (5 : Int32)), .val (.ref w4)] [])
  refine own_go (fun _ => XS.iloadN X6.here hx rfl (hb hby d1_9) rfl) ?_
  show GG _ _ _ _ _ _ _ T6 (mkF m 10 #[.val (.int p0), .val (.ref bq1), .val (.int (12 : Int32)), .val (.int (5 : Int32)), .val (.ref w4)] [(.int (5 : Int32))])
  refine own_go (fun _ => XS.iloadN X6.here hx rfl (hb hby d1_10) rfl) ?_
  show GG _ _ _ _ _ _ _ T6 (mkF m 11 #[.val (.int p0), .val (.ref bq1), .val (.int (12 : Int32)), .val (.int (5 : Int32)), .val (.ref w4)] [(.int (12 : Int32)), (.int (5 : Int32))])
  have hc11 : (5 : Int32) < (12 : Int32) := by decide
  refine own_go (fun _ => XS.icmpNo X6.here hx rfl (hb hby d1_11) rfl (tlt hc11).2.1) ?_
  show GG _ _ _ _ _ _ _ T6 (mkF m 14 #[.val (.int p0), .val (.ref bq1), .val (.int (12 : Int32)), .val (.int (5 : Int32)), .val (.ref w4)] [])
  refine own_go (fun _ => XS.aloadN X6.here hx rfl (hb hby d1_14) rfl rfl) ?_
  show GG _ _ _ _ _ _ _ T6 (mkF m 15 #[.val (.int p0), .val (.ref bq1), .val (.int (12 : Int32)), .val (.int (5 : Int32)), .val (.ref w4)] [(.ref bq1)])
  refine own_go (fun _ => XS.iloadN X6.here hx rfl (hb hby d1_15) rfl) ?_
  show GG _ _ _ _ _ _ _ T6 (mkF m 16 #[.val (.int p0), .val (.ref bq1), .val (.int (12 : Int32)), .val (.int (5 : Int32)), .val (.ref w4)] [(.int (5 : Int32)), (.ref bq1)])
  refine own_go (fun _ => own_aaload X6 hx hZ e6 Vq1 rfl (j := (5 : Int32)) (v := (.ref w5)) (by decide) rfl (g := (mkF m 16 #[.val (.int p0), .val (.ref bq1), .val (.int (12 : Int32)), .val (.int (5 : Int32)), .val (.ref w4)] [(.int (5 : Int32)), (.ref bq1)])) rfl rfl (hb hby d1_16) _) ?_
  show GG _ _ _ _ _ _ _ T6 (mkF m 17 #[.val (.int p0), .val (.ref bq1), .val (.int (12 : Int32)), .val (.int (5 : Int32)), .val (.ref w4)] [(.ref w5)])
  refine own_go (fun _ => XS.astore X6.here hx rfl (hb hby d1_17) rfl rfl (l' := #[.val (.int p0), .val (.ref bq1), .val (.int (12 : Int32)), .val (.int (5 : Int32)), .val (.ref w5)]) rfl) ?_
  show GG _ _ _ _ _ _ _ T6 (mkF m 19 #[.val (.int p0), .val (.ref bq1), .val (.int (12 : Int32)), .val (.int (5 : Int32)), .val (.ref w5)] [])
  refine own_go (fun _ => XS.aload X6.here hx rfl (hb hby d1_19) rfl rfl) ?_
  show GG _ _ _ _ _ _ _ T6 (mkF m 21 #[.val (.int p0), .val (.ref bq1), .val (.int (12 : Int32)), .val (.int (5 : Int32)), .val (.ref w5)] [(.ref w5)])
  obtain ⟨T7, X7, e7, st7⟩ := getF X6 hx hZ hown (host := "") (Or.inl (hw _ (List.mem_of_getElem? (i := 31) rfl))) Via.refl e6 F_5 (g := (mkF m 21 #[.val (.int p0), .val (.ref bq1), .val (.int (12 : Int32)), .val (.int (5 : Int32)), .val (.ref w5)] [(.ref w5)])) rfl rfl (hb hby d1_21)
  refine own_go (fun _ => st7 _) ?_
  show GG _ _ _ _ _ _ _ T7 (mkF m 24 #[.val (.int p0), .val (.ref bq1), .val (.int (12 : Int32)), .val (.int (5 : Int32)), .val (.ref w5)] [(.int (8 : Int32))])
  refine own_go (fun _ => XS.iloadN X7.here hx rfl (hb hby d1_24) rfl) ?_
  show GG _ _ _ _ _ _ _ T7 (mkF m 25 #[.val (.int p0), .val (.ref bq1), .val (.int (12 : Int32)), .val (.int (5 : Int32)), .val (.ref w5)] [(.int p0), (.int (8 : Int32))])
  have hc25 : ¬ ((8 : Int32) = p0) := by rw [hp]; decide
  refine own_go (fun _ => XS.icmpYes X7.here hx rfl (pc0 := 25) (pc' := 31) rfl (hb hby d1_25) rfl (feq hc25).2 (by decide) (by decide)) ?_
  show GG _ _ _ _ _ _ _ T7 (mkF m 31 #[.val (.int p0), .val (.ref bq1), .val (.int (12 : Int32)), .val (.int (5 : Int32)), .val (.ref w5)] [])
  refine own_go (fun _ => XS.iinc X7.here hx rfl (hb hby d1_31) rfl (l' := #[.val (.int p0), .val (.ref bq1), .val (.int (12 : Int32)), .val (.int (6 : Int32)), .val (.ref w5)]) rfl) ?_
  show GG _ _ _ _ _ _ _ T7 (mkF m 34 #[.val (.int p0), .val (.ref bq1), .val (.int (12 : Int32)), .val (.int (6 : Int32)), .val (.ref w5)] [])
  refine own_go (fun _ => XS.goto X7.here hx rfl (pc0 := 34) (pc' := 9) rfl (hb hby d1_34) (by decide) (by decide)) ?_
  show GG _ _ _ _ _ _ _ T7 (mkF m 9 #[.val (.int p0), .val (.ref bq1), .val (.int (12 : Int32)), .val (.int (6 : Int32)), .val (.ref w5)] [])
  refine own_go (fun _ => XS.iloadN X7.here hx rfl (hb hby d1_9) rfl) ?_
  show GG _ _ _ _ _ _ _ T7 (mkF m 10 #[.val (.int p0), .val (.ref bq1), .val (.int (12 : Int32)), .val (.int (6 : Int32)), .val (.ref w5)] [(.int (6 : Int32))])
  refine own_go (fun _ => XS.iloadN X7.here hx rfl (hb hby d1_10) rfl) ?_
  show GG _ _ _ _ _ _ _ T7 (mkF m 11 #[.val (.int p0), .val (.ref bq1), .val (.int (12 : Int32)), .val (.int (6 : Int32)), .val (.ref w5)] [(.int (12 : Int32)), (.int (6 : Int32))])
  have hc11 : (6 : Int32) < (12 : Int32) := by decide
  refine own_go (fun _ => XS.icmpNo X7.here hx rfl (hb hby d1_11) rfl (tlt hc11).2.1) ?_
  show GG _ _ _ _ _ _ _ T7 (mkF m 14 #[.val (.int p0), .val (.ref bq1), .val (.int (12 : Int32)), .val (.int (6 : Int32)), .val (.ref w5)] [])
  refine own_go (fun _ => XS.aloadN X7.here hx rfl (hb hby d1_14) rfl rfl) ?_
  show GG _ _ _ _ _ _ _ T7 (mkF m 15 #[.val (.int p0), .val (.ref bq1), .val (.int (12 : Int32)), .val (.int (6 : Int32)), .val (.ref w5)] [(.ref bq1)])
  refine own_go (fun _ => XS.iloadN X7.here hx rfl (hb hby d1_15) rfl) ?_
  show GG _ _ _ _ _ _ _ T7 (mkF m 16 #[.val (.int p0), .val (.ref bq1), .val (.int (12 : Int32)), .val (.int (6 : Int32)), .val (.ref w5)] [(.int (6 : Int32)), (.ref bq1)])
  refine own_go (fun _ => own_aaload X7 hx hZ e7 Vq1 rfl (j := (6 : Int32)) (v := (.ref w6)) (by decide) rfl (g := (mkF m 16 #[.val (.int p0), .val (.ref bq1), .val (.int (12 : Int32)), .val (.int (6 : Int32)), .val (.ref w5)] [(.int (6 : Int32)), (.ref bq1)])) rfl rfl (hb hby d1_16) _) ?_
  show GG _ _ _ _ _ _ _ T7 (mkF m 17 #[.val (.int p0), .val (.ref bq1), .val (.int (12 : Int32)), .val (.int (6 : Int32)), .val (.ref w5)] [(.ref w6)])
  refine own_go (fun _ => XS.astore X7.here hx rfl (hb hby d1_17) rfl rfl (l' := #[.val (.int p0), .val (.ref bq1), .val (.int (12 : Int32)), .val (.int (6 : Int32)), .val (.ref w6)]) rfl) ?_
  show GG _ _ _ _ _ _ _ T7 (mkF m 19 #[.val (.int p0), .val (.ref bq1), .val (.int (12 : Int32)), .val (.int (6 : Int32)), .val (.ref w6)] [])
  refine own_go (fun _ => XS.aload X7.here hx rfl (hb hby d1_19) rfl rfl) ?_
  show GG _ _ _ _ _ _ _ T7 (mkF m 21 #[.val (.int p0), .val (.ref bq1), .val (.int (12 : Int32)), .val (.int (6 : Int32)), .val (.ref w6)] [(.ref w6)])
  obtain ⟨T8, X8, e8, st8⟩ := getF X7 hx hZ hown (host := "") (Or.inl (hw _ (List.mem_of_getElem? (i := 31) rfl))) Via.refl e7 F_6 (g := (mkF m 21 #[.val (.int p0), .val (.ref bq1), .val (.int (12 : Int32)), .val (.int (6 : Int32)), .val (.ref w6)] [(.ref w6)])) rfl rfl (hb hby d1_21)
  refine own_go (fun _ => st8 _) ?_
  show GG _ _ _ _ _ _ _ T8 (mkF m 24 #[.val (.int p0), .val (.ref bq1), .val (.int (12 : Int32)), .val (.int (6 : Int32)), .val (.ref w6)] [(.int (9 : Int32))])
  refine own_go (fun _ => XS.iloadN X8.here hx rfl (hb hby d1_24) rfl) ?_
  show GG _ _ _ _ _ _ _ T8 (mkF m 25 #[.val (.int p0), .val (.ref bq1), .val (.int (12 : Int32)), .val (.int (6 : Int32)), .val (.ref w6)] [(.int p0), (.int (9 : Int32))])
  have hc25 : ¬ ((9 : Int32) = p0) := by rw [hp]; decide
  refine own_go (fun _ => XS.icmpYes X8.here hx rfl (pc0 := 25) (pc' := 31) rfl (hb hby d1_25) rfl (feq hc25).2 (by decide) (by decide)) ?_
  show GG _ _ _ _ _ _ _ T8 (mkF m 31 #[.val (.int p0), .val (.ref bq1), .val (.int (12 : Int32)), .val (.int (6 : Int32)), .val (.ref w6)] [])
  refine own_go (fun _ => XS.iinc X8.here hx rfl (hb hby d1_31) rfl (l' := #[.val (.int p0), .val (.ref bq1), .val (.int (12 : Int32)), .val (.int (7 : Int32)), .val (.ref w6)]) rfl) ?_
  show GG _ _ _ _ _ _ _ T8 (mkF m 34 #[.val (.int p0), .val (.ref bq1), .val (.int (12 : Int32)), .val (.int (7 : Int32)), .val (.ref w6)] [])
  refine own_go (fun _ => XS.goto X8.here hx rfl (pc0 := 34) (pc' := 9) rfl (hb hby d1_34) (by decide) (by decide)) ?_
  show GG _ _ _ _ _ _ _ T8 (mkF m 9 #[.val (.int p0), .val (.ref bq1), .val (.int (12 : Int32)), .val (.int (7 : Int32)), .val (.ref w6)] [])
  refine own_go (fun _ => XS.iloadN X8.here hx rfl (hb hby d1_9) rfl) ?_
  show GG _ _ _ _ _ _ _ T8 (mkF m 10 #[.val (.int p0), .val (.ref bq1), .val (.int (12 : Int32)), .val (.int (7 : Int32)), .val (.ref w6)] [(.int (7 : Int32))])
  refine own_go (fun _ => XS.iloadN X8.here hx rfl (hb hby d1_10) rfl) ?_
  show GG _ _ _ _ _ _ _ T8 (mkF m 11 #[.val (.int p0), .val (.ref bq1), .val (.int (12 : Int32)), .val (.int (7 : Int32)), .val (.ref w6)] [(.int (12 : Int32)), (.int (7 : Int32))])
  have hc11 : (7 : Int32) < (12 : Int32) := by decide
  refine own_go (fun _ => XS.icmpNo X8.here hx rfl (hb hby d1_11) rfl (tlt hc11).2.1) ?_
  show GG _ _ _ _ _ _ _ T8 (mkF m 14 #[.val (.int p0), .val (.ref bq1), .val (.int (12 : Int32)), .val (.int (7 : Int32)), .val (.ref w6)] [])
  refine own_go (fun _ => XS.aloadN X8.here hx rfl (hb hby d1_14) rfl rfl) ?_
  show GG _ _ _ _ _ _ _ T8 (mkF m 15 #[.val (.int p0), .val (.ref bq1), .val (.int (12 : Int32)), .val (.int (7 : Int32)), .val (.ref w6)] [(.ref bq1)])
  refine own_go (fun _ => XS.iloadN X8.here hx rfl (hb hby d1_15) rfl) ?_
  show GG _ _ _ _ _ _ _ T8 (mkF m 16 #[.val (.int p0), .val (.ref bq1), .val (.int (12 : Int32)), .val (.int (7 : Int32)), .val (.ref w6)] [(.int (7 : Int32)), (.ref bq1)])
  refine own_go (fun _ => own_aaload X8 hx hZ e8 Vq1 rfl (j := (7 : Int32)) (v := (.ref w7)) (by decide) rfl (g := (mkF m 16 #[.val (.int p0), .val (.ref bq1), .val (.int (12 : Int32)), .val (.int (7 : Int32)), .val (.ref w6)] [(.int (7 : Int32)), (.ref bq1)])) rfl rfl (hb hby d1_16) _) ?_
  show GG _ _ _ _ _ _ _ T8 (mkF m 17 #[.val (.int p0), .val (.ref bq1), .val (.int (12 : Int32)), .val (.int (7 : Int32)), .val (.ref w6)] [(.ref w7)])
  refine own_go (fun _ => XS.astore X8.here hx rfl (hb hby d1_17) rfl rfl (l' := #[.val (.int p0), .val (.ref bq1), .val (.int (12 : Int32)), .val (.int (7 : Int32)), .val (.ref w7)]) rfl) ?_
  show GG _ _ _ _ _ _ _ T8 (mkF m 19 #[.val (.int p0), .val (.ref bq1), .val (.int (12 : Int32)), .val (.int (7 : Int32)), .val (.ref w7)] [])
  refine own_go (fun _ => XS.aload X8.here hx rfl (hb hby d1_19) rfl rfl) ?_
  show GG _ _ _ _ _ _ _ T8 (mkF m 21 #[.val (.int p0), .val (.ref bq1), .val (.int (12 : Int32)), .val (.int (7 : Int32)), .val (.ref w7)] [(.ref w7)])
  obtain ⟨T9, X9, e9, st9⟩ := getF X8 hx hZ hown (host := "") (Or.inl (hw _ (List.mem_of_getElem? (i := 31) rfl))) Via.refl e8 F_7 (g := (mkF m 21 #[.val (.int p0), .val (.ref bq1), .val (.int (12 : Int32)), .val (.int (7 : Int32)), .val (.ref w7)] [(.ref w7)])) rfl rfl (hb hby d1_21)
  refine own_go (fun _ => st9 _) ?_
  show GG _ _ _ _ _ _ _ T9 (mkF m 24 #[.val (.int p0), .val (.ref bq1), .val (.int (12 : Int32)), .val (.int (7 : Int32)), .val (.ref w7)] [(.int (11 : Int32))])
  refine own_go (fun _ => XS.iloadN X9.here hx rfl (hb hby d1_24) rfl) ?_
  show GG _ _ _ _ _ _ _ T9 (mkF m 25 #[.val (.int p0), .val (.ref bq1), .val (.int (12 : Int32)), .val (.int (7 : Int32)), .val (.ref w7)] [(.int p0), (.int (11 : Int32))])
  have hc25 : ¬ ((11 : Int32) = p0) := by rw [hp]; decide
  refine own_go (fun _ => XS.icmpYes X9.here hx rfl (pc0 := 25) (pc' := 31) rfl (hb hby d1_25) rfl (feq hc25).2 (by decide) (by decide)) ?_
  show GG _ _ _ _ _ _ _ T9 (mkF m 31 #[.val (.int p0), .val (.ref bq1), .val (.int (12 : Int32)), .val (.int (7 : Int32)), .val (.ref w7)] [])
  refine own_go (fun _ => XS.iinc X9.here hx rfl (hb hby d1_31) rfl (l' := #[.val (.int p0), .val (.ref bq1), .val (.int (12 : Int32)), .val (.int (8 : Int32)), .val (.ref w7)]) rfl) ?_
  show GG _ _ _ _ _ _ _ T9 (mkF m 34 #[.val (.int p0), .val (.ref bq1), .val (.int (12 : Int32)), .val (.int (8 : Int32)), .val (.ref w7)] [])
  refine own_go (fun _ => XS.goto X9.here hx rfl (pc0 := 34) (pc' := 9) rfl (hb hby d1_34) (by decide) (by decide)) ?_
  show GG _ _ _ _ _ _ _ T9 (mkF m 9 #[.val (.int p0), .val (.ref bq1), .val (.int (12 : Int32)), .val (.int (8 : Int32)), .val (.ref w7)] [])
  refine own_go (fun _ => XS.iloadN X9.here hx rfl (hb hby d1_9) rfl) ?_
  show GG _ _ _ _ _ _ _ T9 (mkF m 10 #[.val (.int p0), .val (.ref bq1), .val (.int (12 : Int32)), .val (.int (8 : Int32)), .val (.ref w7)] [(.int (8 : Int32))])
  refine own_go (fun _ => XS.iloadN X9.here hx rfl (hb hby d1_10) rfl) ?_
  show GG _ _ _ _ _ _ _ T9 (mkF m 11 #[.val (.int p0), .val (.ref bq1), .val (.int (12 : Int32)), .val (.int (8 : Int32)), .val (.ref w7)] [(.int (12 : Int32)), (.int (8 : Int32))])
  have hc11 : (8 : Int32) < (12 : Int32) := by decide
  refine own_go (fun _ => XS.icmpNo X9.here hx rfl (hb hby d1_11) rfl (tlt hc11).2.1) ?_
  show GG _ _ _ _ _ _ _ T9 (mkF m 14 #[.val (.int p0), .val (.ref bq1), .val (.int (12 : Int32)), .val (.int (8 : Int32)), .val (.ref w7)] [])
  refine own_go (fun _ => XS.aloadN X9.here hx rfl (hb hby d1_14) rfl rfl) ?_
  show GG _ _ _ _ _ _ _ T9 (mkF m 15 #[.val (.int p0), .val (.ref bq1), .val (.int (12 : Int32)), .val (.int (8 : Int32)), .val (.ref w7)] [(.ref bq1)])
  refine own_go (fun _ => XS.iloadN X9.here hx rfl (hb hby d1_15) rfl) ?_
  show GG _ _ _ _ _ _ _ T9 (mkF m 16 #[.val (.int p0), .val (.ref bq1), .val (.int (12 : Int32)), .val (.int (8 : Int32)), .val (.ref w7)] [(.int (8 : Int32)), (.ref bq1)])
  refine own_go (fun _ => own_aaload X9 hx hZ e9 Vq1 rfl (j := (8 : Int32)) (v := (.ref w8)) (by decide) rfl (g := (mkF m 16 #[.val (.int p0), .val (.ref bq1), .val (.int (12 : Int32)), .val (.int (8 : Int32)), .val (.ref w7)] [(.int (8 : Int32)), (.ref bq1)])) rfl rfl (hb hby d1_16) _) ?_
  show GG _ _ _ _ _ _ _ T9 (mkF m 17 #[.val (.int p0), .val (.ref bq1), .val (.int (12 : Int32)), .val (.int (8 : Int32)), .val (.ref w7)] [(.ref w8)])
  refine own_go (fun _ => XS.astore X9.here hx rfl (hb hby d1_17) rfl rfl (l' := #[.val (.int p0), .val (.ref bq1), .val (.int (12 : Int32)), .val (.int (8 : Int32)), .val (.ref w8)]) rfl) ?_
  show GG _ _ _ _ _ _ _ T9 (mkF m 19 #[.val (.int p0), .val (.ref bq1), .val (.int (12 : Int32)), .val (.int (8 : Int32)), .val (.ref w8)] [])
  refine own_go (fun _ => XS.aload X9.here hx rfl (hb hby d1_19) rfl rfl) ?_
  show GG _ _ _ _ _ _ _ T9 (mkF m 21 #[.val (.int p0), .val (.ref bq1), .val (.int (12 : Int32)), .val (.int (8 : Int32)), .val (.ref w8)] [(.ref w8)])
  obtain ⟨T10, X10, e10, st10⟩ := getF X9 hx hZ hown (host := "") (Or.inl (hw _ (List.mem_of_getElem? (i := 31) rfl))) Via.refl e9 F_8 (g := (mkF m 21 #[.val (.int p0), .val (.ref bq1), .val (.int (12 : Int32)), .val (.int (8 : Int32)), .val (.ref w8)] [(.ref w8)])) rfl rfl (hb hby d1_21)
  refine own_go (fun _ => st10 _) ?_
  show GG _ _ _ _ _ _ _ T10 (mkF m 24 #[.val (.int p0), .val (.ref bq1), .val (.int (12 : Int32)), .val (.int (8 : Int32)), .val (.ref w8)] [(.int (12 : Int32))])
  refine own_go (fun _ => XS.iloadN X10.here hx rfl (hb hby d1_24) rfl) ?_
  show GG _ _ _ _ _ _ _ T10 (mkF m 25 #[.val (.int p0), .val (.ref bq1), .val (.int (12 : Int32)), .val (.int (8 : Int32)), .val (.ref w8)] [(.int p0), (.int (12 : Int32))])
  have hc25 : ¬ ((12 : Int32) = p0) := by rw [hp]; decide
  refine own_go (fun _ => XS.icmpYes X10.here hx rfl (pc0 := 25) (pc' := 31) rfl (hb hby d1_25) rfl (feq hc25).2 (by decide) (by decide)) ?_
  show GG _ _ _ _ _ _ _ T10 (mkF m 31 #[.val (.int p0), .val (.ref bq1), .val (.int (12 : Int32)), .val (.int (8 : Int32)), .val (.ref w8)] [])
  refine own_go (fun _ => XS.iinc X10.here hx rfl (hb hby d1_31) rfl (l' := #[.val (.int p0), .val (.ref bq1), .val (.int (12 : Int32)), .val (.int (9 : Int32)), .val (.ref w8)]) rfl) ?_
  show GG _ _ _ _ _ _ _ T10 (mkF m 34 #[.val (.int p0), .val (.ref bq1), .val (.int (12 : Int32)), .val (.int (9 : Int32)), .val (.ref w8)] [])
  refine own_go (fun _ => XS.goto X10.here hx rfl (pc0 := 34) (pc' := 9) rfl (hb hby d1_34) (by decide) (by decide)) ?_
  show GG _ _ _ _ _ _ _ T10 (mkF m 9 #[.val (.int p0), .val (.ref bq1), .val (.int (12 : Int32)), .val (.int (9 : Int32)), .val (.ref w8)] [])
  refine own_go (fun _ => XS.iloadN X10.here hx rfl (hb hby d1_9) rfl) ?_
  show GG _ _ _ _ _ _ _ T10 (mkF m 10 #[.val (.int p0), .val (.ref bq1), .val (.int (12 : Int32)), .val (.int (9 : Int32)), .val (.ref w8)] [(.int (9 : Int32))])
  refine own_go (fun _ => XS.iloadN X10.here hx rfl (hb hby d1_10) rfl) ?_
  show GG _ _ _ _ _ _ _ T10 (mkF m 11 #[.val (.int p0), .val (.ref bq1), .val (.int (12 : Int32)), .val (.int (9 : Int32)), .val (.ref w8)] [(.int (12 : Int32)), (.int (9 : Int32))])
  have hc11 : (9 : Int32) < (12 : Int32) := by decide
  refine own_go (fun _ => XS.icmpNo X10.here hx rfl (hb hby d1_11) rfl (tlt hc11).2.1) ?_
  show GG _ _ _ _ _ _ _ T10 (mkF m 14 #[.val (.int p0), .val (.ref bq1), .val (.int (12 : Int32)), .val (.int (9 : Int32)), .val (.ref w8)] [])
  refine own_go (fun _ => XS.aloadN X10.here hx rfl (hb hby d1_14) rfl rfl) ?_
  show GG _ _ _ _ _ _ _ T10 (mkF m 15 #[.val (.int p0), .val (.ref bq1), .val (.int (12 : Int32)), .val (.int (9 : Int32)), .val (.ref w8)] [(.ref bq1)])
  refine own_go (fun _ => XS.iloadN X10.here hx rfl (hb hby d1_15) rfl) ?_
  show GG _ _ _ _ _ _ _ T10 (mkF m 16 #[.val (.int p0), .val (.ref bq1), .val (.int (12 : Int32)), .val (.int (9 : Int32)), .val (.ref w8)] [(.int (9 : Int32)), (.ref bq1)])
  refine own_go (fun _ => own_aaload X10 hx hZ e10 Vq1 rfl (j := (9 : Int32)) (v := (.ref w9)) (by decide) rfl (g := (mkF m 16 #[.val (.int p0), .val (.ref bq1), .val (.int (12 : Int32)), .val (.int (9 : Int32)), .val (.ref w8)] [(.int (9 : Int32)), (.ref bq1)])) rfl rfl (hb hby d1_16) _) ?_
  show GG _ _ _ _ _ _ _ T10 (mkF m 17 #[.val (.int p0), .val (.ref bq1), .val (.int (12 : Int32)), .val (.int (9 : Int32)), .val (.ref w8)] [(.ref w9)])
  refine own_go (fun _ => XS.astore X10.here hx rfl (hb hby d1_17) rfl rfl (l' := #[.val (.int p0), .val (.ref bq1), .val (.int (12 : Int32)), .val (.int (9 : Int32)), .val (.ref w9)]) rfl) ?_
  show GG _ _ _ _ _ _ _ T10 (mkF m 19 #[.val (.int p0), .val (.ref bq1), .val (.int (12 : Int32)), .val (.int (9 : Int32)), .val (.ref w9)] [])
  refine own_go (fun _ => XS.aload X10.here hx rfl (hb hby d1_19) rfl rfl) ?_
  show GG _ _ _ _ _ _ _ T10 (mkF m 21 #[.val (.int p0), .val (.ref bq1), .val (.int (12 : Int32)), .val (.int (9 : Int32)), .val (.ref w9)] [(.ref w9)])
  obtain ⟨T11, X11, e11, st11⟩ := getF X10 hx hZ hown (host := "") (Or.inl (hw _ (List.mem_of_getElem? (i := 31) rfl))) Via.refl e10 F_9 (g := (mkF m 21 #[.val (.int p0), .val (.ref bq1), .val (.int (12 : Int32)), .val (.int (9 : Int32)), .val (.ref w9)] [(.ref w9)])) rfl rfl (hb hby d1_21)
  refine own_go (fun _ => st11 _) ?_
  show GG _ _ _ _ _ _ _ T11 (mkF m 24 #[.val (.int p0), .val (.ref bq1), .val (.int (12 : Int32)), .val (.int (9 : Int32)), .val (.ref w9)] [(.int (13 : Int32))])
  refine own_go (fun _ => XS.iloadN X11.here hx rfl (hb hby d1_24) rfl) ?_
  show GG _ _ _ _ _ _ _ T11 (mkF m 25 #[.val (.int p0), .val (.ref bq1), .val (.int (12 : Int32)), .val (.int (9 : Int32)), .val (.ref w9)] [(.int p0), (.int (13 : Int32))])
  have hc25 : ¬ ((13 : Int32) = p0) := by rw [hp]; decide
  refine own_go (fun _ => XS.icmpYes X11.here hx rfl (pc0 := 25) (pc' := 31) rfl (hb hby d1_25) rfl (feq hc25).2 (by decide) (by decide)) ?_
  show GG _ _ _ _ _ _ _ T11 (mkF m 31 #[.val (.int p0), .val (.ref bq1), .val (.int (12 : Int32)), .val (.int (9 : Int32)), .val (.ref w9)] [])
  refine own_go (fun _ => XS.iinc X11.here hx rfl (hb hby d1_31) rfl (l' := #[.val (.int p0), .val (.ref bq1), .val (.int (12 : Int32)), .val (.int (10 : Int32)), .val (.ref w9)]) rfl) ?_
  show GG _ _ _ _ _ _ _ T11 (mkF m 34 #[.val (.int p0), .val (.ref bq1), .val (.int (12 : Int32)), .val (.int (10 : Int32)), .val (.ref w9)] [])
  refine own_go (fun _ => XS.goto X11.here hx rfl (pc0 := 34) (pc' := 9) rfl (hb hby d1_34) (by decide) (by decide)) ?_
  show GG _ _ _ _ _ _ _ T11 (mkF m 9 #[.val (.int p0), .val (.ref bq1), .val (.int (12 : Int32)), .val (.int (10 : Int32)), .val (.ref w9)] [])
  refine own_go (fun _ => XS.iloadN X11.here hx rfl (hb hby d1_9) rfl) ?_
  show GG _ _ _ _ _ _ _ T11 (mkF m 10 #[.val (.int p0), .val (.ref bq1), .val (.int (12 : Int32)), .val (.int (10 : Int32)), .val (.ref w9)] [(.int (10 : Int32))])
  refine own_go (fun _ => XS.iloadN X11.here hx rfl (hb hby d1_10) rfl) ?_
  show GG _ _ _ _ _ _ _ T11 (mkF m 11 #[.val (.int p0), .val (.ref bq1), .val (.int (12 : Int32)), .val (.int (10 : Int32)), .val (.ref w9)] [(.int (12 : Int32)), (.int (10 : Int32))])
  have hc11 : (10 : Int32) < (12 : Int32) := by decide
  refine own_go (fun _ => XS.icmpNo X11.here hx rfl (hb hby d1_11) rfl (tlt hc11).2.1) ?_
  show GG _ _ _ _ _ _ _ T11 (mkF m 14 #[.val (.int p0), .val (.ref bq1), .val (.int (12 : Int32)), .val (.int (10 : Int32)), .val (.ref w9)] [])
  refine own_go (fun _ => XS.aloadN X11.here hx rfl (hb hby d1_14) rfl rfl) ?_
  show GG _ _ _ _ _ _ _ T11 (mkF m 15 #[.val (.int p0), .val (.ref bq1), .val (.int (12 : Int32)), .val (.int (10 : Int32)), .val (.ref w9)] [(.ref bq1)])
  refine own_go (fun _ => XS.iloadN X11.here hx rfl (hb hby d1_15) rfl) ?_
  show GG _ _ _ _ _ _ _ T11 (mkF m 16 #[.val (.int p0), .val (.ref bq1), .val (.int (12 : Int32)), .val (.int (10 : Int32)), .val (.ref w9)] [(.int (10 : Int32)), (.ref bq1)])
  refine own_go (fun _ => own_aaload X11 hx hZ e11 Vq1 rfl (j := (10 : Int32)) (v := (.ref w10)) (by decide) rfl (g := (mkF m 16 #[.val (.int p0), .val (.ref bq1), .val (.int (12 : Int32)), .val (.int (10 : Int32)), .val (.ref w9)] [(.int (10 : Int32)), (.ref bq1)])) rfl rfl (hb hby d1_16) _) ?_
  show GG _ _ _ _ _ _ _ T11 (mkF m 17 #[.val (.int p0), .val (.ref bq1), .val (.int (12 : Int32)), .val (.int (10 : Int32)), .val (.ref w9)] [(.ref w10)])
  refine own_go (fun _ => XS.astore X11.here hx rfl (hb hby d1_17) rfl rfl (l' := #[.val (.int p0), .val (.ref bq1), .val (.int (12 : Int32)), .val (.int (10 : Int32)), .val (.ref w10)]) rfl) ?_
  show GG _ _ _ _ _ _ _ T11 (mkF m 19 #[.val (.int p0), .val (.ref bq1), .val (.int (12 : Int32)), .val (.int (10 : Int32)), .val (.ref w10)] [])
  refine own_go (fun _ => XS.aload X11.here hx rfl (hb hby d1_19) rfl rfl) ?_
  show GG _ _ _ _ _ _ _ T11 (mkF m 21 #[.val (.int p0), .val (.ref bq1), .val (.int (12 : Int32)), .val (.int (10 : Int32)), .val (.ref w10)] [(.ref w10)])
  obtain ⟨T12, X12, e12, st12⟩ := getF X11 hx hZ hown (host := "") (Or.inl (hw _ (List.mem_of_getElem? (i := 31) rfl))) Via.refl e11 F_10 (g := (mkF m 21 #[.val (.int p0), .val (.ref bq1), .val (.int (12 : Int32)), .val (.int (10 : Int32)), .val (.ref w10)] [(.ref w10)])) rfl rfl (hb hby d1_21)
  refine own_go (fun _ => st12 _) ?_
  show GG _ _ _ _ _ _ _ T12 (mkF m 24 #[.val (.int p0), .val (.ref bq1), .val (.int (12 : Int32)), .val (.int (10 : Int32)), .val (.ref w10)] [(.int (14 : Int32))])
  refine own_go (fun _ => XS.iloadN X12.here hx rfl (hb hby d1_24) rfl) ?_
  show GG _ _ _ _ _ _ _ T12 (mkF m 25 #[.val (.int p0), .val (.ref bq1), .val (.int (12 : Int32)), .val (.int (10 : Int32)), .val (.ref w10)] [(.int p0), (.int (14 : Int32))])
  have hc25 : ¬ ((14 : Int32) = p0) := by rw [hp]; decide
  refine own_go (fun _ => XS.icmpYes X12.here hx rfl (pc0 := 25) (pc' := 31) rfl (hb hby d1_25) rfl (feq hc25).2 (by decide) (by decide)) ?_
  show GG _ _ _ _ _ _ _ T12 (mkF m 31 #[.val (.int p0), .val (.ref bq1), .val (.int (12 : Int32)), .val (.int (10 : Int32)), .val (.ref w10)] [])
  refine own_go (fun _ => XS.iinc X12.here hx rfl (hb hby d1_31) rfl (l' := #[.val (.int p0), .val (.ref bq1), .val (.int (12 : Int32)), .val (.int (11 : Int32)), .val (.ref w10)]) rfl) ?_
  show GG _ _ _ _ _ _ _ T12 (mkF m 34 #[.val (.int p0), .val (.ref bq1), .val (.int (12 : Int32)), .val (.int (11 : Int32)), .val (.ref w10)] [])
  refine own_go (fun _ => XS.goto X12.here hx rfl (pc0 := 34) (pc' := 9) rfl (hb hby d1_34) (by decide) (by decide)) ?_
  show GG _ _ _ _ _ _ _ T12 (mkF m 9 #[.val (.int p0), .val (.ref bq1), .val (.int (12 : Int32)), .val (.int (11 : Int32)), .val (.ref w10)] [])
  refine own_go (fun _ => XS.iloadN X12.here hx rfl (hb hby d1_9) rfl) ?_
  show GG _ _ _ _ _ _ _ T12 (mkF m 10 #[.val (.int p0), .val (.ref bq1), .val (.int (12 : Int32)), .val (.int (11 : Int32)), .val (.ref w10)] [(.int (11 : Int32))])
  refine own_go (fun _ => XS.iloadN X12.here hx rfl (hb hby d1_10) rfl) ?_
  show GG _ _ _ _ _ _ _ T12 (mkF m 11 #[.val (.int p0), .val (.ref bq1), .val (.int (12 : Int32)), .val (.int (11 : Int32)), .val (.ref w10)] [(.int (12 : Int32)), (.int (11 : Int32))])
  have hc11 : (11 : Int32) < (12 : Int32) := by decide
  refine own_go (fun _ => XS.icmpNo X12.here hx rfl (hb hby d1_11) rfl (tlt hc11).2.1) ?_
  show GG _ _ _ _ _ _ _ T12 (mkF m 14 #[.val (.int p0), .val (.ref bq1), .val (.int (12 : Int32)), .val (.int (11 : Int32)), .val (.ref w10)] [])
  refine own_go (fun _ => XS.aloadN X12.here hx rfl (hb hby d1_14) rfl rfl) ?_
  show GG _ _ _ _ _ _ _ T12 (mkF m 15 #[.val (.int p0), .val (.ref bq1), .val (.int (12 : Int32)), .val (.int (11 : Int32)), .val (.ref w10)] [(.ref bq1)])
  refine own_go (fun _ => XS.iloadN X12.here hx rfl (hb hby d1_15) rfl) ?_
  show GG _ _ _ _ _ _ _ T12 (mkF m 16 #[.val (.int p0), .val (.ref bq1), .val (.int (12 : Int32)), .val (.int (11 : Int32)), .val (.ref w10)] [(.int (11 : Int32)), (.ref bq1)])
  refine own_go (fun _ => own_aaload X12 hx hZ e12 Vq1 rfl (j := (11 : Int32)) (v := (.ref w11)) (by decide) rfl (g := (mkF m 16 #[.val (.int p0), .val (.ref bq1), .val (.int (12 : Int32)), .val (.int (11 : Int32)), .val (.ref w10)] [(.int (11 : Int32)), (.ref bq1)])) rfl rfl (hb hby d1_16) _) ?_
  show GG _ _ _ _ _ _ _ T12 (mkF m 17 #[.val (.int p0), .val (.ref bq1), .val (.int (12 : Int32)), .val (.int (11 : Int32)), .val (.ref w10)] [(.ref w11)])
  refine own_go (fun _ => XS.astore X12.here hx rfl (hb hby d1_17) rfl rfl (l' := #[.val (.int p0), .val (.ref bq1), .val (.int (12 : Int32)), .val (.int (11 : Int32)), .val (.ref w11)]) rfl) ?_
  show GG _ _ _ _ _ _ _ T12 (mkF m 19 #[.val (.int p0), .val (.ref bq1), .val (.int (12 : Int32)), .val (.int (11 : Int32)), .val (.ref w11)] [])
  refine own_go (fun _ => XS.aload X12.here hx rfl (hb hby d1_19) rfl rfl) ?_
  show GG _ _ _ _ _ _ _ T12 (mkF m 21 #[.val (.int p0), .val (.ref bq1), .val (.int (12 : Int32)), .val (.int (11 : Int32)), .val (.ref w11)] [(.ref w11)])
  obtain ⟨T13, X13, e13, st13⟩ := getF X12 hx hZ hown (host := "") (Or.inl (hw _ (List.mem_of_getElem? (i := 31) rfl))) Via.refl e12 F_11 (g := (mkF m 21 #[.val (.int p0), .val (.ref bq1), .val (.int (12 : Int32)), .val (.int (11 : Int32)), .val (.ref w11)] [(.ref w11)])) rfl rfl (hb hby d1_21)
  refine own_go (fun _ => st13 _) ?_
  show GG _ _ _ _ _ _ _ T13 (mkF m 24 #[.val (.int p0), .val (.ref bq1), .val (.int (12 : Int32)), .val (.int (11 : Int32)), .val (.ref w11)] [(.int (-11 : Int32))])
  refine own_go (fun _ => XS.iloadN X13.here hx rfl (hb hby d1_24) rfl) ?_
  show GG _ _ _ _ _ _ _ T13 (mkF m 25 #[.val (.int p0), .val (.ref bq1), .val (.int (12 : Int32)), .val (.int (11 : Int32)), .val (.ref w11)] [(.int p0), (.int (-11 : Int32))])
  have hc25 : (-11 : Int32) = p0 := hp.symm
  refine own_go (fun _ => XS.icmpNo X13.here hx rfl (hb hby d1_25) rfl (teq hc25).2) ?_
  show GG _ _ _ _ _ _ _ T13 (mkF m 28 #[.val (.int p0), .val (.ref bq1), .val (.int (12 : Int32)), .val (.int (11 : Int32)), .val (.ref w11)] [])
  refine own_go (fun _ => XS.aload X13.here hx rfl (hb hby d1_28) rfl rfl) ?_
  show GG _ _ _ _ _ _ _ T13 (mkF m 30 #[.val (.int p0), .val (.ref bq1), .val (.int (12 : Int32)), .val (.int (11 : Int32)), .val (.ref w11)] [(.ref w11)])
  refine own_ret X13 hx hlk (t := (.object "com/example/bellwether/bellwether/protocol/OpCode")) (w := (.ref w11)) Bd.returns rfl (Or.inr (Or.inr (Or.inr (Or.inr ⟨rfl, rfl, rfl⟩)))) (hb hby d1_30) (by decide) (by decide) ?_
  show Q1_11 Z p0 wV w0 w1 w2 w3 w4 w5 w6 w7 w8 w9 w10 w11 h0 n0 (some (.ref w11)) T13.heap _
  rw [e13]
  exact ⟨rfl, N1, K0⟩
theorem d1_37 : decode prog_23_method_5_code 37 = .ok (.aconst_null, 1) := by decide +kernel
theorem d1_38 : decode prog_23_method_5_code 38 = .ok (.areturn, 1) := by decide +kernel
def Q1_12 (Z : State) (p0 : Int32) (wV : Addr) (w0 w1 w2 w3 w4 w5 w6 w7 w8 w9 w10 w11 : Addr) (h0 : Heap) (n0 : Nat) (v : Option Value) (h : Heap) (L : List Loc) : Prop := v = some .null ∧ Fr n0 L ∧ Keep h0 h []
set_option maxRecDepth 65536 in
set_option maxHeartbeats 40000000 in
theorem rm1_12 (l : Launch) (Z : State) (a0 : Array Value) (hw : ∀ d ∈ tables_1, d.before a0 Z = true) (ws : List Jvm.Cond) (p0 : Int32) (wV : Addr) (w0 w1 w2 w3 w4 w5 w6 w7 w8 w9 w10 w11 : Addr) (h0 : Heap) (n0 : Nat) (Z0 : n0 ≤ h0.size) (hp0 : ¬ ((1 : Int32) = p0)) (hp1 : ¬ ((2 : Int32) = p0)) (hp2 : ¬ ((3 : Int32) = p0)) (hp3 : ¬ ((4 : Int32) = p0)) (hp4 : ¬ ((5 : Int32) = p0)) (hp5 : ¬ ((8 : Int32) = p0)) (hp6 : ¬ ((9 : Int32) = p0)) (hp7 : ¬ ((11 : Int32) = p0)) (hp8 : ¬ ((12 : Int32) = p0)) (hp9 : ¬ ((13 : Int32) = p0)) (hp10 : ¬ ((14 : Int32) = p0)) (hp11 : ¬ ((-11 : Int32) = p0)) (S_V : Sta Z h0 "com/example/bellwether/bellwether/protocol/OpCode" "$VALUES" "[Lcom/example/bellwether/bellwether/protocol/OpCode;" (.ref wV)) (V_V : Arx Z h0 wV (.object "com/example/bellwether/bellwether/protocol/OpCode") [(.ref w0), (.ref w1), (.ref w2), (.ref w3), (.ref w4), (.ref w5), (.ref w6), (.ref w7), (.ref w8), (.ref w9), (.ref w10), (.ref w11)]) (E_V : Exa Z h0 wV "[Lcom/example/bellwether/bellwether/protocol/OpCode;") (F_0 : Fld Z h0 w0 "com/example/bellwether/bellwether/protocol/OpCode" "code" "I" (.int (1 : Int32))) (F_1 : Fld Z h0 w1 "com/example/bellwether/bellwether/protocol/OpCode" "code" "I" (.int (2 : Int32))) (F_2 : Fld Z h0 w2 "com/example/bellwether/bellwether/protocol/OpCode" "code" "I" (.int (3 : Int32))) (F_3 : Fld Z h0 w3 "com/example/bellwether/bellwether/protocol/OpCode" "code" "I" (.int (4 : Int32))) (F_4 : Fld Z h0 w4 "com/example/bellwether/bellwether/protocol/OpCode" "code" "I" (.int (5 : Int32))) (F_5 : Fld Z h0 w5 "com/example/bellwether/bellwether/protocol/OpCode" "code" "I" (.int (8 : Int32))) (F_6 : Fld Z h0 w6 "com/example/bellwether/bellwether/protocol/OpCode" "code" "I" (.int (9 : Int32))) (F_7 : Fld Z h0 w7 "com/example/bellwether/bellwether/protocol/OpCode" "code" "I" (.int (11 : Int32))) (F_8 : Fld Z h0 w8 "com/example/bellwether/bellwether/protocol/OpCode" "code" "I" (.int (12 : Int32))) (F_9 : Fld Z h0 w9 "com/example/bellwether/bellwether/protocol/OpCode" "code" "I" (.int (13 : Int32))) (F_10 : Fld Z h0 w10 "com/example/bellwether/bellwether/protocol/OpCode" "code" "I" (.int (14 : Int32))) (F_11 : Fld Z h0 w11 "com/example/bellwether/bellwether/protocol/OpCode" "code" "I" (.int (-11 : Int32))) :
    own_CT l Z (⟨"com/example/bellwether/bellwether/protocol/OpCode", "of", "(I)Lcom/example/bellwether/bellwether/protocol/OpCode;"⟩ : MethodName) prog_23_method_5_code 5 (some (.object "com/example/bellwether/bellwether/protocol/OpCode")) ws ({ frames := 2, cells := 1, slots := 12, locals := 25 } : Room) #[(.int p0)] h0 (Q1_12 Z p0 wV w0 w1 w2 w3 w4 w5 w6 w7 w8 w9 w10 w11 h0 n0) := by
  refine MetFree.of_bodySF (plainFor_of_name pn_com_example_bellwether_bellwether_protocol_OpCode) hisR ?_
  intro p e s m args below meth c s₁ Bd hml0 hP hK
  obtain ⟨rfl, hZ, hh⟩ := hP
  have hx := Bd.exec
  have hby := Bd.bytes
  have hml : c.maxLocals = 5 := hml0
  have hown : s.vm.findClass "com/example/bellwether/bellwether/protocol/OpCode" = some m.cls := findClass_of_methodNamed Bd.named
  have hnm := (name_of_methodNamed Bd.named Bd.method).1
  have hlk : meth.locks = false := BodyLoose.notSynchronized Bd
  have X0 : Stand p l e ({ frames := 2, cells := 1, slots := 12, locals := 25 } : Room) s m #[(.int p0)] below meth c s₁ [] 0 0 := Stand.of_body Bd
  have e0 : s₁.heap = h0 := by rw [← hh, Bd.state]; rfl
  have N0 := Fr.nil n0
  show GG p e below s ({ frames := 2, cells := 1, slots := 12, locals := 25 } : Room).cells ({ frames := 2, cells := 1, slots := 12, locals := 25 } : Room).slots (Q1_12 Z p0 wV w0 w1 w2 w3 w4 w5 w6 w7 w8 w9 w10 w11 h0 n0) s₁ (entryFrame m #[(.int p0)] 5)
  refine own_in (ef_1 m p0) ?_
  have K0 := Keep.refl h0 []
  show GG _ _ _ _ _ _ _ s₁ (mkF m 0 #[.val (.int p0), .unset, .unset, .unset, .unset] [])
  refine own_callS X0 hx hZ (y := (⟨"com/example/bellwether/bellwether/protocol/OpCode", "values", "()[Lcom/example/bellwether/bellwether/protocol/OpCode;"⟩ : MethodName)) 0 hown (hw _ (List.mem_of_getElem? (i := 4) rfl)) (hw _ (List.mem_of_getElem? (i := 5) rfl)) (hw _ (List.mem_of_getElem? (i := 2) rfl)) (hw _ (List.mem_of_getElem? (i := 6) rfl)) (by decide) (argsL := []) (rest := []) (rm2 l Z a0 hw [] wV w0 w1 w2 w3 w4 w5 w6 w7 w8 w9 w10 w11 h0 n0 Z0 S_V V_V E_V) (by decide) (by decide) (by decide) (by decide) (g := (mkF m 0 #[.val (.int p0), .unset, .unset, .unset, .unset] [])) rfl (by rw [hml]; rfl) (lenOf pd____Lcom_example_bellwether_bellwether_pr_216 rfl) rfl (by show 2 * 0 + _ ≤ _; exact Nat.le_of_eq rfl) (hb hby d1_0) e0 ?_
  rintro v1 T1 L1 X1 ⟨bq1, rfl, N1q, szq1, Kq1, Vq1⟩
  have N1 := Fr.app N0 N1q
  have K0 := K0.trans Kq1 all0
  have F_0 := F_0.keep Kq1 nin0
  have F_1 := F_1.keep Kq1 nin0
  have F_2 := F_2.keep Kq1 nin0
  have F_3 := F_3.keep Kq1 nin0
  have F_4 := F_4.keep Kq1 nin0
  have F_5 := F_5.keep Kq1 nin0
  have F_6 := F_6.keep Kq1 nin0
  have F_7 := F_7.keep Kq1 nin0
  have F_8 := F_8.keep Kq1 nin0
  have F_9 := F_9.keep Kq1 nin0
  have F_10 := F_10.keep Kq1 nin0
  have F_11 := F_11.keep Kq1 nin0
  show GG _ _ _ _ _ _ _ T1 (mkF m 3 #[.val (.int p0), .unset, .unset, .unset, .unset] [(.ref bq1)])
  refine own_go (fun _ => XS.astoreN X1.here hx rfl (hb hby d1_3) rfl rfl (l' := #[.val (.int p0), .val (.ref bq1), .unset, .unset, .unset]) rfl) ?_
  show GG _ _ _ _ _ _ _ T1 (mkF m 4 #[.val (.int p0), .val (.ref bq1), .unset, .unset, .unset] [])
  refine own_go (fun _ => XS.aloadN X1.here hx rfl (hb hby d1_4) rfl rfl) ?_
  show GG _ _ _ _ _ _ _ T1 (mkF m 5 #[.val (.int p0), .val (.ref bq1), .unset, .unset, .unset] [(.ref bq1)])
  refine own_go (fun _ => own_len X1 hx hZ rfl Vq1 (g := (mkF m 5 #[.val (.int p0), .val (.ref bq1), .unset, .unset, .unset] [(.ref bq1)])) rfl rfl (hb hby d1_5) _) ?_
  show GG _ _ _ _ _ _ _ T1 (mkF m 6 #[.val (.int p0), .val (.ref bq1), .unset, .unset, .unset] [(.int (12 : Int32))])
  refine own_go (fun _ => XS.istoreN X1.here hx rfl (hb hby d1_6) rfl (l' := #[.val (.int p0), .val (.ref bq1), .val (.int (12 : Int32)), .unset, .unset]) rfl) ?_
  show GG _ _ _ _ _ _ _ T1 (mkF m 7 #[.val (.int p0), .val (.ref bq1), .val (.int (12 : Int32)), .unset, .unset] [])
  refine own_go (fun _ => XS.iconst X1.here hx rfl (hb hby d1_7)) ?_
  show GG _ _ _ _ _ _ _ T1 (mkF m 8 #[.val (.int p0), .val (.ref bq1), .val (.int (12 : Int32)), .unset, .unset] [(.int (0 : Int32))])
  refine own_go (fun _ => XS.istoreN X1.here hx rfl (hb hby d1_8) rfl (l' := #[.val (.int p0), .val (.ref bq1), .val (.int (12 : Int32)), .val (.int (0 : Int32)), .unset]) rfl) ?_
  show GG _ _ _ _ _ _ _ T1 (mkF m 9 #[.val (.int p0), .val (.ref bq1), .val (.int (12 : Int32)), .val (.int (0 : Int32)), .unset] [])
  refine own_go (fun _ => XS.iloadN X1.here hx rfl (hb hby d1_9) rfl) ?_
  show GG _ _ _ _ _ _ _ T1 (mkF m 10 #[.val (.int p0), .val (.ref bq1), .val (.int (12 : Int32)), .val (.int (0 : Int32)), .unset] [(.int (0 : Int32))])
  refine own_go (fun _ => XS.iloadN X1.here hx rfl (hb hby d1_10) rfl) ?_
  show GG _ _ _ _ _ _ _ T1 (mkF m 11 #[.val (.int p0), .val (.ref bq1), .val (.int (12 : Int32)), .val (.int (0 : Int32)), .unset] [(.int (12 : Int32)), (.int (0 : Int32))])
  have hc11 : (0 : Int32) < (12 : Int32) := by decide
  refine own_go (fun _ => XS.icmpNo X1.here hx rfl (hb hby d1_11) rfl (tlt hc11).2.1) ?_
  show GG _ _ _ _ _ _ _ T1 (mkF m 14 #[.val (.int p0), .val (.ref bq1), .val (.int (12 : Int32)), .val (.int (0 : Int32)), .unset] [])
  refine own_go (fun _ => XS.aloadN X1.here hx rfl (hb hby d1_14) rfl rfl) ?_
  show GG _ _ _ _ _ _ _ T1 (mkF m 15 #[.val (.int p0), .val (.ref bq1), .val (.int (12 : Int32)), .val (.int (0 : Int32)), .unset] [(.ref bq1)])
  refine own_go (fun _ => XS.iloadN X1.here hx rfl (hb hby d1_15) rfl) ?_
  show GG _ _ _ _ _ _ _ T1 (mkF m 16 #[.val (.int p0), .val (.ref bq1), .val (.int (12 : Int32)), .val (.int (0 : Int32)), .unset] [(.int (0 : Int32)), (.ref bq1)])
  refine own_go (fun _ => own_aaload X1 hx hZ rfl Vq1 rfl (j := (0 : Int32)) (v := (.ref w0)) (by decide) rfl (g := (mkF m 16 #[.val (.int p0), .val (.ref bq1), .val (.int (12 : Int32)), .val (.int (0 : Int32)), .unset] [(.int (0 : Int32)), (.ref bq1)])) rfl rfl (hb hby d1_16) _) ?_
  show GG _ _ _ _ _ _ _ T1 (mkF m 17 #[.val (.int p0), .val (.ref bq1), .val (.int (12 : Int32)), .val (.int (0 : Int32)), .unset] [(.ref w0)])
  refine own_go (fun _ => XS.astore X1.here hx rfl (hb hby d1_17) rfl rfl (l' := #[.val (.int p0), .val (.ref bq1), .val (.int (12 : Int32)), .val (.int (0 : Int32)), .val (.ref w0)]) rfl) ?_
  show GG _ _ _ _ _ _ _ T1 (mkF m 19 #[.val (.int p0), .val (.ref bq1), .val (.int (12 : Int32)), .val (.int (0 : Int32)), .val (.ref w0)] [])
  refine own_go (fun _ => XS.aload X1.here hx rfl (hb hby d1_19) rfl rfl) ?_
  show GG _ _ _ _ _ _ _ T1 (mkF m 21 #[.val (.int p0), .val (.ref bq1), .val (.int (12 : Int32)), .val (.int (0 : Int32)), .val (.ref w0)] [(.ref w0)])
  obtain ⟨T2, X2, e2, st2⟩ := getF X1 hx hZ hown (host := "") (Or.inl (hw _ (List.mem_of_getElem? (i := 31) rfl))) Via.refl rfl F_0 (g := (mkF m 21 #[.val (.int p0), .val (.ref bq1), .val (.int (12 : Int32)), .val (.int (0 : Int32)), .val (.ref w0)] [(.ref w0)])) rfl rfl (hb hby d1_21)
  refine own_go (fun _ => st2 _) ?_
  show GG _ _ _ _ _ _ _ T2 (mkF m 24 #[.val (.int p0), .val (.ref bq1), .val (.int (12 : Int32)), .val (.int (0 : Int32)), .val (.ref w0)] [(.int (1 : Int32))])
  refine own_go (fun _ => XS.iloadN X2.here hx rfl (hb hby d1_24) rfl) ?_
  show GG _ _ _ _ _ _ _ T2 (mkF m 25 #[.val (.int p0), .val (.ref bq1), .val (.int (12 : Int32)), .val (.int (0 : Int32)), .val (.ref w0)] [(.int p0), (.int (1 : Int32))])
  have hc25 : ¬ ((1 : Int32) = p0) := hp0
  refine own_go (fun _ => XS.icmpYes X2.here hx rfl (pc0 := 25) (pc' := 31) rfl (hb hby d1_25) rfl (feq hc25).2 (by decide) (by decide)) ?_
  show GG _ _ _ _ _ _ _ T2 (mkF m 31 #[.val (.int p0), .val (.ref bq1), .val (.int (12 : Int32)), .val (.int (0 : Int32)), .val (.ref w0)] [])
  refine own_go (fun _ => XS.iinc X2.here hx rfl (hb hby d1_31) rfl (l' := #[.val (.int p0), .val (.ref bq1), .val (.int (12 : Int32)), .val (.int (1 : Int32)), .val (.ref w0)]) rfl) ?_
  show GG _ _ _ _ _ _ _ T2 (mkF m 34 #[.val (.int p0), .val (.ref bq1), .val (.int (12 : Int32)), .val (.int (1 : Int32)), .val (.ref w0)] [])
  refine own_go (fun _ => XS.goto X2.here hx rfl (pc0 := 34) (pc' := 9) rfl (hb hby d1_34) (by decide) (by decide)) ?_
  show GG _ _ _ _ _ _ _ T2 (mkF m 9 #[.val (.int p0), .val (.ref bq1), .val (.int (12 : Int32)), .val (.int (1 : Int32)), .val (.ref w0)] [])
  refine own_go (fun _ => XS.iloadN X2.here hx rfl (hb hby d1_9) rfl) ?_
  show GG _ _ _ _ _ _ _ T2 (mkF m 10 #[.val (.int p0), .val (.ref bq1), .val (.int (12 : Int32)), .val (.int (1 : Int32)), .val (.ref w0)] [(.int (1 : Int32))])
  refine own_go (fun _ => XS.iloadN X2.here hx rfl (hb hby d1_10) rfl) ?_
  show GG _ _ _ _ _ _ _ T2 (mkF m 11 #[.val (.int p0), .val (.ref bq1), .val (.int (12 : Int32)), .val (.int (1 : Int32)), .val (.ref w0)] [(.int (12 : Int32)), (.int (1 : Int32))])
  have hc11 : (1 : Int32) < (12 : Int32) := by decide
  refine own_go (fun _ => XS.icmpNo X2.here hx rfl (hb hby d1_11) rfl (tlt hc11).2.1) ?_
  show GG _ _ _ _ _ _ _ T2 (mkF m 14 #[.val (.int p0), .val (.ref bq1), .val (.int (12 : Int32)), .val (.int (1 : Int32)), .val (.ref w0)] [])
  refine own_go (fun _ => XS.aloadN X2.here hx rfl (hb hby d1_14) rfl rfl) ?_
  show GG _ _ _ _ _ _ _ T2 (mkF m 15 #[.val (.int p0), .val (.ref bq1), .val (.int (12 : Int32)), .val (.int (1 : Int32)), .val (.ref w0)] [(.ref bq1)])
  refine own_go (fun _ => XS.iloadN X2.here hx rfl (hb hby d1_15) rfl) ?_
  show GG _ _ _ _ _ _ _ T2 (mkF m 16 #[.val (.int p0), .val (.ref bq1), .val (.int (12 : Int32)), .val (.int (1 : Int32)), .val (.ref w0)] [(.int (1 : Int32)), (.ref bq1)])
  refine own_go (fun _ => own_aaload X2 hx hZ e2 Vq1 rfl (j := (1 : Int32)) (v := (.ref w1)) (by decide) rfl (g := (mkF m 16 #[.val (.int p0), .val (.ref bq1), .val (.int (12 : Int32)), .val (.int (1 : Int32)), .val (.ref w0)] [(.int (1 : Int32)), (.ref bq1)])) rfl rfl (hb hby d1_16) _) ?_
  show GG _ _ _ _ _ _ _ T2 (mkF m 17 #[.val (.int p0), .val (.ref bq1), .val (.int (12 : Int32)), .val (.int (1 : Int32)), .val (.ref w0)] [(.ref w1)])
  refine own_go (fun _ => XS.astore X2.here hx rfl (hb hby d1_17) rfl rfl (l' := #[.val (.int p0), .val (.ref bq1), .val (.int (12 : Int32)), .val (.int (1 : Int32)), .val (.ref w1)]) rfl) ?_
  show GG _ _ _ _ _ _ _ T2 (mkF m 19 #[.val (.int p0), .val (.ref bq1), .val (.int (12 : Int32)), .val (.int (1 : Int32)), .val (.ref w1)] [])
  refine own_go (fun _ => XS.aload X2.here hx rfl (hb hby d1_19) rfl rfl) ?_
  show GG _ _ _ _ _ _ _ T2 (mkF m 21 #[.val (.int p0), .val (.ref bq1), .val (.int (12 : Int32)), .val (.int (1 : Int32)), .val (.ref w1)] [(.ref w1)])
  obtain ⟨T3, X3, e3, st3⟩ := getF X2 hx hZ hown (host := "") (Or.inl (hw _ (List.mem_of_getElem? (i := 31) rfl))) Via.refl e2 F_1 (g := (mkF m 21 #[.val (.int p0), .val (.ref bq1), .val (.int (12 : Int32)), .val (.int (1 : Int32)), .val (.ref w1)] [(.ref w1)])) rfl rfl (hb hby d1_21)
  refine own_go (fun _ => st3 _) ?_
  show GG _ _ _ _ _ _ _ T3 (mkF m 24 #[.val (.int p0), .val (.ref bq1), .val (.int (12 : Int32)), .val (.int (1 : Int32)), .val (.ref w1)] [(.int (2 : Int32))])
  refine own_go (fun _ => XS.iloadN X3.here hx rfl (hb hby d1_24) rfl) ?_
  show GG _ _ _ _ _ _ _ T3 (mkF m 25 #[.val (.int p0), .val (.ref bq1), .val (.int (12 : Int32)), .val (.int (1 : Int32)), .val (.ref w1)] [(.int p0), (.int (2 : Int32))])
  have hc25 : ¬ ((2 : Int32) = p0) := hp1
  refine own_go (fun _ => XS.icmpYes X3.here hx rfl (pc0 := 25) (pc' := 31) rfl (hb hby d1_25) rfl (feq hc25).2 (by decide) (by decide)) ?_
  show GG _ _ _ _ _ _ _ T3 (mkF m 31 #[.val (.int p0), .val (.ref bq1), .val (.int (12 : Int32)), .val (.int (1 : Int32)), .val (.ref w1)] [])
  refine own_go (fun _ => XS.iinc X3.here hx rfl (hb hby d1_31) rfl (l' := #[.val (.int p0), .val (.ref bq1), .val (.int (12 : Int32)), .val (.int (2 : Int32)), .val (.ref w1)]) rfl) ?_
  show GG _ _ _ _ _ _ _ T3 (mkF m 34 #[.val (.int p0), .val (.ref bq1), .val (.int (12 : Int32)), .val (.int (2 : Int32)), .val (.ref w1)] [])
  refine own_go (fun _ => XS.goto X3.here hx rfl (pc0 := 34) (pc' := 9) rfl (hb hby d1_34) (by decide) (by decide)) ?_
  show GG _ _ _ _ _ _ _ T3 (mkF m 9 #[.val (.int p0), .val (.ref bq1), .val (.int (12 : Int32)), .val (.int (2 : Int32)), .val (.ref w1)] [])
  refine own_go (fun _ => XS.iloadN X3.here hx rfl (hb hby d1_9) rfl) ?_
  show GG _ _ _ _ _ _ _ T3 (mkF m 10 #[.val (.int p0), .val (.ref bq1), .val (.int (12 : Int32)), .val (.int (2 : Int32)), .val (.ref w1)] [(.int (2 : Int32))])
  refine own_go (fun _ => XS.iloadN X3.here hx rfl (hb hby d1_10) rfl) ?_
  show GG _ _ _ _ _ _ _ T3 (mkF m 11 #[.val (.int p0), .val (.ref bq1), .val (.int (12 : Int32)), .val (.int (2 : Int32)), .val (.ref w1)] [(.int (12 : Int32)), (.int (2 : Int32))])
  have hc11 : (2 : Int32) < (12 : Int32) := by decide
  refine own_go (fun _ => XS.icmpNo X3.here hx rfl (hb hby d1_11) rfl (tlt hc11).2.1) ?_
  show GG _ _ _ _ _ _ _ T3 (mkF m 14 #[.val (.int p0), .val (.ref bq1), .val (.int (12 : Int32)), .val (.int (2 : Int32)), .val (.ref w1)] [])
  refine own_go (fun _ => XS.aloadN X3.here hx rfl (hb hby d1_14) rfl rfl) ?_
  show GG _ _ _ _ _ _ _ T3 (mkF m 15 #[.val (.int p0), .val (.ref bq1), .val (.int (12 : Int32)), .val (.int (2 : Int32)), .val (.ref w1)] [(.ref bq1)])
  refine own_go (fun _ => XS.iloadN X3.here hx rfl (hb hby d1_15) rfl) ?_
  show GG _ _ _ _ _ _ _ T3 (mkF m 16 #[.val (.int p0), .val (.ref bq1), .val (.int (12 : Int32)), .val (.int (2 : Int32)), .val (.ref w1)] [(.int (2 : Int32)), (.ref bq1)])
  refine own_go (fun _ => own_aaload X3 hx hZ e3 Vq1 rfl (j := (2 : Int32)) (v := (.ref w2)) (by decide) rfl (g := (mkF m 16 #[.val (.int p0), .val (.ref bq1), .val (.int (12 : Int32)), .val (.int (2 : Int32)), .val (.ref w1)] [(.int (2 : Int32)), (.ref bq1)])) rfl rfl (hb hby d1_16) _) ?_
  show GG _ _ _ _ _ _ _ T3 (mkF m 17 #[.val (.int p0), .val (.ref bq1), .val (.int (12 : Int32)), .val (.int (2 : Int32)), .val (.ref w1)] [(.ref w2)])
  refine own_go (fun _ => XS.astore X3.here hx rfl (hb hby d1_17) rfl rfl (l' := #[.val (.int p0), .val (.ref bq1), .val (.int (12 : Int32)), .val (.int (2 : Int32)), .val (.ref w2)]) rfl) ?_
  show GG _ _ _ _ _ _ _ T3 (mkF m 19 #[.val (.int p0), .val (.ref bq1), .val (.int (12 : Int32)), .val (.int (2 : Int32)), .val (.ref w2)] [])
  refine own_go (fun _ => XS.aload X3.here hx rfl (hb hby d1_19) rfl rfl) ?_
  show GG _ _ _ _ _ _ _ T3 (mkF m 21 #[.val (.int p0), .val (.ref bq1), .val (.int (12 : Int32)), .val (.int (2 : Int32)), .val (.ref w2)] [(.ref w2)])
  obtain ⟨T4, X4, e4, st4⟩ := getF X3 hx hZ hown (host := "") (Or.inl (hw _ (List.mem_of_getElem? (i := 31) rfl))) Via.refl e3 F_2 (g := (mkF m 21 #[.val (.int p0), .val (.ref bq1), .val (.int (12 : Int32)), .val (.int (2 : Int32)), .val (.ref w2)] [(.ref w2)])) rfl rfl (hb hby d1_21)
  refine own_go (fun _ => st4 _) ?_
  show GG _ _ _ _ _ _ _ T4 (mkF m 24 #[.val (.int p0), .val (.ref bq1), .val (.int (12 : Int32)), .val (.int (2 : Int32)), .val (.ref w2)] [(.int (3 : Int32))])
  refine own_go (fun _ => XS.iloadN X4.here hx rfl (hb hby d1_24) rfl) ?_
  show GG _ _ _ _ _ _ _ T4 (mkF m 25 #[.val (.int p0), .val (.ref bq1), .val (.int (12 : Int32)), .val (.int (2 : Int32)), .val (.ref w2)] [(.int p0), (.int (3 : Int32))])
  have hc25 : ¬ ((3 : Int32) = p0) := hp2
  refine own_go (fun _ => XS.icmpYes X4.here hx rfl (pc0 := 25) (pc' := 31) rfl (hb hby d1_25) rfl (feq hc25).2 (by decide) (by decide)) ?_
  show GG _ _ _ _ _ _ _ T4 (mkF m 31 #[.val (.int p0), .val (.ref bq1), .val (.int (12 : Int32)), .val (.int (2 : Int32)), .val (.ref w2)] [])
  refine own_go (fun _ => XS.iinc X4.here hx rfl (hb hby d1_31) rfl (l' := #[.val (.int p0), .val (.ref bq1), .val (.int (12 : Int32)), .val (.int (3 : Int32)), .val (.ref w2)]) rfl) ?_
  show GG _ _ _ _ _ _ _ T4 (mkF m 34 #[.val (.int p0), .val (.ref bq1), .val (.int (12 : Int32)), .val (.int (3 : Int32)), .val (.ref w2)] [])
  refine own_go (fun _ => XS.goto X4.here hx rfl (pc0 := 34) (pc' := 9) rfl (hb hby d1_34) (by decide) (by decide)) ?_
  show GG _ _ _ _ _ _ _ T4 (mkF m 9 #[.val (.int p0), .val (.ref bq1), .val (.int (12 : Int32)), .val (.int (3 : Int32)), .val (.ref w2)] [])
  refine own_go (fun _ => XS.iloadN X4.here hx rfl (hb hby d1_9) rfl) ?_
  show GG _ _ _ _ _ _ _ T4 (mkF m 10 #[.val (.int p0), .val (.ref bq1), .val (.int (12 : Int32)), .val (.int (3 : Int32)), .val (.ref w2)] [(.int (3 : Int32))])
  refine own_go (fun _ => XS.iloadN X4.here hx rfl (hb hby d1_10) rfl) ?_
  show GG _ _ _ _ _ _ _ T4 (mkF m 11 #[.val (.int p0), .val (.ref bq1), .val (.int (12 : Int32)), .val (.int (3 : Int32)), .val (.ref w2)] [(.int (12 : Int32)), (.int (3 : Int32))])
  have hc11 : (3 : Int32) < (12 : Int32) := by decide
  refine own_go (fun _ => XS.icmpNo X4.here hx rfl (hb hby d1_11) rfl (tlt hc11).2.1) ?_
  show GG _ _ _ _ _ _ _ T4 (mkF m 14 #[.val (.int p0), .val (.ref bq1), .val (.int (12 : Int32)), .val (.int (3 : Int32)), .val (.ref w2)] [])
  refine own_go (fun _ => XS.aloadN X4.here hx rfl (hb hby d1_14) rfl rfl) ?_
  show GG _ _ _ _ _ _ _ T4 (mkF m 15 #[.val (.int p0), .val (.ref bq1), .val (.int (12 : Int32)), .val (.int (3 : Int32)), .val (.ref w2)] [(.ref bq1)])
  refine own_go (fun _ => XS.iloadN X4.here hx rfl (hb hby d1_15) rfl) ?_
  show GG _ _ _ _ _ _ _ T4 (mkF m 16 #[.val (.int p0), .val (.ref bq1), .val (.int (12 : Int32)), .val (.int (3 : Int32)), .val (.ref w2)] [(.int (3 : Int32)), (.ref bq1)])
  refine own_go (fun _ => own_aaload X4 hx hZ e4 Vq1 rfl (j := (3 : Int32)) (v := (.ref w3)) (by decide) rfl (g := (mkF m 16 #[.val (.int p0), .val (.ref bq1), .val (.int (12 : Int32)), .val (.int (3 : Int32)), .val (.ref w2)] [(.int (3 : Int32)), (.ref bq1)])) rfl rfl (hb hby d1_16) _) ?_
  show GG _ _ _ _ _ _ _ T4 (mkF m 17 #[.val (.int p0), .val (.ref bq1), .val (.int (12 : Int32)), .val (.int (3 : Int32)), .val (.ref w2)] [(.ref w3)])
  refine own_go (fun _ => XS.astore X4.here hx rfl (hb hby d1_17) rfl rfl (l' := #[.val (.int p0), .val (.ref bq1), .val (.int (12 : Int32)), .val (.int (3 : Int32)), .val (.ref w3)]) rfl) ?_
  show GG _ _ _ _ _ _ _ T4 (mkF m 19 #[.val (.int p0), .val (.ref bq1), .val (.int (12 : Int32)), .val (.int (3 : Int32)), .val (.ref w3)] [])
  refine own_go (fun _ => XS.aload X4.here hx rfl (hb hby d1_19) rfl rfl) ?_
  show GG _ _ _ _ _ _ _ T4 (mkF m 21 #[.val (.int p0), .val (.ref bq1), .val (.int (12 : Int32)), .val (.int (3 : Int32)), .val (.ref w3)] [(.ref w3)])
  obtain ⟨T5, X5, e5, st5⟩ := getF X4 hx hZ hown (host := "") (Or.inl (hw _ (List.mem_of_getElem? (i := 31) rfl))) Via.refl e4 F_3 (g := (mkF m 21 #[.val (.int p0), .val (.ref bq1), .val (.int (12 : Int32)), .val (.int (3 : Int32)), .val (.ref w3)] [(.ref w3)])) rfl rfl (hb hby d1_21)
  refine own_go (fun _ => st5 _) ?_
  show GG _ _ _ _ _ _ _ T5 (mkF m 24 #[.val (.int p0), .val (.ref bq1), .val (.int (12 : Int32)), .val (.int (3 : Int32)), .val (.ref w3)] [(.int (4 : Int32))])
  refine own_go (fun _ => XS.iloadN X5.here hx rfl (hb hby d1_24) rfl) ?_
  show GG _ _ _ _ _ _ _ T5 (mkF m 25 #[.val (.int p0), .val (.ref bq1), .val (.int (12 : Int32)), .val (.int (3 : Int32)), .val (.ref w3)] [(.int p0), (.int (4 : Int32))])
  have hc25 : ¬ ((4 : Int32) = p0) := hp3
  refine own_go (fun _ => XS.icmpYes X5.here hx rfl (pc0 := 25) (pc' := 31) rfl (hb hby d1_25) rfl (feq hc25).2 (by decide) (by decide)) ?_
  show GG _ _ _ _ _ _ _ T5 (mkF m 31 #[.val (.int p0), .val (.ref bq1), .val (.int (12 : Int32)), .val (.int (3 : Int32)), .val (.ref w3)] [])
  refine own_go (fun _ => XS.iinc X5.here hx rfl (hb hby d1_31) rfl (l' := #[.val (.int p0), .val (.ref bq1), .val (.int (12 : Int32)), .val (.int (4 : Int32)), .val (.ref w3)]) rfl) ?_
  show GG _ _ _ _ _ _ _ T5 (mkF m 34 #[.val (.int p0), .val (.ref bq1), .val (.int (12 : Int32)), .val (.int (4 : Int32)), .val (.ref w3)] [])
  refine own_go (fun _ => XS.goto X5.here hx rfl (pc0 := 34) (pc' := 9) rfl (hb hby d1_34) (by decide) (by decide)) ?_
  show GG _ _ _ _ _ _ _ T5 (mkF m 9 #[.val (.int p0), .val (.ref bq1), .val (.int (12 : Int32)), .val (.int (4 : Int32)), .val (.ref w3)] [])
  refine own_go (fun _ => XS.iloadN X5.here hx rfl (hb hby d1_9) rfl) ?_
  show GG _ _ _ _ _ _ _ T5 (mkF m 10 #[.val (.int p0), .val (.ref bq1), .val (.int (12 : Int32)), .val (.int (4 : Int32)), .val (.ref w3)] [(.int (4 : Int32))])
  refine own_go (fun _ => XS.iloadN X5.here hx rfl (hb hby d1_10) rfl) ?_
  show GG _ _ _ _ _ _ _ T5 (mkF m 11 #[.val (.int p0), .val (.ref bq1), .val (.int (12 : Int32)), .val (.int (4 : Int32)), .val (.ref w3)] [(.int (12 : Int32)), (.int (4 : Int32))])
  have hc11 : (4 : Int32) < (12 : Int32) := by decide
  refine own_go (fun _ => XS.icmpNo X5.here hx rfl (hb hby d1_11) rfl (tlt hc11).2.1) ?_
  show GG _ _ _ _ _ _ _ T5 (mkF m 14 #[.val (.int p0), .val (.ref bq1), .val (.int (12 : Int32)), .val (.int (4 : Int32)), .val (.ref w3)] [])
  refine own_go (fun _ => XS.aloadN X5.here hx rfl (hb hby d1_14) rfl rfl) ?_
  show GG _ _ _ _ _ _ _ T5 (mkF m 15 #[.val (.int p0), .val (.ref bq1), .val (.int (12 : Int32)), .val (.int (4 : Int32)), .val (.ref w3)] [(.ref bq1)])
  refine own_go (fun _ => XS.iloadN X5.here hx rfl (hb hby d1_15) rfl) ?_
  show GG _ _ _ _ _ _ _ T5 (mkF m 16 #[.val (.int p0), .val (.ref bq1), .val (.int (12 : Int32)), .val (.int (4 : Int32)), .val (.ref w3)] [(.int (4 : Int32)), (.ref bq1)])
  refine own_go (fun _ => own_aaload X5 hx hZ e5 Vq1 rfl (j := (4 : Int32)) (v := (.ref w4)) (by decide) rfl (g := (mkF m 16 #[.val (.int p0), .val (.ref bq1), .val (.int (12 : Int32)), .val (.int (4 : Int32)), .val (.ref w3)] [(.int (4 : Int32)), (.ref bq1)])) rfl rfl (hb hby d1_16) _) ?_
  show GG _ _ _ _ _ _ _ T5 (mkF m 17 #[.val (.int p0), .val (.ref bq1), .val (.int (12 : Int32)), .val (.int (4 : Int32)), .val (.ref w3)] [(.ref w4)])
  refine own_go (fun _ => XS.astore X5.here hx rfl (hb hby d1_17) rfl rfl (l' := #[.val (.int p0), .val (.ref bq1), .val (.int (12 : Int32)), .val (.int (4 : Int32)), .val (.ref w4)]) rfl) ?_
  show GG _ _ _ _ _ _ _ T5 (mkF m 19 #[.val (.int p0), .val (.ref bq1), .val (.int (12 : Int32)), .val (.int (4 : Int32)), .val (.ref w4)] [])
  refine own_go (fun _ => XS.aload X5.here hx rfl (hb hby d1_19) rfl rfl) ?_
  show GG _ _ _ _ _ _ _ T5 (mkF m 21 #[.val (.int p0), .val (.ref bq1), .val (.int (12 : Int32)), .val (.int (4 : Int32)), .val (.ref w4)] [(.ref w4)])
  obtain ⟨T6, X6, e6, st6⟩ := getF X5 hx hZ hown (host := "") (Or.inl (hw _ (List.mem_of_getElem? (i := 31) rfl))) Via.refl e5 F_4 (g := (mkF m 21 #[.val (.int p0), .val (.ref bq1), .val (.int (12 : Int32)), .val (.int (4 : Int32)), .val (.ref w4)] [(.ref w4)])) rfl rfl (hb hby d1_21)
  refine own_go (fun _ => st6 _) ?_
  show GG _ _ _ _ _ _ _ T6 (mkF m 24 #[.val (.int p0), .val (.ref bq1), .val (.int (12 : Int32)), .val (.int (4 : Int32)), .val (.ref w4)] [(.int (5 : Int32))])
  refine own_go (fun _ => XS.iloadN X6.here hx rfl (hb hby d1_24) rfl) ?_
  show GG _ _ _ _ _ _ _ T6 (mkF m 25 #[.val (.int p0), .val (.ref bq1), .val (.int (12 : Int32)), .val (.int (4 : Int32)), .val (.ref w4)] [(.int p0), (.int (5 : Int32))])
  have hc25 : ¬ ((5 : Int32) = p0) := hp4
  refine own_go (fun _ => XS.icmpYes X6.here hx rfl (pc0 := 25) (pc' := 31) rfl (hb hby d1_25) rfl (feq hc25).2 (by decide) (by decide)) ?_
  show GG _ _ _ _ _ _ _ T6 (mkF m 31 #[.val (.int p0), .val (.ref bq1), .val (.int (12 : Int32)), .val (.int (4 : Int32)), .val (.ref w4)] [])
  refine own_go (fun _ => XS.iinc X6.here hx rfl (hb hby d1_31) rfl (l' := #[.val (.int p0), .val (.ref bq1), .val (.int (12 : Int32)), .val (.int (5 : Int32)), .val (.ref w4)]) rfl) ?_
  show GG _ _ _ _ _ _ _ T6 (mkF m 34 #[.val (.int p0), .val (.ref bq1), .val (.int (12 : Int32)), .val (.int (5 : Int32)), .val (.ref w4)] [])
  refine own_go (fun _ => XS.goto X6.here hx rfl (pc0 := 34) (pc' := 9) rfl (hb hby d1_34) (by decide) (by decide)) ?_
  show GG _ _ _ _ _ _ _ T6 (mkF m 9 #[.val (.int p0), .val (.ref bq1), .val (.int (12 : Int32)), .val (.int (5 : Int32)), .val (.ref w4)] [])
  refine own_go (fun _ => XS.iloadN X6.here hx rfl (hb hby d1_9) rfl) ?_
  show GG _ _ _ _ _ _ _ T6 (mkF m 10 #[.val (.int p0), .val (.ref bq1), .val (.int (12 : Int32)), .val (.int (5 : Int32)), .val (.ref w4)] [(.int (5 : Int32))])
  refine own_go (fun _ => XS.iloadN X6.here hx rfl (hb hby d1_10) rfl) ?_
  show GG _ _ _ _ _ _ _ T6 (mkF m 11 #[.val (.int p0), .val (.ref bq1), .val (.int (12 : Int32)), .val (.int (5 : Int32)), .val (.ref w4)] [(.int (12 : Int32)), (.int (5 : Int32))])
  have hc11 : (5 : Int32) < (12 : Int32) := by decide
  refine own_go (fun _ => XS.icmpNo X6.here hx rfl (hb hby d1_11) rfl (tlt hc11).2.1) ?_
  show GG _ _ _ _ _ _ _ T6 (mkF m 14 #[.val (.int p0), .val (.ref bq1), .val (.int (12 : Int32)), .val (.int (5 : Int32)), .val (.ref w4)] [])
  refine own_go (fun _ => XS.aloadN X6.here hx rfl (hb hby d1_14) rfl rfl) ?_
  show GG _ _ _ _ _ _ _ T6 (mkF m 15 #[.val (.int p0), .val (.ref bq1), .val (.int (12 : Int32)), .val (.int (5 : Int32)), .val (.ref w4)] [(.ref bq1)])
  refine own_go (fun _ => XS.iloadN X6.here hx rfl (hb hby d1_15) rfl) ?_
  show GG _ _ _ _ _ _ _ T6 (mkF m 16 #[.val (.int p0), .val (.ref bq1), .val (.int (12 : Int32)), .val (.int (5 : Int32)), .val (.ref w4)] [(.int (5 : Int32)), (.ref bq1)])
  refine own_go (fun _ => own_aaload X6 hx hZ e6 Vq1 rfl (j := (5 : Int32)) (v := (.ref w5)) (by decide) rfl (g := (mkF m 16 #[.val (.int p0), .val (.ref bq1), .val (.int (12 : Int32)), .val (.int (5 : Int32)), .val (.ref w4)] [(.int (5 : Int32)), (.ref bq1)])) rfl rfl (hb hby d1_16) _) ?_
  show GG _ _ _ _ _ _ _ T6 (mkF m 17 #[.val (.int p0), .val (.ref bq1), .val (.int (12 : Int32)), .val (.int (5 : Int32)), .val (.ref w4)] [(.ref w5)])
  refine own_go (fun _ => XS.astore X6.here hx rfl (hb hby d1_17) rfl rfl (l' := #[.val (.int p0), .val (.ref bq1), .val (.int (12 : Int32)), .val (.int (5 : Int32)), .val (.ref w5)]) rfl) ?_
  show GG _ _ _ _ _ _ _ T6 (mkF m 19 #[.val (.int p0), .val (.ref bq1), .val (.int (12 : Int32)), .val (.int (5 : Int32)), .val (.ref w5)] [])
  refine own_go (fun _ => XS.aload X6.here hx rfl (hb hby d1_19) rfl rfl) ?_
  show GG _ _ _ _ _ _ _ T6 (mkF m 21 #[.val (.int p0), .val (.ref bq1), .val (.int (12 : Int32)), .val (.int (5 : Int32)), .val (.ref w5)] [(.ref w5)])
  obtain ⟨T7, X7, e7, st7⟩ := getF X6 hx hZ hown (host := "") (Or.inl (hw _ (List.mem_of_getElem? (i := 31) rfl))) Via.refl e6 F_5 (g := (mkF m 21 #[.val (.int p0), .val (.ref bq1), .val (.int (12 : Int32)), .val (.int (5 : Int32)), .val (.ref w5)] [(.ref w5)])) rfl rfl (hb hby d1_21)
  refine own_go (fun _ => st7 _) ?_
  show GG _ _ _ _ _ _ _ T7 (mkF m 24 #[.val (.int p0), .val (.ref bq1), .val (.int (12 : Int32)), .val (.int (5 : Int32)), .val (.ref w5)] [(.int (8 : Int32))])
  refine own_go (fun _ => XS.iloadN X7.here hx rfl (hb hby d1_24) rfl) ?_
  show GG _ _ _ _ _ _ _ T7 (mkF m 25 #[.val (.int p0), .val (.ref bq1), .val (.int (12 : Int32)), .val (.int (5 : Int32)), .val (.ref w5)] [(.int p0), (.int (8 : Int32))])
  have hc25 : ¬ ((8 : Int32) = p0) := hp5
  refine own_go (fun _ => XS.icmpYes X7.here hx rfl (pc0 := 25) (pc' := 31) rfl (hb hby d1_25) rfl (feq hc25).2 (by decide) (by decide)) ?_
  show GG _ _ _ _ _ _ _ T7 (mkF m 31 #[.val (.int p0), .val (.ref bq1), .val (.int (12 : Int32)), .val (.int (5 : Int32)), .val (.ref w5)] [])
  refine own_go (fun _ => XS.iinc X7.here hx rfl (hb hby d1_31) rfl (l' := #[.val (.int p0), .val (.ref bq1), .val (.int (12 : Int32)), .val (.int (6 : Int32)), .val (.ref w5)]) rfl) ?_
  show GG _ _ _ _ _ _ _ T7 (mkF m 34 #[.val (.int p0), .val (.ref bq1), .val (.int (12 : Int32)), .val (.int (6 : Int32)), .val (.ref w5)] [])
  refine own_go (fun _ => XS.goto X7.here hx rfl (pc0 := 34) (pc' := 9) rfl (hb hby d1_34) (by decide) (by decide)) ?_
  show GG _ _ _ _ _ _ _ T7 (mkF m 9 #[.val (.int p0), .val (.ref bq1), .val (.int (12 : Int32)), .val (.int (6 : Int32)), .val (.ref w5)] [])
  refine own_go (fun _ => XS.iloadN X7.here hx rfl (hb hby d1_9) rfl) ?_
  show GG _ _ _ _ _ _ _ T7 (mkF m 10 #[.val (.int p0), .val (.ref bq1), .val (.int (12 : Int32)), .val (.int (6 : Int32)), .val (.ref w5)] [(.int (6 : Int32))])
  refine own_go (fun _ => XS.iloadN X7.here hx rfl (hb hby d1_10) rfl) ?_
  show GG _ _ _ _ _ _ _ T7 (mkF m 11 #[.val (.int p0), .val (.ref bq1), .val (.int (12 : Int32)), .val (.int (6 : Int32)), .val (.ref w5)] [(.int (12 : Int32)), (.int (6 : Int32))])
  have hc11 : (6 : Int32) < (12 : Int32) := by decide
  refine own_go (fun _ => XS.icmpNo X7.here hx rfl (hb hby d1_11) rfl (tlt hc11).2.1) ?_
  show GG _ _ _ _ _ _ _ T7 (mkF m 14 #[.val (.int p0), .val (.ref bq1), .val (.int (12 : Int32)), .val (.int (6 : Int32)), .val (.ref w5)] [])
  refine own_go (fun _ => XS.aloadN X7.here hx rfl (hb hby d1_14) rfl rfl) ?_
  show GG _ _ _ _ _ _ _ T7 (mkF m 15 #[.val (.int p0), .val (.ref bq1), .val (.int (12 : Int32)), .val (.int (6 : Int32)), .val (.ref w5)] [(.ref bq1)])
  refine own_go (fun _ => XS.iloadN X7.here hx rfl (hb hby d1_15) rfl) ?_
  show GG _ _ _ _ _ _ _ T7 (mkF m 16 #[.val (.int p0), .val (.ref bq1), .val (.int (12 : Int32)), .val (.int (6 : Int32)), .val (.ref w5)] [(.int (6 : Int32)), (.ref bq1)])
  refine own_go (fun _ => own_aaload X7 hx hZ e7 Vq1 rfl (j := (6 : Int32)) (v := (.ref w6)) (by decide) rfl (g := (mkF m 16 #[.val (.int p0), .val (.ref bq1), .val (.int (12 : Int32)), .val (.int (6 : Int32)), .val (.ref w5)] [(.int (6 : Int32)), (.ref bq1)])) rfl rfl (hb hby d1_16) _) ?_
  show GG _ _ _ _ _ _ _ T7 (mkF m 17 #[.val (.int p0), .val (.ref bq1), .val (.int (12 : Int32)), .val (.int (6 : Int32)), .val (.ref w5)] [(.ref w6)])
  refine own_go (fun _ => XS.astore X7.here hx rfl (hb hby d1_17) rfl rfl (l' := #[.val (.int p0), .val (.ref bq1), .val (.int (12 : Int32)), .val (.int (6 : Int32)), .val (.ref w6)]) rfl) ?_
  show GG _ _ _ _ _ _ _ T7 (mkF m 19 #[.val (.int p0), .val (.ref bq1), .val (.int (12 : Int32)), .val (.int (6 : Int32)), .val (.ref w6)] [])
  refine own_go (fun _ => XS.aload X7.here hx rfl (hb hby d1_19) rfl rfl) ?_
  show GG _ _ _ _ _ _ _ T7 (mkF m 21 #[.val (.int p0), .val (.ref bq1), .val (.int (12 : Int32)), .val (.int (6 : Int32)), .val (.ref w6)] [(.ref w6)])
  obtain ⟨T8, X8, e8, st8⟩ := getF X7 hx hZ hown (host := "") (Or.inl (hw _ (List.mem_of_getElem? (i := 31) rfl))) Via.refl e7 F_6 (g := (mkF m 21 #[.val (.int p0), .val (.ref bq1), .val (.int (12 : Int32)), .val (.int (6 : Int32)), .val (.ref w6)] [(.ref w6)])) rfl rfl (hb hby d1_21)
  refine own_go (fun _ => st8 _) ?_
  show GG _ _ _ _ _ _ _ T8 (mkF m 24 #[.val (.int p0), .val (.ref bq1), .val (.int (12 : Int32)), .val (.int (6 : Int32)), .val (.ref w6)] [(.int (9 : Int32))])
  refine own_go (fun _ => XS.iloadN X8.here hx rfl (hb hby d1_24) rfl) ?_
  show GG _ _ _ _ _ _ _ T8 (mkF m 25 #[.val (.int p0), .val (.ref bq1), .val (.int (12 : Int32)), .val (.int (6 : Int32)), .val (.ref w6)] [(.int p0), (.int (9 : Int32))])
  have hc25 : ¬ ((9 : Int32) = p0) := hp6
  refine own_go (fun _ => XS.icmpYes X8.here hx rfl (pc0 := 25) (pc' := 31) rfl (hb hby d1_25) rfl (feq hc25).2 (by decide) (by decide)) ?_
  show GG _ _ _ _ _ _ _ T8 (mkF m 31 #[.val (.int p0), .val (.ref bq1), .val (.int (12 : Int32)), .val (.int (6 : Int32)), .val (.ref w6)] [])
  refine own_go (fun _ => XS.iinc X8.here hx rfl (hb hby d1_31) rfl (l' := #[.val (.int p0), .val (.ref bq1), .val (.int (12 : Int32)), .val (.int (7 : Int32)), .val (.ref w6)]) rfl) ?_
  show GG _ _ _ _ _ _ _ T8 (mkF m 34 #[.val (.int p0), .val (.ref bq1), .val (.int (12 : Int32)), .val (.int (7 : Int32)), .val (.ref w6)] [])
  refine own_go (fun _ => XS.goto X8.here hx rfl (pc0 := 34) (pc' := 9) rfl (hb hby d1_34) (by decide) (by decide)) ?_
  show GG _ _ _ _ _ _ _ T8 (mkF m 9 #[.val (.int p0), .val (.ref bq1), .val (.int (12 : Int32)), .val (.int (7 : Int32)), .val (.ref w6)] [])
  refine own_go (fun _ => XS.iloadN X8.here hx rfl (hb hby d1_9) rfl) ?_
  show GG _ _ _ _ _ _ _ T8 (mkF m 10 #[.val (.int p0), .val (.ref bq1), .val (.int (12 : Int32)), .val (.int (7 : Int32)), .val (.ref w6)] [(.int (7 : Int32))])
  refine own_go (fun _ => XS.iloadN X8.here hx rfl (hb hby d1_10) rfl) ?_
  show GG _ _ _ _ _ _ _ T8 (mkF m 11 #[.val (.int p0), .val (.ref bq1), .val (.int (12 : Int32)), .val (.int (7 : Int32)), .val (.ref w6)] [(.int (12 : Int32)), (.int (7 : Int32))])
  have hc11 : (7 : Int32) < (12 : Int32) := by decide
  refine own_go (fun _ => XS.icmpNo X8.here hx rfl (hb hby d1_11) rfl (tlt hc11).2.1) ?_
  show GG _ _ _ _ _ _ _ T8 (mkF m 14 #[.val (.int p0), .val (.ref bq1), .val (.int (12 : Int32)), .val (.int (7 : Int32)), .val (.ref w6)] [])
  refine own_go (fun _ => XS.aloadN X8.here hx rfl (hb hby d1_14) rfl rfl) ?_
  show GG _ _ _ _ _ _ _ T8 (mkF m 15 #[.val (.int p0), .val (.ref bq1), .val (.int (12 : Int32)), .val (.int (7 : Int32)), .val (.ref w6)] [(.ref bq1)])
  refine own_go (fun _ => XS.iloadN X8.here hx rfl (hb hby d1_15) rfl) ?_
  show GG _ _ _ _ _ _ _ T8 (mkF m 16 #[.val (.int p0), .val (.ref bq1), .val (.int (12 : Int32)), .val (.int (7 : Int32)), .val (.ref w6)] [(.int (7 : Int32)), (.ref bq1)])
  refine own_go (fun _ => own_aaload X8 hx hZ e8 Vq1 rfl (j := (7 : Int32)) (v := (.ref w7)) (by decide) rfl (g := (mkF m 16 #[.val (.int p0), .val (.ref bq1), .val (.int (12 : Int32)), .val (.int (7 : Int32)), .val (.ref w6)] [(.int (7 : Int32)), (.ref bq1)])) rfl rfl (hb hby d1_16) _) ?_
  show GG _ _ _ _ _ _ _ T8 (mkF m 17 #[.val (.int p0), .val (.ref bq1), .val (.int (12 : Int32)), .val (.int (7 : Int32)), .val (.ref w6)] [(.ref w7)])
  refine own_go (fun _ => XS.astore X8.here hx rfl (hb hby d1_17) rfl rfl (l' := #[.val (.int p0), .val (.ref bq1), .val (.int (12 : Int32)), .val (.int (7 : Int32)), .val (.ref w7)]) rfl) ?_
  show GG _ _ _ _ _ _ _ T8 (mkF m 19 #[.val (.int p0), .val (.ref bq1), .val (.int (12 : Int32)), .val (.int (7 : Int32)), .val (.ref w7)] [])
  refine own_go (fun _ => XS.aload X8.here hx rfl (hb hby d1_19) rfl rfl) ?_
  show GG _ _ _ _ _ _ _ T8 (mkF m 21 #[.val (.int p0), .val (.ref bq1), .val (.int (12 : Int32)), .val (.int (7 : Int32)), .val (.ref w7)] [(.ref w7)])
  obtain ⟨T9, X9, e9, st9⟩ := getF X8 hx hZ hown (host := "") (Or.inl (hw _ (List.mem_of_getElem? (i := 31) rfl))) Via.refl e8 F_7 (g := (mkF m 21 #[.val (.int p0), .val (.ref bq1), .val (.int (12 : Int32)), .val (.int (7 : Int32)), .val (.ref w7)] [(.ref w7)])) rfl rfl (hb hby d1_21)
  refine own_go (fun _ => st9 _) ?_
  show GG _ _ _ _ _ _ _ T9 (mkF m 24 #[.val (.int p0), .val (.ref bq1), .val (.int (12 : Int32)), .val (.int (7 : Int32)), .val (.ref w7)] [(.int (11 : Int32))])
  refine own_go (fun _ => XS.iloadN X9.here hx rfl (hb hby d1_24) rfl) ?_
  show GG _ _ _ _ _ _ _ T9 (mkF m 25 #[.val (.int p0), .val (.ref bq1), .val (.int (12 : Int32)), .val (.int (7 : Int32)), .val (.ref w7)] [(.int p0), (.int (11 : Int32))])
  have hc25 : ¬ ((11 : Int32) = p0) := hp7
  refine own_go (fun _ => XS.icmpYes X9.here hx rfl (pc0 := 25) (pc' := 31) rfl (hb hby d1_25) rfl (feq hc25).2 (by decide) (by decide)) ?_
  show GG _ _ _ _ _ _ _ T9 (mkF m 31 #[.val (.int p0), .val (.ref bq1), .val (.int (12 : Int32)), .val (.int (7 : Int32)), .val (.ref w7)] [])
  refine own_go (fun _ => XS.iinc X9.here hx rfl (hb hby d1_31) rfl (l' := #[.val (.int p0), .val (.ref bq1), .val (.int (12 : Int32)), .val (.int (8 : Int32)), .val (.ref w7)]) rfl) ?_
  show GG _ _ _ _ _ _ _ T9 (mkF m 34 #[.val (.int p0), .val (.ref bq1), .val (.int (12 : Int32)), .val (.int (8 : Int32)), .val (.ref w7)] [])
  refine own_go (fun _ => XS.goto X9.here hx rfl (pc0 := 34) (pc' := 9) rfl (hb hby d1_34) (by decide) (by decide)) ?_
  show GG _ _ _ _ _ _ _ T9 (mkF m 9 #[.val (.int p0), .val (.ref bq1), .val (.int (12 : Int32)), .val (.int (8 : Int32)), .val (.ref w7)] [])
  refine own_go (fun _ => XS.iloadN X9.here hx rfl (hb hby d1_9) rfl) ?_
  show GG _ _ _ _ _ _ _ T9 (mkF m 10 #[.val (.int p0), .val (.ref bq1), .val (.int (12 : Int32)), .val (.int (8 : Int32)), .val (.ref w7)] [(.int (8 : Int32))])
  refine own_go (fun _ => XS.iloadN X9.here hx rfl (hb hby d1_10) rfl) ?_
  show GG _ _ _ _ _ _ _ T9 (mkF m 11 #[.val (.int p0), .val (.ref bq1), .val (.int (12 : Int32)), .val (.int (8 : Int32)), .val (.ref w7)] [(.int (12 : Int32)), (.int (8 : Int32))])
  have hc11 : (8 : Int32) < (12 : Int32) := by decide
  refine own_go (fun _ => XS.icmpNo X9.here hx rfl (hb hby d1_11) rfl (tlt hc11).2.1) ?_
  show GG _ _ _ _ _ _ _ T9 (mkF m 14 #[.val (.int p0), .val (.ref bq1), .val (.int (12 : Int32)), .val (.int (8 : Int32)), .val (.ref w7)] [])
  refine own_go (fun _ => XS.aloadN X9.here hx rfl (hb hby d1_14) rfl rfl) ?_
  show GG _ _ _ _ _ _ _ T9 (mkF m 15 #[.val (.int p0), .val (.ref bq1), .val (.int (12 : Int32)), .val (.int (8 : Int32)), .val (.ref w7)] [(.ref bq1)])
  refine own_go (fun _ => XS.iloadN X9.here hx rfl (hb hby d1_15) rfl) ?_
  show GG _ _ _ _ _ _ _ T9 (mkF m 16 #[.val (.int p0), .val (.ref bq1), .val (.int (12 : Int32)), .val (.int (8 : Int32)), .val (.ref w7)] [(.int (8 : Int32)), (.ref bq1)])
  refine own_go (fun _ => own_aaload X9 hx hZ e9 Vq1 rfl (j := (8 : Int32)) (v := (.ref w8)) (by decide) rfl (g := (mkF m 16 #[.val (.int p0), .val (.ref bq1), .val (.int (12 : Int32)), .val (.int (8 : Int32)), .val (.ref w7)] [(.int (8 : Int32)), (.ref bq1)])) rfl rfl (hb hby d1_16) _) ?_
  show GG _ _ _ _ _ _ _ T9 (mkF m 17 #[.val (.int p0), .val (.ref bq1), .val (.int (12 : Int32)), .val (.int (8 : Int32)), .val (.ref w7)] [(.ref w8)])
  refine own_go (fun _ => XS.astore X9.here hx rfl (hb hby d1_17) rfl rfl (l' := #[.val (.int p0), .val (.ref bq1), .val (.int (12 : Int32)), .val (.int (8 : Int32)), .val (.ref w8)]) rfl) ?_
  show GG _ _ _ _ _ _ _ T9 (mkF m 19 #[.val (.int p0), .val (.ref bq1), .val (.int (12 : Int32)), .val (.int (8 : Int32)), .val (.ref w8)] [])
  refine own_go (fun _ => XS.aload X9.here hx rfl (hb hby d1_19) rfl rfl) ?_
  show GG _ _ _ _ _ _ _ T9 (mkF m 21 #[.val (.int p0), .val (.ref bq1), .val (.int (12 : Int32)), .val (.int (8 : Int32)), .val (.ref w8)] [(.ref w8)])
  obtain ⟨T10, X10, e10, st10⟩ := getF X9 hx hZ hown (host := "") (Or.inl (hw _ (List.mem_of_getElem? (i := 31) rfl))) Via.refl e9 F_8 (g := (mkF m 21 #[.val (.int p0), .val (.ref bq1), .val (.int (12 : Int32)), .val (.int (8 : Int32)), .val (.ref w8)] [(.ref w8)])) rfl rfl (hb hby d1_21)
  refine own_go (fun _ => st10 _) ?_
  show GG _ _ _ _ _ _ _ T10 (mkF m 24 #[.val (.int p0), .val (.ref bq1), .val (.int (12 : Int32)), .val (.int (8 : Int32)), .val (.ref w8)] [(.int (12 : Int32))])
  refine own_go (fun _ => XS.iloadN X10.here hx rfl (hb hby d1_24) rfl) ?_
  show GG _ _ _ _ _ _ _ T10 (mkF m 25 #[.val (.int p0), .val (.ref bq1), .val (.int (12 : Int32)), .val (.int (8 : Int32)), .val (.ref w8)] [(.int p0), (.int (12 : Int32))])
  have hc25 : ¬ ((12 : Int32) = p0) := hp8
  refine own_go (fun _ => XS.icmpYes X10.here hx rfl (pc0 := 25) (pc' := 31) rfl (hb hby d1_25) rfl (feq hc25).2 (by decide) (by decide)) ?_
  show GG _ _ _ _ _ _ _ T10 (mkF m 31 #[.val (.int p0), .val (.ref bq1), .val (.int (12 : Int32)), .val (.int (8 : Int32)), .val (.ref w8)] [])
  refine own_go (fun _ => XS.iinc X10.here hx rfl (hb hby d1_31) rfl (l' := #[.val (.int p0), .val (.ref bq1), .val (.int (12 : Int32)), .val (.int (9 : Int32)), .val (.ref w8)]) rfl) ?_
  show GG _ _ _ _ _ _ _ T10 (mkF m 34 #[.val (.int p0), .val (.ref bq1), .val (.int (12 : Int32)), .val (.int (9 : Int32)), .val (.ref w8)] [])
  refine own_go (fun _ => XS.goto X10.here hx rfl (pc0 := 34) (pc' := 9) rfl (hb hby d1_34) (by decide) (by decide)) ?_
  show GG _ _ _ _ _ _ _ T10 (mkF m 9 #[.val (.int p0), .val (.ref bq1), .val (.int (12 : Int32)), .val (.int (9 : Int32)), .val (.ref w8)] [])
  refine own_go (fun _ => XS.iloadN X10.here hx rfl (hb hby d1_9) rfl) ?_
  show GG _ _ _ _ _ _ _ T10 (mkF m 10 #[.val (.int p0), .val (.ref bq1), .val (.int (12 : Int32)), .val (.int (9 : Int32)), .val (.ref w8)] [(.int (9 : Int32))])
  refine own_go (fun _ => XS.iloadN X10.here hx rfl (hb hby d1_10) rfl) ?_
  show GG _ _ _ _ _ _ _ T10 (mkF m 11 #[.val (.int p0), .val (.ref bq1), .val (.int (12 : Int32)), .val (.int (9 : Int32)), .val (.ref w8)] [(.int (12 : Int32)), (.int (9 : Int32))])
  have hc11 : (9 : Int32) < (12 : Int32) := by decide
  refine own_go (fun _ => XS.icmpNo X10.here hx rfl (hb hby d1_11) rfl (tlt hc11).2.1) ?_
  show GG _ _ _ _ _ _ _ T10 (mkF m 14 #[.val (.int p0), .val (.ref bq1), .val (.int (12 : Int32)), .val (.int (9 : Int32)), .val (.ref w8)] [])
  refine own_go (fun _ => XS.aloadN X10.here hx rfl (hb hby d1_14) rfl rfl) ?_
  show GG _ _ _ _ _ _ _ T10 (mkF m 15 #[.val (.int p0), .val (.ref bq1), .val (.int (12 : Int32)), .val (.int (9 : Int32)), .val (.ref w8)] [(.ref bq1)])
  refine own_go (fun _ => XS.iloadN X10.here hx rfl (hb hby d1_15) rfl) ?_
  show GG _ _ _ _ _ _ _ T10 (mkF m 16 #[.val (.int p0), .val (.ref bq1), .val (.int (12 : Int32)), .val (.int (9 : Int32)), .val (.ref w8)] [(.int (9 : Int32)), (.ref bq1)])
  refine own_go (fun _ => own_aaload X10 hx hZ e10 Vq1 rfl (j := (9 : Int32)) (v := (.ref w9)) (by decide) rfl (g := (mkF m 16 #[.val (.int p0), .val (.ref bq1), .val (.int (12 : Int32)), .val (.int (9 : Int32)), .val (.ref w8)] [(.int (9 : Int32)), (.ref bq1)])) rfl rfl (hb hby d1_16) _) ?_
  show GG _ _ _ _ _ _ _ T10 (mkF m 17 #[.val (.int p0), .val (.ref bq1), .val (.int (12 : Int32)), .val (.int (9 : Int32)), .val (.ref w8)] [(.ref w9)])
  refine own_go (fun _ => XS.astore X10.here hx rfl (hb hby d1_17) rfl rfl (l' := #[.val (.int p0), .val (.ref bq1), .val (.int (12 : Int32)), .val (.int (9 : Int32)), .val (.ref w9)]) rfl) ?_
  show GG _ _ _ _ _ _ _ T10 (mkF m 19 #[.val (.int p0), .val (.ref bq1), .val (.int (12 : Int32)), .val (.int (9 : Int32)), .val (.ref w9)] [])
  refine own_go (fun _ => XS.aload X10.here hx rfl (hb hby d1_19) rfl rfl) ?_
  show GG _ _ _ _ _ _ _ T10 (mkF m 21 #[.val (.int p0), .val (.ref bq1), .val (.int (12 : Int32)), .val (.int (9 : Int32)), .val (.ref w9)] [(.ref w9)])
  obtain ⟨T11, X11, e11, st11⟩ := getF X10 hx hZ hown (host := "") (Or.inl (hw _ (List.mem_of_getElem? (i := 31) rfl))) Via.refl e10 F_9 (g := (mkF m 21 #[.val (.int p0), .val (.ref bq1), .val (.int (12 : Int32)), .val (.int (9 : Int32)), .val (.ref w9)] [(.ref w9)])) rfl rfl (hb hby d1_21)
  refine own_go (fun _ => st11 _) ?_
  show GG _ _ _ _ _ _ _ T11 (mkF m 24 #[.val (.int p0), .val (.ref bq1), .val (.int (12 : Int32)), .val (.int (9 : Int32)), .val (.ref w9)] [(.int (13 : Int32))])
  refine own_go (fun _ => XS.iloadN X11.here hx rfl (hb hby d1_24) rfl) ?_
  show GG _ _ _ _ _ _ _ T11 (mkF m 25 #[.val (.int p0), .val (.ref bq1), .val (.int (12 : Int32)), .val (.int (9 : Int32)), .val (.ref w9)] [(.int p0), (.int (13 : Int32))])
  have hc25 : ¬ ((13 : Int32) = p0) := hp9
  refine own_go (fun _ => XS.icmpYes X11.here hx rfl (pc0 := 25) (pc' := 31) rfl (hb hby d1_25) rfl (feq hc25).2 (by decide) (by decide)) ?_
  show GG _ _ _ _ _ _ _ T11 (mkF m 31 #[.val (.int p0), .val (.ref bq1), .val (.int (12 : Int32)), .val (.int (9 : Int32)), .val (.ref w9)] [])
  refine own_go (fun _ => XS.iinc X11.here hx rfl (hb hby d1_31) rfl (l' := #[.val (.int p0), .val (.ref bq1), .val (.int (12 : Int32)), .val (.int (10 : Int32)), .val (.ref w9)]) rfl) ?_
  show GG _ _ _ _ _ _ _ T11 (mkF m 34 #[.val (.int p0), .val (.ref bq1), .val (.int (12 : Int32)), .val (.int (10 : Int32)), .val (.ref w9)] [])
  refine own_go (fun _ => XS.goto X11.here hx rfl (pc0 := 34) (pc' := 9) rfl (hb hby d1_34) (by decide) (by decide)) ?_
  show GG _ _ _ _ _ _ _ T11 (mkF m 9 #[.val (.int p0), .val (.ref bq1), .val (.int (12 : Int32)), .val (.int (10 : Int32)), .val (.ref w9)] [])
  refine own_go (fun _ => XS.iloadN X11.here hx rfl (hb hby d1_9) rfl) ?_
  show GG _ _ _ _ _ _ _ T11 (mkF m 10 #[.val (.int p0), .val (.ref bq1), .val (.int (12 : Int32)), .val (.int (10 : Int32)), .val (.ref w9)] [(.int (10 : Int32))])
  refine own_go (fun _ => XS.iloadN X11.here hx rfl (hb hby d1_10) rfl) ?_
  show GG _ _ _ _ _ _ _ T11 (mkF m 11 #[.val (.int p0), .val (.ref bq1), .val (.int (12 : Int32)), .val (.int (10 : Int32)), .val (.ref w9)] [(.int (12 : Int32)), (.int (10 : Int32))])
  have hc11 : (10 : Int32) < (12 : Int32) := by decide
  refine own_go (fun _ => XS.icmpNo X11.here hx rfl (hb hby d1_11) rfl (tlt hc11).2.1) ?_
  show GG _ _ _ _ _ _ _ T11 (mkF m 14 #[.val (.int p0), .val (.ref bq1), .val (.int (12 : Int32)), .val (.int (10 : Int32)), .val (.ref w9)] [])
  refine own_go (fun _ => XS.aloadN X11.here hx rfl (hb hby d1_14) rfl rfl) ?_
  show GG _ _ _ _ _ _ _ T11 (mkF m 15 #[.val (.int p0), .val (.ref bq1), .val (.int (12 : Int32)), .val (.int (10 : Int32)), .val (.ref w9)] [(.ref bq1)])
  refine own_go (fun _ => XS.iloadN X11.here hx rfl (hb hby d1_15) rfl) ?_
  show GG _ _ _ _ _ _ _ T11 (mkF m 16 #[.val (.int p0), .val (.ref bq1), .val (.int (12 : Int32)), .val (.int (10 : Int32)), .val (.ref w9)] [(.int (10 : Int32)), (.ref bq1)])
  refine own_go (fun _ => own_aaload X11 hx hZ e11 Vq1 rfl (j := (10 : Int32)) (v := (.ref w10)) (by decide) rfl (g := (mkF m 16 #[.val (.int p0), .val (.ref bq1), .val (.int (12 : Int32)), .val (.int (10 : Int32)), .val (.ref w9)] [(.int (10 : Int32)), (.ref bq1)])) rfl rfl (hb hby d1_16) _) ?_
  show GG _ _ _ _ _ _ _ T11 (mkF m 17 #[.val (.int p0), .val (.ref bq1), .val (.int (12 : Int32)), .val (.int (10 : Int32)), .val (.ref w9)] [(.ref w10)])
  refine own_go (fun _ => XS.astore X11.here hx rfl (hb hby d1_17) rfl rfl (l' := #[.val (.int p0), .val (.ref bq1), .val (.int (12 : Int32)), .val (.int (10 : Int32)), .val (.ref w10)]) rfl) ?_
  show GG _ _ _ _ _ _ _ T11 (mkF m 19 #[.val (.int p0), .val (.ref bq1), .val (.int (12 : Int32)), .val (.int (10 : Int32)), .val (.ref w10)] [])
  refine own_go (fun _ => XS.aload X11.here hx rfl (hb hby d1_19) rfl rfl) ?_
  show GG _ _ _ _ _ _ _ T11 (mkF m 21 #[.val (.int p0), .val (.ref bq1), .val (.int (12 : Int32)), .val (.int (10 : Int32)), .val (.ref w10)] [(.ref w10)])
  obtain ⟨T12, X12, e12, st12⟩ := getF X11 hx hZ hown (host := "") (Or.inl (hw _ (List.mem_of_getElem? (i := 31) rfl))) Via.refl e11 F_10 (g := (mkF m 21 #[.val (.int p0), .val (.ref bq1), .val (.int (12 : Int32)), .val (.int (10 : Int32)), .val (.ref w10)] [(.ref w10)])) rfl rfl (hb hby d1_21)
  refine own_go (fun _ => st12 _) ?_
  show GG _ _ _ _ _ _ _ T12 (mkF m 24 #[.val (.int p0), .val (.ref bq1), .val (.int (12 : Int32)), .val (.int (10 : Int32)), .val (.ref w10)] [(.int (14 : Int32))])
  refine own_go (fun _ => XS.iloadN X12.here hx rfl (hb hby d1_24) rfl) ?_
  show GG _ _ _ _ _ _ _ T12 (mkF m 25 #[.val (.int p0), .val (.ref bq1), .val (.int (12 : Int32)), .val (.int (10 : Int32)), .val (.ref w10)] [(.int p0), (.int (14 : Int32))])
  have hc25 : ¬ ((14 : Int32) = p0) := hp10
  refine own_go (fun _ => XS.icmpYes X12.here hx rfl (pc0 := 25) (pc' := 31) rfl (hb hby d1_25) rfl (feq hc25).2 (by decide) (by decide)) ?_
  show GG _ _ _ _ _ _ _ T12 (mkF m 31 #[.val (.int p0), .val (.ref bq1), .val (.int (12 : Int32)), .val (.int (10 : Int32)), .val (.ref w10)] [])
  refine own_go (fun _ => XS.iinc X12.here hx rfl (hb hby d1_31) rfl (l' := #[.val (.int p0), .val (.ref bq1), .val (.int (12 : Int32)), .val (.int (11 : Int32)), .val (.ref w10)]) rfl) ?_
  show GG _ _ _ _ _ _ _ T12 (mkF m 34 #[.val (.int p0), .val (.ref bq1), .val (.int (12 : Int32)), .val (.int (11 : Int32)), .val (.ref w10)] [])
  refine own_go (fun _ => XS.goto X12.here hx rfl (pc0 := 34) (pc' := 9) rfl (hb hby d1_34) (by decide) (by decide)) ?_
  show GG _ _ _ _ _ _ _ T12 (mkF m 9 #[.val (.int p0), .val (.ref bq1), .val (.int (12 : Int32)), .val (.int (11 : Int32)), .val (.ref w10)] [])
  refine own_go (fun _ => XS.iloadN X12.here hx rfl (hb hby d1_9) rfl) ?_
  show GG _ _ _ _ _ _ _ T12 (mkF m 10 #[.val (.int p0), .val (.ref bq1), .val (.int (12 : Int32)), .val (.int (11 : Int32)), .val (.ref w10)] [(.int (11 : Int32))])
  refine own_go (fun _ => XS.iloadN X12.here hx rfl (hb hby d1_10) rfl) ?_
  show GG _ _ _ _ _ _ _ T12 (mkF m 11 #[.val (.int p0), .val (.ref bq1), .val (.int (12 : Int32)), .val (.int (11 : Int32)), .val (.ref w10)] [(.int (12 : Int32)), (.int (11 : Int32))])
  have hc11 : (11 : Int32) < (12 : Int32) := by decide
  refine own_go (fun _ => XS.icmpNo X12.here hx rfl (hb hby d1_11) rfl (tlt hc11).2.1) ?_
  show GG _ _ _ _ _ _ _ T12 (mkF m 14 #[.val (.int p0), .val (.ref bq1), .val (.int (12 : Int32)), .val (.int (11 : Int32)), .val (.ref w10)] [])
  refine own_go (fun _ => XS.aloadN X12.here hx rfl (hb hby d1_14) rfl rfl) ?_
  show GG _ _ _ _ _ _ _ T12 (mkF m 15 #[.val (.int p0), .val (.ref bq1), .val (.int (12 : Int32)), .val (.int (11 : Int32)), .val (.ref w10)] [(.ref bq1)])
  refine own_go (fun _ => XS.iloadN X12.here hx rfl (hb hby d1_15) rfl) ?_
  show GG _ _ _ _ _ _ _ T12 (mkF m 16 #[.val (.int p0), .val (.ref bq1), .val (.int (12 : Int32)), .val (.int (11 : Int32)), .val (.ref w10)] [(.int (11 : Int32)), (.ref bq1)])
  refine own_go (fun _ => own_aaload X12 hx hZ e12 Vq1 rfl (j := (11 : Int32)) (v := (.ref w11)) (by decide) rfl (g := (mkF m 16 #[.val (.int p0), .val (.ref bq1), .val (.int (12 : Int32)), .val (.int (11 : Int32)), .val (.ref w10)] [(.int (11 : Int32)), (.ref bq1)])) rfl rfl (hb hby d1_16) _) ?_
  show GG _ _ _ _ _ _ _ T12 (mkF m 17 #[.val (.int p0), .val (.ref bq1), .val (.int (12 : Int32)), .val (.int (11 : Int32)), .val (.ref w10)] [(.ref w11)])
  refine own_go (fun _ => XS.astore X12.here hx rfl (hb hby d1_17) rfl rfl (l' := #[.val (.int p0), .val (.ref bq1), .val (.int (12 : Int32)), .val (.int (11 : Int32)), .val (.ref w11)]) rfl) ?_
  show GG _ _ _ _ _ _ _ T12 (mkF m 19 #[.val (.int p0), .val (.ref bq1), .val (.int (12 : Int32)), .val (.int (11 : Int32)), .val (.ref w11)] [])
  refine own_go (fun _ => XS.aload X12.here hx rfl (hb hby d1_19) rfl rfl) ?_
  show GG _ _ _ _ _ _ _ T12 (mkF m 21 #[.val (.int p0), .val (.ref bq1), .val (.int (12 : Int32)), .val (.int (11 : Int32)), .val (.ref w11)] [(.ref w11)])
  obtain ⟨T13, X13, e13, st13⟩ := getF X12 hx hZ hown (host := "") (Or.inl (hw _ (List.mem_of_getElem? (i := 31) rfl))) Via.refl e12 F_11 (g := (mkF m 21 #[.val (.int p0), .val (.ref bq1), .val (.int (12 : Int32)), .val (.int (11 : Int32)), .val (.ref w11)] [(.ref w11)])) rfl rfl (hb hby d1_21)
  refine own_go (fun _ => st13 _) ?_
  show GG _ _ _ _ _ _ _ T13 (mkF m 24 #[.val (.int p0), .val (.ref bq1), .val (.int (12 : Int32)), .val (.int (11 : Int32)), .val (.ref w11)] [(.int (-11 : Int32))])
  refine own_go (fun _ => XS.iloadN X13.here hx rfl (hb hby d1_24) rfl) ?_
  show GG _ _ _ _ _ _ _ T13 (mkF m 25 #[.val (.int p0), .val (.ref bq1), .val (.int (12 : Int32)), .val (.int (11 : Int32)), .val (.ref w11)] [(.int p0), (.int (-11 : Int32))])
  have hc25 : ¬ ((-11 : Int32) = p0) := hp11
  refine own_go (fun _ => XS.icmpYes X13.here hx rfl (pc0 := 25) (pc' := 31) rfl (hb hby d1_25) rfl (feq hc25).2 (by decide) (by decide)) ?_
  show GG _ _ _ _ _ _ _ T13 (mkF m 31 #[.val (.int p0), .val (.ref bq1), .val (.int (12 : Int32)), .val (.int (11 : Int32)), .val (.ref w11)] [])
  refine own_go (fun _ => XS.iinc X13.here hx rfl (hb hby d1_31) rfl (l' := #[.val (.int p0), .val (.ref bq1), .val (.int (12 : Int32)), .val (.int (12 : Int32)), .val (.ref w11)]) rfl) ?_
  show GG _ _ _ _ _ _ _ T13 (mkF m 34 #[.val (.int p0), .val (.ref bq1), .val (.int (12 : Int32)), .val (.int (12 : Int32)), .val (.ref w11)] [])
  refine own_go (fun _ => XS.goto X13.here hx rfl (pc0 := 34) (pc' := 9) rfl (hb hby d1_34) (by decide) (by decide)) ?_
  show GG _ _ _ _ _ _ _ T13 (mkF m 9 #[.val (.int p0), .val (.ref bq1), .val (.int (12 : Int32)), .val (.int (12 : Int32)), .val (.ref w11)] [])
  refine own_go (fun _ => XS.iloadN X13.here hx rfl (hb hby d1_9) rfl) ?_
  show GG _ _ _ _ _ _ _ T13 (mkF m 10 #[.val (.int p0), .val (.ref bq1), .val (.int (12 : Int32)), .val (.int (12 : Int32)), .val (.ref w11)] [(.int (12 : Int32))])
  refine own_go (fun _ => XS.iloadN X13.here hx rfl (hb hby d1_10) rfl) ?_
  show GG _ _ _ _ _ _ _ T13 (mkF m 11 #[.val (.int p0), .val (.ref bq1), .val (.int (12 : Int32)), .val (.int (12 : Int32)), .val (.ref w11)] [(.int (12 : Int32)), (.int (12 : Int32))])
  have hc11 : ¬ ((12 : Int32) < (12 : Int32)) := by decide
  refine own_go (fun _ => XS.icmpYes X13.here hx rfl (pc0 := 11) (pc' := 37) rfl (hb hby d1_11) rfl (flt hc11).2.1 (by decide) (by decide)) ?_
  show GG _ _ _ _ _ _ _ T13 (mkF m 37 #[.val (.int p0), .val (.ref bq1), .val (.int (12 : Int32)), .val (.int (12 : Int32)), .val (.ref w11)] [])
  refine own_go (fun _ => XS.aconstNull X13.here hx rfl (hb hby d1_37)) ?_
  show GG _ _ _ _ _ _ _ T13 (mkF m 38 #[.val (.int p0), .val (.ref bq1), .val (.int (12 : Int32)), .val (.int (12 : Int32)), .val (.ref w11)] [.null])
  refine own_ret X13 hx hlk (t := (.object "com/example/bellwether/bellwether/protocol/OpCode")) (w := .null) Bd.returns rfl (Or.inr (Or.inr (Or.inr (Or.inr ⟨rfl, rfl, rfl⟩)))) (hb hby d1_38) (by decide) (by decide) ?_
  show Q1_12 Z p0 wV w0 w1 w2 w3 w4 w5 w6 w7 w8 w9 w10 w11 h0 n0 (some .null) T13.heap _
  rw [e13]
  exact ⟨rfl, N1, K0⟩
theorem d3_0 : decode method_3_code 0 = .ok (.iload_n 0, 1) := by decide +kernel
theorem d3_1 : decode method_3_code 1 = .ok (.iconst 1, 1) := by decide +kernel
theorem d3_2 : decode method_3_code 2 = .ok (.if_icmp .ne 7, 3) := by decide +kernel
theorem d3_5 : decode method_3_code 5 = .ok (.getstatic 22, 3) := by decide +kernel
theorem d3_8 : decode method_3_code 8 = .ok (.areturn, 1) := by decide +kernel
theorem pn_com_example_bellwether_bellwether_protocol_OpCodeOfPinLaw : plainName "com/example/bellwether/bellwether/protocol/OpCodeOfPinLaw" = true := by first | (simp [plainName, overriddenIn]; done) | decide +kernel
theorem ef_3 (m : MethodId) (x0 : Int32) : entryFrame m #[(.int x0)] 1 = mkF m 0 #[.val (.int x0)] [] := by first | (simp [entryFrame, mkF, argsToLocals, Value.category]; done) | rfl
def Q3_0 (Z : State) (p0 : Int32) (a1 : Addr) (h0 : Heap) (n0 : Nat) (v : Option Value) (h : Heap) (L : List Loc) : Prop := v = some (.ref a1) ∧ Fr n0 L ∧ h = h0
set_option maxRecDepth 65536 in
set_option maxHeartbeats 40000000 in
theorem rm3_0 (l : Launch) (Z : State) (a0 : Array Value) (hw : ∀ d ∈ tables_1, d.before a0 Z = true) (ws : List Jvm.Cond) (p0 : Int32) (a1 : Addr) (h0 : Heap) (n0 : Nat) (Z0 : n0 ≤ h0.size) (hp : p0 = (1 : Int32)) (S_1 : Sta Z h0 "com/example/bellwether/bellwether/protocol/OpCode" "CREATE" "Lcom/example/bellwether/bellwether/protocol/OpCode;" (.ref a1)) :
    own_CT l Z (⟨"com/example/bellwether/bellwether/protocol/OpCodeOfPinLaw", "expected", "(I)Lcom/example/bellwether/bellwether/protocol/OpCode;"⟩ : MethodName) method_3_code 1 (some (.object "com/example/bellwether/bellwether/protocol/OpCode")) ws ({ frames := 0, cells := 0, slots := 0, locals := 0 } : Room) #[(.int p0)] h0 (Q3_0 Z p0 a1 h0 n0) := by
  refine MetFree.of_bodySF (plainFor_of_name pn_com_example_bellwether_bellwether_protocol_OpCodeOfPinLaw) hisR ?_
  intro p e s m args below meth c s₁ Bd hml0 hP hK
  obtain ⟨rfl, hZ, hh⟩ := hP
  have hx := Bd.exec
  have hby := Bd.bytes
  have hml : c.maxLocals = 1 := hml0
  have hown : s.vm.findClass "com/example/bellwether/bellwether/protocol/OpCodeOfPinLaw" = some m.cls := findClass_of_methodNamed Bd.named
  have hnm := (name_of_methodNamed Bd.named Bd.method).1
  have hlk : meth.locks = false := BodyLoose.notSynchronized Bd
  have X0 : Stand p l e ({ frames := 0, cells := 0, slots := 0, locals := 0 } : Room) s m #[(.int p0)] below meth c s₁ [] 0 0 := Stand.of_body Bd
  have e0 : s₁.heap = h0 := by rw [← hh, Bd.state]; rfl
  have N0 := Fr.nil n0
  show GG p e below s ({ frames := 0, cells := 0, slots := 0, locals := 0 } : Room).cells ({ frames := 0, cells := 0, slots := 0, locals := 0 } : Room).slots (Q3_0 Z p0 a1 h0 n0) s₁ (entryFrame m #[(.int p0)] 1)
  refine own_in (ef_3 m p0) ?_
  show GG _ _ _ _ _ _ _ s₁ (mkF m 0 #[.val (.int p0)] [])
  refine own_go (fun _ => XS.iloadN X0.here hx rfl (hb hby d3_0) rfl) ?_
  show GG _ _ _ _ _ _ _ s₁ (mkF m 1 #[.val (.int p0)] [(.int p0)])
  refine own_go (fun _ => XS.iconst X0.here hx rfl (hb hby d3_1)) ?_
  show GG _ _ _ _ _ _ _ s₁ (mkF m 2 #[.val (.int p0)] [(.int (1 : Int32)), (.int p0)])
  have hc2 : p0 = (1 : Int32) := hp
  refine own_go (fun _ => XS.icmpNo X0.here hx rfl (hb hby d3_2) rfl (teq hc2).2) ?_
  show GG _ _ _ _ _ _ _ s₁ (mkF m 5 #[.val (.int p0)] [])
  obtain ⟨T1, X1, e1, st1⟩ := getS2 X0 hx hZ hown (host := "") (Or.inl (hw _ (List.mem_of_getElem? (i := 47) rfl))) Via.refl e0 S_1 (g := (mkF m 5 #[.val (.int p0)] [])) rfl (hb hby d3_5)
  refine own_go (fun _ => st1 _) ?_
  show GG _ _ _ _ _ _ _ T1 (mkF m 8 #[.val (.int p0)] [(.ref a1)])
  refine own_ret X1 hx hlk (t := (.object "com/example/bellwether/bellwether/protocol/OpCode")) (w := (.ref a1)) Bd.returns rfl (Or.inr (Or.inr (Or.inr (Or.inr ⟨rfl, rfl, rfl⟩)))) (hb hby d3_8) (by decide) (by decide) ?_
  show Q3_0 Z p0 a1 h0 n0 (some (.ref a1)) T1.heap _
  rw [e1]
  exact ⟨rfl, N0, rfl⟩
theorem d3_9 : decode method_3_code 9 = .ok (.iload_n 0, 1) := by decide +kernel
theorem d3_10 : decode method_3_code 10 = .ok (.iconst 2, 1) := by decide +kernel
theorem d3_11 : decode method_3_code 11 = .ok (.if_icmp .ne 7, 3) := by decide +kernel
theorem d3_14 : decode method_3_code 14 = .ok (.getstatic 26, 3) := by decide +kernel
theorem d3_17 : decode method_3_code 17 = .ok (.areturn, 1) := by decide +kernel
def Q3_1 (Z : State) (p0 : Int32) (a1 : Addr) (h0 : Heap) (n0 : Nat) (v : Option Value) (h : Heap) (L : List Loc) : Prop := v = some (.ref a1) ∧ Fr n0 L ∧ h = h0
set_option maxRecDepth 65536 in
set_option maxHeartbeats 40000000 in
theorem rm3_1 (l : Launch) (Z : State) (a0 : Array Value) (hw : ∀ d ∈ tables_1, d.before a0 Z = true) (ws : List Jvm.Cond) (p0 : Int32) (a1 : Addr) (h0 : Heap) (n0 : Nat) (Z0 : n0 ≤ h0.size) (hp : p0 = (2 : Int32)) (S_1 : Sta Z h0 "com/example/bellwether/bellwether/protocol/OpCode" "DELETE" "Lcom/example/bellwether/bellwether/protocol/OpCode;" (.ref a1)) :
    own_CT l Z (⟨"com/example/bellwether/bellwether/protocol/OpCodeOfPinLaw", "expected", "(I)Lcom/example/bellwether/bellwether/protocol/OpCode;"⟩ : MethodName) method_3_code 1 (some (.object "com/example/bellwether/bellwether/protocol/OpCode")) ws ({ frames := 0, cells := 0, slots := 0, locals := 0 } : Room) #[(.int p0)] h0 (Q3_1 Z p0 a1 h0 n0) := by
  refine MetFree.of_bodySF (plainFor_of_name pn_com_example_bellwether_bellwether_protocol_OpCodeOfPinLaw) hisR ?_
  intro p e s m args below meth c s₁ Bd hml0 hP hK
  obtain ⟨rfl, hZ, hh⟩ := hP
  have hx := Bd.exec
  have hby := Bd.bytes
  have hml : c.maxLocals = 1 := hml0
  have hown : s.vm.findClass "com/example/bellwether/bellwether/protocol/OpCodeOfPinLaw" = some m.cls := findClass_of_methodNamed Bd.named
  have hnm := (name_of_methodNamed Bd.named Bd.method).1
  have hlk : meth.locks = false := BodyLoose.notSynchronized Bd
  have X0 : Stand p l e ({ frames := 0, cells := 0, slots := 0, locals := 0 } : Room) s m #[(.int p0)] below meth c s₁ [] 0 0 := Stand.of_body Bd
  have e0 : s₁.heap = h0 := by rw [← hh, Bd.state]; rfl
  have N0 := Fr.nil n0
  show GG p e below s ({ frames := 0, cells := 0, slots := 0, locals := 0 } : Room).cells ({ frames := 0, cells := 0, slots := 0, locals := 0 } : Room).slots (Q3_1 Z p0 a1 h0 n0) s₁ (entryFrame m #[(.int p0)] 1)
  refine own_in (ef_3 m p0) ?_
  show GG _ _ _ _ _ _ _ s₁ (mkF m 0 #[.val (.int p0)] [])
  refine own_go (fun _ => XS.iloadN X0.here hx rfl (hb hby d3_0) rfl) ?_
  show GG _ _ _ _ _ _ _ s₁ (mkF m 1 #[.val (.int p0)] [(.int p0)])
  refine own_go (fun _ => XS.iconst X0.here hx rfl (hb hby d3_1)) ?_
  show GG _ _ _ _ _ _ _ s₁ (mkF m 2 #[.val (.int p0)] [(.int (1 : Int32)), (.int p0)])
  have hc2 : ¬ (p0 = (1 : Int32)) := by rw [hp]; decide
  refine own_go (fun _ => XS.icmpYes X0.here hx rfl (pc0 := 2) (pc' := 9) rfl (hb hby d3_2) rfl (feq hc2).2 (by decide) (by decide)) ?_
  show GG _ _ _ _ _ _ _ s₁ (mkF m 9 #[.val (.int p0)] [])
  refine own_go (fun _ => XS.iloadN X0.here hx rfl (hb hby d3_9) rfl) ?_
  show GG _ _ _ _ _ _ _ s₁ (mkF m 10 #[.val (.int p0)] [(.int p0)])
  refine own_go (fun _ => XS.iconst X0.here hx rfl (hb hby d3_10)) ?_
  show GG _ _ _ _ _ _ _ s₁ (mkF m 11 #[.val (.int p0)] [(.int (2 : Int32)), (.int p0)])
  have hc11 : p0 = (2 : Int32) := hp
  refine own_go (fun _ => XS.icmpNo X0.here hx rfl (hb hby d3_11) rfl (teq hc11).2) ?_
  show GG _ _ _ _ _ _ _ s₁ (mkF m 14 #[.val (.int p0)] [])
  obtain ⟨T1, X1, e1, st1⟩ := getS2 X0 hx hZ hown (host := "") (Or.inl (hw _ (List.mem_of_getElem? (i := 49) rfl))) Via.refl e0 S_1 (g := (mkF m 14 #[.val (.int p0)] [])) rfl (hb hby d3_14)
  refine own_go (fun _ => st1 _) ?_
  show GG _ _ _ _ _ _ _ T1 (mkF m 17 #[.val (.int p0)] [(.ref a1)])
  refine own_ret X1 hx hlk (t := (.object "com/example/bellwether/bellwether/protocol/OpCode")) (w := (.ref a1)) Bd.returns rfl (Or.inr (Or.inr (Or.inr (Or.inr ⟨rfl, rfl, rfl⟩)))) (hb hby d3_17) (by decide) (by decide) ?_
  show Q3_1 Z p0 a1 h0 n0 (some (.ref a1)) T1.heap _
  rw [e1]
  exact ⟨rfl, N0, rfl⟩
theorem d3_18 : decode method_3_code 18 = .ok (.iload_n 0, 1) := by decide +kernel
theorem d3_19 : decode method_3_code 19 = .ok (.iconst 3, 1) := by decide +kernel
theorem d3_20 : decode method_3_code 20 = .ok (.if_icmp .ne 7, 3) := by decide +kernel
theorem d3_23 : decode method_3_code 23 = .ok (.getstatic 29, 3) := by decide +kernel
theorem d3_26 : decode method_3_code 26 = .ok (.areturn, 1) := by decide +kernel
def Q3_2 (Z : State) (p0 : Int32) (a1 : Addr) (h0 : Heap) (n0 : Nat) (v : Option Value) (h : Heap) (L : List Loc) : Prop := v = some (.ref a1) ∧ Fr n0 L ∧ h = h0
set_option maxRecDepth 65536 in
set_option maxHeartbeats 40000000 in
theorem rm3_2 (l : Launch) (Z : State) (a0 : Array Value) (hw : ∀ d ∈ tables_1, d.before a0 Z = true) (ws : List Jvm.Cond) (p0 : Int32) (a1 : Addr) (h0 : Heap) (n0 : Nat) (Z0 : n0 ≤ h0.size) (hp : p0 = (3 : Int32)) (S_1 : Sta Z h0 "com/example/bellwether/bellwether/protocol/OpCode" "EXISTS" "Lcom/example/bellwether/bellwether/protocol/OpCode;" (.ref a1)) :
    own_CT l Z (⟨"com/example/bellwether/bellwether/protocol/OpCodeOfPinLaw", "expected", "(I)Lcom/example/bellwether/bellwether/protocol/OpCode;"⟩ : MethodName) method_3_code 1 (some (.object "com/example/bellwether/bellwether/protocol/OpCode")) ws ({ frames := 0, cells := 0, slots := 0, locals := 0 } : Room) #[(.int p0)] h0 (Q3_2 Z p0 a1 h0 n0) := by
  refine MetFree.of_bodySF (plainFor_of_name pn_com_example_bellwether_bellwether_protocol_OpCodeOfPinLaw) hisR ?_
  intro p e s m args below meth c s₁ Bd hml0 hP hK
  obtain ⟨rfl, hZ, hh⟩ := hP
  have hx := Bd.exec
  have hby := Bd.bytes
  have hml : c.maxLocals = 1 := hml0
  have hown : s.vm.findClass "com/example/bellwether/bellwether/protocol/OpCodeOfPinLaw" = some m.cls := findClass_of_methodNamed Bd.named
  have hnm := (name_of_methodNamed Bd.named Bd.method).1
  have hlk : meth.locks = false := BodyLoose.notSynchronized Bd
  have X0 : Stand p l e ({ frames := 0, cells := 0, slots := 0, locals := 0 } : Room) s m #[(.int p0)] below meth c s₁ [] 0 0 := Stand.of_body Bd
  have e0 : s₁.heap = h0 := by rw [← hh, Bd.state]; rfl
  have N0 := Fr.nil n0
  show GG p e below s ({ frames := 0, cells := 0, slots := 0, locals := 0 } : Room).cells ({ frames := 0, cells := 0, slots := 0, locals := 0 } : Room).slots (Q3_2 Z p0 a1 h0 n0) s₁ (entryFrame m #[(.int p0)] 1)
  refine own_in (ef_3 m p0) ?_
  show GG _ _ _ _ _ _ _ s₁ (mkF m 0 #[.val (.int p0)] [])
  refine own_go (fun _ => XS.iloadN X0.here hx rfl (hb hby d3_0) rfl) ?_
  show GG _ _ _ _ _ _ _ s₁ (mkF m 1 #[.val (.int p0)] [(.int p0)])
  refine own_go (fun _ => XS.iconst X0.here hx rfl (hb hby d3_1)) ?_
  show GG _ _ _ _ _ _ _ s₁ (mkF m 2 #[.val (.int p0)] [(.int (1 : Int32)), (.int p0)])
  have hc2 : ¬ (p0 = (1 : Int32)) := by rw [hp]; decide
  refine own_go (fun _ => XS.icmpYes X0.here hx rfl (pc0 := 2) (pc' := 9) rfl (hb hby d3_2) rfl (feq hc2).2 (by decide) (by decide)) ?_
  show GG _ _ _ _ _ _ _ s₁ (mkF m 9 #[.val (.int p0)] [])
  refine own_go (fun _ => XS.iloadN X0.here hx rfl (hb hby d3_9) rfl) ?_
  show GG _ _ _ _ _ _ _ s₁ (mkF m 10 #[.val (.int p0)] [(.int p0)])
  refine own_go (fun _ => XS.iconst X0.here hx rfl (hb hby d3_10)) ?_
  show GG _ _ _ _ _ _ _ s₁ (mkF m 11 #[.val (.int p0)] [(.int (2 : Int32)), (.int p0)])
  have hc11 : ¬ (p0 = (2 : Int32)) := by rw [hp]; decide
  refine own_go (fun _ => XS.icmpYes X0.here hx rfl (pc0 := 11) (pc' := 18) rfl (hb hby d3_11) rfl (feq hc11).2 (by decide) (by decide)) ?_
  show GG _ _ _ _ _ _ _ s₁ (mkF m 18 #[.val (.int p0)] [])
  refine own_go (fun _ => XS.iloadN X0.here hx rfl (hb hby d3_18) rfl) ?_
  show GG _ _ _ _ _ _ _ s₁ (mkF m 19 #[.val (.int p0)] [(.int p0)])
  refine own_go (fun _ => XS.iconst X0.here hx rfl (hb hby d3_19)) ?_
  show GG _ _ _ _ _ _ _ s₁ (mkF m 20 #[.val (.int p0)] [(.int (3 : Int32)), (.int p0)])
  have hc20 : p0 = (3 : Int32) := hp
  refine own_go (fun _ => XS.icmpNo X0.here hx rfl (hb hby d3_20) rfl (teq hc20).2) ?_
  show GG _ _ _ _ _ _ _ s₁ (mkF m 23 #[.val (.int p0)] [])
  obtain ⟨T1, X1, e1, st1⟩ := getS2 X0 hx hZ hown (host := "") (Or.inl (hw _ (List.mem_of_getElem? (i := 45) rfl))) Via.refl e0 S_1 (g := (mkF m 23 #[.val (.int p0)] [])) rfl (hb hby d3_23)
  refine own_go (fun _ => st1 _) ?_
  show GG _ _ _ _ _ _ _ T1 (mkF m 26 #[.val (.int p0)] [(.ref a1)])
  refine own_ret X1 hx hlk (t := (.object "com/example/bellwether/bellwether/protocol/OpCode")) (w := (.ref a1)) Bd.returns rfl (Or.inr (Or.inr (Or.inr (Or.inr ⟨rfl, rfl, rfl⟩)))) (hb hby d3_26) (by decide) (by decide) ?_
  show Q3_2 Z p0 a1 h0 n0 (some (.ref a1)) T1.heap _
  rw [e1]
  exact ⟨rfl, N0, rfl⟩
theorem d3_27 : decode method_3_code 27 = .ok (.iload_n 0, 1) := by decide +kernel
theorem d3_28 : decode method_3_code 28 = .ok (.iconst 4, 1) := by decide +kernel
theorem d3_29 : decode method_3_code 29 = .ok (.if_icmp .ne 7, 3) := by decide +kernel
theorem d3_32 : decode method_3_code 32 = .ok (.getstatic 32, 3) := by decide +kernel
theorem d3_35 : decode method_3_code 35 = .ok (.areturn, 1) := by decide +kernel
def Q3_3 (Z : State) (p0 : Int32) (a1 : Addr) (h0 : Heap) (n0 : Nat) (v : Option Value) (h : Heap) (L : List Loc) : Prop := v = some (.ref a1) ∧ Fr n0 L ∧ h = h0
set_option maxRecDepth 65536 in
set_option maxHeartbeats 40000000 in
theorem rm3_3 (l : Launch) (Z : State) (a0 : Array Value) (hw : ∀ d ∈ tables_1, d.before a0 Z = true) (ws : List Jvm.Cond) (p0 : Int32) (a1 : Addr) (h0 : Heap) (n0 : Nat) (Z0 : n0 ≤ h0.size) (hp : p0 = (4 : Int32)) (S_1 : Sta Z h0 "com/example/bellwether/bellwether/protocol/OpCode" "GET_DATA" "Lcom/example/bellwether/bellwether/protocol/OpCode;" (.ref a1)) :
    own_CT l Z (⟨"com/example/bellwether/bellwether/protocol/OpCodeOfPinLaw", "expected", "(I)Lcom/example/bellwether/bellwether/protocol/OpCode;"⟩ : MethodName) method_3_code 1 (some (.object "com/example/bellwether/bellwether/protocol/OpCode")) ws ({ frames := 0, cells := 0, slots := 0, locals := 0 } : Room) #[(.int p0)] h0 (Q3_3 Z p0 a1 h0 n0) := by
  refine MetFree.of_bodySF (plainFor_of_name pn_com_example_bellwether_bellwether_protocol_OpCodeOfPinLaw) hisR ?_
  intro p e s m args below meth c s₁ Bd hml0 hP hK
  obtain ⟨rfl, hZ, hh⟩ := hP
  have hx := Bd.exec
  have hby := Bd.bytes
  have hml : c.maxLocals = 1 := hml0
  have hown : s.vm.findClass "com/example/bellwether/bellwether/protocol/OpCodeOfPinLaw" = some m.cls := findClass_of_methodNamed Bd.named
  have hnm := (name_of_methodNamed Bd.named Bd.method).1
  have hlk : meth.locks = false := BodyLoose.notSynchronized Bd
  have X0 : Stand p l e ({ frames := 0, cells := 0, slots := 0, locals := 0 } : Room) s m #[(.int p0)] below meth c s₁ [] 0 0 := Stand.of_body Bd
  have e0 : s₁.heap = h0 := by rw [← hh, Bd.state]; rfl
  have N0 := Fr.nil n0
  show GG p e below s ({ frames := 0, cells := 0, slots := 0, locals := 0 } : Room).cells ({ frames := 0, cells := 0, slots := 0, locals := 0 } : Room).slots (Q3_3 Z p0 a1 h0 n0) s₁ (entryFrame m #[(.int p0)] 1)
  refine own_in (ef_3 m p0) ?_
  show GG _ _ _ _ _ _ _ s₁ (mkF m 0 #[.val (.int p0)] [])
  refine own_go (fun _ => XS.iloadN X0.here hx rfl (hb hby d3_0) rfl) ?_
  show GG _ _ _ _ _ _ _ s₁ (mkF m 1 #[.val (.int p0)] [(.int p0)])
  refine own_go (fun _ => XS.iconst X0.here hx rfl (hb hby d3_1)) ?_
  show GG _ _ _ _ _ _ _ s₁ (mkF m 2 #[.val (.int p0)] [(.int (1 : Int32)), (.int p0)])
  have hc2 : ¬ (p0 = (1 : Int32)) := by rw [hp]; decide
  refine own_go (fun _ => XS.icmpYes X0.here hx rfl (pc0 := 2) (pc' := 9) rfl (hb hby d3_2) rfl (feq hc2).2 (by decide) (by decide)) ?_
  show GG _ _ _ _ _ _ _ s₁ (mkF m 9 #[.val (.int p0)] [])
  refine own_go (fun _ => XS.iloadN X0.here hx rfl (hb hby d3_9) rfl) ?_
  show GG _ _ _ _ _ _ _ s₁ (mkF m 10 #[.val (.int p0)] [(.int p0)])
  refine own_go (fun _ => XS.iconst X0.here hx rfl (hb hby d3_10)) ?_
  show GG _ _ _ _ _ _ _ s₁ (mkF m 11 #[.val (.int p0)] [(.int (2 : Int32)), (.int p0)])
  have hc11 : ¬ (p0 = (2 : Int32)) := by rw [hp]; decide
  refine own_go (fun _ => XS.icmpYes X0.here hx rfl (pc0 := 11) (pc' := 18) rfl (hb hby d3_11) rfl (feq hc11).2 (by decide) (by decide)) ?_
  show GG _ _ _ _ _ _ _ s₁ (mkF m 18 #[.val (.int p0)] [])
  refine own_go (fun _ => XS.iloadN X0.here hx rfl (hb hby d3_18) rfl) ?_
  show GG _ _ _ _ _ _ _ s₁ (mkF m 19 #[.val (.int p0)] [(.int p0)])
  refine own_go (fun _ => XS.iconst X0.here hx rfl (hb hby d3_19)) ?_
  show GG _ _ _ _ _ _ _ s₁ (mkF m 20 #[.val (.int p0)] [(.int (3 : Int32)), (.int p0)])
  have hc20 : ¬ (p0 = (3 : Int32)) := by rw [hp]; decide
  refine own_go (fun _ => XS.icmpYes X0.here hx rfl (pc0 := 20) (pc' := 27) rfl (hb hby d3_20) rfl (feq hc20).2 (by decide) (by decide)) ?_
  show GG _ _ _ _ _ _ _ s₁ (mkF m 27 #[.val (.int p0)] [])
  refine own_go (fun _ => XS.iloadN X0.here hx rfl (hb hby d3_27) rfl) ?_
  show GG _ _ _ _ _ _ _ s₁ (mkF m 28 #[.val (.int p0)] [(.int p0)])
  refine own_go (fun _ => XS.iconst X0.here hx rfl (hb hby d3_28)) ?_
  show GG _ _ _ _ _ _ _ s₁ (mkF m 29 #[.val (.int p0)] [(.int (4 : Int32)), (.int p0)])
  have hc29 : p0 = (4 : Int32) := hp
  refine own_go (fun _ => XS.icmpNo X0.here hx rfl (hb hby d3_29) rfl (teq hc29).2) ?_
  show GG _ _ _ _ _ _ _ s₁ (mkF m 32 #[.val (.int p0)] [])
  obtain ⟨T1, X1, e1, st1⟩ := getS2 X0 hx hZ hown (host := "") (Or.inl (hw _ (List.mem_of_getElem? (i := 51) rfl))) Via.refl e0 S_1 (g := (mkF m 32 #[.val (.int p0)] [])) rfl (hb hby d3_32)
  refine own_go (fun _ => st1 _) ?_
  show GG _ _ _ _ _ _ _ T1 (mkF m 35 #[.val (.int p0)] [(.ref a1)])
  refine own_ret X1 hx hlk (t := (.object "com/example/bellwether/bellwether/protocol/OpCode")) (w := (.ref a1)) Bd.returns rfl (Or.inr (Or.inr (Or.inr (Or.inr ⟨rfl, rfl, rfl⟩)))) (hb hby d3_35) (by decide) (by decide) ?_
  show Q3_3 Z p0 a1 h0 n0 (some (.ref a1)) T1.heap _
  rw [e1]
  exact ⟨rfl, N0, rfl⟩
theorem d3_36 : decode method_3_code 36 = .ok (.iload_n 0, 1) := by decide +kernel
theorem d3_37 : decode method_3_code 37 = .ok (.iconst 5, 1) := by decide +kernel
theorem d3_38 : decode method_3_code 38 = .ok (.if_icmp .ne 7, 3) := by decide +kernel
theorem d3_41 : decode method_3_code 41 = .ok (.getstatic 35, 3) := by decide +kernel
theorem d3_44 : decode method_3_code 44 = .ok (.areturn, 1) := by decide +kernel
def Q3_4 (Z : State) (p0 : Int32) (a1 : Addr) (h0 : Heap) (n0 : Nat) (v : Option Value) (h : Heap) (L : List Loc) : Prop := v = some (.ref a1) ∧ Fr n0 L ∧ h = h0
set_option maxRecDepth 65536 in
set_option maxHeartbeats 40000000 in
theorem rm3_4 (l : Launch) (Z : State) (a0 : Array Value) (hw : ∀ d ∈ tables_1, d.before a0 Z = true) (ws : List Jvm.Cond) (p0 : Int32) (a1 : Addr) (h0 : Heap) (n0 : Nat) (Z0 : n0 ≤ h0.size) (hp : p0 = (5 : Int32)) (S_1 : Sta Z h0 "com/example/bellwether/bellwether/protocol/OpCode" "SET_DATA" "Lcom/example/bellwether/bellwether/protocol/OpCode;" (.ref a1)) :
    own_CT l Z (⟨"com/example/bellwether/bellwether/protocol/OpCodeOfPinLaw", "expected", "(I)Lcom/example/bellwether/bellwether/protocol/OpCode;"⟩ : MethodName) method_3_code 1 (some (.object "com/example/bellwether/bellwether/protocol/OpCode")) ws ({ frames := 0, cells := 0, slots := 0, locals := 0 } : Room) #[(.int p0)] h0 (Q3_4 Z p0 a1 h0 n0) := by
  refine MetFree.of_bodySF (plainFor_of_name pn_com_example_bellwether_bellwether_protocol_OpCodeOfPinLaw) hisR ?_
  intro p e s m args below meth c s₁ Bd hml0 hP hK
  obtain ⟨rfl, hZ, hh⟩ := hP
  have hx := Bd.exec
  have hby := Bd.bytes
  have hml : c.maxLocals = 1 := hml0
  have hown : s.vm.findClass "com/example/bellwether/bellwether/protocol/OpCodeOfPinLaw" = some m.cls := findClass_of_methodNamed Bd.named
  have hnm := (name_of_methodNamed Bd.named Bd.method).1
  have hlk : meth.locks = false := BodyLoose.notSynchronized Bd
  have X0 : Stand p l e ({ frames := 0, cells := 0, slots := 0, locals := 0 } : Room) s m #[(.int p0)] below meth c s₁ [] 0 0 := Stand.of_body Bd
  have e0 : s₁.heap = h0 := by rw [← hh, Bd.state]; rfl
  have N0 := Fr.nil n0
  show GG p e below s ({ frames := 0, cells := 0, slots := 0, locals := 0 } : Room).cells ({ frames := 0, cells := 0, slots := 0, locals := 0 } : Room).slots (Q3_4 Z p0 a1 h0 n0) s₁ (entryFrame m #[(.int p0)] 1)
  refine own_in (ef_3 m p0) ?_
  show GG _ _ _ _ _ _ _ s₁ (mkF m 0 #[.val (.int p0)] [])
  refine own_go (fun _ => XS.iloadN X0.here hx rfl (hb hby d3_0) rfl) ?_
  show GG _ _ _ _ _ _ _ s₁ (mkF m 1 #[.val (.int p0)] [(.int p0)])
  refine own_go (fun _ => XS.iconst X0.here hx rfl (hb hby d3_1)) ?_
  show GG _ _ _ _ _ _ _ s₁ (mkF m 2 #[.val (.int p0)] [(.int (1 : Int32)), (.int p0)])
  have hc2 : ¬ (p0 = (1 : Int32)) := by rw [hp]; decide
  refine own_go (fun _ => XS.icmpYes X0.here hx rfl (pc0 := 2) (pc' := 9) rfl (hb hby d3_2) rfl (feq hc2).2 (by decide) (by decide)) ?_
  show GG _ _ _ _ _ _ _ s₁ (mkF m 9 #[.val (.int p0)] [])
  refine own_go (fun _ => XS.iloadN X0.here hx rfl (hb hby d3_9) rfl) ?_
  show GG _ _ _ _ _ _ _ s₁ (mkF m 10 #[.val (.int p0)] [(.int p0)])
  refine own_go (fun _ => XS.iconst X0.here hx rfl (hb hby d3_10)) ?_
  show GG _ _ _ _ _ _ _ s₁ (mkF m 11 #[.val (.int p0)] [(.int (2 : Int32)), (.int p0)])
  have hc11 : ¬ (p0 = (2 : Int32)) := by rw [hp]; decide
  refine own_go (fun _ => XS.icmpYes X0.here hx rfl (pc0 := 11) (pc' := 18) rfl (hb hby d3_11) rfl (feq hc11).2 (by decide) (by decide)) ?_
  show GG _ _ _ _ _ _ _ s₁ (mkF m 18 #[.val (.int p0)] [])
  refine own_go (fun _ => XS.iloadN X0.here hx rfl (hb hby d3_18) rfl) ?_
  show GG _ _ _ _ _ _ _ s₁ (mkF m 19 #[.val (.int p0)] [(.int p0)])
  refine own_go (fun _ => XS.iconst X0.here hx rfl (hb hby d3_19)) ?_
  show GG _ _ _ _ _ _ _ s₁ (mkF m 20 #[.val (.int p0)] [(.int (3 : Int32)), (.int p0)])
  have hc20 : ¬ (p0 = (3 : Int32)) := by rw [hp]; decide
  refine own_go (fun _ => XS.icmpYes X0.here hx rfl (pc0 := 20) (pc' := 27) rfl (hb hby d3_20) rfl (feq hc20).2 (by decide) (by decide)) ?_
  show GG _ _ _ _ _ _ _ s₁ (mkF m 27 #[.val (.int p0)] [])
  refine own_go (fun _ => XS.iloadN X0.here hx rfl (hb hby d3_27) rfl) ?_
  show GG _ _ _ _ _ _ _ s₁ (mkF m 28 #[.val (.int p0)] [(.int p0)])
  refine own_go (fun _ => XS.iconst X0.here hx rfl (hb hby d3_28)) ?_
  show GG _ _ _ _ _ _ _ s₁ (mkF m 29 #[.val (.int p0)] [(.int (4 : Int32)), (.int p0)])
  have hc29 : ¬ (p0 = (4 : Int32)) := by rw [hp]; decide
  refine own_go (fun _ => XS.icmpYes X0.here hx rfl (pc0 := 29) (pc' := 36) rfl (hb hby d3_29) rfl (feq hc29).2 (by decide) (by decide)) ?_
  show GG _ _ _ _ _ _ _ s₁ (mkF m 36 #[.val (.int p0)] [])
  refine own_go (fun _ => XS.iloadN X0.here hx rfl (hb hby d3_36) rfl) ?_
  show GG _ _ _ _ _ _ _ s₁ (mkF m 37 #[.val (.int p0)] [(.int p0)])
  refine own_go (fun _ => XS.iconst X0.here hx rfl (hb hby d3_37)) ?_
  show GG _ _ _ _ _ _ _ s₁ (mkF m 38 #[.val (.int p0)] [(.int (5 : Int32)), (.int p0)])
  have hc38 : p0 = (5 : Int32) := hp
  refine own_go (fun _ => XS.icmpNo X0.here hx rfl (hb hby d3_38) rfl (teq hc38).2) ?_
  show GG _ _ _ _ _ _ _ s₁ (mkF m 41 #[.val (.int p0)] [])
  obtain ⟨T1, X1, e1, st1⟩ := getS2 X0 hx hZ hown (host := "") (Or.inl (hw _ (List.mem_of_getElem? (i := 46) rfl))) Via.refl e0 S_1 (g := (mkF m 41 #[.val (.int p0)] [])) rfl (hb hby d3_41)
  refine own_go (fun _ => st1 _) ?_
  show GG _ _ _ _ _ _ _ T1 (mkF m 44 #[.val (.int p0)] [(.ref a1)])
  refine own_ret X1 hx hlk (t := (.object "com/example/bellwether/bellwether/protocol/OpCode")) (w := (.ref a1)) Bd.returns rfl (Or.inr (Or.inr (Or.inr (Or.inr ⟨rfl, rfl, rfl⟩)))) (hb hby d3_44) (by decide) (by decide) ?_
  show Q3_4 Z p0 a1 h0 n0 (some (.ref a1)) T1.heap _
  rw [e1]
  exact ⟨rfl, N0, rfl⟩
theorem d3_45 : decode method_3_code 45 = .ok (.iload_n 0, 1) := by decide +kernel
theorem d3_46 : decode method_3_code 46 = .ok (.bipush 8, 2) := by decide +kernel
theorem d3_48 : decode method_3_code 48 = .ok (.if_icmp .ne 7, 3) := by decide +kernel
theorem d3_51 : decode method_3_code 51 = .ok (.getstatic 38, 3) := by decide +kernel
theorem d3_54 : decode method_3_code 54 = .ok (.areturn, 1) := by decide +kernel
def Q3_5 (Z : State) (p0 : Int32) (a1 : Addr) (h0 : Heap) (n0 : Nat) (v : Option Value) (h : Heap) (L : List Loc) : Prop := v = some (.ref a1) ∧ Fr n0 L ∧ h = h0
set_option maxRecDepth 65536 in
set_option maxHeartbeats 40000000 in
theorem rm3_5 (l : Launch) (Z : State) (a0 : Array Value) (hw : ∀ d ∈ tables_1, d.before a0 Z = true) (ws : List Jvm.Cond) (p0 : Int32) (a1 : Addr) (h0 : Heap) (n0 : Nat) (Z0 : n0 ≤ h0.size) (hp : p0 = (8 : Int32)) (S_1 : Sta Z h0 "com/example/bellwether/bellwether/protocol/OpCode" "GET_CHILDREN" "Lcom/example/bellwether/bellwether/protocol/OpCode;" (.ref a1)) :
    own_CT l Z (⟨"com/example/bellwether/bellwether/protocol/OpCodeOfPinLaw", "expected", "(I)Lcom/example/bellwether/bellwether/protocol/OpCode;"⟩ : MethodName) method_3_code 1 (some (.object "com/example/bellwether/bellwether/protocol/OpCode")) ws ({ frames := 0, cells := 0, slots := 0, locals := 0 } : Room) #[(.int p0)] h0 (Q3_5 Z p0 a1 h0 n0) := by
  refine MetFree.of_bodySF (plainFor_of_name pn_com_example_bellwether_bellwether_protocol_OpCodeOfPinLaw) hisR ?_
  intro p e s m args below meth c s₁ Bd hml0 hP hK
  obtain ⟨rfl, hZ, hh⟩ := hP
  have hx := Bd.exec
  have hby := Bd.bytes
  have hml : c.maxLocals = 1 := hml0
  have hown : s.vm.findClass "com/example/bellwether/bellwether/protocol/OpCodeOfPinLaw" = some m.cls := findClass_of_methodNamed Bd.named
  have hnm := (name_of_methodNamed Bd.named Bd.method).1
  have hlk : meth.locks = false := BodyLoose.notSynchronized Bd
  have X0 : Stand p l e ({ frames := 0, cells := 0, slots := 0, locals := 0 } : Room) s m #[(.int p0)] below meth c s₁ [] 0 0 := Stand.of_body Bd
  have e0 : s₁.heap = h0 := by rw [← hh, Bd.state]; rfl
  have N0 := Fr.nil n0
  show GG p e below s ({ frames := 0, cells := 0, slots := 0, locals := 0 } : Room).cells ({ frames := 0, cells := 0, slots := 0, locals := 0 } : Room).slots (Q3_5 Z p0 a1 h0 n0) s₁ (entryFrame m #[(.int p0)] 1)
  refine own_in (ef_3 m p0) ?_
  show GG _ _ _ _ _ _ _ s₁ (mkF m 0 #[.val (.int p0)] [])
  refine own_go (fun _ => XS.iloadN X0.here hx rfl (hb hby d3_0) rfl) ?_
  show GG _ _ _ _ _ _ _ s₁ (mkF m 1 #[.val (.int p0)] [(.int p0)])
  refine own_go (fun _ => XS.iconst X0.here hx rfl (hb hby d3_1)) ?_
  show GG _ _ _ _ _ _ _ s₁ (mkF m 2 #[.val (.int p0)] [(.int (1 : Int32)), (.int p0)])
  have hc2 : ¬ (p0 = (1 : Int32)) := by rw [hp]; decide
  refine own_go (fun _ => XS.icmpYes X0.here hx rfl (pc0 := 2) (pc' := 9) rfl (hb hby d3_2) rfl (feq hc2).2 (by decide) (by decide)) ?_
  show GG _ _ _ _ _ _ _ s₁ (mkF m 9 #[.val (.int p0)] [])
  refine own_go (fun _ => XS.iloadN X0.here hx rfl (hb hby d3_9) rfl) ?_
  show GG _ _ _ _ _ _ _ s₁ (mkF m 10 #[.val (.int p0)] [(.int p0)])
  refine own_go (fun _ => XS.iconst X0.here hx rfl (hb hby d3_10)) ?_
  show GG _ _ _ _ _ _ _ s₁ (mkF m 11 #[.val (.int p0)] [(.int (2 : Int32)), (.int p0)])
  have hc11 : ¬ (p0 = (2 : Int32)) := by rw [hp]; decide
  refine own_go (fun _ => XS.icmpYes X0.here hx rfl (pc0 := 11) (pc' := 18) rfl (hb hby d3_11) rfl (feq hc11).2 (by decide) (by decide)) ?_
  show GG _ _ _ _ _ _ _ s₁ (mkF m 18 #[.val (.int p0)] [])
  refine own_go (fun _ => XS.iloadN X0.here hx rfl (hb hby d3_18) rfl) ?_
  show GG _ _ _ _ _ _ _ s₁ (mkF m 19 #[.val (.int p0)] [(.int p0)])
  refine own_go (fun _ => XS.iconst X0.here hx rfl (hb hby d3_19)) ?_
  show GG _ _ _ _ _ _ _ s₁ (mkF m 20 #[.val (.int p0)] [(.int (3 : Int32)), (.int p0)])
  have hc20 : ¬ (p0 = (3 : Int32)) := by rw [hp]; decide
  refine own_go (fun _ => XS.icmpYes X0.here hx rfl (pc0 := 20) (pc' := 27) rfl (hb hby d3_20) rfl (feq hc20).2 (by decide) (by decide)) ?_
  show GG _ _ _ _ _ _ _ s₁ (mkF m 27 #[.val (.int p0)] [])
  refine own_go (fun _ => XS.iloadN X0.here hx rfl (hb hby d3_27) rfl) ?_
  show GG _ _ _ _ _ _ _ s₁ (mkF m 28 #[.val (.int p0)] [(.int p0)])
  refine own_go (fun _ => XS.iconst X0.here hx rfl (hb hby d3_28)) ?_
  show GG _ _ _ _ _ _ _ s₁ (mkF m 29 #[.val (.int p0)] [(.int (4 : Int32)), (.int p0)])
  have hc29 : ¬ (p0 = (4 : Int32)) := by rw [hp]; decide
  refine own_go (fun _ => XS.icmpYes X0.here hx rfl (pc0 := 29) (pc' := 36) rfl (hb hby d3_29) rfl (feq hc29).2 (by decide) (by decide)) ?_
  show GG _ _ _ _ _ _ _ s₁ (mkF m 36 #[.val (.int p0)] [])
  refine own_go (fun _ => XS.iloadN X0.here hx rfl (hb hby d3_36) rfl) ?_
  show GG _ _ _ _ _ _ _ s₁ (mkF m 37 #[.val (.int p0)] [(.int p0)])
  refine own_go (fun _ => XS.iconst X0.here hx rfl (hb hby d3_37)) ?_
  show GG _ _ _ _ _ _ _ s₁ (mkF m 38 #[.val (.int p0)] [(.int (5 : Int32)), (.int p0)])
  have hc38 : ¬ (p0 = (5 : Int32)) := by rw [hp]; decide
  refine own_go (fun _ => XS.icmpYes X0.here hx rfl (pc0 := 38) (pc' := 45) rfl (hb hby d3_38) rfl (feq hc38).2 (by decide) (by decide)) ?_
  show GG _ _ _ _ _ _ _ s₁ (mkF m 45 #[.val (.int p0)] [])
  refine own_go (fun _ => XS.iloadN X0.here hx rfl (hb hby d3_45) rfl) ?_
  show GG _ _ _ _ _ _ _ s₁ (mkF m 46 #[.val (.int p0)] [(.int p0)])
  refine own_go (fun _ => XS.bipush X0.here hx rfl (hb hby d3_46)) ?_
  show GG _ _ _ _ _ _ _ s₁ (mkF m 48 #[.val (.int p0)] [(.int (8 : Int32)), (.int p0)])
  have hc48 : p0 = (8 : Int32) := hp
  refine own_go (fun _ => XS.icmpNo X0.here hx rfl (hb hby d3_48) rfl (teq hc48).2) ?_
  show GG _ _ _ _ _ _ _ s₁ (mkF m 51 #[.val (.int p0)] [])
  obtain ⟨T1, X1, e1, st1⟩ := getS2 X0 hx hZ hown (host := "") (Or.inl (hw _ (List.mem_of_getElem? (i := 43) rfl))) Via.refl e0 S_1 (g := (mkF m 51 #[.val (.int p0)] [])) rfl (hb hby d3_51)
  refine own_go (fun _ => st1 _) ?_
  show GG _ _ _ _ _ _ _ T1 (mkF m 54 #[.val (.int p0)] [(.ref a1)])
  refine own_ret X1 hx hlk (t := (.object "com/example/bellwether/bellwether/protocol/OpCode")) (w := (.ref a1)) Bd.returns rfl (Or.inr (Or.inr (Or.inr (Or.inr ⟨rfl, rfl, rfl⟩)))) (hb hby d3_54) (by decide) (by decide) ?_
  show Q3_5 Z p0 a1 h0 n0 (some (.ref a1)) T1.heap _
  rw [e1]
  exact ⟨rfl, N0, rfl⟩
theorem d3_55 : decode method_3_code 55 = .ok (.iload_n 0, 1) := by decide +kernel
theorem d3_56 : decode method_3_code 56 = .ok (.bipush 9, 2) := by decide +kernel
theorem d3_58 : decode method_3_code 58 = .ok (.if_icmp .ne 7, 3) := by decide +kernel
theorem d3_61 : decode method_3_code 61 = .ok (.getstatic 41, 3) := by decide +kernel
theorem d3_64 : decode method_3_code 64 = .ok (.areturn, 1) := by decide +kernel
def Q3_6 (Z : State) (p0 : Int32) (a1 : Addr) (h0 : Heap) (n0 : Nat) (v : Option Value) (h : Heap) (L : List Loc) : Prop := v = some (.ref a1) ∧ Fr n0 L ∧ h = h0
set_option maxRecDepth 65536 in
set_option maxHeartbeats 40000000 in
theorem rm3_6 (l : Launch) (Z : State) (a0 : Array Value) (hw : ∀ d ∈ tables_1, d.before a0 Z = true) (ws : List Jvm.Cond) (p0 : Int32) (a1 : Addr) (h0 : Heap) (n0 : Nat) (Z0 : n0 ≤ h0.size) (hp : p0 = (9 : Int32)) (S_1 : Sta Z h0 "com/example/bellwether/bellwether/protocol/OpCode" "SYNC" "Lcom/example/bellwether/bellwether/protocol/OpCode;" (.ref a1)) :
    own_CT l Z (⟨"com/example/bellwether/bellwether/protocol/OpCodeOfPinLaw", "expected", "(I)Lcom/example/bellwether/bellwether/protocol/OpCode;"⟩ : MethodName) method_3_code 1 (some (.object "com/example/bellwether/bellwether/protocol/OpCode")) ws ({ frames := 0, cells := 0, slots := 0, locals := 0 } : Room) #[(.int p0)] h0 (Q3_6 Z p0 a1 h0 n0) := by
  refine MetFree.of_bodySF (plainFor_of_name pn_com_example_bellwether_bellwether_protocol_OpCodeOfPinLaw) hisR ?_
  intro p e s m args below meth c s₁ Bd hml0 hP hK
  obtain ⟨rfl, hZ, hh⟩ := hP
  have hx := Bd.exec
  have hby := Bd.bytes
  have hml : c.maxLocals = 1 := hml0
  have hown : s.vm.findClass "com/example/bellwether/bellwether/protocol/OpCodeOfPinLaw" = some m.cls := findClass_of_methodNamed Bd.named
  have hnm := (name_of_methodNamed Bd.named Bd.method).1
  have hlk : meth.locks = false := BodyLoose.notSynchronized Bd
  have X0 : Stand p l e ({ frames := 0, cells := 0, slots := 0, locals := 0 } : Room) s m #[(.int p0)] below meth c s₁ [] 0 0 := Stand.of_body Bd
  have e0 : s₁.heap = h0 := by rw [← hh, Bd.state]; rfl
  have N0 := Fr.nil n0
  show GG p e below s ({ frames := 0, cells := 0, slots := 0, locals := 0 } : Room).cells ({ frames := 0, cells := 0, slots := 0, locals := 0 } : Room).slots (Q3_6 Z p0 a1 h0 n0) s₁ (entryFrame m #[(.int p0)] 1)
  refine own_in (ef_3 m p0) ?_
  show GG _ _ _ _ _ _ _ s₁ (mkF m 0 #[.val (.int p0)] [])
  refine own_go (fun _ => XS.iloadN X0.here hx rfl (hb hby d3_0) rfl) ?_
  show GG _ _ _ _ _ _ _ s₁ (mkF m 1 #[.val (.int p0)] [(.int p0)])
  refine own_go (fun _ => XS.iconst X0.here hx rfl (hb hby d3_1)) ?_
  show GG _ _ _ _ _ _ _ s₁ (mkF m 2 #[.val (.int p0)] [(.int (1 : Int32)), (.int p0)])
  have hc2 : ¬ (p0 = (1 : Int32)) := by rw [hp]; decide
  refine own_go (fun _ => XS.icmpYes X0.here hx rfl (pc0 := 2) (pc' := 9) rfl (hb hby d3_2) rfl (feq hc2).2 (by decide) (by decide)) ?_
  show GG _ _ _ _ _ _ _ s₁ (mkF m 9 #[.val (.int p0)] [])
  refine own_go (fun _ => XS.iloadN X0.here hx rfl (hb hby d3_9) rfl) ?_
  show GG _ _ _ _ _ _ _ s₁ (mkF m 10 #[.val (.int p0)] [(.int p0)])
  refine own_go (fun _ => XS.iconst X0.here hx rfl (hb hby d3_10)) ?_
  show GG _ _ _ _ _ _ _ s₁ (mkF m 11 #[.val (.int p0)] [(.int (2 : Int32)), (.int p0)])
  have hc11 : ¬ (p0 = (2 : Int32)) := by rw [hp]; decide
  refine own_go (fun _ => XS.icmpYes X0.here hx rfl (pc0 := 11) (pc' := 18) rfl (hb hby d3_11) rfl (feq hc11).2 (by decide) (by decide)) ?_
  show GG _ _ _ _ _ _ _ s₁ (mkF m 18 #[.val (.int p0)] [])
  refine own_go (fun _ => XS.iloadN X0.here hx rfl (hb hby d3_18) rfl) ?_
  show GG _ _ _ _ _ _ _ s₁ (mkF m 19 #[.val (.int p0)] [(.int p0)])
  refine own_go (fun _ => XS.iconst X0.here hx rfl (hb hby d3_19)) ?_
  show GG _ _ _ _ _ _ _ s₁ (mkF m 20 #[.val (.int p0)] [(.int (3 : Int32)), (.int p0)])
  have hc20 : ¬ (p0 = (3 : Int32)) := by rw [hp]; decide
  refine own_go (fun _ => XS.icmpYes X0.here hx rfl (pc0 := 20) (pc' := 27) rfl (hb hby d3_20) rfl (feq hc20).2 (by decide) (by decide)) ?_
  show GG _ _ _ _ _ _ _ s₁ (mkF m 27 #[.val (.int p0)] [])
  refine own_go (fun _ => XS.iloadN X0.here hx rfl (hb hby d3_27) rfl) ?_
  show GG _ _ _ _ _ _ _ s₁ (mkF m 28 #[.val (.int p0)] [(.int p0)])
  refine own_go (fun _ => XS.iconst X0.here hx rfl (hb hby d3_28)) ?_
  show GG _ _ _ _ _ _ _ s₁ (mkF m 29 #[.val (.int p0)] [(.int (4 : Int32)), (.int p0)])
  have hc29 : ¬ (p0 = (4 : Int32)) := by rw [hp]; decide
  refine own_go (fun _ => XS.icmpYes X0.here hx rfl (pc0 := 29) (pc' := 36) rfl (hb hby d3_29) rfl (feq hc29).2 (by decide) (by decide)) ?_
  show GG _ _ _ _ _ _ _ s₁ (mkF m 36 #[.val (.int p0)] [])
  refine own_go (fun _ => XS.iloadN X0.here hx rfl (hb hby d3_36) rfl) ?_
  show GG _ _ _ _ _ _ _ s₁ (mkF m 37 #[.val (.int p0)] [(.int p0)])
  refine own_go (fun _ => XS.iconst X0.here hx rfl (hb hby d3_37)) ?_
  show GG _ _ _ _ _ _ _ s₁ (mkF m 38 #[.val (.int p0)] [(.int (5 : Int32)), (.int p0)])
  have hc38 : ¬ (p0 = (5 : Int32)) := by rw [hp]; decide
  refine own_go (fun _ => XS.icmpYes X0.here hx rfl (pc0 := 38) (pc' := 45) rfl (hb hby d3_38) rfl (feq hc38).2 (by decide) (by decide)) ?_
  show GG _ _ _ _ _ _ _ s₁ (mkF m 45 #[.val (.int p0)] [])
  refine own_go (fun _ => XS.iloadN X0.here hx rfl (hb hby d3_45) rfl) ?_
  show GG _ _ _ _ _ _ _ s₁ (mkF m 46 #[.val (.int p0)] [(.int p0)])
  refine own_go (fun _ => XS.bipush X0.here hx rfl (hb hby d3_46)) ?_
  show GG _ _ _ _ _ _ _ s₁ (mkF m 48 #[.val (.int p0)] [(.int (8 : Int32)), (.int p0)])
  have hc48 : ¬ (p0 = (8 : Int32)) := by rw [hp]; decide
  refine own_go (fun _ => XS.icmpYes X0.here hx rfl (pc0 := 48) (pc' := 55) rfl (hb hby d3_48) rfl (feq hc48).2 (by decide) (by decide)) ?_
  show GG _ _ _ _ _ _ _ s₁ (mkF m 55 #[.val (.int p0)] [])
  refine own_go (fun _ => XS.iloadN X0.here hx rfl (hb hby d3_55) rfl) ?_
  show GG _ _ _ _ _ _ _ s₁ (mkF m 56 #[.val (.int p0)] [(.int p0)])
  refine own_go (fun _ => XS.bipush X0.here hx rfl (hb hby d3_56)) ?_
  show GG _ _ _ _ _ _ _ s₁ (mkF m 58 #[.val (.int p0)] [(.int (9 : Int32)), (.int p0)])
  have hc58 : p0 = (9 : Int32) := hp
  refine own_go (fun _ => XS.icmpNo X0.here hx rfl (hb hby d3_58) rfl (teq hc58).2) ?_
  show GG _ _ _ _ _ _ _ s₁ (mkF m 61 #[.val (.int p0)] [])
  obtain ⟨T1, X1, e1, st1⟩ := getS2 X0 hx hZ hown (host := "") (Or.inl (hw _ (List.mem_of_getElem? (i := 48) rfl))) Via.refl e0 S_1 (g := (mkF m 61 #[.val (.int p0)] [])) rfl (hb hby d3_61)
  refine own_go (fun _ => st1 _) ?_
  show GG _ _ _ _ _ _ _ T1 (mkF m 64 #[.val (.int p0)] [(.ref a1)])
  refine own_ret X1 hx hlk (t := (.object "com/example/bellwether/bellwether/protocol/OpCode")) (w := (.ref a1)) Bd.returns rfl (Or.inr (Or.inr (Or.inr (Or.inr ⟨rfl, rfl, rfl⟩)))) (hb hby d3_64) (by decide) (by decide) ?_
  show Q3_6 Z p0 a1 h0 n0 (some (.ref a1)) T1.heap _
  rw [e1]
  exact ⟨rfl, N0, rfl⟩
theorem d3_65 : decode method_3_code 65 = .ok (.iload_n 0, 1) := by decide +kernel
theorem d3_66 : decode method_3_code 66 = .ok (.bipush 11, 2) := by decide +kernel
theorem d3_68 : decode method_3_code 68 = .ok (.if_icmp .ne 7, 3) := by decide +kernel
theorem d3_71 : decode method_3_code 71 = .ok (.getstatic 44, 3) := by decide +kernel
theorem d3_74 : decode method_3_code 74 = .ok (.areturn, 1) := by decide +kernel
def Q3_7 (Z : State) (p0 : Int32) (a1 : Addr) (h0 : Heap) (n0 : Nat) (v : Option Value) (h : Heap) (L : List Loc) : Prop := v = some (.ref a1) ∧ Fr n0 L ∧ h = h0
set_option maxRecDepth 65536 in
set_option maxHeartbeats 40000000 in
theorem rm3_7 (l : Launch) (Z : State) (a0 : Array Value) (hw : ∀ d ∈ tables_1, d.before a0 Z = true) (ws : List Jvm.Cond) (p0 : Int32) (a1 : Addr) (h0 : Heap) (n0 : Nat) (Z0 : n0 ≤ h0.size) (hp : p0 = (11 : Int32)) (S_1 : Sta Z h0 "com/example/bellwether/bellwether/protocol/OpCode" "PING" "Lcom/example/bellwether/bellwether/protocol/OpCode;" (.ref a1)) :
    own_CT l Z (⟨"com/example/bellwether/bellwether/protocol/OpCodeOfPinLaw", "expected", "(I)Lcom/example/bellwether/bellwether/protocol/OpCode;"⟩ : MethodName) method_3_code 1 (some (.object "com/example/bellwether/bellwether/protocol/OpCode")) ws ({ frames := 0, cells := 0, slots := 0, locals := 0 } : Room) #[(.int p0)] h0 (Q3_7 Z p0 a1 h0 n0) := by
  refine MetFree.of_bodySF (plainFor_of_name pn_com_example_bellwether_bellwether_protocol_OpCodeOfPinLaw) hisR ?_
  intro p e s m args below meth c s₁ Bd hml0 hP hK
  obtain ⟨rfl, hZ, hh⟩ := hP
  have hx := Bd.exec
  have hby := Bd.bytes
  have hml : c.maxLocals = 1 := hml0
  have hown : s.vm.findClass "com/example/bellwether/bellwether/protocol/OpCodeOfPinLaw" = some m.cls := findClass_of_methodNamed Bd.named
  have hnm := (name_of_methodNamed Bd.named Bd.method).1
  have hlk : meth.locks = false := BodyLoose.notSynchronized Bd
  have X0 : Stand p l e ({ frames := 0, cells := 0, slots := 0, locals := 0 } : Room) s m #[(.int p0)] below meth c s₁ [] 0 0 := Stand.of_body Bd
  have e0 : s₁.heap = h0 := by rw [← hh, Bd.state]; rfl
  have N0 := Fr.nil n0
  show GG p e below s ({ frames := 0, cells := 0, slots := 0, locals := 0 } : Room).cells ({ frames := 0, cells := 0, slots := 0, locals := 0 } : Room).slots (Q3_7 Z p0 a1 h0 n0) s₁ (entryFrame m #[(.int p0)] 1)
  refine own_in (ef_3 m p0) ?_
  show GG _ _ _ _ _ _ _ s₁ (mkF m 0 #[.val (.int p0)] [])
  refine own_go (fun _ => XS.iloadN X0.here hx rfl (hb hby d3_0) rfl) ?_
  show GG _ _ _ _ _ _ _ s₁ (mkF m 1 #[.val (.int p0)] [(.int p0)])
  refine own_go (fun _ => XS.iconst X0.here hx rfl (hb hby d3_1)) ?_
  show GG _ _ _ _ _ _ _ s₁ (mkF m 2 #[.val (.int p0)] [(.int (1 : Int32)), (.int p0)])
  have hc2 : ¬ (p0 = (1 : Int32)) := by rw [hp]; decide
  refine own_go (fun _ => XS.icmpYes X0.here hx rfl (pc0 := 2) (pc' := 9) rfl (hb hby d3_2) rfl (feq hc2).2 (by decide) (by decide)) ?_
  show GG _ _ _ _ _ _ _ s₁ (mkF m 9 #[.val (.int p0)] [])
  refine own_go (fun _ => XS.iloadN X0.here hx rfl (hb hby d3_9) rfl) ?_
  show GG _ _ _ _ _ _ _ s₁ (mkF m 10 #[.val (.int p0)] [(.int p0)])
  refine own_go (fun _ => XS.iconst X0.here hx rfl (hb hby d3_10)) ?_
  show GG _ _ _ _ _ _ _ s₁ (mkF m 11 #[.val (.int p0)] [(.int (2 : Int32)), (.int p0)])
  have hc11 : ¬ (p0 = (2 : Int32)) := by rw [hp]; decide
  refine own_go (fun _ => XS.icmpYes X0.here hx rfl (pc0 := 11) (pc' := 18) rfl (hb hby d3_11) rfl (feq hc11).2 (by decide) (by decide)) ?_
  show GG _ _ _ _ _ _ _ s₁ (mkF m 18 #[.val (.int p0)] [])
  refine own_go (fun _ => XS.iloadN X0.here hx rfl (hb hby d3_18) rfl) ?_
  show GG _ _ _ _ _ _ _ s₁ (mkF m 19 #[.val (.int p0)] [(.int p0)])
  refine own_go (fun _ => XS.iconst X0.here hx rfl (hb hby d3_19)) ?_
  show GG _ _ _ _ _ _ _ s₁ (mkF m 20 #[.val (.int p0)] [(.int (3 : Int32)), (.int p0)])
  have hc20 : ¬ (p0 = (3 : Int32)) := by rw [hp]; decide
  refine own_go (fun _ => XS.icmpYes X0.here hx rfl (pc0 := 20) (pc' := 27) rfl (hb hby d3_20) rfl (feq hc20).2 (by decide) (by decide)) ?_
  show GG _ _ _ _ _ _ _ s₁ (mkF m 27 #[.val (.int p0)] [])
  refine own_go (fun _ => XS.iloadN X0.here hx rfl (hb hby d3_27) rfl) ?_
  show GG _ _ _ _ _ _ _ s₁ (mkF m 28 #[.val (.int p0)] [(.int p0)])
  refine own_go (fun _ => XS.iconst X0.here hx rfl (hb hby d3_28)) ?_
  show GG _ _ _ _ _ _ _ s₁ (mkF m 29 #[.val (.int p0)] [(.int (4 : Int32)), (.int p0)])
  have hc29 : ¬ (p0 = (4 : Int32)) := by rw [hp]; decide
  refine own_go (fun _ => XS.icmpYes X0.here hx rfl (pc0 := 29) (pc' := 36) rfl (hb hby d3_29) rfl (feq hc29).2 (by decide) (by decide)) ?_
  show GG _ _ _ _ _ _ _ s₁ (mkF m 36 #[.val (.int p0)] [])
  refine own_go (fun _ => XS.iloadN X0.here hx rfl (hb hby d3_36) rfl) ?_
  show GG _ _ _ _ _ _ _ s₁ (mkF m 37 #[.val (.int p0)] [(.int p0)])
  refine own_go (fun _ => XS.iconst X0.here hx rfl (hb hby d3_37)) ?_
  show GG _ _ _ _ _ _ _ s₁ (mkF m 38 #[.val (.int p0)] [(.int (5 : Int32)), (.int p0)])
  have hc38 : ¬ (p0 = (5 : Int32)) := by rw [hp]; decide
  refine own_go (fun _ => XS.icmpYes X0.here hx rfl (pc0 := 38) (pc' := 45) rfl (hb hby d3_38) rfl (feq hc38).2 (by decide) (by decide)) ?_
  show GG _ _ _ _ _ _ _ s₁ (mkF m 45 #[.val (.int p0)] [])
  refine own_go (fun _ => XS.iloadN X0.here hx rfl (hb hby d3_45) rfl) ?_
  show GG _ _ _ _ _ _ _ s₁ (mkF m 46 #[.val (.int p0)] [(.int p0)])
  refine own_go (fun _ => XS.bipush X0.here hx rfl (hb hby d3_46)) ?_
  show GG _ _ _ _ _ _ _ s₁ (mkF m 48 #[.val (.int p0)] [(.int (8 : Int32)), (.int p0)])
  have hc48 : ¬ (p0 = (8 : Int32)) := by rw [hp]; decide
  refine own_go (fun _ => XS.icmpYes X0.here hx rfl (pc0 := 48) (pc' := 55) rfl (hb hby d3_48) rfl (feq hc48).2 (by decide) (by decide)) ?_
  show GG _ _ _ _ _ _ _ s₁ (mkF m 55 #[.val (.int p0)] [])
  refine own_go (fun _ => XS.iloadN X0.here hx rfl (hb hby d3_55) rfl) ?_
  show GG _ _ _ _ _ _ _ s₁ (mkF m 56 #[.val (.int p0)] [(.int p0)])
  refine own_go (fun _ => XS.bipush X0.here hx rfl (hb hby d3_56)) ?_
  show GG _ _ _ _ _ _ _ s₁ (mkF m 58 #[.val (.int p0)] [(.int (9 : Int32)), (.int p0)])
  have hc58 : ¬ (p0 = (9 : Int32)) := by rw [hp]; decide
  refine own_go (fun _ => XS.icmpYes X0.here hx rfl (pc0 := 58) (pc' := 65) rfl (hb hby d3_58) rfl (feq hc58).2 (by decide) (by decide)) ?_
  show GG _ _ _ _ _ _ _ s₁ (mkF m 65 #[.val (.int p0)] [])
  refine own_go (fun _ => XS.iloadN X0.here hx rfl (hb hby d3_65) rfl) ?_
  show GG _ _ _ _ _ _ _ s₁ (mkF m 66 #[.val (.int p0)] [(.int p0)])
  refine own_go (fun _ => XS.bipush X0.here hx rfl (hb hby d3_66)) ?_
  show GG _ _ _ _ _ _ _ s₁ (mkF m 68 #[.val (.int p0)] [(.int (11 : Int32)), (.int p0)])
  have hc68 : p0 = (11 : Int32) := hp
  refine own_go (fun _ => XS.icmpNo X0.here hx rfl (hb hby d3_68) rfl (teq hc68).2) ?_
  show GG _ _ _ _ _ _ _ s₁ (mkF m 71 #[.val (.int p0)] [])
  obtain ⟨T1, X1, e1, st1⟩ := getS2 X0 hx hZ hown (host := "") (Or.inl (hw _ (List.mem_of_getElem? (i := 52) rfl))) Via.refl e0 S_1 (g := (mkF m 71 #[.val (.int p0)] [])) rfl (hb hby d3_71)
  refine own_go (fun _ => st1 _) ?_
  show GG _ _ _ _ _ _ _ T1 (mkF m 74 #[.val (.int p0)] [(.ref a1)])
  refine own_ret X1 hx hlk (t := (.object "com/example/bellwether/bellwether/protocol/OpCode")) (w := (.ref a1)) Bd.returns rfl (Or.inr (Or.inr (Or.inr (Or.inr ⟨rfl, rfl, rfl⟩)))) (hb hby d3_74) (by decide) (by decide) ?_
  show Q3_7 Z p0 a1 h0 n0 (some (.ref a1)) T1.heap _
  rw [e1]
  exact ⟨rfl, N0, rfl⟩
theorem d3_75 : decode method_3_code 75 = .ok (.iload_n 0, 1) := by decide +kernel
theorem d3_76 : decode method_3_code 76 = .ok (.bipush 12, 2) := by decide +kernel
theorem d3_78 : decode method_3_code 78 = .ok (.if_icmp .ne 7, 3) := by decide +kernel
theorem d3_81 : decode method_3_code 81 = .ok (.getstatic 47, 3) := by decide +kernel
theorem d3_84 : decode method_3_code 84 = .ok (.areturn, 1) := by decide +kernel
def Q3_8 (Z : State) (p0 : Int32) (a1 : Addr) (h0 : Heap) (n0 : Nat) (v : Option Value) (h : Heap) (L : List Loc) : Prop := v = some (.ref a1) ∧ Fr n0 L ∧ h = h0
set_option maxRecDepth 65536 in
set_option maxHeartbeats 40000000 in
theorem rm3_8 (l : Launch) (Z : State) (a0 : Array Value) (hw : ∀ d ∈ tables_1, d.before a0 Z = true) (ws : List Jvm.Cond) (p0 : Int32) (a1 : Addr) (h0 : Heap) (n0 : Nat) (Z0 : n0 ≤ h0.size) (hp : p0 = (12 : Int32)) (S_1 : Sta Z h0 "com/example/bellwether/bellwether/protocol/OpCode" "GET_CHILDREN2" "Lcom/example/bellwether/bellwether/protocol/OpCode;" (.ref a1)) :
    own_CT l Z (⟨"com/example/bellwether/bellwether/protocol/OpCodeOfPinLaw", "expected", "(I)Lcom/example/bellwether/bellwether/protocol/OpCode;"⟩ : MethodName) method_3_code 1 (some (.object "com/example/bellwether/bellwether/protocol/OpCode")) ws ({ frames := 0, cells := 0, slots := 0, locals := 0 } : Room) #[(.int p0)] h0 (Q3_8 Z p0 a1 h0 n0) := by
  refine MetFree.of_bodySF (plainFor_of_name pn_com_example_bellwether_bellwether_protocol_OpCodeOfPinLaw) hisR ?_
  intro p e s m args below meth c s₁ Bd hml0 hP hK
  obtain ⟨rfl, hZ, hh⟩ := hP
  have hx := Bd.exec
  have hby := Bd.bytes
  have hml : c.maxLocals = 1 := hml0
  have hown : s.vm.findClass "com/example/bellwether/bellwether/protocol/OpCodeOfPinLaw" = some m.cls := findClass_of_methodNamed Bd.named
  have hnm := (name_of_methodNamed Bd.named Bd.method).1
  have hlk : meth.locks = false := BodyLoose.notSynchronized Bd
  have X0 : Stand p l e ({ frames := 0, cells := 0, slots := 0, locals := 0 } : Room) s m #[(.int p0)] below meth c s₁ [] 0 0 := Stand.of_body Bd
  have e0 : s₁.heap = h0 := by rw [← hh, Bd.state]; rfl
  have N0 := Fr.nil n0
  show GG p e below s ({ frames := 0, cells := 0, slots := 0, locals := 0 } : Room).cells ({ frames := 0, cells := 0, slots := 0, locals := 0 } : Room).slots (Q3_8 Z p0 a1 h0 n0) s₁ (entryFrame m #[(.int p0)] 1)
  refine own_in (ef_3 m p0) ?_
  show GG _ _ _ _ _ _ _ s₁ (mkF m 0 #[.val (.int p0)] [])
  refine own_go (fun _ => XS.iloadN X0.here hx rfl (hb hby d3_0) rfl) ?_
  show GG _ _ _ _ _ _ _ s₁ (mkF m 1 #[.val (.int p0)] [(.int p0)])
  refine own_go (fun _ => XS.iconst X0.here hx rfl (hb hby d3_1)) ?_
  show GG _ _ _ _ _ _ _ s₁ (mkF m 2 #[.val (.int p0)] [(.int (1 : Int32)), (.int p0)])
  have hc2 : ¬ (p0 = (1 : Int32)) := by rw [hp]; decide
  refine own_go (fun _ => XS.icmpYes X0.here hx rfl (pc0 := 2) (pc' := 9) rfl (hb hby d3_2) rfl (feq hc2).2 (by decide) (by decide)) ?_
  show GG _ _ _ _ _ _ _ s₁ (mkF m 9 #[.val (.int p0)] [])
  refine own_go (fun _ => XS.iloadN X0.here hx rfl (hb hby d3_9) rfl) ?_
  show GG _ _ _ _ _ _ _ s₁ (mkF m 10 #[.val (.int p0)] [(.int p0)])
  refine own_go (fun _ => XS.iconst X0.here hx rfl (hb hby d3_10)) ?_
  show GG _ _ _ _ _ _ _ s₁ (mkF m 11 #[.val (.int p0)] [(.int (2 : Int32)), (.int p0)])
  have hc11 : ¬ (p0 = (2 : Int32)) := by rw [hp]; decide
  refine own_go (fun _ => XS.icmpYes X0.here hx rfl (pc0 := 11) (pc' := 18) rfl (hb hby d3_11) rfl (feq hc11).2 (by decide) (by decide)) ?_
  show GG _ _ _ _ _ _ _ s₁ (mkF m 18 #[.val (.int p0)] [])
  refine own_go (fun _ => XS.iloadN X0.here hx rfl (hb hby d3_18) rfl) ?_
  show GG _ _ _ _ _ _ _ s₁ (mkF m 19 #[.val (.int p0)] [(.int p0)])
  refine own_go (fun _ => XS.iconst X0.here hx rfl (hb hby d3_19)) ?_
  show GG _ _ _ _ _ _ _ s₁ (mkF m 20 #[.val (.int p0)] [(.int (3 : Int32)), (.int p0)])
  have hc20 : ¬ (p0 = (3 : Int32)) := by rw [hp]; decide
  refine own_go (fun _ => XS.icmpYes X0.here hx rfl (pc0 := 20) (pc' := 27) rfl (hb hby d3_20) rfl (feq hc20).2 (by decide) (by decide)) ?_
  show GG _ _ _ _ _ _ _ s₁ (mkF m 27 #[.val (.int p0)] [])
  refine own_go (fun _ => XS.iloadN X0.here hx rfl (hb hby d3_27) rfl) ?_
  show GG _ _ _ _ _ _ _ s₁ (mkF m 28 #[.val (.int p0)] [(.int p0)])
  refine own_go (fun _ => XS.iconst X0.here hx rfl (hb hby d3_28)) ?_
  show GG _ _ _ _ _ _ _ s₁ (mkF m 29 #[.val (.int p0)] [(.int (4 : Int32)), (.int p0)])
  have hc29 : ¬ (p0 = (4 : Int32)) := by rw [hp]; decide
  refine own_go (fun _ => XS.icmpYes X0.here hx rfl (pc0 := 29) (pc' := 36) rfl (hb hby d3_29) rfl (feq hc29).2 (by decide) (by decide)) ?_
  show GG _ _ _ _ _ _ _ s₁ (mkF m 36 #[.val (.int p0)] [])
  refine own_go (fun _ => XS.iloadN X0.here hx rfl (hb hby d3_36) rfl) ?_
  show GG _ _ _ _ _ _ _ s₁ (mkF m 37 #[.val (.int p0)] [(.int p0)])
  refine own_go (fun _ => XS.iconst X0.here hx rfl (hb hby d3_37)) ?_
  show GG _ _ _ _ _ _ _ s₁ (mkF m 38 #[.val (.int p0)] [(.int (5 : Int32)), (.int p0)])
  have hc38 : ¬ (p0 = (5 : Int32)) := by rw [hp]; decide
  refine own_go (fun _ => XS.icmpYes X0.here hx rfl (pc0 := 38) (pc' := 45) rfl (hb hby d3_38) rfl (feq hc38).2 (by decide) (by decide)) ?_
  show GG _ _ _ _ _ _ _ s₁ (mkF m 45 #[.val (.int p0)] [])
  refine own_go (fun _ => XS.iloadN X0.here hx rfl (hb hby d3_45) rfl) ?_
  show GG _ _ _ _ _ _ _ s₁ (mkF m 46 #[.val (.int p0)] [(.int p0)])
  refine own_go (fun _ => XS.bipush X0.here hx rfl (hb hby d3_46)) ?_
  show GG _ _ _ _ _ _ _ s₁ (mkF m 48 #[.val (.int p0)] [(.int (8 : Int32)), (.int p0)])
  have hc48 : ¬ (p0 = (8 : Int32)) := by rw [hp]; decide
  refine own_go (fun _ => XS.icmpYes X0.here hx rfl (pc0 := 48) (pc' := 55) rfl (hb hby d3_48) rfl (feq hc48).2 (by decide) (by decide)) ?_
  show GG _ _ _ _ _ _ _ s₁ (mkF m 55 #[.val (.int p0)] [])
  refine own_go (fun _ => XS.iloadN X0.here hx rfl (hb hby d3_55) rfl) ?_
  show GG _ _ _ _ _ _ _ s₁ (mkF m 56 #[.val (.int p0)] [(.int p0)])
  refine own_go (fun _ => XS.bipush X0.here hx rfl (hb hby d3_56)) ?_
  show GG _ _ _ _ _ _ _ s₁ (mkF m 58 #[.val (.int p0)] [(.int (9 : Int32)), (.int p0)])
  have hc58 : ¬ (p0 = (9 : Int32)) := by rw [hp]; decide
  refine own_go (fun _ => XS.icmpYes X0.here hx rfl (pc0 := 58) (pc' := 65) rfl (hb hby d3_58) rfl (feq hc58).2 (by decide) (by decide)) ?_
  show GG _ _ _ _ _ _ _ s₁ (mkF m 65 #[.val (.int p0)] [])
  refine own_go (fun _ => XS.iloadN X0.here hx rfl (hb hby d3_65) rfl) ?_
  show GG _ _ _ _ _ _ _ s₁ (mkF m 66 #[.val (.int p0)] [(.int p0)])
  refine own_go (fun _ => XS.bipush X0.here hx rfl (hb hby d3_66)) ?_
  show GG _ _ _ _ _ _ _ s₁ (mkF m 68 #[.val (.int p0)] [(.int (11 : Int32)), (.int p0)])
  have hc68 : ¬ (p0 = (11 : Int32)) := by rw [hp]; decide
  refine own_go (fun _ => XS.icmpYes X0.here hx rfl (pc0 := 68) (pc' := 75) rfl (hb hby d3_68) rfl (feq hc68).2 (by decide) (by decide)) ?_
  show GG _ _ _ _ _ _ _ s₁ (mkF m 75 #[.val (.int p0)] [])
  refine own_go (fun _ => XS.iloadN X0.here hx rfl (hb hby d3_75) rfl) ?_
  show GG _ _ _ _ _ _ _ s₁ (mkF m 76 #[.val (.int p0)] [(.int p0)])
  refine own_go (fun _ => XS.bipush X0.here hx rfl (hb hby d3_76)) ?_
  show GG _ _ _ _ _ _ _ s₁ (mkF m 78 #[.val (.int p0)] [(.int (12 : Int32)), (.int p0)])
  have hc78 : p0 = (12 : Int32) := hp
  refine own_go (fun _ => XS.icmpNo X0.here hx rfl (hb hby d3_78) rfl (teq hc78).2) ?_
  show GG _ _ _ _ _ _ _ s₁ (mkF m 81 #[.val (.int p0)] [])
  obtain ⟨T1, X1, e1, st1⟩ := getS2 X0 hx hZ hown (host := "") (Or.inl (hw _ (List.mem_of_getElem? (i := 44) rfl))) Via.refl e0 S_1 (g := (mkF m 81 #[.val (.int p0)] [])) rfl (hb hby d3_81)
  refine own_go (fun _ => st1 _) ?_
  show GG _ _ _ _ _ _ _ T1 (mkF m 84 #[.val (.int p0)] [(.ref a1)])
  refine own_ret X1 hx hlk (t := (.object "com/example/bellwether/bellwether/protocol/OpCode")) (w := (.ref a1)) Bd.returns rfl (Or.inr (Or.inr (Or.inr (Or.inr ⟨rfl, rfl, rfl⟩)))) (hb hby d3_84) (by decide) (by decide) ?_
  show Q3_8 Z p0 a1 h0 n0 (some (.ref a1)) T1.heap _
  rw [e1]
  exact ⟨rfl, N0, rfl⟩
theorem d3_85 : decode method_3_code 85 = .ok (.iload_n 0, 1) := by decide +kernel
theorem d3_86 : decode method_3_code 86 = .ok (.bipush 13, 2) := by decide +kernel
theorem d3_88 : decode method_3_code 88 = .ok (.if_icmp .ne 7, 3) := by decide +kernel
theorem d3_91 : decode method_3_code 91 = .ok (.getstatic 50, 3) := by decide +kernel
theorem d3_94 : decode method_3_code 94 = .ok (.areturn, 1) := by decide +kernel
def Q3_9 (Z : State) (p0 : Int32) (a1 : Addr) (h0 : Heap) (n0 : Nat) (v : Option Value) (h : Heap) (L : List Loc) : Prop := v = some (.ref a1) ∧ Fr n0 L ∧ h = h0
set_option maxRecDepth 65536 in
set_option maxHeartbeats 40000000 in
theorem rm3_9 (l : Launch) (Z : State) (a0 : Array Value) (hw : ∀ d ∈ tables_1, d.before a0 Z = true) (ws : List Jvm.Cond) (p0 : Int32) (a1 : Addr) (h0 : Heap) (n0 : Nat) (Z0 : n0 ≤ h0.size) (hp : p0 = (13 : Int32)) (S_1 : Sta Z h0 "com/example/bellwether/bellwether/protocol/OpCode" "CHECK" "Lcom/example/bellwether/bellwether/protocol/OpCode;" (.ref a1)) :
    own_CT l Z (⟨"com/example/bellwether/bellwether/protocol/OpCodeOfPinLaw", "expected", "(I)Lcom/example/bellwether/bellwether/protocol/OpCode;"⟩ : MethodName) method_3_code 1 (some (.object "com/example/bellwether/bellwether/protocol/OpCode")) ws ({ frames := 0, cells := 0, slots := 0, locals := 0 } : Room) #[(.int p0)] h0 (Q3_9 Z p0 a1 h0 n0) := by
  refine MetFree.of_bodySF (plainFor_of_name pn_com_example_bellwether_bellwether_protocol_OpCodeOfPinLaw) hisR ?_
  intro p e s m args below meth c s₁ Bd hml0 hP hK
  obtain ⟨rfl, hZ, hh⟩ := hP
  have hx := Bd.exec
  have hby := Bd.bytes
  have hml : c.maxLocals = 1 := hml0
  have hown : s.vm.findClass "com/example/bellwether/bellwether/protocol/OpCodeOfPinLaw" = some m.cls := findClass_of_methodNamed Bd.named
  have hnm := (name_of_methodNamed Bd.named Bd.method).1
  have hlk : meth.locks = false := BodyLoose.notSynchronized Bd
  have X0 : Stand p l e ({ frames := 0, cells := 0, slots := 0, locals := 0 } : Room) s m #[(.int p0)] below meth c s₁ [] 0 0 := Stand.of_body Bd
  have e0 : s₁.heap = h0 := by rw [← hh, Bd.state]; rfl
  have N0 := Fr.nil n0
  show GG p e below s ({ frames := 0, cells := 0, slots := 0, locals := 0 } : Room).cells ({ frames := 0, cells := 0, slots := 0, locals := 0 } : Room).slots (Q3_9 Z p0 a1 h0 n0) s₁ (entryFrame m #[(.int p0)] 1)
  refine own_in (ef_3 m p0) ?_
  show GG _ _ _ _ _ _ _ s₁ (mkF m 0 #[.val (.int p0)] [])
  refine own_go (fun _ => XS.iloadN X0.here hx rfl (hb hby d3_0) rfl) ?_
  show GG _ _ _ _ _ _ _ s₁ (mkF m 1 #[.val (.int p0)] [(.int p0)])
  refine own_go (fun _ => XS.iconst X0.here hx rfl (hb hby d3_1)) ?_
  show GG _ _ _ _ _ _ _ s₁ (mkF m 2 #[.val (.int p0)] [(.int (1 : Int32)), (.int p0)])
  have hc2 : ¬ (p0 = (1 : Int32)) := by rw [hp]; decide
  refine own_go (fun _ => XS.icmpYes X0.here hx rfl (pc0 := 2) (pc' := 9) rfl (hb hby d3_2) rfl (feq hc2).2 (by decide) (by decide)) ?_
  show GG _ _ _ _ _ _ _ s₁ (mkF m 9 #[.val (.int p0)] [])
  refine own_go (fun _ => XS.iloadN X0.here hx rfl (hb hby d3_9) rfl) ?_
  show GG _ _ _ _ _ _ _ s₁ (mkF m 10 #[.val (.int p0)] [(.int p0)])
  refine own_go (fun _ => XS.iconst X0.here hx rfl (hb hby d3_10)) ?_
  show GG _ _ _ _ _ _ _ s₁ (mkF m 11 #[.val (.int p0)] [(.int (2 : Int32)), (.int p0)])
  have hc11 : ¬ (p0 = (2 : Int32)) := by rw [hp]; decide
  refine own_go (fun _ => XS.icmpYes X0.here hx rfl (pc0 := 11) (pc' := 18) rfl (hb hby d3_11) rfl (feq hc11).2 (by decide) (by decide)) ?_
  show GG _ _ _ _ _ _ _ s₁ (mkF m 18 #[.val (.int p0)] [])
  refine own_go (fun _ => XS.iloadN X0.here hx rfl (hb hby d3_18) rfl) ?_
  show GG _ _ _ _ _ _ _ s₁ (mkF m 19 #[.val (.int p0)] [(.int p0)])
  refine own_go (fun _ => XS.iconst X0.here hx rfl (hb hby d3_19)) ?_
  show GG _ _ _ _ _ _ _ s₁ (mkF m 20 #[.val (.int p0)] [(.int (3 : Int32)), (.int p0)])
  have hc20 : ¬ (p0 = (3 : Int32)) := by rw [hp]; decide
  refine own_go (fun _ => XS.icmpYes X0.here hx rfl (pc0 := 20) (pc' := 27) rfl (hb hby d3_20) rfl (feq hc20).2 (by decide) (by decide)) ?_
  show GG _ _ _ _ _ _ _ s₁ (mkF m 27 #[.val (.int p0)] [])
  refine own_go (fun _ => XS.iloadN X0.here hx rfl (hb hby d3_27) rfl) ?_
  show GG _ _ _ _ _ _ _ s₁ (mkF m 28 #[.val (.int p0)] [(.int p0)])
  refine own_go (fun _ => XS.iconst X0.here hx rfl (hb hby d3_28)) ?_
  show GG _ _ _ _ _ _ _ s₁ (mkF m 29 #[.val (.int p0)] [(.int (4 : Int32)), (.int p0)])
  have hc29 : ¬ (p0 = (4 : Int32)) := by rw [hp]; decide
  refine own_go (fun _ => XS.icmpYes X0.here hx rfl (pc0 := 29) (pc' := 36) rfl (hb hby d3_29) rfl (feq hc29).2 (by decide) (by decide)) ?_
  show GG _ _ _ _ _ _ _ s₁ (mkF m 36 #[.val (.int p0)] [])
  refine own_go (fun _ => XS.iloadN X0.here hx rfl (hb hby d3_36) rfl) ?_
  show GG _ _ _ _ _ _ _ s₁ (mkF m 37 #[.val (.int p0)] [(.int p0)])
  refine own_go (fun _ => XS.iconst X0.here hx rfl (hb hby d3_37)) ?_
  show GG _ _ _ _ _ _ _ s₁ (mkF m 38 #[.val (.int p0)] [(.int (5 : Int32)), (.int p0)])
  have hc38 : ¬ (p0 = (5 : Int32)) := by rw [hp]; decide
  refine own_go (fun _ => XS.icmpYes X0.here hx rfl (pc0 := 38) (pc' := 45) rfl (hb hby d3_38) rfl (feq hc38).2 (by decide) (by decide)) ?_
  show GG _ _ _ _ _ _ _ s₁ (mkF m 45 #[.val (.int p0)] [])
  refine own_go (fun _ => XS.iloadN X0.here hx rfl (hb hby d3_45) rfl) ?_
  show GG _ _ _ _ _ _ _ s₁ (mkF m 46 #[.val (.int p0)] [(.int p0)])
  refine own_go (fun _ => XS.bipush X0.here hx rfl (hb hby d3_46)) ?_
  show GG _ _ _ _ _ _ _ s₁ (mkF m 48 #[.val (.int p0)] [(.int (8 : Int32)), (.int p0)])
  have hc48 : ¬ (p0 = (8 : Int32)) := by rw [hp]; decide
  refine own_go (fun _ => XS.icmpYes X0.here hx rfl (pc0 := 48) (pc' := 55) rfl (hb hby d3_48) rfl (feq hc48).2 (by decide) (by decide)) ?_
  show GG _ _ _ _ _ _ _ s₁ (mkF m 55 #[.val (.int p0)] [])
  refine own_go (fun _ => XS.iloadN X0.here hx rfl (hb hby d3_55) rfl) ?_
  show GG _ _ _ _ _ _ _ s₁ (mkF m 56 #[.val (.int p0)] [(.int p0)])
  refine own_go (fun _ => XS.bipush X0.here hx rfl (hb hby d3_56)) ?_
  show GG _ _ _ _ _ _ _ s₁ (mkF m 58 #[.val (.int p0)] [(.int (9 : Int32)), (.int p0)])
  have hc58 : ¬ (p0 = (9 : Int32)) := by rw [hp]; decide
  refine own_go (fun _ => XS.icmpYes X0.here hx rfl (pc0 := 58) (pc' := 65) rfl (hb hby d3_58) rfl (feq hc58).2 (by decide) (by decide)) ?_
  show GG _ _ _ _ _ _ _ s₁ (mkF m 65 #[.val (.int p0)] [])
  refine own_go (fun _ => XS.iloadN X0.here hx rfl (hb hby d3_65) rfl) ?_
  show GG _ _ _ _ _ _ _ s₁ (mkF m 66 #[.val (.int p0)] [(.int p0)])
  refine own_go (fun _ => XS.bipush X0.here hx rfl (hb hby d3_66)) ?_
  show GG _ _ _ _ _ _ _ s₁ (mkF m 68 #[.val (.int p0)] [(.int (11 : Int32)), (.int p0)])
  have hc68 : ¬ (p0 = (11 : Int32)) := by rw [hp]; decide
  refine own_go (fun _ => XS.icmpYes X0.here hx rfl (pc0 := 68) (pc' := 75) rfl (hb hby d3_68) rfl (feq hc68).2 (by decide) (by decide)) ?_
  show GG _ _ _ _ _ _ _ s₁ (mkF m 75 #[.val (.int p0)] [])
  refine own_go (fun _ => XS.iloadN X0.here hx rfl (hb hby d3_75) rfl) ?_
  show GG _ _ _ _ _ _ _ s₁ (mkF m 76 #[.val (.int p0)] [(.int p0)])
  refine own_go (fun _ => XS.bipush X0.here hx rfl (hb hby d3_76)) ?_
  show GG _ _ _ _ _ _ _ s₁ (mkF m 78 #[.val (.int p0)] [(.int (12 : Int32)), (.int p0)])
  have hc78 : ¬ (p0 = (12 : Int32)) := by rw [hp]; decide
  refine own_go (fun _ => XS.icmpYes X0.here hx rfl (pc0 := 78) (pc' := 85) rfl (hb hby d3_78) rfl (feq hc78).2 (by decide) (by decide)) ?_
  show GG _ _ _ _ _ _ _ s₁ (mkF m 85 #[.val (.int p0)] [])
  refine own_go (fun _ => XS.iloadN X0.here hx rfl (hb hby d3_85) rfl) ?_
  show GG _ _ _ _ _ _ _ s₁ (mkF m 86 #[.val (.int p0)] [(.int p0)])
  refine own_go (fun _ => XS.bipush X0.here hx rfl (hb hby d3_86)) ?_
  show GG _ _ _ _ _ _ _ s₁ (mkF m 88 #[.val (.int p0)] [(.int (13 : Int32)), (.int p0)])
  have hc88 : p0 = (13 : Int32) := hp
  refine own_go (fun _ => XS.icmpNo X0.here hx rfl (hb hby d3_88) rfl (teq hc88).2) ?_
  show GG _ _ _ _ _ _ _ s₁ (mkF m 91 #[.val (.int p0)] [])
  obtain ⟨T1, X1, e1, st1⟩ := getS2 X0 hx hZ hown (host := "") (Or.inl (hw _ (List.mem_of_getElem? (i := 53) rfl))) Via.refl e0 S_1 (g := (mkF m 91 #[.val (.int p0)] [])) rfl (hb hby d3_91)
  refine own_go (fun _ => st1 _) ?_
  show GG _ _ _ _ _ _ _ T1 (mkF m 94 #[.val (.int p0)] [(.ref a1)])
  refine own_ret X1 hx hlk (t := (.object "com/example/bellwether/bellwether/protocol/OpCode")) (w := (.ref a1)) Bd.returns rfl (Or.inr (Or.inr (Or.inr (Or.inr ⟨rfl, rfl, rfl⟩)))) (hb hby d3_94) (by decide) (by decide) ?_
  show Q3_9 Z p0 a1 h0 n0 (some (.ref a1)) T1.heap _
  rw [e1]
  exact ⟨rfl, N0, rfl⟩
theorem d3_95 : decode method_3_code 95 = .ok (.iload_n 0, 1) := by decide +kernel
theorem d3_96 : decode method_3_code 96 = .ok (.bipush 14, 2) := by decide +kernel
theorem d3_98 : decode method_3_code 98 = .ok (.if_icmp .ne 7, 3) := by decide +kernel
theorem d3_101 : decode method_3_code 101 = .ok (.getstatic 53, 3) := by decide +kernel
theorem d3_104 : decode method_3_code 104 = .ok (.areturn, 1) := by decide +kernel
def Q3_10 (Z : State) (p0 : Int32) (a1 : Addr) (h0 : Heap) (n0 : Nat) (v : Option Value) (h : Heap) (L : List Loc) : Prop := v = some (.ref a1) ∧ Fr n0 L ∧ h = h0
set_option maxRecDepth 65536 in
set_option maxHeartbeats 40000000 in
theorem rm3_10 (l : Launch) (Z : State) (a0 : Array Value) (hw : ∀ d ∈ tables_1, d.before a0 Z = true) (ws : List Jvm.Cond) (p0 : Int32) (a1 : Addr) (h0 : Heap) (n0 : Nat) (Z0 : n0 ≤ h0.size) (hp : p0 = (14 : Int32)) (S_1 : Sta Z h0 "com/example/bellwether/bellwether/protocol/OpCode" "MULTI" "Lcom/example/bellwether/bellwether/protocol/OpCode;" (.ref a1)) :
    own_CT l Z (⟨"com/example/bellwether/bellwether/protocol/OpCodeOfPinLaw", "expected", "(I)Lcom/example/bellwether/bellwether/protocol/OpCode;"⟩ : MethodName) method_3_code 1 (some (.object "com/example/bellwether/bellwether/protocol/OpCode")) ws ({ frames := 0, cells := 0, slots := 0, locals := 0 } : Room) #[(.int p0)] h0 (Q3_10 Z p0 a1 h0 n0) := by
  refine MetFree.of_bodySF (plainFor_of_name pn_com_example_bellwether_bellwether_protocol_OpCodeOfPinLaw) hisR ?_
  intro p e s m args below meth c s₁ Bd hml0 hP hK
  obtain ⟨rfl, hZ, hh⟩ := hP
  have hx := Bd.exec
  have hby := Bd.bytes
  have hml : c.maxLocals = 1 := hml0
  have hown : s.vm.findClass "com/example/bellwether/bellwether/protocol/OpCodeOfPinLaw" = some m.cls := findClass_of_methodNamed Bd.named
  have hnm := (name_of_methodNamed Bd.named Bd.method).1
  have hlk : meth.locks = false := BodyLoose.notSynchronized Bd
  have X0 : Stand p l e ({ frames := 0, cells := 0, slots := 0, locals := 0 } : Room) s m #[(.int p0)] below meth c s₁ [] 0 0 := Stand.of_body Bd
  have e0 : s₁.heap = h0 := by rw [← hh, Bd.state]; rfl
  have N0 := Fr.nil n0
  show GG p e below s ({ frames := 0, cells := 0, slots := 0, locals := 0 } : Room).cells ({ frames := 0, cells := 0, slots := 0, locals := 0 } : Room).slots (Q3_10 Z p0 a1 h0 n0) s₁ (entryFrame m #[(.int p0)] 1)
  refine own_in (ef_3 m p0) ?_
  show GG _ _ _ _ _ _ _ s₁ (mkF m 0 #[.val (.int p0)] [])
  refine own_go (fun _ => XS.iloadN X0.here hx rfl (hb hby d3_0) rfl) ?_
  show GG _ _ _ _ _ _ _ s₁ (mkF m 1 #[.val (.int p0)] [(.int p0)])
  refine own_go (fun _ => XS.iconst X0.here hx rfl (hb hby d3_1)) ?_
  show GG _ _ _ _ _ _ _ s₁ (mkF m 2 #[.val (.int p0)] [(.int (1 : Int32)), (.int p0)])
  have hc2 : ¬ (p0 = (1 : Int32)) := by rw [hp]; decide
  refine own_go (fun _ => XS.icmpYes X0.here hx rfl (pc0 := 2) (pc' := 9) rfl (hb hby d3_2) rfl (feq hc2).2 (by decide) (by decide)) ?_
  show GG _ _ _ _ _ _ _ s₁ (mkF m 9 #[.val (.int p0)] [])
  refine own_go (fun _ => XS.iloadN X0.here hx rfl (hb hby d3_9) rfl) ?_
  show GG _ _ _ _ _ _ _ s₁ (mkF m 10 #[.val (.int p0)] [(.int p0)])
  refine own_go (fun _ => XS.iconst X0.here hx rfl (hb hby d3_10)) ?_
  show GG _ _ _ _ _ _ _ s₁ (mkF m 11 #[.val (.int p0)] [(.int (2 : Int32)), (.int p0)])
  have hc11 : ¬ (p0 = (2 : Int32)) := by rw [hp]; decide
  refine own_go (fun _ => XS.icmpYes X0.here hx rfl (pc0 := 11) (pc' := 18) rfl (hb hby d3_11) rfl (feq hc11).2 (by decide) (by decide)) ?_
  show GG _ _ _ _ _ _ _ s₁ (mkF m 18 #[.val (.int p0)] [])
  refine own_go (fun _ => XS.iloadN X0.here hx rfl (hb hby d3_18) rfl) ?_
  show GG _ _ _ _ _ _ _ s₁ (mkF m 19 #[.val (.int p0)] [(.int p0)])
  refine own_go (fun _ => XS.iconst X0.here hx rfl (hb hby d3_19)) ?_
  show GG _ _ _ _ _ _ _ s₁ (mkF m 20 #[.val (.int p0)] [(.int (3 : Int32)), (.int p0)])
  have hc20 : ¬ (p0 = (3 : Int32)) := by rw [hp]; decide
  refine own_go (fun _ => XS.icmpYes X0.here hx rfl (pc0 := 20) (pc' := 27) rfl (hb hby d3_20) rfl (feq hc20).2 (by decide) (by decide)) ?_
  show GG _ _ _ _ _ _ _ s₁ (mkF m 27 #[.val (.int p0)] [])
  refine own_go (fun _ => XS.iloadN X0.here hx rfl (hb hby d3_27) rfl) ?_
  show GG _ _ _ _ _ _ _ s₁ (mkF m 28 #[.val (.int p0)] [(.int p0)])
  refine own_go (fun _ => XS.iconst X0.here hx rfl (hb hby d3_28)) ?_
  show GG _ _ _ _ _ _ _ s₁ (mkF m 29 #[.val (.int p0)] [(.int (4 : Int32)), (.int p0)])
  have hc29 : ¬ (p0 = (4 : Int32)) := by rw [hp]; decide
  refine own_go (fun _ => XS.icmpYes X0.here hx rfl (pc0 := 29) (pc' := 36) rfl (hb hby d3_29) rfl (feq hc29).2 (by decide) (by decide)) ?_
  show GG _ _ _ _ _ _ _ s₁ (mkF m 36 #[.val (.int p0)] [])
  refine own_go (fun _ => XS.iloadN X0.here hx rfl (hb hby d3_36) rfl) ?_
  show GG _ _ _ _ _ _ _ s₁ (mkF m 37 #[.val (.int p0)] [(.int p0)])
  refine own_go (fun _ => XS.iconst X0.here hx rfl (hb hby d3_37)) ?_
  show GG _ _ _ _ _ _ _ s₁ (mkF m 38 #[.val (.int p0)] [(.int (5 : Int32)), (.int p0)])
  have hc38 : ¬ (p0 = (5 : Int32)) := by rw [hp]; decide
  refine own_go (fun _ => XS.icmpYes X0.here hx rfl (pc0 := 38) (pc' := 45) rfl (hb hby d3_38) rfl (feq hc38).2 (by decide) (by decide)) ?_
  show GG _ _ _ _ _ _ _ s₁ (mkF m 45 #[.val (.int p0)] [])
  refine own_go (fun _ => XS.iloadN X0.here hx rfl (hb hby d3_45) rfl) ?_
  show GG _ _ _ _ _ _ _ s₁ (mkF m 46 #[.val (.int p0)] [(.int p0)])
  refine own_go (fun _ => XS.bipush X0.here hx rfl (hb hby d3_46)) ?_
  show GG _ _ _ _ _ _ _ s₁ (mkF m 48 #[.val (.int p0)] [(.int (8 : Int32)), (.int p0)])
  have hc48 : ¬ (p0 = (8 : Int32)) := by rw [hp]; decide
  refine own_go (fun _ => XS.icmpYes X0.here hx rfl (pc0 := 48) (pc' := 55) rfl (hb hby d3_48) rfl (feq hc48).2 (by decide) (by decide)) ?_
  show GG _ _ _ _ _ _ _ s₁ (mkF m 55 #[.val (.int p0)] [])
  refine own_go (fun _ => XS.iloadN X0.here hx rfl (hb hby d3_55) rfl) ?_
  show GG _ _ _ _ _ _ _ s₁ (mkF m 56 #[.val (.int p0)] [(.int p0)])
  refine own_go (fun _ => XS.bipush X0.here hx rfl (hb hby d3_56)) ?_
  show GG _ _ _ _ _ _ _ s₁ (mkF m 58 #[.val (.int p0)] [(.int (9 : Int32)), (.int p0)])
  have hc58 : ¬ (p0 = (9 : Int32)) := by rw [hp]; decide
  refine own_go (fun _ => XS.icmpYes X0.here hx rfl (pc0 := 58) (pc' := 65) rfl (hb hby d3_58) rfl (feq hc58).2 (by decide) (by decide)) ?_
  show GG _ _ _ _ _ _ _ s₁ (mkF m 65 #[.val (.int p0)] [])
  refine own_go (fun _ => XS.iloadN X0.here hx rfl (hb hby d3_65) rfl) ?_
  show GG _ _ _ _ _ _ _ s₁ (mkF m 66 #[.val (.int p0)] [(.int p0)])
  refine own_go (fun _ => XS.bipush X0.here hx rfl (hb hby d3_66)) ?_
  show GG _ _ _ _ _ _ _ s₁ (mkF m 68 #[.val (.int p0)] [(.int (11 : Int32)), (.int p0)])
  have hc68 : ¬ (p0 = (11 : Int32)) := by rw [hp]; decide
  refine own_go (fun _ => XS.icmpYes X0.here hx rfl (pc0 := 68) (pc' := 75) rfl (hb hby d3_68) rfl (feq hc68).2 (by decide) (by decide)) ?_
  show GG _ _ _ _ _ _ _ s₁ (mkF m 75 #[.val (.int p0)] [])
  refine own_go (fun _ => XS.iloadN X0.here hx rfl (hb hby d3_75) rfl) ?_
  show GG _ _ _ _ _ _ _ s₁ (mkF m 76 #[.val (.int p0)] [(.int p0)])
  refine own_go (fun _ => XS.bipush X0.here hx rfl (hb hby d3_76)) ?_
  show GG _ _ _ _ _ _ _ s₁ (mkF m 78 #[.val (.int p0)] [(.int (12 : Int32)), (.int p0)])
  have hc78 : ¬ (p0 = (12 : Int32)) := by rw [hp]; decide
  refine own_go (fun _ => XS.icmpYes X0.here hx rfl (pc0 := 78) (pc' := 85) rfl (hb hby d3_78) rfl (feq hc78).2 (by decide) (by decide)) ?_
  show GG _ _ _ _ _ _ _ s₁ (mkF m 85 #[.val (.int p0)] [])
  refine own_go (fun _ => XS.iloadN X0.here hx rfl (hb hby d3_85) rfl) ?_
  show GG _ _ _ _ _ _ _ s₁ (mkF m 86 #[.val (.int p0)] [(.int p0)])
  refine own_go (fun _ => XS.bipush X0.here hx rfl (hb hby d3_86)) ?_
  show GG _ _ _ _ _ _ _ s₁ (mkF m 88 #[.val (.int p0)] [(.int (13 : Int32)), (.int p0)])
  have hc88 : ¬ (p0 = (13 : Int32)) := by rw [hp]; decide
  refine own_go (fun _ => XS.icmpYes X0.here hx rfl (pc0 := 88) (pc' := 95) rfl (hb hby d3_88) rfl (feq hc88).2 (by decide) (by decide)) ?_
  show GG _ _ _ _ _ _ _ s₁ (mkF m 95 #[.val (.int p0)] [])
  refine own_go (fun _ => XS.iloadN X0.here hx rfl (hb hby d3_95) rfl) ?_
  show GG _ _ _ _ _ _ _ s₁ (mkF m 96 #[.val (.int p0)] [(.int p0)])
  refine own_go (fun _ => XS.bipush X0.here hx rfl (hb hby d3_96)) ?_
  show GG _ _ _ _ _ _ _ s₁ (mkF m 98 #[.val (.int p0)] [(.int (14 : Int32)), (.int p0)])
  have hc98 : p0 = (14 : Int32) := hp
  refine own_go (fun _ => XS.icmpNo X0.here hx rfl (hb hby d3_98) rfl (teq hc98).2) ?_
  show GG _ _ _ _ _ _ _ s₁ (mkF m 101 #[.val (.int p0)] [])
  obtain ⟨T1, X1, e1, st1⟩ := getS2 X0 hx hZ hown (host := "") (Or.inl (hw _ (List.mem_of_getElem? (i := 37) rfl))) Via.refl e0 S_1 (g := (mkF m 101 #[.val (.int p0)] [])) rfl (hb hby d3_101)
  refine own_go (fun _ => st1 _) ?_
  show GG _ _ _ _ _ _ _ T1 (mkF m 104 #[.val (.int p0)] [(.ref a1)])
  refine own_ret X1 hx hlk (t := (.object "com/example/bellwether/bellwether/protocol/OpCode")) (w := (.ref a1)) Bd.returns rfl (Or.inr (Or.inr (Or.inr (Or.inr ⟨rfl, rfl, rfl⟩)))) (hb hby d3_104) (by decide) (by decide) ?_
  show Q3_10 Z p0 a1 h0 n0 (some (.ref a1)) T1.heap _
  rw [e1]
  exact ⟨rfl, N0, rfl⟩
theorem d3_105 : decode method_3_code 105 = .ok (.iload_n 0, 1) := by decide +kernel
theorem d3_106 : decode method_3_code 106 = .ok (.bipush (-11), 2) := by decide +kernel
theorem d3_108 : decode method_3_code 108 = .ok (.if_icmp .ne 7, 3) := by decide +kernel
theorem d3_111 : decode method_3_code 111 = .ok (.getstatic 56, 3) := by decide +kernel
theorem d3_114 : decode method_3_code 114 = .ok (.areturn, 1) := by decide +kernel
def Q3_11 (Z : State) (p0 : Int32) (a1 : Addr) (h0 : Heap) (n0 : Nat) (v : Option Value) (h : Heap) (L : List Loc) : Prop := v = some (.ref a1) ∧ Fr n0 L ∧ h = h0
set_option maxRecDepth 65536 in
set_option maxHeartbeats 40000000 in
theorem rm3_11 (l : Launch) (Z : State) (a0 : Array Value) (hw : ∀ d ∈ tables_1, d.before a0 Z = true) (ws : List Jvm.Cond) (p0 : Int32) (a1 : Addr) (h0 : Heap) (n0 : Nat) (Z0 : n0 ≤ h0.size) (hp : p0 = (-11 : Int32)) (S_1 : Sta Z h0 "com/example/bellwether/bellwether/protocol/OpCode" "CLOSE_SESSION" "Lcom/example/bellwether/bellwether/protocol/OpCode;" (.ref a1)) :
    own_CT l Z (⟨"com/example/bellwether/bellwether/protocol/OpCodeOfPinLaw", "expected", "(I)Lcom/example/bellwether/bellwether/protocol/OpCode;"⟩ : MethodName) method_3_code 1 (some (.object "com/example/bellwether/bellwether/protocol/OpCode")) ws ({ frames := 0, cells := 0, slots := 0, locals := 0 } : Room) #[(.int p0)] h0 (Q3_11 Z p0 a1 h0 n0) := by
  refine MetFree.of_bodySF (plainFor_of_name pn_com_example_bellwether_bellwether_protocol_OpCodeOfPinLaw) hisR ?_
  intro p e s m args below meth c s₁ Bd hml0 hP hK
  obtain ⟨rfl, hZ, hh⟩ := hP
  have hx := Bd.exec
  have hby := Bd.bytes
  have hml : c.maxLocals = 1 := hml0
  have hown : s.vm.findClass "com/example/bellwether/bellwether/protocol/OpCodeOfPinLaw" = some m.cls := findClass_of_methodNamed Bd.named
  have hnm := (name_of_methodNamed Bd.named Bd.method).1
  have hlk : meth.locks = false := BodyLoose.notSynchronized Bd
  have X0 : Stand p l e ({ frames := 0, cells := 0, slots := 0, locals := 0 } : Room) s m #[(.int p0)] below meth c s₁ [] 0 0 := Stand.of_body Bd
  have e0 : s₁.heap = h0 := by rw [← hh, Bd.state]; rfl
  have N0 := Fr.nil n0
  show GG p e below s ({ frames := 0, cells := 0, slots := 0, locals := 0 } : Room).cells ({ frames := 0, cells := 0, slots := 0, locals := 0 } : Room).slots (Q3_11 Z p0 a1 h0 n0) s₁ (entryFrame m #[(.int p0)] 1)
  refine own_in (ef_3 m p0) ?_
  show GG _ _ _ _ _ _ _ s₁ (mkF m 0 #[.val (.int p0)] [])
  refine own_go (fun _ => XS.iloadN X0.here hx rfl (hb hby d3_0) rfl) ?_
  show GG _ _ _ _ _ _ _ s₁ (mkF m 1 #[.val (.int p0)] [(.int p0)])
  refine own_go (fun _ => XS.iconst X0.here hx rfl (hb hby d3_1)) ?_
  show GG _ _ _ _ _ _ _ s₁ (mkF m 2 #[.val (.int p0)] [(.int (1 : Int32)), (.int p0)])
  have hc2 : ¬ (p0 = (1 : Int32)) := by rw [hp]; decide
  refine own_go (fun _ => XS.icmpYes X0.here hx rfl (pc0 := 2) (pc' := 9) rfl (hb hby d3_2) rfl (feq hc2).2 (by decide) (by decide)) ?_
  show GG _ _ _ _ _ _ _ s₁ (mkF m 9 #[.val (.int p0)] [])
  refine own_go (fun _ => XS.iloadN X0.here hx rfl (hb hby d3_9) rfl) ?_
  show GG _ _ _ _ _ _ _ s₁ (mkF m 10 #[.val (.int p0)] [(.int p0)])
  refine own_go (fun _ => XS.iconst X0.here hx rfl (hb hby d3_10)) ?_
  show GG _ _ _ _ _ _ _ s₁ (mkF m 11 #[.val (.int p0)] [(.int (2 : Int32)), (.int p0)])
  have hc11 : ¬ (p0 = (2 : Int32)) := by rw [hp]; decide
  refine own_go (fun _ => XS.icmpYes X0.here hx rfl (pc0 := 11) (pc' := 18) rfl (hb hby d3_11) rfl (feq hc11).2 (by decide) (by decide)) ?_
  show GG _ _ _ _ _ _ _ s₁ (mkF m 18 #[.val (.int p0)] [])
  refine own_go (fun _ => XS.iloadN X0.here hx rfl (hb hby d3_18) rfl) ?_
  show GG _ _ _ _ _ _ _ s₁ (mkF m 19 #[.val (.int p0)] [(.int p0)])
  refine own_go (fun _ => XS.iconst X0.here hx rfl (hb hby d3_19)) ?_
  show GG _ _ _ _ _ _ _ s₁ (mkF m 20 #[.val (.int p0)] [(.int (3 : Int32)), (.int p0)])
  have hc20 : ¬ (p0 = (3 : Int32)) := by rw [hp]; decide
  refine own_go (fun _ => XS.icmpYes X0.here hx rfl (pc0 := 20) (pc' := 27) rfl (hb hby d3_20) rfl (feq hc20).2 (by decide) (by decide)) ?_
  show GG _ _ _ _ _ _ _ s₁ (mkF m 27 #[.val (.int p0)] [])
  refine own_go (fun _ => XS.iloadN X0.here hx rfl (hb hby d3_27) rfl) ?_
  show GG _ _ _ _ _ _ _ s₁ (mkF m 28 #[.val (.int p0)] [(.int p0)])
  refine own_go (fun _ => XS.iconst X0.here hx rfl (hb hby d3_28)) ?_
  show GG _ _ _ _ _ _ _ s₁ (mkF m 29 #[.val (.int p0)] [(.int (4 : Int32)), (.int p0)])
  have hc29 : ¬ (p0 = (4 : Int32)) := by rw [hp]; decide
  refine own_go (fun _ => XS.icmpYes X0.here hx rfl (pc0 := 29) (pc' := 36) rfl (hb hby d3_29) rfl (feq hc29).2 (by decide) (by decide)) ?_
  show GG _ _ _ _ _ _ _ s₁ (mkF m 36 #[.val (.int p0)] [])
  refine own_go (fun _ => XS.iloadN X0.here hx rfl (hb hby d3_36) rfl) ?_
  show GG _ _ _ _ _ _ _ s₁ (mkF m 37 #[.val (.int p0)] [(.int p0)])
  refine own_go (fun _ => XS.iconst X0.here hx rfl (hb hby d3_37)) ?_
  show GG _ _ _ _ _ _ _ s₁ (mkF m 38 #[.val (.int p0)] [(.int (5 : Int32)), (.int p0)])
  have hc38 : ¬ (p0 = (5 : Int32)) := by rw [hp]; decide
  refine own_go (fun _ => XS.icmpYes X0.here hx rfl (pc0 := 38) (pc' := 45) rfl (hb hby d3_38) rfl (feq hc38).2 (by decide) (by decide)) ?_
  show GG _ _ _ _ _ _ _ s₁ (mkF m 45 #[.val (.int p0)] [])
  refine own_go (fun _ => XS.iloadN X0.here hx rfl (hb hby d3_45) rfl) ?_
  show GG _ _ _ _ _ _ _ s₁ (mkF m 46 #[.val (.int p0)] [(.int p0)])
  refine own_go (fun _ => XS.bipush X0.here hx rfl (hb hby d3_46)) ?_
  show GG _ _ _ _ _ _ _ s₁ (mkF m 48 #[.val (.int p0)] [(.int (8 : Int32)), (.int p0)])
  have hc48 : ¬ (p0 = (8 : Int32)) := by rw [hp]; decide
  refine own_go (fun _ => XS.icmpYes X0.here hx rfl (pc0 := 48) (pc' := 55) rfl (hb hby d3_48) rfl (feq hc48).2 (by decide) (by decide)) ?_
  show GG _ _ _ _ _ _ _ s₁ (mkF m 55 #[.val (.int p0)] [])
  refine own_go (fun _ => XS.iloadN X0.here hx rfl (hb hby d3_55) rfl) ?_
  show GG _ _ _ _ _ _ _ s₁ (mkF m 56 #[.val (.int p0)] [(.int p0)])
  refine own_go (fun _ => XS.bipush X0.here hx rfl (hb hby d3_56)) ?_
  show GG _ _ _ _ _ _ _ s₁ (mkF m 58 #[.val (.int p0)] [(.int (9 : Int32)), (.int p0)])
  have hc58 : ¬ (p0 = (9 : Int32)) := by rw [hp]; decide
  refine own_go (fun _ => XS.icmpYes X0.here hx rfl (pc0 := 58) (pc' := 65) rfl (hb hby d3_58) rfl (feq hc58).2 (by decide) (by decide)) ?_
  show GG _ _ _ _ _ _ _ s₁ (mkF m 65 #[.val (.int p0)] [])
  refine own_go (fun _ => XS.iloadN X0.here hx rfl (hb hby d3_65) rfl) ?_
  show GG _ _ _ _ _ _ _ s₁ (mkF m 66 #[.val (.int p0)] [(.int p0)])
  refine own_go (fun _ => XS.bipush X0.here hx rfl (hb hby d3_66)) ?_
  show GG _ _ _ _ _ _ _ s₁ (mkF m 68 #[.val (.int p0)] [(.int (11 : Int32)), (.int p0)])
  have hc68 : ¬ (p0 = (11 : Int32)) := by rw [hp]; decide
  refine own_go (fun _ => XS.icmpYes X0.here hx rfl (pc0 := 68) (pc' := 75) rfl (hb hby d3_68) rfl (feq hc68).2 (by decide) (by decide)) ?_
  show GG _ _ _ _ _ _ _ s₁ (mkF m 75 #[.val (.int p0)] [])
  refine own_go (fun _ => XS.iloadN X0.here hx rfl (hb hby d3_75) rfl) ?_
  show GG _ _ _ _ _ _ _ s₁ (mkF m 76 #[.val (.int p0)] [(.int p0)])
  refine own_go (fun _ => XS.bipush X0.here hx rfl (hb hby d3_76)) ?_
  show GG _ _ _ _ _ _ _ s₁ (mkF m 78 #[.val (.int p0)] [(.int (12 : Int32)), (.int p0)])
  have hc78 : ¬ (p0 = (12 : Int32)) := by rw [hp]; decide
  refine own_go (fun _ => XS.icmpYes X0.here hx rfl (pc0 := 78) (pc' := 85) rfl (hb hby d3_78) rfl (feq hc78).2 (by decide) (by decide)) ?_
  show GG _ _ _ _ _ _ _ s₁ (mkF m 85 #[.val (.int p0)] [])
  refine own_go (fun _ => XS.iloadN X0.here hx rfl (hb hby d3_85) rfl) ?_
  show GG _ _ _ _ _ _ _ s₁ (mkF m 86 #[.val (.int p0)] [(.int p0)])
  refine own_go (fun _ => XS.bipush X0.here hx rfl (hb hby d3_86)) ?_
  show GG _ _ _ _ _ _ _ s₁ (mkF m 88 #[.val (.int p0)] [(.int (13 : Int32)), (.int p0)])
  have hc88 : ¬ (p0 = (13 : Int32)) := by rw [hp]; decide
  refine own_go (fun _ => XS.icmpYes X0.here hx rfl (pc0 := 88) (pc' := 95) rfl (hb hby d3_88) rfl (feq hc88).2 (by decide) (by decide)) ?_
  show GG _ _ _ _ _ _ _ s₁ (mkF m 95 #[.val (.int p0)] [])
  refine own_go (fun _ => XS.iloadN X0.here hx rfl (hb hby d3_95) rfl) ?_
  show GG _ _ _ _ _ _ _ s₁ (mkF m 96 #[.val (.int p0)] [(.int p0)])
  refine own_go (fun _ => XS.bipush X0.here hx rfl (hb hby d3_96)) ?_
  show GG _ _ _ _ _ _ _ s₁ (mkF m 98 #[.val (.int p0)] [(.int (14 : Int32)), (.int p0)])
  have hc98 : ¬ (p0 = (14 : Int32)) := by rw [hp]; decide
  refine own_go (fun _ => XS.icmpYes X0.here hx rfl (pc0 := 98) (pc' := 105) rfl (hb hby d3_98) rfl (feq hc98).2 (by decide) (by decide)) ?_
  show GG _ _ _ _ _ _ _ s₁ (mkF m 105 #[.val (.int p0)] [])
  refine own_go (fun _ => XS.iloadN X0.here hx rfl (hb hby d3_105) rfl) ?_
  show GG _ _ _ _ _ _ _ s₁ (mkF m 106 #[.val (.int p0)] [(.int p0)])
  refine own_go (fun _ => XS.bipush X0.here hx rfl (hb hby d3_106)) ?_
  show GG _ _ _ _ _ _ _ s₁ (mkF m 108 #[.val (.int p0)] [(.int (-11 : Int32)), (.int p0)])
  have hc108 : p0 = (-11 : Int32) := hp
  refine own_go (fun _ => XS.icmpNo X0.here hx rfl (hb hby d3_108) rfl (teq hc108).2) ?_
  show GG _ _ _ _ _ _ _ s₁ (mkF m 111 #[.val (.int p0)] [])
  obtain ⟨T1, X1, e1, st1⟩ := getS2 X0 hx hZ hown (host := "") (Or.inl (hw _ (List.mem_of_getElem? (i := 50) rfl))) Via.refl e0 S_1 (g := (mkF m 111 #[.val (.int p0)] [])) rfl (hb hby d3_111)
  refine own_go (fun _ => st1 _) ?_
  show GG _ _ _ _ _ _ _ T1 (mkF m 114 #[.val (.int p0)] [(.ref a1)])
  refine own_ret X1 hx hlk (t := (.object "com/example/bellwether/bellwether/protocol/OpCode")) (w := (.ref a1)) Bd.returns rfl (Or.inr (Or.inr (Or.inr (Or.inr ⟨rfl, rfl, rfl⟩)))) (hb hby d3_114) (by decide) (by decide) ?_
  show Q3_11 Z p0 a1 h0 n0 (some (.ref a1)) T1.heap _
  rw [e1]
  exact ⟨rfl, N0, rfl⟩
theorem d3_115 : decode method_3_code 115 = .ok (.aconst_null, 1) := by decide +kernel
theorem d3_116 : decode method_3_code 116 = .ok (.areturn, 1) := by decide +kernel
def Q3_12 (Z : State) (p0 : Int32) (h0 : Heap) (n0 : Nat) (v : Option Value) (h : Heap) (L : List Loc) : Prop := v = some .null ∧ Fr n0 L ∧ h = h0
set_option maxRecDepth 65536 in
set_option maxHeartbeats 40000000 in
theorem rm3_12 (l : Launch) (Z : State) (a0 : Array Value) (hw : ∀ d ∈ tables_1, d.before a0 Z = true) (ws : List Jvm.Cond) (p0 : Int32) (h0 : Heap) (n0 : Nat) (Z0 : n0 ≤ h0.size) (hp0 : ¬ ((1 : Int32) = p0)) (hp1 : ¬ ((2 : Int32) = p0)) (hp2 : ¬ ((3 : Int32) = p0)) (hp3 : ¬ ((4 : Int32) = p0)) (hp4 : ¬ ((5 : Int32) = p0)) (hp5 : ¬ ((8 : Int32) = p0)) (hp6 : ¬ ((9 : Int32) = p0)) (hp7 : ¬ ((11 : Int32) = p0)) (hp8 : ¬ ((12 : Int32) = p0)) (hp9 : ¬ ((13 : Int32) = p0)) (hp10 : ¬ ((14 : Int32) = p0)) (hp11 : ¬ ((-11 : Int32) = p0)) :
    own_CT l Z (⟨"com/example/bellwether/bellwether/protocol/OpCodeOfPinLaw", "expected", "(I)Lcom/example/bellwether/bellwether/protocol/OpCode;"⟩ : MethodName) method_3_code 1 (some (.object "com/example/bellwether/bellwether/protocol/OpCode")) ws ({ frames := 0, cells := 0, slots := 0, locals := 0 } : Room) #[(.int p0)] h0 (Q3_12 Z p0 h0 n0) := by
  refine MetFree.of_bodySF (plainFor_of_name pn_com_example_bellwether_bellwether_protocol_OpCodeOfPinLaw) hisR ?_
  intro p e s m args below meth c s₁ Bd hml0 hP hK
  obtain ⟨rfl, hZ, hh⟩ := hP
  have hx := Bd.exec
  have hby := Bd.bytes
  have hml : c.maxLocals = 1 := hml0
  have hown : s.vm.findClass "com/example/bellwether/bellwether/protocol/OpCodeOfPinLaw" = some m.cls := findClass_of_methodNamed Bd.named
  have hnm := (name_of_methodNamed Bd.named Bd.method).1
  have hlk : meth.locks = false := BodyLoose.notSynchronized Bd
  have X0 : Stand p l e ({ frames := 0, cells := 0, slots := 0, locals := 0 } : Room) s m #[(.int p0)] below meth c s₁ [] 0 0 := Stand.of_body Bd
  have e0 : s₁.heap = h0 := by rw [← hh, Bd.state]; rfl
  have N0 := Fr.nil n0
  show GG p e below s ({ frames := 0, cells := 0, slots := 0, locals := 0 } : Room).cells ({ frames := 0, cells := 0, slots := 0, locals := 0 } : Room).slots (Q3_12 Z p0 h0 n0) s₁ (entryFrame m #[(.int p0)] 1)
  refine own_in (ef_3 m p0) ?_
  show GG _ _ _ _ _ _ _ s₁ (mkF m 0 #[.val (.int p0)] [])
  refine own_go (fun _ => XS.iloadN X0.here hx rfl (hb hby d3_0) rfl) ?_
  show GG _ _ _ _ _ _ _ s₁ (mkF m 1 #[.val (.int p0)] [(.int p0)])
  refine own_go (fun _ => XS.iconst X0.here hx rfl (hb hby d3_1)) ?_
  show GG _ _ _ _ _ _ _ s₁ (mkF m 2 #[.val (.int p0)] [(.int (1 : Int32)), (.int p0)])
  have hc2 : ¬ (p0 = (1 : Int32)) := fun q => hp0 q.symm
  refine own_go (fun _ => XS.icmpYes X0.here hx rfl (pc0 := 2) (pc' := 9) rfl (hb hby d3_2) rfl (feq hc2).2 (by decide) (by decide)) ?_
  show GG _ _ _ _ _ _ _ s₁ (mkF m 9 #[.val (.int p0)] [])
  refine own_go (fun _ => XS.iloadN X0.here hx rfl (hb hby d3_9) rfl) ?_
  show GG _ _ _ _ _ _ _ s₁ (mkF m 10 #[.val (.int p0)] [(.int p0)])
  refine own_go (fun _ => XS.iconst X0.here hx rfl (hb hby d3_10)) ?_
  show GG _ _ _ _ _ _ _ s₁ (mkF m 11 #[.val (.int p0)] [(.int (2 : Int32)), (.int p0)])
  have hc11 : ¬ (p0 = (2 : Int32)) := fun q => hp1 q.symm
  refine own_go (fun _ => XS.icmpYes X0.here hx rfl (pc0 := 11) (pc' := 18) rfl (hb hby d3_11) rfl (feq hc11).2 (by decide) (by decide)) ?_
  show GG _ _ _ _ _ _ _ s₁ (mkF m 18 #[.val (.int p0)] [])
  refine own_go (fun _ => XS.iloadN X0.here hx rfl (hb hby d3_18) rfl) ?_
  show GG _ _ _ _ _ _ _ s₁ (mkF m 19 #[.val (.int p0)] [(.int p0)])
  refine own_go (fun _ => XS.iconst X0.here hx rfl (hb hby d3_19)) ?_
  show GG _ _ _ _ _ _ _ s₁ (mkF m 20 #[.val (.int p0)] [(.int (3 : Int32)), (.int p0)])
  have hc20 : ¬ (p0 = (3 : Int32)) := fun q => hp2 q.symm
  refine own_go (fun _ => XS.icmpYes X0.here hx rfl (pc0 := 20) (pc' := 27) rfl (hb hby d3_20) rfl (feq hc20).2 (by decide) (by decide)) ?_
  show GG _ _ _ _ _ _ _ s₁ (mkF m 27 #[.val (.int p0)] [])
  refine own_go (fun _ => XS.iloadN X0.here hx rfl (hb hby d3_27) rfl) ?_
  show GG _ _ _ _ _ _ _ s₁ (mkF m 28 #[.val (.int p0)] [(.int p0)])
  refine own_go (fun _ => XS.iconst X0.here hx rfl (hb hby d3_28)) ?_
  show GG _ _ _ _ _ _ _ s₁ (mkF m 29 #[.val (.int p0)] [(.int (4 : Int32)), (.int p0)])
  have hc29 : ¬ (p0 = (4 : Int32)) := fun q => hp3 q.symm
  refine own_go (fun _ => XS.icmpYes X0.here hx rfl (pc0 := 29) (pc' := 36) rfl (hb hby d3_29) rfl (feq hc29).2 (by decide) (by decide)) ?_
  show GG _ _ _ _ _ _ _ s₁ (mkF m 36 #[.val (.int p0)] [])
  refine own_go (fun _ => XS.iloadN X0.here hx rfl (hb hby d3_36) rfl) ?_
  show GG _ _ _ _ _ _ _ s₁ (mkF m 37 #[.val (.int p0)] [(.int p0)])
  refine own_go (fun _ => XS.iconst X0.here hx rfl (hb hby d3_37)) ?_
  show GG _ _ _ _ _ _ _ s₁ (mkF m 38 #[.val (.int p0)] [(.int (5 : Int32)), (.int p0)])
  have hc38 : ¬ (p0 = (5 : Int32)) := fun q => hp4 q.symm
  refine own_go (fun _ => XS.icmpYes X0.here hx rfl (pc0 := 38) (pc' := 45) rfl (hb hby d3_38) rfl (feq hc38).2 (by decide) (by decide)) ?_
  show GG _ _ _ _ _ _ _ s₁ (mkF m 45 #[.val (.int p0)] [])
  refine own_go (fun _ => XS.iloadN X0.here hx rfl (hb hby d3_45) rfl) ?_
  show GG _ _ _ _ _ _ _ s₁ (mkF m 46 #[.val (.int p0)] [(.int p0)])
  refine own_go (fun _ => XS.bipush X0.here hx rfl (hb hby d3_46)) ?_
  show GG _ _ _ _ _ _ _ s₁ (mkF m 48 #[.val (.int p0)] [(.int (8 : Int32)), (.int p0)])
  have hc48 : ¬ (p0 = (8 : Int32)) := fun q => hp5 q.symm
  refine own_go (fun _ => XS.icmpYes X0.here hx rfl (pc0 := 48) (pc' := 55) rfl (hb hby d3_48) rfl (feq hc48).2 (by decide) (by decide)) ?_
  show GG _ _ _ _ _ _ _ s₁ (mkF m 55 #[.val (.int p0)] [])
  refine own_go (fun _ => XS.iloadN X0.here hx rfl (hb hby d3_55) rfl) ?_
  show GG _ _ _ _ _ _ _ s₁ (mkF m 56 #[.val (.int p0)] [(.int p0)])
  refine own_go (fun _ => XS.bipush X0.here hx rfl (hb hby d3_56)) ?_
  show GG _ _ _ _ _ _ _ s₁ (mkF m 58 #[.val (.int p0)] [(.int (9 : Int32)), (.int p0)])
  have hc58 : ¬ (p0 = (9 : Int32)) := fun q => hp6 q.symm
  refine own_go (fun _ => XS.icmpYes X0.here hx rfl (pc0 := 58) (pc' := 65) rfl (hb hby d3_58) rfl (feq hc58).2 (by decide) (by decide)) ?_
  show GG _ _ _ _ _ _ _ s₁ (mkF m 65 #[.val (.int p0)] [])
  refine own_go (fun _ => XS.iloadN X0.here hx rfl (hb hby d3_65) rfl) ?_
  show GG _ _ _ _ _ _ _ s₁ (mkF m 66 #[.val (.int p0)] [(.int p0)])
  refine own_go (fun _ => XS.bipush X0.here hx rfl (hb hby d3_66)) ?_
  show GG _ _ _ _ _ _ _ s₁ (mkF m 68 #[.val (.int p0)] [(.int (11 : Int32)), (.int p0)])
  have hc68 : ¬ (p0 = (11 : Int32)) := fun q => hp7 q.symm
  refine own_go (fun _ => XS.icmpYes X0.here hx rfl (pc0 := 68) (pc' := 75) rfl (hb hby d3_68) rfl (feq hc68).2 (by decide) (by decide)) ?_
  show GG _ _ _ _ _ _ _ s₁ (mkF m 75 #[.val (.int p0)] [])
  refine own_go (fun _ => XS.iloadN X0.here hx rfl (hb hby d3_75) rfl) ?_
  show GG _ _ _ _ _ _ _ s₁ (mkF m 76 #[.val (.int p0)] [(.int p0)])
  refine own_go (fun _ => XS.bipush X0.here hx rfl (hb hby d3_76)) ?_
  show GG _ _ _ _ _ _ _ s₁ (mkF m 78 #[.val (.int p0)] [(.int (12 : Int32)), (.int p0)])
  have hc78 : ¬ (p0 = (12 : Int32)) := fun q => hp8 q.symm
  refine own_go (fun _ => XS.icmpYes X0.here hx rfl (pc0 := 78) (pc' := 85) rfl (hb hby d3_78) rfl (feq hc78).2 (by decide) (by decide)) ?_
  show GG _ _ _ _ _ _ _ s₁ (mkF m 85 #[.val (.int p0)] [])
  refine own_go (fun _ => XS.iloadN X0.here hx rfl (hb hby d3_85) rfl) ?_
  show GG _ _ _ _ _ _ _ s₁ (mkF m 86 #[.val (.int p0)] [(.int p0)])
  refine own_go (fun _ => XS.bipush X0.here hx rfl (hb hby d3_86)) ?_
  show GG _ _ _ _ _ _ _ s₁ (mkF m 88 #[.val (.int p0)] [(.int (13 : Int32)), (.int p0)])
  have hc88 : ¬ (p0 = (13 : Int32)) := fun q => hp9 q.symm
  refine own_go (fun _ => XS.icmpYes X0.here hx rfl (pc0 := 88) (pc' := 95) rfl (hb hby d3_88) rfl (feq hc88).2 (by decide) (by decide)) ?_
  show GG _ _ _ _ _ _ _ s₁ (mkF m 95 #[.val (.int p0)] [])
  refine own_go (fun _ => XS.iloadN X0.here hx rfl (hb hby d3_95) rfl) ?_
  show GG _ _ _ _ _ _ _ s₁ (mkF m 96 #[.val (.int p0)] [(.int p0)])
  refine own_go (fun _ => XS.bipush X0.here hx rfl (hb hby d3_96)) ?_
  show GG _ _ _ _ _ _ _ s₁ (mkF m 98 #[.val (.int p0)] [(.int (14 : Int32)), (.int p0)])
  have hc98 : ¬ (p0 = (14 : Int32)) := fun q => hp10 q.symm
  refine own_go (fun _ => XS.icmpYes X0.here hx rfl (pc0 := 98) (pc' := 105) rfl (hb hby d3_98) rfl (feq hc98).2 (by decide) (by decide)) ?_
  show GG _ _ _ _ _ _ _ s₁ (mkF m 105 #[.val (.int p0)] [])
  refine own_go (fun _ => XS.iloadN X0.here hx rfl (hb hby d3_105) rfl) ?_
  show GG _ _ _ _ _ _ _ s₁ (mkF m 106 #[.val (.int p0)] [(.int p0)])
  refine own_go (fun _ => XS.bipush X0.here hx rfl (hb hby d3_106)) ?_
  show GG _ _ _ _ _ _ _ s₁ (mkF m 108 #[.val (.int p0)] [(.int (-11 : Int32)), (.int p0)])
  have hc108 : ¬ (p0 = (-11 : Int32)) := fun q => hp11 q.symm
  refine own_go (fun _ => XS.icmpYes X0.here hx rfl (pc0 := 108) (pc' := 115) rfl (hb hby d3_108) rfl (feq hc108).2 (by decide) (by decide)) ?_
  show GG _ _ _ _ _ _ _ s₁ (mkF m 115 #[.val (.int p0)] [])
  refine own_go (fun _ => XS.aconstNull X0.here hx rfl (hb hby d3_115)) ?_
  show GG _ _ _ _ _ _ _ s₁ (mkF m 116 #[.val (.int p0)] [.null])
  refine own_ret X0 hx hlk (t := (.object "com/example/bellwether/bellwether/protocol/OpCode")) (w := .null) Bd.returns rfl (Or.inr (Or.inr (Or.inr (Or.inr ⟨rfl, rfl, rfl⟩)))) (hb hby d3_116) (by decide) (by decide) ?_
  show Q3_12 Z p0 h0 n0 (some .null) s₁.heap _
  rw [e0]
  exact ⟨rfl, N0, rfl⟩
theorem d4_0 : decode prog_23_method_4_code 0 = .ok (.aload_n 0, 1) := by decide +kernel
theorem d4_1 : decode prog_23_method_4_code 1 = .ok (.getfield 59, 3) := by decide +kernel
theorem d4_4 : decode prog_23_method_4_code 4 = .ok (.ireturn, 1) := by decide +kernel
theorem ef_4 (m : MethodId) (x0 : Addr) : entryFrame m #[(.ref x0)] 1 = mkF m 0 #[.val (.ref x0)] [] := by first | (simp [entryFrame, mkF, argsToLocals, Value.category]; done) | rfl
def Q4 (Z : State) (a1 : Addr) (cc : Int32) (h0 : Heap) (n0 : Nat) (v : Option Value) (h : Heap) (L : List Loc) : Prop := v = some (.int cc) ∧ Fr n0 L ∧ h = h0
set_option maxRecDepth 65536 in
set_option maxHeartbeats 40000000 in
theorem rm4 (l : Launch) (Z : State) (a0 : Array Value) (hw : ∀ d ∈ tables_1, d.before a0 Z = true) (ws : List Jvm.Cond) (a1 : Addr) (cc : Int32) (h0 : Heap) (n0 : Nat) (Z0 : n0 ≤ h0.size) (F_1 : Fld Z h0 a1 "com/example/bellwether/bellwether/protocol/OpCode" "code" "I" (.int cc)) :
    own_CT l Z (⟨"com/example/bellwether/bellwether/protocol/OpCode", "code", "()I"⟩ : MethodName) prog_23_method_4_code 1 (some .int) ws ({ frames := 0, cells := 0, slots := 0, locals := 0 } : Room) #[(.ref a1)] h0 (Q4 Z a1 cc h0 n0) := by
  refine MetFree.of_bodySF (plainFor_of_name pn_com_example_bellwether_bellwether_protocol_OpCode) hisR ?_
  intro p e s m args below meth c s₁ Bd hml0 hP hK
  obtain ⟨rfl, hZ, hh⟩ := hP
  have hx := Bd.exec
  have hby := Bd.bytes
  have hml : c.maxLocals = 1 := hml0
  have hown : s.vm.findClass "com/example/bellwether/bellwether/protocol/OpCode" = some m.cls := findClass_of_methodNamed Bd.named
  have hnm := (name_of_methodNamed Bd.named Bd.method).1
  have hlk : meth.locks = false := BodyLoose.notSynchronized Bd
  have X0 : Stand p l e ({ frames := 0, cells := 0, slots := 0, locals := 0 } : Room) s m #[(.ref a1)] below meth c s₁ [] 0 0 := Stand.of_body Bd
  have e0 : s₁.heap = h0 := by rw [← hh, Bd.state]; rfl
  have N0 := Fr.nil n0
  show GG p e below s ({ frames := 0, cells := 0, slots := 0, locals := 0 } : Room).cells ({ frames := 0, cells := 0, slots := 0, locals := 0 } : Room).slots (Q4 Z a1 cc h0 n0) s₁ (entryFrame m #[(.ref a1)] 1)
  refine own_in (ef_4 m a1) ?_
  show GG _ _ _ _ _ _ _ s₁ (mkF m 0 #[.val (.ref a1)] [])
  refine own_go (fun _ => XS.aloadN X0.here hx rfl (hb hby d4_0) rfl rfl) ?_
  show GG _ _ _ _ _ _ _ s₁ (mkF m 1 #[.val (.ref a1)] [(.ref a1)])
  obtain ⟨T1, X1, e1, st1⟩ := getF X0 hx hZ hown (host := "") (Or.inl (hw _ (List.mem_of_getElem? (i := 31) rfl))) Via.refl e0 F_1 (g := (mkF m 1 #[.val (.ref a1)] [(.ref a1)])) rfl rfl (hb hby d4_1)
  refine own_go (fun _ => st1 _) ?_
  show GG _ _ _ _ _ _ _ T1 (mkF m 4 #[.val (.ref a1)] [(.int cc)])
  refine own_ret X1 hx hlk (t := .int) (w := (.int cc)) Bd.returns rfl (Or.inl ⟨rfl, by simp, _, rfl⟩) (hb hby d4_4) (by decide) (by decide) ?_
  show Q4 Z a1 cc h0 n0 (some (.int cc)) T1.heap _
  rw [e1]
  exact ⟨rfl, N0, rfl⟩
theorem pd__I_Lcom_example_bellwether_bellwether_pr_198 : parseMethodDescriptor "(I)Lcom/example/bellwether/bellwether/protocol/OpCode;" = some ⟨[.int], some (.object "com/example/bellwether/bellwether/protocol/OpCode")⟩ := by decide +kernel
theorem pd___I_154 : parseMethodDescriptor "()I" = some ⟨[], some .int⟩ := by decide +kernel
theorem ef_0 (m : MethodId) (x0 : Int32) (x1 : Int32) : entryFrame m #[(.int x0), (.int x1)] maxLocals = mkF m 0 #[.val (.int x0), .val (.int x1), .unset, .unset, .unset] [] := by first | (simp [entryFrame, mkF, argsToLocals, Value.category, maxLocals]; done) | rfl
def Q0 (Z : State) (p0 : Int32) (p1 : Int32) (wV : Addr) (w0 w1 w2 w3 w4 w5 w6 w7 w8 w9 w10 w11 : Addr) (h0 : Heap) (n0 : Nat) (v : Option Value) (h : Heap) (L : List Loc) : Prop := v = some (.int 1) ∧ Fr n0 L
set_option maxRecDepth 65536 in
set_option maxHeartbeats 40000000 in
theorem rm0 (l : Launch) (Z : State) (a0 : Array Value) (hw : ∀ d ∈ tables_1, d.before a0 Z = true) (ws : List Jvm.Cond) (p0 : Int32) (p1 : Int32) (wV : Addr) (w0 w1 w2 w3 w4 w5 w6 w7 w8 w9 w10 w11 : Addr) (h0 : Heap) (n0 : Nat) (Z0 : n0 ≤ h0.size) (O0 : Old Z n0 h0) (S_V : Sta Z Z.heap "com/example/bellwether/bellwether/protocol/OpCode" "$VALUES" "[Lcom/example/bellwether/bellwether/protocol/OpCode;" (.ref wV)) (V_V : Arx Z h0 wV (.object "com/example/bellwether/bellwether/protocol/OpCode") [(.ref w0), (.ref w1), (.ref w2), (.ref w3), (.ref w4), (.ref w5), (.ref w6), (.ref w7), (.ref w8), (.ref w9), (.ref w10), (.ref w11)]) (E_V : Exa Z h0 wV "[Lcom/example/bellwether/bellwether/protocol/OpCode;") (S_0 : Sta Z Z.heap "com/example/bellwether/bellwether/protocol/OpCode" "CREATE" "Lcom/example/bellwether/bellwether/protocol/OpCode;" (.ref w0)) (E_0 : Exa Z h0 w0 "com/example/bellwether/bellwether/protocol/OpCode") (F_0 : Fld Z h0 w0 "com/example/bellwether/bellwether/protocol/OpCode" "code" "I" (.int (1 : Int32))) (S_1 : Sta Z Z.heap "com/example/bellwether/bellwether/protocol/OpCode" "DELETE" "Lcom/example/bellwether/bellwether/protocol/OpCode;" (.ref w1)) (E_1 : Exa Z h0 w1 "com/example/bellwether/bellwether/protocol/OpCode") (F_1 : Fld Z h0 w1 "com/example/bellwether/bellwether/protocol/OpCode" "code" "I" (.int (2 : Int32))) (S_2 : Sta Z Z.heap "com/example/bellwether/bellwether/protocol/OpCode" "EXISTS" "Lcom/example/bellwether/bellwether/protocol/OpCode;" (.ref w2)) (E_2 : Exa Z h0 w2 "com/example/bellwether/bellwether/protocol/OpCode") (F_2 : Fld Z h0 w2 "com/example/bellwether/bellwether/protocol/OpCode" "code" "I" (.int (3 : Int32))) (S_3 : Sta Z Z.heap "com/example/bellwether/bellwether/protocol/OpCode" "GET_DATA" "Lcom/example/bellwether/bellwether/protocol/OpCode;" (.ref w3)) (E_3 : Exa Z h0 w3 "com/example/bellwether/bellwether/protocol/OpCode") (F_3 : Fld Z h0 w3 "com/example/bellwether/bellwether/protocol/OpCode" "code" "I" (.int (4 : Int32))) (S_4 : Sta Z Z.heap "com/example/bellwether/bellwether/protocol/OpCode" "SET_DATA" "Lcom/example/bellwether/bellwether/protocol/OpCode;" (.ref w4)) (E_4 : Exa Z h0 w4 "com/example/bellwether/bellwether/protocol/OpCode") (F_4 : Fld Z h0 w4 "com/example/bellwether/bellwether/protocol/OpCode" "code" "I" (.int (5 : Int32))) (S_5 : Sta Z Z.heap "com/example/bellwether/bellwether/protocol/OpCode" "GET_CHILDREN" "Lcom/example/bellwether/bellwether/protocol/OpCode;" (.ref w5)) (E_5 : Exa Z h0 w5 "com/example/bellwether/bellwether/protocol/OpCode") (F_5 : Fld Z h0 w5 "com/example/bellwether/bellwether/protocol/OpCode" "code" "I" (.int (8 : Int32))) (S_6 : Sta Z Z.heap "com/example/bellwether/bellwether/protocol/OpCode" "SYNC" "Lcom/example/bellwether/bellwether/protocol/OpCode;" (.ref w6)) (E_6 : Exa Z h0 w6 "com/example/bellwether/bellwether/protocol/OpCode") (F_6 : Fld Z h0 w6 "com/example/bellwether/bellwether/protocol/OpCode" "code" "I" (.int (9 : Int32))) (S_7 : Sta Z Z.heap "com/example/bellwether/bellwether/protocol/OpCode" "PING" "Lcom/example/bellwether/bellwether/protocol/OpCode;" (.ref w7)) (E_7 : Exa Z h0 w7 "com/example/bellwether/bellwether/protocol/OpCode") (F_7 : Fld Z h0 w7 "com/example/bellwether/bellwether/protocol/OpCode" "code" "I" (.int (11 : Int32))) (S_8 : Sta Z Z.heap "com/example/bellwether/bellwether/protocol/OpCode" "GET_CHILDREN2" "Lcom/example/bellwether/bellwether/protocol/OpCode;" (.ref w8)) (E_8 : Exa Z h0 w8 "com/example/bellwether/bellwether/protocol/OpCode") (F_8 : Fld Z h0 w8 "com/example/bellwether/bellwether/protocol/OpCode" "code" "I" (.int (12 : Int32))) (S_9 : Sta Z Z.heap "com/example/bellwether/bellwether/protocol/OpCode" "CHECK" "Lcom/example/bellwether/bellwether/protocol/OpCode;" (.ref w9)) (E_9 : Exa Z h0 w9 "com/example/bellwether/bellwether/protocol/OpCode") (F_9 : Fld Z h0 w9 "com/example/bellwether/bellwether/protocol/OpCode" "code" "I" (.int (13 : Int32))) (S_10 : Sta Z Z.heap "com/example/bellwether/bellwether/protocol/OpCode" "MULTI" "Lcom/example/bellwether/bellwether/protocol/OpCode;" (.ref w10)) (E_10 : Exa Z h0 w10 "com/example/bellwether/bellwether/protocol/OpCode") (F_10 : Fld Z h0 w10 "com/example/bellwether/bellwether/protocol/OpCode" "code" "I" (.int (14 : Int32))) (S_11 : Sta Z Z.heap "com/example/bellwether/bellwether/protocol/OpCode" "CLOSE_SESSION" "Lcom/example/bellwether/bellwether/protocol/OpCode;" (.ref w11)) (E_11 : Exa Z h0 w11 "com/example/bellwether/bellwether/protocol/OpCode") (F_11 : Fld Z h0 w11 "com/example/bellwether/bellwether/protocol/OpCode" "code" "I" (.int (-11 : Int32))) :
    own_CT l Z x code maxLocals ret ws room_1 #[(.int p0), (.int p1)] h0 (Q0 Z p0 p1 wV w0 w1 w2 w3 w4 w5 w6 w7 w8 w9 w10 w11 h0 n0) := by
  refine MetFree.of_bodySF (plainFor_of_name pn_com_example_bellwether_bellwether_protocol_OpCodeOfPinLaw) hisR ?_
  intro p e s m args below meth c s₁ Bd hml0 hP hK
  obtain ⟨rfl, hZ, hh⟩ := hP
  have hx := Bd.exec
  have hby := Bd.bytes
  have hml : c.maxLocals = 5 := hml0
  have hown : s.vm.findClass "com/example/bellwether/bellwether/protocol/OpCodeOfPinLaw" = some m.cls := findClass_of_methodNamed Bd.named
  have hnm := (name_of_methodNamed Bd.named Bd.method).1
  have hlk : meth.locks = false := BodyLoose.notSynchronized Bd
  have X0 : Stand p l e room_1 s m #[(.int p0), (.int p1)] below meth c s₁ [] 0 0 := Stand.of_body Bd
  have e0 : s₁.heap = h0 := by rw [← hh, Bd.state]; rfl
  have N0 := Fr.nil n0
  show GG p e below s room_1.cells room_1.slots (Q0 Z p0 p1 wV w0 w1 w2 w3 w4 w5 w6 w7 w8 w9 w10 w11 h0 n0) s₁ (entryFrame m #[(.int p0), (.int p1)] maxLocals)
  refine own_in (ef_0 m p0 p1) ?_
  have K0 := Keep.refl h0 []
  show GG _ _ _ _ _ _ _ s₁ (mkF m 0 #[.val (.int p0), .val (.int p1), .unset, .unset, .unset] [])
  refine own_go (fun _ => XS.iloadN X0.here hx rfl (hb hby at_0) rfl) ?_
  show GG _ _ _ _ _ _ _ s₁ (mkF m 1 #[.val (.int p0), .val (.int p1), .unset, .unset, .unset] [(.int p1)])
  refine own_go (fun _ => XS.iconst X0.here hx rfl (hb hby at_1)) ?_
  show GG _ _ _ _ _ _ _ s₁ (mkF m 2 #[.val (.int p0), .val (.int p1), .unset, .unset, .unset] [(.int (1 : Int32)), (.int p1)])
  refine own_go (fun _ => XS.iand X0.here hx rfl (hb hby at_2) rfl) ?_
  show GG _ _ _ _ _ _ _ s₁ (mkF m 3 #[.val (.int p0), .val (.int p1), .unset, .unset, .unset] [(.int (p1 &&& (1 : Int32)))])
  have cx1 := c_mask p1 (1 : Int32) 1 (by decide) (by decide)
  generalize hx1 : (p1 &&& (1 : Int32)) = x1 at cx1 ⊢
  have rx1 := rng32 x1
  refine own_join (g' := (mkF m 19 #[.val (.int p0), .val (.int p1), .unset, .unset, .unset] [(.int (if x1 = (0 : Int32) then ((((p1.toUInt32 >>> ((1 : Int32) &&& 31).toUInt32).toInt32) &&& (31 : Int32)) - (16 : Int32)) else p0))])) (fun J3 => ?_) ?_
  · by_cases hc3 : x1 = (0 : Int32)
    · skip
      refine own_go (fun _ => XS.ifYes X0.here hx rfl (pc0 := 3) (pc' := 10) rfl (hb hby at_3) rfl ((if0 _ _).trans (teq hc3).1) (by decide) (by decide)) ?_
      show GG _ _ _ _ _ _ _ s₁ (mkF m 10 #[.val (.int p0), .val (.int p1), .unset, .unset, .unset] [])
      refine own_go (fun _ => XS.iloadN X0.here hx rfl (hb hby at_10) rfl) ?_
      show GG _ _ _ _ _ _ _ s₁ (mkF m 11 #[.val (.int p0), .val (.int p1), .unset, .unset, .unset] [(.int p1)])
      refine own_go (fun _ => XS.iconst X0.here hx rfl (hb hby at_11)) ?_
      show GG _ _ _ _ _ _ _ s₁ (mkF m 12 #[.val (.int p0), .val (.int p1), .unset, .unset, .unset] [(.int (1 : Int32)), (.int p1)])
      refine own_go (fun _ => XS.iushr X0.here hx rfl (hb hby at_12) rfl) ?_
      show GG _ _ _ _ _ _ _ s₁ (mkF m 13 #[.val (.int p0), .val (.int p1), .unset, .unset, .unset] [(.int ((p1.toUInt32 >>> ((1 : Int32) &&& 31).toUInt32).toInt32))])
      refine own_go (fun _ => XS.bipush X0.here hx rfl (hb hby at_13)) ?_
      show GG _ _ _ _ _ _ _ s₁ (mkF m 15 #[.val (.int p0), .val (.int p1), .unset, .unset, .unset] [(.int (31 : Int32)), (.int ((p1.toUInt32 >>> ((1 : Int32) &&& 31).toUInt32).toInt32))])
      refine own_go (fun _ => XS.iand X0.here hx rfl (hb hby at_15) rfl) ?_
      show GG _ _ _ _ _ _ _ s₁ (mkF m 16 #[.val (.int p0), .val (.int p1), .unset, .unset, .unset] [(.int (((p1.toUInt32 >>> ((1 : Int32) &&& 31).toUInt32).toInt32) &&& (31 : Int32)))])
      refine own_go (fun _ => XS.bipush X0.here hx rfl (hb hby at_16)) ?_
      show GG _ _ _ _ _ _ _ s₁ (mkF m 18 #[.val (.int p0), .val (.int p1), .unset, .unset, .unset] [(.int (16 : Int32)), (.int (((p1.toUInt32 >>> ((1 : Int32) &&& 31).toUInt32).toInt32) &&& (31 : Int32)))])
      refine own_go (fun _ => XS.isub X0.here hx rfl (hb hby at_18) rfl) ?_
      show GG _ _ _ _ _ _ _ s₁ (mkF m 19 #[.val (.int p0), .val (.int p1), .unset, .unset, .unset] [(.int ((((p1.toUInt32 >>> ((1 : Int32) &&& 31).toUInt32).toInt32) &&& (31 : Int32)) - (16 : Int32)))])
      simp only [if_pos hc3] at J3
      exact J3
    · skip
      refine own_go (fun _ => XS.ifNo X0.here hx rfl (hb hby at_3) rfl ((if0 _ _).trans (feq hc3).1)) ?_
      show GG _ _ _ _ _ _ _ s₁ (mkF m 6 #[.val (.int p0), .val (.int p1), .unset, .unset, .unset] [])
      refine own_go (fun _ => XS.iloadN X0.here hx rfl (hb hby at_6) rfl) ?_
      show GG _ _ _ _ _ _ _ s₁ (mkF m 7 #[.val (.int p0), .val (.int p1), .unset, .unset, .unset] [(.int p0)])
      refine own_go (fun _ => XS.goto X0.here hx rfl (pc0 := 7) (pc' := 19) rfl (hb hby at_7) (by decide) (by decide)) ?_
      show GG _ _ _ _ _ _ _ s₁ (mkF m 19 #[.val (.int p0), .val (.int p1), .unset, .unset, .unset] [(.int p0)])
      simp only [if_neg hc3] at J3
      exact J3
  show GG _ _ _ _ _ _ _ s₁ (mkF m 19 #[.val (.int p0), .val (.int p1), .unset, .unset, .unset] [(.int (if x1 = (0 : Int32) then ((((p1.toUInt32 >>> ((1 : Int32) &&& 31).toUInt32).toInt32) &&& (31 : Int32)) - (16 : Int32)) else p0))])
  generalize hx2 : (if x1 = (0 : Int32) then ((((p1.toUInt32 >>> ((1 : Int32) &&& 31).toUInt32).toInt32) &&& (31 : Int32)) - (16 : Int32)) else p0) = x2
  refine own_go (fun _ => XS.istoreN X0.here hx rfl (hb hby at_19) rfl (l' := #[.val (.int p0), .val (.int p1), .val (.int x2), .unset, .unset]) rfl) ?_
  show GG _ _ _ _ _ _ _ s₁ (mkF m 20 #[.val (.int p0), .val (.int p1), .val (.int x2), .unset, .unset] [])
  by_cases hk0 : x2 = (1 : Int32)
  · skip
    show GG _ _ _ _ _ _ _ s₁ (mkF m 20 #[.val (.int p0), .val (.int p1), .val (.int x2), .unset, .unset] [])
    refine own_go (fun _ => XS.iloadN X0.here hx rfl (hb hby at_20) rfl) ?_
    show GG _ _ _ _ _ _ _ s₁ (mkF m 21 #[.val (.int p0), .val (.int p1), .val (.int x2), .unset, .unset] [(.int x2)])
    refine own_callS X0 hx hZ (y := (⟨"com/example/bellwether/bellwether/protocol/OpCode", "of", "(I)Lcom/example/bellwether/bellwether/protocol/OpCode;"⟩ : MethodName)) 0 hown (hw _ (List.mem_of_getElem? (i := 0) rfl)) (hw _ (List.mem_of_getElem? (i := 1) rfl)) (hw _ (List.mem_of_getElem? (i := 2) rfl)) (hw _ (List.mem_of_getElem? (i := 3) rfl)) (by decide) (argsL := [(.int x2)]) (rest := []) (rm1_0 l Z a0 hw [] x2 wV w0 w1 w2 w3 w4 w5 w6 w7 w8 w9 w10 w11 h0 n0 Z0 hk0 (S_V.ext O0.2) V_V E_V F_0 F_1 F_2 F_3 F_4 F_5 F_6 F_7 F_8 F_9 F_10 F_11) (by decide) (by decide) (by decide) (by decide) (g := (mkF m 21 #[.val (.int p0), .val (.int p1), .val (.int x2), .unset, .unset] [(.int x2)])) rfl (by rw [hml]; rfl) (lenOf pd__I_Lcom_example_bellwether_bellwether_pr_198 rfl) rfl (by show 2 * 0 + _ ≤ _; exact Nat.le_of_eq rfl) (hb hby at_21) e0 ?_
    rintro v3 T3 L3 X3 ⟨rfl, N3q, Kq3⟩
    have N3 := Fr.app N0 N3q
    have K0 := K0.trans Kq3 all0
    have O0 := O0.keep Kq3 all0
    have V_V := V_V.keep Kq3 nin0
    have E_V := E_V.keep Kq3
    have E_0 := E_0.keep Kq3
    have F_0 := F_0.keep Kq3 nin0
    have E_1 := E_1.keep Kq3
    have F_1 := F_1.keep Kq3 nin0
    have E_2 := E_2.keep Kq3
    have F_2 := F_2.keep Kq3 nin0
    have E_3 := E_3.keep Kq3
    have F_3 := F_3.keep Kq3 nin0
    have E_4 := E_4.keep Kq3
    have F_4 := F_4.keep Kq3 nin0
    have E_5 := E_5.keep Kq3
    have F_5 := F_5.keep Kq3 nin0
    have E_6 := E_6.keep Kq3
    have F_6 := F_6.keep Kq3 nin0
    have E_7 := E_7.keep Kq3
    have F_7 := F_7.keep Kq3 nin0
    have E_8 := E_8.keep Kq3
    have F_8 := F_8.keep Kq3 nin0
    have E_9 := E_9.keep Kq3
    have F_9 := F_9.keep Kq3 nin0
    have E_10 := E_10.keep Kq3
    have F_10 := F_10.keep Kq3 nin0
    have E_11 := E_11.keep Kq3
    have F_11 := F_11.keep Kq3 nin0
    show GG _ _ _ _ _ _ _ T3 (mkF m 24 #[.val (.int p0), .val (.int p1), .val (.int x2), .unset, .unset] [(.ref w0)])
    refine own_go (fun _ => XS.astoreN X3.here hx rfl (hb hby at_24) rfl rfl (l' := #[.val (.int p0), .val (.int p1), .val (.int x2), .val (.ref w0), .unset]) rfl) ?_
    show GG _ _ _ _ _ _ _ T3 (mkF m 25 #[.val (.int p0), .val (.int p1), .val (.int x2), .val (.ref w0), .unset] [])
    refine own_go (fun _ => XS.iloadN X3.here hx rfl (hb hby at_25) rfl) ?_
    show GG _ _ _ _ _ _ _ T3 (mkF m 26 #[.val (.int p0), .val (.int p1), .val (.int x2), .val (.ref w0), .unset] [(.int x2)])
    refine own_callS X3 hx hZ (y := (⟨"com/example/bellwether/bellwether/protocol/OpCodeOfPinLaw", "expected", "(I)Lcom/example/bellwether/bellwether/protocol/OpCode;"⟩ : MethodName)) 0 hown (hw _ (List.mem_of_getElem? (i := 33) rfl)) (hw _ (List.mem_of_getElem? (i := 34) rfl)) (hw _ (List.mem_of_getElem? (i := 35) rfl)) (hw _ (List.mem_of_getElem? (i := 36) rfl)) (by decide) (argsL := [(.int x2)]) (rest := []) (rm3_0 l Z a0 hw [] x2 w0 T3.heap n0 (Nat.le_trans Z0 K0.1) hk0 (S_0.ext O0.2)) (by decide) (by decide) (by decide) (by decide) (g := (mkF m 26 #[.val (.int p0), .val (.int p1), .val (.int x2), .val (.ref w0), .unset] [(.int x2)])) rfl (by rw [hml]; rfl) (lenOf pd__I_Lcom_example_bellwether_bellwether_pr_198 rfl) rfl (by show 2 * 0 + _ ≤ _; exact Nat.le_of_eq rfl) (hb hby at_26) rfl ?_
    rintro v4 T4 L4 X4 ⟨rfl, N4q, hh4⟩
    have N4 := Fr.app N3 N4q
    show GG _ _ _ _ _ _ _ T4 (mkF m 29 #[.val (.int p0), .val (.int p1), .val (.int x2), .val (.ref w0), .unset] [(.ref w0)])
    refine own_go (fun _ => XS.astore X4.here hx rfl (hb hby at_29) rfl rfl (l' := #[.val (.int p0), .val (.int p1), .val (.int x2), .val (.ref w0), .val (.ref w0)]) rfl) ?_
    show GG _ _ _ _ _ _ _ T4 (mkF m 31 #[.val (.int p0), .val (.int p1), .val (.int x2), .val (.ref w0), .val (.ref w0)] [])
    refine own_go (fun _ => XS.aloadN X4.here hx rfl (hb hby at_31) rfl rfl) ?_
    show GG _ _ _ _ _ _ _ T4 (mkF m 32 #[.val (.int p0), .val (.int p1), .val (.int x2), .val (.ref w0), .val (.ref w0)] [(.ref w0)])
    refine own_go (fun _ => XS.aload X4.here hx rfl (hb hby at_32) rfl rfl) ?_
    show GG _ _ _ _ _ _ _ T4 (mkF m 34 #[.val (.int p0), .val (.int p1), .val (.int x2), .val (.ref w0), .val (.ref w0)] [(.ref w0), (.ref w0)])
    refine own_go (fun _ => Jvm.RoadKit.acmp (g := (mkF m 34 #[.val (.int p0), .val (.int p1), .val (.int x2), .val (.ref w0), .val (.ref w0)] [(.ref w0), (.ref w0)])) X4 hx rfl rfl rfl (pc0 := 34) (pc' := 39) (same := true) rfl (hb hby at_34) rfl (decide_eq_true rfl) (by decide) (by decide)) ?_
    show GG _ _ _ _ _ _ _ T4 (mkF m 39 #[.val (.int p0), .val (.int p1), .val (.int x2), .val (.ref w0), .val (.ref w0)] [])
    refine own_go (fun _ => XS.aloadN X4.here hx rfl (hb hby at_39) rfl rfl) ?_
    show GG _ _ _ _ _ _ _ T4 (mkF m 40 #[.val (.int p0), .val (.int p1), .val (.int x2), .val (.ref w0), .val (.ref w0)] [(.ref w0)])
    refine own_go (fun _ => XS.ifnullNo X4.here hx rfl (hb hby at_40) rfl) ?_
    show GG _ _ _ _ _ _ _ T4 (mkF m 43 #[.val (.int p0), .val (.int p1), .val (.int x2), .val (.ref w0), .val (.ref w0)] [])
    refine own_go (fun _ => XS.aloadN X4.here hx rfl (hb hby at_43) rfl rfl) ?_
    show GG _ _ _ _ _ _ _ T4 (mkF m 44 #[.val (.int p0), .val (.int p1), .val (.int x2), .val (.ref w0), .val (.ref w0)] [(.ref w0)])
    refine own_callV X4 hx hZ (y := (⟨"com/example/bellwether/bellwether/protocol/OpCode", "code", "()I"⟩ : MethodName)) (z := (⟨"com/example/bellwether/bellwether/protocol/OpCode", "code", "()I"⟩ : MethodName)) 0 hown (hw _ (List.mem_of_getElem? (i := 38) rfl)) (hw _ (List.mem_of_getElem? (i := 39) rfl)) (notFace_of_selects (args := #[]) (mvT hZ (hw _ (List.mem_of_getElem? (i := 41) rfl)))) (hw _ (List.mem_of_getElem? (i := 41) rfl)) (hw _ (List.mem_of_getElem? (i := 40) rfl)) (hw _ (List.mem_of_getElem? (i := 2) rfl)) (hw _ (List.mem_of_getElem? (i := 42) rfl)) (by decide) (a := w0) (argsL := []) (rest := []) (rm4 l Z a0 hw [] w0 (1 : Int32) T3.heap n0 (Nat.le_trans Z0 K0.1) F_0) (by decide) (by decide) (by decide) (by decide) E_0 (g := (mkF m 44 #[.val (.int p0), .val (.int p1), .val (.int x2), .val (.ref w0), .val (.ref w0)] [(.ref w0)])) rfl (by rw [hml]; rfl) (lenOf pd___I_154 rfl) rfl (by show 2 * 0 + _ ≤ _; exact Nat.le_of_eq rfl) (hb hby at_44) hh4 ?_
    rintro v5 T5 L5 X5 ⟨rfl, N5q, hh5⟩
    have N5 := Fr.app N4 N5q
    show GG _ _ _ _ _ _ _ T5 (mkF m 47 #[.val (.int p0), .val (.int p1), .val (.int x2), .val (.ref w0), .val (.ref w0)] [(.int (1 : Int32))])
    refine own_go (fun _ => XS.iloadN X5.here hx rfl (hb hby at_47) rfl) ?_
    show GG _ _ _ _ _ _ _ T5 (mkF m 48 #[.val (.int p0), .val (.int p1), .val (.int x2), .val (.ref w0), .val (.ref w0)] [(.int x2), (.int (1 : Int32))])
    have hc48 : (1 : Int32) = x2 := hk0.symm
    refine own_go (fun _ => XS.icmpNo X5.here hx rfl (hb hby at_48) rfl (teq hc48).2) ?_
    show GG _ _ _ _ _ _ _ T5 (mkF m 51 #[.val (.int p0), .val (.int p1), .val (.int x2), .val (.ref w0), .val (.ref w0)] [])
    refine own_go (fun _ => XS.iconst X5.here hx rfl (hb hby at_51)) ?_
    show GG _ _ _ _ _ _ _ T5 (mkF m 52 #[.val (.int p0), .val (.int p1), .val (.int x2), .val (.ref w0), .val (.ref w0)] [(.int (1 : Int32))])
    refine own_go (fun _ => XS.goto X5.here hx rfl (pc0 := 52) (pc' := 56) rfl (hb hby at_52) (by decide) (by decide)) ?_
    show GG _ _ _ _ _ _ _ T5 (mkF m 56 #[.val (.int p0), .val (.int p1), .val (.int x2), .val (.ref w0), .val (.ref w0)] [(.int (1 : Int32))])
    refine own_ret X5 hx hlk (t := .boolean) (w := (.int (1 : Int32))) Bd.returns rfl (Or.inl ⟨rfl, by simp, _, rfl⟩) (hb hby at_56) (by decide) (by decide) ?_
    show Q0 Z p0 p1 wV w0 w1 w2 w3 w4 w5 w6 w7 w8 w9 w10 w11 h0 n0 (some (.int (1 : Int32))) T5.heap _
    rw [hh5]
    exact ⟨rfl, N5⟩
  by_cases hk1 : x2 = (2 : Int32)
  · skip
    show GG _ _ _ _ _ _ _ s₁ (mkF m 20 #[.val (.int p0), .val (.int p1), .val (.int x2), .unset, .unset] [])
    refine own_go (fun _ => XS.iloadN X0.here hx rfl (hb hby at_20) rfl) ?_
    show GG _ _ _ _ _ _ _ s₁ (mkF m 21 #[.val (.int p0), .val (.int p1), .val (.int x2), .unset, .unset] [(.int x2)])
    refine own_callS X0 hx hZ (y := (⟨"com/example/bellwether/bellwether/protocol/OpCode", "of", "(I)Lcom/example/bellwether/bellwether/protocol/OpCode;"⟩ : MethodName)) 0 hown (hw _ (List.mem_of_getElem? (i := 0) rfl)) (hw _ (List.mem_of_getElem? (i := 1) rfl)) (hw _ (List.mem_of_getElem? (i := 2) rfl)) (hw _ (List.mem_of_getElem? (i := 3) rfl)) (by decide) (argsL := [(.int x2)]) (rest := []) (rm1_1 l Z a0 hw [] x2 wV w0 w1 w2 w3 w4 w5 w6 w7 w8 w9 w10 w11 h0 n0 Z0 hk1 (S_V.ext O0.2) V_V E_V F_0 F_1 F_2 F_3 F_4 F_5 F_6 F_7 F_8 F_9 F_10 F_11) (by decide) (by decide) (by decide) (by decide) (g := (mkF m 21 #[.val (.int p0), .val (.int p1), .val (.int x2), .unset, .unset] [(.int x2)])) rfl (by rw [hml]; rfl) (lenOf pd__I_Lcom_example_bellwether_bellwether_pr_198 rfl) rfl (by show 2 * 0 + _ ≤ _; exact Nat.le_of_eq rfl) (hb hby at_21) e0 ?_
    rintro v6 T6 L6 X6 ⟨rfl, N6q, Kq6⟩
    have N6 := Fr.app N0 N6q
    have K0 := K0.trans Kq6 all0
    have O0 := O0.keep Kq6 all0
    have V_V := V_V.keep Kq6 nin0
    have E_V := E_V.keep Kq6
    have E_0 := E_0.keep Kq6
    have F_0 := F_0.keep Kq6 nin0
    have E_1 := E_1.keep Kq6
    have F_1 := F_1.keep Kq6 nin0
    have E_2 := E_2.keep Kq6
    have F_2 := F_2.keep Kq6 nin0
    have E_3 := E_3.keep Kq6
    have F_3 := F_3.keep Kq6 nin0
    have E_4 := E_4.keep Kq6
    have F_4 := F_4.keep Kq6 nin0
    have E_5 := E_5.keep Kq6
    have F_5 := F_5.keep Kq6 nin0
    have E_6 := E_6.keep Kq6
    have F_6 := F_6.keep Kq6 nin0
    have E_7 := E_7.keep Kq6
    have F_7 := F_7.keep Kq6 nin0
    have E_8 := E_8.keep Kq6
    have F_8 := F_8.keep Kq6 nin0
    have E_9 := E_9.keep Kq6
    have F_9 := F_9.keep Kq6 nin0
    have E_10 := E_10.keep Kq6
    have F_10 := F_10.keep Kq6 nin0
    have E_11 := E_11.keep Kq6
    have F_11 := F_11.keep Kq6 nin0
    show GG _ _ _ _ _ _ _ T6 (mkF m 24 #[.val (.int p0), .val (.int p1), .val (.int x2), .unset, .unset] [(.ref w1)])
    refine own_go (fun _ => XS.astoreN X6.here hx rfl (hb hby at_24) rfl rfl (l' := #[.val (.int p0), .val (.int p1), .val (.int x2), .val (.ref w1), .unset]) rfl) ?_
    show GG _ _ _ _ _ _ _ T6 (mkF m 25 #[.val (.int p0), .val (.int p1), .val (.int x2), .val (.ref w1), .unset] [])
    refine own_go (fun _ => XS.iloadN X6.here hx rfl (hb hby at_25) rfl) ?_
    show GG _ _ _ _ _ _ _ T6 (mkF m 26 #[.val (.int p0), .val (.int p1), .val (.int x2), .val (.ref w1), .unset] [(.int x2)])
    refine own_callS X6 hx hZ (y := (⟨"com/example/bellwether/bellwether/protocol/OpCodeOfPinLaw", "expected", "(I)Lcom/example/bellwether/bellwether/protocol/OpCode;"⟩ : MethodName)) 0 hown (hw _ (List.mem_of_getElem? (i := 33) rfl)) (hw _ (List.mem_of_getElem? (i := 34) rfl)) (hw _ (List.mem_of_getElem? (i := 35) rfl)) (hw _ (List.mem_of_getElem? (i := 36) rfl)) (by decide) (argsL := [(.int x2)]) (rest := []) (rm3_1 l Z a0 hw [] x2 w1 T6.heap n0 (Nat.le_trans Z0 K0.1) hk1 (S_1.ext O0.2)) (by decide) (by decide) (by decide) (by decide) (g := (mkF m 26 #[.val (.int p0), .val (.int p1), .val (.int x2), .val (.ref w1), .unset] [(.int x2)])) rfl (by rw [hml]; rfl) (lenOf pd__I_Lcom_example_bellwether_bellwether_pr_198 rfl) rfl (by show 2 * 0 + _ ≤ _; exact Nat.le_of_eq rfl) (hb hby at_26) rfl ?_
    rintro v7 T7 L7 X7 ⟨rfl, N7q, hh7⟩
    have N7 := Fr.app N6 N7q
    show GG _ _ _ _ _ _ _ T7 (mkF m 29 #[.val (.int p0), .val (.int p1), .val (.int x2), .val (.ref w1), .unset] [(.ref w1)])
    refine own_go (fun _ => XS.astore X7.here hx rfl (hb hby at_29) rfl rfl (l' := #[.val (.int p0), .val (.int p1), .val (.int x2), .val (.ref w1), .val (.ref w1)]) rfl) ?_
    show GG _ _ _ _ _ _ _ T7 (mkF m 31 #[.val (.int p0), .val (.int p1), .val (.int x2), .val (.ref w1), .val (.ref w1)] [])
    refine own_go (fun _ => XS.aloadN X7.here hx rfl (hb hby at_31) rfl rfl) ?_
    show GG _ _ _ _ _ _ _ T7 (mkF m 32 #[.val (.int p0), .val (.int p1), .val (.int x2), .val (.ref w1), .val (.ref w1)] [(.ref w1)])
    refine own_go (fun _ => XS.aload X7.here hx rfl (hb hby at_32) rfl rfl) ?_
    show GG _ _ _ _ _ _ _ T7 (mkF m 34 #[.val (.int p0), .val (.int p1), .val (.int x2), .val (.ref w1), .val (.ref w1)] [(.ref w1), (.ref w1)])
    refine own_go (fun _ => Jvm.RoadKit.acmp (g := (mkF m 34 #[.val (.int p0), .val (.int p1), .val (.int x2), .val (.ref w1), .val (.ref w1)] [(.ref w1), (.ref w1)])) X7 hx rfl rfl rfl (pc0 := 34) (pc' := 39) (same := true) rfl (hb hby at_34) rfl (decide_eq_true rfl) (by decide) (by decide)) ?_
    show GG _ _ _ _ _ _ _ T7 (mkF m 39 #[.val (.int p0), .val (.int p1), .val (.int x2), .val (.ref w1), .val (.ref w1)] [])
    refine own_go (fun _ => XS.aloadN X7.here hx rfl (hb hby at_39) rfl rfl) ?_
    show GG _ _ _ _ _ _ _ T7 (mkF m 40 #[.val (.int p0), .val (.int p1), .val (.int x2), .val (.ref w1), .val (.ref w1)] [(.ref w1)])
    refine own_go (fun _ => XS.ifnullNo X7.here hx rfl (hb hby at_40) rfl) ?_
    show GG _ _ _ _ _ _ _ T7 (mkF m 43 #[.val (.int p0), .val (.int p1), .val (.int x2), .val (.ref w1), .val (.ref w1)] [])
    refine own_go (fun _ => XS.aloadN X7.here hx rfl (hb hby at_43) rfl rfl) ?_
    show GG _ _ _ _ _ _ _ T7 (mkF m 44 #[.val (.int p0), .val (.int p1), .val (.int x2), .val (.ref w1), .val (.ref w1)] [(.ref w1)])
    refine own_callV X7 hx hZ (y := (⟨"com/example/bellwether/bellwether/protocol/OpCode", "code", "()I"⟩ : MethodName)) (z := (⟨"com/example/bellwether/bellwether/protocol/OpCode", "code", "()I"⟩ : MethodName)) 0 hown (hw _ (List.mem_of_getElem? (i := 38) rfl)) (hw _ (List.mem_of_getElem? (i := 39) rfl)) (notFace_of_selects (args := #[]) (mvT hZ (hw _ (List.mem_of_getElem? (i := 41) rfl)))) (hw _ (List.mem_of_getElem? (i := 41) rfl)) (hw _ (List.mem_of_getElem? (i := 40) rfl)) (hw _ (List.mem_of_getElem? (i := 2) rfl)) (hw _ (List.mem_of_getElem? (i := 42) rfl)) (by decide) (a := w1) (argsL := []) (rest := []) (rm4 l Z a0 hw [] w1 (2 : Int32) T6.heap n0 (Nat.le_trans Z0 K0.1) F_1) (by decide) (by decide) (by decide) (by decide) E_1 (g := (mkF m 44 #[.val (.int p0), .val (.int p1), .val (.int x2), .val (.ref w1), .val (.ref w1)] [(.ref w1)])) rfl (by rw [hml]; rfl) (lenOf pd___I_154 rfl) rfl (by show 2 * 0 + _ ≤ _; exact Nat.le_of_eq rfl) (hb hby at_44) hh7 ?_
    rintro v8 T8 L8 X8 ⟨rfl, N8q, hh8⟩
    have N8 := Fr.app N7 N8q
    show GG _ _ _ _ _ _ _ T8 (mkF m 47 #[.val (.int p0), .val (.int p1), .val (.int x2), .val (.ref w1), .val (.ref w1)] [(.int (2 : Int32))])
    refine own_go (fun _ => XS.iloadN X8.here hx rfl (hb hby at_47) rfl) ?_
    show GG _ _ _ _ _ _ _ T8 (mkF m 48 #[.val (.int p0), .val (.int p1), .val (.int x2), .val (.ref w1), .val (.ref w1)] [(.int x2), (.int (2 : Int32))])
    have hc48 : (2 : Int32) = x2 := hk1.symm
    refine own_go (fun _ => XS.icmpNo X8.here hx rfl (hb hby at_48) rfl (teq hc48).2) ?_
    show GG _ _ _ _ _ _ _ T8 (mkF m 51 #[.val (.int p0), .val (.int p1), .val (.int x2), .val (.ref w1), .val (.ref w1)] [])
    refine own_go (fun _ => XS.iconst X8.here hx rfl (hb hby at_51)) ?_
    show GG _ _ _ _ _ _ _ T8 (mkF m 52 #[.val (.int p0), .val (.int p1), .val (.int x2), .val (.ref w1), .val (.ref w1)] [(.int (1 : Int32))])
    refine own_go (fun _ => XS.goto X8.here hx rfl (pc0 := 52) (pc' := 56) rfl (hb hby at_52) (by decide) (by decide)) ?_
    show GG _ _ _ _ _ _ _ T8 (mkF m 56 #[.val (.int p0), .val (.int p1), .val (.int x2), .val (.ref w1), .val (.ref w1)] [(.int (1 : Int32))])
    refine own_ret X8 hx hlk (t := .boolean) (w := (.int (1 : Int32))) Bd.returns rfl (Or.inl ⟨rfl, by simp, _, rfl⟩) (hb hby at_56) (by decide) (by decide) ?_
    show Q0 Z p0 p1 wV w0 w1 w2 w3 w4 w5 w6 w7 w8 w9 w10 w11 h0 n0 (some (.int (1 : Int32))) T8.heap _
    rw [hh8]
    exact ⟨rfl, N8⟩
  by_cases hk2 : x2 = (3 : Int32)
  · skip
    show GG _ _ _ _ _ _ _ s₁ (mkF m 20 #[.val (.int p0), .val (.int p1), .val (.int x2), .unset, .unset] [])
    refine own_go (fun _ => XS.iloadN X0.here hx rfl (hb hby at_20) rfl) ?_
    show GG _ _ _ _ _ _ _ s₁ (mkF m 21 #[.val (.int p0), .val (.int p1), .val (.int x2), .unset, .unset] [(.int x2)])
    refine own_callS X0 hx hZ (y := (⟨"com/example/bellwether/bellwether/protocol/OpCode", "of", "(I)Lcom/example/bellwether/bellwether/protocol/OpCode;"⟩ : MethodName)) 0 hown (hw _ (List.mem_of_getElem? (i := 0) rfl)) (hw _ (List.mem_of_getElem? (i := 1) rfl)) (hw _ (List.mem_of_getElem? (i := 2) rfl)) (hw _ (List.mem_of_getElem? (i := 3) rfl)) (by decide) (argsL := [(.int x2)]) (rest := []) (rm1_2 l Z a0 hw [] x2 wV w0 w1 w2 w3 w4 w5 w6 w7 w8 w9 w10 w11 h0 n0 Z0 hk2 (S_V.ext O0.2) V_V E_V F_0 F_1 F_2 F_3 F_4 F_5 F_6 F_7 F_8 F_9 F_10 F_11) (by decide) (by decide) (by decide) (by decide) (g := (mkF m 21 #[.val (.int p0), .val (.int p1), .val (.int x2), .unset, .unset] [(.int x2)])) rfl (by rw [hml]; rfl) (lenOf pd__I_Lcom_example_bellwether_bellwether_pr_198 rfl) rfl (by show 2 * 0 + _ ≤ _; exact Nat.le_of_eq rfl) (hb hby at_21) e0 ?_
    rintro v9 T9 L9 X9 ⟨rfl, N9q, Kq9⟩
    have N9 := Fr.app N0 N9q
    have K0 := K0.trans Kq9 all0
    have O0 := O0.keep Kq9 all0
    have V_V := V_V.keep Kq9 nin0
    have E_V := E_V.keep Kq9
    have E_0 := E_0.keep Kq9
    have F_0 := F_0.keep Kq9 nin0
    have E_1 := E_1.keep Kq9
    have F_1 := F_1.keep Kq9 nin0
    have E_2 := E_2.keep Kq9
    have F_2 := F_2.keep Kq9 nin0
    have E_3 := E_3.keep Kq9
    have F_3 := F_3.keep Kq9 nin0
    have E_4 := E_4.keep Kq9
    have F_4 := F_4.keep Kq9 nin0
    have E_5 := E_5.keep Kq9
    have F_5 := F_5.keep Kq9 nin0
    have E_6 := E_6.keep Kq9
    have F_6 := F_6.keep Kq9 nin0
    have E_7 := E_7.keep Kq9
    have F_7 := F_7.keep Kq9 nin0
    have E_8 := E_8.keep Kq9
    have F_8 := F_8.keep Kq9 nin0
    have E_9 := E_9.keep Kq9
    have F_9 := F_9.keep Kq9 nin0
    have E_10 := E_10.keep Kq9
    have F_10 := F_10.keep Kq9 nin0
    have E_11 := E_11.keep Kq9
    have F_11 := F_11.keep Kq9 nin0
    show GG _ _ _ _ _ _ _ T9 (mkF m 24 #[.val (.int p0), .val (.int p1), .val (.int x2), .unset, .unset] [(.ref w2)])
    refine own_go (fun _ => XS.astoreN X9.here hx rfl (hb hby at_24) rfl rfl (l' := #[.val (.int p0), .val (.int p1), .val (.int x2), .val (.ref w2), .unset]) rfl) ?_
    show GG _ _ _ _ _ _ _ T9 (mkF m 25 #[.val (.int p0), .val (.int p1), .val (.int x2), .val (.ref w2), .unset] [])
    refine own_go (fun _ => XS.iloadN X9.here hx rfl (hb hby at_25) rfl) ?_
    show GG _ _ _ _ _ _ _ T9 (mkF m 26 #[.val (.int p0), .val (.int p1), .val (.int x2), .val (.ref w2), .unset] [(.int x2)])
    refine own_callS X9 hx hZ (y := (⟨"com/example/bellwether/bellwether/protocol/OpCodeOfPinLaw", "expected", "(I)Lcom/example/bellwether/bellwether/protocol/OpCode;"⟩ : MethodName)) 0 hown (hw _ (List.mem_of_getElem? (i := 33) rfl)) (hw _ (List.mem_of_getElem? (i := 34) rfl)) (hw _ (List.mem_of_getElem? (i := 35) rfl)) (hw _ (List.mem_of_getElem? (i := 36) rfl)) (by decide) (argsL := [(.int x2)]) (rest := []) (rm3_2 l Z a0 hw [] x2 w2 T9.heap n0 (Nat.le_trans Z0 K0.1) hk2 (S_2.ext O0.2)) (by decide) (by decide) (by decide) (by decide) (g := (mkF m 26 #[.val (.int p0), .val (.int p1), .val (.int x2), .val (.ref w2), .unset] [(.int x2)])) rfl (by rw [hml]; rfl) (lenOf pd__I_Lcom_example_bellwether_bellwether_pr_198 rfl) rfl (by show 2 * 0 + _ ≤ _; exact Nat.le_of_eq rfl) (hb hby at_26) rfl ?_
    rintro v10 T10 L10 X10 ⟨rfl, N10q, hh10⟩
    have N10 := Fr.app N9 N10q
    show GG _ _ _ _ _ _ _ T10 (mkF m 29 #[.val (.int p0), .val (.int p1), .val (.int x2), .val (.ref w2), .unset] [(.ref w2)])
    refine own_go (fun _ => XS.astore X10.here hx rfl (hb hby at_29) rfl rfl (l' := #[.val (.int p0), .val (.int p1), .val (.int x2), .val (.ref w2), .val (.ref w2)]) rfl) ?_
    show GG _ _ _ _ _ _ _ T10 (mkF m 31 #[.val (.int p0), .val (.int p1), .val (.int x2), .val (.ref w2), .val (.ref w2)] [])
    refine own_go (fun _ => XS.aloadN X10.here hx rfl (hb hby at_31) rfl rfl) ?_
    show GG _ _ _ _ _ _ _ T10 (mkF m 32 #[.val (.int p0), .val (.int p1), .val (.int x2), .val (.ref w2), .val (.ref w2)] [(.ref w2)])
    refine own_go (fun _ => XS.aload X10.here hx rfl (hb hby at_32) rfl rfl) ?_
    show GG _ _ _ _ _ _ _ T10 (mkF m 34 #[.val (.int p0), .val (.int p1), .val (.int x2), .val (.ref w2), .val (.ref w2)] [(.ref w2), (.ref w2)])
    refine own_go (fun _ => Jvm.RoadKit.acmp (g := (mkF m 34 #[.val (.int p0), .val (.int p1), .val (.int x2), .val (.ref w2), .val (.ref w2)] [(.ref w2), (.ref w2)])) X10 hx rfl rfl rfl (pc0 := 34) (pc' := 39) (same := true) rfl (hb hby at_34) rfl (decide_eq_true rfl) (by decide) (by decide)) ?_
    show GG _ _ _ _ _ _ _ T10 (mkF m 39 #[.val (.int p0), .val (.int p1), .val (.int x2), .val (.ref w2), .val (.ref w2)] [])
    refine own_go (fun _ => XS.aloadN X10.here hx rfl (hb hby at_39) rfl rfl) ?_
    show GG _ _ _ _ _ _ _ T10 (mkF m 40 #[.val (.int p0), .val (.int p1), .val (.int x2), .val (.ref w2), .val (.ref w2)] [(.ref w2)])
    refine own_go (fun _ => XS.ifnullNo X10.here hx rfl (hb hby at_40) rfl) ?_
    show GG _ _ _ _ _ _ _ T10 (mkF m 43 #[.val (.int p0), .val (.int p1), .val (.int x2), .val (.ref w2), .val (.ref w2)] [])
    refine own_go (fun _ => XS.aloadN X10.here hx rfl (hb hby at_43) rfl rfl) ?_
    show GG _ _ _ _ _ _ _ T10 (mkF m 44 #[.val (.int p0), .val (.int p1), .val (.int x2), .val (.ref w2), .val (.ref w2)] [(.ref w2)])
    refine own_callV X10 hx hZ (y := (⟨"com/example/bellwether/bellwether/protocol/OpCode", "code", "()I"⟩ : MethodName)) (z := (⟨"com/example/bellwether/bellwether/protocol/OpCode", "code", "()I"⟩ : MethodName)) 0 hown (hw _ (List.mem_of_getElem? (i := 38) rfl)) (hw _ (List.mem_of_getElem? (i := 39) rfl)) (notFace_of_selects (args := #[]) (mvT hZ (hw _ (List.mem_of_getElem? (i := 41) rfl)))) (hw _ (List.mem_of_getElem? (i := 41) rfl)) (hw _ (List.mem_of_getElem? (i := 40) rfl)) (hw _ (List.mem_of_getElem? (i := 2) rfl)) (hw _ (List.mem_of_getElem? (i := 42) rfl)) (by decide) (a := w2) (argsL := []) (rest := []) (rm4 l Z a0 hw [] w2 (3 : Int32) T9.heap n0 (Nat.le_trans Z0 K0.1) F_2) (by decide) (by decide) (by decide) (by decide) E_2 (g := (mkF m 44 #[.val (.int p0), .val (.int p1), .val (.int x2), .val (.ref w2), .val (.ref w2)] [(.ref w2)])) rfl (by rw [hml]; rfl) (lenOf pd___I_154 rfl) rfl (by show 2 * 0 + _ ≤ _; exact Nat.le_of_eq rfl) (hb hby at_44) hh10 ?_
    rintro v11 T11 L11 X11 ⟨rfl, N11q, hh11⟩
    have N11 := Fr.app N10 N11q
    show GG _ _ _ _ _ _ _ T11 (mkF m 47 #[.val (.int p0), .val (.int p1), .val (.int x2), .val (.ref w2), .val (.ref w2)] [(.int (3 : Int32))])
    refine own_go (fun _ => XS.iloadN X11.here hx rfl (hb hby at_47) rfl) ?_
    show GG _ _ _ _ _ _ _ T11 (mkF m 48 #[.val (.int p0), .val (.int p1), .val (.int x2), .val (.ref w2), .val (.ref w2)] [(.int x2), (.int (3 : Int32))])
    have hc48 : (3 : Int32) = x2 := hk2.symm
    refine own_go (fun _ => XS.icmpNo X11.here hx rfl (hb hby at_48) rfl (teq hc48).2) ?_
    show GG _ _ _ _ _ _ _ T11 (mkF m 51 #[.val (.int p0), .val (.int p1), .val (.int x2), .val (.ref w2), .val (.ref w2)] [])
    refine own_go (fun _ => XS.iconst X11.here hx rfl (hb hby at_51)) ?_
    show GG _ _ _ _ _ _ _ T11 (mkF m 52 #[.val (.int p0), .val (.int p1), .val (.int x2), .val (.ref w2), .val (.ref w2)] [(.int (1 : Int32))])
    refine own_go (fun _ => XS.goto X11.here hx rfl (pc0 := 52) (pc' := 56) rfl (hb hby at_52) (by decide) (by decide)) ?_
    show GG _ _ _ _ _ _ _ T11 (mkF m 56 #[.val (.int p0), .val (.int p1), .val (.int x2), .val (.ref w2), .val (.ref w2)] [(.int (1 : Int32))])
    refine own_ret X11 hx hlk (t := .boolean) (w := (.int (1 : Int32))) Bd.returns rfl (Or.inl ⟨rfl, by simp, _, rfl⟩) (hb hby at_56) (by decide) (by decide) ?_
    show Q0 Z p0 p1 wV w0 w1 w2 w3 w4 w5 w6 w7 w8 w9 w10 w11 h0 n0 (some (.int (1 : Int32))) T11.heap _
    rw [hh11]
    exact ⟨rfl, N11⟩
  by_cases hk3 : x2 = (4 : Int32)
  · skip
    show GG _ _ _ _ _ _ _ s₁ (mkF m 20 #[.val (.int p0), .val (.int p1), .val (.int x2), .unset, .unset] [])
    refine own_go (fun _ => XS.iloadN X0.here hx rfl (hb hby at_20) rfl) ?_
    show GG _ _ _ _ _ _ _ s₁ (mkF m 21 #[.val (.int p0), .val (.int p1), .val (.int x2), .unset, .unset] [(.int x2)])
    refine own_callS X0 hx hZ (y := (⟨"com/example/bellwether/bellwether/protocol/OpCode", "of", "(I)Lcom/example/bellwether/bellwether/protocol/OpCode;"⟩ : MethodName)) 0 hown (hw _ (List.mem_of_getElem? (i := 0) rfl)) (hw _ (List.mem_of_getElem? (i := 1) rfl)) (hw _ (List.mem_of_getElem? (i := 2) rfl)) (hw _ (List.mem_of_getElem? (i := 3) rfl)) (by decide) (argsL := [(.int x2)]) (rest := []) (rm1_3 l Z a0 hw [] x2 wV w0 w1 w2 w3 w4 w5 w6 w7 w8 w9 w10 w11 h0 n0 Z0 hk3 (S_V.ext O0.2) V_V E_V F_0 F_1 F_2 F_3 F_4 F_5 F_6 F_7 F_8 F_9 F_10 F_11) (by decide) (by decide) (by decide) (by decide) (g := (mkF m 21 #[.val (.int p0), .val (.int p1), .val (.int x2), .unset, .unset] [(.int x2)])) rfl (by rw [hml]; rfl) (lenOf pd__I_Lcom_example_bellwether_bellwether_pr_198 rfl) rfl (by show 2 * 0 + _ ≤ _; exact Nat.le_of_eq rfl) (hb hby at_21) e0 ?_
    rintro v12 T12 L12 X12 ⟨rfl, N12q, Kq12⟩
    have N12 := Fr.app N0 N12q
    have K0 := K0.trans Kq12 all0
    have O0 := O0.keep Kq12 all0
    have V_V := V_V.keep Kq12 nin0
    have E_V := E_V.keep Kq12
    have E_0 := E_0.keep Kq12
    have F_0 := F_0.keep Kq12 nin0
    have E_1 := E_1.keep Kq12
    have F_1 := F_1.keep Kq12 nin0
    have E_2 := E_2.keep Kq12
    have F_2 := F_2.keep Kq12 nin0
    have E_3 := E_3.keep Kq12
    have F_3 := F_3.keep Kq12 nin0
    have E_4 := E_4.keep Kq12
    have F_4 := F_4.keep Kq12 nin0
    have E_5 := E_5.keep Kq12
    have F_5 := F_5.keep Kq12 nin0
    have E_6 := E_6.keep Kq12
    have F_6 := F_6.keep Kq12 nin0
    have E_7 := E_7.keep Kq12
    have F_7 := F_7.keep Kq12 nin0
    have E_8 := E_8.keep Kq12
    have F_8 := F_8.keep Kq12 nin0
    have E_9 := E_9.keep Kq12
    have F_9 := F_9.keep Kq12 nin0
    have E_10 := E_10.keep Kq12
    have F_10 := F_10.keep Kq12 nin0
    have E_11 := E_11.keep Kq12
    have F_11 := F_11.keep Kq12 nin0
    show GG _ _ _ _ _ _ _ T12 (mkF m 24 #[.val (.int p0), .val (.int p1), .val (.int x2), .unset, .unset] [(.ref w3)])
    refine own_go (fun _ => XS.astoreN X12.here hx rfl (hb hby at_24) rfl rfl (l' := #[.val (.int p0), .val (.int p1), .val (.int x2), .val (.ref w3), .unset]) rfl) ?_
    show GG _ _ _ _ _ _ _ T12 (mkF m 25 #[.val (.int p0), .val (.int p1), .val (.int x2), .val (.ref w3), .unset] [])
    refine own_go (fun _ => XS.iloadN X12.here hx rfl (hb hby at_25) rfl) ?_
    show GG _ _ _ _ _ _ _ T12 (mkF m 26 #[.val (.int p0), .val (.int p1), .val (.int x2), .val (.ref w3), .unset] [(.int x2)])
    refine own_callS X12 hx hZ (y := (⟨"com/example/bellwether/bellwether/protocol/OpCodeOfPinLaw", "expected", "(I)Lcom/example/bellwether/bellwether/protocol/OpCode;"⟩ : MethodName)) 0 hown (hw _ (List.mem_of_getElem? (i := 33) rfl)) (hw _ (List.mem_of_getElem? (i := 34) rfl)) (hw _ (List.mem_of_getElem? (i := 35) rfl)) (hw _ (List.mem_of_getElem? (i := 36) rfl)) (by decide) (argsL := [(.int x2)]) (rest := []) (rm3_3 l Z a0 hw [] x2 w3 T12.heap n0 (Nat.le_trans Z0 K0.1) hk3 (S_3.ext O0.2)) (by decide) (by decide) (by decide) (by decide) (g := (mkF m 26 #[.val (.int p0), .val (.int p1), .val (.int x2), .val (.ref w3), .unset] [(.int x2)])) rfl (by rw [hml]; rfl) (lenOf pd__I_Lcom_example_bellwether_bellwether_pr_198 rfl) rfl (by show 2 * 0 + _ ≤ _; exact Nat.le_of_eq rfl) (hb hby at_26) rfl ?_
    rintro v13 T13 L13 X13 ⟨rfl, N13q, hh13⟩
    have N13 := Fr.app N12 N13q
    show GG _ _ _ _ _ _ _ T13 (mkF m 29 #[.val (.int p0), .val (.int p1), .val (.int x2), .val (.ref w3), .unset] [(.ref w3)])
    refine own_go (fun _ => XS.astore X13.here hx rfl (hb hby at_29) rfl rfl (l' := #[.val (.int p0), .val (.int p1), .val (.int x2), .val (.ref w3), .val (.ref w3)]) rfl) ?_
    show GG _ _ _ _ _ _ _ T13 (mkF m 31 #[.val (.int p0), .val (.int p1), .val (.int x2), .val (.ref w3), .val (.ref w3)] [])
    refine own_go (fun _ => XS.aloadN X13.here hx rfl (hb hby at_31) rfl rfl) ?_
    show GG _ _ _ _ _ _ _ T13 (mkF m 32 #[.val (.int p0), .val (.int p1), .val (.int x2), .val (.ref w3), .val (.ref w3)] [(.ref w3)])
    refine own_go (fun _ => XS.aload X13.here hx rfl (hb hby at_32) rfl rfl) ?_
    show GG _ _ _ _ _ _ _ T13 (mkF m 34 #[.val (.int p0), .val (.int p1), .val (.int x2), .val (.ref w3), .val (.ref w3)] [(.ref w3), (.ref w3)])
    refine own_go (fun _ => Jvm.RoadKit.acmp (g := (mkF m 34 #[.val (.int p0), .val (.int p1), .val (.int x2), .val (.ref w3), .val (.ref w3)] [(.ref w3), (.ref w3)])) X13 hx rfl rfl rfl (pc0 := 34) (pc' := 39) (same := true) rfl (hb hby at_34) rfl (decide_eq_true rfl) (by decide) (by decide)) ?_
    show GG _ _ _ _ _ _ _ T13 (mkF m 39 #[.val (.int p0), .val (.int p1), .val (.int x2), .val (.ref w3), .val (.ref w3)] [])
    refine own_go (fun _ => XS.aloadN X13.here hx rfl (hb hby at_39) rfl rfl) ?_
    show GG _ _ _ _ _ _ _ T13 (mkF m 40 #[.val (.int p0), .val (.int p1), .val (.int x2), .val (.ref w3), .val (.ref w3)] [(.ref w3)])
    refine own_go (fun _ => XS.ifnullNo X13.here hx rfl (hb hby at_40) rfl) ?_
    show GG _ _ _ _ _ _ _ T13 (mkF m 43 #[.val (.int p0), .val (.int p1), .val (.int x2), .val (.ref w3), .val (.ref w3)] [])
    refine own_go (fun _ => XS.aloadN X13.here hx rfl (hb hby at_43) rfl rfl) ?_
    show GG _ _ _ _ _ _ _ T13 (mkF m 44 #[.val (.int p0), .val (.int p1), .val (.int x2), .val (.ref w3), .val (.ref w3)] [(.ref w3)])
    refine own_callV X13 hx hZ (y := (⟨"com/example/bellwether/bellwether/protocol/OpCode", "code", "()I"⟩ : MethodName)) (z := (⟨"com/example/bellwether/bellwether/protocol/OpCode", "code", "()I"⟩ : MethodName)) 0 hown (hw _ (List.mem_of_getElem? (i := 38) rfl)) (hw _ (List.mem_of_getElem? (i := 39) rfl)) (notFace_of_selects (args := #[]) (mvT hZ (hw _ (List.mem_of_getElem? (i := 41) rfl)))) (hw _ (List.mem_of_getElem? (i := 41) rfl)) (hw _ (List.mem_of_getElem? (i := 40) rfl)) (hw _ (List.mem_of_getElem? (i := 2) rfl)) (hw _ (List.mem_of_getElem? (i := 42) rfl)) (by decide) (a := w3) (argsL := []) (rest := []) (rm4 l Z a0 hw [] w3 (4 : Int32) T12.heap n0 (Nat.le_trans Z0 K0.1) F_3) (by decide) (by decide) (by decide) (by decide) E_3 (g := (mkF m 44 #[.val (.int p0), .val (.int p1), .val (.int x2), .val (.ref w3), .val (.ref w3)] [(.ref w3)])) rfl (by rw [hml]; rfl) (lenOf pd___I_154 rfl) rfl (by show 2 * 0 + _ ≤ _; exact Nat.le_of_eq rfl) (hb hby at_44) hh13 ?_
    rintro v14 T14 L14 X14 ⟨rfl, N14q, hh14⟩
    have N14 := Fr.app N13 N14q
    show GG _ _ _ _ _ _ _ T14 (mkF m 47 #[.val (.int p0), .val (.int p1), .val (.int x2), .val (.ref w3), .val (.ref w3)] [(.int (4 : Int32))])
    refine own_go (fun _ => XS.iloadN X14.here hx rfl (hb hby at_47) rfl) ?_
    show GG _ _ _ _ _ _ _ T14 (mkF m 48 #[.val (.int p0), .val (.int p1), .val (.int x2), .val (.ref w3), .val (.ref w3)] [(.int x2), (.int (4 : Int32))])
    have hc48 : (4 : Int32) = x2 := hk3.symm
    refine own_go (fun _ => XS.icmpNo X14.here hx rfl (hb hby at_48) rfl (teq hc48).2) ?_
    show GG _ _ _ _ _ _ _ T14 (mkF m 51 #[.val (.int p0), .val (.int p1), .val (.int x2), .val (.ref w3), .val (.ref w3)] [])
    refine own_go (fun _ => XS.iconst X14.here hx rfl (hb hby at_51)) ?_
    show GG _ _ _ _ _ _ _ T14 (mkF m 52 #[.val (.int p0), .val (.int p1), .val (.int x2), .val (.ref w3), .val (.ref w3)] [(.int (1 : Int32))])
    refine own_go (fun _ => XS.goto X14.here hx rfl (pc0 := 52) (pc' := 56) rfl (hb hby at_52) (by decide) (by decide)) ?_
    show GG _ _ _ _ _ _ _ T14 (mkF m 56 #[.val (.int p0), .val (.int p1), .val (.int x2), .val (.ref w3), .val (.ref w3)] [(.int (1 : Int32))])
    refine own_ret X14 hx hlk (t := .boolean) (w := (.int (1 : Int32))) Bd.returns rfl (Or.inl ⟨rfl, by simp, _, rfl⟩) (hb hby at_56) (by decide) (by decide) ?_
    show Q0 Z p0 p1 wV w0 w1 w2 w3 w4 w5 w6 w7 w8 w9 w10 w11 h0 n0 (some (.int (1 : Int32))) T14.heap _
    rw [hh14]
    exact ⟨rfl, N14⟩
  by_cases hk4 : x2 = (5 : Int32)
  · skip
    show GG _ _ _ _ _ _ _ s₁ (mkF m 20 #[.val (.int p0), .val (.int p1), .val (.int x2), .unset, .unset] [])
    refine own_go (fun _ => XS.iloadN X0.here hx rfl (hb hby at_20) rfl) ?_
    show GG _ _ _ _ _ _ _ s₁ (mkF m 21 #[.val (.int p0), .val (.int p1), .val (.int x2), .unset, .unset] [(.int x2)])
    refine own_callS X0 hx hZ (y := (⟨"com/example/bellwether/bellwether/protocol/OpCode", "of", "(I)Lcom/example/bellwether/bellwether/protocol/OpCode;"⟩ : MethodName)) 0 hown (hw _ (List.mem_of_getElem? (i := 0) rfl)) (hw _ (List.mem_of_getElem? (i := 1) rfl)) (hw _ (List.mem_of_getElem? (i := 2) rfl)) (hw _ (List.mem_of_getElem? (i := 3) rfl)) (by decide) (argsL := [(.int x2)]) (rest := []) (rm1_4 l Z a0 hw [] x2 wV w0 w1 w2 w3 w4 w5 w6 w7 w8 w9 w10 w11 h0 n0 Z0 hk4 (S_V.ext O0.2) V_V E_V F_0 F_1 F_2 F_3 F_4 F_5 F_6 F_7 F_8 F_9 F_10 F_11) (by decide) (by decide) (by decide) (by decide) (g := (mkF m 21 #[.val (.int p0), .val (.int p1), .val (.int x2), .unset, .unset] [(.int x2)])) rfl (by rw [hml]; rfl) (lenOf pd__I_Lcom_example_bellwether_bellwether_pr_198 rfl) rfl (by show 2 * 0 + _ ≤ _; exact Nat.le_of_eq rfl) (hb hby at_21) e0 ?_
    rintro v15 T15 L15 X15 ⟨rfl, N15q, Kq15⟩
    have N15 := Fr.app N0 N15q
    have K0 := K0.trans Kq15 all0
    have O0 := O0.keep Kq15 all0
    have V_V := V_V.keep Kq15 nin0
    have E_V := E_V.keep Kq15
    have E_0 := E_0.keep Kq15
    have F_0 := F_0.keep Kq15 nin0
    have E_1 := E_1.keep Kq15
    have F_1 := F_1.keep Kq15 nin0
    have E_2 := E_2.keep Kq15
    have F_2 := F_2.keep Kq15 nin0
    have E_3 := E_3.keep Kq15
    have F_3 := F_3.keep Kq15 nin0
    have E_4 := E_4.keep Kq15
    have F_4 := F_4.keep Kq15 nin0
    have E_5 := E_5.keep Kq15
    have F_5 := F_5.keep Kq15 nin0
    have E_6 := E_6.keep Kq15
    have F_6 := F_6.keep Kq15 nin0
    have E_7 := E_7.keep Kq15
    have F_7 := F_7.keep Kq15 nin0
    have E_8 := E_8.keep Kq15
    have F_8 := F_8.keep Kq15 nin0
    have E_9 := E_9.keep Kq15
    have F_9 := F_9.keep Kq15 nin0
    have E_10 := E_10.keep Kq15
    have F_10 := F_10.keep Kq15 nin0
    have E_11 := E_11.keep Kq15
    have F_11 := F_11.keep Kq15 nin0
    show GG _ _ _ _ _ _ _ T15 (mkF m 24 #[.val (.int p0), .val (.int p1), .val (.int x2), .unset, .unset] [(.ref w4)])
    refine own_go (fun _ => XS.astoreN X15.here hx rfl (hb hby at_24) rfl rfl (l' := #[.val (.int p0), .val (.int p1), .val (.int x2), .val (.ref w4), .unset]) rfl) ?_
    show GG _ _ _ _ _ _ _ T15 (mkF m 25 #[.val (.int p0), .val (.int p1), .val (.int x2), .val (.ref w4), .unset] [])
    refine own_go (fun _ => XS.iloadN X15.here hx rfl (hb hby at_25) rfl) ?_
    show GG _ _ _ _ _ _ _ T15 (mkF m 26 #[.val (.int p0), .val (.int p1), .val (.int x2), .val (.ref w4), .unset] [(.int x2)])
    refine own_callS X15 hx hZ (y := (⟨"com/example/bellwether/bellwether/protocol/OpCodeOfPinLaw", "expected", "(I)Lcom/example/bellwether/bellwether/protocol/OpCode;"⟩ : MethodName)) 0 hown (hw _ (List.mem_of_getElem? (i := 33) rfl)) (hw _ (List.mem_of_getElem? (i := 34) rfl)) (hw _ (List.mem_of_getElem? (i := 35) rfl)) (hw _ (List.mem_of_getElem? (i := 36) rfl)) (by decide) (argsL := [(.int x2)]) (rest := []) (rm3_4 l Z a0 hw [] x2 w4 T15.heap n0 (Nat.le_trans Z0 K0.1) hk4 (S_4.ext O0.2)) (by decide) (by decide) (by decide) (by decide) (g := (mkF m 26 #[.val (.int p0), .val (.int p1), .val (.int x2), .val (.ref w4), .unset] [(.int x2)])) rfl (by rw [hml]; rfl) (lenOf pd__I_Lcom_example_bellwether_bellwether_pr_198 rfl) rfl (by show 2 * 0 + _ ≤ _; exact Nat.le_of_eq rfl) (hb hby at_26) rfl ?_
    rintro v16 T16 L16 X16 ⟨rfl, N16q, hh16⟩
    have N16 := Fr.app N15 N16q
    show GG _ _ _ _ _ _ _ T16 (mkF m 29 #[.val (.int p0), .val (.int p1), .val (.int x2), .val (.ref w4), .unset] [(.ref w4)])
    refine own_go (fun _ => XS.astore X16.here hx rfl (hb hby at_29) rfl rfl (l' := #[.val (.int p0), .val (.int p1), .val (.int x2), .val (.ref w4), .val (.ref w4)]) rfl) ?_
    show GG _ _ _ _ _ _ _ T16 (mkF m 31 #[.val (.int p0), .val (.int p1), .val (.int x2), .val (.ref w4), .val (.ref w4)] [])
    refine own_go (fun _ => XS.aloadN X16.here hx rfl (hb hby at_31) rfl rfl) ?_
    show GG _ _ _ _ _ _ _ T16 (mkF m 32 #[.val (.int p0), .val (.int p1), .val (.int x2), .val (.ref w4), .val (.ref w4)] [(.ref w4)])
    refine own_go (fun _ => XS.aload X16.here hx rfl (hb hby at_32) rfl rfl) ?_
    show GG _ _ _ _ _ _ _ T16 (mkF m 34 #[.val (.int p0), .val (.int p1), .val (.int x2), .val (.ref w4), .val (.ref w4)] [(.ref w4), (.ref w4)])
    refine own_go (fun _ => Jvm.RoadKit.acmp (g := (mkF m 34 #[.val (.int p0), .val (.int p1), .val (.int x2), .val (.ref w4), .val (.ref w4)] [(.ref w4), (.ref w4)])) X16 hx rfl rfl rfl (pc0 := 34) (pc' := 39) (same := true) rfl (hb hby at_34) rfl (decide_eq_true rfl) (by decide) (by decide)) ?_
    show GG _ _ _ _ _ _ _ T16 (mkF m 39 #[.val (.int p0), .val (.int p1), .val (.int x2), .val (.ref w4), .val (.ref w4)] [])
    refine own_go (fun _ => XS.aloadN X16.here hx rfl (hb hby at_39) rfl rfl) ?_
    show GG _ _ _ _ _ _ _ T16 (mkF m 40 #[.val (.int p0), .val (.int p1), .val (.int x2), .val (.ref w4), .val (.ref w4)] [(.ref w4)])
    refine own_go (fun _ => XS.ifnullNo X16.here hx rfl (hb hby at_40) rfl) ?_
    show GG _ _ _ _ _ _ _ T16 (mkF m 43 #[.val (.int p0), .val (.int p1), .val (.int x2), .val (.ref w4), .val (.ref w4)] [])
    refine own_go (fun _ => XS.aloadN X16.here hx rfl (hb hby at_43) rfl rfl) ?_
    show GG _ _ _ _ _ _ _ T16 (mkF m 44 #[.val (.int p0), .val (.int p1), .val (.int x2), .val (.ref w4), .val (.ref w4)] [(.ref w4)])
    refine own_callV X16 hx hZ (y := (⟨"com/example/bellwether/bellwether/protocol/OpCode", "code", "()I"⟩ : MethodName)) (z := (⟨"com/example/bellwether/bellwether/protocol/OpCode", "code", "()I"⟩ : MethodName)) 0 hown (hw _ (List.mem_of_getElem? (i := 38) rfl)) (hw _ (List.mem_of_getElem? (i := 39) rfl)) (notFace_of_selects (args := #[]) (mvT hZ (hw _ (List.mem_of_getElem? (i := 41) rfl)))) (hw _ (List.mem_of_getElem? (i := 41) rfl)) (hw _ (List.mem_of_getElem? (i := 40) rfl)) (hw _ (List.mem_of_getElem? (i := 2) rfl)) (hw _ (List.mem_of_getElem? (i := 42) rfl)) (by decide) (a := w4) (argsL := []) (rest := []) (rm4 l Z a0 hw [] w4 (5 : Int32) T15.heap n0 (Nat.le_trans Z0 K0.1) F_4) (by decide) (by decide) (by decide) (by decide) E_4 (g := (mkF m 44 #[.val (.int p0), .val (.int p1), .val (.int x2), .val (.ref w4), .val (.ref w4)] [(.ref w4)])) rfl (by rw [hml]; rfl) (lenOf pd___I_154 rfl) rfl (by show 2 * 0 + _ ≤ _; exact Nat.le_of_eq rfl) (hb hby at_44) hh16 ?_
    rintro v17 T17 L17 X17 ⟨rfl, N17q, hh17⟩
    have N17 := Fr.app N16 N17q
    show GG _ _ _ _ _ _ _ T17 (mkF m 47 #[.val (.int p0), .val (.int p1), .val (.int x2), .val (.ref w4), .val (.ref w4)] [(.int (5 : Int32))])
    refine own_go (fun _ => XS.iloadN X17.here hx rfl (hb hby at_47) rfl) ?_
    show GG _ _ _ _ _ _ _ T17 (mkF m 48 #[.val (.int p0), .val (.int p1), .val (.int x2), .val (.ref w4), .val (.ref w4)] [(.int x2), (.int (5 : Int32))])
    have hc48 : (5 : Int32) = x2 := hk4.symm
    refine own_go (fun _ => XS.icmpNo X17.here hx rfl (hb hby at_48) rfl (teq hc48).2) ?_
    show GG _ _ _ _ _ _ _ T17 (mkF m 51 #[.val (.int p0), .val (.int p1), .val (.int x2), .val (.ref w4), .val (.ref w4)] [])
    refine own_go (fun _ => XS.iconst X17.here hx rfl (hb hby at_51)) ?_
    show GG _ _ _ _ _ _ _ T17 (mkF m 52 #[.val (.int p0), .val (.int p1), .val (.int x2), .val (.ref w4), .val (.ref w4)] [(.int (1 : Int32))])
    refine own_go (fun _ => XS.goto X17.here hx rfl (pc0 := 52) (pc' := 56) rfl (hb hby at_52) (by decide) (by decide)) ?_
    show GG _ _ _ _ _ _ _ T17 (mkF m 56 #[.val (.int p0), .val (.int p1), .val (.int x2), .val (.ref w4), .val (.ref w4)] [(.int (1 : Int32))])
    refine own_ret X17 hx hlk (t := .boolean) (w := (.int (1 : Int32))) Bd.returns rfl (Or.inl ⟨rfl, by simp, _, rfl⟩) (hb hby at_56) (by decide) (by decide) ?_
    show Q0 Z p0 p1 wV w0 w1 w2 w3 w4 w5 w6 w7 w8 w9 w10 w11 h0 n0 (some (.int (1 : Int32))) T17.heap _
    rw [hh17]
    exact ⟨rfl, N17⟩
  by_cases hk5 : x2 = (8 : Int32)
  · skip
    show GG _ _ _ _ _ _ _ s₁ (mkF m 20 #[.val (.int p0), .val (.int p1), .val (.int x2), .unset, .unset] [])
    refine own_go (fun _ => XS.iloadN X0.here hx rfl (hb hby at_20) rfl) ?_
    show GG _ _ _ _ _ _ _ s₁ (mkF m 21 #[.val (.int p0), .val (.int p1), .val (.int x2), .unset, .unset] [(.int x2)])
    refine own_callS X0 hx hZ (y := (⟨"com/example/bellwether/bellwether/protocol/OpCode", "of", "(I)Lcom/example/bellwether/bellwether/protocol/OpCode;"⟩ : MethodName)) 0 hown (hw _ (List.mem_of_getElem? (i := 0) rfl)) (hw _ (List.mem_of_getElem? (i := 1) rfl)) (hw _ (List.mem_of_getElem? (i := 2) rfl)) (hw _ (List.mem_of_getElem? (i := 3) rfl)) (by decide) (argsL := [(.int x2)]) (rest := []) (rm1_5 l Z a0 hw [] x2 wV w0 w1 w2 w3 w4 w5 w6 w7 w8 w9 w10 w11 h0 n0 Z0 hk5 (S_V.ext O0.2) V_V E_V F_0 F_1 F_2 F_3 F_4 F_5 F_6 F_7 F_8 F_9 F_10 F_11) (by decide) (by decide) (by decide) (by decide) (g := (mkF m 21 #[.val (.int p0), .val (.int p1), .val (.int x2), .unset, .unset] [(.int x2)])) rfl (by rw [hml]; rfl) (lenOf pd__I_Lcom_example_bellwether_bellwether_pr_198 rfl) rfl (by show 2 * 0 + _ ≤ _; exact Nat.le_of_eq rfl) (hb hby at_21) e0 ?_
    rintro v18 T18 L18 X18 ⟨rfl, N18q, Kq18⟩
    have N18 := Fr.app N0 N18q
    have K0 := K0.trans Kq18 all0
    have O0 := O0.keep Kq18 all0
    have V_V := V_V.keep Kq18 nin0
    have E_V := E_V.keep Kq18
    have E_0 := E_0.keep Kq18
    have F_0 := F_0.keep Kq18 nin0
    have E_1 := E_1.keep Kq18
    have F_1 := F_1.keep Kq18 nin0
    have E_2 := E_2.keep Kq18
    have F_2 := F_2.keep Kq18 nin0
    have E_3 := E_3.keep Kq18
    have F_3 := F_3.keep Kq18 nin0
    have E_4 := E_4.keep Kq18
    have F_4 := F_4.keep Kq18 nin0
    have E_5 := E_5.keep Kq18
    have F_5 := F_5.keep Kq18 nin0
    have E_6 := E_6.keep Kq18
    have F_6 := F_6.keep Kq18 nin0
    have E_7 := E_7.keep Kq18
    have F_7 := F_7.keep Kq18 nin0
    have E_8 := E_8.keep Kq18
    have F_8 := F_8.keep Kq18 nin0
    have E_9 := E_9.keep Kq18
    have F_9 := F_9.keep Kq18 nin0
    have E_10 := E_10.keep Kq18
    have F_10 := F_10.keep Kq18 nin0
    have E_11 := E_11.keep Kq18
    have F_11 := F_11.keep Kq18 nin0
    show GG _ _ _ _ _ _ _ T18 (mkF m 24 #[.val (.int p0), .val (.int p1), .val (.int x2), .unset, .unset] [(.ref w5)])
    refine own_go (fun _ => XS.astoreN X18.here hx rfl (hb hby at_24) rfl rfl (l' := #[.val (.int p0), .val (.int p1), .val (.int x2), .val (.ref w5), .unset]) rfl) ?_
    show GG _ _ _ _ _ _ _ T18 (mkF m 25 #[.val (.int p0), .val (.int p1), .val (.int x2), .val (.ref w5), .unset] [])
    refine own_go (fun _ => XS.iloadN X18.here hx rfl (hb hby at_25) rfl) ?_
    show GG _ _ _ _ _ _ _ T18 (mkF m 26 #[.val (.int p0), .val (.int p1), .val (.int x2), .val (.ref w5), .unset] [(.int x2)])
    refine own_callS X18 hx hZ (y := (⟨"com/example/bellwether/bellwether/protocol/OpCodeOfPinLaw", "expected", "(I)Lcom/example/bellwether/bellwether/protocol/OpCode;"⟩ : MethodName)) 0 hown (hw _ (List.mem_of_getElem? (i := 33) rfl)) (hw _ (List.mem_of_getElem? (i := 34) rfl)) (hw _ (List.mem_of_getElem? (i := 35) rfl)) (hw _ (List.mem_of_getElem? (i := 36) rfl)) (by decide) (argsL := [(.int x2)]) (rest := []) (rm3_5 l Z a0 hw [] x2 w5 T18.heap n0 (Nat.le_trans Z0 K0.1) hk5 (S_5.ext O0.2)) (by decide) (by decide) (by decide) (by decide) (g := (mkF m 26 #[.val (.int p0), .val (.int p1), .val (.int x2), .val (.ref w5), .unset] [(.int x2)])) rfl (by rw [hml]; rfl) (lenOf pd__I_Lcom_example_bellwether_bellwether_pr_198 rfl) rfl (by show 2 * 0 + _ ≤ _; exact Nat.le_of_eq rfl) (hb hby at_26) rfl ?_
    rintro v19 T19 L19 X19 ⟨rfl, N19q, hh19⟩
    have N19 := Fr.app N18 N19q
    show GG _ _ _ _ _ _ _ T19 (mkF m 29 #[.val (.int p0), .val (.int p1), .val (.int x2), .val (.ref w5), .unset] [(.ref w5)])
    refine own_go (fun _ => XS.astore X19.here hx rfl (hb hby at_29) rfl rfl (l' := #[.val (.int p0), .val (.int p1), .val (.int x2), .val (.ref w5), .val (.ref w5)]) rfl) ?_
    show GG _ _ _ _ _ _ _ T19 (mkF m 31 #[.val (.int p0), .val (.int p1), .val (.int x2), .val (.ref w5), .val (.ref w5)] [])
    refine own_go (fun _ => XS.aloadN X19.here hx rfl (hb hby at_31) rfl rfl) ?_
    show GG _ _ _ _ _ _ _ T19 (mkF m 32 #[.val (.int p0), .val (.int p1), .val (.int x2), .val (.ref w5), .val (.ref w5)] [(.ref w5)])
    refine own_go (fun _ => XS.aload X19.here hx rfl (hb hby at_32) rfl rfl) ?_
    show GG _ _ _ _ _ _ _ T19 (mkF m 34 #[.val (.int p0), .val (.int p1), .val (.int x2), .val (.ref w5), .val (.ref w5)] [(.ref w5), (.ref w5)])
    refine own_go (fun _ => Jvm.RoadKit.acmp (g := (mkF m 34 #[.val (.int p0), .val (.int p1), .val (.int x2), .val (.ref w5), .val (.ref w5)] [(.ref w5), (.ref w5)])) X19 hx rfl rfl rfl (pc0 := 34) (pc' := 39) (same := true) rfl (hb hby at_34) rfl (decide_eq_true rfl) (by decide) (by decide)) ?_
    show GG _ _ _ _ _ _ _ T19 (mkF m 39 #[.val (.int p0), .val (.int p1), .val (.int x2), .val (.ref w5), .val (.ref w5)] [])
    refine own_go (fun _ => XS.aloadN X19.here hx rfl (hb hby at_39) rfl rfl) ?_
    show GG _ _ _ _ _ _ _ T19 (mkF m 40 #[.val (.int p0), .val (.int p1), .val (.int x2), .val (.ref w5), .val (.ref w5)] [(.ref w5)])
    refine own_go (fun _ => XS.ifnullNo X19.here hx rfl (hb hby at_40) rfl) ?_
    show GG _ _ _ _ _ _ _ T19 (mkF m 43 #[.val (.int p0), .val (.int p1), .val (.int x2), .val (.ref w5), .val (.ref w5)] [])
    refine own_go (fun _ => XS.aloadN X19.here hx rfl (hb hby at_43) rfl rfl) ?_
    show GG _ _ _ _ _ _ _ T19 (mkF m 44 #[.val (.int p0), .val (.int p1), .val (.int x2), .val (.ref w5), .val (.ref w5)] [(.ref w5)])
    refine own_callV X19 hx hZ (y := (⟨"com/example/bellwether/bellwether/protocol/OpCode", "code", "()I"⟩ : MethodName)) (z := (⟨"com/example/bellwether/bellwether/protocol/OpCode", "code", "()I"⟩ : MethodName)) 0 hown (hw _ (List.mem_of_getElem? (i := 38) rfl)) (hw _ (List.mem_of_getElem? (i := 39) rfl)) (notFace_of_selects (args := #[]) (mvT hZ (hw _ (List.mem_of_getElem? (i := 41) rfl)))) (hw _ (List.mem_of_getElem? (i := 41) rfl)) (hw _ (List.mem_of_getElem? (i := 40) rfl)) (hw _ (List.mem_of_getElem? (i := 2) rfl)) (hw _ (List.mem_of_getElem? (i := 42) rfl)) (by decide) (a := w5) (argsL := []) (rest := []) (rm4 l Z a0 hw [] w5 (8 : Int32) T18.heap n0 (Nat.le_trans Z0 K0.1) F_5) (by decide) (by decide) (by decide) (by decide) E_5 (g := (mkF m 44 #[.val (.int p0), .val (.int p1), .val (.int x2), .val (.ref w5), .val (.ref w5)] [(.ref w5)])) rfl (by rw [hml]; rfl) (lenOf pd___I_154 rfl) rfl (by show 2 * 0 + _ ≤ _; exact Nat.le_of_eq rfl) (hb hby at_44) hh19 ?_
    rintro v20 T20 L20 X20 ⟨rfl, N20q, hh20⟩
    have N20 := Fr.app N19 N20q
    show GG _ _ _ _ _ _ _ T20 (mkF m 47 #[.val (.int p0), .val (.int p1), .val (.int x2), .val (.ref w5), .val (.ref w5)] [(.int (8 : Int32))])
    refine own_go (fun _ => XS.iloadN X20.here hx rfl (hb hby at_47) rfl) ?_
    show GG _ _ _ _ _ _ _ T20 (mkF m 48 #[.val (.int p0), .val (.int p1), .val (.int x2), .val (.ref w5), .val (.ref w5)] [(.int x2), (.int (8 : Int32))])
    have hc48 : (8 : Int32) = x2 := hk5.symm
    refine own_go (fun _ => XS.icmpNo X20.here hx rfl (hb hby at_48) rfl (teq hc48).2) ?_
    show GG _ _ _ _ _ _ _ T20 (mkF m 51 #[.val (.int p0), .val (.int p1), .val (.int x2), .val (.ref w5), .val (.ref w5)] [])
    refine own_go (fun _ => XS.iconst X20.here hx rfl (hb hby at_51)) ?_
    show GG _ _ _ _ _ _ _ T20 (mkF m 52 #[.val (.int p0), .val (.int p1), .val (.int x2), .val (.ref w5), .val (.ref w5)] [(.int (1 : Int32))])
    refine own_go (fun _ => XS.goto X20.here hx rfl (pc0 := 52) (pc' := 56) rfl (hb hby at_52) (by decide) (by decide)) ?_
    show GG _ _ _ _ _ _ _ T20 (mkF m 56 #[.val (.int p0), .val (.int p1), .val (.int x2), .val (.ref w5), .val (.ref w5)] [(.int (1 : Int32))])
    refine own_ret X20 hx hlk (t := .boolean) (w := (.int (1 : Int32))) Bd.returns rfl (Or.inl ⟨rfl, by simp, _, rfl⟩) (hb hby at_56) (by decide) (by decide) ?_
    show Q0 Z p0 p1 wV w0 w1 w2 w3 w4 w5 w6 w7 w8 w9 w10 w11 h0 n0 (some (.int (1 : Int32))) T20.heap _
    rw [hh20]
    exact ⟨rfl, N20⟩
  by_cases hk6 : x2 = (9 : Int32)
  · skip
    show GG _ _ _ _ _ _ _ s₁ (mkF m 20 #[.val (.int p0), .val (.int p1), .val (.int x2), .unset, .unset] [])
    refine own_go (fun _ => XS.iloadN X0.here hx rfl (hb hby at_20) rfl) ?_
    show GG _ _ _ _ _ _ _ s₁ (mkF m 21 #[.val (.int p0), .val (.int p1), .val (.int x2), .unset, .unset] [(.int x2)])
    refine own_callS X0 hx hZ (y := (⟨"com/example/bellwether/bellwether/protocol/OpCode", "of", "(I)Lcom/example/bellwether/bellwether/protocol/OpCode;"⟩ : MethodName)) 0 hown (hw _ (List.mem_of_getElem? (i := 0) rfl)) (hw _ (List.mem_of_getElem? (i := 1) rfl)) (hw _ (List.mem_of_getElem? (i := 2) rfl)) (hw _ (List.mem_of_getElem? (i := 3) rfl)) (by decide) (argsL := [(.int x2)]) (rest := []) (rm1_6 l Z a0 hw [] x2 wV w0 w1 w2 w3 w4 w5 w6 w7 w8 w9 w10 w11 h0 n0 Z0 hk6 (S_V.ext O0.2) V_V E_V F_0 F_1 F_2 F_3 F_4 F_5 F_6 F_7 F_8 F_9 F_10 F_11) (by decide) (by decide) (by decide) (by decide) (g := (mkF m 21 #[.val (.int p0), .val (.int p1), .val (.int x2), .unset, .unset] [(.int x2)])) rfl (by rw [hml]; rfl) (lenOf pd__I_Lcom_example_bellwether_bellwether_pr_198 rfl) rfl (by show 2 * 0 + _ ≤ _; exact Nat.le_of_eq rfl) (hb hby at_21) e0 ?_
    rintro v21 T21 L21 X21 ⟨rfl, N21q, Kq21⟩
    have N21 := Fr.app N0 N21q
    have K0 := K0.trans Kq21 all0
    have O0 := O0.keep Kq21 all0
    have V_V := V_V.keep Kq21 nin0
    have E_V := E_V.keep Kq21
    have E_0 := E_0.keep Kq21
    have F_0 := F_0.keep Kq21 nin0
    have E_1 := E_1.keep Kq21
    have F_1 := F_1.keep Kq21 nin0
    have E_2 := E_2.keep Kq21
    have F_2 := F_2.keep Kq21 nin0
    have E_3 := E_3.keep Kq21
    have F_3 := F_3.keep Kq21 nin0
    have E_4 := E_4.keep Kq21
    have F_4 := F_4.keep Kq21 nin0
    have E_5 := E_5.keep Kq21
    have F_5 := F_5.keep Kq21 nin0
    have E_6 := E_6.keep Kq21
    have F_6 := F_6.keep Kq21 nin0
    have E_7 := E_7.keep Kq21
    have F_7 := F_7.keep Kq21 nin0
    have E_8 := E_8.keep Kq21
    have F_8 := F_8.keep Kq21 nin0
    have E_9 := E_9.keep Kq21
    have F_9 := F_9.keep Kq21 nin0
    have E_10 := E_10.keep Kq21
    have F_10 := F_10.keep Kq21 nin0
    have E_11 := E_11.keep Kq21
    have F_11 := F_11.keep Kq21 nin0
    show GG _ _ _ _ _ _ _ T21 (mkF m 24 #[.val (.int p0), .val (.int p1), .val (.int x2), .unset, .unset] [(.ref w6)])
    refine own_go (fun _ => XS.astoreN X21.here hx rfl (hb hby at_24) rfl rfl (l' := #[.val (.int p0), .val (.int p1), .val (.int x2), .val (.ref w6), .unset]) rfl) ?_
    show GG _ _ _ _ _ _ _ T21 (mkF m 25 #[.val (.int p0), .val (.int p1), .val (.int x2), .val (.ref w6), .unset] [])
    refine own_go (fun _ => XS.iloadN X21.here hx rfl (hb hby at_25) rfl) ?_
    show GG _ _ _ _ _ _ _ T21 (mkF m 26 #[.val (.int p0), .val (.int p1), .val (.int x2), .val (.ref w6), .unset] [(.int x2)])
    refine own_callS X21 hx hZ (y := (⟨"com/example/bellwether/bellwether/protocol/OpCodeOfPinLaw", "expected", "(I)Lcom/example/bellwether/bellwether/protocol/OpCode;"⟩ : MethodName)) 0 hown (hw _ (List.mem_of_getElem? (i := 33) rfl)) (hw _ (List.mem_of_getElem? (i := 34) rfl)) (hw _ (List.mem_of_getElem? (i := 35) rfl)) (hw _ (List.mem_of_getElem? (i := 36) rfl)) (by decide) (argsL := [(.int x2)]) (rest := []) (rm3_6 l Z a0 hw [] x2 w6 T21.heap n0 (Nat.le_trans Z0 K0.1) hk6 (S_6.ext O0.2)) (by decide) (by decide) (by decide) (by decide) (g := (mkF m 26 #[.val (.int p0), .val (.int p1), .val (.int x2), .val (.ref w6), .unset] [(.int x2)])) rfl (by rw [hml]; rfl) (lenOf pd__I_Lcom_example_bellwether_bellwether_pr_198 rfl) rfl (by show 2 * 0 + _ ≤ _; exact Nat.le_of_eq rfl) (hb hby at_26) rfl ?_
    rintro v22 T22 L22 X22 ⟨rfl, N22q, hh22⟩
    have N22 := Fr.app N21 N22q
    show GG _ _ _ _ _ _ _ T22 (mkF m 29 #[.val (.int p0), .val (.int p1), .val (.int x2), .val (.ref w6), .unset] [(.ref w6)])
    refine own_go (fun _ => XS.astore X22.here hx rfl (hb hby at_29) rfl rfl (l' := #[.val (.int p0), .val (.int p1), .val (.int x2), .val (.ref w6), .val (.ref w6)]) rfl) ?_
    show GG _ _ _ _ _ _ _ T22 (mkF m 31 #[.val (.int p0), .val (.int p1), .val (.int x2), .val (.ref w6), .val (.ref w6)] [])
    refine own_go (fun _ => XS.aloadN X22.here hx rfl (hb hby at_31) rfl rfl) ?_
    show GG _ _ _ _ _ _ _ T22 (mkF m 32 #[.val (.int p0), .val (.int p1), .val (.int x2), .val (.ref w6), .val (.ref w6)] [(.ref w6)])
    refine own_go (fun _ => XS.aload X22.here hx rfl (hb hby at_32) rfl rfl) ?_
    show GG _ _ _ _ _ _ _ T22 (mkF m 34 #[.val (.int p0), .val (.int p1), .val (.int x2), .val (.ref w6), .val (.ref w6)] [(.ref w6), (.ref w6)])
    refine own_go (fun _ => Jvm.RoadKit.acmp (g := (mkF m 34 #[.val (.int p0), .val (.int p1), .val (.int x2), .val (.ref w6), .val (.ref w6)] [(.ref w6), (.ref w6)])) X22 hx rfl rfl rfl (pc0 := 34) (pc' := 39) (same := true) rfl (hb hby at_34) rfl (decide_eq_true rfl) (by decide) (by decide)) ?_
    show GG _ _ _ _ _ _ _ T22 (mkF m 39 #[.val (.int p0), .val (.int p1), .val (.int x2), .val (.ref w6), .val (.ref w6)] [])
    refine own_go (fun _ => XS.aloadN X22.here hx rfl (hb hby at_39) rfl rfl) ?_
    show GG _ _ _ _ _ _ _ T22 (mkF m 40 #[.val (.int p0), .val (.int p1), .val (.int x2), .val (.ref w6), .val (.ref w6)] [(.ref w6)])
    refine own_go (fun _ => XS.ifnullNo X22.here hx rfl (hb hby at_40) rfl) ?_
    show GG _ _ _ _ _ _ _ T22 (mkF m 43 #[.val (.int p0), .val (.int p1), .val (.int x2), .val (.ref w6), .val (.ref w6)] [])
    refine own_go (fun _ => XS.aloadN X22.here hx rfl (hb hby at_43) rfl rfl) ?_
    show GG _ _ _ _ _ _ _ T22 (mkF m 44 #[.val (.int p0), .val (.int p1), .val (.int x2), .val (.ref w6), .val (.ref w6)] [(.ref w6)])
    refine own_callV X22 hx hZ (y := (⟨"com/example/bellwether/bellwether/protocol/OpCode", "code", "()I"⟩ : MethodName)) (z := (⟨"com/example/bellwether/bellwether/protocol/OpCode", "code", "()I"⟩ : MethodName)) 0 hown (hw _ (List.mem_of_getElem? (i := 38) rfl)) (hw _ (List.mem_of_getElem? (i := 39) rfl)) (notFace_of_selects (args := #[]) (mvT hZ (hw _ (List.mem_of_getElem? (i := 41) rfl)))) (hw _ (List.mem_of_getElem? (i := 41) rfl)) (hw _ (List.mem_of_getElem? (i := 40) rfl)) (hw _ (List.mem_of_getElem? (i := 2) rfl)) (hw _ (List.mem_of_getElem? (i := 42) rfl)) (by decide) (a := w6) (argsL := []) (rest := []) (rm4 l Z a0 hw [] w6 (9 : Int32) T21.heap n0 (Nat.le_trans Z0 K0.1) F_6) (by decide) (by decide) (by decide) (by decide) E_6 (g := (mkF m 44 #[.val (.int p0), .val (.int p1), .val (.int x2), .val (.ref w6), .val (.ref w6)] [(.ref w6)])) rfl (by rw [hml]; rfl) (lenOf pd___I_154 rfl) rfl (by show 2 * 0 + _ ≤ _; exact Nat.le_of_eq rfl) (hb hby at_44) hh22 ?_
    rintro v23 T23 L23 X23 ⟨rfl, N23q, hh23⟩
    have N23 := Fr.app N22 N23q
    show GG _ _ _ _ _ _ _ T23 (mkF m 47 #[.val (.int p0), .val (.int p1), .val (.int x2), .val (.ref w6), .val (.ref w6)] [(.int (9 : Int32))])
    refine own_go (fun _ => XS.iloadN X23.here hx rfl (hb hby at_47) rfl) ?_
    show GG _ _ _ _ _ _ _ T23 (mkF m 48 #[.val (.int p0), .val (.int p1), .val (.int x2), .val (.ref w6), .val (.ref w6)] [(.int x2), (.int (9 : Int32))])
    have hc48 : (9 : Int32) = x2 := hk6.symm
    refine own_go (fun _ => XS.icmpNo X23.here hx rfl (hb hby at_48) rfl (teq hc48).2) ?_
    show GG _ _ _ _ _ _ _ T23 (mkF m 51 #[.val (.int p0), .val (.int p1), .val (.int x2), .val (.ref w6), .val (.ref w6)] [])
    refine own_go (fun _ => XS.iconst X23.here hx rfl (hb hby at_51)) ?_
    show GG _ _ _ _ _ _ _ T23 (mkF m 52 #[.val (.int p0), .val (.int p1), .val (.int x2), .val (.ref w6), .val (.ref w6)] [(.int (1 : Int32))])
    refine own_go (fun _ => XS.goto X23.here hx rfl (pc0 := 52) (pc' := 56) rfl (hb hby at_52) (by decide) (by decide)) ?_
    show GG _ _ _ _ _ _ _ T23 (mkF m 56 #[.val (.int p0), .val (.int p1), .val (.int x2), .val (.ref w6), .val (.ref w6)] [(.int (1 : Int32))])
    refine own_ret X23 hx hlk (t := .boolean) (w := (.int (1 : Int32))) Bd.returns rfl (Or.inl ⟨rfl, by simp, _, rfl⟩) (hb hby at_56) (by decide) (by decide) ?_
    show Q0 Z p0 p1 wV w0 w1 w2 w3 w4 w5 w6 w7 w8 w9 w10 w11 h0 n0 (some (.int (1 : Int32))) T23.heap _
    rw [hh23]
    exact ⟨rfl, N23⟩
  by_cases hk7 : x2 = (11 : Int32)
  · skip
    show GG _ _ _ _ _ _ _ s₁ (mkF m 20 #[.val (.int p0), .val (.int p1), .val (.int x2), .unset, .unset] [])
    refine own_go (fun _ => XS.iloadN X0.here hx rfl (hb hby at_20) rfl) ?_
    show GG _ _ _ _ _ _ _ s₁ (mkF m 21 #[.val (.int p0), .val (.int p1), .val (.int x2), .unset, .unset] [(.int x2)])
    refine own_callS X0 hx hZ (y := (⟨"com/example/bellwether/bellwether/protocol/OpCode", "of", "(I)Lcom/example/bellwether/bellwether/protocol/OpCode;"⟩ : MethodName)) 0 hown (hw _ (List.mem_of_getElem? (i := 0) rfl)) (hw _ (List.mem_of_getElem? (i := 1) rfl)) (hw _ (List.mem_of_getElem? (i := 2) rfl)) (hw _ (List.mem_of_getElem? (i := 3) rfl)) (by decide) (argsL := [(.int x2)]) (rest := []) (rm1_7 l Z a0 hw [] x2 wV w0 w1 w2 w3 w4 w5 w6 w7 w8 w9 w10 w11 h0 n0 Z0 hk7 (S_V.ext O0.2) V_V E_V F_0 F_1 F_2 F_3 F_4 F_5 F_6 F_7 F_8 F_9 F_10 F_11) (by decide) (by decide) (by decide) (by decide) (g := (mkF m 21 #[.val (.int p0), .val (.int p1), .val (.int x2), .unset, .unset] [(.int x2)])) rfl (by rw [hml]; rfl) (lenOf pd__I_Lcom_example_bellwether_bellwether_pr_198 rfl) rfl (by show 2 * 0 + _ ≤ _; exact Nat.le_of_eq rfl) (hb hby at_21) e0 ?_
    rintro v24 T24 L24 X24 ⟨rfl, N24q, Kq24⟩
    have N24 := Fr.app N0 N24q
    have K0 := K0.trans Kq24 all0
    have O0 := O0.keep Kq24 all0
    have V_V := V_V.keep Kq24 nin0
    have E_V := E_V.keep Kq24
    have E_0 := E_0.keep Kq24
    have F_0 := F_0.keep Kq24 nin0
    have E_1 := E_1.keep Kq24
    have F_1 := F_1.keep Kq24 nin0
    have E_2 := E_2.keep Kq24
    have F_2 := F_2.keep Kq24 nin0
    have E_3 := E_3.keep Kq24
    have F_3 := F_3.keep Kq24 nin0
    have E_4 := E_4.keep Kq24
    have F_4 := F_4.keep Kq24 nin0
    have E_5 := E_5.keep Kq24
    have F_5 := F_5.keep Kq24 nin0
    have E_6 := E_6.keep Kq24
    have F_6 := F_6.keep Kq24 nin0
    have E_7 := E_7.keep Kq24
    have F_7 := F_7.keep Kq24 nin0
    have E_8 := E_8.keep Kq24
    have F_8 := F_8.keep Kq24 nin0
    have E_9 := E_9.keep Kq24
    have F_9 := F_9.keep Kq24 nin0
    have E_10 := E_10.keep Kq24
    have F_10 := F_10.keep Kq24 nin0
    have E_11 := E_11.keep Kq24
    have F_11 := F_11.keep Kq24 nin0
    show GG _ _ _ _ _ _ _ T24 (mkF m 24 #[.val (.int p0), .val (.int p1), .val (.int x2), .unset, .unset] [(.ref w7)])
    refine own_go (fun _ => XS.astoreN X24.here hx rfl (hb hby at_24) rfl rfl (l' := #[.val (.int p0), .val (.int p1), .val (.int x2), .val (.ref w7), .unset]) rfl) ?_
    show GG _ _ _ _ _ _ _ T24 (mkF m 25 #[.val (.int p0), .val (.int p1), .val (.int x2), .val (.ref w7), .unset] [])
    refine own_go (fun _ => XS.iloadN X24.here hx rfl (hb hby at_25) rfl) ?_
    show GG _ _ _ _ _ _ _ T24 (mkF m 26 #[.val (.int p0), .val (.int p1), .val (.int x2), .val (.ref w7), .unset] [(.int x2)])
    refine own_callS X24 hx hZ (y := (⟨"com/example/bellwether/bellwether/protocol/OpCodeOfPinLaw", "expected", "(I)Lcom/example/bellwether/bellwether/protocol/OpCode;"⟩ : MethodName)) 0 hown (hw _ (List.mem_of_getElem? (i := 33) rfl)) (hw _ (List.mem_of_getElem? (i := 34) rfl)) (hw _ (List.mem_of_getElem? (i := 35) rfl)) (hw _ (List.mem_of_getElem? (i := 36) rfl)) (by decide) (argsL := [(.int x2)]) (rest := []) (rm3_7 l Z a0 hw [] x2 w7 T24.heap n0 (Nat.le_trans Z0 K0.1) hk7 (S_7.ext O0.2)) (by decide) (by decide) (by decide) (by decide) (g := (mkF m 26 #[.val (.int p0), .val (.int p1), .val (.int x2), .val (.ref w7), .unset] [(.int x2)])) rfl (by rw [hml]; rfl) (lenOf pd__I_Lcom_example_bellwether_bellwether_pr_198 rfl) rfl (by show 2 * 0 + _ ≤ _; exact Nat.le_of_eq rfl) (hb hby at_26) rfl ?_
    rintro v25 T25 L25 X25 ⟨rfl, N25q, hh25⟩
    have N25 := Fr.app N24 N25q
    show GG _ _ _ _ _ _ _ T25 (mkF m 29 #[.val (.int p0), .val (.int p1), .val (.int x2), .val (.ref w7), .unset] [(.ref w7)])
    refine own_go (fun _ => XS.astore X25.here hx rfl (hb hby at_29) rfl rfl (l' := #[.val (.int p0), .val (.int p1), .val (.int x2), .val (.ref w7), .val (.ref w7)]) rfl) ?_
    show GG _ _ _ _ _ _ _ T25 (mkF m 31 #[.val (.int p0), .val (.int p1), .val (.int x2), .val (.ref w7), .val (.ref w7)] [])
    refine own_go (fun _ => XS.aloadN X25.here hx rfl (hb hby at_31) rfl rfl) ?_
    show GG _ _ _ _ _ _ _ T25 (mkF m 32 #[.val (.int p0), .val (.int p1), .val (.int x2), .val (.ref w7), .val (.ref w7)] [(.ref w7)])
    refine own_go (fun _ => XS.aload X25.here hx rfl (hb hby at_32) rfl rfl) ?_
    show GG _ _ _ _ _ _ _ T25 (mkF m 34 #[.val (.int p0), .val (.int p1), .val (.int x2), .val (.ref w7), .val (.ref w7)] [(.ref w7), (.ref w7)])
    refine own_go (fun _ => Jvm.RoadKit.acmp (g := (mkF m 34 #[.val (.int p0), .val (.int p1), .val (.int x2), .val (.ref w7), .val (.ref w7)] [(.ref w7), (.ref w7)])) X25 hx rfl rfl rfl (pc0 := 34) (pc' := 39) (same := true) rfl (hb hby at_34) rfl (decide_eq_true rfl) (by decide) (by decide)) ?_
    show GG _ _ _ _ _ _ _ T25 (mkF m 39 #[.val (.int p0), .val (.int p1), .val (.int x2), .val (.ref w7), .val (.ref w7)] [])
    refine own_go (fun _ => XS.aloadN X25.here hx rfl (hb hby at_39) rfl rfl) ?_
    show GG _ _ _ _ _ _ _ T25 (mkF m 40 #[.val (.int p0), .val (.int p1), .val (.int x2), .val (.ref w7), .val (.ref w7)] [(.ref w7)])
    refine own_go (fun _ => XS.ifnullNo X25.here hx rfl (hb hby at_40) rfl) ?_
    show GG _ _ _ _ _ _ _ T25 (mkF m 43 #[.val (.int p0), .val (.int p1), .val (.int x2), .val (.ref w7), .val (.ref w7)] [])
    refine own_go (fun _ => XS.aloadN X25.here hx rfl (hb hby at_43) rfl rfl) ?_
    show GG _ _ _ _ _ _ _ T25 (mkF m 44 #[.val (.int p0), .val (.int p1), .val (.int x2), .val (.ref w7), .val (.ref w7)] [(.ref w7)])
    refine own_callV X25 hx hZ (y := (⟨"com/example/bellwether/bellwether/protocol/OpCode", "code", "()I"⟩ : MethodName)) (z := (⟨"com/example/bellwether/bellwether/protocol/OpCode", "code", "()I"⟩ : MethodName)) 0 hown (hw _ (List.mem_of_getElem? (i := 38) rfl)) (hw _ (List.mem_of_getElem? (i := 39) rfl)) (notFace_of_selects (args := #[]) (mvT hZ (hw _ (List.mem_of_getElem? (i := 41) rfl)))) (hw _ (List.mem_of_getElem? (i := 41) rfl)) (hw _ (List.mem_of_getElem? (i := 40) rfl)) (hw _ (List.mem_of_getElem? (i := 2) rfl)) (hw _ (List.mem_of_getElem? (i := 42) rfl)) (by decide) (a := w7) (argsL := []) (rest := []) (rm4 l Z a0 hw [] w7 (11 : Int32) T24.heap n0 (Nat.le_trans Z0 K0.1) F_7) (by decide) (by decide) (by decide) (by decide) E_7 (g := (mkF m 44 #[.val (.int p0), .val (.int p1), .val (.int x2), .val (.ref w7), .val (.ref w7)] [(.ref w7)])) rfl (by rw [hml]; rfl) (lenOf pd___I_154 rfl) rfl (by show 2 * 0 + _ ≤ _; exact Nat.le_of_eq rfl) (hb hby at_44) hh25 ?_
    rintro v26 T26 L26 X26 ⟨rfl, N26q, hh26⟩
    have N26 := Fr.app N25 N26q
    show GG _ _ _ _ _ _ _ T26 (mkF m 47 #[.val (.int p0), .val (.int p1), .val (.int x2), .val (.ref w7), .val (.ref w7)] [(.int (11 : Int32))])
    refine own_go (fun _ => XS.iloadN X26.here hx rfl (hb hby at_47) rfl) ?_
    show GG _ _ _ _ _ _ _ T26 (mkF m 48 #[.val (.int p0), .val (.int p1), .val (.int x2), .val (.ref w7), .val (.ref w7)] [(.int x2), (.int (11 : Int32))])
    have hc48 : (11 : Int32) = x2 := hk7.symm
    refine own_go (fun _ => XS.icmpNo X26.here hx rfl (hb hby at_48) rfl (teq hc48).2) ?_
    show GG _ _ _ _ _ _ _ T26 (mkF m 51 #[.val (.int p0), .val (.int p1), .val (.int x2), .val (.ref w7), .val (.ref w7)] [])
    refine own_go (fun _ => XS.iconst X26.here hx rfl (hb hby at_51)) ?_
    show GG _ _ _ _ _ _ _ T26 (mkF m 52 #[.val (.int p0), .val (.int p1), .val (.int x2), .val (.ref w7), .val (.ref w7)] [(.int (1 : Int32))])
    refine own_go (fun _ => XS.goto X26.here hx rfl (pc0 := 52) (pc' := 56) rfl (hb hby at_52) (by decide) (by decide)) ?_
    show GG _ _ _ _ _ _ _ T26 (mkF m 56 #[.val (.int p0), .val (.int p1), .val (.int x2), .val (.ref w7), .val (.ref w7)] [(.int (1 : Int32))])
    refine own_ret X26 hx hlk (t := .boolean) (w := (.int (1 : Int32))) Bd.returns rfl (Or.inl ⟨rfl, by simp, _, rfl⟩) (hb hby at_56) (by decide) (by decide) ?_
    show Q0 Z p0 p1 wV w0 w1 w2 w3 w4 w5 w6 w7 w8 w9 w10 w11 h0 n0 (some (.int (1 : Int32))) T26.heap _
    rw [hh26]
    exact ⟨rfl, N26⟩
  by_cases hk8 : x2 = (12 : Int32)
  · skip
    show GG _ _ _ _ _ _ _ s₁ (mkF m 20 #[.val (.int p0), .val (.int p1), .val (.int x2), .unset, .unset] [])
    refine own_go (fun _ => XS.iloadN X0.here hx rfl (hb hby at_20) rfl) ?_
    show GG _ _ _ _ _ _ _ s₁ (mkF m 21 #[.val (.int p0), .val (.int p1), .val (.int x2), .unset, .unset] [(.int x2)])
    refine own_callS X0 hx hZ (y := (⟨"com/example/bellwether/bellwether/protocol/OpCode", "of", "(I)Lcom/example/bellwether/bellwether/protocol/OpCode;"⟩ : MethodName)) 0 hown (hw _ (List.mem_of_getElem? (i := 0) rfl)) (hw _ (List.mem_of_getElem? (i := 1) rfl)) (hw _ (List.mem_of_getElem? (i := 2) rfl)) (hw _ (List.mem_of_getElem? (i := 3) rfl)) (by decide) (argsL := [(.int x2)]) (rest := []) (rm1_8 l Z a0 hw [] x2 wV w0 w1 w2 w3 w4 w5 w6 w7 w8 w9 w10 w11 h0 n0 Z0 hk8 (S_V.ext O0.2) V_V E_V F_0 F_1 F_2 F_3 F_4 F_5 F_6 F_7 F_8 F_9 F_10 F_11) (by decide) (by decide) (by decide) (by decide) (g := (mkF m 21 #[.val (.int p0), .val (.int p1), .val (.int x2), .unset, .unset] [(.int x2)])) rfl (by rw [hml]; rfl) (lenOf pd__I_Lcom_example_bellwether_bellwether_pr_198 rfl) rfl (by show 2 * 0 + _ ≤ _; exact Nat.le_of_eq rfl) (hb hby at_21) e0 ?_
    rintro v27 T27 L27 X27 ⟨rfl, N27q, Kq27⟩
    have N27 := Fr.app N0 N27q
    have K0 := K0.trans Kq27 all0
    have O0 := O0.keep Kq27 all0
    have V_V := V_V.keep Kq27 nin0
    have E_V := E_V.keep Kq27
    have E_0 := E_0.keep Kq27
    have F_0 := F_0.keep Kq27 nin0
    have E_1 := E_1.keep Kq27
    have F_1 := F_1.keep Kq27 nin0
    have E_2 := E_2.keep Kq27
    have F_2 := F_2.keep Kq27 nin0
    have E_3 := E_3.keep Kq27
    have F_3 := F_3.keep Kq27 nin0
    have E_4 := E_4.keep Kq27
    have F_4 := F_4.keep Kq27 nin0
    have E_5 := E_5.keep Kq27
    have F_5 := F_5.keep Kq27 nin0
    have E_6 := E_6.keep Kq27
    have F_6 := F_6.keep Kq27 nin0
    have E_7 := E_7.keep Kq27
    have F_7 := F_7.keep Kq27 nin0
    have E_8 := E_8.keep Kq27
    have F_8 := F_8.keep Kq27 nin0
    have E_9 := E_9.keep Kq27
    have F_9 := F_9.keep Kq27 nin0
    have E_10 := E_10.keep Kq27
    have F_10 := F_10.keep Kq27 nin0
    have E_11 := E_11.keep Kq27
    have F_11 := F_11.keep Kq27 nin0
    show GG _ _ _ _ _ _ _ T27 (mkF m 24 #[.val (.int p0), .val (.int p1), .val (.int x2), .unset, .unset] [(.ref w8)])
    refine own_go (fun _ => XS.astoreN X27.here hx rfl (hb hby at_24) rfl rfl (l' := #[.val (.int p0), .val (.int p1), .val (.int x2), .val (.ref w8), .unset]) rfl) ?_
    show GG _ _ _ _ _ _ _ T27 (mkF m 25 #[.val (.int p0), .val (.int p1), .val (.int x2), .val (.ref w8), .unset] [])
    refine own_go (fun _ => XS.iloadN X27.here hx rfl (hb hby at_25) rfl) ?_
    show GG _ _ _ _ _ _ _ T27 (mkF m 26 #[.val (.int p0), .val (.int p1), .val (.int x2), .val (.ref w8), .unset] [(.int x2)])
    refine own_callS X27 hx hZ (y := (⟨"com/example/bellwether/bellwether/protocol/OpCodeOfPinLaw", "expected", "(I)Lcom/example/bellwether/bellwether/protocol/OpCode;"⟩ : MethodName)) 0 hown (hw _ (List.mem_of_getElem? (i := 33) rfl)) (hw _ (List.mem_of_getElem? (i := 34) rfl)) (hw _ (List.mem_of_getElem? (i := 35) rfl)) (hw _ (List.mem_of_getElem? (i := 36) rfl)) (by decide) (argsL := [(.int x2)]) (rest := []) (rm3_8 l Z a0 hw [] x2 w8 T27.heap n0 (Nat.le_trans Z0 K0.1) hk8 (S_8.ext O0.2)) (by decide) (by decide) (by decide) (by decide) (g := (mkF m 26 #[.val (.int p0), .val (.int p1), .val (.int x2), .val (.ref w8), .unset] [(.int x2)])) rfl (by rw [hml]; rfl) (lenOf pd__I_Lcom_example_bellwether_bellwether_pr_198 rfl) rfl (by show 2 * 0 + _ ≤ _; exact Nat.le_of_eq rfl) (hb hby at_26) rfl ?_
    rintro v28 T28 L28 X28 ⟨rfl, N28q, hh28⟩
    have N28 := Fr.app N27 N28q
    show GG _ _ _ _ _ _ _ T28 (mkF m 29 #[.val (.int p0), .val (.int p1), .val (.int x2), .val (.ref w8), .unset] [(.ref w8)])
    refine own_go (fun _ => XS.astore X28.here hx rfl (hb hby at_29) rfl rfl (l' := #[.val (.int p0), .val (.int p1), .val (.int x2), .val (.ref w8), .val (.ref w8)]) rfl) ?_
    show GG _ _ _ _ _ _ _ T28 (mkF m 31 #[.val (.int p0), .val (.int p1), .val (.int x2), .val (.ref w8), .val (.ref w8)] [])
    refine own_go (fun _ => XS.aloadN X28.here hx rfl (hb hby at_31) rfl rfl) ?_
    show GG _ _ _ _ _ _ _ T28 (mkF m 32 #[.val (.int p0), .val (.int p1), .val (.int x2), .val (.ref w8), .val (.ref w8)] [(.ref w8)])
    refine own_go (fun _ => XS.aload X28.here hx rfl (hb hby at_32) rfl rfl) ?_
    show GG _ _ _ _ _ _ _ T28 (mkF m 34 #[.val (.int p0), .val (.int p1), .val (.int x2), .val (.ref w8), .val (.ref w8)] [(.ref w8), (.ref w8)])
    refine own_go (fun _ => Jvm.RoadKit.acmp (g := (mkF m 34 #[.val (.int p0), .val (.int p1), .val (.int x2), .val (.ref w8), .val (.ref w8)] [(.ref w8), (.ref w8)])) X28 hx rfl rfl rfl (pc0 := 34) (pc' := 39) (same := true) rfl (hb hby at_34) rfl (decide_eq_true rfl) (by decide) (by decide)) ?_
    show GG _ _ _ _ _ _ _ T28 (mkF m 39 #[.val (.int p0), .val (.int p1), .val (.int x2), .val (.ref w8), .val (.ref w8)] [])
    refine own_go (fun _ => XS.aloadN X28.here hx rfl (hb hby at_39) rfl rfl) ?_
    show GG _ _ _ _ _ _ _ T28 (mkF m 40 #[.val (.int p0), .val (.int p1), .val (.int x2), .val (.ref w8), .val (.ref w8)] [(.ref w8)])
    refine own_go (fun _ => XS.ifnullNo X28.here hx rfl (hb hby at_40) rfl) ?_
    show GG _ _ _ _ _ _ _ T28 (mkF m 43 #[.val (.int p0), .val (.int p1), .val (.int x2), .val (.ref w8), .val (.ref w8)] [])
    refine own_go (fun _ => XS.aloadN X28.here hx rfl (hb hby at_43) rfl rfl) ?_
    show GG _ _ _ _ _ _ _ T28 (mkF m 44 #[.val (.int p0), .val (.int p1), .val (.int x2), .val (.ref w8), .val (.ref w8)] [(.ref w8)])
    refine own_callV X28 hx hZ (y := (⟨"com/example/bellwether/bellwether/protocol/OpCode", "code", "()I"⟩ : MethodName)) (z := (⟨"com/example/bellwether/bellwether/protocol/OpCode", "code", "()I"⟩ : MethodName)) 0 hown (hw _ (List.mem_of_getElem? (i := 38) rfl)) (hw _ (List.mem_of_getElem? (i := 39) rfl)) (notFace_of_selects (args := #[]) (mvT hZ (hw _ (List.mem_of_getElem? (i := 41) rfl)))) (hw _ (List.mem_of_getElem? (i := 41) rfl)) (hw _ (List.mem_of_getElem? (i := 40) rfl)) (hw _ (List.mem_of_getElem? (i := 2) rfl)) (hw _ (List.mem_of_getElem? (i := 42) rfl)) (by decide) (a := w8) (argsL := []) (rest := []) (rm4 l Z a0 hw [] w8 (12 : Int32) T27.heap n0 (Nat.le_trans Z0 K0.1) F_8) (by decide) (by decide) (by decide) (by decide) E_8 (g := (mkF m 44 #[.val (.int p0), .val (.int p1), .val (.int x2), .val (.ref w8), .val (.ref w8)] [(.ref w8)])) rfl (by rw [hml]; rfl) (lenOf pd___I_154 rfl) rfl (by show 2 * 0 + _ ≤ _; exact Nat.le_of_eq rfl) (hb hby at_44) hh28 ?_
    rintro v29 T29 L29 X29 ⟨rfl, N29q, hh29⟩
    have N29 := Fr.app N28 N29q
    show GG _ _ _ _ _ _ _ T29 (mkF m 47 #[.val (.int p0), .val (.int p1), .val (.int x2), .val (.ref w8), .val (.ref w8)] [(.int (12 : Int32))])
    refine own_go (fun _ => XS.iloadN X29.here hx rfl (hb hby at_47) rfl) ?_
    show GG _ _ _ _ _ _ _ T29 (mkF m 48 #[.val (.int p0), .val (.int p1), .val (.int x2), .val (.ref w8), .val (.ref w8)] [(.int x2), (.int (12 : Int32))])
    have hc48 : (12 : Int32) = x2 := hk8.symm
    refine own_go (fun _ => XS.icmpNo X29.here hx rfl (hb hby at_48) rfl (teq hc48).2) ?_
    show GG _ _ _ _ _ _ _ T29 (mkF m 51 #[.val (.int p0), .val (.int p1), .val (.int x2), .val (.ref w8), .val (.ref w8)] [])
    refine own_go (fun _ => XS.iconst X29.here hx rfl (hb hby at_51)) ?_
    show GG _ _ _ _ _ _ _ T29 (mkF m 52 #[.val (.int p0), .val (.int p1), .val (.int x2), .val (.ref w8), .val (.ref w8)] [(.int (1 : Int32))])
    refine own_go (fun _ => XS.goto X29.here hx rfl (pc0 := 52) (pc' := 56) rfl (hb hby at_52) (by decide) (by decide)) ?_
    show GG _ _ _ _ _ _ _ T29 (mkF m 56 #[.val (.int p0), .val (.int p1), .val (.int x2), .val (.ref w8), .val (.ref w8)] [(.int (1 : Int32))])
    refine own_ret X29 hx hlk (t := .boolean) (w := (.int (1 : Int32))) Bd.returns rfl (Or.inl ⟨rfl, by simp, _, rfl⟩) (hb hby at_56) (by decide) (by decide) ?_
    show Q0 Z p0 p1 wV w0 w1 w2 w3 w4 w5 w6 w7 w8 w9 w10 w11 h0 n0 (some (.int (1 : Int32))) T29.heap _
    rw [hh29]
    exact ⟨rfl, N29⟩
  by_cases hk9 : x2 = (13 : Int32)
  · skip
    show GG _ _ _ _ _ _ _ s₁ (mkF m 20 #[.val (.int p0), .val (.int p1), .val (.int x2), .unset, .unset] [])
    refine own_go (fun _ => XS.iloadN X0.here hx rfl (hb hby at_20) rfl) ?_
    show GG _ _ _ _ _ _ _ s₁ (mkF m 21 #[.val (.int p0), .val (.int p1), .val (.int x2), .unset, .unset] [(.int x2)])
    refine own_callS X0 hx hZ (y := (⟨"com/example/bellwether/bellwether/protocol/OpCode", "of", "(I)Lcom/example/bellwether/bellwether/protocol/OpCode;"⟩ : MethodName)) 0 hown (hw _ (List.mem_of_getElem? (i := 0) rfl)) (hw _ (List.mem_of_getElem? (i := 1) rfl)) (hw _ (List.mem_of_getElem? (i := 2) rfl)) (hw _ (List.mem_of_getElem? (i := 3) rfl)) (by decide) (argsL := [(.int x2)]) (rest := []) (rm1_9 l Z a0 hw [] x2 wV w0 w1 w2 w3 w4 w5 w6 w7 w8 w9 w10 w11 h0 n0 Z0 hk9 (S_V.ext O0.2) V_V E_V F_0 F_1 F_2 F_3 F_4 F_5 F_6 F_7 F_8 F_9 F_10 F_11) (by decide) (by decide) (by decide) (by decide) (g := (mkF m 21 #[.val (.int p0), .val (.int p1), .val (.int x2), .unset, .unset] [(.int x2)])) rfl (by rw [hml]; rfl) (lenOf pd__I_Lcom_example_bellwether_bellwether_pr_198 rfl) rfl (by show 2 * 0 + _ ≤ _; exact Nat.le_of_eq rfl) (hb hby at_21) e0 ?_
    rintro v30 T30 L30 X30 ⟨rfl, N30q, Kq30⟩
    have N30 := Fr.app N0 N30q
    have K0 := K0.trans Kq30 all0
    have O0 := O0.keep Kq30 all0
    have V_V := V_V.keep Kq30 nin0
    have E_V := E_V.keep Kq30
    have E_0 := E_0.keep Kq30
    have F_0 := F_0.keep Kq30 nin0
    have E_1 := E_1.keep Kq30
    have F_1 := F_1.keep Kq30 nin0
    have E_2 := E_2.keep Kq30
    have F_2 := F_2.keep Kq30 nin0
    have E_3 := E_3.keep Kq30
    have F_3 := F_3.keep Kq30 nin0
    have E_4 := E_4.keep Kq30
    have F_4 := F_4.keep Kq30 nin0
    have E_5 := E_5.keep Kq30
    have F_5 := F_5.keep Kq30 nin0
    have E_6 := E_6.keep Kq30
    have F_6 := F_6.keep Kq30 nin0
    have E_7 := E_7.keep Kq30
    have F_7 := F_7.keep Kq30 nin0
    have E_8 := E_8.keep Kq30
    have F_8 := F_8.keep Kq30 nin0
    have E_9 := E_9.keep Kq30
    have F_9 := F_9.keep Kq30 nin0
    have E_10 := E_10.keep Kq30
    have F_10 := F_10.keep Kq30 nin0
    have E_11 := E_11.keep Kq30
    have F_11 := F_11.keep Kq30 nin0
    show GG _ _ _ _ _ _ _ T30 (mkF m 24 #[.val (.int p0), .val (.int p1), .val (.int x2), .unset, .unset] [(.ref w9)])
    refine own_go (fun _ => XS.astoreN X30.here hx rfl (hb hby at_24) rfl rfl (l' := #[.val (.int p0), .val (.int p1), .val (.int x2), .val (.ref w9), .unset]) rfl) ?_
    show GG _ _ _ _ _ _ _ T30 (mkF m 25 #[.val (.int p0), .val (.int p1), .val (.int x2), .val (.ref w9), .unset] [])
    refine own_go (fun _ => XS.iloadN X30.here hx rfl (hb hby at_25) rfl) ?_
    show GG _ _ _ _ _ _ _ T30 (mkF m 26 #[.val (.int p0), .val (.int p1), .val (.int x2), .val (.ref w9), .unset] [(.int x2)])
    refine own_callS X30 hx hZ (y := (⟨"com/example/bellwether/bellwether/protocol/OpCodeOfPinLaw", "expected", "(I)Lcom/example/bellwether/bellwether/protocol/OpCode;"⟩ : MethodName)) 0 hown (hw _ (List.mem_of_getElem? (i := 33) rfl)) (hw _ (List.mem_of_getElem? (i := 34) rfl)) (hw _ (List.mem_of_getElem? (i := 35) rfl)) (hw _ (List.mem_of_getElem? (i := 36) rfl)) (by decide) (argsL := [(.int x2)]) (rest := []) (rm3_9 l Z a0 hw [] x2 w9 T30.heap n0 (Nat.le_trans Z0 K0.1) hk9 (S_9.ext O0.2)) (by decide) (by decide) (by decide) (by decide) (g := (mkF m 26 #[.val (.int p0), .val (.int p1), .val (.int x2), .val (.ref w9), .unset] [(.int x2)])) rfl (by rw [hml]; rfl) (lenOf pd__I_Lcom_example_bellwether_bellwether_pr_198 rfl) rfl (by show 2 * 0 + _ ≤ _; exact Nat.le_of_eq rfl) (hb hby at_26) rfl ?_
    rintro v31 T31 L31 X31 ⟨rfl, N31q, hh31⟩
    have N31 := Fr.app N30 N31q
    show GG _ _ _ _ _ _ _ T31 (mkF m 29 #[.val (.int p0), .val (.int p1), .val (.int x2), .val (.ref w9), .unset] [(.ref w9)])
    refine own_go (fun _ => XS.astore X31.here hx rfl (hb hby at_29) rfl rfl (l' := #[.val (.int p0), .val (.int p1), .val (.int x2), .val (.ref w9), .val (.ref w9)]) rfl) ?_
    show GG _ _ _ _ _ _ _ T31 (mkF m 31 #[.val (.int p0), .val (.int p1), .val (.int x2), .val (.ref w9), .val (.ref w9)] [])
    refine own_go (fun _ => XS.aloadN X31.here hx rfl (hb hby at_31) rfl rfl) ?_
    show GG _ _ _ _ _ _ _ T31 (mkF m 32 #[.val (.int p0), .val (.int p1), .val (.int x2), .val (.ref w9), .val (.ref w9)] [(.ref w9)])
    refine own_go (fun _ => XS.aload X31.here hx rfl (hb hby at_32) rfl rfl) ?_
    show GG _ _ _ _ _ _ _ T31 (mkF m 34 #[.val (.int p0), .val (.int p1), .val (.int x2), .val (.ref w9), .val (.ref w9)] [(.ref w9), (.ref w9)])
    refine own_go (fun _ => Jvm.RoadKit.acmp (g := (mkF m 34 #[.val (.int p0), .val (.int p1), .val (.int x2), .val (.ref w9), .val (.ref w9)] [(.ref w9), (.ref w9)])) X31 hx rfl rfl rfl (pc0 := 34) (pc' := 39) (same := true) rfl (hb hby at_34) rfl (decide_eq_true rfl) (by decide) (by decide)) ?_
    show GG _ _ _ _ _ _ _ T31 (mkF m 39 #[.val (.int p0), .val (.int p1), .val (.int x2), .val (.ref w9), .val (.ref w9)] [])
    refine own_go (fun _ => XS.aloadN X31.here hx rfl (hb hby at_39) rfl rfl) ?_
    show GG _ _ _ _ _ _ _ T31 (mkF m 40 #[.val (.int p0), .val (.int p1), .val (.int x2), .val (.ref w9), .val (.ref w9)] [(.ref w9)])
    refine own_go (fun _ => XS.ifnullNo X31.here hx rfl (hb hby at_40) rfl) ?_
    show GG _ _ _ _ _ _ _ T31 (mkF m 43 #[.val (.int p0), .val (.int p1), .val (.int x2), .val (.ref w9), .val (.ref w9)] [])
    refine own_go (fun _ => XS.aloadN X31.here hx rfl (hb hby at_43) rfl rfl) ?_
    show GG _ _ _ _ _ _ _ T31 (mkF m 44 #[.val (.int p0), .val (.int p1), .val (.int x2), .val (.ref w9), .val (.ref w9)] [(.ref w9)])
    refine own_callV X31 hx hZ (y := (⟨"com/example/bellwether/bellwether/protocol/OpCode", "code", "()I"⟩ : MethodName)) (z := (⟨"com/example/bellwether/bellwether/protocol/OpCode", "code", "()I"⟩ : MethodName)) 0 hown (hw _ (List.mem_of_getElem? (i := 38) rfl)) (hw _ (List.mem_of_getElem? (i := 39) rfl)) (notFace_of_selects (args := #[]) (mvT hZ (hw _ (List.mem_of_getElem? (i := 41) rfl)))) (hw _ (List.mem_of_getElem? (i := 41) rfl)) (hw _ (List.mem_of_getElem? (i := 40) rfl)) (hw _ (List.mem_of_getElem? (i := 2) rfl)) (hw _ (List.mem_of_getElem? (i := 42) rfl)) (by decide) (a := w9) (argsL := []) (rest := []) (rm4 l Z a0 hw [] w9 (13 : Int32) T30.heap n0 (Nat.le_trans Z0 K0.1) F_9) (by decide) (by decide) (by decide) (by decide) E_9 (g := (mkF m 44 #[.val (.int p0), .val (.int p1), .val (.int x2), .val (.ref w9), .val (.ref w9)] [(.ref w9)])) rfl (by rw [hml]; rfl) (lenOf pd___I_154 rfl) rfl (by show 2 * 0 + _ ≤ _; exact Nat.le_of_eq rfl) (hb hby at_44) hh31 ?_
    rintro v32 T32 L32 X32 ⟨rfl, N32q, hh32⟩
    have N32 := Fr.app N31 N32q
    show GG _ _ _ _ _ _ _ T32 (mkF m 47 #[.val (.int p0), .val (.int p1), .val (.int x2), .val (.ref w9), .val (.ref w9)] [(.int (13 : Int32))])
    refine own_go (fun _ => XS.iloadN X32.here hx rfl (hb hby at_47) rfl) ?_
    show GG _ _ _ _ _ _ _ T32 (mkF m 48 #[.val (.int p0), .val (.int p1), .val (.int x2), .val (.ref w9), .val (.ref w9)] [(.int x2), (.int (13 : Int32))])
    have hc48 : (13 : Int32) = x2 := hk9.symm
    refine own_go (fun _ => XS.icmpNo X32.here hx rfl (hb hby at_48) rfl (teq hc48).2) ?_
    show GG _ _ _ _ _ _ _ T32 (mkF m 51 #[.val (.int p0), .val (.int p1), .val (.int x2), .val (.ref w9), .val (.ref w9)] [])
    refine own_go (fun _ => XS.iconst X32.here hx rfl (hb hby at_51)) ?_
    show GG _ _ _ _ _ _ _ T32 (mkF m 52 #[.val (.int p0), .val (.int p1), .val (.int x2), .val (.ref w9), .val (.ref w9)] [(.int (1 : Int32))])
    refine own_go (fun _ => XS.goto X32.here hx rfl (pc0 := 52) (pc' := 56) rfl (hb hby at_52) (by decide) (by decide)) ?_
    show GG _ _ _ _ _ _ _ T32 (mkF m 56 #[.val (.int p0), .val (.int p1), .val (.int x2), .val (.ref w9), .val (.ref w9)] [(.int (1 : Int32))])
    refine own_ret X32 hx hlk (t := .boolean) (w := (.int (1 : Int32))) Bd.returns rfl (Or.inl ⟨rfl, by simp, _, rfl⟩) (hb hby at_56) (by decide) (by decide) ?_
    show Q0 Z p0 p1 wV w0 w1 w2 w3 w4 w5 w6 w7 w8 w9 w10 w11 h0 n0 (some (.int (1 : Int32))) T32.heap _
    rw [hh32]
    exact ⟨rfl, N32⟩
  by_cases hk10 : x2 = (14 : Int32)
  · skip
    show GG _ _ _ _ _ _ _ s₁ (mkF m 20 #[.val (.int p0), .val (.int p1), .val (.int x2), .unset, .unset] [])
    refine own_go (fun _ => XS.iloadN X0.here hx rfl (hb hby at_20) rfl) ?_
    show GG _ _ _ _ _ _ _ s₁ (mkF m 21 #[.val (.int p0), .val (.int p1), .val (.int x2), .unset, .unset] [(.int x2)])
    refine own_callS X0 hx hZ (y := (⟨"com/example/bellwether/bellwether/protocol/OpCode", "of", "(I)Lcom/example/bellwether/bellwether/protocol/OpCode;"⟩ : MethodName)) 0 hown (hw _ (List.mem_of_getElem? (i := 0) rfl)) (hw _ (List.mem_of_getElem? (i := 1) rfl)) (hw _ (List.mem_of_getElem? (i := 2) rfl)) (hw _ (List.mem_of_getElem? (i := 3) rfl)) (by decide) (argsL := [(.int x2)]) (rest := []) (rm1_10 l Z a0 hw [] x2 wV w0 w1 w2 w3 w4 w5 w6 w7 w8 w9 w10 w11 h0 n0 Z0 hk10 (S_V.ext O0.2) V_V E_V F_0 F_1 F_2 F_3 F_4 F_5 F_6 F_7 F_8 F_9 F_10 F_11) (by decide) (by decide) (by decide) (by decide) (g := (mkF m 21 #[.val (.int p0), .val (.int p1), .val (.int x2), .unset, .unset] [(.int x2)])) rfl (by rw [hml]; rfl) (lenOf pd__I_Lcom_example_bellwether_bellwether_pr_198 rfl) rfl (by show 2 * 0 + _ ≤ _; exact Nat.le_of_eq rfl) (hb hby at_21) e0 ?_
    rintro v33 T33 L33 X33 ⟨rfl, N33q, Kq33⟩
    have N33 := Fr.app N0 N33q
    have K0 := K0.trans Kq33 all0
    have O0 := O0.keep Kq33 all0
    have V_V := V_V.keep Kq33 nin0
    have E_V := E_V.keep Kq33
    have E_0 := E_0.keep Kq33
    have F_0 := F_0.keep Kq33 nin0
    have E_1 := E_1.keep Kq33
    have F_1 := F_1.keep Kq33 nin0
    have E_2 := E_2.keep Kq33
    have F_2 := F_2.keep Kq33 nin0
    have E_3 := E_3.keep Kq33
    have F_3 := F_3.keep Kq33 nin0
    have E_4 := E_4.keep Kq33
    have F_4 := F_4.keep Kq33 nin0
    have E_5 := E_5.keep Kq33
    have F_5 := F_5.keep Kq33 nin0
    have E_6 := E_6.keep Kq33
    have F_6 := F_6.keep Kq33 nin0
    have E_7 := E_7.keep Kq33
    have F_7 := F_7.keep Kq33 nin0
    have E_8 := E_8.keep Kq33
    have F_8 := F_8.keep Kq33 nin0
    have E_9 := E_9.keep Kq33
    have F_9 := F_9.keep Kq33 nin0
    have E_10 := E_10.keep Kq33
    have F_10 := F_10.keep Kq33 nin0
    have E_11 := E_11.keep Kq33
    have F_11 := F_11.keep Kq33 nin0
    show GG _ _ _ _ _ _ _ T33 (mkF m 24 #[.val (.int p0), .val (.int p1), .val (.int x2), .unset, .unset] [(.ref w10)])
    refine own_go (fun _ => XS.astoreN X33.here hx rfl (hb hby at_24) rfl rfl (l' := #[.val (.int p0), .val (.int p1), .val (.int x2), .val (.ref w10), .unset]) rfl) ?_
    show GG _ _ _ _ _ _ _ T33 (mkF m 25 #[.val (.int p0), .val (.int p1), .val (.int x2), .val (.ref w10), .unset] [])
    refine own_go (fun _ => XS.iloadN X33.here hx rfl (hb hby at_25) rfl) ?_
    show GG _ _ _ _ _ _ _ T33 (mkF m 26 #[.val (.int p0), .val (.int p1), .val (.int x2), .val (.ref w10), .unset] [(.int x2)])
    refine own_callS X33 hx hZ (y := (⟨"com/example/bellwether/bellwether/protocol/OpCodeOfPinLaw", "expected", "(I)Lcom/example/bellwether/bellwether/protocol/OpCode;"⟩ : MethodName)) 0 hown (hw _ (List.mem_of_getElem? (i := 33) rfl)) (hw _ (List.mem_of_getElem? (i := 34) rfl)) (hw _ (List.mem_of_getElem? (i := 35) rfl)) (hw _ (List.mem_of_getElem? (i := 36) rfl)) (by decide) (argsL := [(.int x2)]) (rest := []) (rm3_10 l Z a0 hw [] x2 w10 T33.heap n0 (Nat.le_trans Z0 K0.1) hk10 (S_10.ext O0.2)) (by decide) (by decide) (by decide) (by decide) (g := (mkF m 26 #[.val (.int p0), .val (.int p1), .val (.int x2), .val (.ref w10), .unset] [(.int x2)])) rfl (by rw [hml]; rfl) (lenOf pd__I_Lcom_example_bellwether_bellwether_pr_198 rfl) rfl (by show 2 * 0 + _ ≤ _; exact Nat.le_of_eq rfl) (hb hby at_26) rfl ?_
    rintro v34 T34 L34 X34 ⟨rfl, N34q, hh34⟩
    have N34 := Fr.app N33 N34q
    show GG _ _ _ _ _ _ _ T34 (mkF m 29 #[.val (.int p0), .val (.int p1), .val (.int x2), .val (.ref w10), .unset] [(.ref w10)])
    refine own_go (fun _ => XS.astore X34.here hx rfl (hb hby at_29) rfl rfl (l' := #[.val (.int p0), .val (.int p1), .val (.int x2), .val (.ref w10), .val (.ref w10)]) rfl) ?_
    show GG _ _ _ _ _ _ _ T34 (mkF m 31 #[.val (.int p0), .val (.int p1), .val (.int x2), .val (.ref w10), .val (.ref w10)] [])
    refine own_go (fun _ => XS.aloadN X34.here hx rfl (hb hby at_31) rfl rfl) ?_
    show GG _ _ _ _ _ _ _ T34 (mkF m 32 #[.val (.int p0), .val (.int p1), .val (.int x2), .val (.ref w10), .val (.ref w10)] [(.ref w10)])
    refine own_go (fun _ => XS.aload X34.here hx rfl (hb hby at_32) rfl rfl) ?_
    show GG _ _ _ _ _ _ _ T34 (mkF m 34 #[.val (.int p0), .val (.int p1), .val (.int x2), .val (.ref w10), .val (.ref w10)] [(.ref w10), (.ref w10)])
    refine own_go (fun _ => Jvm.RoadKit.acmp (g := (mkF m 34 #[.val (.int p0), .val (.int p1), .val (.int x2), .val (.ref w10), .val (.ref w10)] [(.ref w10), (.ref w10)])) X34 hx rfl rfl rfl (pc0 := 34) (pc' := 39) (same := true) rfl (hb hby at_34) rfl (decide_eq_true rfl) (by decide) (by decide)) ?_
    show GG _ _ _ _ _ _ _ T34 (mkF m 39 #[.val (.int p0), .val (.int p1), .val (.int x2), .val (.ref w10), .val (.ref w10)] [])
    refine own_go (fun _ => XS.aloadN X34.here hx rfl (hb hby at_39) rfl rfl) ?_
    show GG _ _ _ _ _ _ _ T34 (mkF m 40 #[.val (.int p0), .val (.int p1), .val (.int x2), .val (.ref w10), .val (.ref w10)] [(.ref w10)])
    refine own_go (fun _ => XS.ifnullNo X34.here hx rfl (hb hby at_40) rfl) ?_
    show GG _ _ _ _ _ _ _ T34 (mkF m 43 #[.val (.int p0), .val (.int p1), .val (.int x2), .val (.ref w10), .val (.ref w10)] [])
    refine own_go (fun _ => XS.aloadN X34.here hx rfl (hb hby at_43) rfl rfl) ?_
    show GG _ _ _ _ _ _ _ T34 (mkF m 44 #[.val (.int p0), .val (.int p1), .val (.int x2), .val (.ref w10), .val (.ref w10)] [(.ref w10)])
    refine own_callV X34 hx hZ (y := (⟨"com/example/bellwether/bellwether/protocol/OpCode", "code", "()I"⟩ : MethodName)) (z := (⟨"com/example/bellwether/bellwether/protocol/OpCode", "code", "()I"⟩ : MethodName)) 0 hown (hw _ (List.mem_of_getElem? (i := 38) rfl)) (hw _ (List.mem_of_getElem? (i := 39) rfl)) (notFace_of_selects (args := #[]) (mvT hZ (hw _ (List.mem_of_getElem? (i := 41) rfl)))) (hw _ (List.mem_of_getElem? (i := 41) rfl)) (hw _ (List.mem_of_getElem? (i := 40) rfl)) (hw _ (List.mem_of_getElem? (i := 2) rfl)) (hw _ (List.mem_of_getElem? (i := 42) rfl)) (by decide) (a := w10) (argsL := []) (rest := []) (rm4 l Z a0 hw [] w10 (14 : Int32) T33.heap n0 (Nat.le_trans Z0 K0.1) F_10) (by decide) (by decide) (by decide) (by decide) E_10 (g := (mkF m 44 #[.val (.int p0), .val (.int p1), .val (.int x2), .val (.ref w10), .val (.ref w10)] [(.ref w10)])) rfl (by rw [hml]; rfl) (lenOf pd___I_154 rfl) rfl (by show 2 * 0 + _ ≤ _; exact Nat.le_of_eq rfl) (hb hby at_44) hh34 ?_
    rintro v35 T35 L35 X35 ⟨rfl, N35q, hh35⟩
    have N35 := Fr.app N34 N35q
    show GG _ _ _ _ _ _ _ T35 (mkF m 47 #[.val (.int p0), .val (.int p1), .val (.int x2), .val (.ref w10), .val (.ref w10)] [(.int (14 : Int32))])
    refine own_go (fun _ => XS.iloadN X35.here hx rfl (hb hby at_47) rfl) ?_
    show GG _ _ _ _ _ _ _ T35 (mkF m 48 #[.val (.int p0), .val (.int p1), .val (.int x2), .val (.ref w10), .val (.ref w10)] [(.int x2), (.int (14 : Int32))])
    have hc48 : (14 : Int32) = x2 := hk10.symm
    refine own_go (fun _ => XS.icmpNo X35.here hx rfl (hb hby at_48) rfl (teq hc48).2) ?_
    show GG _ _ _ _ _ _ _ T35 (mkF m 51 #[.val (.int p0), .val (.int p1), .val (.int x2), .val (.ref w10), .val (.ref w10)] [])
    refine own_go (fun _ => XS.iconst X35.here hx rfl (hb hby at_51)) ?_
    show GG _ _ _ _ _ _ _ T35 (mkF m 52 #[.val (.int p0), .val (.int p1), .val (.int x2), .val (.ref w10), .val (.ref w10)] [(.int (1 : Int32))])
    refine own_go (fun _ => XS.goto X35.here hx rfl (pc0 := 52) (pc' := 56) rfl (hb hby at_52) (by decide) (by decide)) ?_
    show GG _ _ _ _ _ _ _ T35 (mkF m 56 #[.val (.int p0), .val (.int p1), .val (.int x2), .val (.ref w10), .val (.ref w10)] [(.int (1 : Int32))])
    refine own_ret X35 hx hlk (t := .boolean) (w := (.int (1 : Int32))) Bd.returns rfl (Or.inl ⟨rfl, by simp, _, rfl⟩) (hb hby at_56) (by decide) (by decide) ?_
    show Q0 Z p0 p1 wV w0 w1 w2 w3 w4 w5 w6 w7 w8 w9 w10 w11 h0 n0 (some (.int (1 : Int32))) T35.heap _
    rw [hh35]
    exact ⟨rfl, N35⟩
  by_cases hk11 : x2 = (-11 : Int32)
  · skip
    show GG _ _ _ _ _ _ _ s₁ (mkF m 20 #[.val (.int p0), .val (.int p1), .val (.int x2), .unset, .unset] [])
    refine own_go (fun _ => XS.iloadN X0.here hx rfl (hb hby at_20) rfl) ?_
    show GG _ _ _ _ _ _ _ s₁ (mkF m 21 #[.val (.int p0), .val (.int p1), .val (.int x2), .unset, .unset] [(.int x2)])
    refine own_callS X0 hx hZ (y := (⟨"com/example/bellwether/bellwether/protocol/OpCode", "of", "(I)Lcom/example/bellwether/bellwether/protocol/OpCode;"⟩ : MethodName)) 0 hown (hw _ (List.mem_of_getElem? (i := 0) rfl)) (hw _ (List.mem_of_getElem? (i := 1) rfl)) (hw _ (List.mem_of_getElem? (i := 2) rfl)) (hw _ (List.mem_of_getElem? (i := 3) rfl)) (by decide) (argsL := [(.int x2)]) (rest := []) (rm1_11 l Z a0 hw [] x2 wV w0 w1 w2 w3 w4 w5 w6 w7 w8 w9 w10 w11 h0 n0 Z0 hk11 (S_V.ext O0.2) V_V E_V F_0 F_1 F_2 F_3 F_4 F_5 F_6 F_7 F_8 F_9 F_10 F_11) (by decide) (by decide) (by decide) (by decide) (g := (mkF m 21 #[.val (.int p0), .val (.int p1), .val (.int x2), .unset, .unset] [(.int x2)])) rfl (by rw [hml]; rfl) (lenOf pd__I_Lcom_example_bellwether_bellwether_pr_198 rfl) rfl (by show 2 * 0 + _ ≤ _; exact Nat.le_of_eq rfl) (hb hby at_21) e0 ?_
    rintro v36 T36 L36 X36 ⟨rfl, N36q, Kq36⟩
    have N36 := Fr.app N0 N36q
    have K0 := K0.trans Kq36 all0
    have O0 := O0.keep Kq36 all0
    have V_V := V_V.keep Kq36 nin0
    have E_V := E_V.keep Kq36
    have E_0 := E_0.keep Kq36
    have F_0 := F_0.keep Kq36 nin0
    have E_1 := E_1.keep Kq36
    have F_1 := F_1.keep Kq36 nin0
    have E_2 := E_2.keep Kq36
    have F_2 := F_2.keep Kq36 nin0
    have E_3 := E_3.keep Kq36
    have F_3 := F_3.keep Kq36 nin0
    have E_4 := E_4.keep Kq36
    have F_4 := F_4.keep Kq36 nin0
    have E_5 := E_5.keep Kq36
    have F_5 := F_5.keep Kq36 nin0
    have E_6 := E_6.keep Kq36
    have F_6 := F_6.keep Kq36 nin0
    have E_7 := E_7.keep Kq36
    have F_7 := F_7.keep Kq36 nin0
    have E_8 := E_8.keep Kq36
    have F_8 := F_8.keep Kq36 nin0
    have E_9 := E_9.keep Kq36
    have F_9 := F_9.keep Kq36 nin0
    have E_10 := E_10.keep Kq36
    have F_10 := F_10.keep Kq36 nin0
    have E_11 := E_11.keep Kq36
    have F_11 := F_11.keep Kq36 nin0
    show GG _ _ _ _ _ _ _ T36 (mkF m 24 #[.val (.int p0), .val (.int p1), .val (.int x2), .unset, .unset] [(.ref w11)])
    refine own_go (fun _ => XS.astoreN X36.here hx rfl (hb hby at_24) rfl rfl (l' := #[.val (.int p0), .val (.int p1), .val (.int x2), .val (.ref w11), .unset]) rfl) ?_
    show GG _ _ _ _ _ _ _ T36 (mkF m 25 #[.val (.int p0), .val (.int p1), .val (.int x2), .val (.ref w11), .unset] [])
    refine own_go (fun _ => XS.iloadN X36.here hx rfl (hb hby at_25) rfl) ?_
    show GG _ _ _ _ _ _ _ T36 (mkF m 26 #[.val (.int p0), .val (.int p1), .val (.int x2), .val (.ref w11), .unset] [(.int x2)])
    refine own_callS X36 hx hZ (y := (⟨"com/example/bellwether/bellwether/protocol/OpCodeOfPinLaw", "expected", "(I)Lcom/example/bellwether/bellwether/protocol/OpCode;"⟩ : MethodName)) 0 hown (hw _ (List.mem_of_getElem? (i := 33) rfl)) (hw _ (List.mem_of_getElem? (i := 34) rfl)) (hw _ (List.mem_of_getElem? (i := 35) rfl)) (hw _ (List.mem_of_getElem? (i := 36) rfl)) (by decide) (argsL := [(.int x2)]) (rest := []) (rm3_11 l Z a0 hw [] x2 w11 T36.heap n0 (Nat.le_trans Z0 K0.1) hk11 (S_11.ext O0.2)) (by decide) (by decide) (by decide) (by decide) (g := (mkF m 26 #[.val (.int p0), .val (.int p1), .val (.int x2), .val (.ref w11), .unset] [(.int x2)])) rfl (by rw [hml]; rfl) (lenOf pd__I_Lcom_example_bellwether_bellwether_pr_198 rfl) rfl (by show 2 * 0 + _ ≤ _; exact Nat.le_of_eq rfl) (hb hby at_26) rfl ?_
    rintro v37 T37 L37 X37 ⟨rfl, N37q, hh37⟩
    have N37 := Fr.app N36 N37q
    show GG _ _ _ _ _ _ _ T37 (mkF m 29 #[.val (.int p0), .val (.int p1), .val (.int x2), .val (.ref w11), .unset] [(.ref w11)])
    refine own_go (fun _ => XS.astore X37.here hx rfl (hb hby at_29) rfl rfl (l' := #[.val (.int p0), .val (.int p1), .val (.int x2), .val (.ref w11), .val (.ref w11)]) rfl) ?_
    show GG _ _ _ _ _ _ _ T37 (mkF m 31 #[.val (.int p0), .val (.int p1), .val (.int x2), .val (.ref w11), .val (.ref w11)] [])
    refine own_go (fun _ => XS.aloadN X37.here hx rfl (hb hby at_31) rfl rfl) ?_
    show GG _ _ _ _ _ _ _ T37 (mkF m 32 #[.val (.int p0), .val (.int p1), .val (.int x2), .val (.ref w11), .val (.ref w11)] [(.ref w11)])
    refine own_go (fun _ => XS.aload X37.here hx rfl (hb hby at_32) rfl rfl) ?_
    show GG _ _ _ _ _ _ _ T37 (mkF m 34 #[.val (.int p0), .val (.int p1), .val (.int x2), .val (.ref w11), .val (.ref w11)] [(.ref w11), (.ref w11)])
    refine own_go (fun _ => Jvm.RoadKit.acmp (g := (mkF m 34 #[.val (.int p0), .val (.int p1), .val (.int x2), .val (.ref w11), .val (.ref w11)] [(.ref w11), (.ref w11)])) X37 hx rfl rfl rfl (pc0 := 34) (pc' := 39) (same := true) rfl (hb hby at_34) rfl (decide_eq_true rfl) (by decide) (by decide)) ?_
    show GG _ _ _ _ _ _ _ T37 (mkF m 39 #[.val (.int p0), .val (.int p1), .val (.int x2), .val (.ref w11), .val (.ref w11)] [])
    refine own_go (fun _ => XS.aloadN X37.here hx rfl (hb hby at_39) rfl rfl) ?_
    show GG _ _ _ _ _ _ _ T37 (mkF m 40 #[.val (.int p0), .val (.int p1), .val (.int x2), .val (.ref w11), .val (.ref w11)] [(.ref w11)])
    refine own_go (fun _ => XS.ifnullNo X37.here hx rfl (hb hby at_40) rfl) ?_
    show GG _ _ _ _ _ _ _ T37 (mkF m 43 #[.val (.int p0), .val (.int p1), .val (.int x2), .val (.ref w11), .val (.ref w11)] [])
    refine own_go (fun _ => XS.aloadN X37.here hx rfl (hb hby at_43) rfl rfl) ?_
    show GG _ _ _ _ _ _ _ T37 (mkF m 44 #[.val (.int p0), .val (.int p1), .val (.int x2), .val (.ref w11), .val (.ref w11)] [(.ref w11)])
    refine own_callV X37 hx hZ (y := (⟨"com/example/bellwether/bellwether/protocol/OpCode", "code", "()I"⟩ : MethodName)) (z := (⟨"com/example/bellwether/bellwether/protocol/OpCode", "code", "()I"⟩ : MethodName)) 0 hown (hw _ (List.mem_of_getElem? (i := 38) rfl)) (hw _ (List.mem_of_getElem? (i := 39) rfl)) (notFace_of_selects (args := #[]) (mvT hZ (hw _ (List.mem_of_getElem? (i := 41) rfl)))) (hw _ (List.mem_of_getElem? (i := 41) rfl)) (hw _ (List.mem_of_getElem? (i := 40) rfl)) (hw _ (List.mem_of_getElem? (i := 2) rfl)) (hw _ (List.mem_of_getElem? (i := 42) rfl)) (by decide) (a := w11) (argsL := []) (rest := []) (rm4 l Z a0 hw [] w11 (-11 : Int32) T36.heap n0 (Nat.le_trans Z0 K0.1) F_11) (by decide) (by decide) (by decide) (by decide) E_11 (g := (mkF m 44 #[.val (.int p0), .val (.int p1), .val (.int x2), .val (.ref w11), .val (.ref w11)] [(.ref w11)])) rfl (by rw [hml]; rfl) (lenOf pd___I_154 rfl) rfl (by show 2 * 0 + _ ≤ _; exact Nat.le_of_eq rfl) (hb hby at_44) hh37 ?_
    rintro v38 T38 L38 X38 ⟨rfl, N38q, hh38⟩
    have N38 := Fr.app N37 N38q
    show GG _ _ _ _ _ _ _ T38 (mkF m 47 #[.val (.int p0), .val (.int p1), .val (.int x2), .val (.ref w11), .val (.ref w11)] [(.int (-11 : Int32))])
    refine own_go (fun _ => XS.iloadN X38.here hx rfl (hb hby at_47) rfl) ?_
    show GG _ _ _ _ _ _ _ T38 (mkF m 48 #[.val (.int p0), .val (.int p1), .val (.int x2), .val (.ref w11), .val (.ref w11)] [(.int x2), (.int (-11 : Int32))])
    have hc48 : (-11 : Int32) = x2 := hk11.symm
    refine own_go (fun _ => XS.icmpNo X38.here hx rfl (hb hby at_48) rfl (teq hc48).2) ?_
    show GG _ _ _ _ _ _ _ T38 (mkF m 51 #[.val (.int p0), .val (.int p1), .val (.int x2), .val (.ref w11), .val (.ref w11)] [])
    refine own_go (fun _ => XS.iconst X38.here hx rfl (hb hby at_51)) ?_
    show GG _ _ _ _ _ _ _ T38 (mkF m 52 #[.val (.int p0), .val (.int p1), .val (.int x2), .val (.ref w11), .val (.ref w11)] [(.int (1 : Int32))])
    refine own_go (fun _ => XS.goto X38.here hx rfl (pc0 := 52) (pc' := 56) rfl (hb hby at_52) (by decide) (by decide)) ?_
    show GG _ _ _ _ _ _ _ T38 (mkF m 56 #[.val (.int p0), .val (.int p1), .val (.int x2), .val (.ref w11), .val (.ref w11)] [(.int (1 : Int32))])
    refine own_ret X38 hx hlk (t := .boolean) (w := (.int (1 : Int32))) Bd.returns rfl (Or.inl ⟨rfl, by simp, _, rfl⟩) (hb hby at_56) (by decide) (by decide) ?_
    show Q0 Z p0 p1 wV w0 w1 w2 w3 w4 w5 w6 w7 w8 w9 w10 w11 h0 n0 (some (.int (1 : Int32))) T38.heap _
    rw [hh38]
    exact ⟨rfl, N38⟩
  show GG _ _ _ _ _ _ _ s₁ (mkF m 20 #[.val (.int p0), .val (.int p1), .val (.int x2), .unset, .unset] [])
  refine own_go (fun _ => XS.iloadN X0.here hx rfl (hb hby at_20) rfl) ?_
  show GG _ _ _ _ _ _ _ s₁ (mkF m 21 #[.val (.int p0), .val (.int p1), .val (.int x2), .unset, .unset] [(.int x2)])
  refine own_callS X0 hx hZ (y := (⟨"com/example/bellwether/bellwether/protocol/OpCode", "of", "(I)Lcom/example/bellwether/bellwether/protocol/OpCode;"⟩ : MethodName)) 0 hown (hw _ (List.mem_of_getElem? (i := 0) rfl)) (hw _ (List.mem_of_getElem? (i := 1) rfl)) (hw _ (List.mem_of_getElem? (i := 2) rfl)) (hw _ (List.mem_of_getElem? (i := 3) rfl)) (by decide) (argsL := [(.int x2)]) (rest := []) (rm1_12 l Z a0 hw [] x2 wV w0 w1 w2 w3 w4 w5 w6 w7 w8 w9 w10 w11 h0 n0 Z0 (fun q => hk0 q.symm) (fun q => hk1 q.symm) (fun q => hk2 q.symm) (fun q => hk3 q.symm) (fun q => hk4 q.symm) (fun q => hk5 q.symm) (fun q => hk6 q.symm) (fun q => hk7 q.symm) (fun q => hk8 q.symm) (fun q => hk9 q.symm) (fun q => hk10 q.symm) (fun q => hk11 q.symm) (S_V.ext O0.2) V_V E_V F_0 F_1 F_2 F_3 F_4 F_5 F_6 F_7 F_8 F_9 F_10 F_11) (by decide) (by decide) (by decide) (by decide) (g := (mkF m 21 #[.val (.int p0), .val (.int p1), .val (.int x2), .unset, .unset] [(.int x2)])) rfl (by rw [hml]; rfl) (lenOf pd__I_Lcom_example_bellwether_bellwether_pr_198 rfl) rfl (by show 2 * 0 + _ ≤ _; exact Nat.le_of_eq rfl) (hb hby at_21) e0 ?_
  rintro v39 T39 L39 X39 ⟨rfl, N39q, Kq39⟩
  have N39 := Fr.app N0 N39q
  have K0 := K0.trans Kq39 all0
  have O0 := O0.keep Kq39 all0
  have V_V := V_V.keep Kq39 nin0
  have E_V := E_V.keep Kq39
  have E_0 := E_0.keep Kq39
  have F_0 := F_0.keep Kq39 nin0
  have E_1 := E_1.keep Kq39
  have F_1 := F_1.keep Kq39 nin0
  have E_2 := E_2.keep Kq39
  have F_2 := F_2.keep Kq39 nin0
  have E_3 := E_3.keep Kq39
  have F_3 := F_3.keep Kq39 nin0
  have E_4 := E_4.keep Kq39
  have F_4 := F_4.keep Kq39 nin0
  have E_5 := E_5.keep Kq39
  have F_5 := F_5.keep Kq39 nin0
  have E_6 := E_6.keep Kq39
  have F_6 := F_6.keep Kq39 nin0
  have E_7 := E_7.keep Kq39
  have F_7 := F_7.keep Kq39 nin0
  have E_8 := E_8.keep Kq39
  have F_8 := F_8.keep Kq39 nin0
  have E_9 := E_9.keep Kq39
  have F_9 := F_9.keep Kq39 nin0
  have E_10 := E_10.keep Kq39
  have F_10 := F_10.keep Kq39 nin0
  have E_11 := E_11.keep Kq39
  have F_11 := F_11.keep Kq39 nin0
  show GG _ _ _ _ _ _ _ T39 (mkF m 24 #[.val (.int p0), .val (.int p1), .val (.int x2), .unset, .unset] [.null])
  refine own_go (fun _ => XS.astoreN X39.here hx rfl (hb hby at_24) rfl rfl (l' := #[.val (.int p0), .val (.int p1), .val (.int x2), .val .null, .unset]) rfl) ?_
  show GG _ _ _ _ _ _ _ T39 (mkF m 25 #[.val (.int p0), .val (.int p1), .val (.int x2), .val .null, .unset] [])
  refine own_go (fun _ => XS.iloadN X39.here hx rfl (hb hby at_25) rfl) ?_
  show GG _ _ _ _ _ _ _ T39 (mkF m 26 #[.val (.int p0), .val (.int p1), .val (.int x2), .val .null, .unset] [(.int x2)])
  refine own_callS X39 hx hZ (y := (⟨"com/example/bellwether/bellwether/protocol/OpCodeOfPinLaw", "expected", "(I)Lcom/example/bellwether/bellwether/protocol/OpCode;"⟩ : MethodName)) 0 hown (hw _ (List.mem_of_getElem? (i := 33) rfl)) (hw _ (List.mem_of_getElem? (i := 34) rfl)) (hw _ (List.mem_of_getElem? (i := 35) rfl)) (hw _ (List.mem_of_getElem? (i := 36) rfl)) (by decide) (argsL := [(.int x2)]) (rest := []) (rm3_12 l Z a0 hw [] x2  T39.heap n0 (Nat.le_trans Z0 K0.1) (fun q => hk0 q.symm) (fun q => hk1 q.symm) (fun q => hk2 q.symm) (fun q => hk3 q.symm) (fun q => hk4 q.symm) (fun q => hk5 q.symm) (fun q => hk6 q.symm) (fun q => hk7 q.symm) (fun q => hk8 q.symm) (fun q => hk9 q.symm) (fun q => hk10 q.symm) (fun q => hk11 q.symm) ) (by decide) (by decide) (by decide) (by decide) (g := (mkF m 26 #[.val (.int p0), .val (.int p1), .val (.int x2), .val .null, .unset] [(.int x2)])) rfl (by rw [hml]; rfl) (lenOf pd__I_Lcom_example_bellwether_bellwether_pr_198 rfl) rfl (by show 2 * 0 + _ ≤ _; exact Nat.le_of_eq rfl) (hb hby at_26) rfl ?_
  rintro v40 T40 L40 X40 ⟨rfl, N40q, hh40⟩
  have N40 := Fr.app N39 N40q
  show GG _ _ _ _ _ _ _ T40 (mkF m 29 #[.val (.int p0), .val (.int p1), .val (.int x2), .val .null, .unset] [.null])
  refine own_go (fun _ => XS.astore X40.here hx rfl (hb hby at_29) rfl rfl (l' := #[.val (.int p0), .val (.int p1), .val (.int x2), .val .null, .val .null]) rfl) ?_
  show GG _ _ _ _ _ _ _ T40 (mkF m 31 #[.val (.int p0), .val (.int p1), .val (.int x2), .val .null, .val .null] [])
  refine own_go (fun _ => XS.aloadN X40.here hx rfl (hb hby at_31) rfl rfl) ?_
  show GG _ _ _ _ _ _ _ T40 (mkF m 32 #[.val (.int p0), .val (.int p1), .val (.int x2), .val .null, .val .null] [.null])
  refine own_go (fun _ => XS.aload X40.here hx rfl (hb hby at_32) rfl rfl) ?_
  show GG _ _ _ _ _ _ _ T40 (mkF m 34 #[.val (.int p0), .val (.int p1), .val (.int x2), .val .null, .val .null] [.null, .null])
  refine own_go (fun _ => Jvm.RoadKit.acmp (g := (mkF m 34 #[.val (.int p0), .val (.int p1), .val (.int x2), .val .null, .val .null] [.null, .null])) X40 hx rfl rfl rfl (pc0 := 34) (pc' := 39) (same := true) rfl (hb hby at_34) rfl (decide_eq_true rfl) (by decide) (by decide)) ?_
  show GG _ _ _ _ _ _ _ T40 (mkF m 39 #[.val (.int p0), .val (.int p1), .val (.int x2), .val .null, .val .null] [])
  refine own_go (fun _ => XS.aloadN X40.here hx rfl (hb hby at_39) rfl rfl) ?_
  show GG _ _ _ _ _ _ _ T40 (mkF m 40 #[.val (.int p0), .val (.int p1), .val (.int x2), .val .null, .val .null] [.null])
  refine own_go (fun _ => XS.ifnullYes X40.here hx rfl (pc0 := 40) (pc' := 51) rfl (hb hby at_40) rfl (by decide) (by decide)) ?_
  show GG _ _ _ _ _ _ _ T40 (mkF m 51 #[.val (.int p0), .val (.int p1), .val (.int x2), .val .null, .val .null] [])
  refine own_go (fun _ => XS.iconst X40.here hx rfl (hb hby at_51)) ?_
  show GG _ _ _ _ _ _ _ T40 (mkF m 52 #[.val (.int p0), .val (.int p1), .val (.int x2), .val .null, .val .null] [(.int (1 : Int32))])
  refine own_go (fun _ => XS.goto X40.here hx rfl (pc0 := 52) (pc' := 56) rfl (hb hby at_52) (by decide) (by decide)) ?_
  show GG _ _ _ _ _ _ _ T40 (mkF m 56 #[.val (.int p0), .val (.int p1), .val (.int x2), .val .null, .val .null] [(.int (1 : Int32))])
  refine own_ret X40 hx hlk (t := .boolean) (w := (.int (1 : Int32))) Bd.returns rfl (Or.inl ⟨rfl, by simp, _, rfl⟩) (hb hby at_56) (by decide) (by decide) ?_
  show Q0 Z p0 p1 wV w0 w1 w2 w3 w4 w5 w6 w7 w8 w9 w10 w11 h0 n0 (some (.int (1 : Int32))) T40.heap _
  rw [hh40]
  exact ⟨rfl, N40⟩
set_option maxRecDepth 65536 in
set_option maxHeartbeats 40000000 in
theorem comes_1 {Post : Tables → Env → Array Value → State → Outcome → State → Prop} (hpost : ∀ tb e args s v u, (limb_1_1.after args s (.returned v) u = true ∧ limb_1_2.after args s (.returned v) u = true ∧ True) → FrameEnd s (.returned v) u (Jvm.fieldLocs frame_1_writes args s ++ Jvm.arrayLocs frame_1_arrays args s ++ Jvm.staticLocs frame_1_statics s) 16 128 → Post tb e args s (.returned v) u) :
    ArmFor flags0 classFile x code maxLocals ret World_1 tables_1 room_1 Calls_1 rest_1 Pre_1 Post := by
  intro l hfl _ _ p e ha hc hk s m args below hf hA hF happ hP
  obtain ⟨hcalls, hrest, hpre⟩ := hP
  obtain ⟨-, -, -, hnamed, -, -, -, hat⟩ := (Spec.applies_iff hf).mp happ
  obtain ⟨hg, hn⟩ := and_e (Cond.before_iff.mp (show (Jvm.Cond.and given_1 narrow_1).before args s = true from hpre))
  obtain ⟨g1, g2⟩ := and_e hg
  obtain ⟨g3, g4⟩ := and_e g2
  obtain ⟨w0, w1, rfl⟩ : ∃ w0 w1 : Value, args = #[w0, w1] := by
    have hs : args.size = 2 := by simpa [Cond.value, given_1] using g1
    obtain ⟨L⟩ := args
    match L, hs with
    | [w0, w1], _ => exact ⟨w0, w1, rfl⟩
  have hw := fun d (hd : d ∈ tables_1) => atoms_spec (ws := Jvm.Cond.code x code maxLocals ret :: tables_1) hat d (List.mem_cons_of_mem _ hd)
  have hfit : Fit s := fun {y c} hc i hi => by
    obtain ⟨ha, rfl⟩ := Array.getElem?_eq_some_iff.mp hc
    have q := List.all_eq_true.mp ((Array.all_eq_true_iff_forall_mem.mp hF) _ (Array.getElem_mem ha)) i (List.mem_range.mpr hi)
    simpa [Array.getElem?_eq_getElem hi] using q
  obtain ⟨i0, ei0⟩ := is_v g3
  obtain rfl : w0 = (.int i0) := Option.some.inj ei0
  obtain ⟨i1, ei1⟩ := is_v g4
  obtain rfl : w1 = (.int i1) := Option.some.inj ei1
  obtain ⟨n1, n2⟩ := and_e hn
  obtain ⟨n3, n4⟩ := and_e n2
  obtain ⟨n5, n6⟩ := and_e n4
  obtain ⟨n7, n8⟩ := and_e n6
  obtain ⟨n9, n10⟩ := and_e n8
  obtain ⟨n11, n12⟩ := and_e n10
  obtain ⟨n13, n14⟩ := and_e n12
  obtain ⟨n15, n16⟩ := and_e n14
  obtain ⟨n17, n18⟩ := and_e n16
  obtain ⟨n19, n20⟩ := and_e n18
  obtain ⟨n21, n22⟩ := and_e n20
  obtain ⟨n23, n24⟩ := and_e n22
  obtain ⟨n25, n26⟩ := and_e n24
  obtain ⟨n27, n28⟩ := and_e n26
  obtain ⟨n29, n30⟩ := and_e n28
  obtain ⟨n31, n32⟩ := and_e n30
  obtain ⟨n33, n34⟩ := and_e n32
  obtain ⟨n35, n36⟩ := and_e n34
  obtain ⟨n37, n38⟩ := and_e n36
  obtain ⟨n39, n40⟩ := and_e n38
  obtain ⟨n41, n42⟩ := and_e n40
  obtain ⟨n43, n44⟩ := and_e n42
  obtain ⟨n45, n46⟩ := and_e n44
  obtain ⟨n47, n48⟩ := and_e n46
  obtain ⟨n49, n50⟩ := and_e n48
  obtain ⟨n51, n52⟩ := and_e n50
  obtain ⟨n53, n54⟩ := and_e n52
  obtain ⟨n55, n56⟩ := and_e n54
  obtain ⟨n57, n58⟩ := and_e n56
  obtain ⟨n59, n60⟩ := and_e n58
  obtain ⟨n61, n62⟩ := and_e n60
  obtain ⟨n63, n64⟩ := and_e n62
  obtain ⟨n65, n66⟩ := and_e n64
  obtain ⟨n67, n68⟩ := and_e n66
  obtain ⟨n69, n70⟩ := and_e n68
  obtain ⟨n71, n72⟩ := and_e n70
  obtain ⟨n73, n74⟩ := and_e n72
  obtain ⟨n75, n76⟩ := and_e n74
  obtain ⟨wVx, evV⟩ := exa_v n3
  have S_V := Sta.start evV (Or.inl (hw _ (List.mem_of_getElem? (i := 28) rfl)))
  have E_V := Exa.start evV n3
  obtain ⟨w0x, ev0⟩ := exa_v n7
  have S_0 := Sta.start ev0 (Or.inr ⟨(hw _ (List.mem_of_getElem? (i := 2) rfl)), (hw _ (List.mem_of_getElem? (i := 16) rfl))⟩)
  have E_0 := Exa.start ev0 n7
  have F_0 := own_efld ev0 n55
  obtain ⟨w1x, ev1⟩ := exa_v n11
  have S_1 := Sta.start ev1 (Or.inr ⟨(hw _ (List.mem_of_getElem? (i := 2) rfl)), (hw _ (List.mem_of_getElem? (i := 17) rfl))⟩)
  have E_1 := Exa.start ev1 n11
  have F_1 := own_efld ev1 n57
  obtain ⟨w2x, ev2⟩ := exa_v n15
  have S_2 := Sta.start ev2 (Or.inr ⟨(hw _ (List.mem_of_getElem? (i := 2) rfl)), (hw _ (List.mem_of_getElem? (i := 18) rfl))⟩)
  have E_2 := Exa.start ev2 n15
  have F_2 := own_efld ev2 n59
  obtain ⟨w3x, ev3⟩ := exa_v n19
  have S_3 := Sta.start ev3 (Or.inr ⟨(hw _ (List.mem_of_getElem? (i := 2) rfl)), (hw _ (List.mem_of_getElem? (i := 19) rfl))⟩)
  have E_3 := Exa.start ev3 n19
  have F_3 := own_efld ev3 n61
  obtain ⟨w4x, ev4⟩ := exa_v n23
  have S_4 := Sta.start ev4 (Or.inr ⟨(hw _ (List.mem_of_getElem? (i := 2) rfl)), (hw _ (List.mem_of_getElem? (i := 20) rfl))⟩)
  have E_4 := Exa.start ev4 n23
  have F_4 := own_efld ev4 n63
  obtain ⟨w5x, ev5⟩ := exa_v n27
  have S_5 := Sta.start ev5 (Or.inr ⟨(hw _ (List.mem_of_getElem? (i := 2) rfl)), (hw _ (List.mem_of_getElem? (i := 21) rfl))⟩)
  have E_5 := Exa.start ev5 n27
  have F_5 := own_efld ev5 n65
  obtain ⟨w6x, ev6⟩ := exa_v n31
  have S_6 := Sta.start ev6 (Or.inr ⟨(hw _ (List.mem_of_getElem? (i := 2) rfl)), (hw _ (List.mem_of_getElem? (i := 22) rfl))⟩)
  have E_6 := Exa.start ev6 n31
  have F_6 := own_efld ev6 n67
  obtain ⟨w7x, ev7⟩ := exa_v n35
  have S_7 := Sta.start ev7 (Or.inr ⟨(hw _ (List.mem_of_getElem? (i := 2) rfl)), (hw _ (List.mem_of_getElem? (i := 23) rfl))⟩)
  have E_7 := Exa.start ev7 n35
  have F_7 := own_efld ev7 n69
  obtain ⟨w8x, ev8⟩ := exa_v n39
  have S_8 := Sta.start ev8 (Or.inr ⟨(hw _ (List.mem_of_getElem? (i := 2) rfl)), (hw _ (List.mem_of_getElem? (i := 24) rfl))⟩)
  have E_8 := Exa.start ev8 n39
  have F_8 := own_efld ev8 n71
  obtain ⟨w9x, ev9⟩ := exa_v n43
  have S_9 := Sta.start ev9 (Or.inr ⟨(hw _ (List.mem_of_getElem? (i := 2) rfl)), (hw _ (List.mem_of_getElem? (i := 25) rfl))⟩)
  have E_9 := Exa.start ev9 n43
  have F_9 := own_efld ev9 n73
  obtain ⟨w10x, ev10⟩ := exa_v n47
  have S_10 := Sta.start ev10 (Or.inr ⟨(hw _ (List.mem_of_getElem? (i := 2) rfl)), (hw _ (List.mem_of_getElem? (i := 26) rfl))⟩)
  have E_10 := Exa.start ev10 n47
  have F_10 := own_efld ev10 n75
  obtain ⟨w11x, ev11⟩ := exa_v n51
  have S_11 := Sta.start ev11 (Or.inr ⟨(hw _ (List.mem_of_getElem? (i := 2) rfl)), (hw _ (List.mem_of_getElem? (i := 27) rfl))⟩)
  have E_11 := Exa.start ev11 n51
  have F_11 := own_efld ev11 n76
  obtain ⟨clV, AV⟩ := Arr.start evV n1
  have V_V : Arx s s.heap wVx (.object "com/example/bellwether/bellwether/protocol/OpCode") [(.ref w0x), (.ref w1x), (.ref w2x), (.ref w3x), (.ref w4x), (.ref w5x), (.ref w6x), (.ref w7x), (.ref w8x), (.ref w9x), (.ref w10x), (.ref w11x)] := own_vals hfit evV AV n5 rfl (by decide) (Nat.le_of_ble_eq_true rfl) ⟨own_elem evV ev0 n9 AV.1, own_elem evV ev1 n13 AV.1, own_elem evV ev2 n17 AV.1, own_elem evV ev3 n21 AV.1, own_elem evV ev4 n25 AV.1, own_elem evV ev5 n29 AV.1, own_elem evV ev6 n33 AV.1, own_elem evV ev7 n37 AV.1, own_elem evV ev8 n41 AV.1, own_elem evV ev9 n45 AV.1, own_elem evV ev10 n49 AV.1, own_elem evV ev11 n53 AV.1, trivial⟩
  obtain ⟨n, o, h1, h2, h3, _, L, rfl, ⟨rfl, N⟩, hq⟩ := rm0 l s _ hw tables_1 i0 i1 wVx w0x w1x w2x w3x w4x w5x w6x w7x w8x w9x w10x w11x s.heap s.heap.size (Nat.le_refl _) (Old.start s) S_V V_V E_V S_0 E_0 F_0 S_1 E_1 F_1 S_2 E_2 F_2 S_3 E_3 F_3 S_4 E_4 F_4 S_5 E_5 F_5 S_6 E_6 F_6 S_7 E_7 F_7 S_8 E_8 F_8 S_9 E_9 F_9 S_10 E_10 F_10 S_11 E_11 F_11 p e ha hc hk s m _ below hf ((Spec.applies_iff_loose hf).mp happ).1 ⟨rfl, State.Warmed39.refl s, rfl⟩ trivial
  refine ⟨n, _, h1, h2, h3, hpost _ _ _ _ _ _ ⟨Cond.after_iff.mpr rfl, Cond.after_iff.mpr (eq_i res_at (Term.int_eval (1)) rfl), trivial⟩ ⟨hq.1, hq.2.1, (hq.2.2.sift fun y hy => Or.inr (N y hy)).mono (by decide) (by decide)⟩⟩
theorem main_1_1 : Claimed_1_1 := comes_1 fun _ _ _ _ _ _ h hF => ⟨h.1, hF⟩
theorem main_1_2 : Claimed_1_2 := comes_1 fun _ _ _ _ _ _ h hF => ⟨h.2.1, hF⟩
end Jvm.Pilot.@@N@@
namespace Jvm.Pilot.@@N@@
open Jvm Jvm.ClassFile Sem Op Lib Jvm.Free Jvm.Stand Jvm.Pilot.@@N@@.Jvm.D
/-! MADE BY PROGRAM (witnessworld.py) out of the Statement's table words and the real class files: 13 classes; the members and pool entries that the words name. The judged class is class 1, her method 1. -/
namespace start1
open Jvm.ClassFile
def u (s : String) : CpInfo := .utf8 (stringToUtf16 s)
/-- a pool by its gaps: so many unusable entries, then the entry; so many at the end -/
def gap : Nat → List CpInfo → List CpInfo
  | 0, r => r
  | n + 1, r => .unusable :: gap n r
def poolList (es : List (Nat × CpInfo)) (last : Nat) : List CpInfo := es.foldr (fun e r => gap e.1 (e.2 :: r)) (gap last [])
def pool (es : List (Nat × CpInfo)) (last : Nat) : Array CpInfo := ⟨poolList es last⟩
def fileOf (pool : Array CpInfo) (this : Nat) (attrs : Array Attribute := #[]) (ms : Array MethodInfo := #[]) (fl : Nat := 33) (sup : Nat := 0) (ifs : Array Nat := #[]) (fds : Array FieldInfo := #[]) : ClassFile where
  minorVersion := 0
  majorVersion := 65
  constantPool := pool
  accessFlags := fl
  thisClass := this
  superClass := sup
  interfaces := ifs
  fields := fds
  methods := ms
  attributes := attrs
def plain (name : String) (sup : Option ClassId) : Class where
  name := name
  kind := .ordinary
  loader := none
  accessFlags := 33
  super := sup
  interfaces := #[]
  cf := none
  fields := #[]
  methods := #[]
  instanceTypes := #[]
  staticTypes := #[]
  resolved := #[]
  callSites := []
  init := .initialized
  statics := none
  mirror := none

def pool0 : Array CpInfo := pool [(5, u "<init>"), (0, u "()V"), (1, .class_ 10), (1, u "java/lang/Object"), (85, u "clone"), (0, u "()Ljava/lang/Object;")] 26

def k0m0 : Method := { name := "<init>", desc := "()V", sig := { parameters := [], returnType := none }, accessFlags := 1, code := none }
def k0m1 : Method := { name := "clone", desc := "()Ljava/lang/Object;", sig := { parameters := [], returnType := some (.object "java/lang/Object") }, accessFlags := 260, code := none }
/-- java/lang/Object -/
def k0 : Class := { plain "java/lang/Object" none with
  accessFlags := 33
  interfaces := #[]
  cf := some (fileOf pool0 8 #[] #[{ accessFlags := 1, nameIndex := 5, descriptorIndex := 6, attributes := #[] }, { accessFlags := 260, nameIndex := 96, descriptorIndex := 97, attributes := #[] }] 33 0 #[] #[])
  fields := #[]
  methods := #[k0m0, k0m1]
  instanceTypes := #[]
  staticTypes := #[]
  resolved := Array.replicate 124 none
  statics := none }

def pool1 : Array CpInfo := pool [(2, .class_ 4), (1, u "java/lang/Object"), (0, u "<init>"), (0, u "()V"), (0, .methodref 8 9), (0, .class_ 10), (0, .nameAndType 11 12), (0, u "com/example/bellwether/bellwether/protocol/OpCode"), (0, u "of"), (0, u "(I)Lcom/example/bellwether/bellwether/protocol/OpCode;"), (0, .methodref 14 15), (0, .class_ 16), (0, .nameAndType 17 12), (0, u "com/example/bellwether/bellwether/protocol/OpCodeOfPinLaw"), (0, u "expected"), (0, .methodref 8 19), (0, .nameAndType 20 21), (0, u "code"), (0, u "()I"), (0, .fieldref 8 23), (0, .nameAndType 24 25), (0, u "CREATE"), (0, u "Lcom/example/bellwether/bellwether/protocol/OpCode;"), (0, .fieldref 8 27), (0, .nameAndType 28 25), (0, u "DELETE"), (0, .fieldref 8 30), (0, .nameAndType 31 25), (0, u "EXISTS"), (0, .fieldref 8 33), (0, .nameAndType 34 25), (0, u "GET_DATA"), (0, .fieldref 8 36), (0, .nameAndType 37 25), (0, u "SET_DATA"), (0, .fieldref 8 39), (0, .nameAndType 40 25), (0, u "GET_CHILDREN"), (0, .fieldref 8 42), (0, .nameAndType 43 25), (0, u "SYNC"), (0, .fieldref 8 45), (0, .nameAndType 46 25), (0, u "PING"), (0, .fieldref 8 48), (0, .nameAndType 49 25), (0, u "GET_CHILDREN2"), (0, .fieldref 8 51), (0, .nameAndType 52 25), (0, u "CHECK"), (0, .fieldref 8 54), (0, .nameAndType 55 25), (0, u "MULTI"), (0, .fieldref 8 57), (0, .nameAndType 58 25), (0, u "CLOSE_SESSION"), (2, u "law"), (0, u "(II)Z")] 3

def k1m0 : Method := { name := "<init>", desc := "()V", sig := { parameters := [], returnType := none }, accessFlags := 1, code := none }
def k1c1 : Code := { maxStack := 2, maxLocals := 5, code := code, exceptionTable := #[], attributes := #[] }
def k1m1 : Method := { name := "law", desc := "(II)Z", sig := { parameters := [.int, .int], returnType := some .boolean }, accessFlags := 9, code := some k1c1 }
def k1c2 : Code := { maxStack := 2, maxLocals := 1, code := method_3_code, exceptionTable := #[], attributes := #[] }
def k1m2 : Method := { name := "expected", desc := "(I)Lcom/example/bellwether/bellwether/protocol/OpCode;", sig := { parameters := [.int], returnType := some (.object "com/example/bellwether/bellwether/protocol/OpCode") }, accessFlags := 10, code := some k1c2 }
/-- com/example/bellwether/bellwether/protocol/OpCodeOfPinLaw -/
def k1 : Class := { plain "com/example/bellwether/bellwether/protocol/OpCodeOfPinLaw" (some 0) with
  accessFlags := 49
  interfaces := #[]
  cf := some (fileOf pool1 14 #[] #[{ accessFlags := 1, nameIndex := 5, descriptorIndex := 6, attributes := #[] }, { accessFlags := 9, nameIndex := 61, descriptorIndex := 62, attributes := #[] }, { accessFlags := 10, nameIndex := 17, descriptorIndex := 12, attributes := #[] }] 49 2 #[] #[])
  fields := #[]
  methods := #[k1m0, k1m1, k1m2]
  instanceTypes := #[]
  staticTypes := #[]
  resolved := Array.replicate 66 none
  statics := none }

def pool2 : Array CpInfo := pool [(1, .class_ 2), (0, u "java/lang/constant/Constable"), (0, .class_ 4), (0, u "java/lang/Object")] 6

/-- java/lang/constant/Constable -/
def k2 : Class := { plain "java/lang/constant/Constable" (some 0) with
  accessFlags := 1537
  interfaces := #[]
  cf := some (fileOf pool2 1 #[] #[] 1537 3 #[] #[])
  fields := #[]
  methods := #[]
  instanceTypes := #[]
  staticTypes := #[]
  resolved := Array.replicate 11 none
  statics := none }

def pool3 : Array CpInfo := pool [(1, .class_ 2), (0, u "java/lang/Comparable"), (0, .class_ 4), (0, u "java/lang/Object")] 7

/-- java/lang/Comparable -/
def k3 : Class := { plain "java/lang/Comparable" (some 0) with
  accessFlags := 1537
  interfaces := #[]
  cf := some (fileOf pool3 1 #[] #[] 1537 3 #[] #[])
  fields := #[]
  methods := #[]
  instanceTypes := #[]
  staticTypes := #[]
  resolved := Array.replicate 12 none
  statics := none }

def pool4 : Array CpInfo := pool [(1, .class_ 2), (0, u "java/io/Serializable"), (0, .class_ 4), (0, u "java/lang/Object")] 2

/-- java/io/Serializable -/
def k4 : Class := { plain "java/io/Serializable" (some 0) with
  accessFlags := 1537
  interfaces := #[]
  cf := some (fileOf pool4 1 #[] #[] 1537 3 #[] #[])
  fields := #[]
  methods := #[]
  instanceTypes := #[]
  staticTypes := #[]
  resolved := Array.replicate 7 none
  statics := none }

def pool5 : Array CpInfo := pool [(2, .class_ 4), (1, u "java/lang/Enum"), (0, u "name"), (0, u "Ljava/lang/String;"), (2, u "ordinal"), (0, u "I"), (1, .class_ 14), (1, u "java/lang/Object"), (4, u "hash"), (86, .class_ 108), (1, u "java/lang/Enum$EnumDesc"), (2, .class_ 112), (0, u "java/lang/constant/Constable"), (0, .class_ 114), (0, u "java/lang/Comparable"), (0, .class_ 116), (0, u "java/io/Serializable")] 87

/-- java/lang/Enum -/
def k5 : Class := { plain "java/lang/Enum" (some 0) with
  accessFlags := 1057
  interfaces := #[2, 3, 4]
  cf := some (fileOf pool5 2 #[.nestMembers #[106]] #[] 1057 12 #[111, 113, 115] #[{ accessFlags := 18, nameIndex := 5, descriptorIndex := 6, attributes := #[] }, { accessFlags := 18, nameIndex := 9, descriptorIndex := 10, attributes := #[] }, { accessFlags := 2, nameIndex := 19, descriptorIndex := 10, attributes := #[] }])
  fields := #[{ name := "name", type := (.object "java/lang/String"), accessFlags := 18, slot := 0, constantValue := 0 }, { name := "ordinal", type := .int, accessFlags := 18, slot := 1, constantValue := 0 }, { name := "hash", type := .int, accessFlags := 2, slot := 2, constantValue := 0 }]
  methods := #[]
  instanceTypes := #[(.object "java/lang/String"), .int, .int]
  staticTypes := #[]
  resolved := Array.replicate 204 none
  statics := none }

def pool6 : Array CpInfo := pool [(1, .class_ 2), (0, u "com/example/bellwether/bellwether/protocol/OpCode"), (2, u "CREATE"), (0, u "Lcom/example/bellwether/bellwether/protocol/OpCode;"), (2, u "DELETE"), (2, u "EXISTS"), (2, u "GET_DATA"), (2, u "SET_DATA"), (2, u "GET_CHILDREN"), (2, u "SYNC"), (2, u "PING"), (2, u "GET_CHILDREN2"), (2, u "CHECK"), (2, u "MULTI"), (2, u "CLOSE_SESSION"), (0, .fieldref 1 41), (0, .nameAndType 42 43), (0, u "$VALUES"), (0, u "[Lcom/example/bellwether/bellwether/protocol/OpCode;"), (0, .methodref 45 46), (0, .class_ 43), (0, .nameAndType 47 48), (0, u "clone"), (0, u "()Ljava/lang/Object;"), (1, .class_ 52), (1, u "java/lang/Enum"), (6, .fieldref 1 60), (0, .nameAndType 61 62), (0, u "code"), (0, u "I"), (2, u "bodyReader"), (0, u "Lcom/example/bellwether/bellwether/protocol/OpCode$BodyReader;"), (0, .methodref 1 68), (0, .nameAndType 69 70), (0, u "values"), (0, u "()[Lcom/example/bellwether/bellwether/protocol/OpCode;"), (1, .class_ 74), (1, u "com/example/bellwether/bellwether/protocol/OpCode$BodyReader"), (61, u "()I"), (0, u "of"), (0, u "(I)Lcom/example/bellwether/bellwether/protocol/OpCode;")] 64

def k6c0 : Code := { maxStack := 1, maxLocals := 0, code := prog_23_method_1_code, exceptionTable := #[], attributes := #[] }
def k6m0 : Method := { name := "values", desc := "()[Lcom/example/bellwether/bellwether/protocol/OpCode;", sig := { parameters := [], returnType := some (.array (.object "com/example/bellwether/bellwether/protocol/OpCode")) }, accessFlags := 9, code := some k6c0 }
def k6c1 : Code := { maxStack := 1, maxLocals := 1, code := prog_23_method_4_code, exceptionTable := #[], attributes := #[] }
def k6m1 : Method := { name := "code", desc := "()I", sig := { parameters := [], returnType := some .int }, accessFlags := 1, code := some k6c1 }
def k6c2 : Code := { maxStack := 2, maxLocals := 5, code := prog_23_method_5_code, exceptionTable := #[], attributes := #[] }
def k6m2 : Method := { name := "of", desc := "(I)Lcom/example/bellwether/bellwether/protocol/OpCode;", sig := { parameters := [.int], returnType := some (.object "com/example/bellwether/bellwether/protocol/OpCode") }, accessFlags := 9, code := some k6c2 }
/-- com/example/bellwether/bellwether/protocol/OpCode -/
def k6 : Class := { plain "com/example/bellwether/bellwether/protocol/OpCode" (some 5) with
  accessFlags := 16433
  interfaces := #[]
  cf := some (fileOf pool6 1 #[.nestMembers #[72]] #[{ accessFlags := 9, nameIndex := 69, descriptorIndex := 70, attributes := #[] }, { accessFlags := 1, nameIndex := 61, descriptorIndex := 136, attributes := #[] }, { accessFlags := 9, nameIndex := 137, descriptorIndex := 138, attributes := #[] }] 16433 50 #[] #[{ accessFlags := 16409, nameIndex := 5, descriptorIndex := 6, attributes := #[] }, { accessFlags := 16409, nameIndex := 9, descriptorIndex := 6, attributes := #[] }, { accessFlags := 16409, nameIndex := 12, descriptorIndex := 6, attributes := #[] }, { accessFlags := 16409, nameIndex := 15, descriptorIndex := 6, attributes := #[] }, { accessFlags := 16409, nameIndex := 18, descriptorIndex := 6, attributes := #[] }, { accessFlags := 16409, nameIndex := 21, descriptorIndex := 6, attributes := #[] }, { accessFlags := 16409, nameIndex := 24, descriptorIndex := 6, attributes := #[] }, { accessFlags := 16409, nameIndex := 27, descriptorIndex := 6, attributes := #[] }, { accessFlags := 16409, nameIndex := 30, descriptorIndex := 6, attributes := #[] }, { accessFlags := 16409, nameIndex := 33, descriptorIndex := 6, attributes := #[] }, { accessFlags := 16409, nameIndex := 36, descriptorIndex := 6, attributes := #[] }, { accessFlags := 16409, nameIndex := 39, descriptorIndex := 6, attributes := #[] }, { accessFlags := 18, nameIndex := 61, descriptorIndex := 62, attributes := #[] }, { accessFlags := 18, nameIndex := 65, descriptorIndex := 66, attributes := #[] }, { accessFlags := 4122, nameIndex := 42, descriptorIndex := 43, attributes := #[] }])
  fields := #[{ name := "CREATE", type := (.object "com/example/bellwether/bellwether/protocol/OpCode"), accessFlags := 16409, slot := 0, constantValue := 0 }, { name := "DELETE", type := (.object "com/example/bellwether/bellwether/protocol/OpCode"), accessFlags := 16409, slot := 1, constantValue := 0 }, { name := "EXISTS", type := (.object "com/example/bellwether/bellwether/protocol/OpCode"), accessFlags := 16409, slot := 2, constantValue := 0 }, { name := "GET_DATA", type := (.object "com/example/bellwether/bellwether/protocol/OpCode"), accessFlags := 16409, slot := 3, constantValue := 0 }, { name := "SET_DATA", type := (.object "com/example/bellwether/bellwether/protocol/OpCode"), accessFlags := 16409, slot := 4, constantValue := 0 }, { name := "GET_CHILDREN", type := (.object "com/example/bellwether/bellwether/protocol/OpCode"), accessFlags := 16409, slot := 5, constantValue := 0 }, { name := "SYNC", type := (.object "com/example/bellwether/bellwether/protocol/OpCode"), accessFlags := 16409, slot := 6, constantValue := 0 }, { name := "PING", type := (.object "com/example/bellwether/bellwether/protocol/OpCode"), accessFlags := 16409, slot := 7, constantValue := 0 }, { name := "GET_CHILDREN2", type := (.object "com/example/bellwether/bellwether/protocol/OpCode"), accessFlags := 16409, slot := 8, constantValue := 0 }, { name := "CHECK", type := (.object "com/example/bellwether/bellwether/protocol/OpCode"), accessFlags := 16409, slot := 9, constantValue := 0 }, { name := "MULTI", type := (.object "com/example/bellwether/bellwether/protocol/OpCode"), accessFlags := 16409, slot := 10, constantValue := 0 }, { name := "CLOSE_SESSION", type := (.object "com/example/bellwether/bellwether/protocol/OpCode"), accessFlags := 16409, slot := 11, constantValue := 0 }, { name := "code", type := .int, accessFlags := 18, slot := 3, constantValue := 0 }, { name := "bodyReader", type := (.object "com/example/bellwether/bellwether/protocol/OpCode$BodyReader"), accessFlags := 18, slot := 4, constantValue := 0 }, { name := "$VALUES", type := (.array (.object "com/example/bellwether/bellwether/protocol/OpCode")), accessFlags := 4122, slot := 12, constantValue := 0 }]
  methods := #[k6m0, k6m1, k6m2]
  instanceTypes := #[(.object "java/lang/String"), .int, .int, .int, (.object "com/example/bellwether/bellwether/protocol/OpCode$BodyReader")]
  staticTypes := #[(.object "com/example/bellwether/bellwether/protocol/OpCode"), (.object "com/example/bellwether/bellwether/protocol/OpCode"), (.object "com/example/bellwether/bellwether/protocol/OpCode"), (.object "com/example/bellwether/bellwether/protocol/OpCode"), (.object "com/example/bellwether/bellwether/protocol/OpCode"), (.object "com/example/bellwether/bellwether/protocol/OpCode"), (.object "com/example/bellwether/bellwether/protocol/OpCode"), (.object "com/example/bellwether/bellwether/protocol/OpCode"), (.object "com/example/bellwether/bellwether/protocol/OpCode"), (.object "com/example/bellwether/bellwether/protocol/OpCode"), (.object "com/example/bellwether/bellwether/protocol/OpCode"), (.object "com/example/bellwether/bellwether/protocol/OpCode"), (.array (.object "com/example/bellwether/bellwether/protocol/OpCode"))]
  resolved := Array.replicate 203 none
  statics := some 0 }

def pool7 : Array CpInfo := pool [(1, .class_ 2), (0, u "java/lang/Cloneable"), (0, .class_ 4), (0, u "java/lang/Object")] 2

/-- java/lang/Cloneable -/
def k7 : Class := { plain "java/lang/Cloneable" (some 0) with
  accessFlags := 1537
  interfaces := #[]
  cf := some (fileOf pool7 1 #[] #[] 1537 3 #[] #[])
  fields := #[]
  methods := #[]
  instanceTypes := #[]
  staticTypes := #[]
  resolved := Array.replicate 7 none
  statics := none }

/-- the primitive byte -/
def k8 : Class := { plain "byte" none with kind := .primitive 'B', accessFlags := 0x411 }
/-- [B -/
def k9 : Class := { plain "[B" (some 0) with kind := .array 8 .byte, interfaces := #[7, 4], accessFlags := 1041 }

/-- the primitive int -/
def k10 : Class := { plain "int" none with kind := .primitive 'I', accessFlags := 0x411 }
/-- [I -/
def k11 : Class := { plain "[I" (some 0) with kind := .array 10 .int, interfaces := #[7, 4], accessFlags := 1041 }

/-- [Lcom/example/bellwether/bellwether/protocol/OpCode; -/
def k12 : Class := { plain "[Lcom/example/bellwether/bellwether/protocol/OpCode;" (some 0) with kind := .array 6 (.object "com/example/bellwether/bellwether/protocol/OpCode"), interfaces := #[7, 4], accessFlags := 1041 }

def heap : Heap := #[{ cls := 6, slots := #[.ref 2, .ref 3, .ref 4, .ref 5, .ref 6, .ref 7, .ref 8, .ref 9, .ref 10, .ref 11, .ref 12, .ref 13, .ref 1], vm := .statics 6 },
  { cls := 12, slots := #[.ref 2, .ref 3, .ref 4, .ref 5, .ref 6, .ref 7, .ref 8, .ref 9, .ref 10, .ref 11, .ref 12, .ref 13], vm := .none },
  { cls := 6, slots := #[.null, .int 0, .int 0, .int 1, .null], vm := .none },
  { cls := 6, slots := #[.null, .int 1, .int 0, .int 2, .null], vm := .none },
  { cls := 6, slots := #[.null, .int 2, .int 0, .int 3, .null], vm := .none },
  { cls := 6, slots := #[.null, .int 3, .int 0, .int 4, .null], vm := .none },
  { cls := 6, slots := #[.null, .int 4, .int 0, .int 5, .null], vm := .none },
  { cls := 6, slots := #[.null, .int 5, .int 0, .int 8, .null], vm := .none },
  { cls := 6, slots := #[.null, .int 6, .int 0, .int 9, .null], vm := .none },
  { cls := 6, slots := #[.null, .int 7, .int 0, .int 11, .null], vm := .none },
  { cls := 6, slots := #[.null, .int 8, .int 0, .int 12, .null], vm := .none },
  { cls := 6, slots := #[.null, .int 9, .int 0, .int 13, .null], vm := .none },
  { cls := 6, slots := #[.null, .int 10, .int 0, .int 14, .null], vm := .none },
  { cls := 6, slots := #[.null, .int 11, .int 0, .int (-11), .null], vm := .none }]
def classes : Array Class := #[k0, k1, k2, k3, k4, k5, k6, k7, k8, k9, k10, k11, k12]
def interned : List (Array UInt16 × Addr) := []
def slotsUsed : Nat := 85
def theMethod : MethodId := ⟨1, 1⟩
def args0 : Array Value := #[.int 5, .int 2]
def aboutOver (below : List Frame) : State where
  vm := { classes := classes, interned := interned.toArray }
  heap := heap
  slotsUsed := slotsUsed
  threads := #[{ frames := .invoking theMethod args0 :: below }]
def below0 : List Frame := [.native { method := ⟨0, 0⟩, args := #[] }]
def about1 : State := aboutOver below0
def p0 : Program := .bare "" "" ""
def e0 : Env := launch0.env 0 0 0
theorem w_frames : about1.frames = Frame.invoking theMethod args0 :: below0 := rfl
set_option maxRecDepth 65536 in
theorem w_args : argsFit about1.vm theMethod args0 = true := by decide +kernel
set_option maxRecDepth 65536 in
theorem w_heap : heapFits about1 = true := by decide +kernel
set_option maxRecDepth 65536 in
theorem w_runnable : about1.curStatus? = some .runnable := by decide +kernel
set_option maxRecDepth 65536 in
theorem w_alone : about1.alone = true := by decide +kernel
set_option maxRecDepth 65536 in
theorem w_named : about1.methodNamed? x = some theMethod := by decide +kernel
set_option maxRecDepth 65536 in
theorem w_hears : about1.hears theMethod below0 = true := by decide +kernel
set_option maxRecDepth 65536 in
theorem w_ripe : about1.ripe theMethod args0 below0 = true := by decide +kernel
theorem w_running : about1.status = .running := rfl
set_option maxRecDepth 65536 in
theorem w_room : about1.hasRoom e0.platform room_1 = true :=
  launch0.hasRoom_least _ room_1 (by decide +kernel) (by decide +kernel) (by decide +kernel) (by decide +kernel) (by decide +kernel) (by decide +kernel)
theorem allAtoms_all (ts : List Jvm.Cond) (a : Array Jvm.Value) (st : Jvm.State) : (allAtoms ts).before a st = ts.all (fun c => c.before a st) := by
  induction ts with
  | nil => rfl
  | cons c t ih =>
    show (Jvm.Cond.and c (allAtoms t)).before a st = _
    rw [Jvm.Cond.before_and, ih, List.all_cons]
def words1 : List Jvm.Cond := Jvm.Cond.code x code maxLocals ret :: tables_1
/-- a 'code' word, met by the world's own term for the bytes: nothing is compared byte by byte -/
theorem code_word {y : MethodName} {bytes : ByteArray} {mx : Nat} {rt : Option FieldType} {a : Array Value} {s : State} {m : MethodId} {meth : Method} {c : Code} (h1 : s.methodNamed? y = some m) (h2 : s.vm.method? m = some meth) (h3 : meth.code = some c) (h4 : c.code = bytes)
    (h5 : (c.maxLocals == mx && c.exceptionTable.isEmpty && decide (c.maxStack ≤ mostOperands) && decide (meth.sig.returnType = rt) && !meth.locks && decide (parseMethodDescriptor y.desc = some meth.sig)) = true) : (Jvm.Cond.code y bytes mx rt).before a s = true := by
  simp only [Bool.and_eq_true, beq_iff_eq, Bool.not_eq_true', decide_eq_true_eq] at h5
  obtain ⟨⟨⟨⟨⟨g1, g2⟩, g3⟩, g4⟩, g5⟩, g6⟩ := h5
  simp [Cond.before, Cond.holds, Cond.value, h1, h2, h3, h4, g1, g2, g3, g4, g5, g6]
def isCode : Jvm.Cond → Bool
  | .code _ _ _ _ => true
  | _ => false
theorem all_split {L : List Jvm.Cond} {P : Jvm.Cond → Bool} (h1 : L.all (fun c => isCode c || P c) = true) (h2 : ∀ c ∈ L.filter isCode, P c = true) : L.all P = true := by
  refine List.all_eq_true.mpr fun c hc => ?_
  have h := List.all_eq_true.mp h1 c hc
  rcases Bool.eq_false_or_eq_true (isCode c) with hi | hi
  · exact h2 c (List.mem_filter.mpr ⟨hc, hi⟩)
  · simpa [hi] using h
set_option maxRecDepth 65536 in
theorem w_c0 : (Jvm.Cond.code x code maxLocals ret).before args0 about1 = true := code_word (m := ⟨1, 1⟩) (meth := k1m1) (c := k1c1) (by decide +kernel) rfl rfl rfl (by decide +kernel)
set_option maxRecDepth 65536 in
theorem w_c1 : (Jvm.Cond.code ({ cls := "com/example/bellwether/bellwether/protocol/OpCode", name := "of", desc := "(I)Lcom/example/bellwether/bellwether/protocol/OpCode;" } : Jvm.MethodName) prog_23_method_5_code (5 : Nat) (Option.some (Jvm.ClassFile.FieldType.object "com/example/bellwether/bellwether/protocol/OpCode"))).before args0 about1 = true := code_word (m := ⟨6, 2⟩) (meth := k6m2) (c := k6c2) (by decide +kernel) rfl rfl rfl (by decide +kernel)
set_option maxRecDepth 65536 in
theorem w_c2 : (Jvm.Cond.code ({ cls := "com/example/bellwether/bellwether/protocol/OpCode", name := "values", desc := "()[Lcom/example/bellwether/bellwether/protocol/OpCode;" } : Jvm.MethodName) prog_23_method_1_code (0 : Nat) (Option.some (Jvm.ClassFile.FieldType.array (Jvm.ClassFile.FieldType.object "com/example/bellwether/bellwether/protocol/OpCode")))).before args0 about1 = true := code_word (m := ⟨6, 0⟩) (meth := k6m0) (c := k6c0) (by decide +kernel) rfl rfl rfl (by decide +kernel)
set_option maxRecDepth 65536 in
theorem w_c3 : (Jvm.Cond.code ({ cls := "com/example/bellwether/bellwether/protocol/OpCodeOfPinLaw", name := "expected", desc := "(I)Lcom/example/bellwether/bellwether/protocol/OpCode;" } : Jvm.MethodName) method_3_code (1 : Nat) (Option.some (Jvm.ClassFile.FieldType.object "com/example/bellwether/bellwether/protocol/OpCode"))).before args0 about1 = true := code_word (m := ⟨1, 2⟩) (meth := k1m2) (c := k1c2) (by decide +kernel) rfl rfl rfl (by decide +kernel)
set_option maxRecDepth 65536 in
theorem w_c4 : (Jvm.Cond.code ({ cls := "com/example/bellwether/bellwether/protocol/OpCode", name := "code", desc := "()I" } : Jvm.MethodName) prog_23_method_4_code (1 : Nat) (Option.some Jvm.ClassFile.FieldType.int)).before args0 about1 = true := code_word (m := ⟨6, 1⟩) (meth := k6m1) (c := k6c1) (by decide +kernel) rfl rfl rfl (by decide +kernel)
def codes1 : List Jvm.Cond := [Jvm.Cond.code x code maxLocals ret, Jvm.Cond.code ({ cls := "com/example/bellwether/bellwether/protocol/OpCode", name := "of", desc := "(I)Lcom/example/bellwether/bellwether/protocol/OpCode;" } : Jvm.MethodName) prog_23_method_5_code (5 : Nat) (Option.some (Jvm.ClassFile.FieldType.object "com/example/bellwether/bellwether/protocol/OpCode")), Jvm.Cond.code ({ cls := "com/example/bellwether/bellwether/protocol/OpCode", name := "values", desc := "()[Lcom/example/bellwether/bellwether/protocol/OpCode;" } : Jvm.MethodName) prog_23_method_1_code (0 : Nat) (Option.some (Jvm.ClassFile.FieldType.array (Jvm.ClassFile.FieldType.object "com/example/bellwether/bellwether/protocol/OpCode"))), Jvm.Cond.code ({ cls := "com/example/bellwether/bellwether/protocol/OpCodeOfPinLaw", name := "expected", desc := "(I)Lcom/example/bellwether/bellwether/protocol/OpCode;" } : Jvm.MethodName) method_3_code (1 : Nat) (Option.some (Jvm.ClassFile.FieldType.object "com/example/bellwether/bellwether/protocol/OpCode")), Jvm.Cond.code ({ cls := "com/example/bellwether/bellwether/protocol/OpCode", name := "code", desc := "()I" } : Jvm.MethodName) prog_23_method_4_code (1 : Nat) (Option.some Jvm.ClassFile.FieldType.int)]
set_option maxRecDepth 65536 in
theorem codes_eq : words1.filter isCode = codes1 := rfl
theorem w_codes : ∀ c ∈ words1.filter isCode, c.before args0 about1 = true := by
  rw [codes_eq]
  intro c hc
  simp only [codes1, List.mem_cons, List.not_mem_nil, or_false] at hc
  rcases hc with rfl | rfl | rfl | rfl | rfl
  · exact w_c0
  · exact w_c1
  · exact w_c2
  · exact w_c3
  · exact w_c4
set_option maxRecDepth 65536 in
theorem w_t1 : (words1.take 24).all (fun c => isCode c || c.before args0 about1) = true := by decide +kernel
set_option maxRecDepth 65536 in
theorem w_t2 : ((words1.drop 24).take 24).all (fun c => isCode c || c.before args0 about1) = true := by decide +kernel
set_option maxRecDepth 65536 in
theorem w_t3 : ((words1.drop 24).drop 24).all (fun c => isCode c || c.before args0 about1) = true := by decide +kernel
theorem w_tables : (allAtoms (Jvm.Cond.code x code maxLocals ret :: tables_1)).before args0 about1 = true := by
  rw [allAtoms_all]
  show words1.all (fun c => c.before args0 about1) = true
  refine all_split ?_ w_codes
  rw [← List.take_append_drop 24 words1, List.all_append, w_t1, ← List.take_append_drop 24 (words1.drop 24), List.all_append, w_t2, w_t3]
  rfl
set_option maxRecDepth 65536 in
theorem w_case : (Jvm.Cond.and given_1 narrow_1).before args0 about1 = true := by decide +kernel
theorem w_applies : (headSpec (Jvm.Cond.code x code maxLocals ret :: tables_1) room_1).applies x e0.platform about1 = true :=
  (Spec.applies_iff w_frames).mpr ⟨w_running, w_runnable, w_alone, w_named, w_hears, w_ripe, w_room, w_tables⟩
theorem atStart : AtStart classFile x code maxLocals ret World_1 tables_1 room_1 Calls_1 rest_1 Pre_1 launch0 p0 e0 about1 theMethod args0 below0 :=
  ⟨lists_1, trivial, launch0.admits_env _ _ _, launch0.least_env, fairChoices_fair.cas, fairChoices_fair.clock, w_frames, w_args, w_heap, w_applies, trivial, trivial, w_case⟩
end start1
theorem witness_1 : WitnessClaimed_1 := ⟨start1.p0, start1.e0, start1.about1, start1.theMethod, start1.args0, start1.below0, start1.atStart⟩
end Jvm.Pilot.@@N@@
