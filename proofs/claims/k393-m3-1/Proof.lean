import JvmDerived
import JvmDerived.Pilot.@@N@@Statement
import JvmDerived.Pilot.@@N@@Code
set_option linter.unusedVariables false
set_option linter.unusedSimpArgs false
namespace Jvm.Pilot.@@N@@
open Jvm Jvm.ClassFile Sem Op Lib Jvm.Free Jvm.Stand Jvm.LawKit Jvm.RoadKit Bundle Jvm.Pilot.@@N@@.Jvm.D
section Own
variable {p : Program} {l : Launch} {e : Env} {R : Room} {s : State} {m : MethodId} {args : Array Value} {below : List Frame} {meth : Method} {c : Code} {T : State} {locs : List Loc} {cells slots : Nat} {Z : State} {a0 : Array Value} {h h' : Heap} {rc rs : Nat} {Q Qc : Option Value → Heap → List Loc → Prop}
/-- from here the run comes to its end, and leaves what Q says -/
def GG (p : Program) (e : Env) (below : List Frame) (s : State) (rc rs : Nat) (Q : Option Value → Heap → List Loc → Prop) (T : State) (g : JFrame) : Prop :=
  ∃ s₂ o, Steps p.tables e below (T.setTop g) s₂ ∧ s₂.status = .running ∧ Ended s₂ below o ∧ ∃ v L, o = .returned v ∧ Q v s₂.heap L ∧ FrameEnd s o s₂ L rc rs
theorem own_go {T' : State} {g g' : JFrame} (st : ∀ t, Steps p.tables e below (T'.setTop g') t → Steps p.tables e below (T.setTop g) t) (k : GG p e below s rc rs Q T' g') : GG p e below s rc rs Q T g := by
  obtain ⟨s₂, o, h1, h2⟩ := k
  exact ⟨s₂, o, st _ h1, h2⟩
theorem own_in {g g' : JFrame} (q : g = g') (k : GG p e below s rc rs Q T g') : GG p e below s rc rs Q T g := q ▸ k
theorem own_if {g1 g2 : JFrame} {P : Prop} [Decidable P] (k1 : P → GG p e below s rc rs Q T g1) (k2 : ¬ P → GG p e below s rc rs Q T g2) : GG p e below s rc rs Q T (if P then g1 else g2) := by
  by_cases q : P
  · rw [if_pos q]; exact k1 q
  · rw [if_neg q]; exact k2 q
theorem own_join {g g' : JFrame} (k1 : GG p e below s rc rs Q T g' → GG p e below s rc rs Q T g) (k2 : GG p e below s rc rs Q T g') : GG p e below s rc rs Q T g := k1 k2
abbrev own_CT (l : Launch) (Z : State) (y : MethodName) (bytes : ByteArray) (maxL : Nat) (ret : Option FieldType) (ws : List Jvm.Cond) (rm : Room) (as : Array Value) (h : Heap) (Qc : Option Value → Heap → List Loc → Prop) : Prop :=
  MetFree l y (head1 (Jvm.Cond.code y bytes maxL ret :: ws) rm) (fun a U => a = as ∧ Z.Warmed39 U.vm ∧ U.heap = h) (fun _ _ _ _ _ => True) (fun _ U o U' => ∃ v L, o = .returned v ∧ Qc v U'.heap L ∧ FrameEnd U o U' L rm.cells rm.slots)
theorem own_callS (X : Stand p l e R s m args below meth c T locs cells slots) (hx : p.tables.exec = Jvm.exec) (hZ : Z.Warmed39 s.vm) {own : String} {index : Nat} {y : MethodName} {bytes : ByteArray} {maxL : Nat} {ret : Option FieldType} {rm : Room} (W : Nat)
    (hown : s.vm.findClass own = some m.cls) (w1 : (Jvm.Cond.methodLink own index y).before a0 Z = true) (w2 : (Jvm.Cond.static y).before a0 Z = true) (w3 : (Jvm.Cond.initialized y.cls).before a0 Z = true) (w4 : (Jvm.Cond.code y bytes maxL ret).before a0 Z = true)
    (hy : y.cls ≠ "java/lang/invoke/MethodHandle" ∧ y.cls ≠ "java/lang/invoke/VarHandle") {argsL rest : List Value} (hM : own_CT l Z y bytes maxL ret [] rm argsL.toArray h Qc)
    (hf : rm.frames + 1 ≤ R.frames) (hl : W + (maxL + 11) + rm.locals ≤ R.locals) (hc : cells + rm.cells ≤ R.cells) (hs : slots + rm.slots ≤ R.slots)
    {g : JFrame} (hg : g.method = m) (hsize : g.locals.size = c.maxLocals) (hlen : ∀ sig, parseMethodDescriptor y.desc = some sig → argsL.length = sig.parameters.length) (hstack : g.stack = argsL.reverse ++ rest) (hW : 2 * g.monitorRoom + (rest.map fun v => v.category).sum ≤ W)
    (hdg : decode c.code g.pc = .ok (.invokestatic index, 3)) (eT : T.heap = h)
    (k : ∀ (v : Option Value) (T' : State) (L : List Loc), Stand p l e R s m args below meth c T' (locs ++ L) (cells + rm.cells) (slots + rm.slots) → Qc v T'.heap L → GG p e below s rc rs Q T' { g with pc := g.pc + 3, stack := v.toList ++ rest }) : GG p e below s rc rs Q T g := by
  obtain ⟨v, vm₁, ⟨T', L', k', n'⟩, -, X', ⟨L, hQ, q1, q2, q3⟩, st⟩ := Jvm.LawKit.callS X hx hown (mvT hZ w1) (mvT hZ w2) (mvT hZ w3) (mvT hZ w4) hy (backOf (W := W) hM hZ w4 w3 hf hl) hg hsize hlen hstack hW hdg (fun _ _ => ⟨rfl, eT, hc, hs⟩)
  dsimp only [Pt.U, Pt.locs, Pt.cells, Pt.slots] at X' q1 q2 q3 st hQ
  subst q1 q2 q3
  exact own_go st (k v T' L X' hQ)
theorem own_callI (X : Stand p l e R s m args below meth c T locs cells slots) (hx : p.tables.exec = Jvm.exec) (hZ : Z.Warmed39 s.vm) {own : String} {index : Nat} {y : MethodName} {bytes : ByteArray} {maxL : Nat} {rm : Room} (W : Nat) (hy1 : y.name = "<init>")
    (hown : s.vm.findClass own = some m.cls) (w1 : (Jvm.Cond.methodLink own index y).before a0 Z = true) (w2 : (Jvm.Cond.instanceMethod y).before a0 Z = true) (w3 : (Jvm.Cond.initialized y.cls).before a0 Z = true) (w4 : (Jvm.Cond.code y bytes maxL none).before a0 Z = true)
    (hy : y.cls ≠ "java/lang/invoke/MethodHandle" ∧ y.cls ≠ "java/lang/invoke/VarHandle") {a : Addr} {argsL rest : List Value} (hM : own_CT l Z y bytes maxL none [] rm (.ref a :: argsL).toArray h Qc)
    (hf : rm.frames + 1 ≤ R.frames) (hl : W + (maxL + 11) + rm.locals ≤ R.locals) (hc : cells + rm.cells ≤ R.cells) (hs : slots + rm.slots ≤ R.slots)
    {g : JFrame} (hg : g.method = m) (hsize : g.locals.size = c.maxLocals) (hlen : ∀ sig, parseMethodDescriptor y.desc = some sig → argsL.length = sig.parameters.length) (hstack : g.stack = argsL.reverse ++ .ref a :: rest) (hW : 2 * g.monitorRoom + (rest.map fun v => v.category).sum ≤ W)
    (hdg : decode c.code g.pc = .ok (.invokespecial index, 3)) (eT : T.heap = h)
    (k : ∀ (v : Option Value) (T' : State) (L : List Loc), Stand p l e R s m args below meth c T' (locs ++ L) (cells + rm.cells) (slots + rm.slots) → Qc v T'.heap L → GG p e below s rc rs Q T' { g with pc := g.pc + 3, stack := v.toList ++ rest }) : GG p e below s rc rs Q T g := by
  obtain ⟨v, vm₁, ⟨T', L', k', n'⟩, -, X', ⟨L, hQ, q1, q2, q3⟩, st⟩ := X.specialBack hx hy1 hown (mvT hZ w1) (mvT hZ w2) (mvT hZ w4) hy (backOf (W := W) hM hZ w4 w3 hf hl) hg hsize (Steps.refl _) hlen hstack hW hdg (fun _ _ => ⟨rfl, eT, hc, hs⟩)
  dsimp only [Pt.U, Pt.locs, Pt.cells, Pt.slots] at X' q1 q2 q3 st hQ
  subst q1 q2 q3
  exact own_go (fun _ => st.trans) (k v T' L X' hQ)
theorem own_callV (X : Stand p l e R s m args below meth c T locs cells slots) (hx : p.tables.exec = Jvm.exec) (hZ : Z.Warmed39 s.vm) {own C : String} {index : Nat} {y z : MethodName} {bytes : ByteArray} {maxL : Nat} {ret : Option FieldType} {rm : Room} (W : Nat)
    (hown : s.vm.findClass own = some m.cls) (w1 : (Jvm.Cond.methodLink own index y).before a0 Z = true) (w2 : (Jvm.Cond.declares y).before a0 Z = true) (hnf : NotFace s y) (w5 : (Jvm.Cond.selects C y z).before a0 Z = true) (w6 : (Jvm.Cond.instanceMethod z).before a0 Z = true) (w3 : (Jvm.Cond.initialized z.cls).before a0 Z = true) (w4 : (Jvm.Cond.code z bytes maxL ret).before a0 Z = true)
    (hy : y.cls ≠ "java/lang/invoke/MethodHandle" ∧ y.cls ≠ "java/lang/invoke/VarHandle") {a : Addr} {argsL rest : List Value} (hM : own_CT l Z z bytes maxL ret [] rm (.ref a :: argsL).toArray h Qc)
    (hf : rm.frames + 1 ≤ R.frames) (hl : W + (maxL + 11) + rm.locals ≤ R.locals) (hc : cells + rm.cells ≤ R.cells) (hs : slots + rm.slots ≤ R.slots) (E : Exa Z h a C)
    {g : JFrame} (hg : g.method = m) (hsize : g.locals.size = c.maxLocals) (hlen : ∀ sig, parseMethodDescriptor y.desc = some sig → argsL.length = sig.parameters.length) (hstack : g.stack = argsL.reverse ++ .ref a :: rest) (hW : 2 * g.monitorRoom + (rest.map fun v => v.category).sum ≤ W)
    (hdg : decode c.code g.pc = .ok (.invokevirtual index, 3)) (eT : T.heap = h)
    (k : ∀ (v : Option Value) (T' : State) (L : List Loc), Stand p l e R s m args below meth c T' (locs ++ L) (cells + rm.cells) (slots + rm.slots) → Qc v T'.heap L → GG p e below s rc rs Q T' { g with pc := g.pc + 3, stack := v.toList ++ rest }) : GG p e below s rc rs Q T g := by
  obtain ⟨cq, kq, qa, qb, qc⟩ := isOf hZ eT E
  obtain ⟨v, vm₁, ⟨T', L', k', n'⟩, -, X', ⟨L, hQ, q1, q2, q3⟩, st⟩ := X.virtualBack hx hown (mvT hZ w1) (mvT hZ w2) hnf (mvT hZ w5) (mvT hZ w6) hy (backOf (W := W) hM hZ w4 w3 hf hl) qa qc hg hsize (Steps.refl _) hlen hstack hW hdg (fun _ _ => ⟨rfl, eT, hc, hs⟩)
  dsimp only [Pt.U, Pt.locs, Pt.cells, Pt.slots] at X' q1 q2 q3 st hQ
  subst q1 q2 q3
  exact own_go (fun _ => st.trans) (k v T' L X' hQ)
theorem own_callP (X : Stand p l e R s m args below meth c T locs cells slots) (hx : p.tables.exec = Jvm.exec) (hZ : Z.Warmed39 s.vm) {own C : String} {index : Nat} {y : MethodName} {bytes : ByteArray} {maxL : Nat} {ret : Option FieldType} {rm : Room} (W : Nat)
    (hown : s.vm.findClass own = some m.cls) (w1 : (Jvm.Cond.methodLink own index y).before a0 Z = true) (w2 : (Jvm.Cond.instanceMethod y).before a0 Z = true) {kk : Nat} (w5 : (Jvm.Cond.instantiable y.cls kk).before a0 Z = true) (w6 : (Jvm.Cond.privateMethod y).before a0 Z = true) (w3 : (Jvm.Cond.initialized y.cls).before a0 Z = true) (w4 : (Jvm.Cond.code y bytes maxL ret).before a0 Z = true)
    (hy : y.cls ≠ "java/lang/invoke/MethodHandle" ∧ y.cls ≠ "java/lang/invoke/VarHandle") {a : Addr} {argsL rest : List Value} (hM : own_CT l Z y bytes maxL ret [] rm (.ref a :: argsL).toArray h Qc)
    (hf : rm.frames + 1 ≤ R.frames) (hl : W + (maxL + 11) + rm.locals ≤ R.locals) (hc : cells + rm.cells ≤ R.cells) (hs : slots + rm.slots ≤ R.slots) (E : Exa Z h a C)
    {g : JFrame} (hg : g.method = m) (hsize : g.locals.size = c.maxLocals) (hlen : ∀ sig, parseMethodDescriptor y.desc = some sig → argsL.length = sig.parameters.length) (hstack : g.stack = argsL.reverse ++ .ref a :: rest) (hW : 2 * g.monitorRoom + (rest.map fun v => v.category).sum ≤ W)
    (hdg : decode c.code g.pc = .ok (.invokevirtual index, 3)) (eT : T.heap = h)
    (k : ∀ (v : Option Value) (T' : State) (L : List Loc), Stand p l e R s m args below meth c T' (locs ++ L) (cells + rm.cells) (slots + rm.slots) → Qc v T'.heap L → GG p e below s rc rs Q T' { g with pc := g.pc + 3, stack := v.toList ++ rest }) : GG p e below s rc rs Q T g := by
  obtain ⟨cq, q, q'⟩ := E.cell
  have hpr : s.PrivateAt y := Cond.privateMethod_at (mvP hZ w6 (args := #[]))
  obtain ⟨c1, k1, i1, i2, -, i4, -⟩ := Cond.instantiable_spec (show (Jvm.Cond.instantiable y.cls kk).before args s = true from mv hZ w5)
  have hsel : (Jvm.Cond.selects y.cls y y).before args s = true := selects_self_of_private i1 i2 (Bool.or_eq_false_iff.mp i4).1 hpr (mvT hZ w2) hy
  obtain ⟨v, vm₁, ⟨T', L', k', n'⟩, -, X', ⟨L, hQ, q1, q2, q3⟩, st⟩ := X.privateBack hx hown (mvT hZ w1) (mvT hZ w2) hsel hpr (mvT hZ w4) hy (backOf (W := W) hM hZ w4 w3 hf hl) hg hsize (Steps.refl _) (by rw [eT]; exact q) q' hlen hstack hW hdg (fun _ _ => ⟨rfl, eT, hc, hs⟩)
  dsimp only [Pt.U, Pt.locs, Pt.cells, Pt.slots] at X' q1 q2 q3 st hQ
  subst q1 q2 q3
  exact own_go (fun _ => st.trans) (k v T' L X' hQ)
theorem own_ret (X : Stand p l e R s m args below meth c T locs cells slots) (hx : p.tables.exec = Jvm.exec) (hlk : meth.locks = false) {t : FieldType} {w : Value} {i : Instr} {pc : Nat} {Ls : Array Slot} {rest : List Value} (hret : meth.sig.returnType = some t) (hn : narrow t w = w)
    (hi : (i = .ireturn ∧ (t = .int ∨ t = .boolean ∨ t = .byte ∨ t = .char ∨ t = .short) ∧ ∃ z, w = .int z) ∨ (i = .lreturn ∧ t = .long ∧ ∃ z, w = .long z) ∨ (i = .dreturn ∧ t = .double ∧ ∃ z, w = .double z) ∨ (i = .freturn ∧ t = .float ∧ ∃ z, w = .float z) ∨ (i = .areturn ∧ t.isReference = true ∧ w.isRef = true))
    (hd : decode c.code pc = .ok (i, 1)) (hc : cells ≤ rc) (hs : slots ≤ rs) (hQ : Q (some w) T.heap locs) : GG p e below s rc rs Q T (mkF m pc Ls (w :: rest)) := by
  obtain ⟨fs, hr, hrun, hended, hW, hsame⟩ := X.leave (v := some w) (fun h => by rw [hret] at h; cases h) hlk
  exact ⟨_, _, retOut X hx hret hn hi hd hr, hrun, hended, _, _, rfl, hQ, ⟨_, rfl⟩, hW, hsame.mono hc hs⟩
theorem own_retV (X : Stand p l e R s m args below meth c T locs cells slots) (hx : p.tables.exec = Jvm.exec) (hlk : meth.locks = false) {pc : Nat} {Ls : Array Slot} (hret : meth.sig.returnType = none)
    (hd : decode c.code pc = .ok (.return_, 1)) (hc : cells ≤ rc) (hs : slots ≤ rs) (hQ : Q none T.heap locs) : GG p e below s rc rs Q T (mkF m pc Ls []) := by
  obtain ⟨fs, hr, hrun, hended, hW, hsame⟩ := X.leave (v := none) (fun _ => rfl) hlk
  exact ⟨_, _, X.returnOut hx hret hd hr, hrun, hended, _, _, rfl, hQ, ⟨_, rfl⟩, hW, hsame.mono hc hs⟩
theorem own_nZ {P : Prop} [Decidable P] : narrow .boolean (.int (if P then 1 else 0)) = .int (if P then 1 else 0) := by split <;> rfl
/-- an array of values, all of them named -/
def Arx (Z : State) (h : Heap) (a : Addr) (ty : FieldType) (vs : List Value) : Prop := vs.length < 2 ^ 31 ∧ ∃ k dv, Arv Z h a k ty (Int32.ofNat vs.length) vs dv
variable {a b : Addr} {ty : FieldType} {vs : List Value}
theorem own_ofNat {n : Nat} (q : n < 2 ^ 31) : (Int32.ofNat n).toInt = n := Int32.toInt_ofNat_of_lt q
theorem own_clamp {n : Nat} (q : n < 2 ^ 31) : (Int32.ofNat n).toNatClampNeg = n := by simp only [Int32.toNatClampNeg, own_ofNat q]; rfl
theorem Arx.lt (V : Arx Z h a ty vs) : a < h.size := by obtain ⟨_, k, dv, V⟩ := V; exact V.lt
theorem Arx.ext (V : Arx Z h a ty vs) (E : Ext h h') : Arx Z h' a ty vs := by obtain ⟨q, k, dv, V⟩ := V; exact ⟨q, k, dv, V.ext E⟩
theorem Arx.other {sl : Nat} {v : Value} (V : Arx Z h b ty vs) (W : Wr h h' a sl v) (n : b ≠ a) : Arx Z h' b ty vs := by obtain ⟨q, k, dv, V⟩ := V; exact ⟨q, k, dv, V.other W n⟩
theorem Arx.keep {ws : List Addr} (V : Arx Z h a ty vs) (K : Keep h h' ws) (n : a ∉ ws) : Arx Z h' a ty vs := by obtain ⟨q, k, dv, V⟩ := V; exact ⟨q, k, dv, V.keep K n⟩
theorem Arx.open {j : Int32} {v : Value} (V : Arx Z h a ty vs) (h0 : ¬ j < 0) (hv : vs[j.toNatClampNeg]? = some v) : ∃ cl, Arr Z h a cl ty ∧ ¬ (j < 0 ∨ cl.slots.size ≤ j.toNatClampNeg) ∧ cl.slots[j.toNatClampNeg]? = some v := by
  obtain ⟨q, k, dv, cl, A, -, S, -, H, -⟩ := V
  rw [own_clamp q] at S
  have hl := (List.getElem?_eq_some_iff.mp hv).1
  have e := H j.toNatClampNeg (by rw [S]; exact hl)
  rw [List.getD_eq_getElem?_getD, hv] at e
  exact ⟨cl, A, fun q' => q'.elim h0 (by rw [S]; exact Nat.not_le.mpr hl), e⟩
theorem own_len (X : Stand p l e R s m args below meth c T locs cells slots) (hx : p.tables.exec = Jvm.exec) (hZ : Z.Warmed39 s.vm) (eT : T.heap = h) (V : Arx Z h a ty vs) {g : JFrame} (hg : g.method = m) {rest : List Value} (hs : g.stack = .ref a :: rest) (hd : decode c.code g.pc = .ok (.arraylength, 1)) :
    ∀ t, Steps p.tables e below (T.setTop { g with pc := g.pc + 1, stack := .int (Int32.ofNat vs.length) :: rest }) t → Steps p.tables e below (T.setTop g) t := fun t k => by
  obtain ⟨q, k', dv, cl, A, -, S, N, -⟩ := V
  refine X.arraylength hx (by rw [eT]; exact A.1) (State.isArrayOf_alike hZ.alike A.2.1) hg hs hd _ ?_
  rw [len_of S N]; exact k
theorem own_iaload (X : Stand p l e R s m args below meth c T locs cells slots) (hx : p.tables.exec = Jvm.exec) (hZ : Z.Warmed39 s.vm) (eT : T.heap = h) (V : Arx Z h a .int vs) {j : Int32} {v : Value} (h0 : ¬ j < 0) (hv : vs[j.toNatClampNeg]? = some v) {g : JFrame} (hg : g.method = m) {rest : List Value} (hs : g.stack = .int j :: .ref a :: rest) (hd : decode c.code g.pc = .ok (.iaload, 1)) :
    ∀ t, Steps p.tables e below (T.setTop { g with pc := g.pc + 1, stack := v :: rest }) t → Steps p.tables e below (T.setTop g) t := fun t k => by
  obtain ⟨cl, A, h1, h2⟩ := V.open h0 hv
  exact X.iaload hx (by rw [eT]; exact A.1) (State.isArrayOf_alike hZ.alike A.2.1) A.2.2 h1 h2 hg hs hd _ k
theorem own_laload (X : Stand p l e R s m args below meth c T locs cells slots) (hx : p.tables.exec = Jvm.exec) (hZ : Z.Warmed39 s.vm) (eT : T.heap = h) (V : Arx Z h a .long vs) {j : Int32} {v : Value} (h0 : ¬ j < 0) (hv : vs[j.toNatClampNeg]? = some v) {g : JFrame} (hg : g.method = m) {rest : List Value} (hs : g.stack = .int j :: .ref a :: rest) (hd : decode c.code g.pc = .ok (.laload, 1)) :
    ∀ t, Steps p.tables e below (T.setTop { g with pc := g.pc + 1, stack := v :: rest }) t → Steps p.tables e below (T.setTop g) t := fun t k => by
  obtain ⟨cl, A, h1, h2⟩ := V.open h0 hv
  exact X.laload hx (by rw [eT]; exact A.1) (State.isArrayOf_alike hZ.alike A.2.1) A.2.2 h1 h2 hg hs hd _ k
theorem own_caload (X : Stand p l e R s m args below meth c T locs cells slots) (hx : p.tables.exec = Jvm.exec) (hZ : Z.Warmed39 s.vm) (eT : T.heap = h) (V : Arx Z h a .char vs) {j : Int32} {v : Value} (h0 : ¬ j < 0) (hv : vs[j.toNatClampNeg]? = some v) {g : JFrame} (hg : g.method = m) {rest : List Value} (hs : g.stack = .int j :: .ref a :: rest) (hd : decode c.code g.pc = .ok (.caload, 1)) :
    ∀ t, Steps p.tables e below (T.setTop { g with pc := g.pc + 1, stack := v :: rest }) t → Steps p.tables e below (T.setTop g) t := fun t k => by
  obtain ⟨cl, A, h1, h2⟩ := V.open h0 hv
  exact X.caload hx (by rw [eT]; exact A.1) (State.isArrayOf_alike hZ.alike A.2.1) A.2.2 h1 h2 hg hs hd _ k
theorem own_baload (X : Stand p l e R s m args below meth c T locs cells slots) (hx : p.tables.exec = Jvm.exec) (hZ : Z.Warmed39 s.vm) (eT : T.heap = h) (V : Arx Z h a .byte vs) {j : Int32} {v : Value} (h0 : ¬ j < 0) (hv : vs[j.toNatClampNeg]? = some v) {g : JFrame} (hg : g.method = m) {rest : List Value} (hs : g.stack = .int j :: .ref a :: rest) (hd : decode c.code g.pc = .ok (.baload, 1)) :
    ∀ t, Steps p.tables e below (T.setTop { g with pc := g.pc + 1, stack := v :: rest }) t → Steps p.tables e below (T.setTop g) t := fun t k => by
  obtain ⟨cl, A, h1, h2⟩ := V.open h0 hv
  exact X.baloadBytes hx (by rw [eT]; exact A.1) (State.isArrayOf_alike hZ.alike A.2.1) A.2.2 h1 h2 hg hs hd _ k
theorem own_aaload (X : Stand p l e R s m args below meth c T locs cells slots) (hx : p.tables.exec = Jvm.exec) (hZ : Z.Warmed39 s.vm) (eT : T.heap = h) (V : Arx Z h a ty vs) (ht : ty.isReference = true) {j : Int32} {v : Value} (h0 : ¬ j < 0) (hv : vs[j.toNatClampNeg]? = some v) {g : JFrame} (hg : g.method = m) {rest : List Value} (hs : g.stack = .int j :: .ref a :: rest) (hd : decode c.code g.pc = .ok (.aaload, 1)) :
    ∀ t, Steps p.tables e below (T.setTop { g with pc := g.pc + 1, stack := v :: rest }) t → Steps p.tables e below (T.setTop g) t := fun t k => by
  obtain ⟨cl, A, h1, h2⟩ := V.open h0 hv
  exact X.aaload hx (by rw [eT]; exact A.1) (State.isArrayOf_alike hZ.alike A.2.1) ht A.2.2 h1 h2 hg hs hd _ k
theorem Arx.put {j : Int32} {v : Value} (V : Arx Z h a ty vs) (h0 : ¬ j < 0) (hj : j.toNatClampNeg < vs.length) (hv : fits ty v = true) : ∃ cl, Arr Z h a cl ty ∧ ¬ (j < 0 ∨ cl.slots.size ≤ j.toNatClampNeg) ∧ ∀ {h' : Heap}, Wr h h' a j.toNatClampNeg v → Arx Z h' a ty (vs.set j.toNatClampNeg v) := by
  obtain ⟨q, k, dv, cl, A, q1, S, N, H, G⟩ := V
  refine ⟨cl, A, fun q' => q'.elim h0 ?_, fun W => ⟨by rw [List.length_set]; exact q, k, dv, ?_⟩⟩
  · rw [S, own_clamp q]; exact Nat.not_le.mpr hj
  · rw [List.length_set]; exact Arv.set A q1 S N H G hv W _ rfl hj
theorem own_iastore (X : Stand p l e R s m args below meth c T locs cells slots) (hx : p.tables.exec = Jvm.exec) (hZ : Z.Warmed39 s.vm) (eT : T.heap = h) (V : Arx Z h a .int vs) {j x : Int32} (h0 : ¬ j < 0) (hj : j.toNatClampNeg < vs.length) {g : JFrame} (hg : g.method = m) {rest : List Value} (hs : g.stack = .int x :: .int j :: .ref a :: rest) (hd : decode c.code g.pc = .ok (.iastore, 1)) :
    ∃ T' h', Stand p l e R s m args below meth c T' (locs ++ [⟨a, j.toNatClampNeg⟩]) cells slots ∧ T'.heap = h' ∧ Wr h h' a j.toNatClampNeg (.int x) ∧ Arx Z h' a .int (vs.set j.toNatClampNeg (.int x)) ∧ ∀ t, Steps p.tables e below (T'.setTop { g with pc := g.pc + 1, stack := rest }) t → Steps p.tables e below (T.setTop g) t := by
  obtain ⟨cl, A, h1, h2⟩ := V.put (v := .int x) h0 hj rfl
  obtain ⟨T', h', X', e', W, st⟩ := stI X hx hZ eT A h1 hg hs hd
  exact ⟨T', h', X', e', W, h2 W, st⟩
theorem own_lastore (X : Stand p l e R s m args below meth c T locs cells slots) (hx : p.tables.exec = Jvm.exec) (hZ : Z.Warmed39 s.vm) (eT : T.heap = h) (V : Arx Z h a .long vs) {j : Int32} {x : Int64} (h0 : ¬ j < 0) (hj : j.toNatClampNeg < vs.length) {g : JFrame} (hg : g.method = m) {rest : List Value} (hs : g.stack = .long x :: .int j :: .ref a :: rest) (hd : decode c.code g.pc = .ok (.lastore, 1)) :
    ∃ T' h', Stand p l e R s m args below meth c T' (locs ++ [⟨a, j.toNatClampNeg⟩]) cells slots ∧ T'.heap = h' ∧ Wr h h' a j.toNatClampNeg (.long x) ∧ Arx Z h' a .long (vs.set j.toNatClampNeg (.long x)) ∧ ∀ t, Steps p.tables e below (T'.setTop { g with pc := g.pc + 1, stack := rest }) t → Steps p.tables e below (T.setTop g) t := by
  obtain ⟨cl, A, h1, h2⟩ := V.put (v := .long x) h0 hj rfl
  obtain ⟨T', h', X', e', W, st⟩ := stJ X hx hZ eT A h1 hg hs hd
  exact ⟨T', h', X', e', W, h2 W, st⟩
theorem own_castore (X : Stand p l e R s m args below meth c T locs cells slots) (hx : p.tables.exec = Jvm.exec) (hZ : Z.Warmed39 s.vm) (eT : T.heap = h) (V : Arx Z h a .char vs) {j x : Int32} (h0 : ¬ j < 0) (hj : j.toNatClampNeg < vs.length) {g : JFrame} (hg : g.method = m) {rest : List Value} (hs : g.stack = .int x :: .int j :: .ref a :: rest) (hd : decode c.code g.pc = .ok (.castore, 1)) :
    ∃ T' h', Stand p l e R s m args below meth c T' (locs ++ [⟨a, j.toNatClampNeg⟩]) cells slots ∧ T'.heap = h' ∧ Wr h h' a j.toNatClampNeg (.int (nar .char x)) ∧ Arx Z h' a .char (vs.set j.toNatClampNeg (.int (nar .char x))) ∧ ∀ t, Steps p.tables e below (T'.setTop { g with pc := g.pc + 1, stack := rest }) t → Steps p.tables e below (T.setTop g) t := by
  obtain ⟨cl, A, h1, h2⟩ := V.put (v := .int (nar .char x)) h0 hj (fits_nar_char _)
  obtain ⟨T', h', X', e', W, st⟩ := stC X hx hZ eT A h1 hg hs hd
  exact ⟨T', h', X', e', W, h2 W, st⟩
theorem own_bastore (X : Stand p l e R s m args below meth c T locs cells slots) (hx : p.tables.exec = Jvm.exec) (hZ : Z.Warmed39 s.vm) (eT : T.heap = h) (V : Arx Z h a .byte vs) {j x : Int32} (h0 : ¬ j < 0) (hj : j.toNatClampNeg < vs.length) {g : JFrame} (hg : g.method = m) {rest : List Value} (hs : g.stack = .int x :: .int j :: .ref a :: rest) (hd : decode c.code g.pc = .ok (.bastore, 1)) :
    ∃ T' h', Stand p l e R s m args below meth c T' (locs ++ [⟨a, j.toNatClampNeg⟩]) cells slots ∧ T'.heap = h' ∧ Wr h h' a j.toNatClampNeg (.int (nar .byte x)) ∧ Arx Z h' a .byte (vs.set j.toNatClampNeg (.int (nar .byte x))) ∧ ∀ t, Steps p.tables e below (T'.setTop { g with pc := g.pc + 1, stack := rest }) t → Steps p.tables e below (T.setTop g) t := by
  obtain ⟨cl, A, h1, h2⟩ := V.put (v := .int (nar .byte x)) h0 hj (fits_nar_byte _)
  obtain ⟨T', h', X', e', W, st⟩ := stB X hx hZ eT A h1 hg hs hd
  exact ⟨T', h', X', e', W, h2 W, st⟩
theorem own_newarr (X : Stand p l e R s m args below meth c T locs cells slots) (hx : p.tables.exec = Jvm.exec) (hZ : Z.Warmed39 s.vm) {aty : ArrayType} (w : (Jvm.Cond.arrayClass (newarray.typeOf aty)).before a0 Z = true) (eT : T.heap = h) {g : JFrame} (hg : g.method = m) (hd : decode c.code g.pc = .ok (.newarray aty, 2)) {n : Int32} {rest : List Value} (hs : g.stack = .int n :: rest)
    (hn : ¬ n < 0) {cap : Nat} (hcap : n.toNatClampNeg ≤ cap) (hb : cap * 8 ≤ 536870912) (hc : cells + 1 ≤ R.cells) (hl : slots + cap ≤ R.slots) {ad : String} (had : "[" ++ (newarray.typeOf aty).toString = ad) :
    ∃ T' h' a, a = h.size ∧ Stand p l e R s m args below meth c T' locs (cells + 1) (slots + cap) ∧ T'.heap = h' ∧ Ext h h' ∧ Arx Z h' a (newarray.typeOf aty) (List.replicate n.toNatClampNeg (defaultValue (newarray.typeOf aty))) ∧ Exa Z h' a ad ∧
      ∀ t, Steps p.tables e below (T'.setTop { g with pc := g.pc + 2, stack := .ref a :: rest }) t → Steps p.tables e below (T.setTop g) t := by
  obtain ⟨T', h', cA, X', e', E, A, Ex, st⟩ := newPE X hx hZ w eT hg hd hs hn hcap hb hc hl had
  have b := back32 hn
  refine ⟨T', h', _, rfl, X', e', E, ⟨by rw [List.length_replicate]; exact b.2, cA, defaultValue (newarray.typeOf aty), ?_⟩, Ex, st⟩
  rw [List.length_replicate, show Int32.ofNat n.toNatClampNeg = n from b.1]
  exact (Arv.new A hn).pad (pad_rep [] _ _)
theorem own_clone (X : Stand p l e R s m args below meth c T locs cells slots) (hx : p.tables.exec = Jvm.exec) (hZ : Z.Warmed39 s.vm) {own ad : String} {index : Nat} (hown : s.vm.findClass own = some m.cls)
    (w1 : (Jvm.Cond.methodLink own index ⟨ad, "clone", "()Ljava/lang/Object;"⟩).before a0 Z = true) (w2 : (Jvm.Cond.sameMethod ad "java/lang/Object" "clone" "()Ljava/lang/Object;").before a0 Z = true) (w3 : (Jvm.Cond.native ⟨"java/lang/Object", "clone", "()Ljava/lang/Object;"⟩).before a0 Z = true)
    (w4 : (Jvm.Cond.instanceMethod ⟨"java/lang/Object", "clone", "()Ljava/lang/Object;"⟩).before a0 Z = true) (w5 : (Jvm.Cond.selects ad ⟨ad, "clone", "()Ljava/lang/Object;"⟩ ⟨"java/lang/Object", "clone", "()Ljava/lang/Object;"⟩).before a0 Z = true) (w6 : (Jvm.Cond.castable ad "java/lang/Cloneable").before a0 Z = true)
    (eT : T.heap = h) (V : Arx Z h a ty vs) (E : Exa Z h a ad) {g : JFrame} (hg : g.method = m) (hsize : g.locals.size = c.maxLocals) {rest : List Value} (hst : g.stack = .ref a :: rest) (hd : decode c.code g.pc = .ok (.invokevirtual index, 3))
    (hf : 1 ≤ R.frames) {W cap : Nat} (hW : 2 * g.monitorRoom + (rest.map fun v => v.category).sum ≤ W) (hl : W + 14 ≤ R.locals) (hcap : vs.length ≤ cap) (hc : cells + 1 ≤ R.cells) (hsl : slots + cap ≤ R.slots) :
    ∃ T' h' b, b = h.size ∧ Stand p l e R s m args below meth c T' locs (cells + 1) (slots + cap) ∧ T'.heap = h' ∧ Ext h h' ∧ Arx Z h' b ty vs ∧ Exa Z h' b ad ∧
      ∀ t, Steps p.tables e below (T'.setTop { g with pc := g.pc + 3, stack := .ref b :: rest }) t → Steps p.tables e below (T.setTop g) t := by
  obtain ⟨q, k, dv, V⟩ := V
  obtain ⟨T', h', X', e', ex, V', E', st⟩ := cloneH X hx hZ hown w1 w2 w3 w4 w5 w6 eT V.arh E hg hsize hst hd hf hW hl (by rw [own_clamp q]; exact hcap) hc hsl
  exact ⟨T', h', _, rfl, X', e', ex, ⟨q, k, dv, V'⟩, E', st⟩
end Own
def epo (z : Int64) : Int64 := ((z.toUInt64 >>> ((32 : Int32) &&& 0x3f).toInt64.toUInt64).toInt64)
def cou (z : Int64) : Int64 := (z &&& (4294967295 : Int64))
def folV (z l : Int64) : Int32 := if z = (l + (1 : Int64)) then 1 else if epo l < epo z then (if cou z = (1 : Int64) then 1 else 0) else 0
def zxV (a b : Int32) : Int64 := ((a.toInt64 <<< ((32 : Int32) &&& 0x3f).toInt64) ||| (b.toInt64 &&& (4294967295 : Int64)))
theorem own_zx (a b : Int32) : (zxV a b).toInt = a.toInt * 4294967296 + b.toInt % 4294967296 := by
  have h1 := c_lshl a.toInt64 32 32 (by decide)
  have h2 := c_maskL b.toInt64 4294967295 32 (by decide) (by decide)
  have h3 := c_i2l a
  have h4 := c_i2l b
  have r1 := rng32 a
  have r2 := rng64 (a.toInt64 <<< ((32 : Int32) &&& 0x3f).toInt64)
  have r3 := rng64 (zxV a b)
  rw [h3] at h1
  rw [h4] at h2
  have h5 := c_orL (a.toInt64 <<< ((32 : Int32) &&& 0x3f).toInt64) (b.toInt64 &&& (4294967295 : Int64)) 32 (by decide) 4294967296 (by decide) (by omega) (by omega) (by omega)
  unfold zxV at *
  omega
theorem own_epo (a b : Int32) : (epo (zxV a b)).toInt = a.toInt % 4294967296 := by
  have h := c_lushr (zxV a b) 32 32 (by decide) (by decide)
  rw [own_zx] at h
  show ((((zxV a b).toUInt64 >>> ((32 : Int32) &&& 0x3f).toInt64.toUInt64).toInt64)).toInt = _
  omega
theorem own_cou (a b : Int32) : (cou (zxV a b)).toInt = b.toInt % 4294967296 := by
  have h := c_maskL (zxV a b) 4294967295 32 (by decide) (by decide)
  rw [own_zx] at h
  show ((zxV a b) &&& (4294967295 : Int64)).toInt = _
  omega
theorem own_mk (b : Int32) : (b.toInt64 &&& (4294967295 : Int64)).toInt = b.toInt % 4294967296 := by
  have h2 := c_maskL b.toInt64 4294967295 32 (by decide) (by decide)
  have h4 := c_i2l b
  rw [h4] at h2; exact h2
def sucV (a b c d : Int32) : Int32 := (if b = (-1 : Int32) then (if c = (a + (1 : Int32)) then (if d = (0 : Int32) then 1 else 0) else 0) else (if c = a then (if d = (b + (1 : Int32)) then 1 else 0) else 0))
def newV (a c : Int32) : Int32 := (if (a.toInt64 &&& (4294967295 : Int64)) < (c.toInt64 &&& (4294967295 : Int64)) then 1 else 0)
def expV (s n d : Int32) : Int32 := (if s = (0 : Int32) then (if n = (0 : Int32) then 0 else (if d = (1 : Int32) then 1 else 0)) else 1)
theorem own_law (a b c d : Int32) : folV (zxV c d) (zxV a b) = expV (sucV a b c d) (newV a c) d := by
  have ra := rng32 a
  have rb := rng32 b
  have rc := rng32 c
  have rd := rng32 d
  have z1 := own_zx a b
  have z2 := own_zx c d
  have z3 := c_ladd (zxV a b) 1
  have z4 := rng64 (zxV a b + 1)
  have k1 : (1 : Int64).toInt = 1 := by decide
  have a1 := c_iadd a 1
  have a2 := rng32 (a + 1)
  have b1 := c_iadd b 1
  have b2 := rng32 (b + 1)
  have k2 : (1 : Int32).toInt = 1 := by decide
  have k3 : (-1 : Int32).toInt = -1 := by decide
  have k4 : (0 : Int32).toInt = 0 := by decide
  have e1 := own_epo a b
  have e2 := own_epo c d
  have e3 := own_cou c d
  have m1 := own_mk a
  have m2 := own_mk c
  have p1 : (zxV c d = zxV a b + 1) ↔ ((b = -1 ∧ c = a + 1 ∧ d = 0) ∨ (¬ b = -1 ∧ c = a ∧ d = b + 1)) := by
    simp only [← Int64.toInt_inj, ← Int32.toInt_inj]
    omega
  have p2 : (epo (zxV a b) < epo (zxV c d)) ↔ ((a.toInt64 &&& (4294967295 : Int64)) < (c.toInt64 &&& (4294967295 : Int64))) := by
    simp only [Int64.lt_iff_toInt_lt, e1, e2, m1, m2]
  have p3 : (cou (zxV c d) = 1) ↔ d = 1 := by
    simp only [← Int64.toInt_inj, ← Int32.toInt_inj]
    omega
  have n1 : ¬ ((1 : Int32) = 0) := by decide
  unfold folV expV sucV newV
  simp only [p1, p2, p3]
  by_cases q1 : b = -1 <;> by_cases q2 : c = a + 1 <;> by_cases q3 : d = 0 <;> by_cases q4 : c = a <;> by_cases q5 : d = b + 1 <;> by_cases q6 : d = 1 <;> by_cases q7 : ((a.toInt64 &&& (4294967295 : Int64)) < (c.toInt64 &&& (4294967295 : Int64))) <;> (first | replace q1 := eq_false q1 | replace q1 := eq_true q1) <;> (first | replace q2 := eq_false q2 | replace q2 := eq_true q2) <;> (first | replace q3 := eq_false q3 | replace q3 := eq_true q3) <;> (first | replace q4 := eq_false q4 | replace q4 := eq_true q4) <;> (first | replace q5 := eq_false q5 | replace q5 := eq_true q5) <;> (first | replace q6 := eq_false q6 | replace q6 := eq_true q6) <;> (first | replace q7 := eq_false q7 | replace q7 := eq_true q7) <;> simp only [q1, q2, q3, q4, q5, q6, q7, if_true, if_false, true_and, false_and, and_true, and_false, true_or, or_true, false_or, or_false, not_true, not_false_eq_true, n1, if_pos, if_neg]
theorem d2_0 : decode prog_123_method_3_code 0 = .ok (.lload_n 0, 1) := by decide +kernel
theorem d2_1 : decode prog_123_method_3_code 1 = .ok (.bipush 32, 2) := by decide +kernel
theorem d2_3 : decode prog_123_method_3_code 3 = .ok (.lushr, 1) := by decide +kernel
theorem d2_4 : decode prog_123_method_3_code 4 = .ok (.lreturn, 1) := by decide +kernel
theorem pn_com_example_bellwether_bellwether_server_Zxid : plainName "com/example/bellwether/bellwether/server/Zxid" = true := by first | (simp [plainName, overriddenIn]; done) | decide +kernel
theorem ef_2 (m : MethodId) (x0 : Int64) : entryFrame m #[(.long x0)] 2 = mkF m 0 #[.val (.long x0), .second] [] := by first | (simp [entryFrame, mkF, argsToLocals, Value.category]; done) | rfl
def Q2 (Z : State) (q0 : Int64) (h0 : Heap) (n0 : Nat) (v : Option Value) (h : Heap) (L : List Loc) : Prop := v = some (.long (epo q0)) ∧ Fr n0 L ∧ h = h0
set_option maxRecDepth 65536 in
set_option maxHeartbeats 40000000 in
theorem rm2 (l : Launch) (Z : State) (a0 : Array Value) (hw : ∀ d ∈ tables_1, d.before a0 Z = true) (ws : List Jvm.Cond) (q0 : Int64) (h0 : Heap) (n0 : Nat) (Z0 : n0 ≤ h0.size)  :
    own_CT l Z (⟨"com/example/bellwether/bellwether/server/Zxid", "epoch", "(J)J"⟩ : MethodName) prog_123_method_3_code 2 (some .long) ws ({ frames := 0, cells := 0, slots := 0, locals := 0 } : Room) #[(.long q0)] h0 (Q2 Z q0 h0 n0) := by
  refine MetFree.of_bodySF (plainFor_of_name pn_com_example_bellwether_bellwether_server_Zxid) hisR ?_
  intro p e s m args below meth c s₁ Bd hml0 hP hK
  obtain ⟨rfl, hZ, hh⟩ := hP
  have hx := Bd.exec
  have hby := Bd.bytes
  have hml : c.maxLocals = 2 := hml0
  have hown : s.vm.findClass "com/example/bellwether/bellwether/server/Zxid" = some m.cls := findClass_of_methodNamed Bd.named
  have hnm := (name_of_methodNamed Bd.named Bd.method).1
  have hlk : meth.locks = false := BodyLoose.notSynchronized Bd
  have X0 : Stand p l e ({ frames := 0, cells := 0, slots := 0, locals := 0 } : Room) s m #[(.long q0)] below meth c s₁ [] 0 0 := Stand.of_body Bd
  have e0 : s₁.heap = h0 := by rw [← hh, Bd.state]; rfl
  have N0 := Fr.nil n0
  show GG p e below s ({ frames := 0, cells := 0, slots := 0, locals := 0 } : Room).cells ({ frames := 0, cells := 0, slots := 0, locals := 0 } : Room).slots (Q2 Z q0 h0 n0) s₁ (entryFrame m #[(.long q0)] 2)
  refine own_in (ef_2 m q0) ?_
  show GG _ _ _ _ _ _ _ s₁ (mkF m 0 #[.val (.long q0), .second] [])
  refine own_go (fun _ => XS.lloadN X0.here hx rfl (hb hby d2_0) rfl) ?_
  show GG _ _ _ _ _ _ _ s₁ (mkF m 1 #[.val (.long q0), .second] [(.long q0)])
  refine own_go (fun _ => XS.bipush X0.here hx rfl (hb hby d2_1)) ?_
  show GG _ _ _ _ _ _ _ s₁ (mkF m 3 #[.val (.long q0), .second] [(.int (32 : Int32)), (.long q0)])
  refine own_go (fun _ => XS.lushr X0.here hx rfl (hb hby d2_3) rfl) ?_
  show GG _ _ _ _ _ _ _ s₁ (mkF m 4 #[.val (.long q0), .second] [(.long ((q0.toUInt64 >>> ((32 : Int32) &&& 0x3f).toInt64.toUInt64).toInt64))])
  refine own_ret X0 hx hlk (t := .long) (w := (.long ((q0.toUInt64 >>> ((32 : Int32) &&& 0x3f).toInt64.toUInt64).toInt64))) Bd.returns rfl (Or.inr (Or.inl ⟨rfl, rfl, _, rfl⟩)) (hb hby d2_4) (by decide) (by decide) ?_
  show Q2 Z q0 h0 n0 (some (.long ((q0.toUInt64 >>> ((32 : Int32) &&& 0x3f).toInt64.toUInt64).toInt64))) s₁.heap _
  rw [e0]
  exact ⟨rfl, N0, rfl⟩
theorem d3_0 : decode prog_123_method_4_code 0 = .ok (.lload_n 0, 1) := by decide +kernel
theorem d3_1 : decode prog_123_method_4_code 1 = .ok (.ldc2_w 9, 3) := by decide +kernel
theorem d3_4 : decode prog_123_method_4_code 4 = .ok (.land, 1) := by decide +kernel
theorem d3_5 : decode prog_123_method_4_code 5 = .ok (.lreturn, 1) := by decide +kernel
theorem ef_3 (m : MethodId) (x0 : Int64) : entryFrame m #[(.long x0)] 2 = mkF m 0 #[.val (.long x0), .second] [] := by first | (simp [entryFrame, mkF, argsToLocals, Value.category]; done) | rfl
def Q3 (Z : State) (q0 : Int64) (h0 : Heap) (n0 : Nat) (v : Option Value) (h : Heap) (L : List Loc) : Prop := v = some (.long (cou q0)) ∧ Fr n0 L ∧ h = h0
set_option maxRecDepth 65536 in
set_option maxHeartbeats 40000000 in
theorem rm3 (l : Launch) (Z : State) (a0 : Array Value) (hw : ∀ d ∈ tables_1, d.before a0 Z = true) (ws : List Jvm.Cond) (q0 : Int64) (h0 : Heap) (n0 : Nat) (Z0 : n0 ≤ h0.size)  :
    own_CT l Z (⟨"com/example/bellwether/bellwether/server/Zxid", "counter", "(J)J"⟩ : MethodName) prog_123_method_4_code 2 (some .long) ws ({ frames := 0, cells := 0, slots := 0, locals := 0 } : Room) #[(.long q0)] h0 (Q3 Z q0 h0 n0) := by
  refine MetFree.of_bodySF (plainFor_of_name pn_com_example_bellwether_bellwether_server_Zxid) hisR ?_
  intro p e s m args below meth c s₁ Bd hml0 hP hK
  obtain ⟨rfl, hZ, hh⟩ := hP
  have hx := Bd.exec
  have hby := Bd.bytes
  have hml : c.maxLocals = 2 := hml0
  have hown : s.vm.findClass "com/example/bellwether/bellwether/server/Zxid" = some m.cls := findClass_of_methodNamed Bd.named
  have hnm := (name_of_methodNamed Bd.named Bd.method).1
  have hlk : meth.locks = false := BodyLoose.notSynchronized Bd
  have X0 : Stand p l e ({ frames := 0, cells := 0, slots := 0, locals := 0 } : Room) s m #[(.long q0)] below meth c s₁ [] 0 0 := Stand.of_body Bd
  have e0 : s₁.heap = h0 := by rw [← hh, Bd.state]; rfl
  have N0 := Fr.nil n0
  show GG p e below s ({ frames := 0, cells := 0, slots := 0, locals := 0 } : Room).cells ({ frames := 0, cells := 0, slots := 0, locals := 0 } : Room).slots (Q3 Z q0 h0 n0) s₁ (entryFrame m #[(.long q0)] 2)
  refine own_in (ef_3 m q0) ?_
  show GG _ _ _ _ _ _ _ s₁ (mkF m 0 #[.val (.long q0), .second] [])
  refine own_go (fun _ => XS.lloadN X0.here hx rfl (hb hby d3_0) rfl) ?_
  show GG _ _ _ _ _ _ _ s₁ (mkF m 1 #[.val (.long q0), .second] [(.long q0)])
  refine own_go (fun _ => X0.ldc2Long hx hown (mvT hZ (hw _ (List.mem_of_getElem? (i := 11) rfl))) (g := (mkF m 1 #[.val (.long q0), .second] [(.long q0)])) rfl (hb hby d3_1) _) ?_
  show GG _ _ _ _ _ _ _ s₁ (mkF m 4 #[.val (.long q0), .second] [(.long (4294967295 : Int64)), (.long q0)])
  refine own_go (fun _ => XS.land X0.here hx rfl (hb hby d3_4) rfl) ?_
  show GG _ _ _ _ _ _ _ s₁ (mkF m 5 #[.val (.long q0), .second] [(.long (q0 &&& (4294967295 : Int64)))])
  refine own_ret X0 hx hlk (t := .long) (w := (.long (q0 &&& (4294967295 : Int64)))) Bd.returns rfl (Or.inr (Or.inl ⟨rfl, rfl, _, rfl⟩)) (hb hby d3_5) (by decide) (by decide) ?_
  show Q3 Z q0 h0 n0 (some (.long (q0 &&& (4294967295 : Int64)))) s₁.heap _
  rw [e0]
  exact ⟨rfl, N0, rfl⟩
theorem pd__J_J_229 : parseMethodDescriptor "(J)J" = some ⟨[.long], some .long⟩ := by decide +kernel
theorem d1_0 : decode prog_123_method_6_code 0 = .ok (.lload_n 0, 1) := by decide +kernel
theorem d1_1 : decode prog_123_method_6_code 1 = .ok (.lload_n 2, 1) := by decide +kernel
theorem d1_2 : decode prog_123_method_6_code 2 = .ok (.lconst 1, 1) := by decide +kernel
theorem d1_3 : decode prog_123_method_6_code 3 = .ok (.ladd, 1) := by decide +kernel
theorem d1_4 : decode prog_123_method_6_code 4 = .ok (.lcmp, 1) := by decide +kernel
theorem d1_5 : decode prog_123_method_6_code 5 = .ok (.ifCond .eq 24, 3) := by decide +kernel
theorem d1_8 : decode prog_123_method_6_code 8 = .ok (.lload_n 0, 1) := by decide +kernel
theorem d1_9 : decode prog_123_method_6_code 9 = .ok (.invokestatic 11, 3) := by decide +kernel
theorem d1_12 : decode prog_123_method_6_code 12 = .ok (.lload_n 2, 1) := by decide +kernel
theorem d1_13 : decode prog_123_method_6_code 13 = .ok (.invokestatic 11, 3) := by decide +kernel
theorem d1_16 : decode prog_123_method_6_code 16 = .ok (.lcmp, 1) := by decide +kernel
theorem d1_17 : decode prog_123_method_6_code 17 = .ok (.ifCond .le 16, 3) := by decide +kernel
theorem d1_20 : decode prog_123_method_6_code 20 = .ok (.lload_n 0, 1) := by decide +kernel
theorem d1_21 : decode prog_123_method_6_code 21 = .ok (.invokestatic 19, 3) := by decide +kernel
theorem d1_24 : decode prog_123_method_6_code 24 = .ok (.lconst 1, 1) := by decide +kernel
theorem d1_25 : decode prog_123_method_6_code 25 = .ok (.lcmp, 1) := by decide +kernel
theorem d1_26 : decode prog_123_method_6_code 26 = .ok (.ifCond .ne 7, 3) := by decide +kernel
theorem d1_29 : decode prog_123_method_6_code 29 = .ok (.iconst 1, 1) := by decide +kernel
theorem d1_30 : decode prog_123_method_6_code 30 = .ok (.goto 4, 3) := by decide +kernel
theorem d1_33 : decode prog_123_method_6_code 33 = .ok (.iconst 0, 1) := by decide +kernel
theorem d1_34 : decode prog_123_method_6_code 34 = .ok (.ireturn, 1) := by decide +kernel
theorem ef_1 (m : MethodId) (x0 : Int64) (x1 : Int64) : entryFrame m #[(.long x0), (.long x1)] 4 = mkF m 0 #[.val (.long x0), .second, .val (.long x1), .second] [] := by first | (simp [entryFrame, mkF, argsToLocals, Value.category]; done) | rfl
def Q1 (Z : State) (q0 : Int64) (q1 : Int64) (h0 : Heap) (n0 : Nat) (v : Option Value) (h : Heap) (L : List Loc) : Prop := v = some (.int (folV q0 q1)) ∧ Fr n0 L ∧ h = h0
set_option maxRecDepth 65536 in
set_option maxHeartbeats 40000000 in
theorem rm1 (l : Launch) (Z : State) (a0 : Array Value) (hw : ∀ d ∈ tables_1, d.before a0 Z = true) (ws : List Jvm.Cond) (q0 : Int64) (q1 : Int64) (h0 : Heap) (n0 : Nat) (Z0 : n0 ≤ h0.size)  :
    own_CT l Z (⟨"com/example/bellwether/bellwether/server/Zxid", "follows", "(JJ)Z"⟩ : MethodName) prog_123_method_6_code 4 (some .boolean) ws ({ frames := 1, cells := 0, slots := 0, locals := 15 } : Room) #[(.long q0), (.long q1)] h0 (Q1 Z q0 q1 h0 n0) := by
  refine MetFree.of_bodySF (plainFor_of_name pn_com_example_bellwether_bellwether_server_Zxid) hisR ?_
  intro p e s m args below meth c s₁ Bd hml0 hP hK
  obtain ⟨rfl, hZ, hh⟩ := hP
  have hx := Bd.exec
  have hby := Bd.bytes
  have hml : c.maxLocals = 4 := hml0
  have hown : s.vm.findClass "com/example/bellwether/bellwether/server/Zxid" = some m.cls := findClass_of_methodNamed Bd.named
  have hnm := (name_of_methodNamed Bd.named Bd.method).1
  have hlk : meth.locks = false := BodyLoose.notSynchronized Bd
  have X0 : Stand p l e ({ frames := 1, cells := 0, slots := 0, locals := 15 } : Room) s m #[(.long q0), (.long q1)] below meth c s₁ [] 0 0 := Stand.of_body Bd
  have e0 : s₁.heap = h0 := by rw [← hh, Bd.state]; rfl
  have N0 := Fr.nil n0
  show GG p e below s ({ frames := 1, cells := 0, slots := 0, locals := 15 } : Room).cells ({ frames := 1, cells := 0, slots := 0, locals := 15 } : Room).slots (Q1 Z q0 q1 h0 n0) s₁ (entryFrame m #[(.long q0), (.long q1)] 4)
  refine own_in (ef_1 m q0 q1) ?_
  show GG _ _ _ _ _ _ _ s₁ (mkF m 0 #[.val (.long q0), .second, .val (.long q1), .second] [])
  refine own_go (fun _ => XS.lloadN X0.here hx rfl (hb hby d1_0) rfl) ?_
  show GG _ _ _ _ _ _ _ s₁ (mkF m 1 #[.val (.long q0), .second, .val (.long q1), .second] [(.long q0)])
  refine own_go (fun _ => XS.lloadN X0.here hx rfl (hb hby d1_1) rfl) ?_
  show GG _ _ _ _ _ _ _ s₁ (mkF m 2 #[.val (.long q0), .second, .val (.long q1), .second] [(.long q1), (.long q0)])
  refine own_go (fun _ => XS.lconst X0.here hx rfl (hb hby d1_2)) ?_
  show GG _ _ _ _ _ _ _ s₁ (mkF m 3 #[.val (.long q0), .second, .val (.long q1), .second] [(.long (1 : Int64)), (.long q1), (.long q0)])
  refine own_go (fun _ => XS.ladd X0.here hx rfl (hb hby d1_3) rfl) ?_
  show GG _ _ _ _ _ _ _ s₁ (mkF m 4 #[.val (.long q0), .second, .val (.long q1), .second] [(.long (q1 + (1 : Int64))), (.long q0)])
  refine own_go (fun _ => XS.lcmp X0.here hx rfl (hb hby d1_4) rfl) ?_
  show GG _ _ _ _ _ _ _ s₁ (mkF m 5 #[.val (.long q0), .second, .val (.long q1), .second] [(.int (lcmpW q0 (q1 + (1 : Int64))))])
  by_cases hc5 : q0 = (q1 + (1 : Int64))
  · skip
    refine own_go (fun _ => XS.ifYes X0.here hx rfl (pc0 := 5) (pc' := 29) rfl (hb hby d1_5) rfl ((if0 _ _).trans (teq ((lw_eq _ _).mpr hc5)).1) (by decide) (by decide)) ?_
    show GG _ _ _ _ _ _ _ s₁ (mkF m 29 #[.val (.long q0), .second, .val (.long q1), .second] [])
    refine own_go (fun _ => XS.iconst X0.here hx rfl (hb hby d1_29)) ?_
    show GG _ _ _ _ _ _ _ s₁ (mkF m 30 #[.val (.long q0), .second, .val (.long q1), .second] [(.int (1 : Int32))])
    refine own_go (fun _ => XS.goto X0.here hx rfl (pc0 := 30) (pc' := 34) rfl (hb hby d1_30) (by decide) (by decide)) ?_
    show GG _ _ _ _ _ _ _ s₁ (mkF m 34 #[.val (.long q0), .second, .val (.long q1), .second] [(.int (1 : Int32))])
    refine own_ret X0 hx hlk (t := .boolean) (w := (.int (1 : Int32))) Bd.returns rfl (Or.inl ⟨rfl, by simp, _, rfl⟩) (hb hby d1_34) (by decide) (by decide) ?_
    show Q1 Z q0 q1 h0 n0 (some (.int (1 : Int32))) s₁.heap _
    rw [e0]
    exact ⟨by simp only [folV, if_pos hc5], N0, rfl⟩
  · skip
    refine own_go (fun _ => XS.ifNo X0.here hx rfl (hb hby d1_5) rfl ((if0 _ _).trans (feq (fun q => hc5 ((lw_eq _ _).mp q))).1)) ?_
    show GG _ _ _ _ _ _ _ s₁ (mkF m 8 #[.val (.long q0), .second, .val (.long q1), .second] [])
    refine own_go (fun _ => XS.lloadN X0.here hx rfl (hb hby d1_8) rfl) ?_
    show GG _ _ _ _ _ _ _ s₁ (mkF m 9 #[.val (.long q0), .second, .val (.long q1), .second] [(.long q0)])
    refine own_callS X0 hx hZ (y := (⟨"com/example/bellwether/bellwether/server/Zxid", "epoch", "(J)J"⟩ : MethodName)) 0 hown (hw _ (List.mem_of_getElem? (i := 5) rfl)) (hw _ (List.mem_of_getElem? (i := 6) rfl)) (hw _ (List.mem_of_getElem? (i := 3) rfl)) (hw _ (List.mem_of_getElem? (i := 7) rfl)) (by decide) (argsL := [(.long q0)]) (rest := []) (rm2 l Z a0 hw [] q0 h0 n0 Z0) (by decide) (by decide) (by decide) (by decide) (g := (mkF m 9 #[.val (.long q0), .second, .val (.long q1), .second] [(.long q0)])) rfl (by rw [hml]; rfl) (lenOf pd__J_J_229 rfl) rfl (by show 2 * 0 + _ ≤ _; exact Nat.le_of_eq rfl) (hb hby d1_9) e0 ?_
    rintro v1 T1 L1 X1 ⟨rfl, N1q, hh1⟩
    have N1 := Fr.app N0 N1q
    show GG _ _ _ _ _ _ _ T1 (mkF m 12 #[.val (.long q0), .second, .val (.long q1), .second] [(.long (epo q0))])
    refine own_go (fun _ => XS.lloadN X1.here hx rfl (hb hby d1_12) rfl) ?_
    show GG _ _ _ _ _ _ _ T1 (mkF m 13 #[.val (.long q0), .second, .val (.long q1), .second] [(.long q1), (.long (epo q0))])
    refine own_callS X1 hx hZ (y := (⟨"com/example/bellwether/bellwether/server/Zxid", "epoch", "(J)J"⟩ : MethodName)) 2 hown (hw _ (List.mem_of_getElem? (i := 5) rfl)) (hw _ (List.mem_of_getElem? (i := 6) rfl)) (hw _ (List.mem_of_getElem? (i := 3) rfl)) (hw _ (List.mem_of_getElem? (i := 7) rfl)) (by decide) (argsL := [(.long q1)]) (rest := [(.long (epo q0))]) (rm2 l Z a0 hw [] q1 h0 n0 Z0) (by decide) (by decide) (by decide) (by decide) (g := (mkF m 13 #[.val (.long q0), .second, .val (.long q1), .second] [(.long q1), (.long (epo q0))])) rfl (by rw [hml]; rfl) (lenOf pd__J_J_229 rfl) rfl (by show 2 * 0 + _ ≤ _; exact Nat.le_of_eq rfl) (hb hby d1_13) hh1 ?_
    rintro v2 T2 L2 X2 ⟨rfl, N2q, hh2⟩
    have N2 := Fr.app N1 N2q
    show GG _ _ _ _ _ _ _ T2 (mkF m 16 #[.val (.long q0), .second, .val (.long q1), .second] [(.long (epo q1)), (.long (epo q0))])
    refine own_go (fun _ => XS.lcmp X2.here hx rfl (hb hby d1_16) rfl) ?_
    show GG _ _ _ _ _ _ _ T2 (mkF m 17 #[.val (.long q0), .second, .val (.long q1), .second] [(.int (lcmpW (epo q0) (epo q1)))])
    by_cases hc17 : (epo q1) < (epo q0)
    · skip
      refine own_go (fun _ => XS.ifNo X2.here hx rfl (hb hby d1_17) rfl ((if0 _ _).trans (tlt ((lw_gt _ _).mpr hc17)).2.2.2)) ?_
      show GG _ _ _ _ _ _ _ T2 (mkF m 20 #[.val (.long q0), .second, .val (.long q1), .second] [])
      refine own_go (fun _ => XS.lloadN X2.here hx rfl (hb hby d1_20) rfl) ?_
      show GG _ _ _ _ _ _ _ T2 (mkF m 21 #[.val (.long q0), .second, .val (.long q1), .second] [(.long q0)])
      refine own_callS X2 hx hZ (y := (⟨"com/example/bellwether/bellwether/server/Zxid", "counter", "(J)J"⟩ : MethodName)) 0 hown (hw _ (List.mem_of_getElem? (i := 8) rfl)) (hw _ (List.mem_of_getElem? (i := 9) rfl)) (hw _ (List.mem_of_getElem? (i := 3) rfl)) (hw _ (List.mem_of_getElem? (i := 10) rfl)) (by decide) (argsL := [(.long q0)]) (rest := []) (rm3 l Z a0 hw [] q0 h0 n0 Z0) (by decide) (by decide) (by decide) (by decide) (g := (mkF m 21 #[.val (.long q0), .second, .val (.long q1), .second] [(.long q0)])) rfl (by rw [hml]; rfl) (lenOf pd__J_J_229 rfl) rfl (by show 2 * 0 + _ ≤ _; exact Nat.le_of_eq rfl) (hb hby d1_21) hh2 ?_
      rintro v3 T3 L3 X3 ⟨rfl, N3q, hh3⟩
      have N3 := Fr.app N2 N3q
      show GG _ _ _ _ _ _ _ T3 (mkF m 24 #[.val (.long q0), .second, .val (.long q1), .second] [(.long (cou q0))])
      refine own_go (fun _ => XS.lconst X3.here hx rfl (hb hby d1_24)) ?_
      show GG _ _ _ _ _ _ _ T3 (mkF m 25 #[.val (.long q0), .second, .val (.long q1), .second] [(.long (1 : Int64)), (.long (cou q0))])
      refine own_go (fun _ => XS.lcmp X3.here hx rfl (hb hby d1_25) rfl) ?_
      show GG _ _ _ _ _ _ _ T3 (mkF m 26 #[.val (.long q0), .second, .val (.long q1), .second] [(.int (lcmpW (cou q0) (1 : Int64)))])
      by_cases hc26 : (cou q0) = (1 : Int64)
      · skip
        refine own_go (fun _ => XS.ifNo X3.here hx rfl (hb hby d1_26) rfl ((if0 _ _).trans (teq ((lw_eq _ _).mpr hc26)).2)) ?_
        show GG _ _ _ _ _ _ _ T3 (mkF m 29 #[.val (.long q0), .second, .val (.long q1), .second] [])
        refine own_go (fun _ => XS.iconst X3.here hx rfl (hb hby d1_29)) ?_
        show GG _ _ _ _ _ _ _ T3 (mkF m 30 #[.val (.long q0), .second, .val (.long q1), .second] [(.int (1 : Int32))])
        refine own_go (fun _ => XS.goto X3.here hx rfl (pc0 := 30) (pc' := 34) rfl (hb hby d1_30) (by decide) (by decide)) ?_
        show GG _ _ _ _ _ _ _ T3 (mkF m 34 #[.val (.long q0), .second, .val (.long q1), .second] [(.int (1 : Int32))])
        refine own_ret X3 hx hlk (t := .boolean) (w := (.int (1 : Int32))) Bd.returns rfl (Or.inl ⟨rfl, by simp, _, rfl⟩) (hb hby d1_34) (by decide) (by decide) ?_
        show Q1 Z q0 q1 h0 n0 (some (.int (1 : Int32))) T3.heap _
        rw [hh3]
        exact ⟨by simp only [folV, if_neg hc5, if_pos hc17, if_pos hc26], N3, rfl⟩
      · skip
        refine own_go (fun _ => XS.ifYes X3.here hx rfl (pc0 := 26) (pc' := 33) rfl (hb hby d1_26) rfl ((if0 _ _).trans (feq (fun q => hc26 ((lw_eq _ _).mp q))).2) (by decide) (by decide)) ?_
        show GG _ _ _ _ _ _ _ T3 (mkF m 33 #[.val (.long q0), .second, .val (.long q1), .second] [])
        refine own_go (fun _ => XS.iconst X3.here hx rfl (hb hby d1_33)) ?_
        show GG _ _ _ _ _ _ _ T3 (mkF m 34 #[.val (.long q0), .second, .val (.long q1), .second] [(.int (0 : Int32))])
        refine own_ret X3 hx hlk (t := .boolean) (w := (.int (0 : Int32))) Bd.returns rfl (Or.inl ⟨rfl, by simp, _, rfl⟩) (hb hby d1_34) (by decide) (by decide) ?_
        show Q1 Z q0 q1 h0 n0 (some (.int (0 : Int32))) T3.heap _
        rw [hh3]
        exact ⟨by simp only [folV, if_neg hc5, if_pos hc17, if_neg hc26], N3, rfl⟩
    · skip
      refine own_go (fun _ => XS.ifYes X2.here hx rfl (pc0 := 17) (pc' := 33) rfl (hb hby d1_17) rfl ((if0 _ _).trans (flt (fun q => hc17 ((lw_gt _ _).mp q))).2.2.2) (by decide) (by decide)) ?_
      show GG _ _ _ _ _ _ _ T2 (mkF m 33 #[.val (.long q0), .second, .val (.long q1), .second] [])
      refine own_go (fun _ => XS.iconst X2.here hx rfl (hb hby d1_33)) ?_
      show GG _ _ _ _ _ _ _ T2 (mkF m 34 #[.val (.long q0), .second, .val (.long q1), .second] [(.int (0 : Int32))])
      refine own_ret X2 hx hlk (t := .boolean) (w := (.int (0 : Int32))) Bd.returns rfl (Or.inl ⟨rfl, by simp, _, rfl⟩) (hb hby d1_34) (by decide) (by decide) ?_
      show Q1 Z q0 q1 h0 n0 (some (.int (0 : Int32))) T2.heap _
      rw [hh2]
      exact ⟨by simp only [folV, if_neg hc5, if_neg hc17], N2, rfl⟩
theorem pd__JJ_Z_319 : parseMethodDescriptor "(JJ)Z" = some ⟨[.long, .long], some .boolean⟩ := by decide +kernel
theorem pn_com_example_bellwether_bellwether_server_ZxidFollowsPinLaw : plainName "com/example/bellwether/bellwether/server/ZxidFollowsPinLaw" = true := by first | (simp [plainName, overriddenIn]; done) | decide +kernel
theorem ef_0 (m : MethodId) (x0 : Int32) (x1 : Int32) (x2 : Int32) (x3 : Int32) (x4 : Int32) : entryFrame m #[(.int x0), (.int x1), (.int x2), (.int x3), (.int x4)] maxLocals = mkF m 0 #[.val (.int x0), .val (.int x1), .val (.int x2), .val (.int x3), .val (.int x4), .unset, .unset, .unset, .unset, .unset, .unset, .unset, .unset, .unset] [] := by first | (simp [entryFrame, mkF, argsToLocals, Value.category, maxLocals]; done) | rfl
def Q0 (Z : State) (p0 : Int32) (p1 : Int32) (p2 : Int32) (p3 : Int32) (p4 : Int32) (h0 : Heap) (n0 : Nat) (v : Option Value) (h : Heap) (L : List Loc) : Prop := v = some (.int 1) ∧ Fr n0 L
set_option maxRecDepth 65536 in
set_option maxHeartbeats 40000000 in
theorem rm0 (l : Launch) (Z : State) (a0 : Array Value) (hw : ∀ d ∈ tables_1, d.before a0 Z = true) (ws : List Jvm.Cond) (p0 : Int32) (p1 : Int32) (p2 : Int32) (p3 : Int32) (p4 : Int32) (h0 : Heap) (n0 : Nat) (Z0 : n0 ≤ h0.size)  :
    own_CT l Z x code maxLocals ret ws room_1 #[(.int p0), (.int p1), (.int p2), (.int p3), (.int p4)] h0 (Q0 Z p0 p1 p2 p3 p4 h0 n0) := by
  refine MetFree.of_bodySF (plainFor_of_name pn_com_example_bellwether_bellwether_server_ZxidFollowsPinLaw) hisR ?_
  intro p e s m args below meth c s₁ Bd hml0 hP hK
  obtain ⟨rfl, hZ, hh⟩ := hP
  have hx := Bd.exec
  have hby := Bd.bytes
  have hml : c.maxLocals = 14 := hml0
  have hown : s.vm.findClass "com/example/bellwether/bellwether/server/ZxidFollowsPinLaw" = some m.cls := findClass_of_methodNamed Bd.named
  have hnm := (name_of_methodNamed Bd.named Bd.method).1
  have hlk : meth.locks = false := BodyLoose.notSynchronized Bd
  have X0 : Stand p l e room_1 s m #[(.int p0), (.int p1), (.int p2), (.int p3), (.int p4)] below meth c s₁ [] 0 0 := Stand.of_body Bd
  have e0 : s₁.heap = h0 := by rw [← hh, Bd.state]; rfl
  have N0 := Fr.nil n0
  show GG p e below s room_1.cells room_1.slots (Q0 Z p0 p1 p2 p3 p4 h0 n0) s₁ (entryFrame m #[(.int p0), (.int p1), (.int p2), (.int p3), (.int p4)] maxLocals)
  refine own_in (ef_0 m p0 p1 p2 p3 p4) ?_
  show GG _ _ _ _ _ _ _ s₁ (mkF m 0 #[.val (.int p0), .val (.int p1), .val (.int p2), .val (.int p3), .val (.int p4), .unset, .unset, .unset, .unset, .unset, .unset, .unset, .unset, .unset] [])
  refine own_go (fun _ => XS.iload X0.here hx rfl (hb hby at_0) rfl) ?_
  show GG _ _ _ _ _ _ _ s₁ (mkF m 2 #[.val (.int p0), .val (.int p1), .val (.int p2), .val (.int p3), .val (.int p4), .unset, .unset, .unset, .unset, .unset, .unset, .unset, .unset, .unset] [(.int p4)])
  refine own_go (fun _ => XS.iconst X0.here hx rfl (hb hby at_2)) ?_
  show GG _ _ _ _ _ _ _ s₁ (mkF m 3 #[.val (.int p0), .val (.int p1), .val (.int p2), .val (.int p3), .val (.int p4), .unset, .unset, .unset, .unset, .unset, .unset, .unset, .unset, .unset] [(.int (3 : Int32)), (.int p4)])
  refine own_go (fun _ => XS.iand X0.here hx rfl (hb hby at_3) rfl) ?_
  show GG _ _ _ _ _ _ _ s₁ (mkF m 4 #[.val (.int p0), .val (.int p1), .val (.int p2), .val (.int p3), .val (.int p4), .unset, .unset, .unset, .unset, .unset, .unset, .unset, .unset, .unset] [(.int (p4 &&& (3 : Int32)))])
  refine own_go (fun _ => XS.istore X0.here hx rfl (hb hby at_4) rfl (l' := #[.val (.int p0), .val (.int p1), .val (.int p2), .val (.int p3), .val (.int p4), .val (.int (p4 &&& (3 : Int32))), .unset, .unset, .unset, .unset, .unset, .unset, .unset, .unset]) rfl) ?_
  show GG _ _ _ _ _ _ _ s₁ (mkF m 6 #[.val (.int p0), .val (.int p1), .val (.int p2), .val (.int p3), .val (.int p4), .val (.int (p4 &&& (3 : Int32))), .unset, .unset, .unset, .unset, .unset, .unset, .unset, .unset] [])
  generalize hx1 : (p4 &&& (3 : Int32)) = x1
  refine own_go (fun _ => XS.iload X0.here hx rfl (hb hby at_6) rfl) ?_
  show GG _ _ _ _ _ _ _ s₁ (mkF m 8 #[.val (.int p0), .val (.int p1), .val (.int p2), .val (.int p3), .val (.int p4), .val (.int x1), .unset, .unset, .unset, .unset, .unset, .unset, .unset, .unset] [(.int p4)])
  refine own_go (fun _ => XS.iconst X0.here hx rfl (hb hby at_8)) ?_
  show GG _ _ _ _ _ _ _ s₁ (mkF m 9 #[.val (.int p0), .val (.int p1), .val (.int p2), .val (.int p3), .val (.int p4), .val (.int x1), .unset, .unset, .unset, .unset, .unset, .unset, .unset, .unset] [(.int (2 : Int32)), (.int p4)])
  refine own_go (fun _ => XS.ishr X0.here hx rfl (hb hby at_9) rfl) ?_
  show GG _ _ _ _ _ _ _ s₁ (mkF m 10 #[.val (.int p0), .val (.int p1), .val (.int p2), .val (.int p3), .val (.int p4), .val (.int x1), .unset, .unset, .unset, .unset, .unset, .unset, .unset, .unset] [(.int (p4 >>> ((2 : Int32) &&& 31)))])
  refine own_go (fun _ => XS.iconst X0.here hx rfl (hb hby at_10)) ?_
  show GG _ _ _ _ _ _ _ s₁ (mkF m 11 #[.val (.int p0), .val (.int p1), .val (.int p2), .val (.int p3), .val (.int p4), .val (.int x1), .unset, .unset, .unset, .unset, .unset, .unset, .unset, .unset] [(.int (3 : Int32)), (.int (p4 >>> ((2 : Int32) &&& 31)))])
  refine own_go (fun _ => XS.iand X0.here hx rfl (hb hby at_11) rfl) ?_
  show GG _ _ _ _ _ _ _ s₁ (mkF m 12 #[.val (.int p0), .val (.int p1), .val (.int p2), .val (.int p3), .val (.int p4), .val (.int x1), .unset, .unset, .unset, .unset, .unset, .unset, .unset, .unset] [(.int ((p4 >>> ((2 : Int32) &&& 31)) &&& (3 : Int32)))])
  refine own_go (fun _ => XS.istore X0.here hx rfl (hb hby at_12) rfl (l' := #[.val (.int p0), .val (.int p1), .val (.int p2), .val (.int p3), .val (.int p4), .val (.int x1), .val (.int ((p4 >>> ((2 : Int32) &&& 31)) &&& (3 : Int32))), .unset, .unset, .unset, .unset, .unset, .unset, .unset]) rfl) ?_
  show GG _ _ _ _ _ _ _ s₁ (mkF m 14 #[.val (.int p0), .val (.int p1), .val (.int p2), .val (.int p3), .val (.int p4), .val (.int x1), .val (.int ((p4 >>> ((2 : Int32) &&& 31)) &&& (3 : Int32))), .unset, .unset, .unset, .unset, .unset, .unset, .unset] [])
  generalize hx2 : ((p4 >>> ((2 : Int32) &&& 31)) &&& (3 : Int32)) = x2
  refine own_go (fun _ => XS.iload X0.here hx rfl (hb hby at_14) rfl) ?_
  show GG _ _ _ _ _ _ _ s₁ (mkF m 16 #[.val (.int p0), .val (.int p1), .val (.int p2), .val (.int p3), .val (.int p4), .val (.int x1), .val (.int x2), .unset, .unset, .unset, .unset, .unset, .unset, .unset] [(.int p4)])
  refine own_go (fun _ => XS.iconst X0.here hx rfl (hb hby at_16)) ?_
  show GG _ _ _ _ _ _ _ s₁ (mkF m 17 #[.val (.int p0), .val (.int p1), .val (.int p2), .val (.int p3), .val (.int p4), .val (.int x1), .val (.int x2), .unset, .unset, .unset, .unset, .unset, .unset, .unset] [(.int (4 : Int32)), (.int p4)])
  refine own_go (fun _ => XS.ishr X0.here hx rfl (hb hby at_17) rfl) ?_
  show GG _ _ _ _ _ _ _ s₁ (mkF m 18 #[.val (.int p0), .val (.int p1), .val (.int p2), .val (.int p3), .val (.int p4), .val (.int x1), .val (.int x2), .unset, .unset, .unset, .unset, .unset, .unset, .unset] [(.int (p4 >>> ((4 : Int32) &&& 31)))])
  refine own_go (fun _ => XS.iconst X0.here hx rfl (hb hby at_18)) ?_
  show GG _ _ _ _ _ _ _ s₁ (mkF m 19 #[.val (.int p0), .val (.int p1), .val (.int p2), .val (.int p3), .val (.int p4), .val (.int x1), .val (.int x2), .unset, .unset, .unset, .unset, .unset, .unset, .unset] [(.int (1 : Int32)), (.int (p4 >>> ((4 : Int32) &&& 31)))])
  refine own_go (fun _ => XS.iand X0.here hx rfl (hb hby at_19) rfl) ?_
  show GG _ _ _ _ _ _ _ s₁ (mkF m 20 #[.val (.int p0), .val (.int p1), .val (.int p2), .val (.int p3), .val (.int p4), .val (.int x1), .val (.int x2), .unset, .unset, .unset, .unset, .unset, .unset, .unset] [(.int ((p4 >>> ((4 : Int32) &&& 31)) &&& (1 : Int32)))])
  refine own_join (g' := (mkF m 25 #[.val (.int p0), .val (.int (if ((p4 >>> ((4 : Int32) &&& 31)) &&& (1 : Int32)) = (0 : Int32) then p1 else (-1 : Int32))), .val (.int p2), .val (.int p3), .val (.int p4), .val (.int x1), .val (.int x2), .unset, .unset, .unset, .unset, .unset, .unset, .unset] [])) (fun J20 => ?_) ?_
  · by_cases hc20 : ((p4 >>> ((4 : Int32) &&& 31)) &&& (1 : Int32)) = (0 : Int32)
    · skip
      refine own_go (fun _ => XS.ifYes X0.here hx rfl (pc0 := 20) (pc' := 25) rfl (hb hby at_20) rfl ((if0 _ _).trans (teq hc20).1) (by decide) (by decide)) ?_
      show GG _ _ _ _ _ _ _ s₁ (mkF m 25 #[.val (.int p0), .val (.int p1), .val (.int p2), .val (.int p3), .val (.int p4), .val (.int x1), .val (.int x2), .unset, .unset, .unset, .unset, .unset, .unset, .unset] [])
      simp only [if_pos hc20] at J20
      exact J20
    · skip
      refine own_go (fun _ => XS.ifNo X0.here hx rfl (hb hby at_20) rfl ((if0 _ _).trans (feq hc20).1)) ?_
      show GG _ _ _ _ _ _ _ s₁ (mkF m 23 #[.val (.int p0), .val (.int p1), .val (.int p2), .val (.int p3), .val (.int p4), .val (.int x1), .val (.int x2), .unset, .unset, .unset, .unset, .unset, .unset, .unset] [])
      refine own_go (fun _ => XS.iconst X0.here hx rfl (hb hby at_23)) ?_
      show GG _ _ _ _ _ _ _ s₁ (mkF m 24 #[.val (.int p0), .val (.int p1), .val (.int p2), .val (.int p3), .val (.int p4), .val (.int x1), .val (.int x2), .unset, .unset, .unset, .unset, .unset, .unset, .unset] [(.int (-1 : Int32))])
      refine own_go (fun _ => XS.istoreN X0.here hx rfl (hb hby at_24) rfl (l' := #[.val (.int p0), .val (.int (-1 : Int32)), .val (.int p2), .val (.int p3), .val (.int p4), .val (.int x1), .val (.int x2), .unset, .unset, .unset, .unset, .unset, .unset, .unset]) rfl) ?_
      show GG _ _ _ _ _ _ _ s₁ (mkF m 25 #[.val (.int p0), .val (.int (-1 : Int32)), .val (.int p2), .val (.int p3), .val (.int p4), .val (.int x1), .val (.int x2), .unset, .unset, .unset, .unset, .unset, .unset, .unset] [])
      simp only [if_neg hc20] at J20
      exact J20
  show GG _ _ _ _ _ _ _ s₁ (mkF m 25 #[.val (.int p0), .val (.int (if ((p4 >>> ((4 : Int32) &&& 31)) &&& (1 : Int32)) = (0 : Int32) then p1 else (-1 : Int32))), .val (.int p2), .val (.int p3), .val (.int p4), .val (.int x1), .val (.int x2), .unset, .unset, .unset, .unset, .unset, .unset, .unset] [])
  generalize hx3 : (if ((p4 >>> ((4 : Int32) &&& 31)) &&& (1 : Int32)) = (0 : Int32) then p1 else (-1 : Int32)) = x3
  refine own_go (fun _ => XS.iload X0.here hx rfl (hb hby at_25) rfl) ?_
  show GG _ _ _ _ _ _ _ s₁ (mkF m 27 #[.val (.int p0), .val (.int x3), .val (.int p2), .val (.int p3), .val (.int p4), .val (.int x1), .val (.int x2), .unset, .unset, .unset, .unset, .unset, .unset, .unset] [(.int x1)])
  refine own_go (fun _ => XS.iconst X0.here hx rfl (hb hby at_27)) ?_
  show GG _ _ _ _ _ _ _ s₁ (mkF m 28 #[.val (.int p0), .val (.int x3), .val (.int p2), .val (.int p3), .val (.int p4), .val (.int x1), .val (.int x2), .unset, .unset, .unset, .unset, .unset, .unset, .unset] [(.int (1 : Int32)), (.int x1)])
  refine own_join (g' := (mkF m 59 #[.val (.int p0), .val (.int x3), .val (.int (if x1 = (1 : Int32) then p0 else (if x1 = (2 : Int32) then (p0 + (1 : Int32)) else (if x1 = (3 : Int32) then (p0 - (1 : Int32)) else p2)))), .val (.int p3), .val (.int p4), .val (.int x1), .val (.int x2), .unset, .unset, .unset, .unset, .unset, .unset, .unset] [])) (fun J28 => ?_) ?_
  · by_cases hc28 : x1 = (1 : Int32)
    · skip
      refine own_go (fun _ => XS.icmpNo X0.here hx rfl (hb hby at_28) rfl (teq hc28).2) ?_
      show GG _ _ _ _ _ _ _ s₁ (mkF m 31 #[.val (.int p0), .val (.int x3), .val (.int p2), .val (.int p3), .val (.int p4), .val (.int x1), .val (.int x2), .unset, .unset, .unset, .unset, .unset, .unset, .unset] [])
      refine own_go (fun _ => XS.iloadN X0.here hx rfl (hb hby at_31) rfl) ?_
      show GG _ _ _ _ _ _ _ s₁ (mkF m 32 #[.val (.int p0), .val (.int x3), .val (.int p2), .val (.int p3), .val (.int p4), .val (.int x1), .val (.int x2), .unset, .unset, .unset, .unset, .unset, .unset, .unset] [(.int p0)])
      refine own_go (fun _ => XS.istoreN X0.here hx rfl (hb hby at_32) rfl (l' := #[.val (.int p0), .val (.int x3), .val (.int p0), .val (.int p3), .val (.int p4), .val (.int x1), .val (.int x2), .unset, .unset, .unset, .unset, .unset, .unset, .unset]) rfl) ?_
      show GG _ _ _ _ _ _ _ s₁ (mkF m 33 #[.val (.int p0), .val (.int x3), .val (.int p0), .val (.int p3), .val (.int p4), .val (.int x1), .val (.int x2), .unset, .unset, .unset, .unset, .unset, .unset, .unset] [])
      refine own_go (fun _ => XS.goto X0.here hx rfl (pc0 := 33) (pc' := 59) rfl (hb hby at_33) (by decide) (by decide)) ?_
      show GG _ _ _ _ _ _ _ s₁ (mkF m 59 #[.val (.int p0), .val (.int x3), .val (.int p0), .val (.int p3), .val (.int p4), .val (.int x1), .val (.int x2), .unset, .unset, .unset, .unset, .unset, .unset, .unset] [])
      simp only [if_pos hc28] at J28
      exact J28
    · skip
      refine own_go (fun _ => XS.icmpYes X0.here hx rfl (pc0 := 28) (pc' := 36) rfl (hb hby at_28) rfl (feq hc28).2 (by decide) (by decide)) ?_
      show GG _ _ _ _ _ _ _ s₁ (mkF m 36 #[.val (.int p0), .val (.int x3), .val (.int p2), .val (.int p3), .val (.int p4), .val (.int x1), .val (.int x2), .unset, .unset, .unset, .unset, .unset, .unset, .unset] [])
      refine own_go (fun _ => XS.iload X0.here hx rfl (hb hby at_36) rfl) ?_
      show GG _ _ _ _ _ _ _ s₁ (mkF m 38 #[.val (.int p0), .val (.int x3), .val (.int p2), .val (.int p3), .val (.int p4), .val (.int x1), .val (.int x2), .unset, .unset, .unset, .unset, .unset, .unset, .unset] [(.int x1)])
      refine own_go (fun _ => XS.iconst X0.here hx rfl (hb hby at_38)) ?_
      show GG _ _ _ _ _ _ _ s₁ (mkF m 39 #[.val (.int p0), .val (.int x3), .val (.int p2), .val (.int p3), .val (.int p4), .val (.int x1), .val (.int x2), .unset, .unset, .unset, .unset, .unset, .unset, .unset] [(.int (2 : Int32)), (.int x1)])
      refine own_join (g' := (mkF m 59 #[.val (.int p0), .val (.int x3), .val (.int (if x1 = (2 : Int32) then (p0 + (1 : Int32)) else (if x1 = (3 : Int32) then (p0 - (1 : Int32)) else p2))), .val (.int p3), .val (.int p4), .val (.int x1), .val (.int x2), .unset, .unset, .unset, .unset, .unset, .unset, .unset] [])) (fun J39 => ?_) ?_
      · by_cases hc39 : x1 = (2 : Int32)
        · skip
          refine own_go (fun _ => XS.icmpNo X0.here hx rfl (hb hby at_39) rfl (teq hc39).2) ?_
          show GG _ _ _ _ _ _ _ s₁ (mkF m 42 #[.val (.int p0), .val (.int x3), .val (.int p2), .val (.int p3), .val (.int p4), .val (.int x1), .val (.int x2), .unset, .unset, .unset, .unset, .unset, .unset, .unset] [])
          refine own_go (fun _ => XS.iloadN X0.here hx rfl (hb hby at_42) rfl) ?_
          show GG _ _ _ _ _ _ _ s₁ (mkF m 43 #[.val (.int p0), .val (.int x3), .val (.int p2), .val (.int p3), .val (.int p4), .val (.int x1), .val (.int x2), .unset, .unset, .unset, .unset, .unset, .unset, .unset] [(.int p0)])
          refine own_go (fun _ => XS.iconst X0.here hx rfl (hb hby at_43)) ?_
          show GG _ _ _ _ _ _ _ s₁ (mkF m 44 #[.val (.int p0), .val (.int x3), .val (.int p2), .val (.int p3), .val (.int p4), .val (.int x1), .val (.int x2), .unset, .unset, .unset, .unset, .unset, .unset, .unset] [(.int (1 : Int32)), (.int p0)])
          refine own_go (fun _ => XS.iadd X0.here hx rfl (hb hby at_44) rfl) ?_
          show GG _ _ _ _ _ _ _ s₁ (mkF m 45 #[.val (.int p0), .val (.int x3), .val (.int p2), .val (.int p3), .val (.int p4), .val (.int x1), .val (.int x2), .unset, .unset, .unset, .unset, .unset, .unset, .unset] [(.int (p0 + (1 : Int32)))])
          refine own_go (fun _ => XS.istoreN X0.here hx rfl (hb hby at_45) rfl (l' := #[.val (.int p0), .val (.int x3), .val (.int (p0 + (1 : Int32))), .val (.int p3), .val (.int p4), .val (.int x1), .val (.int x2), .unset, .unset, .unset, .unset, .unset, .unset, .unset]) rfl) ?_
          show GG _ _ _ _ _ _ _ s₁ (mkF m 46 #[.val (.int p0), .val (.int x3), .val (.int (p0 + (1 : Int32))), .val (.int p3), .val (.int p4), .val (.int x1), .val (.int x2), .unset, .unset, .unset, .unset, .unset, .unset, .unset] [])
          refine own_go (fun _ => XS.goto X0.here hx rfl (pc0 := 46) (pc' := 59) rfl (hb hby at_46) (by decide) (by decide)) ?_
          show GG _ _ _ _ _ _ _ s₁ (mkF m 59 #[.val (.int p0), .val (.int x3), .val (.int (p0 + (1 : Int32))), .val (.int p3), .val (.int p4), .val (.int x1), .val (.int x2), .unset, .unset, .unset, .unset, .unset, .unset, .unset] [])
          simp only [if_pos hc39] at J39
          exact J39
        · skip
          refine own_go (fun _ => XS.icmpYes X0.here hx rfl (pc0 := 39) (pc' := 49) rfl (hb hby at_39) rfl (feq hc39).2 (by decide) (by decide)) ?_
          show GG _ _ _ _ _ _ _ s₁ (mkF m 49 #[.val (.int p0), .val (.int x3), .val (.int p2), .val (.int p3), .val (.int p4), .val (.int x1), .val (.int x2), .unset, .unset, .unset, .unset, .unset, .unset, .unset] [])
          refine own_go (fun _ => XS.iload X0.here hx rfl (hb hby at_49) rfl) ?_
          show GG _ _ _ _ _ _ _ s₁ (mkF m 51 #[.val (.int p0), .val (.int x3), .val (.int p2), .val (.int p3), .val (.int p4), .val (.int x1), .val (.int x2), .unset, .unset, .unset, .unset, .unset, .unset, .unset] [(.int x1)])
          refine own_go (fun _ => XS.iconst X0.here hx rfl (hb hby at_51)) ?_
          show GG _ _ _ _ _ _ _ s₁ (mkF m 52 #[.val (.int p0), .val (.int x3), .val (.int p2), .val (.int p3), .val (.int p4), .val (.int x1), .val (.int x2), .unset, .unset, .unset, .unset, .unset, .unset, .unset] [(.int (3 : Int32)), (.int x1)])
          refine own_join (g' := (mkF m 59 #[.val (.int p0), .val (.int x3), .val (.int (if x1 = (3 : Int32) then (p0 - (1 : Int32)) else p2)), .val (.int p3), .val (.int p4), .val (.int x1), .val (.int x2), .unset, .unset, .unset, .unset, .unset, .unset, .unset] [])) (fun J52 => ?_) ?_
          · by_cases hc52 : x1 = (3 : Int32)
            · skip
              refine own_go (fun _ => XS.icmpNo X0.here hx rfl (hb hby at_52) rfl (teq hc52).2) ?_
              show GG _ _ _ _ _ _ _ s₁ (mkF m 55 #[.val (.int p0), .val (.int x3), .val (.int p2), .val (.int p3), .val (.int p4), .val (.int x1), .val (.int x2), .unset, .unset, .unset, .unset, .unset, .unset, .unset] [])
              refine own_go (fun _ => XS.iloadN X0.here hx rfl (hb hby at_55) rfl) ?_
              show GG _ _ _ _ _ _ _ s₁ (mkF m 56 #[.val (.int p0), .val (.int x3), .val (.int p2), .val (.int p3), .val (.int p4), .val (.int x1), .val (.int x2), .unset, .unset, .unset, .unset, .unset, .unset, .unset] [(.int p0)])
              refine own_go (fun _ => XS.iconst X0.here hx rfl (hb hby at_56)) ?_
              show GG _ _ _ _ _ _ _ s₁ (mkF m 57 #[.val (.int p0), .val (.int x3), .val (.int p2), .val (.int p3), .val (.int p4), .val (.int x1), .val (.int x2), .unset, .unset, .unset, .unset, .unset, .unset, .unset] [(.int (1 : Int32)), (.int p0)])
              refine own_go (fun _ => XS.isub X0.here hx rfl (hb hby at_57) rfl) ?_
              show GG _ _ _ _ _ _ _ s₁ (mkF m 58 #[.val (.int p0), .val (.int x3), .val (.int p2), .val (.int p3), .val (.int p4), .val (.int x1), .val (.int x2), .unset, .unset, .unset, .unset, .unset, .unset, .unset] [(.int (p0 - (1 : Int32)))])
              refine own_go (fun _ => XS.istoreN X0.here hx rfl (hb hby at_58) rfl (l' := #[.val (.int p0), .val (.int x3), .val (.int (p0 - (1 : Int32))), .val (.int p3), .val (.int p4), .val (.int x1), .val (.int x2), .unset, .unset, .unset, .unset, .unset, .unset, .unset]) rfl) ?_
              show GG _ _ _ _ _ _ _ s₁ (mkF m 59 #[.val (.int p0), .val (.int x3), .val (.int (p0 - (1 : Int32))), .val (.int p3), .val (.int p4), .val (.int x1), .val (.int x2), .unset, .unset, .unset, .unset, .unset, .unset, .unset] [])
              simp only [if_pos hc52] at J52
              exact J52
            · skip
              refine own_go (fun _ => XS.icmpYes X0.here hx rfl (pc0 := 52) (pc' := 59) rfl (hb hby at_52) rfl (feq hc52).2 (by decide) (by decide)) ?_
              show GG _ _ _ _ _ _ _ s₁ (mkF m 59 #[.val (.int p0), .val (.int x3), .val (.int p2), .val (.int p3), .val (.int p4), .val (.int x1), .val (.int x2), .unset, .unset, .unset, .unset, .unset, .unset, .unset] [])
              simp only [if_neg hc52] at J52
              exact J52
          show GG _ _ _ _ _ _ _ s₁ (mkF m 59 #[.val (.int p0), .val (.int x3), .val (.int (if x1 = (3 : Int32) then (p0 - (1 : Int32)) else p2)), .val (.int p3), .val (.int p4), .val (.int x1), .val (.int x2), .unset, .unset, .unset, .unset, .unset, .unset, .unset] [])
          simp only [if_neg hc39] at J39
          exact J39
      show GG _ _ _ _ _ _ _ s₁ (mkF m 59 #[.val (.int p0), .val (.int x3), .val (.int (if x1 = (2 : Int32) then (p0 + (1 : Int32)) else (if x1 = (3 : Int32) then (p0 - (1 : Int32)) else p2))), .val (.int p3), .val (.int p4), .val (.int x1), .val (.int x2), .unset, .unset, .unset, .unset, .unset, .unset, .unset] [])
      simp only [if_neg hc28] at J28
      exact J28
  show GG _ _ _ _ _ _ _ s₁ (mkF m 59 #[.val (.int p0), .val (.int x3), .val (.int (if x1 = (1 : Int32) then p0 else (if x1 = (2 : Int32) then (p0 + (1 : Int32)) else (if x1 = (3 : Int32) then (p0 - (1 : Int32)) else p2)))), .val (.int p3), .val (.int p4), .val (.int x1), .val (.int x2), .unset, .unset, .unset, .unset, .unset, .unset, .unset] [])
  generalize hx4 : (if x1 = (1 : Int32) then p0 else (if x1 = (2 : Int32) then (p0 + (1 : Int32)) else (if x1 = (3 : Int32) then (p0 - (1 : Int32)) else p2))) = x4
  refine own_go (fun _ => XS.iload X0.here hx rfl (hb hby at_59) rfl) ?_
  show GG _ _ _ _ _ _ _ s₁ (mkF m 61 #[.val (.int p0), .val (.int x3), .val (.int x4), .val (.int p3), .val (.int p4), .val (.int x1), .val (.int x2), .unset, .unset, .unset, .unset, .unset, .unset, .unset] [(.int x2)])
  refine own_go (fun _ => XS.iconst X0.here hx rfl (hb hby at_61)) ?_
  show GG _ _ _ _ _ _ _ s₁ (mkF m 62 #[.val (.int p0), .val (.int x3), .val (.int x4), .val (.int p3), .val (.int p4), .val (.int x1), .val (.int x2), .unset, .unset, .unset, .unset, .unset, .unset, .unset] [(.int (1 : Int32)), (.int x2)])
  refine own_join (g' := (mkF m 91 #[.val (.int p0), .val (.int x3), .val (.int x4), .val (.int (if x2 = (1 : Int32) then (x3 + (1 : Int32)) else (if x2 = (2 : Int32) then (1 : Int32) else (if x2 = (3 : Int32) then (0 : Int32) else p3)))), .val (.int p4), .val (.int x1), .val (.int x2), .unset, .unset, .unset, .unset, .unset, .unset, .unset] [])) (fun J62 => ?_) ?_
  · by_cases hc62 : x2 = (1 : Int32)
    · skip
      refine own_go (fun _ => XS.icmpNo X0.here hx rfl (hb hby at_62) rfl (teq hc62).2) ?_
      show GG _ _ _ _ _ _ _ s₁ (mkF m 65 #[.val (.int p0), .val (.int x3), .val (.int x4), .val (.int p3), .val (.int p4), .val (.int x1), .val (.int x2), .unset, .unset, .unset, .unset, .unset, .unset, .unset] [])
      refine own_go (fun _ => XS.iloadN X0.here hx rfl (hb hby at_65) rfl) ?_
      show GG _ _ _ _ _ _ _ s₁ (mkF m 66 #[.val (.int p0), .val (.int x3), .val (.int x4), .val (.int p3), .val (.int p4), .val (.int x1), .val (.int x2), .unset, .unset, .unset, .unset, .unset, .unset, .unset] [(.int x3)])
      refine own_go (fun _ => XS.iconst X0.here hx rfl (hb hby at_66)) ?_
      show GG _ _ _ _ _ _ _ s₁ (mkF m 67 #[.val (.int p0), .val (.int x3), .val (.int x4), .val (.int p3), .val (.int p4), .val (.int x1), .val (.int x2), .unset, .unset, .unset, .unset, .unset, .unset, .unset] [(.int (1 : Int32)), (.int x3)])
      refine own_go (fun _ => XS.iadd X0.here hx rfl (hb hby at_67) rfl) ?_
      show GG _ _ _ _ _ _ _ s₁ (mkF m 68 #[.val (.int p0), .val (.int x3), .val (.int x4), .val (.int p3), .val (.int p4), .val (.int x1), .val (.int x2), .unset, .unset, .unset, .unset, .unset, .unset, .unset] [(.int (x3 + (1 : Int32)))])
      refine own_go (fun _ => XS.istoreN X0.here hx rfl (hb hby at_68) rfl (l' := #[.val (.int p0), .val (.int x3), .val (.int x4), .val (.int (x3 + (1 : Int32))), .val (.int p4), .val (.int x1), .val (.int x2), .unset, .unset, .unset, .unset, .unset, .unset, .unset]) rfl) ?_
      show GG _ _ _ _ _ _ _ s₁ (mkF m 69 #[.val (.int p0), .val (.int x3), .val (.int x4), .val (.int (x3 + (1 : Int32))), .val (.int p4), .val (.int x1), .val (.int x2), .unset, .unset, .unset, .unset, .unset, .unset, .unset] [])
      refine own_go (fun _ => XS.goto X0.here hx rfl (pc0 := 69) (pc' := 91) rfl (hb hby at_69) (by decide) (by decide)) ?_
      show GG _ _ _ _ _ _ _ s₁ (mkF m 91 #[.val (.int p0), .val (.int x3), .val (.int x4), .val (.int (x3 + (1 : Int32))), .val (.int p4), .val (.int x1), .val (.int x2), .unset, .unset, .unset, .unset, .unset, .unset, .unset] [])
      simp only [if_pos hc62] at J62
      exact J62
    · skip
      refine own_go (fun _ => XS.icmpYes X0.here hx rfl (pc0 := 62) (pc' := 72) rfl (hb hby at_62) rfl (feq hc62).2 (by decide) (by decide)) ?_
      show GG _ _ _ _ _ _ _ s₁ (mkF m 72 #[.val (.int p0), .val (.int x3), .val (.int x4), .val (.int p3), .val (.int p4), .val (.int x1), .val (.int x2), .unset, .unset, .unset, .unset, .unset, .unset, .unset] [])
      refine own_go (fun _ => XS.iload X0.here hx rfl (hb hby at_72) rfl) ?_
      show GG _ _ _ _ _ _ _ s₁ (mkF m 74 #[.val (.int p0), .val (.int x3), .val (.int x4), .val (.int p3), .val (.int p4), .val (.int x1), .val (.int x2), .unset, .unset, .unset, .unset, .unset, .unset, .unset] [(.int x2)])
      refine own_go (fun _ => XS.iconst X0.here hx rfl (hb hby at_74)) ?_
      show GG _ _ _ _ _ _ _ s₁ (mkF m 75 #[.val (.int p0), .val (.int x3), .val (.int x4), .val (.int p3), .val (.int p4), .val (.int x1), .val (.int x2), .unset, .unset, .unset, .unset, .unset, .unset, .unset] [(.int (2 : Int32)), (.int x2)])
      refine own_join (g' := (mkF m 91 #[.val (.int p0), .val (.int x3), .val (.int x4), .val (.int (if x2 = (2 : Int32) then (1 : Int32) else (if x2 = (3 : Int32) then (0 : Int32) else p3))), .val (.int p4), .val (.int x1), .val (.int x2), .unset, .unset, .unset, .unset, .unset, .unset, .unset] [])) (fun J75 => ?_) ?_
      · by_cases hc75 : x2 = (2 : Int32)
        · skip
          refine own_go (fun _ => XS.icmpNo X0.here hx rfl (hb hby at_75) rfl (teq hc75).2) ?_
          show GG _ _ _ _ _ _ _ s₁ (mkF m 78 #[.val (.int p0), .val (.int x3), .val (.int x4), .val (.int p3), .val (.int p4), .val (.int x1), .val (.int x2), .unset, .unset, .unset, .unset, .unset, .unset, .unset] [])
          refine own_go (fun _ => XS.iconst X0.here hx rfl (hb hby at_78)) ?_
          show GG _ _ _ _ _ _ _ s₁ (mkF m 79 #[.val (.int p0), .val (.int x3), .val (.int x4), .val (.int p3), .val (.int p4), .val (.int x1), .val (.int x2), .unset, .unset, .unset, .unset, .unset, .unset, .unset] [(.int (1 : Int32))])
          refine own_go (fun _ => XS.istoreN X0.here hx rfl (hb hby at_79) rfl (l' := #[.val (.int p0), .val (.int x3), .val (.int x4), .val (.int (1 : Int32)), .val (.int p4), .val (.int x1), .val (.int x2), .unset, .unset, .unset, .unset, .unset, .unset, .unset]) rfl) ?_
          show GG _ _ _ _ _ _ _ s₁ (mkF m 80 #[.val (.int p0), .val (.int x3), .val (.int x4), .val (.int (1 : Int32)), .val (.int p4), .val (.int x1), .val (.int x2), .unset, .unset, .unset, .unset, .unset, .unset, .unset] [])
          refine own_go (fun _ => XS.goto X0.here hx rfl (pc0 := 80) (pc' := 91) rfl (hb hby at_80) (by decide) (by decide)) ?_
          show GG _ _ _ _ _ _ _ s₁ (mkF m 91 #[.val (.int p0), .val (.int x3), .val (.int x4), .val (.int (1 : Int32)), .val (.int p4), .val (.int x1), .val (.int x2), .unset, .unset, .unset, .unset, .unset, .unset, .unset] [])
          simp only [if_pos hc75] at J75
          exact J75
        · skip
          refine own_go (fun _ => XS.icmpYes X0.here hx rfl (pc0 := 75) (pc' := 83) rfl (hb hby at_75) rfl (feq hc75).2 (by decide) (by decide)) ?_
          show GG _ _ _ _ _ _ _ s₁ (mkF m 83 #[.val (.int p0), .val (.int x3), .val (.int x4), .val (.int p3), .val (.int p4), .val (.int x1), .val (.int x2), .unset, .unset, .unset, .unset, .unset, .unset, .unset] [])
          refine own_go (fun _ => XS.iload X0.here hx rfl (hb hby at_83) rfl) ?_
          show GG _ _ _ _ _ _ _ s₁ (mkF m 85 #[.val (.int p0), .val (.int x3), .val (.int x4), .val (.int p3), .val (.int p4), .val (.int x1), .val (.int x2), .unset, .unset, .unset, .unset, .unset, .unset, .unset] [(.int x2)])
          refine own_go (fun _ => XS.iconst X0.here hx rfl (hb hby at_85)) ?_
          show GG _ _ _ _ _ _ _ s₁ (mkF m 86 #[.val (.int p0), .val (.int x3), .val (.int x4), .val (.int p3), .val (.int p4), .val (.int x1), .val (.int x2), .unset, .unset, .unset, .unset, .unset, .unset, .unset] [(.int (3 : Int32)), (.int x2)])
          refine own_join (g' := (mkF m 91 #[.val (.int p0), .val (.int x3), .val (.int x4), .val (.int (if x2 = (3 : Int32) then (0 : Int32) else p3)), .val (.int p4), .val (.int x1), .val (.int x2), .unset, .unset, .unset, .unset, .unset, .unset, .unset] [])) (fun J86 => ?_) ?_
          · by_cases hc86 : x2 = (3 : Int32)
            · skip
              refine own_go (fun _ => XS.icmpNo X0.here hx rfl (hb hby at_86) rfl (teq hc86).2) ?_
              show GG _ _ _ _ _ _ _ s₁ (mkF m 89 #[.val (.int p0), .val (.int x3), .val (.int x4), .val (.int p3), .val (.int p4), .val (.int x1), .val (.int x2), .unset, .unset, .unset, .unset, .unset, .unset, .unset] [])
              refine own_go (fun _ => XS.iconst X0.here hx rfl (hb hby at_89)) ?_
              show GG _ _ _ _ _ _ _ s₁ (mkF m 90 #[.val (.int p0), .val (.int x3), .val (.int x4), .val (.int p3), .val (.int p4), .val (.int x1), .val (.int x2), .unset, .unset, .unset, .unset, .unset, .unset, .unset] [(.int (0 : Int32))])
              refine own_go (fun _ => XS.istoreN X0.here hx rfl (hb hby at_90) rfl (l' := #[.val (.int p0), .val (.int x3), .val (.int x4), .val (.int (0 : Int32)), .val (.int p4), .val (.int x1), .val (.int x2), .unset, .unset, .unset, .unset, .unset, .unset, .unset]) rfl) ?_
              show GG _ _ _ _ _ _ _ s₁ (mkF m 91 #[.val (.int p0), .val (.int x3), .val (.int x4), .val (.int (0 : Int32)), .val (.int p4), .val (.int x1), .val (.int x2), .unset, .unset, .unset, .unset, .unset, .unset, .unset] [])
              simp only [if_pos hc86] at J86
              exact J86
            · skip
              refine own_go (fun _ => XS.icmpYes X0.here hx rfl (pc0 := 86) (pc' := 91) rfl (hb hby at_86) rfl (feq hc86).2 (by decide) (by decide)) ?_
              show GG _ _ _ _ _ _ _ s₁ (mkF m 91 #[.val (.int p0), .val (.int x3), .val (.int x4), .val (.int p3), .val (.int p4), .val (.int x1), .val (.int x2), .unset, .unset, .unset, .unset, .unset, .unset, .unset] [])
              simp only [if_neg hc86] at J86
              exact J86
          show GG _ _ _ _ _ _ _ s₁ (mkF m 91 #[.val (.int p0), .val (.int x3), .val (.int x4), .val (.int (if x2 = (3 : Int32) then (0 : Int32) else p3)), .val (.int p4), .val (.int x1), .val (.int x2), .unset, .unset, .unset, .unset, .unset, .unset, .unset] [])
          simp only [if_neg hc75] at J75
          exact J75
      show GG _ _ _ _ _ _ _ s₁ (mkF m 91 #[.val (.int p0), .val (.int x3), .val (.int x4), .val (.int (if x2 = (2 : Int32) then (1 : Int32) else (if x2 = (3 : Int32) then (0 : Int32) else p3))), .val (.int p4), .val (.int x1), .val (.int x2), .unset, .unset, .unset, .unset, .unset, .unset, .unset] [])
      simp only [if_neg hc62] at J62
      exact J62
  show GG _ _ _ _ _ _ _ s₁ (mkF m 91 #[.val (.int p0), .val (.int x3), .val (.int x4), .val (.int (if x2 = (1 : Int32) then (x3 + (1 : Int32)) else (if x2 = (2 : Int32) then (1 : Int32) else (if x2 = (3 : Int32) then (0 : Int32) else p3)))), .val (.int p4), .val (.int x1), .val (.int x2), .unset, .unset, .unset, .unset, .unset, .unset, .unset] [])
  generalize hx5 : (if x2 = (1 : Int32) then (x3 + (1 : Int32)) else (if x2 = (2 : Int32) then (1 : Int32) else (if x2 = (3 : Int32) then (0 : Int32) else p3))) = x5
  refine own_go (fun _ => XS.iloadN X0.here hx rfl (hb hby at_91) rfl) ?_
  show GG _ _ _ _ _ _ _ s₁ (mkF m 92 #[.val (.int p0), .val (.int x3), .val (.int x4), .val (.int x5), .val (.int p4), .val (.int x1), .val (.int x2), .unset, .unset, .unset, .unset, .unset, .unset, .unset] [(.int p0)])
  refine own_go (fun _ => XS.i2l X0.here hx rfl (hb hby at_92) rfl) ?_
  show GG _ _ _ _ _ _ _ s₁ (mkF m 93 #[.val (.int p0), .val (.int x3), .val (.int x4), .val (.int x5), .val (.int p4), .val (.int x1), .val (.int x2), .unset, .unset, .unset, .unset, .unset, .unset, .unset] [(.long (p0.toInt64))])
  refine own_go (fun _ => XS.bipush X0.here hx rfl (hb hby at_93)) ?_
  show GG _ _ _ _ _ _ _ s₁ (mkF m 95 #[.val (.int p0), .val (.int x3), .val (.int x4), .val (.int x5), .val (.int p4), .val (.int x1), .val (.int x2), .unset, .unset, .unset, .unset, .unset, .unset, .unset] [(.int (32 : Int32)), (.long (p0.toInt64))])
  refine own_go (fun _ => XS.lshl X0.here hx rfl (hb hby at_95) rfl) ?_
  show GG _ _ _ _ _ _ _ s₁ (mkF m 96 #[.val (.int p0), .val (.int x3), .val (.int x4), .val (.int x5), .val (.int p4), .val (.int x1), .val (.int x2), .unset, .unset, .unset, .unset, .unset, .unset, .unset] [(.long ((p0.toInt64) <<< ((32 : Int32) &&& 0x3f).toInt64))])
  refine own_go (fun _ => XS.iloadN X0.here hx rfl (hb hby at_96) rfl) ?_
  show GG _ _ _ _ _ _ _ s₁ (mkF m 97 #[.val (.int p0), .val (.int x3), .val (.int x4), .val (.int x5), .val (.int p4), .val (.int x1), .val (.int x2), .unset, .unset, .unset, .unset, .unset, .unset, .unset] [(.int x3), (.long ((p0.toInt64) <<< ((32 : Int32) &&& 0x3f).toInt64))])
  refine own_go (fun _ => XS.i2l X0.here hx rfl (hb hby at_97) rfl) ?_
  show GG _ _ _ _ _ _ _ s₁ (mkF m 98 #[.val (.int p0), .val (.int x3), .val (.int x4), .val (.int x5), .val (.int p4), .val (.int x1), .val (.int x2), .unset, .unset, .unset, .unset, .unset, .unset, .unset] [(.long (x3.toInt64)), (.long ((p0.toInt64) <<< ((32 : Int32) &&& 0x3f).toInt64))])
  refine own_go (fun _ => X0.ldc2Long hx hown (mvT hZ (hw _ (List.mem_of_getElem? (i := 0) rfl))) (g := (mkF m 98 #[.val (.int p0), .val (.int x3), .val (.int x4), .val (.int x5), .val (.int p4), .val (.int x1), .val (.int x2), .unset, .unset, .unset, .unset, .unset, .unset, .unset] [(.long (x3.toInt64)), (.long ((p0.toInt64) <<< ((32 : Int32) &&& 0x3f).toInt64))])) rfl (hb hby at_98) _) ?_
  show GG _ _ _ _ _ _ _ s₁ (mkF m 101 #[.val (.int p0), .val (.int x3), .val (.int x4), .val (.int x5), .val (.int p4), .val (.int x1), .val (.int x2), .unset, .unset, .unset, .unset, .unset, .unset, .unset] [(.long (4294967295 : Int64)), (.long (x3.toInt64)), (.long ((p0.toInt64) <<< ((32 : Int32) &&& 0x3f).toInt64))])
  refine own_go (fun _ => XS.land X0.here hx rfl (hb hby at_101) rfl) ?_
  show GG _ _ _ _ _ _ _ s₁ (mkF m 102 #[.val (.int p0), .val (.int x3), .val (.int x4), .val (.int x5), .val (.int p4), .val (.int x1), .val (.int x2), .unset, .unset, .unset, .unset, .unset, .unset, .unset] [(.long ((x3.toInt64) &&& (4294967295 : Int64))), (.long ((p0.toInt64) <<< ((32 : Int32) &&& 0x3f).toInt64))])
  refine own_go (fun _ => XS.lor X0.here hx rfl (hb hby at_102) rfl) ?_
  show GG _ _ _ _ _ _ _ s₁ (mkF m 103 #[.val (.int p0), .val (.int x3), .val (.int x4), .val (.int x5), .val (.int p4), .val (.int x1), .val (.int x2), .unset, .unset, .unset, .unset, .unset, .unset, .unset] [(.long (((p0.toInt64) <<< ((32 : Int32) &&& 0x3f).toInt64) ||| ((x3.toInt64) &&& (4294967295 : Int64))))])
  refine own_go (fun _ => XS.lstore X0.here hx rfl (hb hby at_103) rfl (l' := #[.val (.int p0), .val (.int x3), .val (.int x4), .val (.int x5), .val (.int p4), .val (.int x1), .val (.int x2), .val (.long (((p0.toInt64) <<< ((32 : Int32) &&& 0x3f).toInt64) ||| ((x3.toInt64) &&& (4294967295 : Int64)))), .second, .unset, .unset, .unset, .unset, .unset]) rfl) ?_
  show GG _ _ _ _ _ _ _ s₁ (mkF m 105 #[.val (.int p0), .val (.int x3), .val (.int x4), .val (.int x5), .val (.int p4), .val (.int x1), .val (.int x2), .val (.long (((p0.toInt64) <<< ((32 : Int32) &&& 0x3f).toInt64) ||| ((x3.toInt64) &&& (4294967295 : Int64)))), .second, .unset, .unset, .unset, .unset, .unset] [])
  generalize hx6 : (((p0.toInt64) <<< ((32 : Int32) &&& 0x3f).toInt64) ||| ((x3.toInt64) &&& (4294967295 : Int64))) = x6
  refine own_go (fun _ => XS.iloadN X0.here hx rfl (hb hby at_105) rfl) ?_
  show GG _ _ _ _ _ _ _ s₁ (mkF m 106 #[.val (.int p0), .val (.int x3), .val (.int x4), .val (.int x5), .val (.int p4), .val (.int x1), .val (.int x2), .val (.long x6), .second, .unset, .unset, .unset, .unset, .unset] [(.int x4)])
  refine own_go (fun _ => XS.i2l X0.here hx rfl (hb hby at_106) rfl) ?_
  show GG _ _ _ _ _ _ _ s₁ (mkF m 107 #[.val (.int p0), .val (.int x3), .val (.int x4), .val (.int x5), .val (.int p4), .val (.int x1), .val (.int x2), .val (.long x6), .second, .unset, .unset, .unset, .unset, .unset] [(.long (x4.toInt64))])
  refine own_go (fun _ => XS.bipush X0.here hx rfl (hb hby at_107)) ?_
  show GG _ _ _ _ _ _ _ s₁ (mkF m 109 #[.val (.int p0), .val (.int x3), .val (.int x4), .val (.int x5), .val (.int p4), .val (.int x1), .val (.int x2), .val (.long x6), .second, .unset, .unset, .unset, .unset, .unset] [(.int (32 : Int32)), (.long (x4.toInt64))])
  refine own_go (fun _ => XS.lshl X0.here hx rfl (hb hby at_109) rfl) ?_
  show GG _ _ _ _ _ _ _ s₁ (mkF m 110 #[.val (.int p0), .val (.int x3), .val (.int x4), .val (.int x5), .val (.int p4), .val (.int x1), .val (.int x2), .val (.long x6), .second, .unset, .unset, .unset, .unset, .unset] [(.long ((x4.toInt64) <<< ((32 : Int32) &&& 0x3f).toInt64))])
  refine own_go (fun _ => XS.iloadN X0.here hx rfl (hb hby at_110) rfl) ?_
  show GG _ _ _ _ _ _ _ s₁ (mkF m 111 #[.val (.int p0), .val (.int x3), .val (.int x4), .val (.int x5), .val (.int p4), .val (.int x1), .val (.int x2), .val (.long x6), .second, .unset, .unset, .unset, .unset, .unset] [(.int x5), (.long ((x4.toInt64) <<< ((32 : Int32) &&& 0x3f).toInt64))])
  refine own_go (fun _ => XS.i2l X0.here hx rfl (hb hby at_111) rfl) ?_
  show GG _ _ _ _ _ _ _ s₁ (mkF m 112 #[.val (.int p0), .val (.int x3), .val (.int x4), .val (.int x5), .val (.int p4), .val (.int x1), .val (.int x2), .val (.long x6), .second, .unset, .unset, .unset, .unset, .unset] [(.long (x5.toInt64)), (.long ((x4.toInt64) <<< ((32 : Int32) &&& 0x3f).toInt64))])
  refine own_go (fun _ => X0.ldc2Long hx hown (mvT hZ (hw _ (List.mem_of_getElem? (i := 0) rfl))) (g := (mkF m 112 #[.val (.int p0), .val (.int x3), .val (.int x4), .val (.int x5), .val (.int p4), .val (.int x1), .val (.int x2), .val (.long x6), .second, .unset, .unset, .unset, .unset, .unset] [(.long (x5.toInt64)), (.long ((x4.toInt64) <<< ((32 : Int32) &&& 0x3f).toInt64))])) rfl (hb hby at_112) _) ?_
  show GG _ _ _ _ _ _ _ s₁ (mkF m 115 #[.val (.int p0), .val (.int x3), .val (.int x4), .val (.int x5), .val (.int p4), .val (.int x1), .val (.int x2), .val (.long x6), .second, .unset, .unset, .unset, .unset, .unset] [(.long (4294967295 : Int64)), (.long (x5.toInt64)), (.long ((x4.toInt64) <<< ((32 : Int32) &&& 0x3f).toInt64))])
  refine own_go (fun _ => XS.land X0.here hx rfl (hb hby at_115) rfl) ?_
  show GG _ _ _ _ _ _ _ s₁ (mkF m 116 #[.val (.int p0), .val (.int x3), .val (.int x4), .val (.int x5), .val (.int p4), .val (.int x1), .val (.int x2), .val (.long x6), .second, .unset, .unset, .unset, .unset, .unset] [(.long ((x5.toInt64) &&& (4294967295 : Int64))), (.long ((x4.toInt64) <<< ((32 : Int32) &&& 0x3f).toInt64))])
  refine own_go (fun _ => XS.lor X0.here hx rfl (hb hby at_116) rfl) ?_
  show GG _ _ _ _ _ _ _ s₁ (mkF m 117 #[.val (.int p0), .val (.int x3), .val (.int x4), .val (.int x5), .val (.int p4), .val (.int x1), .val (.int x2), .val (.long x6), .second, .unset, .unset, .unset, .unset, .unset] [(.long (((x4.toInt64) <<< ((32 : Int32) &&& 0x3f).toInt64) ||| ((x5.toInt64) &&& (4294967295 : Int64))))])
  refine own_go (fun _ => XS.lstore X0.here hx rfl (hb hby at_117) rfl (l' := #[.val (.int p0), .val (.int x3), .val (.int x4), .val (.int x5), .val (.int p4), .val (.int x1), .val (.int x2), .val (.long x6), .second, .val (.long (((x4.toInt64) <<< ((32 : Int32) &&& 0x3f).toInt64) ||| ((x5.toInt64) &&& (4294967295 : Int64)))), .second, .unset, .unset, .unset]) rfl) ?_
  show GG _ _ _ _ _ _ _ s₁ (mkF m 119 #[.val (.int p0), .val (.int x3), .val (.int x4), .val (.int x5), .val (.int p4), .val (.int x1), .val (.int x2), .val (.long x6), .second, .val (.long (((x4.toInt64) <<< ((32 : Int32) &&& 0x3f).toInt64) ||| ((x5.toInt64) &&& (4294967295 : Int64)))), .second, .unset, .unset, .unset] [])
  generalize hx7 : (((x4.toInt64) <<< ((32 : Int32) &&& 0x3f).toInt64) ||| ((x5.toInt64) &&& (4294967295 : Int64))) = x7
  refine own_go (fun _ => XS.iloadN X0.here hx rfl (hb hby at_119) rfl) ?_
  show GG _ _ _ _ _ _ _ s₁ (mkF m 120 #[.val (.int p0), .val (.int x3), .val (.int x4), .val (.int x5), .val (.int p4), .val (.int x1), .val (.int x2), .val (.long x6), .second, .val (.long x7), .second, .unset, .unset, .unset] [(.int x3)])
  refine own_go (fun _ => XS.iconst X0.here hx rfl (hb hby at_120)) ?_
  show GG _ _ _ _ _ _ _ s₁ (mkF m 121 #[.val (.int p0), .val (.int x3), .val (.int x4), .val (.int x5), .val (.int p4), .val (.int x1), .val (.int x2), .val (.long x6), .second, .val (.long x7), .second, .unset, .unset, .unset] [(.int (-1 : Int32)), (.int x3)])
  refine own_join (g' := (mkF m 164 #[.val (.int p0), .val (.int x3), .val (.int x4), .val (.int x5), .val (.int p4), .val (.int x1), .val (.int x2), .val (.long x6), .second, .val (.long x7), .second, .val (.int (if x3 = (-1 : Int32) then (if x4 = (p0 + (1 : Int32)) then (if x5 = (0 : Int32) then (1 : Int32) else (0 : Int32)) else (0 : Int32)) else (if x4 = p0 then (if x5 = (x3 + (1 : Int32)) then (1 : Int32) else (0 : Int32)) else (0 : Int32)))), .unset, .unset] [])) (fun J121 => ?_) ?_
  · by_cases hc121 : x3 = (-1 : Int32)
    · skip
      refine own_go (fun _ => XS.icmpYes X0.here hx rfl (pc0 := 121) (pc' := 146) rfl (hb hby at_121) rfl (teq hc121).1 (by decide) (by decide)) ?_
      show GG _ _ _ _ _ _ _ s₁ (mkF m 146 #[.val (.int p0), .val (.int x3), .val (.int x4), .val (.int x5), .val (.int p4), .val (.int x1), .val (.int x2), .val (.long x6), .second, .val (.long x7), .second, .unset, .unset, .unset] [])
      refine own_go (fun _ => XS.iloadN X0.here hx rfl (hb hby at_146) rfl) ?_
      show GG _ _ _ _ _ _ _ s₁ (mkF m 147 #[.val (.int p0), .val (.int x3), .val (.int x4), .val (.int x5), .val (.int p4), .val (.int x1), .val (.int x2), .val (.long x6), .second, .val (.long x7), .second, .unset, .unset, .unset] [(.int x4)])
      refine own_go (fun _ => XS.iloadN X0.here hx rfl (hb hby at_147) rfl) ?_
      show GG _ _ _ _ _ _ _ s₁ (mkF m 148 #[.val (.int p0), .val (.int x3), .val (.int x4), .val (.int x5), .val (.int p4), .val (.int x1), .val (.int x2), .val (.long x6), .second, .val (.long x7), .second, .unset, .unset, .unset] [(.int p0), (.int x4)])
      refine own_go (fun _ => XS.iconst X0.here hx rfl (hb hby at_148)) ?_
      show GG _ _ _ _ _ _ _ s₁ (mkF m 149 #[.val (.int p0), .val (.int x3), .val (.int x4), .val (.int x5), .val (.int p4), .val (.int x1), .val (.int x2), .val (.long x6), .second, .val (.long x7), .second, .unset, .unset, .unset] [(.int (1 : Int32)), (.int p0), (.int x4)])
      refine own_go (fun _ => XS.iadd X0.here hx rfl (hb hby at_149) rfl) ?_
      show GG _ _ _ _ _ _ _ s₁ (mkF m 150 #[.val (.int p0), .val (.int x3), .val (.int x4), .val (.int x5), .val (.int p4), .val (.int x1), .val (.int x2), .val (.long x6), .second, .val (.long x7), .second, .unset, .unset, .unset] [(.int (p0 + (1 : Int32))), (.int x4)])
      refine own_join (g' := (mkF m 162 #[.val (.int p0), .val (.int x3), .val (.int x4), .val (.int x5), .val (.int p4), .val (.int x1), .val (.int x2), .val (.long x6), .second, .val (.long x7), .second, .unset, .unset, .unset] [(.int (if x4 = (p0 + (1 : Int32)) then (if x5 = (0 : Int32) then (1 : Int32) else (0 : Int32)) else (0 : Int32)))])) (fun J150 => ?_) ?_
      · by_cases hc150 : x4 = (p0 + (1 : Int32))
        · skip
          refine own_go (fun _ => XS.icmpNo X0.here hx rfl (hb hby at_150) rfl (teq hc150).2) ?_
          show GG _ _ _ _ _ _ _ s₁ (mkF m 153 #[.val (.int p0), .val (.int x3), .val (.int x4), .val (.int x5), .val (.int p4), .val (.int x1), .val (.int x2), .val (.long x6), .second, .val (.long x7), .second, .unset, .unset, .unset] [])
          refine own_go (fun _ => XS.iloadN X0.here hx rfl (hb hby at_153) rfl) ?_
          show GG _ _ _ _ _ _ _ s₁ (mkF m 154 #[.val (.int p0), .val (.int x3), .val (.int x4), .val (.int x5), .val (.int p4), .val (.int x1), .val (.int x2), .val (.long x6), .second, .val (.long x7), .second, .unset, .unset, .unset] [(.int x5)])
          refine own_join (g' := (mkF m 162 #[.val (.int p0), .val (.int x3), .val (.int x4), .val (.int x5), .val (.int p4), .val (.int x1), .val (.int x2), .val (.long x6), .second, .val (.long x7), .second, .unset, .unset, .unset] [(.int (if x5 = (0 : Int32) then (1 : Int32) else (0 : Int32)))])) (fun J154 => ?_) ?_
          · by_cases hc154 : x5 = (0 : Int32)
            · skip
              refine own_go (fun _ => XS.ifNo X0.here hx rfl (hb hby at_154) rfl ((if0 _ _).trans (teq hc154).2)) ?_
              show GG _ _ _ _ _ _ _ s₁ (mkF m 157 #[.val (.int p0), .val (.int x3), .val (.int x4), .val (.int x5), .val (.int p4), .val (.int x1), .val (.int x2), .val (.long x6), .second, .val (.long x7), .second, .unset, .unset, .unset] [])
              refine own_go (fun _ => XS.iconst X0.here hx rfl (hb hby at_157)) ?_
              show GG _ _ _ _ _ _ _ s₁ (mkF m 158 #[.val (.int p0), .val (.int x3), .val (.int x4), .val (.int x5), .val (.int p4), .val (.int x1), .val (.int x2), .val (.long x6), .second, .val (.long x7), .second, .unset, .unset, .unset] [(.int (1 : Int32))])
              refine own_go (fun _ => XS.goto X0.here hx rfl (pc0 := 158) (pc' := 162) rfl (hb hby at_158) (by decide) (by decide)) ?_
              show GG _ _ _ _ _ _ _ s₁ (mkF m 162 #[.val (.int p0), .val (.int x3), .val (.int x4), .val (.int x5), .val (.int p4), .val (.int x1), .val (.int x2), .val (.long x6), .second, .val (.long x7), .second, .unset, .unset, .unset] [(.int (1 : Int32))])
              simp only [if_pos hc154] at J154
              exact J154
            · skip
              refine own_go (fun _ => XS.ifYes X0.here hx rfl (pc0 := 154) (pc' := 161) rfl (hb hby at_154) rfl ((if0 _ _).trans (feq hc154).2) (by decide) (by decide)) ?_
              show GG _ _ _ _ _ _ _ s₁ (mkF m 161 #[.val (.int p0), .val (.int x3), .val (.int x4), .val (.int x5), .val (.int p4), .val (.int x1), .val (.int x2), .val (.long x6), .second, .val (.long x7), .second, .unset, .unset, .unset] [])
              refine own_go (fun _ => XS.iconst X0.here hx rfl (hb hby at_161)) ?_
              show GG _ _ _ _ _ _ _ s₁ (mkF m 162 #[.val (.int p0), .val (.int x3), .val (.int x4), .val (.int x5), .val (.int p4), .val (.int x1), .val (.int x2), .val (.long x6), .second, .val (.long x7), .second, .unset, .unset, .unset] [(.int (0 : Int32))])
              simp only [if_neg hc154] at J154
              exact J154
          show GG _ _ _ _ _ _ _ s₁ (mkF m 162 #[.val (.int p0), .val (.int x3), .val (.int x4), .val (.int x5), .val (.int p4), .val (.int x1), .val (.int x2), .val (.long x6), .second, .val (.long x7), .second, .unset, .unset, .unset] [(.int (if x5 = (0 : Int32) then (1 : Int32) else (0 : Int32)))])
          simp only [if_pos hc150] at J150
          exact J150
        · skip
          refine own_go (fun _ => XS.icmpYes X0.here hx rfl (pc0 := 150) (pc' := 161) rfl (hb hby at_150) rfl (feq hc150).2 (by decide) (by decide)) ?_
          show GG _ _ _ _ _ _ _ s₁ (mkF m 161 #[.val (.int p0), .val (.int x3), .val (.int x4), .val (.int x5), .val (.int p4), .val (.int x1), .val (.int x2), .val (.long x6), .second, .val (.long x7), .second, .unset, .unset, .unset] [])
          refine own_go (fun _ => XS.iconst X0.here hx rfl (hb hby at_161)) ?_
          show GG _ _ _ _ _ _ _ s₁ (mkF m 162 #[.val (.int p0), .val (.int x3), .val (.int x4), .val (.int x5), .val (.int p4), .val (.int x1), .val (.int x2), .val (.long x6), .second, .val (.long x7), .second, .unset, .unset, .unset] [(.int (0 : Int32))])
          simp only [if_neg hc150] at J150
          exact J150
      show GG _ _ _ _ _ _ _ s₁ (mkF m 162 #[.val (.int p0), .val (.int x3), .val (.int x4), .val (.int x5), .val (.int p4), .val (.int x1), .val (.int x2), .val (.long x6), .second, .val (.long x7), .second, .unset, .unset, .unset] [(.int (if x4 = (p0 + (1 : Int32)) then (if x5 = (0 : Int32) then (1 : Int32) else (0 : Int32)) else (0 : Int32)))])
      refine own_go (fun _ => XS.istore X0.here hx rfl (hb hby at_162) rfl (l' := #[.val (.int p0), .val (.int x3), .val (.int x4), .val (.int x5), .val (.int p4), .val (.int x1), .val (.int x2), .val (.long x6), .second, .val (.long x7), .second, .val (.int (if x4 = (p0 + (1 : Int32)) then (if x5 = (0 : Int32) then (1 : Int32) else (0 : Int32)) else (0 : Int32))), .unset, .unset]) rfl) ?_
      show GG _ _ _ _ _ _ _ s₁ (mkF m 164 #[.val (.int p0), .val (.int x3), .val (.int x4), .val (.int x5), .val (.int p4), .val (.int x1), .val (.int x2), .val (.long x6), .second, .val (.long x7), .second, .val (.int (if x4 = (p0 + (1 : Int32)) then (if x5 = (0 : Int32) then (1 : Int32) else (0 : Int32)) else (0 : Int32))), .unset, .unset] [])
      simp only [if_pos hc121] at J121
      exact J121
    · skip
      refine own_go (fun _ => XS.icmpNo X0.here hx rfl (hb hby at_121) rfl (feq hc121).1) ?_
      show GG _ _ _ _ _ _ _ s₁ (mkF m 124 #[.val (.int p0), .val (.int x3), .val (.int x4), .val (.int x5), .val (.int p4), .val (.int x1), .val (.int x2), .val (.long x6), .second, .val (.long x7), .second, .unset, .unset, .unset] [])
      refine own_go (fun _ => XS.iloadN X0.here hx rfl (hb hby at_124) rfl) ?_
      show GG _ _ _ _ _ _ _ s₁ (mkF m 125 #[.val (.int p0), .val (.int x3), .val (.int x4), .val (.int x5), .val (.int p4), .val (.int x1), .val (.int x2), .val (.long x6), .second, .val (.long x7), .second, .unset, .unset, .unset] [(.int x4)])
      refine own_go (fun _ => XS.iloadN X0.here hx rfl (hb hby at_125) rfl) ?_
      show GG _ _ _ _ _ _ _ s₁ (mkF m 126 #[.val (.int p0), .val (.int x3), .val (.int x4), .val (.int x5), .val (.int p4), .val (.int x1), .val (.int x2), .val (.long x6), .second, .val (.long x7), .second, .unset, .unset, .unset] [(.int p0), (.int x4)])
      refine own_join (g' := (mkF m 141 #[.val (.int p0), .val (.int x3), .val (.int x4), .val (.int x5), .val (.int p4), .val (.int x1), .val (.int x2), .val (.long x6), .second, .val (.long x7), .second, .unset, .unset, .unset] [(.int (if x4 = p0 then (if x5 = (x3 + (1 : Int32)) then (1 : Int32) else (0 : Int32)) else (0 : Int32)))])) (fun J126 => ?_) ?_
      · by_cases hc126 : x4 = p0
        · skip
          refine own_go (fun _ => XS.icmpNo X0.here hx rfl (hb hby at_126) rfl (teq hc126).2) ?_
          show GG _ _ _ _ _ _ _ s₁ (mkF m 129 #[.val (.int p0), .val (.int x3), .val (.int x4), .val (.int x5), .val (.int p4), .val (.int x1), .val (.int x2), .val (.long x6), .second, .val (.long x7), .second, .unset, .unset, .unset] [])
          refine own_go (fun _ => XS.iloadN X0.here hx rfl (hb hby at_129) rfl) ?_
          show GG _ _ _ _ _ _ _ s₁ (mkF m 130 #[.val (.int p0), .val (.int x3), .val (.int x4), .val (.int x5), .val (.int p4), .val (.int x1), .val (.int x2), .val (.long x6), .second, .val (.long x7), .second, .unset, .unset, .unset] [(.int x5)])
          refine own_go (fun _ => XS.iloadN X0.here hx rfl (hb hby at_130) rfl) ?_
          show GG _ _ _ _ _ _ _ s₁ (mkF m 131 #[.val (.int p0), .val (.int x3), .val (.int x4), .val (.int x5), .val (.int p4), .val (.int x1), .val (.int x2), .val (.long x6), .second, .val (.long x7), .second, .unset, .unset, .unset] [(.int x3), (.int x5)])
          refine own_go (fun _ => XS.iconst X0.here hx rfl (hb hby at_131)) ?_
          show GG _ _ _ _ _ _ _ s₁ (mkF m 132 #[.val (.int p0), .val (.int x3), .val (.int x4), .val (.int x5), .val (.int p4), .val (.int x1), .val (.int x2), .val (.long x6), .second, .val (.long x7), .second, .unset, .unset, .unset] [(.int (1 : Int32)), (.int x3), (.int x5)])
          refine own_go (fun _ => XS.iadd X0.here hx rfl (hb hby at_132) rfl) ?_
          show GG _ _ _ _ _ _ _ s₁ (mkF m 133 #[.val (.int p0), .val (.int x3), .val (.int x4), .val (.int x5), .val (.int p4), .val (.int x1), .val (.int x2), .val (.long x6), .second, .val (.long x7), .second, .unset, .unset, .unset] [(.int (x3 + (1 : Int32))), (.int x5)])
          refine own_join (g' := (mkF m 141 #[.val (.int p0), .val (.int x3), .val (.int x4), .val (.int x5), .val (.int p4), .val (.int x1), .val (.int x2), .val (.long x6), .second, .val (.long x7), .second, .unset, .unset, .unset] [(.int (if x5 = (x3 + (1 : Int32)) then (1 : Int32) else (0 : Int32)))])) (fun J133 => ?_) ?_
          · by_cases hc133 : x5 = (x3 + (1 : Int32))
            · skip
              refine own_go (fun _ => XS.icmpNo X0.here hx rfl (hb hby at_133) rfl (teq hc133).2) ?_
              show GG _ _ _ _ _ _ _ s₁ (mkF m 136 #[.val (.int p0), .val (.int x3), .val (.int x4), .val (.int x5), .val (.int p4), .val (.int x1), .val (.int x2), .val (.long x6), .second, .val (.long x7), .second, .unset, .unset, .unset] [])
              refine own_go (fun _ => XS.iconst X0.here hx rfl (hb hby at_136)) ?_
              show GG _ _ _ _ _ _ _ s₁ (mkF m 137 #[.val (.int p0), .val (.int x3), .val (.int x4), .val (.int x5), .val (.int p4), .val (.int x1), .val (.int x2), .val (.long x6), .second, .val (.long x7), .second, .unset, .unset, .unset] [(.int (1 : Int32))])
              refine own_go (fun _ => XS.goto X0.here hx rfl (pc0 := 137) (pc' := 141) rfl (hb hby at_137) (by decide) (by decide)) ?_
              show GG _ _ _ _ _ _ _ s₁ (mkF m 141 #[.val (.int p0), .val (.int x3), .val (.int x4), .val (.int x5), .val (.int p4), .val (.int x1), .val (.int x2), .val (.long x6), .second, .val (.long x7), .second, .unset, .unset, .unset] [(.int (1 : Int32))])
              simp only [if_pos hc133] at J133
              exact J133
            · skip
              refine own_go (fun _ => XS.icmpYes X0.here hx rfl (pc0 := 133) (pc' := 140) rfl (hb hby at_133) rfl (feq hc133).2 (by decide) (by decide)) ?_
              show GG _ _ _ _ _ _ _ s₁ (mkF m 140 #[.val (.int p0), .val (.int x3), .val (.int x4), .val (.int x5), .val (.int p4), .val (.int x1), .val (.int x2), .val (.long x6), .second, .val (.long x7), .second, .unset, .unset, .unset] [])
              refine own_go (fun _ => XS.iconst X0.here hx rfl (hb hby at_140)) ?_
              show GG _ _ _ _ _ _ _ s₁ (mkF m 141 #[.val (.int p0), .val (.int x3), .val (.int x4), .val (.int x5), .val (.int p4), .val (.int x1), .val (.int x2), .val (.long x6), .second, .val (.long x7), .second, .unset, .unset, .unset] [(.int (0 : Int32))])
              simp only [if_neg hc133] at J133
              exact J133
          show GG _ _ _ _ _ _ _ s₁ (mkF m 141 #[.val (.int p0), .val (.int x3), .val (.int x4), .val (.int x5), .val (.int p4), .val (.int x1), .val (.int x2), .val (.long x6), .second, .val (.long x7), .second, .unset, .unset, .unset] [(.int (if x5 = (x3 + (1 : Int32)) then (1 : Int32) else (0 : Int32)))])
          simp only [if_pos hc126] at J126
          exact J126
        · skip
          refine own_go (fun _ => XS.icmpYes X0.here hx rfl (pc0 := 126) (pc' := 140) rfl (hb hby at_126) rfl (feq hc126).2 (by decide) (by decide)) ?_
          show GG _ _ _ _ _ _ _ s₁ (mkF m 140 #[.val (.int p0), .val (.int x3), .val (.int x4), .val (.int x5), .val (.int p4), .val (.int x1), .val (.int x2), .val (.long x6), .second, .val (.long x7), .second, .unset, .unset, .unset] [])
          refine own_go (fun _ => XS.iconst X0.here hx rfl (hb hby at_140)) ?_
          show GG _ _ _ _ _ _ _ s₁ (mkF m 141 #[.val (.int p0), .val (.int x3), .val (.int x4), .val (.int x5), .val (.int p4), .val (.int x1), .val (.int x2), .val (.long x6), .second, .val (.long x7), .second, .unset, .unset, .unset] [(.int (0 : Int32))])
          simp only [if_neg hc126] at J126
          exact J126
      show GG _ _ _ _ _ _ _ s₁ (mkF m 141 #[.val (.int p0), .val (.int x3), .val (.int x4), .val (.int x5), .val (.int p4), .val (.int x1), .val (.int x2), .val (.long x6), .second, .val (.long x7), .second, .unset, .unset, .unset] [(.int (if x4 = p0 then (if x5 = (x3 + (1 : Int32)) then (1 : Int32) else (0 : Int32)) else (0 : Int32)))])
      refine own_go (fun _ => XS.istore X0.here hx rfl (hb hby at_141) rfl (l' := #[.val (.int p0), .val (.int x3), .val (.int x4), .val (.int x5), .val (.int p4), .val (.int x1), .val (.int x2), .val (.long x6), .second, .val (.long x7), .second, .val (.int (if x4 = p0 then (if x5 = (x3 + (1 : Int32)) then (1 : Int32) else (0 : Int32)) else (0 : Int32))), .unset, .unset]) rfl) ?_
      show GG _ _ _ _ _ _ _ s₁ (mkF m 143 #[.val (.int p0), .val (.int x3), .val (.int x4), .val (.int x5), .val (.int p4), .val (.int x1), .val (.int x2), .val (.long x6), .second, .val (.long x7), .second, .val (.int (if x4 = p0 then (if x5 = (x3 + (1 : Int32)) then (1 : Int32) else (0 : Int32)) else (0 : Int32))), .unset, .unset] [])
      refine own_go (fun _ => XS.goto X0.here hx rfl (pc0 := 143) (pc' := 164) rfl (hb hby at_143) (by decide) (by decide)) ?_
      show GG _ _ _ _ _ _ _ s₁ (mkF m 164 #[.val (.int p0), .val (.int x3), .val (.int x4), .val (.int x5), .val (.int p4), .val (.int x1), .val (.int x2), .val (.long x6), .second, .val (.long x7), .second, .val (.int (if x4 = p0 then (if x5 = (x3 + (1 : Int32)) then (1 : Int32) else (0 : Int32)) else (0 : Int32))), .unset, .unset] [])
      simp only [if_neg hc121] at J121
      exact J121
  show GG _ _ _ _ _ _ _ s₁ (mkF m 164 #[.val (.int p0), .val (.int x3), .val (.int x4), .val (.int x5), .val (.int p4), .val (.int x1), .val (.int x2), .val (.long x6), .second, .val (.long x7), .second, .val (.int (if x3 = (-1 : Int32) then (if x4 = (p0 + (1 : Int32)) then (if x5 = (0 : Int32) then (1 : Int32) else (0 : Int32)) else (0 : Int32)) else (if x4 = p0 then (if x5 = (x3 + (1 : Int32)) then (1 : Int32) else (0 : Int32)) else (0 : Int32)))), .unset, .unset] [])
  generalize hx8 : (if x3 = (-1 : Int32) then (if x4 = (p0 + (1 : Int32)) then (if x5 = (0 : Int32) then (1 : Int32) else (0 : Int32)) else (0 : Int32)) else (if x4 = p0 then (if x5 = (x3 + (1 : Int32)) then (1 : Int32) else (0 : Int32)) else (0 : Int32))) = x8
  refine own_go (fun _ => XS.iloadN X0.here hx rfl (hb hby at_164) rfl) ?_
  show GG _ _ _ _ _ _ _ s₁ (mkF m 165 #[.val (.int p0), .val (.int x3), .val (.int x4), .val (.int x5), .val (.int p4), .val (.int x1), .val (.int x2), .val (.long x6), .second, .val (.long x7), .second, .val (.int x8), .unset, .unset] [(.int x4)])
  refine own_go (fun _ => XS.i2l X0.here hx rfl (hb hby at_165) rfl) ?_
  show GG _ _ _ _ _ _ _ s₁ (mkF m 166 #[.val (.int p0), .val (.int x3), .val (.int x4), .val (.int x5), .val (.int p4), .val (.int x1), .val (.int x2), .val (.long x6), .second, .val (.long x7), .second, .val (.int x8), .unset, .unset] [(.long (x4.toInt64))])
  refine own_go (fun _ => X0.ldc2Long hx hown (mvT hZ (hw _ (List.mem_of_getElem? (i := 0) rfl))) (g := (mkF m 166 #[.val (.int p0), .val (.int x3), .val (.int x4), .val (.int x5), .val (.int p4), .val (.int x1), .val (.int x2), .val (.long x6), .second, .val (.long x7), .second, .val (.int x8), .unset, .unset] [(.long (x4.toInt64))])) rfl (hb hby at_166) _) ?_
  show GG _ _ _ _ _ _ _ s₁ (mkF m 169 #[.val (.int p0), .val (.int x3), .val (.int x4), .val (.int x5), .val (.int p4), .val (.int x1), .val (.int x2), .val (.long x6), .second, .val (.long x7), .second, .val (.int x8), .unset, .unset] [(.long (4294967295 : Int64)), (.long (x4.toInt64))])
  refine own_go (fun _ => XS.land X0.here hx rfl (hb hby at_169) rfl) ?_
  show GG _ _ _ _ _ _ _ s₁ (mkF m 170 #[.val (.int p0), .val (.int x3), .val (.int x4), .val (.int x5), .val (.int p4), .val (.int x1), .val (.int x2), .val (.long x6), .second, .val (.long x7), .second, .val (.int x8), .unset, .unset] [(.long ((x4.toInt64) &&& (4294967295 : Int64)))])
  refine own_go (fun _ => XS.iloadN X0.here hx rfl (hb hby at_170) rfl) ?_
  show GG _ _ _ _ _ _ _ s₁ (mkF m 171 #[.val (.int p0), .val (.int x3), .val (.int x4), .val (.int x5), .val (.int p4), .val (.int x1), .val (.int x2), .val (.long x6), .second, .val (.long x7), .second, .val (.int x8), .unset, .unset] [(.int p0), (.long ((x4.toInt64) &&& (4294967295 : Int64)))])
  refine own_go (fun _ => XS.i2l X0.here hx rfl (hb hby at_171) rfl) ?_
  show GG _ _ _ _ _ _ _ s₁ (mkF m 172 #[.val (.int p0), .val (.int x3), .val (.int x4), .val (.int x5), .val (.int p4), .val (.int x1), .val (.int x2), .val (.long x6), .second, .val (.long x7), .second, .val (.int x8), .unset, .unset] [(.long (p0.toInt64)), (.long ((x4.toInt64) &&& (4294967295 : Int64)))])
  refine own_go (fun _ => X0.ldc2Long hx hown (mvT hZ (hw _ (List.mem_of_getElem? (i := 0) rfl))) (g := (mkF m 172 #[.val (.int p0), .val (.int x3), .val (.int x4), .val (.int x5), .val (.int p4), .val (.int x1), .val (.int x2), .val (.long x6), .second, .val (.long x7), .second, .val (.int x8), .unset, .unset] [(.long (p0.toInt64)), (.long ((x4.toInt64) &&& (4294967295 : Int64)))])) rfl (hb hby at_172) _) ?_
  show GG _ _ _ _ _ _ _ s₁ (mkF m 175 #[.val (.int p0), .val (.int x3), .val (.int x4), .val (.int x5), .val (.int p4), .val (.int x1), .val (.int x2), .val (.long x6), .second, .val (.long x7), .second, .val (.int x8), .unset, .unset] [(.long (4294967295 : Int64)), (.long (p0.toInt64)), (.long ((x4.toInt64) &&& (4294967295 : Int64)))])
  refine own_go (fun _ => XS.land X0.here hx rfl (hb hby at_175) rfl) ?_
  show GG _ _ _ _ _ _ _ s₁ (mkF m 176 #[.val (.int p0), .val (.int x3), .val (.int x4), .val (.int x5), .val (.int p4), .val (.int x1), .val (.int x2), .val (.long x6), .second, .val (.long x7), .second, .val (.int x8), .unset, .unset] [(.long ((p0.toInt64) &&& (4294967295 : Int64))), (.long ((x4.toInt64) &&& (4294967295 : Int64)))])
  refine own_go (fun _ => XS.lcmp X0.here hx rfl (hb hby at_176) rfl) ?_
  show GG _ _ _ _ _ _ _ s₁ (mkF m 177 #[.val (.int p0), .val (.int x3), .val (.int x4), .val (.int x5), .val (.int p4), .val (.int x1), .val (.int x2), .val (.long x6), .second, .val (.long x7), .second, .val (.int x8), .unset, .unset] [(.int (lcmpW ((x4.toInt64) &&& (4294967295 : Int64)) ((p0.toInt64) &&& (4294967295 : Int64))))])
  refine own_join (g' := (mkF m 185 #[.val (.int p0), .val (.int x3), .val (.int x4), .val (.int x5), .val (.int p4), .val (.int x1), .val (.int x2), .val (.long x6), .second, .val (.long x7), .second, .val (.int x8), .unset, .unset] [(.int (if ((p0.toInt64) &&& (4294967295 : Int64)) < ((x4.toInt64) &&& (4294967295 : Int64)) then (1 : Int32) else (0 : Int32)))])) (fun J177 => ?_) ?_
  · by_cases hc177 : ((p0.toInt64) &&& (4294967295 : Int64)) < ((x4.toInt64) &&& (4294967295 : Int64))
    · skip
      refine own_go (fun _ => XS.ifNo X0.here hx rfl (hb hby at_177) rfl ((if0 _ _).trans (tlt ((lw_gt _ _).mpr hc177)).2.2.2)) ?_
      show GG _ _ _ _ _ _ _ s₁ (mkF m 180 #[.val (.int p0), .val (.int x3), .val (.int x4), .val (.int x5), .val (.int p4), .val (.int x1), .val (.int x2), .val (.long x6), .second, .val (.long x7), .second, .val (.int x8), .unset, .unset] [])
      refine own_go (fun _ => XS.iconst X0.here hx rfl (hb hby at_180)) ?_
      show GG _ _ _ _ _ _ _ s₁ (mkF m 181 #[.val (.int p0), .val (.int x3), .val (.int x4), .val (.int x5), .val (.int p4), .val (.int x1), .val (.int x2), .val (.long x6), .second, .val (.long x7), .second, .val (.int x8), .unset, .unset] [(.int (1 : Int32))])
      refine own_go (fun _ => XS.goto X0.here hx rfl (pc0 := 181) (pc' := 185) rfl (hb hby at_181) (by decide) (by decide)) ?_
      show GG _ _ _ _ _ _ _ s₁ (mkF m 185 #[.val (.int p0), .val (.int x3), .val (.int x4), .val (.int x5), .val (.int p4), .val (.int x1), .val (.int x2), .val (.long x6), .second, .val (.long x7), .second, .val (.int x8), .unset, .unset] [(.int (1 : Int32))])
      simp only [if_pos hc177] at J177
      exact J177
    · skip
      refine own_go (fun _ => XS.ifYes X0.here hx rfl (pc0 := 177) (pc' := 184) rfl (hb hby at_177) rfl ((if0 _ _).trans (flt (fun q => hc177 ((lw_gt _ _).mp q))).2.2.2) (by decide) (by decide)) ?_
      show GG _ _ _ _ _ _ _ s₁ (mkF m 184 #[.val (.int p0), .val (.int x3), .val (.int x4), .val (.int x5), .val (.int p4), .val (.int x1), .val (.int x2), .val (.long x6), .second, .val (.long x7), .second, .val (.int x8), .unset, .unset] [])
      refine own_go (fun _ => XS.iconst X0.here hx rfl (hb hby at_184)) ?_
      show GG _ _ _ _ _ _ _ s₁ (mkF m 185 #[.val (.int p0), .val (.int x3), .val (.int x4), .val (.int x5), .val (.int p4), .val (.int x1), .val (.int x2), .val (.long x6), .second, .val (.long x7), .second, .val (.int x8), .unset, .unset] [(.int (0 : Int32))])
      simp only [if_neg hc177] at J177
      exact J177
  show GG _ _ _ _ _ _ _ s₁ (mkF m 185 #[.val (.int p0), .val (.int x3), .val (.int x4), .val (.int x5), .val (.int p4), .val (.int x1), .val (.int x2), .val (.long x6), .second, .val (.long x7), .second, .val (.int x8), .unset, .unset] [(.int (if ((p0.toInt64) &&& (4294967295 : Int64)) < ((x4.toInt64) &&& (4294967295 : Int64)) then (1 : Int32) else (0 : Int32)))])
  generalize hx9 : (if ((p0.toInt64) &&& (4294967295 : Int64)) < ((x4.toInt64) &&& (4294967295 : Int64)) then (1 : Int32) else (0 : Int32)) = x9
  refine own_go (fun _ => XS.istore X0.here hx rfl (hb hby at_185) rfl (l' := #[.val (.int p0), .val (.int x3), .val (.int x4), .val (.int x5), .val (.int p4), .val (.int x1), .val (.int x2), .val (.long x6), .second, .val (.long x7), .second, .val (.int x8), .val (.int x9), .unset]) rfl) ?_
  show GG _ _ _ _ _ _ _ s₁ (mkF m 187 #[.val (.int p0), .val (.int x3), .val (.int x4), .val (.int x5), .val (.int p4), .val (.int x1), .val (.int x2), .val (.long x6), .second, .val (.long x7), .second, .val (.int x8), .val (.int x9), .unset] [])
  refine own_go (fun _ => XS.iload X0.here hx rfl (hb hby at_187) rfl) ?_
  show GG _ _ _ _ _ _ _ s₁ (mkF m 189 #[.val (.int p0), .val (.int x3), .val (.int x4), .val (.int x5), .val (.int p4), .val (.int x1), .val (.int x2), .val (.long x6), .second, .val (.long x7), .second, .val (.int x8), .val (.int x9), .unset] [(.int x8)])
  refine own_join (g' := (mkF m 207 #[.val (.int p0), .val (.int x3), .val (.int x4), .val (.int x5), .val (.int p4), .val (.int x1), .val (.int x2), .val (.long x6), .second, .val (.long x7), .second, .val (.int x8), .val (.int x9), .unset] [(.int (if x8 = (0 : Int32) then (if x9 = (0 : Int32) then (0 : Int32) else (if x5 = (1 : Int32) then (1 : Int32) else (0 : Int32))) else (1 : Int32)))])) (fun J189 => ?_) ?_
  · by_cases hc189 : x8 = (0 : Int32)
    · skip
      refine own_go (fun _ => XS.ifNo X0.here hx rfl (hb hby at_189) rfl ((if0 _ _).trans (teq hc189).2)) ?_
      show GG _ _ _ _ _ _ _ s₁ (mkF m 192 #[.val (.int p0), .val (.int x3), .val (.int x4), .val (.int x5), .val (.int p4), .val (.int x1), .val (.int x2), .val (.long x6), .second, .val (.long x7), .second, .val (.int x8), .val (.int x9), .unset] [])
      refine own_go (fun _ => XS.iload X0.here hx rfl (hb hby at_192) rfl) ?_
      show GG _ _ _ _ _ _ _ s₁ (mkF m 194 #[.val (.int p0), .val (.int x3), .val (.int x4), .val (.int x5), .val (.int p4), .val (.int x1), .val (.int x2), .val (.long x6), .second, .val (.long x7), .second, .val (.int x8), .val (.int x9), .unset] [(.int x9)])
      refine own_join (g' := (mkF m 207 #[.val (.int p0), .val (.int x3), .val (.int x4), .val (.int x5), .val (.int p4), .val (.int x1), .val (.int x2), .val (.long x6), .second, .val (.long x7), .second, .val (.int x8), .val (.int x9), .unset] [(.int (if x9 = (0 : Int32) then (0 : Int32) else (if x5 = (1 : Int32) then (1 : Int32) else (0 : Int32))))])) (fun J194 => ?_) ?_
      · by_cases hc194 : x9 = (0 : Int32)
        · skip
          refine own_go (fun _ => XS.ifYes X0.here hx rfl (pc0 := 194) (pc' := 206) rfl (hb hby at_194) rfl ((if0 _ _).trans (teq hc194).1) (by decide) (by decide)) ?_
          show GG _ _ _ _ _ _ _ s₁ (mkF m 206 #[.val (.int p0), .val (.int x3), .val (.int x4), .val (.int x5), .val (.int p4), .val (.int x1), .val (.int x2), .val (.long x6), .second, .val (.long x7), .second, .val (.int x8), .val (.int x9), .unset] [])
          refine own_go (fun _ => XS.iconst X0.here hx rfl (hb hby at_206)) ?_
          show GG _ _ _ _ _ _ _ s₁ (mkF m 207 #[.val (.int p0), .val (.int x3), .val (.int x4), .val (.int x5), .val (.int p4), .val (.int x1), .val (.int x2), .val (.long x6), .second, .val (.long x7), .second, .val (.int x8), .val (.int x9), .unset] [(.int (0 : Int32))])
          simp only [if_pos hc194] at J194
          exact J194
        · skip
          refine own_go (fun _ => XS.ifNo X0.here hx rfl (hb hby at_194) rfl ((if0 _ _).trans (feq hc194).1)) ?_
          show GG _ _ _ _ _ _ _ s₁ (mkF m 197 #[.val (.int p0), .val (.int x3), .val (.int x4), .val (.int x5), .val (.int p4), .val (.int x1), .val (.int x2), .val (.long x6), .second, .val (.long x7), .second, .val (.int x8), .val (.int x9), .unset] [])
          refine own_go (fun _ => XS.iloadN X0.here hx rfl (hb hby at_197) rfl) ?_
          show GG _ _ _ _ _ _ _ s₁ (mkF m 198 #[.val (.int p0), .val (.int x3), .val (.int x4), .val (.int x5), .val (.int p4), .val (.int x1), .val (.int x2), .val (.long x6), .second, .val (.long x7), .second, .val (.int x8), .val (.int x9), .unset] [(.int x5)])
          refine own_go (fun _ => XS.iconst X0.here hx rfl (hb hby at_198)) ?_
          show GG _ _ _ _ _ _ _ s₁ (mkF m 199 #[.val (.int p0), .val (.int x3), .val (.int x4), .val (.int x5), .val (.int p4), .val (.int x1), .val (.int x2), .val (.long x6), .second, .val (.long x7), .second, .val (.int x8), .val (.int x9), .unset] [(.int (1 : Int32)), (.int x5)])
          refine own_join (g' := (mkF m 207 #[.val (.int p0), .val (.int x3), .val (.int x4), .val (.int x5), .val (.int p4), .val (.int x1), .val (.int x2), .val (.long x6), .second, .val (.long x7), .second, .val (.int x8), .val (.int x9), .unset] [(.int (if x5 = (1 : Int32) then (1 : Int32) else (0 : Int32)))])) (fun J199 => ?_) ?_
          · by_cases hc199 : x5 = (1 : Int32)
            · skip
              refine own_go (fun _ => XS.icmpNo X0.here hx rfl (hb hby at_199) rfl (teq hc199).2) ?_
              show GG _ _ _ _ _ _ _ s₁ (mkF m 202 #[.val (.int p0), .val (.int x3), .val (.int x4), .val (.int x5), .val (.int p4), .val (.int x1), .val (.int x2), .val (.long x6), .second, .val (.long x7), .second, .val (.int x8), .val (.int x9), .unset] [])
              refine own_go (fun _ => XS.iconst X0.here hx rfl (hb hby at_202)) ?_
              show GG _ _ _ _ _ _ _ s₁ (mkF m 203 #[.val (.int p0), .val (.int x3), .val (.int x4), .val (.int x5), .val (.int p4), .val (.int x1), .val (.int x2), .val (.long x6), .second, .val (.long x7), .second, .val (.int x8), .val (.int x9), .unset] [(.int (1 : Int32))])
              refine own_go (fun _ => XS.goto X0.here hx rfl (pc0 := 203) (pc' := 207) rfl (hb hby at_203) (by decide) (by decide)) ?_
              show GG _ _ _ _ _ _ _ s₁ (mkF m 207 #[.val (.int p0), .val (.int x3), .val (.int x4), .val (.int x5), .val (.int p4), .val (.int x1), .val (.int x2), .val (.long x6), .second, .val (.long x7), .second, .val (.int x8), .val (.int x9), .unset] [(.int (1 : Int32))])
              simp only [if_pos hc199] at J199
              exact J199
            · skip
              refine own_go (fun _ => XS.icmpYes X0.here hx rfl (pc0 := 199) (pc' := 206) rfl (hb hby at_199) rfl (feq hc199).2 (by decide) (by decide)) ?_
              show GG _ _ _ _ _ _ _ s₁ (mkF m 206 #[.val (.int p0), .val (.int x3), .val (.int x4), .val (.int x5), .val (.int p4), .val (.int x1), .val (.int x2), .val (.long x6), .second, .val (.long x7), .second, .val (.int x8), .val (.int x9), .unset] [])
              refine own_go (fun _ => XS.iconst X0.here hx rfl (hb hby at_206)) ?_
              show GG _ _ _ _ _ _ _ s₁ (mkF m 207 #[.val (.int p0), .val (.int x3), .val (.int x4), .val (.int x5), .val (.int p4), .val (.int x1), .val (.int x2), .val (.long x6), .second, .val (.long x7), .second, .val (.int x8), .val (.int x9), .unset] [(.int (0 : Int32))])
              simp only [if_neg hc199] at J199
              exact J199
          show GG _ _ _ _ _ _ _ s₁ (mkF m 207 #[.val (.int p0), .val (.int x3), .val (.int x4), .val (.int x5), .val (.int p4), .val (.int x1), .val (.int x2), .val (.long x6), .second, .val (.long x7), .second, .val (.int x8), .val (.int x9), .unset] [(.int (if x5 = (1 : Int32) then (1 : Int32) else (0 : Int32)))])
          simp only [if_neg hc194] at J194
          exact J194
      show GG _ _ _ _ _ _ _ s₁ (mkF m 207 #[.val (.int p0), .val (.int x3), .val (.int x4), .val (.int x5), .val (.int p4), .val (.int x1), .val (.int x2), .val (.long x6), .second, .val (.long x7), .second, .val (.int x8), .val (.int x9), .unset] [(.int (if x9 = (0 : Int32) then (0 : Int32) else (if x5 = (1 : Int32) then (1 : Int32) else (0 : Int32))))])
      simp only [if_pos hc189] at J189
      exact J189
    · skip
      refine own_go (fun _ => XS.ifYes X0.here hx rfl (pc0 := 189) (pc' := 202) rfl (hb hby at_189) rfl ((if0 _ _).trans (feq hc189).2) (by decide) (by decide)) ?_
      show GG _ _ _ _ _ _ _ s₁ (mkF m 202 #[.val (.int p0), .val (.int x3), .val (.int x4), .val (.int x5), .val (.int p4), .val (.int x1), .val (.int x2), .val (.long x6), .second, .val (.long x7), .second, .val (.int x8), .val (.int x9), .unset] [])
      refine own_go (fun _ => XS.iconst X0.here hx rfl (hb hby at_202)) ?_
      show GG _ _ _ _ _ _ _ s₁ (mkF m 203 #[.val (.int p0), .val (.int x3), .val (.int x4), .val (.int x5), .val (.int p4), .val (.int x1), .val (.int x2), .val (.long x6), .second, .val (.long x7), .second, .val (.int x8), .val (.int x9), .unset] [(.int (1 : Int32))])
      refine own_go (fun _ => XS.goto X0.here hx rfl (pc0 := 203) (pc' := 207) rfl (hb hby at_203) (by decide) (by decide)) ?_
      show GG _ _ _ _ _ _ _ s₁ (mkF m 207 #[.val (.int p0), .val (.int x3), .val (.int x4), .val (.int x5), .val (.int p4), .val (.int x1), .val (.int x2), .val (.long x6), .second, .val (.long x7), .second, .val (.int x8), .val (.int x9), .unset] [(.int (1 : Int32))])
      simp only [if_neg hc189] at J189
      exact J189
  show GG _ _ _ _ _ _ _ s₁ (mkF m 207 #[.val (.int p0), .val (.int x3), .val (.int x4), .val (.int x5), .val (.int p4), .val (.int x1), .val (.int x2), .val (.long x6), .second, .val (.long x7), .second, .val (.int x8), .val (.int x9), .unset] [(.int (if x8 = (0 : Int32) then (if x9 = (0 : Int32) then (0 : Int32) else (if x5 = (1 : Int32) then (1 : Int32) else (0 : Int32))) else (1 : Int32)))])
  generalize hx10 : (if x8 = (0 : Int32) then (if x9 = (0 : Int32) then (0 : Int32) else (if x5 = (1 : Int32) then (1 : Int32) else (0 : Int32))) else (1 : Int32)) = x10
  refine own_go (fun _ => XS.istore X0.here hx rfl (hb hby at_207) rfl (l' := #[.val (.int p0), .val (.int x3), .val (.int x4), .val (.int x5), .val (.int p4), .val (.int x1), .val (.int x2), .val (.long x6), .second, .val (.long x7), .second, .val (.int x8), .val (.int x9), .val (.int x10)]) rfl) ?_
  show GG _ _ _ _ _ _ _ s₁ (mkF m 209 #[.val (.int p0), .val (.int x3), .val (.int x4), .val (.int x5), .val (.int p4), .val (.int x1), .val (.int x2), .val (.long x6), .second, .val (.long x7), .second, .val (.int x8), .val (.int x9), .val (.int x10)] [])
  refine own_go (fun _ => XS.lload X0.here hx rfl (hb hby at_209) rfl) ?_
  show GG _ _ _ _ _ _ _ s₁ (mkF m 211 #[.val (.int p0), .val (.int x3), .val (.int x4), .val (.int x5), .val (.int p4), .val (.int x1), .val (.int x2), .val (.long x6), .second, .val (.long x7), .second, .val (.int x8), .val (.int x9), .val (.int x10)] [(.long x7)])
  refine own_go (fun _ => XS.lload X0.here hx rfl (hb hby at_211) rfl) ?_
  show GG _ _ _ _ _ _ _ s₁ (mkF m 213 #[.val (.int p0), .val (.int x3), .val (.int x4), .val (.int x5), .val (.int p4), .val (.int x1), .val (.int x2), .val (.long x6), .second, .val (.long x7), .second, .val (.int x8), .val (.int x9), .val (.int x10)] [(.long x6), (.long x7)])
  refine own_callS X0 hx hZ (y := (⟨"com/example/bellwether/bellwether/server/Zxid", "follows", "(JJ)Z"⟩ : MethodName)) 0 hown (hw _ (List.mem_of_getElem? (i := 1) rfl)) (hw _ (List.mem_of_getElem? (i := 2) rfl)) (hw _ (List.mem_of_getElem? (i := 3) rfl)) (hw _ (List.mem_of_getElem? (i := 4) rfl)) (by decide) (argsL := [(.long x7), (.long x6)]) (rest := []) (rm1 l Z a0 hw [] x7 x6 h0 n0 Z0) (by decide) (by decide) (by decide) (by decide) (g := (mkF m 213 #[.val (.int p0), .val (.int x3), .val (.int x4), .val (.int x5), .val (.int p4), .val (.int x1), .val (.int x2), .val (.long x6), .second, .val (.long x7), .second, .val (.int x8), .val (.int x9), .val (.int x10)] [(.long x6), (.long x7)])) rfl (by rw [hml]; rfl) (lenOf pd__JJ_Z_319 rfl) rfl (by show 2 * 0 + _ ≤ _; exact Nat.le_of_eq rfl) (hb hby at_213) e0 ?_
  rintro v11 T11 L11 X11 ⟨rfl, N11q, hh11⟩
  have N11 := Fr.app N0 N11q
  show GG _ _ _ _ _ _ _ T11 (mkF m 216 #[.val (.int p0), .val (.int x3), .val (.int x4), .val (.int x5), .val (.int p4), .val (.int x1), .val (.int x2), .val (.long x6), .second, .val (.long x7), .second, .val (.int x8), .val (.int x9), .val (.int x10)] [(.int (folV x7 x6))])
  refine own_go (fun _ => XS.iload X11.here hx rfl (hb hby at_216) rfl) ?_
  show GG _ _ _ _ _ _ _ T11 (mkF m 218 #[.val (.int p0), .val (.int x3), .val (.int x4), .val (.int x5), .val (.int p4), .val (.int x1), .val (.int x2), .val (.long x6), .second, .val (.long x7), .second, .val (.int x8), .val (.int x9), .val (.int x10)] [(.int x10), (.int (folV x7 x6))])
  have hc218 : (folV x7 x6) = x10 := by rw [← hx10, ← hx9, ← hx8, ← hx7, ← hx6]; exact own_law _ _ _ _
  refine own_go (fun _ => XS.icmpNo X11.here hx rfl (hb hby at_218) rfl (teq hc218).2) ?_
  show GG _ _ _ _ _ _ _ T11 (mkF m 221 #[.val (.int p0), .val (.int x3), .val (.int x4), .val (.int x5), .val (.int p4), .val (.int x1), .val (.int x2), .val (.long x6), .second, .val (.long x7), .second, .val (.int x8), .val (.int x9), .val (.int x10)] [])
  refine own_go (fun _ => XS.iconst X11.here hx rfl (hb hby at_221)) ?_
  show GG _ _ _ _ _ _ _ T11 (mkF m 222 #[.val (.int p0), .val (.int x3), .val (.int x4), .val (.int x5), .val (.int p4), .val (.int x1), .val (.int x2), .val (.long x6), .second, .val (.long x7), .second, .val (.int x8), .val (.int x9), .val (.int x10)] [(.int (1 : Int32))])
  refine own_go (fun _ => XS.goto X11.here hx rfl (pc0 := 222) (pc' := 226) rfl (hb hby at_222) (by decide) (by decide)) ?_
  show GG _ _ _ _ _ _ _ T11 (mkF m 226 #[.val (.int p0), .val (.int x3), .val (.int x4), .val (.int x5), .val (.int p4), .val (.int x1), .val (.int x2), .val (.long x6), .second, .val (.long x7), .second, .val (.int x8), .val (.int x9), .val (.int x10)] [(.int (1 : Int32))])
  refine own_ret X11 hx hlk (t := .boolean) (w := (.int (1 : Int32))) Bd.returns rfl (Or.inl ⟨rfl, by simp, _, rfl⟩) (hb hby at_226) (by decide) (by decide) ?_
  show Q0 Z p0 p1 p2 p3 p4 h0 n0 (some (.int (1 : Int32))) T11.heap _
  rw [hh11]
  exact ⟨rfl, N11⟩
set_option maxRecDepth 65536 in
set_option maxHeartbeats 40000000 in
theorem comes_1 {Post : Tables → Env → Array Value → State → Outcome → State → Prop} (hpost : ∀ tb e args s v u, (limb_1_1.after args s (.returned v) u = true ∧ limb_1_2.after args s (.returned v) u = true ∧ True) → FrameEnd s (.returned v) u (Jvm.fieldLocs frame_1_writes args s ++ Jvm.arrayLocs frame_1_arrays args s ++ Jvm.staticLocs frame_1_statics s) 0 0 → Post tb e args s (.returned v) u) :
    ArmFor flags0 classFile x code maxLocals ret World_1 tables_1 room_1 Calls_1 rest_1 Pre_1 Post := by
  intro l hfl _ _ p e ha hc hk s m args below hf hA hF happ hP
  obtain ⟨hcalls, hrest, hpre⟩ := hP
  obtain ⟨-, -, -, hnamed, -, -, -, hat⟩ := (Spec.applies_iff hf).mp happ
  obtain ⟨hg, hn⟩ := and_e (Cond.before_iff.mp (show (Jvm.Cond.and given_1 narrow_1).before args s = true from hpre))
  obtain ⟨g1, g2⟩ := and_e hg
  obtain ⟨g3, g4⟩ := and_e g2
  obtain ⟨g5, g6⟩ := and_e g4
  obtain ⟨g7, g8⟩ := and_e g6
  obtain ⟨g9, g10⟩ := and_e g8
  obtain ⟨w0, w1, w2, w3, w4, rfl⟩ : ∃ w0 w1 w2 w3 w4 : Value, args = #[w0, w1, w2, w3, w4] := by
    have hs : args.size = 5 := by simpa [Cond.value, given_1] using g1
    obtain ⟨L⟩ := args
    match L, hs with
    | [w0, w1, w2, w3, w4], _ => exact ⟨w0, w1, w2, w3, w4, rfl⟩
  have hw := fun d (hd : d ∈ tables_1) => atoms_spec (ws := Jvm.Cond.code x code maxLocals ret :: tables_1) hat d (List.mem_cons_of_mem _ hd)
  have hfit : Fit s := fun {y c} hc i hi => by
    obtain ⟨ha, rfl⟩ := Array.getElem?_eq_some_iff.mp hc
    have q := List.all_eq_true.mp ((Array.all_eq_true_iff_forall_mem.mp hF) _ (Array.getElem_mem ha)) i (List.mem_range.mpr hi)
    simpa [Array.getElem?_eq_getElem hi] using q
  obtain ⟨i0, ei0⟩ := is_v g3
  obtain rfl : w0 = (.int i0) := Option.some.inj ei0
  obtain ⟨i1, ei1⟩ := is_v g5
  obtain rfl : w1 = (.int i1) := Option.some.inj ei1
  obtain ⟨i2, ei2⟩ := is_v g7
  obtain rfl : w2 = (.int i2) := Option.some.inj ei2
  obtain ⟨i3, ei3⟩ := is_v g9
  obtain rfl : w3 = (.int i3) := Option.some.inj ei3
  obtain ⟨i4, ei4⟩ := is_v g10
  obtain rfl : w4 = (.int i4) := Option.some.inj ei4
  obtain ⟨n, o, h1, h2, h3, _, L, rfl, ⟨rfl, N⟩, hq⟩ := rm0 l s _ hw tables_1 i0 i1 i2 i3 i4 s.heap s.heap.size (Nat.le_refl _)  p e ha hc hk s m _ below hf ((Spec.applies_iff_loose hf).mp happ).1 ⟨rfl, State.Warmed39.refl s, rfl⟩ trivial
  refine ⟨n, _, h1, h2, h3, hpost _ _ _ _ _ _ ⟨Cond.after_iff.mpr rfl, Cond.after_iff.mpr (eq_i res_at (Term.int_eval (1)) rfl), trivial⟩ ⟨hq.1, hq.2.1, (hq.2.2.sift fun y hy => Or.inr (N y hy)).mono (by decide) (by decide)⟩⟩
theorem main_1_1 : Claimed_1_1 := comes_1 fun _ _ _ _ _ _ h hF => ⟨h.1, hF⟩
theorem main_1_2 : Claimed_1_2 := comes_1 fun _ _ _ _ _ _ h hF => ⟨h.2.1, hF⟩
end Jvm.Pilot.@@N@@
namespace Jvm.Pilot.@@N@@
open Jvm Jvm.ClassFile Sem Op Lib Jvm.Free Jvm.Stand Jvm.Pilot.@@N@@.Jvm.D
/-! MADE BY PROGRAM (witnessworld.py) out of the Statement's table words and the real class files: 9 classes; the members and pool entries that the words name. The judged class is class 1, her method 1. -/
namespace start1
open Jvm.ClassFile
def u (s : String) : CpInfo := .utf8 (stringToUtf16 s)
/-- a pool by its gaps: so many unusable entries, then the entry; so many at the end -/
def gap : Nat → List CpInfo → List CpInfo
  | 0, r => r
  | n + 1, r => .unusable :: gap n r
def poolList (es : List (Nat × CpInfo)) (last : Nat) : List CpInfo := es.foldr (fun e r => gap e.1 (e.2 :: r)) (gap last [])
def pool (es : List (Nat × CpInfo)) (last : Nat) : Array CpInfo := ⟨poolList es last⟩
def fileOf (pool : Array CpInfo) (this : Nat) (attrs : Array Attribute := #[]) (ms : Array MethodInfo := #[]) (fl : Nat := 33) (sup : Nat := 0) (ifs : Array Nat := #[]) (fds : Array FieldInfo := #[]) : ClassFile where
  minorVersion := 0
  majorVersion := 65
  constantPool := pool
  accessFlags := fl
  thisClass := this
  superClass := sup
  interfaces := ifs
  fields := fds
  methods := ms
  attributes := attrs
def plain (name : String) (sup : Option ClassId) : Class where
  name := name
  kind := .ordinary
  loader := none
  accessFlags := 33
  super := sup
  interfaces := #[]
  cf := none
  fields := #[]
  methods := #[]
  instanceTypes := #[]
  staticTypes := #[]
  resolved := #[]
  callSites := []
  init := .initialized
  statics := none
  mirror := none

def pool0 : Array CpInfo := pool [(5, u "<init>"), (0, u "()V"), (1, .class_ 10), (1, u "java/lang/Object")] 113

def k0m0 : Method := { name := "<init>", desc := "()V", sig := { parameters := [], returnType := none }, accessFlags := 1, code := none }
/-- java/lang/Object -/
def k0 : Class := { plain "java/lang/Object" none with
  accessFlags := 33
  interfaces := #[]
  cf := some (fileOf pool0 8 #[] #[{ accessFlags := 1, nameIndex := 5, descriptorIndex := 6, attributes := #[] }] 33 0 #[] #[])
  fields := #[]
  methods := #[k0m0]
  instanceTypes := #[]
  staticTypes := #[]
  resolved := Array.replicate 124 none
  statics := none }

def pool1 : Array CpInfo := pool [(2, .class_ 4), (1, u "java/lang/Object"), (0, u "<init>"), (0, u "()V"), (0, .long 4294967295), (1, .methodref 10 11), (0, .class_ 12), (0, .nameAndType 13 14), (0, u "com/example/bellwether/bellwether/server/Zxid"), (0, u "follows"), (0, u "(JJ)Z"), (0, .class_ 16), (0, u "com/example/bellwether/bellwether/server/ZxidFollowsPinLaw"), (2, u "law"), (0, u "(IIIII)Z")] 3

def k1m0 : Method := { name := "<init>", desc := "()V", sig := { parameters := [], returnType := none }, accessFlags := 2, code := none }
def k1c1 : Code := { maxStack := 6, maxLocals := 14, code := code, exceptionTable := #[], attributes := #[] }
def k1m1 : Method := { name := "law", desc := "(IIIII)Z", sig := { parameters := [.int, .int, .int, .int, .int], returnType := some .boolean }, accessFlags := 9, code := some k1c1 }
/-- com/example/bellwether/bellwether/server/ZxidFollowsPinLaw -/
def k1 : Class := { plain "com/example/bellwether/bellwether/server/ZxidFollowsPinLaw" (some 0) with
  accessFlags := 49
  interfaces := #[]
  cf := some (fileOf pool1 15 #[] #[{ accessFlags := 2, nameIndex := 5, descriptorIndex := 6, attributes := #[] }, { accessFlags := 9, nameIndex := 19, descriptorIndex := 20, attributes := #[] }] 49 2 #[] #[])
  fields := #[]
  methods := #[k1m0, k1m1]
  instanceTypes := #[]
  staticTypes := #[]
  resolved := Array.replicate 24 none
  statics := none }

def pool2 : Array CpInfo := pool [(2, .class_ 4), (1, u "java/lang/Object"), (0, u "<init>"), (0, u "()V"), (0, .class_ 8), (0, u "com/example/bellwether/bellwether/server/Zxid"), (0, .long 4294967295), (1, .methodref 7 12), (0, .nameAndType 13 14), (0, u "epoch"), (0, u "(J)J"), (4, .methodref 7 20), (0, .nameAndType 21 14), (0, u "counter"), (0, u "MAX_COUNTER"), (0, u "J"), (5, u "follows"), (0, u "(JJ)Z")] 2

def k2m0 : Method := { name := "<init>", desc := "()V", sig := { parameters := [], returnType := none }, accessFlags := 2, code := none }
def k2c1 : Code := { maxStack := 3, maxLocals := 2, code := prog_123_method_3_code, exceptionTable := #[], attributes := #[] }
def k2m1 : Method := { name := "epoch", desc := "(J)J", sig := { parameters := [.long], returnType := some .long }, accessFlags := 8, code := some k2c1 }
def k2c2 : Code := { maxStack := 4, maxLocals := 2, code := prog_123_method_4_code, exceptionTable := #[], attributes := #[] }
def k2m2 : Method := { name := "counter", desc := "(J)J", sig := { parameters := [.long], returnType := some .long }, accessFlags := 8, code := some k2c2 }
def k2c3 : Code := { maxStack := 6, maxLocals := 4, code := prog_123_method_6_code, exceptionTable := #[], attributes := #[] }
def k2m3 : Method := { name := "follows", desc := "(JJ)Z", sig := { parameters := [.long, .long], returnType := some .boolean }, accessFlags := 8, code := some k2c3 }
/-- com/example/bellwether/bellwether/server/Zxid -/
def k2 : Class := { plain "com/example/bellwether/bellwether/server/Zxid" (some 0) with
  accessFlags := 48
  interfaces := #[]
  cf := some (fileOf pool2 7 #[] #[{ accessFlags := 2, nameIndex := 5, descriptorIndex := 6, attributes := #[] }, { accessFlags := 8, nameIndex := 13, descriptorIndex := 14, attributes := #[] }, { accessFlags := 8, nameIndex := 21, descriptorIndex := 14, attributes := #[] }, { accessFlags := 8, nameIndex := 29, descriptorIndex := 30, attributes := #[] }] 48 2 #[] #[{ accessFlags := 24, nameIndex := 22, descriptorIndex := 23, attributes := #[] }])
  fields := #[{ name := "MAX_COUNTER", type := .long, accessFlags := 24, slot := 0, constantValue := 0 }]
  methods := #[k2m0, k2m1, k2m2, k2m3]
  instanceTypes := #[]
  staticTypes := #[.long]
  resolved := Array.replicate 33 none
  statics := none }

def pool3 : Array CpInfo := pool [(1, u "java/lang/Cloneable"), (0, .class_ 1), (0, u "java/lang/Object"), (0, .class_ 3)] 3

/-- java/lang/Cloneable -/
def k3 : Class := { plain "java/lang/Cloneable" (some 0) with
  accessFlags := 1537
  interfaces := #[]
  cf := some (fileOf pool3 2 #[] #[] 1537 4 #[] #[])
  fields := #[]
  methods := #[]
  instanceTypes := #[]
  staticTypes := #[]
  resolved := Array.replicate 8 none
  statics := none }

def pool4 : Array CpInfo := pool [(1, u "java/io/Serializable"), (0, .class_ 1), (0, u "java/lang/Object"), (0, .class_ 3)] 3

/-- java/io/Serializable -/
def k4 : Class := { plain "java/io/Serializable" (some 0) with
  accessFlags := 1537
  interfaces := #[]
  cf := some (fileOf pool4 2 #[] #[] 1537 4 #[] #[])
  fields := #[]
  methods := #[]
  instanceTypes := #[]
  staticTypes := #[]
  resolved := Array.replicate 8 none
  statics := none }

/-- the primitive byte -/
def k5 : Class := { plain "byte" none with kind := .primitive 'B', accessFlags := 0x411 }
/-- [B -/
def k6 : Class := { plain "[B" (some 0) with kind := .array 5 .byte, interfaces := #[3, 4], accessFlags := 1041 }

/-- the primitive int -/
def k7 : Class := { plain "int" none with kind := .primitive 'I', accessFlags := 0x411 }
/-- [I -/
def k8 : Class := { plain "[I" (some 0) with kind := .array 7 .int, interfaces := #[3, 4], accessFlags := 1041 }

def heap : Heap := #[]
def classes : Array Class := #[k0, k1, k2, k3, k4, k5, k6, k7, k8]
def interned : List (Array UInt16 × Addr) := []
def slotsUsed : Nat := 0
def theMethod : MethodId := ⟨1, 1⟩
def args0 : Array Value := #[.int 5, .int 7, .int 5, .int 8, .int 3]
def aboutOver (below : List Frame) : State where
  vm := { classes := classes, interned := interned.toArray }
  heap := heap
  slotsUsed := slotsUsed
  threads := #[{ frames := .invoking theMethod args0 :: below }]
def below0 : List Frame := [.native { method := ⟨0, 0⟩, args := #[] }]
def about1 : State := aboutOver below0
def p0 : Program := .bare "" "" ""
def e0 : Env := launch0.env 0 0 0
theorem w_frames : about1.frames = Frame.invoking theMethod args0 :: below0 := rfl
set_option maxRecDepth 65536 in
theorem w_args : argsFit about1.vm theMethod args0 = true := by decide +kernel
set_option maxRecDepth 65536 in
theorem w_heap : heapFits about1 = true := by decide +kernel
set_option maxRecDepth 65536 in
theorem w_runnable : about1.curStatus? = some .runnable := by decide +kernel
set_option maxRecDepth 65536 in
theorem w_alone : about1.alone = true := by decide +kernel
set_option maxRecDepth 65536 in
theorem w_named : about1.methodNamed? x = some theMethod := by decide +kernel
set_option maxRecDepth 65536 in
theorem w_hears : about1.hears theMethod below0 = true := by decide +kernel
set_option maxRecDepth 65536 in
theorem w_ripe : about1.ripe theMethod args0 below0 = true := by decide +kernel
theorem w_running : about1.status = .running := rfl
set_option maxRecDepth 65536 in
theorem w_room : about1.hasRoom e0.platform room_1 = true :=
  launch0.hasRoom_least _ room_1 (by decide +kernel) (by decide +kernel) (by decide +kernel) (by decide +kernel) (by decide +kernel) (by decide +kernel)
theorem allAtoms_all (ts : List Jvm.Cond) (a : Array Jvm.Value) (st : Jvm.State) : (allAtoms ts).before a st = ts.all (fun c => c.before a st) := by
  induction ts with
  | nil => rfl
  | cons c t ih =>
    show (Jvm.Cond.and c (allAtoms t)).before a st = _
    rw [Jvm.Cond.before_and, ih, List.all_cons]
def words1 : List Jvm.Cond := Jvm.Cond.code x code maxLocals ret :: tables_1
/-- a 'code' word, met by the world's own term for the bytes: nothing is compared byte by byte -/
theorem code_word {y : MethodName} {bytes : ByteArray} {mx : Nat} {rt : Option FieldType} {a : Array Value} {s : State} {m : MethodId} {meth : Method} {c : Code} (h1 : s.methodNamed? y = some m) (h2 : s.vm.method? m = some meth) (h3 : meth.code = some c) (h4 : c.code = bytes)
    (h5 : (c.maxLocals == mx && c.exceptionTable.isEmpty && decide (c.maxStack ≤ mostOperands) && decide (meth.sig.returnType = rt) && !meth.locks && decide (parseMethodDescriptor y.desc = some meth.sig)) = true) : (Jvm.Cond.code y bytes mx rt).before a s = true := by
  simp only [Bool.and_eq_true, beq_iff_eq, Bool.not_eq_true', decide_eq_true_eq] at h5
  obtain ⟨⟨⟨⟨⟨g1, g2⟩, g3⟩, g4⟩, g5⟩, g6⟩ := h5
  simp [Cond.before, Cond.holds, Cond.value, h1, h2, h3, h4, g1, g2, g3, g4, g5, g6]
def isCode : Jvm.Cond → Bool
  | .code _ _ _ _ => true
  | _ => false
theorem all_split {L : List Jvm.Cond} {P : Jvm.Cond → Bool} (h1 : L.all (fun c => isCode c || P c) = true) (h2 : ∀ c ∈ L.filter isCode, P c = true) : L.all P = true := by
  refine List.all_eq_true.mpr fun c hc => ?_
  have h := List.all_eq_true.mp h1 c hc
  rcases Bool.eq_false_or_eq_true (isCode c) with hi | hi
  · exact h2 c (List.mem_filter.mpr ⟨hc, hi⟩)
  · simpa [hi] using h
set_option maxRecDepth 65536 in
theorem w_c0 : (Jvm.Cond.code x code maxLocals ret).before args0 about1 = true := code_word (m := ⟨1, 1⟩) (meth := k1m1) (c := k1c1) (by decide +kernel) rfl rfl rfl (by decide +kernel)
set_option maxRecDepth 65536 in
theorem w_c1 : (Jvm.Cond.code ({ cls := "com/example/bellwether/bellwether/server/Zxid", name := "follows", desc := "(JJ)Z" } : Jvm.MethodName) prog_123_method_6_code (4 : Nat) (Option.some Jvm.ClassFile.FieldType.boolean)).before args0 about1 = true := code_word (m := ⟨2, 3⟩) (meth := k2m3) (c := k2c3) (by decide +kernel) rfl rfl rfl (by decide +kernel)
set_option maxRecDepth 65536 in
theorem w_c2 : (Jvm.Cond.code ({ cls := "com/example/bellwether/bellwether/server/Zxid", name := "epoch", desc := "(J)J" } : Jvm.MethodName) prog_123_method_3_code (2 : Nat) (Option.some Jvm.ClassFile.FieldType.long)).before args0 about1 = true := code_word (m := ⟨2, 1⟩) (meth := k2m1) (c := k2c1) (by decide +kernel) rfl rfl rfl (by decide +kernel)
set_option maxRecDepth 65536 in
theorem w_c3 : (Jvm.Cond.code ({ cls := "com/example/bellwether/bellwether/server/Zxid", name := "counter", desc := "(J)J" } : Jvm.MethodName) prog_123_method_4_code (2 : Nat) (Option.some Jvm.ClassFile.FieldType.long)).before args0 about1 = true := code_word (m := ⟨2, 2⟩) (meth := k2m2) (c := k2c2) (by decide +kernel) rfl rfl rfl (by decide +kernel)
def codes1 : List Jvm.Cond := [Jvm.Cond.code x code maxLocals ret, Jvm.Cond.code ({ cls := "com/example/bellwether/bellwether/server/Zxid", name := "follows", desc := "(JJ)Z" } : Jvm.MethodName) prog_123_method_6_code (4 : Nat) (Option.some Jvm.ClassFile.FieldType.boolean), Jvm.Cond.code ({ cls := "com/example/bellwether/bellwether/server/Zxid", name := "epoch", desc := "(J)J" } : Jvm.MethodName) prog_123_method_3_code (2 : Nat) (Option.some Jvm.ClassFile.FieldType.long), Jvm.Cond.code ({ cls := "com/example/bellwether/bellwether/server/Zxid", name := "counter", desc := "(J)J" } : Jvm.MethodName) prog_123_method_4_code (2 : Nat) (Option.some Jvm.ClassFile.FieldType.long)]
set_option maxRecDepth 65536 in
theorem codes_eq : words1.filter isCode = codes1 := rfl
theorem w_codes : ∀ c ∈ words1.filter isCode, c.before args0 about1 = true := by
  rw [codes_eq]
  intro c hc
  simp only [codes1, List.mem_cons, List.not_mem_nil, or_false] at hc
  rcases hc with rfl | rfl | rfl | rfl
  · exact w_c0
  · exact w_c1
  · exact w_c2
  · exact w_c3
set_option maxRecDepth 65536 in
theorem w_t1 : words1.all (fun c => isCode c || c.before args0 about1) = true := by decide +kernel
theorem w_tables : (allAtoms (Jvm.Cond.code x code maxLocals ret :: tables_1)).before args0 about1 = true := by
  rw [allAtoms_all]
  show words1.all (fun c => c.before args0 about1) = true
  refine all_split ?_ w_codes
  rw [w_t1]
set_option maxRecDepth 65536 in
theorem w_case : (Jvm.Cond.and given_1 narrow_1).before args0 about1 = true := by decide +kernel
theorem w_applies : (headSpec (Jvm.Cond.code x code maxLocals ret :: tables_1) room_1).applies x e0.platform about1 = true :=
  (Spec.applies_iff w_frames).mpr ⟨w_running, w_runnable, w_alone, w_named, w_hears, w_ripe, w_room, w_tables⟩
theorem atStart : AtStart classFile x code maxLocals ret World_1 tables_1 room_1 Calls_1 rest_1 Pre_1 launch0 p0 e0 about1 theMethod args0 below0 :=
  ⟨lists_1, trivial, launch0.admits_env _ _ _, launch0.least_env, fairChoices_fair.cas, fairChoices_fair.clock, w_frames, w_args, w_heap, w_applies, trivial, trivial, w_case⟩
end start1
theorem witness_1 : WitnessClaimed_1 := ⟨start1.p0, start1.e0, start1.about1, start1.theMethod, start1.args0, start1.below0, start1.atStart⟩
end Jvm.Pilot.@@N@@
