import JvmDerived
import JvmDerived.Pilot.@@N@@Statement
import JvmDerived.Pilot.@@N@@Code
set_option linter.unusedVariables false
set_option linter.unusedSimpArgs false
namespace Jvm.Pilot.@@N@@
open Jvm Jvm.ClassFile Sem Op Lib Jvm.Free Jvm.Stand Jvm.LawKit Jvm.RoadKit Bundle Jvm.Pilot.@@N@@.Jvm.D
section Own
variable {p : Program} {l : Launch} {e : Env} {R : Room} {s : State} {m : MethodId} {args : Array Value} {below : List Frame} {meth : Method} {c : Code} {T : State} {locs : List Loc} {cells slots : Nat} {Z : State} {a0 : Array Value} {h h' : Heap} {rc rs : Nat} {Q Qc : Option Value → Heap → List Loc → Prop}
/-- from here the run comes to its end, and leaves what Q says -/
def GG (p : Program) (e : Env) (below : List Frame) (s : State) (rc rs : Nat) (Q : Option Value → Heap → List Loc → Prop) (T : State) (g : JFrame) : Prop :=
  ∃ s₂ o, Steps p.tables e below (T.setTop g) s₂ ∧ s₂.status = .running ∧ Ended s₂ below o ∧ ∃ v L, o = .returned v ∧ Q v s₂.heap L ∧ FrameEnd s o s₂ L rc rs
theorem own_go {T' : State} {g g' : JFrame} (st : ∀ t, Steps p.tables e below (T'.setTop g') t → Steps p.tables e below (T.setTop g) t) (k : GG p e below s rc rs Q T' g') : GG p e below s rc rs Q T g := by
  obtain ⟨s₂, o, h1, h2⟩ := k
  exact ⟨s₂, o, st _ h1, h2⟩
theorem own_in {g g' : JFrame} (q : g = g') (k : GG p e below s rc rs Q T g') : GG p e below s rc rs Q T g := q ▸ k
theorem own_if {g1 g2 : JFrame} {P : Prop} [Decidable P] (k1 : P → GG p e below s rc rs Q T g1) (k2 : ¬ P → GG p e below s rc rs Q T g2) : GG p e below s rc rs Q T (if P then g1 else g2) := by
  by_cases q : P
  · rw [if_pos q]; exact k1 q
  · rw [if_neg q]; exact k2 q
theorem own_join {g g' : JFrame} (k1 : GG p e below s rc rs Q T g' → GG p e below s rc rs Q T g) (k2 : GG p e below s rc rs Q T g') : GG p e below s rc rs Q T g := k1 k2
abbrev own_CT (l : Launch) (Z : State) (y : MethodName) (bytes : ByteArray) (maxL : Nat) (ret : Option FieldType) (ws : List Jvm.Cond) (rm : Room) (as : Array Value) (h : Heap) (Qc : Option Value → Heap → List Loc → Prop) : Prop :=
  MetFree l y (head1 (Jvm.Cond.code y bytes maxL ret :: ws) rm) (fun a U => a = as ∧ Z.Warmed39 U.vm ∧ U.heap = h) (fun _ _ _ _ _ => True) (fun _ U o U' => ∃ v L, o = .returned v ∧ Qc v U'.heap L ∧ FrameEnd U o U' L rm.cells rm.slots)
theorem own_callS (X : Stand p l e R s m args below meth c T locs cells slots) (hx : p.tables.exec = Jvm.exec) (hZ : Z.Warmed39 s.vm) {own : String} {index : Nat} {y : MethodName} {bytes : ByteArray} {maxL : Nat} {ret : Option FieldType} {rm : Room} (W : Nat)
    (hown : s.vm.findClass own = some m.cls) (w1 : (Jvm.Cond.methodLink own index y).before a0 Z = true) (w2 : (Jvm.Cond.static y).before a0 Z = true) (w3 : (Jvm.Cond.initialized y.cls).before a0 Z = true) (w4 : (Jvm.Cond.code y bytes maxL ret).before a0 Z = true)
    (hy : y.cls ≠ "java/lang/invoke/MethodHandle" ∧ y.cls ≠ "java/lang/invoke/VarHandle") {argsL rest : List Value} (hM : own_CT l Z y bytes maxL ret [] rm argsL.toArray h Qc)
    (hf : rm.frames + 1 ≤ R.frames) (hl : W + (maxL + 11) + rm.locals ≤ R.locals) (hc : cells + rm.cells ≤ R.cells) (hs : slots + rm.slots ≤ R.slots)
    {g : JFrame} (hg : g.method = m) (hsize : g.locals.size = c.maxLocals) (hlen : ∀ sig, parseMethodDescriptor y.desc = some sig → argsL.length = sig.parameters.length) (hstack : g.stack = argsL.reverse ++ rest) (hW : 2 * g.monitorRoom + (rest.map fun v => v.category).sum ≤ W)
    (hdg : decode c.code g.pc = .ok (.invokestatic index, 3)) (eT : T.heap = h)
    (k : ∀ (v : Option Value) (T' : State) (L : List Loc), Stand p l e R s m args below meth c T' (locs ++ L) (cells + rm.cells) (slots + rm.slots) → Qc v T'.heap L → GG p e below s rc rs Q T' { g with pc := g.pc + 3, stack := v.toList ++ rest }) : GG p e below s rc rs Q T g := by
  obtain ⟨v, vm₁, ⟨T', L', k', n'⟩, -, X', ⟨L, hQ, q1, q2, q3⟩, st⟩ := Jvm.LawKit.callS X hx hown (mvT hZ w1) (mvT hZ w2) (mvT hZ w3) (mvT hZ w4) hy (backOf (W := W) hM hZ w4 w3 hf hl) hg hsize hlen hstack hW hdg (fun _ _ => ⟨rfl, eT, hc, hs⟩)
  dsimp only [Pt.U, Pt.locs, Pt.cells, Pt.slots] at X' q1 q2 q3 st hQ
  subst q1 q2 q3
  exact own_go st (k v T' L X' hQ)
theorem own_callI (X : Stand p l e R s m args below meth c T locs cells slots) (hx : p.tables.exec = Jvm.exec) (hZ : Z.Warmed39 s.vm) {own : String} {index : Nat} {y : MethodName} {bytes : ByteArray} {maxL : Nat} {rm : Room} (W : Nat) (hy1 : y.name = "<init>")
    (hown : s.vm.findClass own = some m.cls) (w1 : (Jvm.Cond.methodLink own index y).before a0 Z = true) (w2 : (Jvm.Cond.instanceMethod y).before a0 Z = true) (w3 : (Jvm.Cond.initialized y.cls).before a0 Z = true) (w4 : (Jvm.Cond.code y bytes maxL none).before a0 Z = true)
    (hy : y.cls ≠ "java/lang/invoke/MethodHandle" ∧ y.cls ≠ "java/lang/invoke/VarHandle") {a : Addr} {argsL rest : List Value} (hM : own_CT l Z y bytes maxL none [] rm (.ref a :: argsL).toArray h Qc)
    (hf : rm.frames + 1 ≤ R.frames) (hl : W + (maxL + 11) + rm.locals ≤ R.locals) (hc : cells + rm.cells ≤ R.cells) (hs : slots + rm.slots ≤ R.slots)
    {g : JFrame} (hg : g.method = m) (hsize : g.locals.size = c.maxLocals) (hlen : ∀ sig, parseMethodDescriptor y.desc = some sig → argsL.length = sig.parameters.length) (hstack : g.stack = argsL.reverse ++ .ref a :: rest) (hW : 2 * g.monitorRoom + (rest.map fun v => v.category).sum ≤ W)
    (hdg : decode c.code g.pc = .ok (.invokespecial index, 3)) (eT : T.heap = h)
    (k : ∀ (v : Option Value) (T' : State) (L : List Loc), Stand p l e R s m args below meth c T' (locs ++ L) (cells + rm.cells) (slots + rm.slots) → Qc v T'.heap L → GG p e below s rc rs Q T' { g with pc := g.pc + 3, stack := v.toList ++ rest }) : GG p e below s rc rs Q T g := by
  obtain ⟨v, vm₁, ⟨T', L', k', n'⟩, -, X', ⟨L, hQ, q1, q2, q3⟩, st⟩ := X.specialBack hx hy1 hown (mvT hZ w1) (mvT hZ w2) (mvT hZ w4) hy (backOf (W := W) hM hZ w4 w3 hf hl) hg hsize (Steps.refl _) hlen hstack hW hdg (fun _ _ => ⟨rfl, eT, hc, hs⟩)
  dsimp only [Pt.U, Pt.locs, Pt.cells, Pt.slots] at X' q1 q2 q3 st hQ
  subst q1 q2 q3
  exact own_go (fun _ => st.trans) (k v T' L X' hQ)
theorem own_callV (X : Stand p l e R s m args below meth c T locs cells slots) (hx : p.tables.exec = Jvm.exec) (hZ : Z.Warmed39 s.vm) {own C : String} {index : Nat} {y z : MethodName} {bytes : ByteArray} {maxL : Nat} {ret : Option FieldType} {rm : Room} (W : Nat)
    (hown : s.vm.findClass own = some m.cls) (w1 : (Jvm.Cond.methodLink own index y).before a0 Z = true) (w2 : (Jvm.Cond.declares y).before a0 Z = true) (hnf : NotFace s y) (w5 : (Jvm.Cond.selects C y z).before a0 Z = true) (w6 : (Jvm.Cond.instanceMethod z).before a0 Z = true) (w3 : (Jvm.Cond.initialized z.cls).before a0 Z = true) (w4 : (Jvm.Cond.code z bytes maxL ret).before a0 Z = true)
    (hy : y.cls ≠ "java/lang/invoke/MethodHandle" ∧ y.cls ≠ "java/lang/invoke/VarHandle") {a : Addr} {argsL rest : List Value} (hM : own_CT l Z z bytes maxL ret [] rm (.ref a :: argsL).toArray h Qc)
    (hf : rm.frames + 1 ≤ R.frames) (hl : W + (maxL + 11) + rm.locals ≤ R.locals) (hc : cells + rm.cells ≤ R.cells) (hs : slots + rm.slots ≤ R.slots) (E : Exa Z h a C)
    {g : JFrame} (hg : g.method = m) (hsize : g.locals.size = c.maxLocals) (hlen : ∀ sig, parseMethodDescriptor y.desc = some sig → argsL.length = sig.parameters.length) (hstack : g.stack = argsL.reverse ++ .ref a :: rest) (hW : 2 * g.monitorRoom + (rest.map fun v => v.category).sum ≤ W)
    (hdg : decode c.code g.pc = .ok (.invokevirtual index, 3)) (eT : T.heap = h)
    (k : ∀ (v : Option Value) (T' : State) (L : List Loc), Stand p l e R s m args below meth c T' (locs ++ L) (cells + rm.cells) (slots + rm.slots) → Qc v T'.heap L → GG p e below s rc rs Q T' { g with pc := g.pc + 3, stack := v.toList ++ rest }) : GG p e below s rc rs Q T g := by
  obtain ⟨cq, kq, qa, qb, qc⟩ := isOf hZ eT E
  obtain ⟨v, vm₁, ⟨T', L', k', n'⟩, -, X', ⟨L, hQ, q1, q2, q3⟩, st⟩ := X.virtualBack hx hown (mvT hZ w1) (mvT hZ w2) hnf (mvT hZ w5) (mvT hZ w6) hy (backOf (W := W) hM hZ w4 w3 hf hl) qa qc hg hsize (Steps.refl _) hlen hstack hW hdg (fun _ _ => ⟨rfl, eT, hc, hs⟩)
  dsimp only [Pt.U, Pt.locs, Pt.cells, Pt.slots] at X' q1 q2 q3 st hQ
  subst q1 q2 q3
  exact own_go (fun _ => st.trans) (k v T' L X' hQ)
theorem own_callP (X : Stand p l e R s m args below meth c T locs cells slots) (hx : p.tables.exec = Jvm.exec) (hZ : Z.Warmed39 s.vm) {own C : String} {index : Nat} {y : MethodName} {bytes : ByteArray} {maxL : Nat} {ret : Option FieldType} {rm : Room} (W : Nat)
    (hown : s.vm.findClass own = some m.cls) (w1 : (Jvm.Cond.methodLink own index y).before a0 Z = true) (w2 : (Jvm.Cond.instanceMethod y).before a0 Z = true) {kk : Nat} (w5 : (Jvm.Cond.instantiable y.cls kk).before a0 Z = true) (w6 : (Jvm.Cond.privateMethod y).before a0 Z = true) (w3 : (Jvm.Cond.initialized y.cls).before a0 Z = true) (w4 : (Jvm.Cond.code y bytes maxL ret).before a0 Z = true)
    (hy : y.cls ≠ "java/lang/invoke/MethodHandle" ∧ y.cls ≠ "java/lang/invoke/VarHandle") {a : Addr} {argsL rest : List Value} (hM : own_CT l Z y bytes maxL ret [] rm (.ref a :: argsL).toArray h Qc)
    (hf : rm.frames + 1 ≤ R.frames) (hl : W + (maxL + 11) + rm.locals ≤ R.locals) (hc : cells + rm.cells ≤ R.cells) (hs : slots + rm.slots ≤ R.slots) (E : Exa Z h a C)
    {g : JFrame} (hg : g.method = m) (hsize : g.locals.size = c.maxLocals) (hlen : ∀ sig, parseMethodDescriptor y.desc = some sig → argsL.length = sig.parameters.length) (hstack : g.stack = argsL.reverse ++ .ref a :: rest) (hW : 2 * g.monitorRoom + (rest.map fun v => v.category).sum ≤ W)
    (hdg : decode c.code g.pc = .ok (.invokevirtual index, 3)) (eT : T.heap = h)
    (k : ∀ (v : Option Value) (T' : State) (L : List Loc), Stand p l e R s m args below meth c T' (locs ++ L) (cells + rm.cells) (slots + rm.slots) → Qc v T'.heap L → GG p e below s rc rs Q T' { g with pc := g.pc + 3, stack := v.toList ++ rest }) : GG p e below s rc rs Q T g := by
  obtain ⟨cq, q, q'⟩ := E.cell
  have hpr : s.PrivateAt y := Cond.privateMethod_at (mvP hZ w6 (args := #[]))
  obtain ⟨c1, k1, i1, i2, -, i4, -⟩ := Cond.instantiable_spec (show (Jvm.Cond.instantiable y.cls kk).before args s = true from mv hZ w5)
  have hsel : (Jvm.Cond.selects y.cls y y).before args s = true := selects_self_of_private i1 i2 (Bool.or_eq_false_iff.mp i4).1 hpr (mvT hZ w2) hy
  obtain ⟨v, vm₁, ⟨T', L', k', n'⟩, -, X', ⟨L, hQ, q1, q2, q3⟩, st⟩ := X.privateBack hx hown (mvT hZ w1) (mvT hZ w2) hsel hpr (mvT hZ w4) hy (backOf (W := W) hM hZ w4 w3 hf hl) hg hsize (Steps.refl _) (by rw [eT]; exact q) q' hlen hstack hW hdg (fun _ _ => ⟨rfl, eT, hc, hs⟩)
  dsimp only [Pt.U, Pt.locs, Pt.cells, Pt.slots] at X' q1 q2 q3 st hQ
  subst q1 q2 q3
  exact own_go (fun _ => st.trans) (k v T' L X' hQ)
theorem own_ret (X : Stand p l e R s m args below meth c T locs cells slots) (hx : p.tables.exec = Jvm.exec) (hlk : meth.locks = false) {t : FieldType} {w : Value} {i : Instr} {pc : Nat} {Ls : Array Slot} {rest : List Value} (hret : meth.sig.returnType = some t) (hn : narrow t w = w)
    (hi : (i = .ireturn ∧ (t = .int ∨ t = .boolean ∨ t = .byte ∨ t = .char ∨ t = .short) ∧ ∃ z, w = .int z) ∨ (i = .lreturn ∧ t = .long ∧ ∃ z, w = .long z) ∨ (i = .dreturn ∧ t = .double ∧ ∃ z, w = .double z) ∨ (i = .freturn ∧ t = .float ∧ ∃ z, w = .float z) ∨ (i = .areturn ∧ t.isReference = true ∧ w.isRef = true))
    (hd : decode c.code pc = .ok (i, 1)) (hc : cells ≤ rc) (hs : slots ≤ rs) (hQ : Q (some w) T.heap locs) : GG p e below s rc rs Q T (mkF m pc Ls (w :: rest)) := by
  obtain ⟨fs, hr, hrun, hended, hW, hsame⟩ := X.leave (v := some w) (fun h => by rw [hret] at h; cases h) hlk
  exact ⟨_, _, retOut X hx hret hn hi hd hr, hrun, hended, _, _, rfl, hQ, ⟨_, rfl⟩, hW, hsame.mono hc hs⟩
theorem own_retV (X : Stand p l e R s m args below meth c T locs cells slots) (hx : p.tables.exec = Jvm.exec) (hlk : meth.locks = false) {pc : Nat} {Ls : Array Slot} (hret : meth.sig.returnType = none)
    (hd : decode c.code pc = .ok (.return_, 1)) (hc : cells ≤ rc) (hs : slots ≤ rs) (hQ : Q none T.heap locs) : GG p e below s rc rs Q T (mkF m pc Ls []) := by
  obtain ⟨fs, hr, hrun, hended, hW, hsame⟩ := X.leave (v := none) (fun _ => rfl) hlk
  exact ⟨_, _, X.returnOut hx hret hd hr, hrun, hended, _, _, rfl, hQ, ⟨_, rfl⟩, hW, hsame.mono hc hs⟩
theorem own_nZ {P : Prop} [Decidable P] : narrow .boolean (.int (if P then 1 else 0)) = .int (if P then 1 else 0) := by split <;> rfl
/-- an array of values, all of them named -/
def Arx (Z : State) (h : Heap) (a : Addr) (ty : FieldType) (vs : List Value) : Prop := vs.length < 2 ^ 31 ∧ ∃ k dv, Arv Z h a k ty (Int32.ofNat vs.length) vs dv
variable {a b : Addr} {ty : FieldType} {vs : List Value}
theorem own_ofNat {n : Nat} (q : n < 2 ^ 31) : (Int32.ofNat n).toInt = n := Int32.toInt_ofNat_of_lt q
theorem own_clamp {n : Nat} (q : n < 2 ^ 31) : (Int32.ofNat n).toNatClampNeg = n := by simp only [Int32.toNatClampNeg, own_ofNat q]; rfl
theorem Arx.lt (V : Arx Z h a ty vs) : a < h.size := by obtain ⟨_, k, dv, V⟩ := V; exact V.lt
theorem Arx.ext (V : Arx Z h a ty vs) (E : Ext h h') : Arx Z h' a ty vs := by obtain ⟨q, k, dv, V⟩ := V; exact ⟨q, k, dv, V.ext E⟩
theorem Arx.other {sl : Nat} {v : Value} (V : Arx Z h b ty vs) (W : Wr h h' a sl v) (n : b ≠ a) : Arx Z h' b ty vs := by obtain ⟨q, k, dv, V⟩ := V; exact ⟨q, k, dv, V.other W n⟩
theorem Arx.keep {ws : List Addr} (V : Arx Z h a ty vs) (K : Keep h h' ws) (n : a ∉ ws) : Arx Z h' a ty vs := by obtain ⟨q, k, dv, V⟩ := V; exact ⟨q, k, dv, V.keep K n⟩
theorem Arx.open {j : Int32} {v : Value} (V : Arx Z h a ty vs) (h0 : ¬ j < 0) (hv : vs[j.toNatClampNeg]? = some v) : ∃ cl, Arr Z h a cl ty ∧ ¬ (j < 0 ∨ cl.slots.size ≤ j.toNatClampNeg) ∧ cl.slots[j.toNatClampNeg]? = some v := by
  obtain ⟨q, k, dv, cl, A, -, S, -, H, -⟩ := V
  rw [own_clamp q] at S
  have hl := (List.getElem?_eq_some_iff.mp hv).1
  have e := H j.toNatClampNeg (by rw [S]; exact hl)
  rw [List.getD_eq_getElem?_getD, hv] at e
  exact ⟨cl, A, fun q' => q'.elim h0 (by rw [S]; exact Nat.not_le.mpr hl), e⟩
theorem own_len (X : Stand p l e R s m args below meth c T locs cells slots) (hx : p.tables.exec = Jvm.exec) (hZ : Z.Warmed39 s.vm) (eT : T.heap = h) (V : Arx Z h a ty vs) {g : JFrame} (hg : g.method = m) {rest : List Value} (hs : g.stack = .ref a :: rest) (hd : decode c.code g.pc = .ok (.arraylength, 1)) :
    ∀ t, Steps p.tables e below (T.setTop { g with pc := g.pc + 1, stack := .int (Int32.ofNat vs.length) :: rest }) t → Steps p.tables e below (T.setTop g) t := fun t k => by
  obtain ⟨q, k', dv, cl, A, -, S, N, -⟩ := V
  refine X.arraylength hx (by rw [eT]; exact A.1) (State.isArrayOf_alike hZ.alike A.2.1) hg hs hd _ ?_
  rw [len_of S N]; exact k
theorem own_iaload (X : Stand p l e R s m args below meth c T locs cells slots) (hx : p.tables.exec = Jvm.exec) (hZ : Z.Warmed39 s.vm) (eT : T.heap = h) (V : Arx Z h a .int vs) {j : Int32} {v : Value} (h0 : ¬ j < 0) (hv : vs[j.toNatClampNeg]? = some v) {g : JFrame} (hg : g.method = m) {rest : List Value} (hs : g.stack = .int j :: .ref a :: rest) (hd : decode c.code g.pc = .ok (.iaload, 1)) :
    ∀ t, Steps p.tables e below (T.setTop { g with pc := g.pc + 1, stack := v :: rest }) t → Steps p.tables e below (T.setTop g) t := fun t k => by
  obtain ⟨cl, A, h1, h2⟩ := V.open h0 hv
  exact X.iaload hx (by rw [eT]; exact A.1) (State.isArrayOf_alike hZ.alike A.2.1) A.2.2 h1 h2 hg hs hd _ k
theorem own_laload (X : Stand p l e R s m args below meth c T locs cells slots) (hx : p.tables.exec = Jvm.exec) (hZ : Z.Warmed39 s.vm) (eT : T.heap = h) (V : Arx Z h a .long vs) {j : Int32} {v : Value} (h0 : ¬ j < 0) (hv : vs[j.toNatClampNeg]? = some v) {g : JFrame} (hg : g.method = m) {rest : List Value} (hs : g.stack = .int j :: .ref a :: rest) (hd : decode c.code g.pc = .ok (.laload, 1)) :
    ∀ t, Steps p.tables e below (T.setTop { g with pc := g.pc + 1, stack := v :: rest }) t → Steps p.tables e below (T.setTop g) t := fun t k => by
  obtain ⟨cl, A, h1, h2⟩ := V.open h0 hv
  exact X.laload hx (by rw [eT]; exact A.1) (State.isArrayOf_alike hZ.alike A.2.1) A.2.2 h1 h2 hg hs hd _ k
theorem own_caload (X : Stand p l e R s m args below meth c T locs cells slots) (hx : p.tables.exec = Jvm.exec) (hZ : Z.Warmed39 s.vm) (eT : T.heap = h) (V : Arx Z h a .char vs) {j : Int32} {v : Value} (h0 : ¬ j < 0) (hv : vs[j.toNatClampNeg]? = some v) {g : JFrame} (hg : g.method = m) {rest : List Value} (hs : g.stack = .int j :: .ref a :: rest) (hd : decode c.code g.pc = .ok (.caload, 1)) :
    ∀ t, Steps p.tables e below (T.setTop { g with pc := g.pc + 1, stack := v :: rest }) t → Steps p.tables e below (T.setTop g) t := fun t k => by
  obtain ⟨cl, A, h1, h2⟩ := V.open h0 hv
  exact X.caload hx (by rw [eT]; exact A.1) (State.isArrayOf_alike hZ.alike A.2.1) A.2.2 h1 h2 hg hs hd _ k
theorem own_baload (X : Stand p l e R s m args below meth c T locs cells slots) (hx : p.tables.exec = Jvm.exec) (hZ : Z.Warmed39 s.vm) (eT : T.heap = h) (V : Arx Z h a .byte vs) {j : Int32} {v : Value} (h0 : ¬ j < 0) (hv : vs[j.toNatClampNeg]? = some v) {g : JFrame} (hg : g.method = m) {rest : List Value} (hs : g.stack = .int j :: .ref a :: rest) (hd : decode c.code g.pc = .ok (.baload, 1)) :
    ∀ t, Steps p.tables e below (T.setTop { g with pc := g.pc + 1, stack := v :: rest }) t → Steps p.tables e below (T.setTop g) t := fun t k => by
  obtain ⟨cl, A, h1, h2⟩ := V.open h0 hv
  exact X.baloadBytes hx (by rw [eT]; exact A.1) (State.isArrayOf_alike hZ.alike A.2.1) A.2.2 h1 h2 hg hs hd _ k
theorem own_aaload (X : Stand p l e R s m args below meth c T locs cells slots) (hx : p.tables.exec = Jvm.exec) (hZ : Z.Warmed39 s.vm) (eT : T.heap = h) (V : Arx Z h a ty vs) (ht : ty.isReference = true) {j : Int32} {v : Value} (h0 : ¬ j < 0) (hv : vs[j.toNatClampNeg]? = some v) {g : JFrame} (hg : g.method = m) {rest : List Value} (hs : g.stack = .int j :: .ref a :: rest) (hd : decode c.code g.pc = .ok (.aaload, 1)) :
    ∀ t, Steps p.tables e below (T.setTop { g with pc := g.pc + 1, stack := v :: rest }) t → Steps p.tables e below (T.setTop g) t := fun t k => by
  obtain ⟨cl, A, h1, h2⟩ := V.open h0 hv
  exact X.aaload hx (by rw [eT]; exact A.1) (State.isArrayOf_alike hZ.alike A.2.1) ht A.2.2 h1 h2 hg hs hd _ k
theorem Arx.put {j : Int32} {v : Value} (V : Arx Z h a ty vs) (h0 : ¬ j < 0) (hj : j.toNatClampNeg < vs.length) (hv : fits ty v = true) : ∃ cl, Arr Z h a cl ty ∧ ¬ (j < 0 ∨ cl.slots.size ≤ j.toNatClampNeg) ∧ ∀ {h' : Heap}, Wr h h' a j.toNatClampNeg v → Arx Z h' a ty (vs.set j.toNatClampNeg v) := by
  obtain ⟨q, k, dv, cl, A, q1, S, N, H, G⟩ := V
  refine ⟨cl, A, fun q' => q'.elim h0 ?_, fun W => ⟨by rw [List.length_set]; exact q, k, dv, ?_⟩⟩
  · rw [S, own_clamp q]; exact Nat.not_le.mpr hj
  · rw [List.length_set]; exact Arv.set A q1 S N H G hv W _ rfl hj
theorem own_iastore (X : Stand p l e R s m args below meth c T locs cells slots) (hx : p.tables.exec = Jvm.exec) (hZ : Z.Warmed39 s.vm) (eT : T.heap = h) (V : Arx Z h a .int vs) {j x : Int32} (h0 : ¬ j < 0) (hj : j.toNatClampNeg < vs.length) {g : JFrame} (hg : g.method = m) {rest : List Value} (hs : g.stack = .int x :: .int j :: .ref a :: rest) (hd : decode c.code g.pc = .ok (.iastore, 1)) :
    ∃ T' h', Stand p l e R s m args below meth c T' (locs ++ [⟨a, j.toNatClampNeg⟩]) cells slots ∧ T'.heap = h' ∧ Wr h h' a j.toNatClampNeg (.int x) ∧ Arx Z h' a .int (vs.set j.toNatClampNeg (.int x)) ∧ ∀ t, Steps p.tables e below (T'.setTop { g with pc := g.pc + 1, stack := rest }) t → Steps p.tables e below (T.setTop g) t := by
  obtain ⟨cl, A, h1, h2⟩ := V.put (v := .int x) h0 hj rfl
  obtain ⟨T', h', X', e', W, st⟩ := stI X hx hZ eT A h1 hg hs hd
  exact ⟨T', h', X', e', W, h2 W, st⟩
theorem own_lastore (X : Stand p l e R s m args below meth c T locs cells slots) (hx : p.tables.exec = Jvm.exec) (hZ : Z.Warmed39 s.vm) (eT : T.heap = h) (V : Arx Z h a .long vs) {j : Int32} {x : Int64} (h0 : ¬ j < 0) (hj : j.toNatClampNeg < vs.length) {g : JFrame} (hg : g.method = m) {rest : List Value} (hs : g.stack = .long x :: .int j :: .ref a :: rest) (hd : decode c.code g.pc = .ok (.lastore, 1)) :
    ∃ T' h', Stand p l e R s m args below meth c T' (locs ++ [⟨a, j.toNatClampNeg⟩]) cells slots ∧ T'.heap = h' ∧ Wr h h' a j.toNatClampNeg (.long x) ∧ Arx Z h' a .long (vs.set j.toNatClampNeg (.long x)) ∧ ∀ t, Steps p.tables e below (T'.setTop { g with pc := g.pc + 1, stack := rest }) t → Steps p.tables e below (T.setTop g) t := by
  obtain ⟨cl, A, h1, h2⟩ := V.put (v := .long x) h0 hj rfl
  obtain ⟨T', h', X', e', W, st⟩ := stJ X hx hZ eT A h1 hg hs hd
  exact ⟨T', h', X', e', W, h2 W, st⟩
theorem own_castore (X : Stand p l e R s m args below meth c T locs cells slots) (hx : p.tables.exec = Jvm.exec) (hZ : Z.Warmed39 s.vm) (eT : T.heap = h) (V : Arx Z h a .char vs) {j x : Int32} (h0 : ¬ j < 0) (hj : j.toNatClampNeg < vs.length) {g : JFrame} (hg : g.method = m) {rest : List Value} (hs : g.stack = .int x :: .int j :: .ref a :: rest) (hd : decode c.code g.pc = .ok (.castore, 1)) :
    ∃ T' h', Stand p l e R s m args below meth c T' (locs ++ [⟨a, j.toNatClampNeg⟩]) cells slots ∧ T'.heap = h' ∧ Wr h h' a j.toNatClampNeg (.int (nar .char x)) ∧ Arx Z h' a .char (vs.set j.toNatClampNeg (.int (nar .char x))) ∧ ∀ t, Steps p.tables e below (T'.setTop { g with pc := g.pc + 1, stack := rest }) t → Steps p.tables e below (T.setTop g) t := by
  obtain ⟨cl, A, h1, h2⟩ := V.put (v := .int (nar .char x)) h0 hj (fits_nar_char _)
  obtain ⟨T', h', X', e', W, st⟩ := stC X hx hZ eT A h1 hg hs hd
  exact ⟨T', h', X', e', W, h2 W, st⟩
theorem own_bastore (X : Stand p l e R s m args below meth c T locs cells slots) (hx : p.tables.exec = Jvm.exec) (hZ : Z.Warmed39 s.vm) (eT : T.heap = h) (V : Arx Z h a .byte vs) {j x : Int32} (h0 : ¬ j < 0) (hj : j.toNatClampNeg < vs.length) {g : JFrame} (hg : g.method = m) {rest : List Value} (hs : g.stack = .int x :: .int j :: .ref a :: rest) (hd : decode c.code g.pc = .ok (.bastore, 1)) :
    ∃ T' h', Stand p l e R s m args below meth c T' (locs ++ [⟨a, j.toNatClampNeg⟩]) cells slots ∧ T'.heap = h' ∧ Wr h h' a j.toNatClampNeg (.int (nar .byte x)) ∧ Arx Z h' a .byte (vs.set j.toNatClampNeg (.int (nar .byte x))) ∧ ∀ t, Steps p.tables e below (T'.setTop { g with pc := g.pc + 1, stack := rest }) t → Steps p.tables e below (T.setTop g) t := by
  obtain ⟨cl, A, h1, h2⟩ := V.put (v := .int (nar .byte x)) h0 hj (fits_nar_byte _)
  obtain ⟨T', h', X', e', W, st⟩ := stB X hx hZ eT A h1 hg hs hd
  exact ⟨T', h', X', e', W, h2 W, st⟩
theorem own_newarr (X : Stand p l e R s m args below meth c T locs cells slots) (hx : p.tables.exec = Jvm.exec) (hZ : Z.Warmed39 s.vm) {aty : ArrayType} (w : (Jvm.Cond.arrayClass (newarray.typeOf aty)).before a0 Z = true) (eT : T.heap = h) {g : JFrame} (hg : g.method = m) (hd : decode c.code g.pc = .ok (.newarray aty, 2)) {n : Int32} {rest : List Value} (hs : g.stack = .int n :: rest)
    (hn : ¬ n < 0) {cap : Nat} (hcap : n.toNatClampNeg ≤ cap) (hb : cap * 8 ≤ 536870912) (hc : cells + 1 ≤ R.cells) (hl : slots + cap ≤ R.slots) {ad : String} (had : "[" ++ (newarray.typeOf aty).toString = ad) :
    ∃ T' h' a, a = h.size ∧ Stand p l e R s m args below meth c T' locs (cells + 1) (slots + cap) ∧ T'.heap = h' ∧ Ext h h' ∧ Arx Z h' a (newarray.typeOf aty) (List.replicate n.toNatClampNeg (defaultValue (newarray.typeOf aty))) ∧ Exa Z h' a ad ∧
      ∀ t, Steps p.tables e below (T'.setTop { g with pc := g.pc + 2, stack := .ref a :: rest }) t → Steps p.tables e below (T.setTop g) t := by
  obtain ⟨T', h', cA, X', e', E, A, Ex, st⟩ := newPE X hx hZ w eT hg hd hs hn hcap hb hc hl had
  have b := back32 hn
  refine ⟨T', h', _, rfl, X', e', E, ⟨by rw [List.length_replicate]; exact b.2, cA, defaultValue (newarray.typeOf aty), ?_⟩, Ex, st⟩
  rw [List.length_replicate, show Int32.ofNat n.toNatClampNeg = n from b.1]
  exact (Arv.new A hn).pad (pad_rep [] _ _)
theorem own_clone (X : Stand p l e R s m args below meth c T locs cells slots) (hx : p.tables.exec = Jvm.exec) (hZ : Z.Warmed39 s.vm) {own ad : String} {index : Nat} (hown : s.vm.findClass own = some m.cls)
    (w1 : (Jvm.Cond.methodLink own index ⟨ad, "clone", "()Ljava/lang/Object;"⟩).before a0 Z = true) (w2 : (Jvm.Cond.sameMethod ad "java/lang/Object" "clone" "()Ljava/lang/Object;").before a0 Z = true) (w3 : (Jvm.Cond.native ⟨"java/lang/Object", "clone", "()Ljava/lang/Object;"⟩).before a0 Z = true)
    (w4 : (Jvm.Cond.instanceMethod ⟨"java/lang/Object", "clone", "()Ljava/lang/Object;"⟩).before a0 Z = true) (w5 : (Jvm.Cond.selects ad ⟨ad, "clone", "()Ljava/lang/Object;"⟩ ⟨"java/lang/Object", "clone", "()Ljava/lang/Object;"⟩).before a0 Z = true) (w6 : (Jvm.Cond.castable ad "java/lang/Cloneable").before a0 Z = true)
    (eT : T.heap = h) (V : Arx Z h a ty vs) (E : Exa Z h a ad) {g : JFrame} (hg : g.method = m) (hsize : g.locals.size = c.maxLocals) {rest : List Value} (hst : g.stack = .ref a :: rest) (hd : decode c.code g.pc = .ok (.invokevirtual index, 3))
    (hf : 1 ≤ R.frames) {W cap : Nat} (hW : 2 * g.monitorRoom + (rest.map fun v => v.category).sum ≤ W) (hl : W + 14 ≤ R.locals) (hcap : vs.length ≤ cap) (hc : cells + 1 ≤ R.cells) (hsl : slots + cap ≤ R.slots) :
    ∃ T' h' b, b = h.size ∧ Stand p l e R s m args below meth c T' locs (cells + 1) (slots + cap) ∧ T'.heap = h' ∧ Ext h h' ∧ Arx Z h' b ty vs ∧ Exa Z h' b ad ∧
      ∀ t, Steps p.tables e below (T'.setTop { g with pc := g.pc + 3, stack := .ref b :: rest }) t → Steps p.tables e below (T.setTop g) t := by
  obtain ⟨q, k, dv, V⟩ := V
  obtain ⟨T', h', X', e', ex, V', E', st⟩ := cloneH X hx hZ hown w1 w2 w3 w4 w5 w6 eT V.arh E hg hsize hst hd hf hW hl (by rw [own_clamp q]; exact hcap) hc hsl
  exact ⟨T', h', _, rfl, X', e', ex, ⟨q, k, dv, V'⟩, E', st⟩
end Own
theorem own_dupX2 {tb : Tables} [Ours tb] {e : Env} {below : List Frame} {T target : State} {m : MethodId} {c : Code} {g : JFrame} (h : At T m c below) (hx : tb.exec = Jvm.exec) (hg : g.method = m) {x y z : Value} {rest : List Value} (hd : decode c.code g.pc = .ok (.dup_x2, 1)) (hs : g.stack = x :: y :: z :: rest) (h1 : x.category = 1) (h2 : y.category = 1) (h3 : z.category = 1)
    (hr : Steps tb e below (T.setTop { g with pc := g.pc + 1, stack := x :: y :: z :: x :: rest }) target) : Steps tb e below (T.setTop g) target := by
  subst hg
  jvm_step h [h.top, hx, hd, hs, h1, h2, h3]
  exact hr
section Own2
variable {p : Program} {l : Launch} {e : Env} {R : Room} {s : State} {m : MethodId} {args : Array Value} {below : List Frame} {meth : Method} {c : Code} {T : State} {locs : List Loc} {cells slots : Nat} {Z : State} {a0 : Array Value} {h h' : Heap} {a b : Addr} {vs : List Value}
/-- an array of int arrays, whose class is known to take them -/
def Ary (Z : State) (h : Heap) (a : Addr) (vs : List Value) : Prop := vs.length < 2 ^ 31 ∧ ∃ k, OvrA Z k .int "[I" ∧ Arv Z h a k (.array .int) (Int32.ofNat vs.length) vs .null
theorem Ary.lt (V : Ary Z h a vs) : a < h.size := by obtain ⟨_, k, O, V⟩ := V; exact V.lt
theorem Ary.ext (V : Ary Z h a vs) (E : Ext h h') : Ary Z h' a vs := by obtain ⟨q, k, O, V⟩ := V; exact ⟨q, k, O, V.ext E⟩
theorem Ary.other {sl : Nat} {v : Value} (V : Ary Z h b vs) (W : Wr h h' a sl v) (n : b ≠ a) : Ary Z h' b vs := by obtain ⟨q, k, O, V⟩ := V; exact ⟨q, k, O, V.other W n⟩
theorem Ary.arx (V : Ary Z h a vs) : Arx Z h a (.array .int) vs := by obtain ⟨q, k, O, V⟩ := V; exact ⟨q, k, _, V⟩
theorem own_newRA (X : Stand p l e R s m args below meth c T locs cells slots) (hx : p.tables.exec = Jvm.exec) (hZ : Z.Warmed39 s.vm) {own : String} {index : Nat} (hown : s.vm.findClass own = some m.cls) (w1 : (Jvm.Cond.classLink own index "[I").before a0 Z = true) (w2 : (Jvm.Cond.arrayOver (.array .int)).before a0 Z = true) (eT : T.heap = h) {g : JFrame} (hg : g.method = m) (hd : decode c.code g.pc = .ok (.anewarray index, 3)) {n : Int32} {rest : List Value} (hs : g.stack = .int n :: rest)
    (hn : ¬ n < 0) {cap : Nat} (hcap : n.toNatClampNeg ≤ cap) (hb : cap * 8 ≤ 536870912) (hc : cells + 1 ≤ R.cells) (hl : slots + cap ≤ R.slots) :
    ∃ T' h' a, a = h.size ∧ Stand p l e R s m args below meth c T' locs (cells + 1) (slots + cap) ∧ T'.heap = h' ∧ Ext h h' ∧ Ary Z h' a (List.replicate n.toNatClampNeg .null) ∧ Exa Z h' a "[[I" ∧
      ∀ t, Steps p.tables e below (T'.setTop { g with pc := g.pc + 3, stack := .ref a :: rest }) t → Steps p.tables e below (T.setTop g) t := by
  obtain ⟨T', h', cA, X', e', E, A, Ex, O, st⟩ := newRA X hx hZ hown (C := "[I") (ty := .int) (by decide) w1 w2 eT hg hd hs hn hcap hb hc hl (ad := "[[I") (by decide)
  have b := back32 hn
  refine ⟨T', h', _, rfl, X', e', E, ⟨by rw [List.length_replicate]; exact b.2, cA, O, ?_⟩, Ex, st⟩
  rw [List.length_replicate, show Int32.ofNat n.toNatClampNeg = n from b.1]
  exact (Arv.new A hn).pad (pad_rep [] _ _)
theorem own_aastore (X : Stand p l e R s m args below meth c T locs cells slots) (hx : p.tables.exec = Jvm.exec) (hZ : Z.Warmed39 s.vm) (eT : T.heap = h) (V : Ary Z h a vs) {y : Addr} (I : Ins Z h y "[I" true) {j : Int32} (h0 : ¬ j < 0) (hj : j.toNatClampNeg < vs.length) {g : JFrame} (hg : g.method = m) {rest : List Value} (hs : g.stack = .ref y :: .int j :: .ref a :: rest) (hd : decode c.code g.pc = .ok (.aastore, 1)) :
    ∃ T' h', Stand p l e R s m args below meth c T' (locs ++ [⟨a, j.toNatClampNeg⟩]) cells slots ∧ T'.heap = h' ∧ Wr h h' a j.toNatClampNeg (.ref y) ∧ Ary Z h' a (vs.set j.toNatClampNeg (.ref y)) ∧ ∀ t, Steps p.tables e below (T'.setTop { g with pc := g.pc + 1, stack := rest }) t → Steps p.tables e below (T.setTop g) t := by
  obtain ⟨q, k, O, cl, A, q1, S, N, H, G⟩ := V
  obtain ⟨T', h', X', e', W, st⟩ := stR X hx hZ eT A (fun q' => q'.elim h0 (by rw [S, own_clamp q]; exact Nat.not_le.mpr hj)) rfl (Sto.ofVA A q1 O I) hg hs hd
  exact ⟨T', h', X', e', W, ⟨by rw [List.length_set]; exact q, k, O, by rw [List.length_set]; exact Arv.set A q1 S N H G rfl W _ rfl hj⟩, st⟩
end Own2
theorem own_nat {i : Int32} {n : Nat} (h : i.toInt = n) : i.toNatClampNeg = n := by simp only [Int32.toNatClampNeg, h]; rfl
theorem own_nn {i : Int32} (h : 0 ≤ i.toInt) : ¬ i < 0 := fun q => absurd (Int32.lt_iff_toInt_lt.mp q) (by show ¬ i.toInt < 0; omega)
theorem own_onn {x : Nat} (h : x ≤ 6) : ¬ Int32.ofNat x < 0 := own_nn (by rw [own_ofNat (by omega)]; omega)
theorem own_ocl {x : Nat} (h : x ≤ 6) : (Int32.ofNat x).toNatClampNeg = x := own_clamp (by omega)
def cn (ms : List Int32) (c : Int32) : Nat → Nat
  | 0 => 0
  | i + 1 => cn ms c i + (if ms[i]? = some c then 1 else 0)
theorem cn_le (ms : List Int32) (c : Int32) (i : Nat) : cn ms c i ≤ i := by
  induction i with
  | zero => exact Nat.le_refl _
  | succ i ih => unfold cn; split <;> omega
theorem cn_step (ms : List Int32) (c : Int32) (i : Nat) : cn ms c i ≤ cn ms c (i + 1) := Nat.le_add_right _ _
theorem cn_mono (ms : List Int32) (c : Int32) {i j : Nat} (h : i ≤ j) : cn ms c i ≤ cn ms c j := by
  induction h with
  | refl => exact Nat.le_refl _
  | step _ ih => exact Nat.le_trans ih (cn_step ms c _)
theorem cn_yes {ms : List Int32} {c : Int32} {i : Nat} (h : ms[i]? = some c) : cn ms c (i + 1) = cn ms c i + 1 := by
  show cn ms c i + _ = _; rw [if_pos h]
theorem cn_no {ms : List Int32} {c : Int32} {i : Nat} (h : ms[i]? ≠ some c) : cn ms c (i + 1) = cn ms c i := by
  show cn ms c i + _ = _; rw [if_neg h]; rfl
theorem cn_lt {ms : List Int32} {c : Int32} {i j : Nat} (h : ms[i]? = some c) (q : i < j) : cn ms c i < cn ms c j := by
  have := cn_yes h; have := cn_mono ms c (show i + 1 ≤ j from q); omega
theorem cn_end (ms : List Int32) (c : Int32) {j : Nat} (h : ms.length ≤ j) : cn ms c j = cn ms c ms.length := by
  induction h with
  | refl => rfl
  | step h ih => rw [cn_no (by rw [List.getElem?_eq_none h]; simp), ih]
theorem own_cn1 {ms : List Int32} {c : Int32} {i : Nat} (h : ms[i]? = some c) : Int32.ofNat (cn ms c (i + 1)) = Int32.ofNat (cn ms c i) + 1 := by
  rw [cn_yes h, Int32.ofNat_add]; rfl
theorem own_cn0 {ms : List Int32} {y : Int32} (c : Int32) {i : Nat} (h : ms[i]? = some y) (q : y ≠ c) : cn ms c (i + 1) = cn ms c i := cn_no (by rw [h]; intro z; exact q (Option.some.inj z))
theorem own_at (ms : List Int32) (c : Int32) (i : Nat) : Int32.ofNat (cn ms c i) + (if ms[i]? = some c then (1 : Int32) else 0) = Int32.ofNat (cn ms c (i + 1)) := by
  by_cases h : ms[i]? = some c
  · rw [if_pos h, own_cn1 h]
  · rw [if_neg h, cn_no h]; simp
def Row (ms : List Int32) (c : Int32) (n i : Nat) (vs : List Int32) : Prop := vs.length = cn ms c n ∧ ∀ j, j < i → ms[j]? = some c → vs[cn ms c j]? = some (Int32.ofNat j)
theorem Row.new (ms : List Int32) (c : Int32) (n : Nat) : Row ms c n 0 (List.replicate (cn ms c n) 0) := ⟨List.length_replicate, fun j h => absurd h (Nat.not_lt_zero j)⟩
theorem Row.put {ms : List Int32} {c : Int32} {n i : Nat} {vs : List Int32} (R : Row ms c n i vs) (h : ms[i]? = some c) (q : i < n) : Row ms c n (i + 1) (vs.set (cn ms c i) (Int32.ofNat i)) := by
  refine ⟨by rw [List.length_set]; exact R.1, fun j hj hm => ?_⟩
  by_cases e : j = i
  · subst e
    rw [List.getElem?_set_self (by rw [R.1]; exact cn_lt h q)]
  · rw [List.getElem?_set_ne (by have := cn_lt hm (show j < i by omega); omega)]
    exact R.2 j (by omega) hm
theorem Row.skip {ms : List Int32} {y c : Int32} {n i : Nat} {vs : List Int32} (R : Row ms c n i vs) (h : ms[i]? = some y) (q : y ≠ c) : Row ms c n (i + 1) vs := by
  refine ⟨R.1, fun j hj hm => ?_⟩
  by_cases e : j = i
  · subst e; rw [h] at hm; exact absurd (Option.some.inj hm) q
  · exact R.2 j (by omega) hm
def Good (ms : List Int32) (i k : Nat) : Prop := ∀ j, j < i → ∀ y, ms[j]? = some y → -1 ≤ y.toInt ∧ y.toInt < k
def Rows (Z : State) (h : Heap) (ms : List Int32) (rs : List Addr) : Prop := ∀ c, c < rs.length → ∃ a vs, rs[c]? = some a ∧ Arx Z h a .int (vs.map Value.int) ∧ Row ms (Int32.ofNat c) ms.length ms.length vs
theorem own_mget {ms : List Int32} {i y : Int32} {n : Nat} (hi : i.toInt = n) (h : ms[n]? = some y) : (ms.map Value.int)[i.toNatClampNeg]? = some (.int y) := by rw [own_nat hi, List.getElem?_map, h]; rfl
theorem own_ml {vs : List Int32} : (Int32.ofNat (vs.map Value.int).length) = Int32.ofNat vs.length := by rw [List.length_map]
theorem own_rep {Z : State} {h : Heap} {a : Addr} {x : Nat} (q : x ≤ 6) (V : Arx Z h a .int (List.replicate (Int32.ofNat x).toNatClampNeg (.int (0 : Int32)))) : Arx Z h a .int ((List.replicate x (0 : Int32)).map Value.int) := by
  rw [own_ocl q] at V; rw [List.map_replicate]; exact V
theorem own_rset {Z : State} {h : Heap} {a : Addr} {x : Nat} {vs : List Int32} {y : Int32} (q : x ≤ 6) (V : Arx Z h a .int ((vs.map Value.int).set (Int32.ofNat x).toNatClampNeg (.int y))) : Arx Z h a .int ((vs.set x y).map Value.int) := by
  rw [own_ocl q] at V; rw [List.map_set]; exact V
theorem own_mset {Z : State} {h : Heap} {a : Addr} {x : Nat} {i : Int32} {vs : List Int32} {y : Int32} (q : i.toInt = x) (V : Arx Z h a .int ((vs.map Value.int).set i.toNatClampNeg (.int y))) : Arx Z h a .int ((vs.set x y).map Value.int) := by
  rw [own_nat q] at V; rw [List.map_set]; exact V
theorem Good.put {ms : List Int32} {i k : Nat} {y : Int32} (G : Good ms i k) (hy : -1 ≤ y.toInt ∧ y.toInt < k) : Good (ms.set i y) (i + 1) k := by
  intro j hj z hz
  by_cases e : j = i
  · subst e
    by_cases l : j < ms.length
    · rw [List.getElem?_set_self l] at hz; cases hz; exact hy
    · rw [List.getElem?_eq_none (by rw [List.length_set]; omega)] at hz; cases hz
  · rw [List.getElem?_set_ne (Ne.symm e)] at hz; exact G j (by omega) z hz
theorem Good.skip {ms : List Int32} {i k : Nat} (G : Good ms i k) (l : ms.length ≤ i) : Good ms (i + 1) k := by
  intro j hj z hz
  by_cases e : j = i
  · subst e; rw [List.getElem?_eq_none l] at hz; cases hz
  · exact G j (by omega) z hz
theorem d1_0 : decode method_3_code 0 = .ok (.iload_n 1, 1) := by decide +kernel
theorem d1_1 : decode method_3_code 1 = .ok (.aload_n 0, 1) := by decide +kernel
theorem d1_2 : decode method_3_code 2 = .ok (.arraylength, 1) := by decide +kernel
theorem d1_3 : decode method_3_code 3 = .ok (.if_icmp .ge 26, 3) := by decide +kernel
theorem d1_6 : decode method_3_code 6 = .ok (.lload_n 3, 1) := by decide +kernel
theorem d1_7 : decode method_3_code 7 = .ok (.iconst 3, 1) := by decide +kernel
theorem d1_8 : decode method_3_code 8 = .ok (.iload_n 1, 1) := by decide +kernel
theorem d1_9 : decode method_3_code 9 = .ok (.imul, 1) := by decide +kernel
theorem d1_10 : decode method_3_code 10 = .ok (.lushr, 1) := by decide +kernel
theorem d1_11 : decode method_3_code 11 = .ok (.ldc2_w 26, 3) := by decide +kernel
theorem d1_14 : decode method_3_code 14 = .ok (.land, 1) := by decide +kernel
theorem d1_15 : decode method_3_code 15 = .ok (.l2i, 1) := by decide +kernel
theorem d1_16 : decode method_3_code 16 = .ok (.istore 5, 2) := by decide +kernel
theorem d1_18 : decode method_3_code 18 = .ok (.aload_n 0, 1) := by decide +kernel
theorem d1_19 : decode method_3_code 19 = .ok (.iload_n 1, 1) := by decide +kernel
theorem d1_20 : decode method_3_code 20 = .ok (.iload 5, 2) := by decide +kernel
theorem d1_22 : decode method_3_code 22 = .ok (.iload_n 2, 1) := by decide +kernel
theorem d1_23 : decode method_3_code 23 = .ok (.iconst 1, 1) := by decide +kernel
theorem d1_24 : decode method_3_code 24 = .ok (.iadd, 1) := by decide +kernel
theorem d1_25 : decode method_3_code 25 = .ok (.irem, 1) := by decide +kernel
theorem d1_26 : decode method_3_code 26 = .ok (.iconst 1, 1) := by decide +kernel
theorem d1_27 : decode method_3_code 27 = .ok (.isub, 1) := by decide +kernel
theorem d1_28 : decode method_3_code 28 = .ok (.iastore, 1) := by decide +kernel
theorem d1_29 : decode method_3_code 29 = .ok (.return_, 1) := by decide +kernel
theorem pn_com_example_deft_shards_deftshards_cluster_KMeansMembersPinLaw : plainName "com/example/deft_shards/deftshards/cluster/KMeansMembersPinLaw" = true := by first | (simp [plainName, overriddenIn]; done) | decide +kernel
theorem ef_1 (m : MethodId) (x0 : Addr) (x1 : Int32) (x2 : Int32) (x3 : Int64) : entryFrame m #[(.ref x0), (.int x1), (.int x2), (.long x3)] 6 = mkF m 0 #[.val (.ref x0), .val (.int x1), .val (.int x2), .val (.long x3), .second, .unset] [] := by first | (simp [entryFrame, mkF, argsToLocals, Value.category]; done) | rfl
def Q1 (Z : State) (a1 : Addr) (p2 : Int32) (p3 : Int32) (q4 : Int64) (ms : List Int32) (iN kN : Nat) (h0 : Heap) (n0 : Nat) (v : Option Value) (h : Heap) (L : List Loc) : Prop := v = none ∧ Fr n0 L ∧ Keep h0 h [a1] ∧ ∃ ms' : List Int32, ms'.length = ms.length ∧ Good ms' (iN + 1) kN ∧ Arx Z h a1 .int (ms'.map Value.int)
set_option maxRecDepth 65536 in
set_option maxHeartbeats 40000000 in
theorem rm1 (l : Launch) (Z : State) (a0 : Array Value) (hw : ∀ d ∈ tables_1, d.before a0 Z = true) (ws : List Jvm.Cond) (a1 : Addr) (p2 : Int32) (p3 : Int32) (q4 : Int64) (ms : List Int32) (iN kN : Nat) (h0 : Heap) (n0 : Nat) (Z0 : n0 ≤ h0.size) (V_1 : Arx Z h0 a1 .int (ms.map Value.int)) (g_1 : n0 ≤ a1) (hi : p2.toInt = iN) (hi6 : iN < 6) (hk : p3.toInt = kN) (hk4 : kN ≤ 4) (hn6 : ms.length ≤ 6) (hG : Good ms iN kN) :
    own_CT l Z (⟨"com/example/deft_shards/deftshards/cluster/KMeansMembersPinLaw", "set", "([IIIJ)V"⟩ : MethodName) method_3_code 6 none ws ({ frames := 0, cells := 0, slots := 0, locals := 0 } : Room) #[(.ref a1), (.int p2), (.int p3), (.long q4)] h0 (Q1 Z a1 p2 p3 q4 ms iN kN h0 n0) := by
  refine MetFree.of_bodySF (plainFor_of_name pn_com_example_deft_shards_deftshards_cluster_KMeansMembersPinLaw) hisR ?_
  intro p e s m args below meth c s₁ Bd hml0 hP hK
  obtain ⟨rfl, hZ, hh⟩ := hP
  have hx := Bd.exec
  have hby := Bd.bytes
  have hml : c.maxLocals = 6 := hml0
  have hown : s.vm.findClass "com/example/deft_shards/deftshards/cluster/KMeansMembersPinLaw" = some m.cls := findClass_of_methodNamed Bd.named
  have hnm := (name_of_methodNamed Bd.named Bd.method).1
  have hlk : meth.locks = false := BodyLoose.notSynchronized Bd
  have X0 : Stand p l e ({ frames := 0, cells := 0, slots := 0, locals := 0 } : Room) s m #[(.ref a1), (.int p2), (.int p3), (.long q4)] below meth c s₁ [] 0 0 := Stand.of_body Bd
  have e0 : s₁.heap = h0 := by rw [← hh, Bd.state]; rfl
  have N0 := Fr.nil n0
  show GG p e below s ({ frames := 0, cells := 0, slots := 0, locals := 0 } : Room).cells ({ frames := 0, cells := 0, slots := 0, locals := 0 } : Room).slots (Q1 Z a1 p2 p3 q4 ms iN kN h0 n0) s₁ (entryFrame m #[(.ref a1), (.int p2), (.int p3), (.long q4)] 6)
  refine own_in (ef_1 m a1 p2 p3 q4) ?_
  have K0 := Keep.refl h0 [a1]
  show GG _ _ _ _ _ _ _ s₁ (mkF m 0 #[.val (.ref a1), .val (.int p2), .val (.int p3), .val (.long q4), .second, .unset] [])
  refine own_go (fun _ => XS.iloadN X0.here hx rfl (hb hby d1_0) rfl) ?_
  show GG _ _ _ _ _ _ _ s₁ (mkF m 1 #[.val (.ref a1), .val (.int p2), .val (.int p3), .val (.long q4), .second, .unset] [(.int p2)])
  refine own_go (fun _ => XS.aloadN X0.here hx rfl (hb hby d1_1) rfl rfl) ?_
  show GG _ _ _ _ _ _ _ s₁ (mkF m 2 #[.val (.ref a1), .val (.int p2), .val (.int p3), .val (.long q4), .second, .unset] [(.ref a1), (.int p2)])
  refine own_go (fun _ => own_len X0 hx hZ e0 V_1 (g := (mkF m 2 #[.val (.ref a1), .val (.int p2), .val (.int p3), .val (.long q4), .second, .unset] [(.ref a1), (.int p2)])) rfl rfl (hb hby d1_2) _) ?_
  show GG _ _ _ _ _ _ _ s₁ (mkF m 3 #[.val (.ref a1), .val (.int p2), .val (.int p3), .val (.long q4), .second, .unset] [(.int (Int32.ofNat (ms.map Value.int).length)), (.int p2)])
  generalize hy1 : (Int32.ofNat (ms.map Value.int).length) = y1
  have dy1 : y1.toInt = (ms.length : Nat) := by rw [← hy1, List.length_map]; exact own_ofNat (by omega)
  by_cases hc3 : p2 < y1
  · skip
    have ihc3 : (p2.toInt < y1.toInt) := Int32.lt_iff_toInt_lt.mp hc3
    refine own_go (fun _ => XS.icmpNo X0.here hx rfl (hb hby d1_3) rfl (tlt hc3).2.1) ?_
    show GG _ _ _ _ _ _ _ s₁ (mkF m 6 #[.val (.ref a1), .val (.int p2), .val (.int p3), .val (.long q4), .second, .unset] [])
    refine own_go (fun _ => XS.lloadN X0.here hx rfl (hb hby d1_6) rfl) ?_
    show GG _ _ _ _ _ _ _ s₁ (mkF m 7 #[.val (.ref a1), .val (.int p2), .val (.int p3), .val (.long q4), .second, .unset] [(.long q4)])
    refine own_go (fun _ => XS.iconst X0.here hx rfl (hb hby d1_7)) ?_
    show GG _ _ _ _ _ _ _ s₁ (mkF m 8 #[.val (.ref a1), .val (.int p2), .val (.int p3), .val (.long q4), .second, .unset] [(.int (3 : Int32)), (.long q4)])
    refine own_go (fun _ => XS.iloadN X0.here hx rfl (hb hby d1_8) rfl) ?_
    show GG _ _ _ _ _ _ _ s₁ (mkF m 9 #[.val (.ref a1), .val (.int p2), .val (.int p3), .val (.long q4), .second, .unset] [(.int p2), (.int (3 : Int32)), (.long q4)])
    refine own_go (fun _ => XS.imul X0.here hx rfl (hb hby d1_9) rfl) ?_
    show GG _ _ _ _ _ _ _ s₁ (mkF m 10 #[.val (.ref a1), .val (.int p2), .val (.int p3), .val (.long q4), .second, .unset] [(.int ((3 : Int32) * p2)), (.long q4)])
    have cx2 := c_imul (3 : Int32) p2
    simp only [show ((3 : Int32)).toInt = 3 from by decide] at cx2
    generalize hx2 : ((3 : Int32) * p2) = x2 at cx2 ⊢
    have rx2 := rng32 x2
    have dx2 : x2.toInt = 3 * p2.toInt := by omega
    clear cx2
    refine own_go (fun _ => XS.lushr X0.here hx rfl (hb hby d1_10) rfl) ?_
    show GG _ _ _ _ _ _ _ s₁ (mkF m 11 #[.val (.ref a1), .val (.int p2), .val (.int p3), .val (.long q4), .second, .unset] [(.long ((q4.toUInt64 >>> (x2 &&& 0x3f).toInt64.toUInt64).toInt64))])
    generalize hx3 : ((q4.toUInt64 >>> (x2 &&& 0x3f).toInt64.toUInt64).toInt64) = x3
    have rx3 := rng64 x3
    refine own_go (fun _ => X0.ldc2Long hx hown (mvT hZ (hw _ (List.mem_of_getElem? (i := 5) rfl))) (g := (mkF m 11 #[.val (.ref a1), .val (.int p2), .val (.int p3), .val (.long q4), .second, .unset] [(.long x3)])) rfl (hb hby d1_11) _) ?_
    show GG _ _ _ _ _ _ _ s₁ (mkF m 14 #[.val (.ref a1), .val (.int p2), .val (.int p3), .val (.long q4), .second, .unset] [(.long (7 : Int64)), (.long x3)])
    refine own_go (fun _ => XS.land X0.here hx rfl (hb hby d1_14) rfl) ?_
    show GG _ _ _ _ _ _ _ s₁ (mkF m 15 #[.val (.ref a1), .val (.int p2), .val (.int p3), .val (.long q4), .second, .unset] [(.long (x3 &&& (7 : Int64)))])
    have cx4 := c_maskL x3 (7 : Int64) 3 (by decide) (by decide)
    generalize hx4 : (x3 &&& (7 : Int64)) = x4 at cx4 ⊢
    have rx4 := rng64 x4
    refine own_go (fun _ => XS.l2i X0.here hx rfl (hb hby d1_15) rfl) ?_
    show GG _ _ _ _ _ _ _ s₁ (mkF m 16 #[.val (.ref a1), .val (.int p2), .val (.int p3), .val (.long q4), .second, .unset] [(.int (x4.toInt32))])
    have cx5 := c_l2i x4
    generalize hx5 : (x4.toInt32) = x5 at cx5 ⊢
    have rx5 := rng32 x5
    have dx5 : x5.toInt = x4.toInt := by omega
    clear cx5
    refine own_go (fun _ => XS.istore X0.here hx rfl (hb hby d1_16) rfl (l' := #[.val (.ref a1), .val (.int p2), .val (.int p3), .val (.long q4), .second, .val (.int x5)]) rfl) ?_
    show GG _ _ _ _ _ _ _ s₁ (mkF m 18 #[.val (.ref a1), .val (.int p2), .val (.int p3), .val (.long q4), .second, .val (.int x5)] [])
    refine own_go (fun _ => XS.aloadN X0.here hx rfl (hb hby d1_18) rfl rfl) ?_
    show GG _ _ _ _ _ _ _ s₁ (mkF m 19 #[.val (.ref a1), .val (.int p2), .val (.int p3), .val (.long q4), .second, .val (.int x5)] [(.ref a1)])
    refine own_go (fun _ => XS.iloadN X0.here hx rfl (hb hby d1_19) rfl) ?_
    show GG _ _ _ _ _ _ _ s₁ (mkF m 20 #[.val (.ref a1), .val (.int p2), .val (.int p3), .val (.long q4), .second, .val (.int x5)] [(.int p2), (.ref a1)])
    refine own_go (fun _ => XS.iload X0.here hx rfl (hb hby d1_20) rfl) ?_
    show GG _ _ _ _ _ _ _ s₁ (mkF m 22 #[.val (.ref a1), .val (.int p2), .val (.int p3), .val (.long q4), .second, .val (.int x5)] [(.int x5), (.int p2), (.ref a1)])
    refine own_go (fun _ => XS.iloadN X0.here hx rfl (hb hby d1_22) rfl) ?_
    show GG _ _ _ _ _ _ _ s₁ (mkF m 23 #[.val (.ref a1), .val (.int p2), .val (.int p3), .val (.long q4), .second, .val (.int x5)] [(.int p3), (.int x5), (.int p2), (.ref a1)])
    refine own_go (fun _ => XS.iconst X0.here hx rfl (hb hby d1_23)) ?_
    show GG _ _ _ _ _ _ _ s₁ (mkF m 24 #[.val (.ref a1), .val (.int p2), .val (.int p3), .val (.long q4), .second, .val (.int x5)] [(.int (1 : Int32)), (.int p3), (.int x5), (.int p2), (.ref a1)])
    refine own_go (fun _ => XS.iadd X0.here hx rfl (hb hby d1_24) rfl) ?_
    show GG _ _ _ _ _ _ _ s₁ (mkF m 25 #[.val (.ref a1), .val (.int p2), .val (.int p3), .val (.long q4), .second, .val (.int x5)] [(.int (p3 + (1 : Int32))), (.int x5), (.int p2), (.ref a1)])
    have cx6 := c_iadd p3 (1 : Int32)
    simp only [show ((1 : Int32)).toInt = 1 from by decide] at cx6
    generalize hx6 : (p3 + (1 : Int32)) = x6 at cx6 ⊢
    have rx6 := rng32 x6
    have dx6 : x6.toInt = p3.toInt + 1 := by omega
    clear cx6
    have hnz : x6 ≠ 0 := fun q => absurd (Int32.toInt_inj.mpr q) (by show ¬ x6.toInt = 0; omega)
    refine own_go (fun _ => iremM X0 hx rfl (hb hby d1_25) rfl hnz) ?_
    show GG _ _ _ _ _ _ _ s₁ (mkF m 26 #[.val (.ref a1), .val (.int p2), .val (.int p3), .val (.long q4), .second, .val (.int x5)] [(.int (x5 % x6)), (.int p2), (.ref a1)])
    have cx7 := c_iremV x5 x6
    generalize hx7 : (x5 % x6) = x7 at cx7 ⊢
    have rx7 := rng32 x7
    have qx7 := cx7.1 (by omega) (by omega)
    clear cx7
    refine own_go (fun _ => XS.iconst X0.here hx rfl (hb hby d1_26)) ?_
    show GG _ _ _ _ _ _ _ s₁ (mkF m 27 #[.val (.ref a1), .val (.int p2), .val (.int p3), .val (.long q4), .second, .val (.int x5)] [(.int (1 : Int32)), (.int x7), (.int p2), (.ref a1)])
    refine own_go (fun _ => XS.isub X0.here hx rfl (hb hby d1_27) rfl) ?_
    show GG _ _ _ _ _ _ _ s₁ (mkF m 28 #[.val (.ref a1), .val (.int p2), .val (.int p3), .val (.long q4), .second, .val (.int x5)] [(.int (x7 - (1 : Int32))), (.int p2), (.ref a1)])
    have cx8 := c_isub x7 (1 : Int32)
    simp only [show ((1 : Int32)).toInt = 1 from by decide] at cx8
    generalize hx8 : (x7 - (1 : Int32)) = x8 at cx8 ⊢
    have rx8 := rng32 x8
    have dx8 : x8.toInt = x7.toInt - 1 := by omega
    clear cx8
    obtain ⟨T9, h9, X9, e9, W9, V9, st9⟩ := own_iastore X0 hx hZ e0 V_1 (own_nn (by omega)) (by rw [List.length_map, own_nat hi]; omega) (g := (mkF m 28 #[.val (.ref a1), .val (.int p2), .val (.int p3), .val (.long q4), .second, .val (.int x5)] [(.int x8), (.int p2), (.ref a1)])) rfl rfl (hb hby d1_28)
    have K0 := K0.wr W9 (Or.inl (List.mem_of_getElem? (i := 0) rfl))
    have V_1 : Arx Z h9 a1 .int ((ms.set iN x8).map Value.int) := (own_mset hi V9)
    have N9 := Fr.snoc X9 N0 g_1
    refine own_go (fun _ => st9 _) ?_
    show GG _ _ _ _ _ _ _ T9 (mkF m 29 #[.val (.ref a1), .val (.int p2), .val (.int p3), .val (.long q4), .second, .val (.int x5)] [])
    refine own_retV X9 hx hlk Bd.returns (hb hby d1_29) (by decide) (by decide) ?_
    show Q1 Z a1 p2 p3 q4 ms iN kN h0 n0 (none) T9.heap _
    rw [e9]
    exact ⟨rfl, N9, K0, _, List.length_set, hG.put ⟨by omega, by omega⟩, V_1⟩
  · skip
    have ihc3 : ¬ (p2.toInt < y1.toInt) := fun q => hc3 (Int32.lt_iff_toInt_lt.mpr q)
    refine own_go (fun _ => XS.icmpYes X0.here hx rfl (pc0 := 3) (pc' := 29) rfl (hb hby d1_3) rfl (flt hc3).2.1 (by decide) (by decide)) ?_
    show GG _ _ _ _ _ _ _ s₁ (mkF m 29 #[.val (.ref a1), .val (.int p2), .val (.int p3), .val (.long q4), .second, .unset] [])
    refine own_retV X0 hx hlk Bd.returns (hb hby d1_29) (by decide) (by decide) ?_
    show Q1 Z a1 p2 p3 q4 ms iN kN h0 n0 (none) s₁.heap _
    rw [e0]
    exact ⟨rfl, N0, K0, ms, rfl, hG.skip (by omega), V_1⟩
theorem d6_0 : decode method_4_code 0 = .ok (.iload_n 1, 1) := by decide +kernel
theorem d6_1 : decode method_4_code 1 = .ok (.aload_n 0, 1) := by decide +kernel
theorem d6_2 : decode method_4_code 2 = .ok (.arraylength, 1) := by decide +kernel
theorem d6_3 : decode method_4_code 3 = .ok (.if_icmp .ge 14, 3) := by decide +kernel
theorem d6_6 : decode method_4_code 6 = .ok (.aload_n 0, 1) := by decide +kernel
theorem d6_7 : decode method_4_code 7 = .ok (.iload_n 1, 1) := by decide +kernel
theorem d6_8 : decode method_4_code 8 = .ok (.iaload, 1) := by decide +kernel
theorem d6_9 : decode method_4_code 9 = .ok (.iload_n 2, 1) := by decide +kernel
theorem d6_10 : decode method_4_code 10 = .ok (.if_icmp .ne 7, 3) := by decide +kernel
theorem d6_13 : decode method_4_code 13 = .ok (.iconst 1, 1) := by decide +kernel
theorem d6_14 : decode method_4_code 14 = .ok (.goto 4, 3) := by decide +kernel
theorem d6_17 : decode method_4_code 17 = .ok (.iconst 0, 1) := by decide +kernel
theorem d6_18 : decode method_4_code 18 = .ok (.ireturn, 1) := by decide +kernel
theorem ef_6 (m : MethodId) (x0 : Addr) (x1 : Int32) (x2 : Int32) : entryFrame m #[(.ref x0), (.int x1), (.int x2)] 3 = mkF m 0 #[.val (.ref x0), .val (.int x1), .val (.int x2)] [] := by first | (simp [entryFrame, mkF, argsToLocals, Value.category]; done) | rfl
def Q6 (Z : State) (a1 : Addr) (p2 : Int32) (p3 : Int32) (ms : List Int32) (jN : Nat) (h0 : Heap) (n0 : Nat) (v : Option Value) (h : Heap) (L : List Loc) : Prop := v = some (.int (if ms[jN]? = some p3 then 1 else 0)) ∧ Fr n0 L ∧ h = h0
set_option maxRecDepth 65536 in
set_option maxHeartbeats 40000000 in
theorem rm6 (l : Launch) (Z : State) (a0 : Array Value) (hw : ∀ d ∈ tables_1, d.before a0 Z = true) (ws : List Jvm.Cond) (a1 : Addr) (p2 : Int32) (p3 : Int32) (ms : List Int32) (jN : Nat) (h0 : Heap) (n0 : Nat) (Z0 : n0 ≤ h0.size) (V_1 : Arx Z h0 a1 .int (ms.map Value.int)) (hj : p2.toInt = jN) (hn6 : ms.length ≤ 6) :
    own_CT l Z (⟨"com/example/deft_shards/deftshards/cluster/KMeansMembersPinLaw", "at", "([III)I"⟩ : MethodName) method_4_code 3 (some .int) ws ({ frames := 0, cells := 0, slots := 0, locals := 0 } : Room) #[(.ref a1), (.int p2), (.int p3)] h0 (Q6 Z a1 p2 p3 ms jN h0 n0) := by
  refine MetFree.of_bodySF (plainFor_of_name pn_com_example_deft_shards_deftshards_cluster_KMeansMembersPinLaw) hisR ?_
  intro p e s m args below meth c s₁ Bd hml0 hP hK
  obtain ⟨rfl, hZ, hh⟩ := hP
  have hx := Bd.exec
  have hby := Bd.bytes
  have hml : c.maxLocals = 3 := hml0
  have hown : s.vm.findClass "com/example/deft_shards/deftshards/cluster/KMeansMembersPinLaw" = some m.cls := findClass_of_methodNamed Bd.named
  have hnm := (name_of_methodNamed Bd.named Bd.method).1
  have hlk : meth.locks = false := BodyLoose.notSynchronized Bd
  have X0 : Stand p l e ({ frames := 0, cells := 0, slots := 0, locals := 0 } : Room) s m #[(.ref a1), (.int p2), (.int p3)] below meth c s₁ [] 0 0 := Stand.of_body Bd
  have e0 : s₁.heap = h0 := by rw [← hh, Bd.state]; rfl
  have N0 := Fr.nil n0
  show GG p e below s ({ frames := 0, cells := 0, slots := 0, locals := 0 } : Room).cells ({ frames := 0, cells := 0, slots := 0, locals := 0 } : Room).slots (Q6 Z a1 p2 p3 ms jN h0 n0) s₁ (entryFrame m #[(.ref a1), (.int p2), (.int p3)] 3)
  refine own_in (ef_6 m a1 p2 p3) ?_
  show GG _ _ _ _ _ _ _ s₁ (mkF m 0 #[.val (.ref a1), .val (.int p2), .val (.int p3)] [])
  refine own_go (fun _ => XS.iloadN X0.here hx rfl (hb hby d6_0) rfl) ?_
  show GG _ _ _ _ _ _ _ s₁ (mkF m 1 #[.val (.ref a1), .val (.int p2), .val (.int p3)] [(.int p2)])
  refine own_go (fun _ => XS.aloadN X0.here hx rfl (hb hby d6_1) rfl rfl) ?_
  show GG _ _ _ _ _ _ _ s₁ (mkF m 2 #[.val (.ref a1), .val (.int p2), .val (.int p3)] [(.ref a1), (.int p2)])
  refine own_go (fun _ => own_len X0 hx hZ e0 V_1 (g := (mkF m 2 #[.val (.ref a1), .val (.int p2), .val (.int p3)] [(.ref a1), (.int p2)])) rfl rfl (hb hby d6_2) _) ?_
  show GG _ _ _ _ _ _ _ s₁ (mkF m 3 #[.val (.ref a1), .val (.int p2), .val (.int p3)] [(.int (Int32.ofNat (ms.map Value.int).length)), (.int p2)])
  generalize hy1 : (Int32.ofNat (ms.map Value.int).length) = y1
  have dy1 : y1.toInt = (ms.length : Nat) := by rw [← hy1, List.length_map]; exact own_ofNat (by omega)
  by_cases hc3 : p2 < y1
  · skip
    have ihc3 : (p2.toInt < y1.toInt) := Int32.lt_iff_toInt_lt.mp hc3
    refine own_go (fun _ => XS.icmpNo X0.here hx rfl (hb hby d6_3) rfl (tlt hc3).2.1) ?_
    show GG _ _ _ _ _ _ _ s₁ (mkF m 6 #[.val (.ref a1), .val (.int p2), .val (.int p3)] [])
    obtain ⟨y, hy⟩ : ∃ y, ms[jN]? = some y := ⟨_, List.getElem?_eq_getElem (show jN < ms.length by omega)⟩
    refine own_go (fun _ => XS.aloadN X0.here hx rfl (hb hby d6_6) rfl rfl) ?_
    show GG _ _ _ _ _ _ _ s₁ (mkF m 7 #[.val (.ref a1), .val (.int p2), .val (.int p3)] [(.ref a1)])
    refine own_go (fun _ => XS.iloadN X0.here hx rfl (hb hby d6_7) rfl) ?_
    show GG _ _ _ _ _ _ _ s₁ (mkF m 8 #[.val (.ref a1), .val (.int p2), .val (.int p3)] [(.int p2), (.ref a1)])
    refine own_go (fun _ => own_iaload X0 hx hZ e0 V_1 (j := p2) (v := (.int y)) (own_nn (by omega)) (own_mget hj hy) (g := (mkF m 8 #[.val (.ref a1), .val (.int p2), .val (.int p3)] [(.int p2), (.ref a1)])) rfl rfl (hb hby d6_8) _) ?_
    show GG _ _ _ _ _ _ _ s₁ (mkF m 9 #[.val (.ref a1), .val (.int p2), .val (.int p3)] [(.int y)])
    refine own_go (fun _ => XS.iloadN X0.here hx rfl (hb hby d6_9) rfl) ?_
    show GG _ _ _ _ _ _ _ s₁ (mkF m 10 #[.val (.ref a1), .val (.int p2), .val (.int p3)] [(.int p3), (.int y)])
    by_cases hc10 : y = p3
    · skip
      have ihc10 : (y.toInt = p3.toInt) := Int32.toInt_inj.mpr hc10
      refine own_go (fun _ => XS.icmpNo X0.here hx rfl (hb hby d6_10) rfl (teq hc10).2) ?_
      show GG _ _ _ _ _ _ _ s₁ (mkF m 13 #[.val (.ref a1), .val (.int p2), .val (.int p3)] [])
      refine own_go (fun _ => XS.iconst X0.here hx rfl (hb hby d6_13)) ?_
      show GG _ _ _ _ _ _ _ s₁ (mkF m 14 #[.val (.ref a1), .val (.int p2), .val (.int p3)] [(.int (1 : Int32))])
      refine own_go (fun _ => XS.goto X0.here hx rfl (pc0 := 14) (pc' := 18) rfl (hb hby d6_14) (by decide) (by decide)) ?_
      show GG _ _ _ _ _ _ _ s₁ (mkF m 18 #[.val (.ref a1), .val (.int p2), .val (.int p3)] [(.int (1 : Int32))])
      refine own_ret X0 hx hlk (t := .int) (w := (.int (1 : Int32))) Bd.returns rfl (Or.inl ⟨rfl, by simp, _, rfl⟩) (hb hby d6_18) (by decide) (by decide) ?_
      show Q6 Z a1 p2 p3 ms jN h0 n0 (some (.int (1 : Int32))) s₁.heap _
      rw [e0]
      exact ⟨by rw [hy]; simp [hc10], N0, rfl⟩
    · skip
      have ihc10 : ¬ (y.toInt = p3.toInt) := fun q => hc10 (Int32.toInt_inj.mp q)
      refine own_go (fun _ => XS.icmpYes X0.here hx rfl (pc0 := 10) (pc' := 17) rfl (hb hby d6_10) rfl (feq hc10).2 (by decide) (by decide)) ?_
      show GG _ _ _ _ _ _ _ s₁ (mkF m 17 #[.val (.ref a1), .val (.int p2), .val (.int p3)] [])
      refine own_go (fun _ => XS.iconst X0.here hx rfl (hb hby d6_17)) ?_
      show GG _ _ _ _ _ _ _ s₁ (mkF m 18 #[.val (.ref a1), .val (.int p2), .val (.int p3)] [(.int (0 : Int32))])
      refine own_ret X0 hx hlk (t := .int) (w := (.int (0 : Int32))) Bd.returns rfl (Or.inl ⟨rfl, by simp, _, rfl⟩) (hb hby d6_18) (by decide) (by decide) ?_
      show Q6 Z a1 p2 p3 ms jN h0 n0 (some (.int (0 : Int32))) s₁.heap _
      rw [e0]
      exact ⟨by rw [hy]; simp [hc10], N0, rfl⟩
  · skip
    have ihc3 : ¬ (p2.toInt < y1.toInt) := fun q => hc3 (Int32.lt_iff_toInt_lt.mpr q)
    refine own_go (fun _ => XS.icmpYes X0.here hx rfl (pc0 := 3) (pc' := 17) rfl (hb hby d6_3) rfl (flt hc3).2.1 (by decide) (by decide)) ?_
    show GG _ _ _ _ _ _ _ s₁ (mkF m 17 #[.val (.ref a1), .val (.int p2), .val (.int p3)] [])
    refine own_go (fun _ => XS.iconst X0.here hx rfl (hb hby d6_17)) ?_
    show GG _ _ _ _ _ _ _ s₁ (mkF m 18 #[.val (.ref a1), .val (.int p2), .val (.int p3)] [(.int (0 : Int32))])
    refine own_ret X0 hx hlk (t := .int) (w := (.int (0 : Int32))) Bd.returns rfl (Or.inl ⟨rfl, by simp, _, rfl⟩) (hb hby d6_18) (by decide) (by decide) ?_
    show Q6 Z a1 p2 p3 ms jN h0 n0 (some (.int (0 : Int32))) s₁.heap _
    rw [e0]
    exact ⟨by rw [List.getElem?_eq_none (by omega)]; rfl, N0, rfl⟩
theorem pd___III_I_464 : parseMethodDescriptor "([III)I" = some ⟨[(.array .int), .int, .int], some .int⟩ := by decide +kernel
theorem d5_0 : decode method_5_code 0 = .ok (.iconst 0, 1) := by decide +kernel
theorem d5_1 : decode method_5_code 1 = .ok (.istore_n 3, 1) := by decide +kernel
theorem d5_2 : decode method_5_code 2 = .ok (.iconst 0, 1) := by decide +kernel
theorem d5_3 : decode method_5_code 3 = .ok (.iload_n 2, 1) := by decide +kernel
theorem d5_4 : decode method_5_code 4 = .ok (.if_icmp .ge 12, 3) := by decide +kernel
theorem d5_7 : decode method_5_code 7 = .ok (.iload_n 3, 1) := by decide +kernel
theorem d5_8 : decode method_5_code 8 = .ok (.aload_n 0, 1) := by decide +kernel
theorem d5_9 : decode method_5_code 9 = .ok (.iconst 0, 1) := by decide +kernel
theorem d5_10 : decode method_5_code 10 = .ok (.iload_n 1, 1) := by decide +kernel
theorem d5_11 : decode method_5_code 11 = .ok (.invokestatic 28, 3) := by decide +kernel
theorem d5_14 : decode method_5_code 14 = .ok (.iadd, 1) := by decide +kernel
theorem d5_15 : decode method_5_code 15 = .ok (.istore_n 3, 1) := by decide +kernel
theorem d5_16 : decode method_5_code 16 = .ok (.iconst 1, 1) := by decide +kernel
theorem d5_17 : decode method_5_code 17 = .ok (.iload_n 2, 1) := by decide +kernel
theorem d5_18 : decode method_5_code 18 = .ok (.if_icmp .ge 12, 3) := by decide +kernel
theorem d5_21 : decode method_5_code 21 = .ok (.iload_n 3, 1) := by decide +kernel
theorem d5_22 : decode method_5_code 22 = .ok (.aload_n 0, 1) := by decide +kernel
theorem d5_23 : decode method_5_code 23 = .ok (.iconst 1, 1) := by decide +kernel
theorem d5_24 : decode method_5_code 24 = .ok (.iload_n 1, 1) := by decide +kernel
theorem d5_25 : decode method_5_code 25 = .ok (.invokestatic 28, 3) := by decide +kernel
theorem d5_28 : decode method_5_code 28 = .ok (.iadd, 1) := by decide +kernel
theorem d5_29 : decode method_5_code 29 = .ok (.istore_n 3, 1) := by decide +kernel
theorem d5_30 : decode method_5_code 30 = .ok (.iconst 2, 1) := by decide +kernel
theorem d5_31 : decode method_5_code 31 = .ok (.iload_n 2, 1) := by decide +kernel
theorem d5_32 : decode method_5_code 32 = .ok (.if_icmp .ge 12, 3) := by decide +kernel
theorem d5_35 : decode method_5_code 35 = .ok (.iload_n 3, 1) := by decide +kernel
theorem d5_36 : decode method_5_code 36 = .ok (.aload_n 0, 1) := by decide +kernel
theorem d5_37 : decode method_5_code 37 = .ok (.iconst 2, 1) := by decide +kernel
theorem d5_38 : decode method_5_code 38 = .ok (.iload_n 1, 1) := by decide +kernel
theorem d5_39 : decode method_5_code 39 = .ok (.invokestatic 28, 3) := by decide +kernel
theorem d5_42 : decode method_5_code 42 = .ok (.iadd, 1) := by decide +kernel
theorem d5_43 : decode method_5_code 43 = .ok (.istore_n 3, 1) := by decide +kernel
theorem d5_44 : decode method_5_code 44 = .ok (.iconst 3, 1) := by decide +kernel
theorem d5_45 : decode method_5_code 45 = .ok (.iload_n 2, 1) := by decide +kernel
theorem d5_46 : decode method_5_code 46 = .ok (.if_icmp .ge 12, 3) := by decide +kernel
theorem d5_49 : decode method_5_code 49 = .ok (.iload_n 3, 1) := by decide +kernel
theorem d5_50 : decode method_5_code 50 = .ok (.aload_n 0, 1) := by decide +kernel
theorem d5_51 : decode method_5_code 51 = .ok (.iconst 3, 1) := by decide +kernel
theorem d5_52 : decode method_5_code 52 = .ok (.iload_n 1, 1) := by decide +kernel
theorem d5_53 : decode method_5_code 53 = .ok (.invokestatic 28, 3) := by decide +kernel
theorem d5_56 : decode method_5_code 56 = .ok (.iadd, 1) := by decide +kernel
theorem d5_57 : decode method_5_code 57 = .ok (.istore_n 3, 1) := by decide +kernel
theorem d5_58 : decode method_5_code 58 = .ok (.iconst 4, 1) := by decide +kernel
theorem d5_59 : decode method_5_code 59 = .ok (.iload_n 2, 1) := by decide +kernel
theorem d5_60 : decode method_5_code 60 = .ok (.if_icmp .ge 12, 3) := by decide +kernel
theorem d5_63 : decode method_5_code 63 = .ok (.iload_n 3, 1) := by decide +kernel
theorem d5_64 : decode method_5_code 64 = .ok (.aload_n 0, 1) := by decide +kernel
theorem d5_65 : decode method_5_code 65 = .ok (.iconst 4, 1) := by decide +kernel
theorem d5_66 : decode method_5_code 66 = .ok (.iload_n 1, 1) := by decide +kernel
theorem d5_67 : decode method_5_code 67 = .ok (.invokestatic 28, 3) := by decide +kernel
theorem d5_70 : decode method_5_code 70 = .ok (.iadd, 1) := by decide +kernel
theorem d5_71 : decode method_5_code 71 = .ok (.istore_n 3, 1) := by decide +kernel
theorem d5_72 : decode method_5_code 72 = .ok (.iconst 5, 1) := by decide +kernel
theorem d5_73 : decode method_5_code 73 = .ok (.iload_n 2, 1) := by decide +kernel
theorem d5_74 : decode method_5_code 74 = .ok (.if_icmp .ge 12, 3) := by decide +kernel
theorem d5_77 : decode method_5_code 77 = .ok (.iload_n 3, 1) := by decide +kernel
theorem d5_78 : decode method_5_code 78 = .ok (.aload_n 0, 1) := by decide +kernel
theorem d5_79 : decode method_5_code 79 = .ok (.iconst 5, 1) := by decide +kernel
theorem d5_80 : decode method_5_code 80 = .ok (.iload_n 1, 1) := by decide +kernel
theorem d5_81 : decode method_5_code 81 = .ok (.invokestatic 28, 3) := by decide +kernel
theorem d5_84 : decode method_5_code 84 = .ok (.iadd, 1) := by decide +kernel
theorem d5_85 : decode method_5_code 85 = .ok (.istore_n 3, 1) := by decide +kernel
theorem d5_86 : decode method_5_code 86 = .ok (.iload_n 3, 1) := by decide +kernel
theorem d5_87 : decode method_5_code 87 = .ok (.ireturn, 1) := by decide +kernel
theorem ef_5 (m : MethodId) (x0 : Addr) (x1 : Int32) (x2 : Int32) : entryFrame m #[(.ref x0), (.int x1), (.int x2)] 4 = mkF m 0 #[.val (.ref x0), .val (.int x1), .val (.int x2), .unset] [] := by first | (simp [entryFrame, mkF, argsToLocals, Value.category]; done) | rfl
def Q5 (Z : State) (a1 : Addr) (p2 : Int32) (p3 : Int32) (ms : List Int32) (uN : Nat) (h0 : Heap) (n0 : Nat) (v : Option Value) (h : Heap) (L : List Loc) : Prop := v = some (.int (Int32.ofNat (cn ms p2 uN))) ∧ Fr n0 L ∧ h = h0
set_option maxRecDepth 65536 in
set_option maxHeartbeats 40000000 in
theorem rm5 (l : Launch) (Z : State) (a0 : Array Value) (hw : ∀ d ∈ tables_1, d.before a0 Z = true) (ws : List Jvm.Cond) (a1 : Addr) (p2 : Int32) (p3 : Int32) (ms : List Int32) (uN : Nat) (h0 : Heap) (n0 : Nat) (Z0 : n0 ≤ h0.size) (V_1 : Arx Z h0 a1 .int (ms.map Value.int)) (hu : p3.toInt = uN) (hu6 : uN ≤ 6) (hn6 : ms.length ≤ 6) :
    own_CT l Z (⟨"com/example/deft_shards/deftshards/cluster/KMeansMembersPinLaw", "count", "([III)I"⟩ : MethodName) method_5_code 4 (some .int) ws ({ frames := 1, cells := 0, slots := 0, locals := 15 } : Room) #[(.ref a1), (.int p2), (.int p3)] h0 (Q5 Z a1 p2 p3 ms uN h0 n0) := by
  refine MetFree.of_bodySF (plainFor_of_name pn_com_example_deft_shards_deftshards_cluster_KMeansMembersPinLaw) hisR ?_
  intro p e s m args below meth c s₁ Bd hml0 hP hK
  obtain ⟨rfl, hZ, hh⟩ := hP
  have hx := Bd.exec
  have hby := Bd.bytes
  have hml : c.maxLocals = 4 := hml0
  have hown : s.vm.findClass "com/example/deft_shards/deftshards/cluster/KMeansMembersPinLaw" = some m.cls := findClass_of_methodNamed Bd.named
  have hnm := (name_of_methodNamed Bd.named Bd.method).1
  have hlk : meth.locks = false := BodyLoose.notSynchronized Bd
  have X0 : Stand p l e ({ frames := 1, cells := 0, slots := 0, locals := 15 } : Room) s m #[(.ref a1), (.int p2), (.int p3)] below meth c s₁ [] 0 0 := Stand.of_body Bd
  have e0 : s₁.heap = h0 := by rw [← hh, Bd.state]; rfl
  have N0 := Fr.nil n0
  show GG p e below s ({ frames := 1, cells := 0, slots := 0, locals := 15 } : Room).cells ({ frames := 1, cells := 0, slots := 0, locals := 15 } : Room).slots (Q5 Z a1 p2 p3 ms uN h0 n0) s₁ (entryFrame m #[(.ref a1), (.int p2), (.int p3)] 4)
  refine own_in (ef_5 m a1 p2 p3) ?_
  have hul : uN = 0 ∨ uN = 1 ∨ uN = 2 ∨ uN = 3 ∨ uN = 4 ∨ uN = 5 ∨ uN = 6 := by omega
  rcases hul with hul | hul | hul | hul | hul | hul | hul
  · skip
    show GG _ _ _ _ _ _ _ s₁ (mkF m 0 #[.val (.ref a1), .val (.int p2), .val (.int p3), .unset] [])
    refine own_go (fun _ => XS.iconst X0.here hx rfl (hb hby d5_0)) ?_
    show GG _ _ _ _ _ _ _ s₁ (mkF m 1 #[.val (.ref a1), .val (.int p2), .val (.int p3), .unset] [(.int (0 : Int32))])
    refine own_go (fun _ => XS.istoreN X0.here hx rfl (hb hby d5_1) rfl (l' := #[.val (.ref a1), .val (.int p2), .val (.int p3), .val (.int (0 : Int32))]) rfl) ?_
    show GG _ _ _ _ _ _ _ s₁ (mkF m 2 #[.val (.ref a1), .val (.int p2), .val (.int p3), .val (.int (0 : Int32))] [])
    refine own_go (fun _ => XS.iconst X0.here hx rfl (hb hby d5_2)) ?_
    show GG _ _ _ _ _ _ _ s₁ (mkF m 3 #[.val (.ref a1), .val (.int p2), .val (.int p3), .val (.int (0 : Int32))] [(.int (0 : Int32))])
    refine own_go (fun _ => XS.iloadN X0.here hx rfl (hb hby d5_3) rfl) ?_
    show GG _ _ _ _ _ _ _ s₁ (mkF m 4 #[.val (.ref a1), .val (.int p2), .val (.int p3), .val (.int (0 : Int32))] [(.int p3), (.int (0 : Int32))])
    have hc4 : ¬ ((0 : Int32) < p3) := (fun q => absurd (Int32.lt_iff_toInt_lt.mp q) ((by show ¬ (0 < p3.toInt); omega : ¬ (0 < p3.toInt))))
    refine own_go (fun _ => XS.icmpYes X0.here hx rfl (pc0 := 4) (pc' := 16) rfl (hb hby d5_4) rfl (flt hc4).2.1 (by decide) (by decide)) ?_
    show GG _ _ _ _ _ _ _ s₁ (mkF m 16 #[.val (.ref a1), .val (.int p2), .val (.int p3), .val (.int (0 : Int32))] [])
    refine own_go (fun _ => XS.iconst X0.here hx rfl (hb hby d5_16)) ?_
    show GG _ _ _ _ _ _ _ s₁ (mkF m 17 #[.val (.ref a1), .val (.int p2), .val (.int p3), .val (.int (0 : Int32))] [(.int (1 : Int32))])
    refine own_go (fun _ => XS.iloadN X0.here hx rfl (hb hby d5_17) rfl) ?_
    show GG _ _ _ _ _ _ _ s₁ (mkF m 18 #[.val (.ref a1), .val (.int p2), .val (.int p3), .val (.int (0 : Int32))] [(.int p3), (.int (1 : Int32))])
    have hc18 : ¬ ((1 : Int32) < p3) := (fun q => absurd (Int32.lt_iff_toInt_lt.mp q) ((by show ¬ (1 < p3.toInt); omega : ¬ (1 < p3.toInt))))
    refine own_go (fun _ => XS.icmpYes X0.here hx rfl (pc0 := 18) (pc' := 30) rfl (hb hby d5_18) rfl (flt hc18).2.1 (by decide) (by decide)) ?_
    show GG _ _ _ _ _ _ _ s₁ (mkF m 30 #[.val (.ref a1), .val (.int p2), .val (.int p3), .val (.int (0 : Int32))] [])
    refine own_go (fun _ => XS.iconst X0.here hx rfl (hb hby d5_30)) ?_
    show GG _ _ _ _ _ _ _ s₁ (mkF m 31 #[.val (.ref a1), .val (.int p2), .val (.int p3), .val (.int (0 : Int32))] [(.int (2 : Int32))])
    refine own_go (fun _ => XS.iloadN X0.here hx rfl (hb hby d5_31) rfl) ?_
    show GG _ _ _ _ _ _ _ s₁ (mkF m 32 #[.val (.ref a1), .val (.int p2), .val (.int p3), .val (.int (0 : Int32))] [(.int p3), (.int (2 : Int32))])
    have hc32 : ¬ ((2 : Int32) < p3) := (fun q => absurd (Int32.lt_iff_toInt_lt.mp q) ((by show ¬ (2 < p3.toInt); omega : ¬ (2 < p3.toInt))))
    refine own_go (fun _ => XS.icmpYes X0.here hx rfl (pc0 := 32) (pc' := 44) rfl (hb hby d5_32) rfl (flt hc32).2.1 (by decide) (by decide)) ?_
    show GG _ _ _ _ _ _ _ s₁ (mkF m 44 #[.val (.ref a1), .val (.int p2), .val (.int p3), .val (.int (0 : Int32))] [])
    refine own_go (fun _ => XS.iconst X0.here hx rfl (hb hby d5_44)) ?_
    show GG _ _ _ _ _ _ _ s₁ (mkF m 45 #[.val (.ref a1), .val (.int p2), .val (.int p3), .val (.int (0 : Int32))] [(.int (3 : Int32))])
    refine own_go (fun _ => XS.iloadN X0.here hx rfl (hb hby d5_45) rfl) ?_
    show GG _ _ _ _ _ _ _ s₁ (mkF m 46 #[.val (.ref a1), .val (.int p2), .val (.int p3), .val (.int (0 : Int32))] [(.int p3), (.int (3 : Int32))])
    have hc46 : ¬ ((3 : Int32) < p3) := (fun q => absurd (Int32.lt_iff_toInt_lt.mp q) ((by show ¬ (3 < p3.toInt); omega : ¬ (3 < p3.toInt))))
    refine own_go (fun _ => XS.icmpYes X0.here hx rfl (pc0 := 46) (pc' := 58) rfl (hb hby d5_46) rfl (flt hc46).2.1 (by decide) (by decide)) ?_
    show GG _ _ _ _ _ _ _ s₁ (mkF m 58 #[.val (.ref a1), .val (.int p2), .val (.int p3), .val (.int (0 : Int32))] [])
    refine own_go (fun _ => XS.iconst X0.here hx rfl (hb hby d5_58)) ?_
    show GG _ _ _ _ _ _ _ s₁ (mkF m 59 #[.val (.ref a1), .val (.int p2), .val (.int p3), .val (.int (0 : Int32))] [(.int (4 : Int32))])
    refine own_go (fun _ => XS.iloadN X0.here hx rfl (hb hby d5_59) rfl) ?_
    show GG _ _ _ _ _ _ _ s₁ (mkF m 60 #[.val (.ref a1), .val (.int p2), .val (.int p3), .val (.int (0 : Int32))] [(.int p3), (.int (4 : Int32))])
    have hc60 : ¬ ((4 : Int32) < p3) := (fun q => absurd (Int32.lt_iff_toInt_lt.mp q) ((by show ¬ (4 < p3.toInt); omega : ¬ (4 < p3.toInt))))
    refine own_go (fun _ => XS.icmpYes X0.here hx rfl (pc0 := 60) (pc' := 72) rfl (hb hby d5_60) rfl (flt hc60).2.1 (by decide) (by decide)) ?_
    show GG _ _ _ _ _ _ _ s₁ (mkF m 72 #[.val (.ref a1), .val (.int p2), .val (.int p3), .val (.int (0 : Int32))] [])
    refine own_go (fun _ => XS.iconst X0.here hx rfl (hb hby d5_72)) ?_
    show GG _ _ _ _ _ _ _ s₁ (mkF m 73 #[.val (.ref a1), .val (.int p2), .val (.int p3), .val (.int (0 : Int32))] [(.int (5 : Int32))])
    refine own_go (fun _ => XS.iloadN X0.here hx rfl (hb hby d5_73) rfl) ?_
    show GG _ _ _ _ _ _ _ s₁ (mkF m 74 #[.val (.ref a1), .val (.int p2), .val (.int p3), .val (.int (0 : Int32))] [(.int p3), (.int (5 : Int32))])
    have hc74 : ¬ ((5 : Int32) < p3) := (fun q => absurd (Int32.lt_iff_toInt_lt.mp q) ((by show ¬ (5 < p3.toInt); omega : ¬ (5 < p3.toInt))))
    refine own_go (fun _ => XS.icmpYes X0.here hx rfl (pc0 := 74) (pc' := 86) rfl (hb hby d5_74) rfl (flt hc74).2.1 (by decide) (by decide)) ?_
    show GG _ _ _ _ _ _ _ s₁ (mkF m 86 #[.val (.ref a1), .val (.int p2), .val (.int p3), .val (.int (0 : Int32))] [])
    refine own_go (fun _ => XS.iloadN X0.here hx rfl (hb hby d5_86) rfl) ?_
    show GG _ _ _ _ _ _ _ s₁ (mkF m 87 #[.val (.ref a1), .val (.int p2), .val (.int p3), .val (.int (0 : Int32))] [(.int (0 : Int32))])
    refine own_ret X0 hx hlk (t := .int) (w := (.int (0 : Int32))) Bd.returns rfl (Or.inl ⟨rfl, by simp, _, rfl⟩) (hb hby d5_87) (by decide) (by decide) ?_
    show Q5 Z a1 p2 p3 ms uN h0 n0 (some (.int (0 : Int32))) s₁.heap _
    rw [e0]
    exact ⟨by subst hul; rfl, N0, rfl⟩
  · skip
    show GG _ _ _ _ _ _ _ s₁ (mkF m 0 #[.val (.ref a1), .val (.int p2), .val (.int p3), .unset] [])
    refine own_go (fun _ => XS.iconst X0.here hx rfl (hb hby d5_0)) ?_
    show GG _ _ _ _ _ _ _ s₁ (mkF m 1 #[.val (.ref a1), .val (.int p2), .val (.int p3), .unset] [(.int (0 : Int32))])
    refine own_go (fun _ => XS.istoreN X0.here hx rfl (hb hby d5_1) rfl (l' := #[.val (.ref a1), .val (.int p2), .val (.int p3), .val (.int (0 : Int32))]) rfl) ?_
    show GG _ _ _ _ _ _ _ s₁ (mkF m 2 #[.val (.ref a1), .val (.int p2), .val (.int p3), .val (.int (0 : Int32))] [])
    refine own_go (fun _ => XS.iconst X0.here hx rfl (hb hby d5_2)) ?_
    show GG _ _ _ _ _ _ _ s₁ (mkF m 3 #[.val (.ref a1), .val (.int p2), .val (.int p3), .val (.int (0 : Int32))] [(.int (0 : Int32))])
    refine own_go (fun _ => XS.iloadN X0.here hx rfl (hb hby d5_3) rfl) ?_
    show GG _ _ _ _ _ _ _ s₁ (mkF m 4 #[.val (.ref a1), .val (.int p2), .val (.int p3), .val (.int (0 : Int32))] [(.int p3), (.int (0 : Int32))])
    have hc4 : (0 : Int32) < p3 := (Int32.lt_iff_toInt_lt.mpr ((by show (0 < p3.toInt); omega : (0 < p3.toInt))))
    refine own_go (fun _ => XS.icmpNo X0.here hx rfl (hb hby d5_4) rfl (tlt hc4).2.1) ?_
    show GG _ _ _ _ _ _ _ s₁ (mkF m 7 #[.val (.ref a1), .val (.int p2), .val (.int p3), .val (.int (0 : Int32))] [])
    refine own_go (fun _ => XS.iloadN X0.here hx rfl (hb hby d5_7) rfl) ?_
    show GG _ _ _ _ _ _ _ s₁ (mkF m 8 #[.val (.ref a1), .val (.int p2), .val (.int p3), .val (.int (0 : Int32))] [(.int (0 : Int32))])
    refine own_go (fun _ => XS.aloadN X0.here hx rfl (hb hby d5_8) rfl rfl) ?_
    show GG _ _ _ _ _ _ _ s₁ (mkF m 9 #[.val (.ref a1), .val (.int p2), .val (.int p3), .val (.int (0 : Int32))] [(.ref a1), (.int (0 : Int32))])
    refine own_go (fun _ => XS.iconst X0.here hx rfl (hb hby d5_9)) ?_
    show GG _ _ _ _ _ _ _ s₁ (mkF m 10 #[.val (.ref a1), .val (.int p2), .val (.int p3), .val (.int (0 : Int32))] [(.int (0 : Int32)), (.ref a1), (.int (0 : Int32))])
    refine own_go (fun _ => XS.iloadN X0.here hx rfl (hb hby d5_10) rfl) ?_
    show GG _ _ _ _ _ _ _ s₁ (mkF m 11 #[.val (.ref a1), .val (.int p2), .val (.int p3), .val (.int (0 : Int32))] [(.int p2), (.int (0 : Int32)), (.ref a1), (.int (0 : Int32))])
    refine own_callS X0 hx hZ (y := (⟨"com/example/deft_shards/deftshards/cluster/KMeansMembersPinLaw", "at", "([III)I"⟩ : MethodName)) 1 hown (hw _ (List.mem_of_getElem? (i := 22) rfl)) (hw _ (List.mem_of_getElem? (i := 23) rfl)) (hw _ (List.mem_of_getElem? (i := 3) rfl)) (hw _ (List.mem_of_getElem? (i := 24) rfl)) (by decide) (argsL := [(.ref a1), (.int (0 : Int32)), (.int p2)]) (rest := [(.int (0 : Int32))]) (rm6 l Z a0 hw [] a1 (0 : Int32) p2 ms 0 h0 n0 Z0 V_1 (by decide) hn6) (by decide) (by decide) (by decide) (by decide) (g := (mkF m 11 #[.val (.ref a1), .val (.int p2), .val (.int p3), .val (.int (0 : Int32))] [(.int p2), (.int (0 : Int32)), (.ref a1), (.int (0 : Int32))])) rfl (by rw [hml]; rfl) (lenOf pd___III_I_464 rfl) rfl (by show 2 * 0 + _ ≤ _; exact Nat.le_of_eq rfl) (hb hby d5_11) e0 ?_
    rintro v1 T1 L1 X1 ⟨rfl, N1q, hh1⟩
    have N1 := Fr.app N0 N1q
    show GG _ _ _ _ _ _ _ T1 (mkF m 14 #[.val (.ref a1), .val (.int p2), .val (.int p3), .val (.int (0 : Int32))] [(.int (if ms[0]? = some p2 then (1 : Int32) else 0)), (.int (0 : Int32))])
    refine own_go (fun _ => XS.iadd X1.here hx rfl (hb hby d5_14) rfl) ?_
    show GG _ _ _ _ _ _ _ T1 (mkF m 15 #[.val (.ref a1), .val (.int p2), .val (.int p3), .val (.int (0 : Int32))] [(.int ((0 : Int32) + (if ms[0]? = some p2 then (1 : Int32) else 0)))])
    rw [show ((0 : Int32) + (if ms[0]? = some p2 then (1 : Int32) else 0)) = Int32.ofNat (cn ms p2 0) + (if ms[0]? = some p2 then (1 : Int32) else 0) from rfl, own_at]
    show GG _ _ _ _ _ _ _ T1 (mkF m 15 #[.val (.ref a1), .val (.int p2), .val (.int p3), .val (.int (0 : Int32))] [(.int (Int32.ofNat (cn ms p2 1)))])
    refine own_go (fun _ => XS.istoreN X1.here hx rfl (hb hby d5_15) rfl (l' := #[.val (.ref a1), .val (.int p2), .val (.int p3), .val (.int (Int32.ofNat (cn ms p2 1)))]) rfl) ?_
    show GG _ _ _ _ _ _ _ T1 (mkF m 16 #[.val (.ref a1), .val (.int p2), .val (.int p3), .val (.int (Int32.ofNat (cn ms p2 1)))] [])
    refine own_go (fun _ => XS.iconst X1.here hx rfl (hb hby d5_16)) ?_
    show GG _ _ _ _ _ _ _ T1 (mkF m 17 #[.val (.ref a1), .val (.int p2), .val (.int p3), .val (.int (Int32.ofNat (cn ms p2 1)))] [(.int (1 : Int32))])
    refine own_go (fun _ => XS.iloadN X1.here hx rfl (hb hby d5_17) rfl) ?_
    show GG _ _ _ _ _ _ _ T1 (mkF m 18 #[.val (.ref a1), .val (.int p2), .val (.int p3), .val (.int (Int32.ofNat (cn ms p2 1)))] [(.int p3), (.int (1 : Int32))])
    have hc18 : ¬ ((1 : Int32) < p3) := (fun q => absurd (Int32.lt_iff_toInt_lt.mp q) ((by show ¬ (1 < p3.toInt); omega : ¬ (1 < p3.toInt))))
    refine own_go (fun _ => XS.icmpYes X1.here hx rfl (pc0 := 18) (pc' := 30) rfl (hb hby d5_18) rfl (flt hc18).2.1 (by decide) (by decide)) ?_
    show GG _ _ _ _ _ _ _ T1 (mkF m 30 #[.val (.ref a1), .val (.int p2), .val (.int p3), .val (.int (Int32.ofNat (cn ms p2 1)))] [])
    refine own_go (fun _ => XS.iconst X1.here hx rfl (hb hby d5_30)) ?_
    show GG _ _ _ _ _ _ _ T1 (mkF m 31 #[.val (.ref a1), .val (.int p2), .val (.int p3), .val (.int (Int32.ofNat (cn ms p2 1)))] [(.int (2 : Int32))])
    refine own_go (fun _ => XS.iloadN X1.here hx rfl (hb hby d5_31) rfl) ?_
    show GG _ _ _ _ _ _ _ T1 (mkF m 32 #[.val (.ref a1), .val (.int p2), .val (.int p3), .val (.int (Int32.ofNat (cn ms p2 1)))] [(.int p3), (.int (2 : Int32))])
    have hc32 : ¬ ((2 : Int32) < p3) := (fun q => absurd (Int32.lt_iff_toInt_lt.mp q) ((by show ¬ (2 < p3.toInt); omega : ¬ (2 < p3.toInt))))
    refine own_go (fun _ => XS.icmpYes X1.here hx rfl (pc0 := 32) (pc' := 44) rfl (hb hby d5_32) rfl (flt hc32).2.1 (by decide) (by decide)) ?_
    show GG _ _ _ _ _ _ _ T1 (mkF m 44 #[.val (.ref a1), .val (.int p2), .val (.int p3), .val (.int (Int32.ofNat (cn ms p2 1)))] [])
    refine own_go (fun _ => XS.iconst X1.here hx rfl (hb hby d5_44)) ?_
    show GG _ _ _ _ _ _ _ T1 (mkF m 45 #[.val (.ref a1), .val (.int p2), .val (.int p3), .val (.int (Int32.ofNat (cn ms p2 1)))] [(.int (3 : Int32))])
    refine own_go (fun _ => XS.iloadN X1.here hx rfl (hb hby d5_45) rfl) ?_
    show GG _ _ _ _ _ _ _ T1 (mkF m 46 #[.val (.ref a1), .val (.int p2), .val (.int p3), .val (.int (Int32.ofNat (cn ms p2 1)))] [(.int p3), (.int (3 : Int32))])
    have hc46 : ¬ ((3 : Int32) < p3) := (fun q => absurd (Int32.lt_iff_toInt_lt.mp q) ((by show ¬ (3 < p3.toInt); omega : ¬ (3 < p3.toInt))))
    refine own_go (fun _ => XS.icmpYes X1.here hx rfl (pc0 := 46) (pc' := 58) rfl (hb hby d5_46) rfl (flt hc46).2.1 (by decide) (by decide)) ?_
    show GG _ _ _ _ _ _ _ T1 (mkF m 58 #[.val (.ref a1), .val (.int p2), .val (.int p3), .val (.int (Int32.ofNat (cn ms p2 1)))] [])
    refine own_go (fun _ => XS.iconst X1.here hx rfl (hb hby d5_58)) ?_
    show GG _ _ _ _ _ _ _ T1 (mkF m 59 #[.val (.ref a1), .val (.int p2), .val (.int p3), .val (.int (Int32.ofNat (cn ms p2 1)))] [(.int (4 : Int32))])
    refine own_go (fun _ => XS.iloadN X1.here hx rfl (hb hby d5_59) rfl) ?_
    show GG _ _ _ _ _ _ _ T1 (mkF m 60 #[.val (.ref a1), .val (.int p2), .val (.int p3), .val (.int (Int32.ofNat (cn ms p2 1)))] [(.int p3), (.int (4 : Int32))])
    have hc60 : ¬ ((4 : Int32) < p3) := (fun q => absurd (Int32.lt_iff_toInt_lt.mp q) ((by show ¬ (4 < p3.toInt); omega : ¬ (4 < p3.toInt))))
    refine own_go (fun _ => XS.icmpYes X1.here hx rfl (pc0 := 60) (pc' := 72) rfl (hb hby d5_60) rfl (flt hc60).2.1 (by decide) (by decide)) ?_
    show GG _ _ _ _ _ _ _ T1 (mkF m 72 #[.val (.ref a1), .val (.int p2), .val (.int p3), .val (.int (Int32.ofNat (cn ms p2 1)))] [])
    refine own_go (fun _ => XS.iconst X1.here hx rfl (hb hby d5_72)) ?_
    show GG _ _ _ _ _ _ _ T1 (mkF m 73 #[.val (.ref a1), .val (.int p2), .val (.int p3), .val (.int (Int32.ofNat (cn ms p2 1)))] [(.int (5 : Int32))])
    refine own_go (fun _ => XS.iloadN X1.here hx rfl (hb hby d5_73) rfl) ?_
    show GG _ _ _ _ _ _ _ T1 (mkF m 74 #[.val (.ref a1), .val (.int p2), .val (.int p3), .val (.int (Int32.ofNat (cn ms p2 1)))] [(.int p3), (.int (5 : Int32))])
    have hc74 : ¬ ((5 : Int32) < p3) := (fun q => absurd (Int32.lt_iff_toInt_lt.mp q) ((by show ¬ (5 < p3.toInt); omega : ¬ (5 < p3.toInt))))
    refine own_go (fun _ => XS.icmpYes X1.here hx rfl (pc0 := 74) (pc' := 86) rfl (hb hby d5_74) rfl (flt hc74).2.1 (by decide) (by decide)) ?_
    show GG _ _ _ _ _ _ _ T1 (mkF m 86 #[.val (.ref a1), .val (.int p2), .val (.int p3), .val (.int (Int32.ofNat (cn ms p2 1)))] [])
    refine own_go (fun _ => XS.iloadN X1.here hx rfl (hb hby d5_86) rfl) ?_
    show GG _ _ _ _ _ _ _ T1 (mkF m 87 #[.val (.ref a1), .val (.int p2), .val (.int p3), .val (.int (Int32.ofNat (cn ms p2 1)))] [(.int (Int32.ofNat (cn ms p2 1)))])
    refine own_ret X1 hx hlk (t := .int) (w := (.int (Int32.ofNat (cn ms p2 1)))) Bd.returns rfl (Or.inl ⟨rfl, by simp, _, rfl⟩) (hb hby d5_87) (by decide) (by decide) ?_
    show Q5 Z a1 p2 p3 ms uN h0 n0 (some (.int (Int32.ofNat (cn ms p2 1)))) T1.heap _
    rw [hh1]
    exact ⟨by subst hul; rfl, N1, rfl⟩
  · skip
    show GG _ _ _ _ _ _ _ s₁ (mkF m 0 #[.val (.ref a1), .val (.int p2), .val (.int p3), .unset] [])
    refine own_go (fun _ => XS.iconst X0.here hx rfl (hb hby d5_0)) ?_
    show GG _ _ _ _ _ _ _ s₁ (mkF m 1 #[.val (.ref a1), .val (.int p2), .val (.int p3), .unset] [(.int (0 : Int32))])
    refine own_go (fun _ => XS.istoreN X0.here hx rfl (hb hby d5_1) rfl (l' := #[.val (.ref a1), .val (.int p2), .val (.int p3), .val (.int (0 : Int32))]) rfl) ?_
    show GG _ _ _ _ _ _ _ s₁ (mkF m 2 #[.val (.ref a1), .val (.int p2), .val (.int p3), .val (.int (0 : Int32))] [])
    refine own_go (fun _ => XS.iconst X0.here hx rfl (hb hby d5_2)) ?_
    show GG _ _ _ _ _ _ _ s₁ (mkF m 3 #[.val (.ref a1), .val (.int p2), .val (.int p3), .val (.int (0 : Int32))] [(.int (0 : Int32))])
    refine own_go (fun _ => XS.iloadN X0.here hx rfl (hb hby d5_3) rfl) ?_
    show GG _ _ _ _ _ _ _ s₁ (mkF m 4 #[.val (.ref a1), .val (.int p2), .val (.int p3), .val (.int (0 : Int32))] [(.int p3), (.int (0 : Int32))])
    have hc4 : (0 : Int32) < p3 := (Int32.lt_iff_toInt_lt.mpr ((by show (0 < p3.toInt); omega : (0 < p3.toInt))))
    refine own_go (fun _ => XS.icmpNo X0.here hx rfl (hb hby d5_4) rfl (tlt hc4).2.1) ?_
    show GG _ _ _ _ _ _ _ s₁ (mkF m 7 #[.val (.ref a1), .val (.int p2), .val (.int p3), .val (.int (0 : Int32))] [])
    refine own_go (fun _ => XS.iloadN X0.here hx rfl (hb hby d5_7) rfl) ?_
    show GG _ _ _ _ _ _ _ s₁ (mkF m 8 #[.val (.ref a1), .val (.int p2), .val (.int p3), .val (.int (0 : Int32))] [(.int (0 : Int32))])
    refine own_go (fun _ => XS.aloadN X0.here hx rfl (hb hby d5_8) rfl rfl) ?_
    show GG _ _ _ _ _ _ _ s₁ (mkF m 9 #[.val (.ref a1), .val (.int p2), .val (.int p3), .val (.int (0 : Int32))] [(.ref a1), (.int (0 : Int32))])
    refine own_go (fun _ => XS.iconst X0.here hx rfl (hb hby d5_9)) ?_
    show GG _ _ _ _ _ _ _ s₁ (mkF m 10 #[.val (.ref a1), .val (.int p2), .val (.int p3), .val (.int (0 : Int32))] [(.int (0 : Int32)), (.ref a1), (.int (0 : Int32))])
    refine own_go (fun _ => XS.iloadN X0.here hx rfl (hb hby d5_10) rfl) ?_
    show GG _ _ _ _ _ _ _ s₁ (mkF m 11 #[.val (.ref a1), .val (.int p2), .val (.int p3), .val (.int (0 : Int32))] [(.int p2), (.int (0 : Int32)), (.ref a1), (.int (0 : Int32))])
    refine own_callS X0 hx hZ (y := (⟨"com/example/deft_shards/deftshards/cluster/KMeansMembersPinLaw", "at", "([III)I"⟩ : MethodName)) 1 hown (hw _ (List.mem_of_getElem? (i := 22) rfl)) (hw _ (List.mem_of_getElem? (i := 23) rfl)) (hw _ (List.mem_of_getElem? (i := 3) rfl)) (hw _ (List.mem_of_getElem? (i := 24) rfl)) (by decide) (argsL := [(.ref a1), (.int (0 : Int32)), (.int p2)]) (rest := [(.int (0 : Int32))]) (rm6 l Z a0 hw [] a1 (0 : Int32) p2 ms 0 h0 n0 Z0 V_1 (by decide) hn6) (by decide) (by decide) (by decide) (by decide) (g := (mkF m 11 #[.val (.ref a1), .val (.int p2), .val (.int p3), .val (.int (0 : Int32))] [(.int p2), (.int (0 : Int32)), (.ref a1), (.int (0 : Int32))])) rfl (by rw [hml]; rfl) (lenOf pd___III_I_464 rfl) rfl (by show 2 * 0 + _ ≤ _; exact Nat.le_of_eq rfl) (hb hby d5_11) e0 ?_
    rintro v2 T2 L2 X2 ⟨rfl, N2q, hh2⟩
    have N2 := Fr.app N0 N2q
    show GG _ _ _ _ _ _ _ T2 (mkF m 14 #[.val (.ref a1), .val (.int p2), .val (.int p3), .val (.int (0 : Int32))] [(.int (if ms[0]? = some p2 then (1 : Int32) else 0)), (.int (0 : Int32))])
    refine own_go (fun _ => XS.iadd X2.here hx rfl (hb hby d5_14) rfl) ?_
    show GG _ _ _ _ _ _ _ T2 (mkF m 15 #[.val (.ref a1), .val (.int p2), .val (.int p3), .val (.int (0 : Int32))] [(.int ((0 : Int32) + (if ms[0]? = some p2 then (1 : Int32) else 0)))])
    rw [show ((0 : Int32) + (if ms[0]? = some p2 then (1 : Int32) else 0)) = Int32.ofNat (cn ms p2 0) + (if ms[0]? = some p2 then (1 : Int32) else 0) from rfl, own_at]
    show GG _ _ _ _ _ _ _ T2 (mkF m 15 #[.val (.ref a1), .val (.int p2), .val (.int p3), .val (.int (0 : Int32))] [(.int (Int32.ofNat (cn ms p2 1)))])
    refine own_go (fun _ => XS.istoreN X2.here hx rfl (hb hby d5_15) rfl (l' := #[.val (.ref a1), .val (.int p2), .val (.int p3), .val (.int (Int32.ofNat (cn ms p2 1)))]) rfl) ?_
    show GG _ _ _ _ _ _ _ T2 (mkF m 16 #[.val (.ref a1), .val (.int p2), .val (.int p3), .val (.int (Int32.ofNat (cn ms p2 1)))] [])
    refine own_go (fun _ => XS.iconst X2.here hx rfl (hb hby d5_16)) ?_
    show GG _ _ _ _ _ _ _ T2 (mkF m 17 #[.val (.ref a1), .val (.int p2), .val (.int p3), .val (.int (Int32.ofNat (cn ms p2 1)))] [(.int (1 : Int32))])
    refine own_go (fun _ => XS.iloadN X2.here hx rfl (hb hby d5_17) rfl) ?_
    show GG _ _ _ _ _ _ _ T2 (mkF m 18 #[.val (.ref a1), .val (.int p2), .val (.int p3), .val (.int (Int32.ofNat (cn ms p2 1)))] [(.int p3), (.int (1 : Int32))])
    have hc18 : (1 : Int32) < p3 := (Int32.lt_iff_toInt_lt.mpr ((by show (1 < p3.toInt); omega : (1 < p3.toInt))))
    refine own_go (fun _ => XS.icmpNo X2.here hx rfl (hb hby d5_18) rfl (tlt hc18).2.1) ?_
    show GG _ _ _ _ _ _ _ T2 (mkF m 21 #[.val (.ref a1), .val (.int p2), .val (.int p3), .val (.int (Int32.ofNat (cn ms p2 1)))] [])
    refine own_go (fun _ => XS.iloadN X2.here hx rfl (hb hby d5_21) rfl) ?_
    show GG _ _ _ _ _ _ _ T2 (mkF m 22 #[.val (.ref a1), .val (.int p2), .val (.int p3), .val (.int (Int32.ofNat (cn ms p2 1)))] [(.int (Int32.ofNat (cn ms p2 1)))])
    refine own_go (fun _ => XS.aloadN X2.here hx rfl (hb hby d5_22) rfl rfl) ?_
    show GG _ _ _ _ _ _ _ T2 (mkF m 23 #[.val (.ref a1), .val (.int p2), .val (.int p3), .val (.int (Int32.ofNat (cn ms p2 1)))] [(.ref a1), (.int (Int32.ofNat (cn ms p2 1)))])
    refine own_go (fun _ => XS.iconst X2.here hx rfl (hb hby d5_23)) ?_
    show GG _ _ _ _ _ _ _ T2 (mkF m 24 #[.val (.ref a1), .val (.int p2), .val (.int p3), .val (.int (Int32.ofNat (cn ms p2 1)))] [(.int (1 : Int32)), (.ref a1), (.int (Int32.ofNat (cn ms p2 1)))])
    refine own_go (fun _ => XS.iloadN X2.here hx rfl (hb hby d5_24) rfl) ?_
    show GG _ _ _ _ _ _ _ T2 (mkF m 25 #[.val (.ref a1), .val (.int p2), .val (.int p3), .val (.int (Int32.ofNat (cn ms p2 1)))] [(.int p2), (.int (1 : Int32)), (.ref a1), (.int (Int32.ofNat (cn ms p2 1)))])
    refine own_callS X2 hx hZ (y := (⟨"com/example/deft_shards/deftshards/cluster/KMeansMembersPinLaw", "at", "([III)I"⟩ : MethodName)) 1 hown (hw _ (List.mem_of_getElem? (i := 22) rfl)) (hw _ (List.mem_of_getElem? (i := 23) rfl)) (hw _ (List.mem_of_getElem? (i := 3) rfl)) (hw _ (List.mem_of_getElem? (i := 24) rfl)) (by decide) (argsL := [(.ref a1), (.int (1 : Int32)), (.int p2)]) (rest := [(.int (Int32.ofNat (cn ms p2 1)))]) (rm6 l Z a0 hw [] a1 (1 : Int32) p2 ms 1 h0 n0 Z0 V_1 (by decide) hn6) (by decide) (by decide) (by decide) (by decide) (g := (mkF m 25 #[.val (.ref a1), .val (.int p2), .val (.int p3), .val (.int (Int32.ofNat (cn ms p2 1)))] [(.int p2), (.int (1 : Int32)), (.ref a1), (.int (Int32.ofNat (cn ms p2 1)))])) rfl (by rw [hml]; rfl) (lenOf pd___III_I_464 rfl) rfl (by show 2 * 0 + _ ≤ _; exact Nat.le_of_eq rfl) (hb hby d5_25) hh2 ?_
    rintro v3 T3 L3 X3 ⟨rfl, N3q, hh3⟩
    have N3 := Fr.app N2 N3q
    show GG _ _ _ _ _ _ _ T3 (mkF m 28 #[.val (.ref a1), .val (.int p2), .val (.int p3), .val (.int (Int32.ofNat (cn ms p2 1)))] [(.int (if ms[1]? = some p2 then (1 : Int32) else 0)), (.int (Int32.ofNat (cn ms p2 1)))])
    refine own_go (fun _ => XS.iadd X3.here hx rfl (hb hby d5_28) rfl) ?_
    show GG _ _ _ _ _ _ _ T3 (mkF m 29 #[.val (.ref a1), .val (.int p2), .val (.int p3), .val (.int (Int32.ofNat (cn ms p2 1)))] [(.int ((Int32.ofNat (cn ms p2 1)) + (if ms[1]? = some p2 then (1 : Int32) else 0)))])
    rw [show ((Int32.ofNat (cn ms p2 1)) + (if ms[1]? = some p2 then (1 : Int32) else 0)) = Int32.ofNat (cn ms p2 1) + (if ms[1]? = some p2 then (1 : Int32) else 0) from rfl, own_at]
    show GG _ _ _ _ _ _ _ T3 (mkF m 29 #[.val (.ref a1), .val (.int p2), .val (.int p3), .val (.int (Int32.ofNat (cn ms p2 1)))] [(.int (Int32.ofNat (cn ms p2 2)))])
    refine own_go (fun _ => XS.istoreN X3.here hx rfl (hb hby d5_29) rfl (l' := #[.val (.ref a1), .val (.int p2), .val (.int p3), .val (.int (Int32.ofNat (cn ms p2 2)))]) rfl) ?_
    show GG _ _ _ _ _ _ _ T3 (mkF m 30 #[.val (.ref a1), .val (.int p2), .val (.int p3), .val (.int (Int32.ofNat (cn ms p2 2)))] [])
    refine own_go (fun _ => XS.iconst X3.here hx rfl (hb hby d5_30)) ?_
    show GG _ _ _ _ _ _ _ T3 (mkF m 31 #[.val (.ref a1), .val (.int p2), .val (.int p3), .val (.int (Int32.ofNat (cn ms p2 2)))] [(.int (2 : Int32))])
    refine own_go (fun _ => XS.iloadN X3.here hx rfl (hb hby d5_31) rfl) ?_
    show GG _ _ _ _ _ _ _ T3 (mkF m 32 #[.val (.ref a1), .val (.int p2), .val (.int p3), .val (.int (Int32.ofNat (cn ms p2 2)))] [(.int p3), (.int (2 : Int32))])
    have hc32 : ¬ ((2 : Int32) < p3) := (fun q => absurd (Int32.lt_iff_toInt_lt.mp q) ((by show ¬ (2 < p3.toInt); omega : ¬ (2 < p3.toInt))))
    refine own_go (fun _ => XS.icmpYes X3.here hx rfl (pc0 := 32) (pc' := 44) rfl (hb hby d5_32) rfl (flt hc32).2.1 (by decide) (by decide)) ?_
    show GG _ _ _ _ _ _ _ T3 (mkF m 44 #[.val (.ref a1), .val (.int p2), .val (.int p3), .val (.int (Int32.ofNat (cn ms p2 2)))] [])
    refine own_go (fun _ => XS.iconst X3.here hx rfl (hb hby d5_44)) ?_
    show GG _ _ _ _ _ _ _ T3 (mkF m 45 #[.val (.ref a1), .val (.int p2), .val (.int p3), .val (.int (Int32.ofNat (cn ms p2 2)))] [(.int (3 : Int32))])
    refine own_go (fun _ => XS.iloadN X3.here hx rfl (hb hby d5_45) rfl) ?_
    show GG _ _ _ _ _ _ _ T3 (mkF m 46 #[.val (.ref a1), .val (.int p2), .val (.int p3), .val (.int (Int32.ofNat (cn ms p2 2)))] [(.int p3), (.int (3 : Int32))])
    have hc46 : ¬ ((3 : Int32) < p3) := (fun q => absurd (Int32.lt_iff_toInt_lt.mp q) ((by show ¬ (3 < p3.toInt); omega : ¬ (3 < p3.toInt))))
    refine own_go (fun _ => XS.icmpYes X3.here hx rfl (pc0 := 46) (pc' := 58) rfl (hb hby d5_46) rfl (flt hc46).2.1 (by decide) (by decide)) ?_
    show GG _ _ _ _ _ _ _ T3 (mkF m 58 #[.val (.ref a1), .val (.int p2), .val (.int p3), .val (.int (Int32.ofNat (cn ms p2 2)))] [])
    refine own_go (fun _ => XS.iconst X3.here hx rfl (hb hby d5_58)) ?_
    show GG _ _ _ _ _ _ _ T3 (mkF m 59 #[.val (.ref a1), .val (.int p2), .val (.int p3), .val (.int (Int32.ofNat (cn ms p2 2)))] [(.int (4 : Int32))])
    refine own_go (fun _ => XS.iloadN X3.here hx rfl (hb hby d5_59) rfl) ?_
    show GG _ _ _ _ _ _ _ T3 (mkF m 60 #[.val (.ref a1), .val (.int p2), .val (.int p3), .val (.int (Int32.ofNat (cn ms p2 2)))] [(.int p3), (.int (4 : Int32))])
    have hc60 : ¬ ((4 : Int32) < p3) := (fun q => absurd (Int32.lt_iff_toInt_lt.mp q) ((by show ¬ (4 < p3.toInt); omega : ¬ (4 < p3.toInt))))
    refine own_go (fun _ => XS.icmpYes X3.here hx rfl (pc0 := 60) (pc' := 72) rfl (hb hby d5_60) rfl (flt hc60).2.1 (by decide) (by decide)) ?_
    show GG _ _ _ _ _ _ _ T3 (mkF m 72 #[.val (.ref a1), .val (.int p2), .val (.int p3), .val (.int (Int32.ofNat (cn ms p2 2)))] [])
    refine own_go (fun _ => XS.iconst X3.here hx rfl (hb hby d5_72)) ?_
    show GG _ _ _ _ _ _ _ T3 (mkF m 73 #[.val (.ref a1), .val (.int p2), .val (.int p3), .val (.int (Int32.ofNat (cn ms p2 2)))] [(.int (5 : Int32))])
    refine own_go (fun _ => XS.iloadN X3.here hx rfl (hb hby d5_73) rfl) ?_
    show GG _ _ _ _ _ _ _ T3 (mkF m 74 #[.val (.ref a1), .val (.int p2), .val (.int p3), .val (.int (Int32.ofNat (cn ms p2 2)))] [(.int p3), (.int (5 : Int32))])
    have hc74 : ¬ ((5 : Int32) < p3) := (fun q => absurd (Int32.lt_iff_toInt_lt.mp q) ((by show ¬ (5 < p3.toInt); omega : ¬ (5 < p3.toInt))))
    refine own_go (fun _ => XS.icmpYes X3.here hx rfl (pc0 := 74) (pc' := 86) rfl (hb hby d5_74) rfl (flt hc74).2.1 (by decide) (by decide)) ?_
    show GG _ _ _ _ _ _ _ T3 (mkF m 86 #[.val (.ref a1), .val (.int p2), .val (.int p3), .val (.int (Int32.ofNat (cn ms p2 2)))] [])
    refine own_go (fun _ => XS.iloadN X3.here hx rfl (hb hby d5_86) rfl) ?_
    show GG _ _ _ _ _ _ _ T3 (mkF m 87 #[.val (.ref a1), .val (.int p2), .val (.int p3), .val (.int (Int32.ofNat (cn ms p2 2)))] [(.int (Int32.ofNat (cn ms p2 2)))])
    refine own_ret X3 hx hlk (t := .int) (w := (.int (Int32.ofNat (cn ms p2 2)))) Bd.returns rfl (Or.inl ⟨rfl, by simp, _, rfl⟩) (hb hby d5_87) (by decide) (by decide) ?_
    show Q5 Z a1 p2 p3 ms uN h0 n0 (some (.int (Int32.ofNat (cn ms p2 2)))) T3.heap _
    rw [hh3]
    exact ⟨by subst hul; rfl, N3, rfl⟩
  · skip
    show GG _ _ _ _ _ _ _ s₁ (mkF m 0 #[.val (.ref a1), .val (.int p2), .val (.int p3), .unset] [])
    refine own_go (fun _ => XS.iconst X0.here hx rfl (hb hby d5_0)) ?_
    show GG _ _ _ _ _ _ _ s₁ (mkF m 1 #[.val (.ref a1), .val (.int p2), .val (.int p3), .unset] [(.int (0 : Int32))])
    refine own_go (fun _ => XS.istoreN X0.here hx rfl (hb hby d5_1) rfl (l' := #[.val (.ref a1), .val (.int p2), .val (.int p3), .val (.int (0 : Int32))]) rfl) ?_
    show GG _ _ _ _ _ _ _ s₁ (mkF m 2 #[.val (.ref a1), .val (.int p2), .val (.int p3), .val (.int (0 : Int32))] [])
    refine own_go (fun _ => XS.iconst X0.here hx rfl (hb hby d5_2)) ?_
    show GG _ _ _ _ _ _ _ s₁ (mkF m 3 #[.val (.ref a1), .val (.int p2), .val (.int p3), .val (.int (0 : Int32))] [(.int (0 : Int32))])
    refine own_go (fun _ => XS.iloadN X0.here hx rfl (hb hby d5_3) rfl) ?_
    show GG _ _ _ _ _ _ _ s₁ (mkF m 4 #[.val (.ref a1), .val (.int p2), .val (.int p3), .val (.int (0 : Int32))] [(.int p3), (.int (0 : Int32))])
    have hc4 : (0 : Int32) < p3 := (Int32.lt_iff_toInt_lt.mpr ((by show (0 < p3.toInt); omega : (0 < p3.toInt))))
    refine own_go (fun _ => XS.icmpNo X0.here hx rfl (hb hby d5_4) rfl (tlt hc4).2.1) ?_
    show GG _ _ _ _ _ _ _ s₁ (mkF m 7 #[.val (.ref a1), .val (.int p2), .val (.int p3), .val (.int (0 : Int32))] [])
    refine own_go (fun _ => XS.iloadN X0.here hx rfl (hb hby d5_7) rfl) ?_
    show GG _ _ _ _ _ _ _ s₁ (mkF m 8 #[.val (.ref a1), .val (.int p2), .val (.int p3), .val (.int (0 : Int32))] [(.int (0 : Int32))])
    refine own_go (fun _ => XS.aloadN X0.here hx rfl (hb hby d5_8) rfl rfl) ?_
    show GG _ _ _ _ _ _ _ s₁ (mkF m 9 #[.val (.ref a1), .val (.int p2), .val (.int p3), .val (.int (0 : Int32))] [(.ref a1), (.int (0 : Int32))])
    refine own_go (fun _ => XS.iconst X0.here hx rfl (hb hby d5_9)) ?_
    show GG _ _ _ _ _ _ _ s₁ (mkF m 10 #[.val (.ref a1), .val (.int p2), .val (.int p3), .val (.int (0 : Int32))] [(.int (0 : Int32)), (.ref a1), (.int (0 : Int32))])
    refine own_go (fun _ => XS.iloadN X0.here hx rfl (hb hby d5_10) rfl) ?_
    show GG _ _ _ _ _ _ _ s₁ (mkF m 11 #[.val (.ref a1), .val (.int p2), .val (.int p3), .val (.int (0 : Int32))] [(.int p2), (.int (0 : Int32)), (.ref a1), (.int (0 : Int32))])
    refine own_callS X0 hx hZ (y := (⟨"com/example/deft_shards/deftshards/cluster/KMeansMembersPinLaw", "at", "([III)I"⟩ : MethodName)) 1 hown (hw _ (List.mem_of_getElem? (i := 22) rfl)) (hw _ (List.mem_of_getElem? (i := 23) rfl)) (hw _ (List.mem_of_getElem? (i := 3) rfl)) (hw _ (List.mem_of_getElem? (i := 24) rfl)) (by decide) (argsL := [(.ref a1), (.int (0 : Int32)), (.int p2)]) (rest := [(.int (0 : Int32))]) (rm6 l Z a0 hw [] a1 (0 : Int32) p2 ms 0 h0 n0 Z0 V_1 (by decide) hn6) (by decide) (by decide) (by decide) (by decide) (g := (mkF m 11 #[.val (.ref a1), .val (.int p2), .val (.int p3), .val (.int (0 : Int32))] [(.int p2), (.int (0 : Int32)), (.ref a1), (.int (0 : Int32))])) rfl (by rw [hml]; rfl) (lenOf pd___III_I_464 rfl) rfl (by show 2 * 0 + _ ≤ _; exact Nat.le_of_eq rfl) (hb hby d5_11) e0 ?_
    rintro v4 T4 L4 X4 ⟨rfl, N4q, hh4⟩
    have N4 := Fr.app N0 N4q
    show GG _ _ _ _ _ _ _ T4 (mkF m 14 #[.val (.ref a1), .val (.int p2), .val (.int p3), .val (.int (0 : Int32))] [(.int (if ms[0]? = some p2 then (1 : Int32) else 0)), (.int (0 : Int32))])
    refine own_go (fun _ => XS.iadd X4.here hx rfl (hb hby d5_14) rfl) ?_
    show GG _ _ _ _ _ _ _ T4 (mkF m 15 #[.val (.ref a1), .val (.int p2), .val (.int p3), .val (.int (0 : Int32))] [(.int ((0 : Int32) + (if ms[0]? = some p2 then (1 : Int32) else 0)))])
    rw [show ((0 : Int32) + (if ms[0]? = some p2 then (1 : Int32) else 0)) = Int32.ofNat (cn ms p2 0) + (if ms[0]? = some p2 then (1 : Int32) else 0) from rfl, own_at]
    show GG _ _ _ _ _ _ _ T4 (mkF m 15 #[.val (.ref a1), .val (.int p2), .val (.int p3), .val (.int (0 : Int32))] [(.int (Int32.ofNat (cn ms p2 1)))])
    refine own_go (fun _ => XS.istoreN X4.here hx rfl (hb hby d5_15) rfl (l' := #[.val (.ref a1), .val (.int p2), .val (.int p3), .val (.int (Int32.ofNat (cn ms p2 1)))]) rfl) ?_
    show GG _ _ _ _ _ _ _ T4 (mkF m 16 #[.val (.ref a1), .val (.int p2), .val (.int p3), .val (.int (Int32.ofNat (cn ms p2 1)))] [])
    refine own_go (fun _ => XS.iconst X4.here hx rfl (hb hby d5_16)) ?_
    show GG _ _ _ _ _ _ _ T4 (mkF m 17 #[.val (.ref a1), .val (.int p2), .val (.int p3), .val (.int (Int32.ofNat (cn ms p2 1)))] [(.int (1 : Int32))])
    refine own_go (fun _ => XS.iloadN X4.here hx rfl (hb hby d5_17) rfl) ?_
    show GG _ _ _ _ _ _ _ T4 (mkF m 18 #[.val (.ref a1), .val (.int p2), .val (.int p3), .val (.int (Int32.ofNat (cn ms p2 1)))] [(.int p3), (.int (1 : Int32))])
    have hc18 : (1 : Int32) < p3 := (Int32.lt_iff_toInt_lt.mpr ((by show (1 < p3.toInt); omega : (1 < p3.toInt))))
    refine own_go (fun _ => XS.icmpNo X4.here hx rfl (hb hby d5_18) rfl (tlt hc18).2.1) ?_
    show GG _ _ _ _ _ _ _ T4 (mkF m 21 #[.val (.ref a1), .val (.int p2), .val (.int p3), .val (.int (Int32.ofNat (cn ms p2 1)))] [])
    refine own_go (fun _ => XS.iloadN X4.here hx rfl (hb hby d5_21) rfl) ?_
    show GG _ _ _ _ _ _ _ T4 (mkF m 22 #[.val (.ref a1), .val (.int p2), .val (.int p3), .val (.int (Int32.ofNat (cn ms p2 1)))] [(.int (Int32.ofNat (cn ms p2 1)))])
    refine own_go (fun _ => XS.aloadN X4.here hx rfl (hb hby d5_22) rfl rfl) ?_
    show GG _ _ _ _ _ _ _ T4 (mkF m 23 #[.val (.ref a1), .val (.int p2), .val (.int p3), .val (.int (Int32.ofNat (cn ms p2 1)))] [(.ref a1), (.int (Int32.ofNat (cn ms p2 1)))])
    refine own_go (fun _ => XS.iconst X4.here hx rfl (hb hby d5_23)) ?_
    show GG _ _ _ _ _ _ _ T4 (mkF m 24 #[.val (.ref a1), .val (.int p2), .val (.int p3), .val (.int (Int32.ofNat (cn ms p2 1)))] [(.int (1 : Int32)), (.ref a1), (.int (Int32.ofNat (cn ms p2 1)))])
    refine own_go (fun _ => XS.iloadN X4.here hx rfl (hb hby d5_24) rfl) ?_
    show GG _ _ _ _ _ _ _ T4 (mkF m 25 #[.val (.ref a1), .val (.int p2), .val (.int p3), .val (.int (Int32.ofNat (cn ms p2 1)))] [(.int p2), (.int (1 : Int32)), (.ref a1), (.int (Int32.ofNat (cn ms p2 1)))])
    refine own_callS X4 hx hZ (y := (⟨"com/example/deft_shards/deftshards/cluster/KMeansMembersPinLaw", "at", "([III)I"⟩ : MethodName)) 1 hown (hw _ (List.mem_of_getElem? (i := 22) rfl)) (hw _ (List.mem_of_getElem? (i := 23) rfl)) (hw _ (List.mem_of_getElem? (i := 3) rfl)) (hw _ (List.mem_of_getElem? (i := 24) rfl)) (by decide) (argsL := [(.ref a1), (.int (1 : Int32)), (.int p2)]) (rest := [(.int (Int32.ofNat (cn ms p2 1)))]) (rm6 l Z a0 hw [] a1 (1 : Int32) p2 ms 1 h0 n0 Z0 V_1 (by decide) hn6) (by decide) (by decide) (by decide) (by decide) (g := (mkF m 25 #[.val (.ref a1), .val (.int p2), .val (.int p3), .val (.int (Int32.ofNat (cn ms p2 1)))] [(.int p2), (.int (1 : Int32)), (.ref a1), (.int (Int32.ofNat (cn ms p2 1)))])) rfl (by rw [hml]; rfl) (lenOf pd___III_I_464 rfl) rfl (by show 2 * 0 + _ ≤ _; exact Nat.le_of_eq rfl) (hb hby d5_25) hh4 ?_
    rintro v5 T5 L5 X5 ⟨rfl, N5q, hh5⟩
    have N5 := Fr.app N4 N5q
    show GG _ _ _ _ _ _ _ T5 (mkF m 28 #[.val (.ref a1), .val (.int p2), .val (.int p3), .val (.int (Int32.ofNat (cn ms p2 1)))] [(.int (if ms[1]? = some p2 then (1 : Int32) else 0)), (.int (Int32.ofNat (cn ms p2 1)))])
    refine own_go (fun _ => XS.iadd X5.here hx rfl (hb hby d5_28) rfl) ?_
    show GG _ _ _ _ _ _ _ T5 (mkF m 29 #[.val (.ref a1), .val (.int p2), .val (.int p3), .val (.int (Int32.ofNat (cn ms p2 1)))] [(.int ((Int32.ofNat (cn ms p2 1)) + (if ms[1]? = some p2 then (1 : Int32) else 0)))])
    rw [show ((Int32.ofNat (cn ms p2 1)) + (if ms[1]? = some p2 then (1 : Int32) else 0)) = Int32.ofNat (cn ms p2 1) + (if ms[1]? = some p2 then (1 : Int32) else 0) from rfl, own_at]
    show GG _ _ _ _ _ _ _ T5 (mkF m 29 #[.val (.ref a1), .val (.int p2), .val (.int p3), .val (.int (Int32.ofNat (cn ms p2 1)))] [(.int (Int32.ofNat (cn ms p2 2)))])
    refine own_go (fun _ => XS.istoreN X5.here hx rfl (hb hby d5_29) rfl (l' := #[.val (.ref a1), .val (.int p2), .val (.int p3), .val (.int (Int32.ofNat (cn ms p2 2)))]) rfl) ?_
    show GG _ _ _ _ _ _ _ T5 (mkF m 30 #[.val (.ref a1), .val (.int p2), .val (.int p3), .val (.int (Int32.ofNat (cn ms p2 2)))] [])
    refine own_go (fun _ => XS.iconst X5.here hx rfl (hb hby d5_30)) ?_
    show GG _ _ _ _ _ _ _ T5 (mkF m 31 #[.val (.ref a1), .val (.int p2), .val (.int p3), .val (.int (Int32.ofNat (cn ms p2 2)))] [(.int (2 : Int32))])
    refine own_go (fun _ => XS.iloadN X5.here hx rfl (hb hby d5_31) rfl) ?_
    show GG _ _ _ _ _ _ _ T5 (mkF m 32 #[.val (.ref a1), .val (.int p2), .val (.int p3), .val (.int (Int32.ofNat (cn ms p2 2)))] [(.int p3), (.int (2 : Int32))])
    have hc32 : (2 : Int32) < p3 := (Int32.lt_iff_toInt_lt.mpr ((by show (2 < p3.toInt); omega : (2 < p3.toInt))))
    refine own_go (fun _ => XS.icmpNo X5.here hx rfl (hb hby d5_32) rfl (tlt hc32).2.1) ?_
    show GG _ _ _ _ _ _ _ T5 (mkF m 35 #[.val (.ref a1), .val (.int p2), .val (.int p3), .val (.int (Int32.ofNat (cn ms p2 2)))] [])
    refine own_go (fun _ => XS.iloadN X5.here hx rfl (hb hby d5_35) rfl) ?_
    show GG _ _ _ _ _ _ _ T5 (mkF m 36 #[.val (.ref a1), .val (.int p2), .val (.int p3), .val (.int (Int32.ofNat (cn ms p2 2)))] [(.int (Int32.ofNat (cn ms p2 2)))])
    refine own_go (fun _ => XS.aloadN X5.here hx rfl (hb hby d5_36) rfl rfl) ?_
    show GG _ _ _ _ _ _ _ T5 (mkF m 37 #[.val (.ref a1), .val (.int p2), .val (.int p3), .val (.int (Int32.ofNat (cn ms p2 2)))] [(.ref a1), (.int (Int32.ofNat (cn ms p2 2)))])
    refine own_go (fun _ => XS.iconst X5.here hx rfl (hb hby d5_37)) ?_
    show GG _ _ _ _ _ _ _ T5 (mkF m 38 #[.val (.ref a1), .val (.int p2), .val (.int p3), .val (.int (Int32.ofNat (cn ms p2 2)))] [(.int (2 : Int32)), (.ref a1), (.int (Int32.ofNat (cn ms p2 2)))])
    refine own_go (fun _ => XS.iloadN X5.here hx rfl (hb hby d5_38) rfl) ?_
    show GG _ _ _ _ _ _ _ T5 (mkF m 39 #[.val (.ref a1), .val (.int p2), .val (.int p3), .val (.int (Int32.ofNat (cn ms p2 2)))] [(.int p2), (.int (2 : Int32)), (.ref a1), (.int (Int32.ofNat (cn ms p2 2)))])
    refine own_callS X5 hx hZ (y := (⟨"com/example/deft_shards/deftshards/cluster/KMeansMembersPinLaw", "at", "([III)I"⟩ : MethodName)) 1 hown (hw _ (List.mem_of_getElem? (i := 22) rfl)) (hw _ (List.mem_of_getElem? (i := 23) rfl)) (hw _ (List.mem_of_getElem? (i := 3) rfl)) (hw _ (List.mem_of_getElem? (i := 24) rfl)) (by decide) (argsL := [(.ref a1), (.int (2 : Int32)), (.int p2)]) (rest := [(.int (Int32.ofNat (cn ms p2 2)))]) (rm6 l Z a0 hw [] a1 (2 : Int32) p2 ms 2 h0 n0 Z0 V_1 (by decide) hn6) (by decide) (by decide) (by decide) (by decide) (g := (mkF m 39 #[.val (.ref a1), .val (.int p2), .val (.int p3), .val (.int (Int32.ofNat (cn ms p2 2)))] [(.int p2), (.int (2 : Int32)), (.ref a1), (.int (Int32.ofNat (cn ms p2 2)))])) rfl (by rw [hml]; rfl) (lenOf pd___III_I_464 rfl) rfl (by show 2 * 0 + _ ≤ _; exact Nat.le_of_eq rfl) (hb hby d5_39) hh5 ?_
    rintro v6 T6 L6 X6 ⟨rfl, N6q, hh6⟩
    have N6 := Fr.app N5 N6q
    show GG _ _ _ _ _ _ _ T6 (mkF m 42 #[.val (.ref a1), .val (.int p2), .val (.int p3), .val (.int (Int32.ofNat (cn ms p2 2)))] [(.int (if ms[2]? = some p2 then (1 : Int32) else 0)), (.int (Int32.ofNat (cn ms p2 2)))])
    refine own_go (fun _ => XS.iadd X6.here hx rfl (hb hby d5_42) rfl) ?_
    show GG _ _ _ _ _ _ _ T6 (mkF m 43 #[.val (.ref a1), .val (.int p2), .val (.int p3), .val (.int (Int32.ofNat (cn ms p2 2)))] [(.int ((Int32.ofNat (cn ms p2 2)) + (if ms[2]? = some p2 then (1 : Int32) else 0)))])
    rw [show ((Int32.ofNat (cn ms p2 2)) + (if ms[2]? = some p2 then (1 : Int32) else 0)) = Int32.ofNat (cn ms p2 2) + (if ms[2]? = some p2 then (1 : Int32) else 0) from rfl, own_at]
    show GG _ _ _ _ _ _ _ T6 (mkF m 43 #[.val (.ref a1), .val (.int p2), .val (.int p3), .val (.int (Int32.ofNat (cn ms p2 2)))] [(.int (Int32.ofNat (cn ms p2 3)))])
    refine own_go (fun _ => XS.istoreN X6.here hx rfl (hb hby d5_43) rfl (l' := #[.val (.ref a1), .val (.int p2), .val (.int p3), .val (.int (Int32.ofNat (cn ms p2 3)))]) rfl) ?_
    show GG _ _ _ _ _ _ _ T6 (mkF m 44 #[.val (.ref a1), .val (.int p2), .val (.int p3), .val (.int (Int32.ofNat (cn ms p2 3)))] [])
    refine own_go (fun _ => XS.iconst X6.here hx rfl (hb hby d5_44)) ?_
    show GG _ _ _ _ _ _ _ T6 (mkF m 45 #[.val (.ref a1), .val (.int p2), .val (.int p3), .val (.int (Int32.ofNat (cn ms p2 3)))] [(.int (3 : Int32))])
    refine own_go (fun _ => XS.iloadN X6.here hx rfl (hb hby d5_45) rfl) ?_
    show GG _ _ _ _ _ _ _ T6 (mkF m 46 #[.val (.ref a1), .val (.int p2), .val (.int p3), .val (.int (Int32.ofNat (cn ms p2 3)))] [(.int p3), (.int (3 : Int32))])
    have hc46 : ¬ ((3 : Int32) < p3) := (fun q => absurd (Int32.lt_iff_toInt_lt.mp q) ((by show ¬ (3 < p3.toInt); omega : ¬ (3 < p3.toInt))))
    refine own_go (fun _ => XS.icmpYes X6.here hx rfl (pc0 := 46) (pc' := 58) rfl (hb hby d5_46) rfl (flt hc46).2.1 (by decide) (by decide)) ?_
    show GG _ _ _ _ _ _ _ T6 (mkF m 58 #[.val (.ref a1), .val (.int p2), .val (.int p3), .val (.int (Int32.ofNat (cn ms p2 3)))] [])
    refine own_go (fun _ => XS.iconst X6.here hx rfl (hb hby d5_58)) ?_
    show GG _ _ _ _ _ _ _ T6 (mkF m 59 #[.val (.ref a1), .val (.int p2), .val (.int p3), .val (.int (Int32.ofNat (cn ms p2 3)))] [(.int (4 : Int32))])
    refine own_go (fun _ => XS.iloadN X6.here hx rfl (hb hby d5_59) rfl) ?_
    show GG _ _ _ _ _ _ _ T6 (mkF m 60 #[.val (.ref a1), .val (.int p2), .val (.int p3), .val (.int (Int32.ofNat (cn ms p2 3)))] [(.int p3), (.int (4 : Int32))])
    have hc60 : ¬ ((4 : Int32) < p3) := (fun q => absurd (Int32.lt_iff_toInt_lt.mp q) ((by show ¬ (4 < p3.toInt); omega : ¬ (4 < p3.toInt))))
    refine own_go (fun _ => XS.icmpYes X6.here hx rfl (pc0 := 60) (pc' := 72) rfl (hb hby d5_60) rfl (flt hc60).2.1 (by decide) (by decide)) ?_
    show GG _ _ _ _ _ _ _ T6 (mkF m 72 #[.val (.ref a1), .val (.int p2), .val (.int p3), .val (.int (Int32.ofNat (cn ms p2 3)))] [])
    refine own_go (fun _ => XS.iconst X6.here hx rfl (hb hby d5_72)) ?_
    show GG _ _ _ _ _ _ _ T6 (mkF m 73 #[.val (.ref a1), .val (.int p2), .val (.int p3), .val (.int (Int32.ofNat (cn ms p2 3)))] [(.int (5 : Int32))])
    refine own_go (fun _ => XS.iloadN X6.here hx rfl (hb hby d5_73) rfl) ?_
    show GG _ _ _ _ _ _ _ T6 (mkF m 74 #[.val (.ref a1), .val (.int p2), .val (.int p3), .val (.int (Int32.ofNat (cn ms p2 3)))] [(.int p3), (.int (5 : Int32))])
    have hc74 : ¬ ((5 : Int32) < p3) := (fun q => absurd (Int32.lt_iff_toInt_lt.mp q) ((by show ¬ (5 < p3.toInt); omega : ¬ (5 < p3.toInt))))
    refine own_go (fun _ => XS.icmpYes X6.here hx rfl (pc0 := 74) (pc' := 86) rfl (hb hby d5_74) rfl (flt hc74).2.1 (by decide) (by decide)) ?_
    show GG _ _ _ _ _ _ _ T6 (mkF m 86 #[.val (.ref a1), .val (.int p2), .val (.int p3), .val (.int (Int32.ofNat (cn ms p2 3)))] [])
    refine own_go (fun _ => XS.iloadN X6.here hx rfl (hb hby d5_86) rfl) ?_
    show GG _ _ _ _ _ _ _ T6 (mkF m 87 #[.val (.ref a1), .val (.int p2), .val (.int p3), .val (.int (Int32.ofNat (cn ms p2 3)))] [(.int (Int32.ofNat (cn ms p2 3)))])
    refine own_ret X6 hx hlk (t := .int) (w := (.int (Int32.ofNat (cn ms p2 3)))) Bd.returns rfl (Or.inl ⟨rfl, by simp, _, rfl⟩) (hb hby d5_87) (by decide) (by decide) ?_
    show Q5 Z a1 p2 p3 ms uN h0 n0 (some (.int (Int32.ofNat (cn ms p2 3)))) T6.heap _
    rw [hh6]
    exact ⟨by subst hul; rfl, N6, rfl⟩
  · skip
    show GG _ _ _ _ _ _ _ s₁ (mkF m 0 #[.val (.ref a1), .val (.int p2), .val (.int p3), .unset] [])
    refine own_go (fun _ => XS.iconst X0.here hx rfl (hb hby d5_0)) ?_
    show GG _ _ _ _ _ _ _ s₁ (mkF m 1 #[.val (.ref a1), .val (.int p2), .val (.int p3), .unset] [(.int (0 : Int32))])
    refine own_go (fun _ => XS.istoreN X0.here hx rfl (hb hby d5_1) rfl (l' := #[.val (.ref a1), .val (.int p2), .val (.int p3), .val (.int (0 : Int32))]) rfl) ?_
    show GG _ _ _ _ _ _ _ s₁ (mkF m 2 #[.val (.ref a1), .val (.int p2), .val (.int p3), .val (.int (0 : Int32))] [])
    refine own_go (fun _ => XS.iconst X0.here hx rfl (hb hby d5_2)) ?_
    show GG _ _ _ _ _ _ _ s₁ (mkF m 3 #[.val (.ref a1), .val (.int p2), .val (.int p3), .val (.int (0 : Int32))] [(.int (0 : Int32))])
    refine own_go (fun _ => XS.iloadN X0.here hx rfl (hb hby d5_3) rfl) ?_
    show GG _ _ _ _ _ _ _ s₁ (mkF m 4 #[.val (.ref a1), .val (.int p2), .val (.int p3), .val (.int (0 : Int32))] [(.int p3), (.int (0 : Int32))])
    have hc4 : (0 : Int32) < p3 := (Int32.lt_iff_toInt_lt.mpr ((by show (0 < p3.toInt); omega : (0 < p3.toInt))))
    refine own_go (fun _ => XS.icmpNo X0.here hx rfl (hb hby d5_4) rfl (tlt hc4).2.1) ?_
    show GG _ _ _ _ _ _ _ s₁ (mkF m 7 #[.val (.ref a1), .val (.int p2), .val (.int p3), .val (.int (0 : Int32))] [])
    refine own_go (fun _ => XS.iloadN X0.here hx rfl (hb hby d5_7) rfl) ?_
    show GG _ _ _ _ _ _ _ s₁ (mkF m 8 #[.val (.ref a1), .val (.int p2), .val (.int p3), .val (.int (0 : Int32))] [(.int (0 : Int32))])
    refine own_go (fun _ => XS.aloadN X0.here hx rfl (hb hby d5_8) rfl rfl) ?_
    show GG _ _ _ _ _ _ _ s₁ (mkF m 9 #[.val (.ref a1), .val (.int p2), .val (.int p3), .val (.int (0 : Int32))] [(.ref a1), (.int (0 : Int32))])
    refine own_go (fun _ => XS.iconst X0.here hx rfl (hb hby d5_9)) ?_
    show GG _ _ _ _ _ _ _ s₁ (mkF m 10 #[.val (.ref a1), .val (.int p2), .val (.int p3), .val (.int (0 : Int32))] [(.int (0 : Int32)), (.ref a1), (.int (0 : Int32))])
    refine own_go (fun _ => XS.iloadN X0.here hx rfl (hb hby d5_10) rfl) ?_
    show GG _ _ _ _ _ _ _ s₁ (mkF m 11 #[.val (.ref a1), .val (.int p2), .val (.int p3), .val (.int (0 : Int32))] [(.int p2), (.int (0 : Int32)), (.ref a1), (.int (0 : Int32))])
    refine own_callS X0 hx hZ (y := (⟨"com/example/deft_shards/deftshards/cluster/KMeansMembersPinLaw", "at", "([III)I"⟩ : MethodName)) 1 hown (hw _ (List.mem_of_getElem? (i := 22) rfl)) (hw _ (List.mem_of_getElem? (i := 23) rfl)) (hw _ (List.mem_of_getElem? (i := 3) rfl)) (hw _ (List.mem_of_getElem? (i := 24) rfl)) (by decide) (argsL := [(.ref a1), (.int (0 : Int32)), (.int p2)]) (rest := [(.int (0 : Int32))]) (rm6 l Z a0 hw [] a1 (0 : Int32) p2 ms 0 h0 n0 Z0 V_1 (by decide) hn6) (by decide) (by decide) (by decide) (by decide) (g := (mkF m 11 #[.val (.ref a1), .val (.int p2), .val (.int p3), .val (.int (0 : Int32))] [(.int p2), (.int (0 : Int32)), (.ref a1), (.int (0 : Int32))])) rfl (by rw [hml]; rfl) (lenOf pd___III_I_464 rfl) rfl (by show 2 * 0 + _ ≤ _; exact Nat.le_of_eq rfl) (hb hby d5_11) e0 ?_
    rintro v7 T7 L7 X7 ⟨rfl, N7q, hh7⟩
    have N7 := Fr.app N0 N7q
    show GG _ _ _ _ _ _ _ T7 (mkF m 14 #[.val (.ref a1), .val (.int p2), .val (.int p3), .val (.int (0 : Int32))] [(.int (if ms[0]? = some p2 then (1 : Int32) else 0)), (.int (0 : Int32))])
    refine own_go (fun _ => XS.iadd X7.here hx rfl (hb hby d5_14) rfl) ?_
    show GG _ _ _ _ _ _ _ T7 (mkF m 15 #[.val (.ref a1), .val (.int p2), .val (.int p3), .val (.int (0 : Int32))] [(.int ((0 : Int32) + (if ms[0]? = some p2 then (1 : Int32) else 0)))])
    rw [show ((0 : Int32) + (if ms[0]? = some p2 then (1 : Int32) else 0)) = Int32.ofNat (cn ms p2 0) + (if ms[0]? = some p2 then (1 : Int32) else 0) from rfl, own_at]
    show GG _ _ _ _ _ _ _ T7 (mkF m 15 #[.val (.ref a1), .val (.int p2), .val (.int p3), .val (.int (0 : Int32))] [(.int (Int32.ofNat (cn ms p2 1)))])
    refine own_go (fun _ => XS.istoreN X7.here hx rfl (hb hby d5_15) rfl (l' := #[.val (.ref a1), .val (.int p2), .val (.int p3), .val (.int (Int32.ofNat (cn ms p2 1)))]) rfl) ?_
    show GG _ _ _ _ _ _ _ T7 (mkF m 16 #[.val (.ref a1), .val (.int p2), .val (.int p3), .val (.int (Int32.ofNat (cn ms p2 1)))] [])
    refine own_go (fun _ => XS.iconst X7.here hx rfl (hb hby d5_16)) ?_
    show GG _ _ _ _ _ _ _ T7 (mkF m 17 #[.val (.ref a1), .val (.int p2), .val (.int p3), .val (.int (Int32.ofNat (cn ms p2 1)))] [(.int (1 : Int32))])
    refine own_go (fun _ => XS.iloadN X7.here hx rfl (hb hby d5_17) rfl) ?_
    show GG _ _ _ _ _ _ _ T7 (mkF m 18 #[.val (.ref a1), .val (.int p2), .val (.int p3), .val (.int (Int32.ofNat (cn ms p2 1)))] [(.int p3), (.int (1 : Int32))])
    have hc18 : (1 : Int32) < p3 := (Int32.lt_iff_toInt_lt.mpr ((by show (1 < p3.toInt); omega : (1 < p3.toInt))))
    refine own_go (fun _ => XS.icmpNo X7.here hx rfl (hb hby d5_18) rfl (tlt hc18).2.1) ?_
    show GG _ _ _ _ _ _ _ T7 (mkF m 21 #[.val (.ref a1), .val (.int p2), .val (.int p3), .val (.int (Int32.ofNat (cn ms p2 1)))] [])
    refine own_go (fun _ => XS.iloadN X7.here hx rfl (hb hby d5_21) rfl) ?_
    show GG _ _ _ _ _ _ _ T7 (mkF m 22 #[.val (.ref a1), .val (.int p2), .val (.int p3), .val (.int (Int32.ofNat (cn ms p2 1)))] [(.int (Int32.ofNat (cn ms p2 1)))])
    refine own_go (fun _ => XS.aloadN X7.here hx rfl (hb hby d5_22) rfl rfl) ?_
    show GG _ _ _ _ _ _ _ T7 (mkF m 23 #[.val (.ref a1), .val (.int p2), .val (.int p3), .val (.int (Int32.ofNat (cn ms p2 1)))] [(.ref a1), (.int (Int32.ofNat (cn ms p2 1)))])
    refine own_go (fun _ => XS.iconst X7.here hx rfl (hb hby d5_23)) ?_
    show GG _ _ _ _ _ _ _ T7 (mkF m 24 #[.val (.ref a1), .val (.int p2), .val (.int p3), .val (.int (Int32.ofNat (cn ms p2 1)))] [(.int (1 : Int32)), (.ref a1), (.int (Int32.ofNat (cn ms p2 1)))])
    refine own_go (fun _ => XS.iloadN X7.here hx rfl (hb hby d5_24) rfl) ?_
    show GG _ _ _ _ _ _ _ T7 (mkF m 25 #[.val (.ref a1), .val (.int p2), .val (.int p3), .val (.int (Int32.ofNat (cn ms p2 1)))] [(.int p2), (.int (1 : Int32)), (.ref a1), (.int (Int32.ofNat (cn ms p2 1)))])
    refine own_callS X7 hx hZ (y := (⟨"com/example/deft_shards/deftshards/cluster/KMeansMembersPinLaw", "at", "([III)I"⟩ : MethodName)) 1 hown (hw _ (List.mem_of_getElem? (i := 22) rfl)) (hw _ (List.mem_of_getElem? (i := 23) rfl)) (hw _ (List.mem_of_getElem? (i := 3) rfl)) (hw _ (List.mem_of_getElem? (i := 24) rfl)) (by decide) (argsL := [(.ref a1), (.int (1 : Int32)), (.int p2)]) (rest := [(.int (Int32.ofNat (cn ms p2 1)))]) (rm6 l Z a0 hw [] a1 (1 : Int32) p2 ms 1 h0 n0 Z0 V_1 (by decide) hn6) (by decide) (by decide) (by decide) (by decide) (g := (mkF m 25 #[.val (.ref a1), .val (.int p2), .val (.int p3), .val (.int (Int32.ofNat (cn ms p2 1)))] [(.int p2), (.int (1 : Int32)), (.ref a1), (.int (Int32.ofNat (cn ms p2 1)))])) rfl (by rw [hml]; rfl) (lenOf pd___III_I_464 rfl) rfl (by show 2 * 0 + _ ≤ _; exact Nat.le_of_eq rfl) (hb hby d5_25) hh7 ?_
    rintro v8 T8 L8 X8 ⟨rfl, N8q, hh8⟩
    have N8 := Fr.app N7 N8q
    show GG _ _ _ _ _ _ _ T8 (mkF m 28 #[.val (.ref a1), .val (.int p2), .val (.int p3), .val (.int (Int32.ofNat (cn ms p2 1)))] [(.int (if ms[1]? = some p2 then (1 : Int32) else 0)), (.int (Int32.ofNat (cn ms p2 1)))])
    refine own_go (fun _ => XS.iadd X8.here hx rfl (hb hby d5_28) rfl) ?_
    show GG _ _ _ _ _ _ _ T8 (mkF m 29 #[.val (.ref a1), .val (.int p2), .val (.int p3), .val (.int (Int32.ofNat (cn ms p2 1)))] [(.int ((Int32.ofNat (cn ms p2 1)) + (if ms[1]? = some p2 then (1 : Int32) else 0)))])
    rw [show ((Int32.ofNat (cn ms p2 1)) + (if ms[1]? = some p2 then (1 : Int32) else 0)) = Int32.ofNat (cn ms p2 1) + (if ms[1]? = some p2 then (1 : Int32) else 0) from rfl, own_at]
    show GG _ _ _ _ _ _ _ T8 (mkF m 29 #[.val (.ref a1), .val (.int p2), .val (.int p3), .val (.int (Int32.ofNat (cn ms p2 1)))] [(.int (Int32.ofNat (cn ms p2 2)))])
    refine own_go (fun _ => XS.istoreN X8.here hx rfl (hb hby d5_29) rfl (l' := #[.val (.ref a1), .val (.int p2), .val (.int p3), .val (.int (Int32.ofNat (cn ms p2 2)))]) rfl) ?_
    show GG _ _ _ _ _ _ _ T8 (mkF m 30 #[.val (.ref a1), .val (.int p2), .val (.int p3), .val (.int (Int32.ofNat (cn ms p2 2)))] [])
    refine own_go (fun _ => XS.iconst X8.here hx rfl (hb hby d5_30)) ?_
    show GG _ _ _ _ _ _ _ T8 (mkF m 31 #[.val (.ref a1), .val (.int p2), .val (.int p3), .val (.int (Int32.ofNat (cn ms p2 2)))] [(.int (2 : Int32))])
    refine own_go (fun _ => XS.iloadN X8.here hx rfl (hb hby d5_31) rfl) ?_
    show GG _ _ _ _ _ _ _ T8 (mkF m 32 #[.val (.ref a1), .val (.int p2), .val (.int p3), .val (.int (Int32.ofNat (cn ms p2 2)))] [(.int p3), (.int (2 : Int32))])
    have hc32 : (2 : Int32) < p3 := (Int32.lt_iff_toInt_lt.mpr ((by show (2 < p3.toInt); omega : (2 < p3.toInt))))
    refine own_go (fun _ => XS.icmpNo X8.here hx rfl (hb hby d5_32) rfl (tlt hc32).2.1) ?_
    show GG _ _ _ _ _ _ _ T8 (mkF m 35 #[.val (.ref a1), .val (.int p2), .val (.int p3), .val (.int (Int32.ofNat (cn ms p2 2)))] [])
    refine own_go (fun _ => XS.iloadN X8.here hx rfl (hb hby d5_35) rfl) ?_
    show GG _ _ _ _ _ _ _ T8 (mkF m 36 #[.val (.ref a1), .val (.int p2), .val (.int p3), .val (.int (Int32.ofNat (cn ms p2 2)))] [(.int (Int32.ofNat (cn ms p2 2)))])
    refine own_go (fun _ => XS.aloadN X8.here hx rfl (hb hby d5_36) rfl rfl) ?_
    show GG _ _ _ _ _ _ _ T8 (mkF m 37 #[.val (.ref a1), .val (.int p2), .val (.int p3), .val (.int (Int32.ofNat (cn ms p2 2)))] [(.ref a1), (.int (Int32.ofNat (cn ms p2 2)))])
    refine own_go (fun _ => XS.iconst X8.here hx rfl (hb hby d5_37)) ?_
    show GG _ _ _ _ _ _ _ T8 (mkF m 38 #[.val (.ref a1), .val (.int p2), .val (.int p3), .val (.int (Int32.ofNat (cn ms p2 2)))] [(.int (2 : Int32)), (.ref a1), (.int (Int32.ofNat (cn ms p2 2)))])
    refine own_go (fun _ => XS.iloadN X8.here hx rfl (hb hby d5_38) rfl) ?_
    show GG _ _ _ _ _ _ _ T8 (mkF m 39 #[.val (.ref a1), .val (.int p2), .val (.int p3), .val (.int (Int32.ofNat (cn ms p2 2)))] [(.int p2), (.int (2 : Int32)), (.ref a1), (.int (Int32.ofNat (cn ms p2 2)))])
    refine own_callS X8 hx hZ (y := (⟨"com/example/deft_shards/deftshards/cluster/KMeansMembersPinLaw", "at", "([III)I"⟩ : MethodName)) 1 hown (hw _ (List.mem_of_getElem? (i := 22) rfl)) (hw _ (List.mem_of_getElem? (i := 23) rfl)) (hw _ (List.mem_of_getElem? (i := 3) rfl)) (hw _ (List.mem_of_getElem? (i := 24) rfl)) (by decide) (argsL := [(.ref a1), (.int (2 : Int32)), (.int p2)]) (rest := [(.int (Int32.ofNat (cn ms p2 2)))]) (rm6 l Z a0 hw [] a1 (2 : Int32) p2 ms 2 h0 n0 Z0 V_1 (by decide) hn6) (by decide) (by decide) (by decide) (by decide) (g := (mkF m 39 #[.val (.ref a1), .val (.int p2), .val (.int p3), .val (.int (Int32.ofNat (cn ms p2 2)))] [(.int p2), (.int (2 : Int32)), (.ref a1), (.int (Int32.ofNat (cn ms p2 2)))])) rfl (by rw [hml]; rfl) (lenOf pd___III_I_464 rfl) rfl (by show 2 * 0 + _ ≤ _; exact Nat.le_of_eq rfl) (hb hby d5_39) hh8 ?_
    rintro v9 T9 L9 X9 ⟨rfl, N9q, hh9⟩
    have N9 := Fr.app N8 N9q
    show GG _ _ _ _ _ _ _ T9 (mkF m 42 #[.val (.ref a1), .val (.int p2), .val (.int p3), .val (.int (Int32.ofNat (cn ms p2 2)))] [(.int (if ms[2]? = some p2 then (1 : Int32) else 0)), (.int (Int32.ofNat (cn ms p2 2)))])
    refine own_go (fun _ => XS.iadd X9.here hx rfl (hb hby d5_42) rfl) ?_
    show GG _ _ _ _ _ _ _ T9 (mkF m 43 #[.val (.ref a1), .val (.int p2), .val (.int p3), .val (.int (Int32.ofNat (cn ms p2 2)))] [(.int ((Int32.ofNat (cn ms p2 2)) + (if ms[2]? = some p2 then (1 : Int32) else 0)))])
    rw [show ((Int32.ofNat (cn ms p2 2)) + (if ms[2]? = some p2 then (1 : Int32) else 0)) = Int32.ofNat (cn ms p2 2) + (if ms[2]? = some p2 then (1 : Int32) else 0) from rfl, own_at]
    show GG _ _ _ _ _ _ _ T9 (mkF m 43 #[.val (.ref a1), .val (.int p2), .val (.int p3), .val (.int (Int32.ofNat (cn ms p2 2)))] [(.int (Int32.ofNat (cn ms p2 3)))])
    refine own_go (fun _ => XS.istoreN X9.here hx rfl (hb hby d5_43) rfl (l' := #[.val (.ref a1), .val (.int p2), .val (.int p3), .val (.int (Int32.ofNat (cn ms p2 3)))]) rfl) ?_
    show GG _ _ _ _ _ _ _ T9 (mkF m 44 #[.val (.ref a1), .val (.int p2), .val (.int p3), .val (.int (Int32.ofNat (cn ms p2 3)))] [])
    refine own_go (fun _ => XS.iconst X9.here hx rfl (hb hby d5_44)) ?_
    show GG _ _ _ _ _ _ _ T9 (mkF m 45 #[.val (.ref a1), .val (.int p2), .val (.int p3), .val (.int (Int32.ofNat (cn ms p2 3)))] [(.int (3 : Int32))])
    refine own_go (fun _ => XS.iloadN X9.here hx rfl (hb hby d5_45) rfl) ?_
    show GG _ _ _ _ _ _ _ T9 (mkF m 46 #[.val (.ref a1), .val (.int p2), .val (.int p3), .val (.int (Int32.ofNat (cn ms p2 3)))] [(.int p3), (.int (3 : Int32))])
    have hc46 : (3 : Int32) < p3 := (Int32.lt_iff_toInt_lt.mpr ((by show (3 < p3.toInt); omega : (3 < p3.toInt))))
    refine own_go (fun _ => XS.icmpNo X9.here hx rfl (hb hby d5_46) rfl (tlt hc46).2.1) ?_
    show GG _ _ _ _ _ _ _ T9 (mkF m 49 #[.val (.ref a1), .val (.int p2), .val (.int p3), .val (.int (Int32.ofNat (cn ms p2 3)))] [])
    refine own_go (fun _ => XS.iloadN X9.here hx rfl (hb hby d5_49) rfl) ?_
    show GG _ _ _ _ _ _ _ T9 (mkF m 50 #[.val (.ref a1), .val (.int p2), .val (.int p3), .val (.int (Int32.ofNat (cn ms p2 3)))] [(.int (Int32.ofNat (cn ms p2 3)))])
    refine own_go (fun _ => XS.aloadN X9.here hx rfl (hb hby d5_50) rfl rfl) ?_
    show GG _ _ _ _ _ _ _ T9 (mkF m 51 #[.val (.ref a1), .val (.int p2), .val (.int p3), .val (.int (Int32.ofNat (cn ms p2 3)))] [(.ref a1), (.int (Int32.ofNat (cn ms p2 3)))])
    refine own_go (fun _ => XS.iconst X9.here hx rfl (hb hby d5_51)) ?_
    show GG _ _ _ _ _ _ _ T9 (mkF m 52 #[.val (.ref a1), .val (.int p2), .val (.int p3), .val (.int (Int32.ofNat (cn ms p2 3)))] [(.int (3 : Int32)), (.ref a1), (.int (Int32.ofNat (cn ms p2 3)))])
    refine own_go (fun _ => XS.iloadN X9.here hx rfl (hb hby d5_52) rfl) ?_
    show GG _ _ _ _ _ _ _ T9 (mkF m 53 #[.val (.ref a1), .val (.int p2), .val (.int p3), .val (.int (Int32.ofNat (cn ms p2 3)))] [(.int p2), (.int (3 : Int32)), (.ref a1), (.int (Int32.ofNat (cn ms p2 3)))])
    refine own_callS X9 hx hZ (y := (⟨"com/example/deft_shards/deftshards/cluster/KMeansMembersPinLaw", "at", "([III)I"⟩ : MethodName)) 1 hown (hw _ (List.mem_of_getElem? (i := 22) rfl)) (hw _ (List.mem_of_getElem? (i := 23) rfl)) (hw _ (List.mem_of_getElem? (i := 3) rfl)) (hw _ (List.mem_of_getElem? (i := 24) rfl)) (by decide) (argsL := [(.ref a1), (.int (3 : Int32)), (.int p2)]) (rest := [(.int (Int32.ofNat (cn ms p2 3)))]) (rm6 l Z a0 hw [] a1 (3 : Int32) p2 ms 3 h0 n0 Z0 V_1 (by decide) hn6) (by decide) (by decide) (by decide) (by decide) (g := (mkF m 53 #[.val (.ref a1), .val (.int p2), .val (.int p3), .val (.int (Int32.ofNat (cn ms p2 3)))] [(.int p2), (.int (3 : Int32)), (.ref a1), (.int (Int32.ofNat (cn ms p2 3)))])) rfl (by rw [hml]; rfl) (lenOf pd___III_I_464 rfl) rfl (by show 2 * 0 + _ ≤ _; exact Nat.le_of_eq rfl) (hb hby d5_53) hh9 ?_
    rintro v10 T10 L10 X10 ⟨rfl, N10q, hh10⟩
    have N10 := Fr.app N9 N10q
    show GG _ _ _ _ _ _ _ T10 (mkF m 56 #[.val (.ref a1), .val (.int p2), .val (.int p3), .val (.int (Int32.ofNat (cn ms p2 3)))] [(.int (if ms[3]? = some p2 then (1 : Int32) else 0)), (.int (Int32.ofNat (cn ms p2 3)))])
    refine own_go (fun _ => XS.iadd X10.here hx rfl (hb hby d5_56) rfl) ?_
    show GG _ _ _ _ _ _ _ T10 (mkF m 57 #[.val (.ref a1), .val (.int p2), .val (.int p3), .val (.int (Int32.ofNat (cn ms p2 3)))] [(.int ((Int32.ofNat (cn ms p2 3)) + (if ms[3]? = some p2 then (1 : Int32) else 0)))])
    rw [show ((Int32.ofNat (cn ms p2 3)) + (if ms[3]? = some p2 then (1 : Int32) else 0)) = Int32.ofNat (cn ms p2 3) + (if ms[3]? = some p2 then (1 : Int32) else 0) from rfl, own_at]
    show GG _ _ _ _ _ _ _ T10 (mkF m 57 #[.val (.ref a1), .val (.int p2), .val (.int p3), .val (.int (Int32.ofNat (cn ms p2 3)))] [(.int (Int32.ofNat (cn ms p2 4)))])
    refine own_go (fun _ => XS.istoreN X10.here hx rfl (hb hby d5_57) rfl (l' := #[.val (.ref a1), .val (.int p2), .val (.int p3), .val (.int (Int32.ofNat (cn ms p2 4)))]) rfl) ?_
    show GG _ _ _ _ _ _ _ T10 (mkF m 58 #[.val (.ref a1), .val (.int p2), .val (.int p3), .val (.int (Int32.ofNat (cn ms p2 4)))] [])
    refine own_go (fun _ => XS.iconst X10.here hx rfl (hb hby d5_58)) ?_
    show GG _ _ _ _ _ _ _ T10 (mkF m 59 #[.val (.ref a1), .val (.int p2), .val (.int p3), .val (.int (Int32.ofNat (cn ms p2 4)))] [(.int (4 : Int32))])
    refine own_go (fun _ => XS.iloadN X10.here hx rfl (hb hby d5_59) rfl) ?_
    show GG _ _ _ _ _ _ _ T10 (mkF m 60 #[.val (.ref a1), .val (.int p2), .val (.int p3), .val (.int (Int32.ofNat (cn ms p2 4)))] [(.int p3), (.int (4 : Int32))])
    have hc60 : ¬ ((4 : Int32) < p3) := (fun q => absurd (Int32.lt_iff_toInt_lt.mp q) ((by show ¬ (4 < p3.toInt); omega : ¬ (4 < p3.toInt))))
    refine own_go (fun _ => XS.icmpYes X10.here hx rfl (pc0 := 60) (pc' := 72) rfl (hb hby d5_60) rfl (flt hc60).2.1 (by decide) (by decide)) ?_
    show GG _ _ _ _ _ _ _ T10 (mkF m 72 #[.val (.ref a1), .val (.int p2), .val (.int p3), .val (.int (Int32.ofNat (cn ms p2 4)))] [])
    refine own_go (fun _ => XS.iconst X10.here hx rfl (hb hby d5_72)) ?_
    show GG _ _ _ _ _ _ _ T10 (mkF m 73 #[.val (.ref a1), .val (.int p2), .val (.int p3), .val (.int (Int32.ofNat (cn ms p2 4)))] [(.int (5 : Int32))])
    refine own_go (fun _ => XS.iloadN X10.here hx rfl (hb hby d5_73) rfl) ?_
    show GG _ _ _ _ _ _ _ T10 (mkF m 74 #[.val (.ref a1), .val (.int p2), .val (.int p3), .val (.int (Int32.ofNat (cn ms p2 4)))] [(.int p3), (.int (5 : Int32))])
    have hc74 : ¬ ((5 : Int32) < p3) := (fun q => absurd (Int32.lt_iff_toInt_lt.mp q) ((by show ¬ (5 < p3.toInt); omega : ¬ (5 < p3.toInt))))
    refine own_go (fun _ => XS.icmpYes X10.here hx rfl (pc0 := 74) (pc' := 86) rfl (hb hby d5_74) rfl (flt hc74).2.1 (by decide) (by decide)) ?_
    show GG _ _ _ _ _ _ _ T10 (mkF m 86 #[.val (.ref a1), .val (.int p2), .val (.int p3), .val (.int (Int32.ofNat (cn ms p2 4)))] [])
    refine own_go (fun _ => XS.iloadN X10.here hx rfl (hb hby d5_86) rfl) ?_
    show GG _ _ _ _ _ _ _ T10 (mkF m 87 #[.val (.ref a1), .val (.int p2), .val (.int p3), .val (.int (Int32.ofNat (cn ms p2 4)))] [(.int (Int32.ofNat (cn ms p2 4)))])
    refine own_ret X10 hx hlk (t := .int) (w := (.int (Int32.ofNat (cn ms p2 4)))) Bd.returns rfl (Or.inl ⟨rfl, by simp, _, rfl⟩) (hb hby d5_87) (by decide) (by decide) ?_
    show Q5 Z a1 p2 p3 ms uN h0 n0 (some (.int (Int32.ofNat (cn ms p2 4)))) T10.heap _
    rw [hh10]
    exact ⟨by subst hul; rfl, N10, rfl⟩
  · skip
    show GG _ _ _ _ _ _ _ s₁ (mkF m 0 #[.val (.ref a1), .val (.int p2), .val (.int p3), .unset] [])
    refine own_go (fun _ => XS.iconst X0.here hx rfl (hb hby d5_0)) ?_
    show GG _ _ _ _ _ _ _ s₁ (mkF m 1 #[.val (.ref a1), .val (.int p2), .val (.int p3), .unset] [(.int (0 : Int32))])
    refine own_go (fun _ => XS.istoreN X0.here hx rfl (hb hby d5_1) rfl (l' := #[.val (.ref a1), .val (.int p2), .val (.int p3), .val (.int (0 : Int32))]) rfl) ?_
    show GG _ _ _ _ _ _ _ s₁ (mkF m 2 #[.val (.ref a1), .val (.int p2), .val (.int p3), .val (.int (0 : Int32))] [])
    refine own_go (fun _ => XS.iconst X0.here hx rfl (hb hby d5_2)) ?_
    show GG _ _ _ _ _ _ _ s₁ (mkF m 3 #[.val (.ref a1), .val (.int p2), .val (.int p3), .val (.int (0 : Int32))] [(.int (0 : Int32))])
    refine own_go (fun _ => XS.iloadN X0.here hx rfl (hb hby d5_3) rfl) ?_
    show GG _ _ _ _ _ _ _ s₁ (mkF m 4 #[.val (.ref a1), .val (.int p2), .val (.int p3), .val (.int (0 : Int32))] [(.int p3), (.int (0 : Int32))])
    have hc4 : (0 : Int32) < p3 := (Int32.lt_iff_toInt_lt.mpr ((by show (0 < p3.toInt); omega : (0 < p3.toInt))))
    refine own_go (fun _ => XS.icmpNo X0.here hx rfl (hb hby d5_4) rfl (tlt hc4).2.1) ?_
    show GG _ _ _ _ _ _ _ s₁ (mkF m 7 #[.val (.ref a1), .val (.int p2), .val (.int p3), .val (.int (0 : Int32))] [])
    refine own_go (fun _ => XS.iloadN X0.here hx rfl (hb hby d5_7) rfl) ?_
    show GG _ _ _ _ _ _ _ s₁ (mkF m 8 #[.val (.ref a1), .val (.int p2), .val (.int p3), .val (.int (0 : Int32))] [(.int (0 : Int32))])
    refine own_go (fun _ => XS.aloadN X0.here hx rfl (hb hby d5_8) rfl rfl) ?_
    show GG _ _ _ _ _ _ _ s₁ (mkF m 9 #[.val (.ref a1), .val (.int p2), .val (.int p3), .val (.int (0 : Int32))] [(.ref a1), (.int (0 : Int32))])
    refine own_go (fun _ => XS.iconst X0.here hx rfl (hb hby d5_9)) ?_
    show GG _ _ _ _ _ _ _ s₁ (mkF m 10 #[.val (.ref a1), .val (.int p2), .val (.int p3), .val (.int (0 : Int32))] [(.int (0 : Int32)), (.ref a1), (.int (0 : Int32))])
    refine own_go (fun _ => XS.iloadN X0.here hx rfl (hb hby d5_10) rfl) ?_
    show GG _ _ _ _ _ _ _ s₁ (mkF m 11 #[.val (.ref a1), .val (.int p2), .val (.int p3), .val (.int (0 : Int32))] [(.int p2), (.int (0 : Int32)), (.ref a1), (.int (0 : Int32))])
    refine own_callS X0 hx hZ (y := (⟨"com/example/deft_shards/deftshards/cluster/KMeansMembersPinLaw", "at", "([III)I"⟩ : MethodName)) 1 hown (hw _ (List.mem_of_getElem? (i := 22) rfl)) (hw _ (List.mem_of_getElem? (i := 23) rfl)) (hw _ (List.mem_of_getElem? (i := 3) rfl)) (hw _ (List.mem_of_getElem? (i := 24) rfl)) (by decide) (argsL := [(.ref a1), (.int (0 : Int32)), (.int p2)]) (rest := [(.int (0 : Int32))]) (rm6 l Z a0 hw [] a1 (0 : Int32) p2 ms 0 h0 n0 Z0 V_1 (by decide) hn6) (by decide) (by decide) (by decide) (by decide) (g := (mkF m 11 #[.val (.ref a1), .val (.int p2), .val (.int p3), .val (.int (0 : Int32))] [(.int p2), (.int (0 : Int32)), (.ref a1), (.int (0 : Int32))])) rfl (by rw [hml]; rfl) (lenOf pd___III_I_464 rfl) rfl (by show 2 * 0 + _ ≤ _; exact Nat.le_of_eq rfl) (hb hby d5_11) e0 ?_
    rintro v11 T11 L11 X11 ⟨rfl, N11q, hh11⟩
    have N11 := Fr.app N0 N11q
    show GG _ _ _ _ _ _ _ T11 (mkF m 14 #[.val (.ref a1), .val (.int p2), .val (.int p3), .val (.int (0 : Int32))] [(.int (if ms[0]? = some p2 then (1 : Int32) else 0)), (.int (0 : Int32))])
    refine own_go (fun _ => XS.iadd X11.here hx rfl (hb hby d5_14) rfl) ?_
    show GG _ _ _ _ _ _ _ T11 (mkF m 15 #[.val (.ref a1), .val (.int p2), .val (.int p3), .val (.int (0 : Int32))] [(.int ((0 : Int32) + (if ms[0]? = some p2 then (1 : Int32) else 0)))])
    rw [show ((0 : Int32) + (if ms[0]? = some p2 then (1 : Int32) else 0)) = Int32.ofNat (cn ms p2 0) + (if ms[0]? = some p2 then (1 : Int32) else 0) from rfl, own_at]
    show GG _ _ _ _ _ _ _ T11 (mkF m 15 #[.val (.ref a1), .val (.int p2), .val (.int p3), .val (.int (0 : Int32))] [(.int (Int32.ofNat (cn ms p2 1)))])
    refine own_go (fun _ => XS.istoreN X11.here hx rfl (hb hby d5_15) rfl (l' := #[.val (.ref a1), .val (.int p2), .val (.int p3), .val (.int (Int32.ofNat (cn ms p2 1)))]) rfl) ?_
    show GG _ _ _ _ _ _ _ T11 (mkF m 16 #[.val (.ref a1), .val (.int p2), .val (.int p3), .val (.int (Int32.ofNat (cn ms p2 1)))] [])
    refine own_go (fun _ => XS.iconst X11.here hx rfl (hb hby d5_16)) ?_
    show GG _ _ _ _ _ _ _ T11 (mkF m 17 #[.val (.ref a1), .val (.int p2), .val (.int p3), .val (.int (Int32.ofNat (cn ms p2 1)))] [(.int (1 : Int32))])
    refine own_go (fun _ => XS.iloadN X11.here hx rfl (hb hby d5_17) rfl) ?_
    show GG _ _ _ _ _ _ _ T11 (mkF m 18 #[.val (.ref a1), .val (.int p2), .val (.int p3), .val (.int (Int32.ofNat (cn ms p2 1)))] [(.int p3), (.int (1 : Int32))])
    have hc18 : (1 : Int32) < p3 := (Int32.lt_iff_toInt_lt.mpr ((by show (1 < p3.toInt); omega : (1 < p3.toInt))))
    refine own_go (fun _ => XS.icmpNo X11.here hx rfl (hb hby d5_18) rfl (tlt hc18).2.1) ?_
    show GG _ _ _ _ _ _ _ T11 (mkF m 21 #[.val (.ref a1), .val (.int p2), .val (.int p3), .val (.int (Int32.ofNat (cn ms p2 1)))] [])
    refine own_go (fun _ => XS.iloadN X11.here hx rfl (hb hby d5_21) rfl) ?_
    show GG _ _ _ _ _ _ _ T11 (mkF m 22 #[.val (.ref a1), .val (.int p2), .val (.int p3), .val (.int (Int32.ofNat (cn ms p2 1)))] [(.int (Int32.ofNat (cn ms p2 1)))])
    refine own_go (fun _ => XS.aloadN X11.here hx rfl (hb hby d5_22) rfl rfl) ?_
    show GG _ _ _ _ _ _ _ T11 (mkF m 23 #[.val (.ref a1), .val (.int p2), .val (.int p3), .val (.int (Int32.ofNat (cn ms p2 1)))] [(.ref a1), (.int (Int32.ofNat (cn ms p2 1)))])
    refine own_go (fun _ => XS.iconst X11.here hx rfl (hb hby d5_23)) ?_
    show GG _ _ _ _ _ _ _ T11 (mkF m 24 #[.val (.ref a1), .val (.int p2), .val (.int p3), .val (.int (Int32.ofNat (cn ms p2 1)))] [(.int (1 : Int32)), (.ref a1), (.int (Int32.ofNat (cn ms p2 1)))])
    refine own_go (fun _ => XS.iloadN X11.here hx rfl (hb hby d5_24) rfl) ?_
    show GG _ _ _ _ _ _ _ T11 (mkF m 25 #[.val (.ref a1), .val (.int p2), .val (.int p3), .val (.int (Int32.ofNat (cn ms p2 1)))] [(.int p2), (.int (1 : Int32)), (.ref a1), (.int (Int32.ofNat (cn ms p2 1)))])
    refine own_callS X11 hx hZ (y := (⟨"com/example/deft_shards/deftshards/cluster/KMeansMembersPinLaw", "at", "([III)I"⟩ : MethodName)) 1 hown (hw _ (List.mem_of_getElem? (i := 22) rfl)) (hw _ (List.mem_of_getElem? (i := 23) rfl)) (hw _ (List.mem_of_getElem? (i := 3) rfl)) (hw _ (List.mem_of_getElem? (i := 24) rfl)) (by decide) (argsL := [(.ref a1), (.int (1 : Int32)), (.int p2)]) (rest := [(.int (Int32.ofNat (cn ms p2 1)))]) (rm6 l Z a0 hw [] a1 (1 : Int32) p2 ms 1 h0 n0 Z0 V_1 (by decide) hn6) (by decide) (by decide) (by decide) (by decide) (g := (mkF m 25 #[.val (.ref a1), .val (.int p2), .val (.int p3), .val (.int (Int32.ofNat (cn ms p2 1)))] [(.int p2), (.int (1 : Int32)), (.ref a1), (.int (Int32.ofNat (cn ms p2 1)))])) rfl (by rw [hml]; rfl) (lenOf pd___III_I_464 rfl) rfl (by show 2 * 0 + _ ≤ _; exact Nat.le_of_eq rfl) (hb hby d5_25) hh11 ?_
    rintro v12 T12 L12 X12 ⟨rfl, N12q, hh12⟩
    have N12 := Fr.app N11 N12q
    show GG _ _ _ _ _ _ _ T12 (mkF m 28 #[.val (.ref a1), .val (.int p2), .val (.int p3), .val (.int (Int32.ofNat (cn ms p2 1)))] [(.int (if ms[1]? = some p2 then (1 : Int32) else 0)), (.int (Int32.ofNat (cn ms p2 1)))])
    refine own_go (fun _ => XS.iadd X12.here hx rfl (hb hby d5_28) rfl) ?_
    show GG _ _ _ _ _ _ _ T12 (mkF m 29 #[.val (.ref a1), .val (.int p2), .val (.int p3), .val (.int (Int32.ofNat (cn ms p2 1)))] [(.int ((Int32.ofNat (cn ms p2 1)) + (if ms[1]? = some p2 then (1 : Int32) else 0)))])
    rw [show ((Int32.ofNat (cn ms p2 1)) + (if ms[1]? = some p2 then (1 : Int32) else 0)) = Int32.ofNat (cn ms p2 1) + (if ms[1]? = some p2 then (1 : Int32) else 0) from rfl, own_at]
    show GG _ _ _ _ _ _ _ T12 (mkF m 29 #[.val (.ref a1), .val (.int p2), .val (.int p3), .val (.int (Int32.ofNat (cn ms p2 1)))] [(.int (Int32.ofNat (cn ms p2 2)))])
    refine own_go (fun _ => XS.istoreN X12.here hx rfl (hb hby d5_29) rfl (l' := #[.val (.ref a1), .val (.int p2), .val (.int p3), .val (.int (Int32.ofNat (cn ms p2 2)))]) rfl) ?_
    show GG _ _ _ _ _ _ _ T12 (mkF m 30 #[.val (.ref a1), .val (.int p2), .val (.int p3), .val (.int (Int32.ofNat (cn ms p2 2)))] [])
    refine own_go (fun _ => XS.iconst X12.here hx rfl (hb hby d5_30)) ?_
    show GG _ _ _ _ _ _ _ T12 (mkF m 31 #[.val (.ref a1), .val (.int p2), .val (.int p3), .val (.int (Int32.ofNat (cn ms p2 2)))] [(.int (2 : Int32))])
    refine own_go (fun _ => XS.iloadN X12.here hx rfl (hb hby d5_31) rfl) ?_
    show GG _ _ _ _ _ _ _ T12 (mkF m 32 #[.val (.ref a1), .val (.int p2), .val (.int p3), .val (.int (Int32.ofNat (cn ms p2 2)))] [(.int p3), (.int (2 : Int32))])
    have hc32 : (2 : Int32) < p3 := (Int32.lt_iff_toInt_lt.mpr ((by show (2 < p3.toInt); omega : (2 < p3.toInt))))
    refine own_go (fun _ => XS.icmpNo X12.here hx rfl (hb hby d5_32) rfl (tlt hc32).2.1) ?_
    show GG _ _ _ _ _ _ _ T12 (mkF m 35 #[.val (.ref a1), .val (.int p2), .val (.int p3), .val (.int (Int32.ofNat (cn ms p2 2)))] [])
    refine own_go (fun _ => XS.iloadN X12.here hx rfl (hb hby d5_35) rfl) ?_
    show GG _ _ _ _ _ _ _ T12 (mkF m 36 #[.val (.ref a1), .val (.int p2), .val (.int p3), .val (.int (Int32.ofNat (cn ms p2 2)))] [(.int (Int32.ofNat (cn ms p2 2)))])
    refine own_go (fun _ => XS.aloadN X12.here hx rfl (hb hby d5_36) rfl rfl) ?_
    show GG _ _ _ _ _ _ _ T12 (mkF m 37 #[.val (.ref a1), .val (.int p2), .val (.int p3), .val (.int (Int32.ofNat (cn ms p2 2)))] [(.ref a1), (.int (Int32.ofNat (cn ms p2 2)))])
    refine own_go (fun _ => XS.iconst X12.here hx rfl (hb hby d5_37)) ?_
    show GG _ _ _ _ _ _ _ T12 (mkF m 38 #[.val (.ref a1), .val (.int p2), .val (.int p3), .val (.int (Int32.ofNat (cn ms p2 2)))] [(.int (2 : Int32)), (.ref a1), (.int (Int32.ofNat (cn ms p2 2)))])
    refine own_go (fun _ => XS.iloadN X12.here hx rfl (hb hby d5_38) rfl) ?_
    show GG _ _ _ _ _ _ _ T12 (mkF m 39 #[.val (.ref a1), .val (.int p2), .val (.int p3), .val (.int (Int32.ofNat (cn ms p2 2)))] [(.int p2), (.int (2 : Int32)), (.ref a1), (.int (Int32.ofNat (cn ms p2 2)))])
    refine own_callS X12 hx hZ (y := (⟨"com/example/deft_shards/deftshards/cluster/KMeansMembersPinLaw", "at", "([III)I"⟩ : MethodName)) 1 hown (hw _ (List.mem_of_getElem? (i := 22) rfl)) (hw _ (List.mem_of_getElem? (i := 23) rfl)) (hw _ (List.mem_of_getElem? (i := 3) rfl)) (hw _ (List.mem_of_getElem? (i := 24) rfl)) (by decide) (argsL := [(.ref a1), (.int (2 : Int32)), (.int p2)]) (rest := [(.int (Int32.ofNat (cn ms p2 2)))]) (rm6 l Z a0 hw [] a1 (2 : Int32) p2 ms 2 h0 n0 Z0 V_1 (by decide) hn6) (by decide) (by decide) (by decide) (by decide) (g := (mkF m 39 #[.val (.ref a1), .val (.int p2), .val (.int p3), .val (.int (Int32.ofNat (cn ms p2 2)))] [(.int p2), (.int (2 : Int32)), (.ref a1), (.int (Int32.ofNat (cn ms p2 2)))])) rfl (by rw [hml]; rfl) (lenOf pd___III_I_464 rfl) rfl (by show 2 * 0 + _ ≤ _; exact Nat.le_of_eq rfl) (hb hby d5_39) hh12 ?_
    rintro v13 T13 L13 X13 ⟨rfl, N13q, hh13⟩
    have N13 := Fr.app N12 N13q
    show GG _ _ _ _ _ _ _ T13 (mkF m 42 #[.val (.ref a1), .val (.int p2), .val (.int p3), .val (.int (Int32.ofNat (cn ms p2 2)))] [(.int (if ms[2]? = some p2 then (1 : Int32) else 0)), (.int (Int32.ofNat (cn ms p2 2)))])
    refine own_go (fun _ => XS.iadd X13.here hx rfl (hb hby d5_42) rfl) ?_
    show GG _ _ _ _ _ _ _ T13 (mkF m 43 #[.val (.ref a1), .val (.int p2), .val (.int p3), .val (.int (Int32.ofNat (cn ms p2 2)))] [(.int ((Int32.ofNat (cn ms p2 2)) + (if ms[2]? = some p2 then (1 : Int32) else 0)))])
    rw [show ((Int32.ofNat (cn ms p2 2)) + (if ms[2]? = some p2 then (1 : Int32) else 0)) = Int32.ofNat (cn ms p2 2) + (if ms[2]? = some p2 then (1 : Int32) else 0) from rfl, own_at]
    show GG _ _ _ _ _ _ _ T13 (mkF m 43 #[.val (.ref a1), .val (.int p2), .val (.int p3), .val (.int (Int32.ofNat (cn ms p2 2)))] [(.int (Int32.ofNat (cn ms p2 3)))])
    refine own_go (fun _ => XS.istoreN X13.here hx rfl (hb hby d5_43) rfl (l' := #[.val (.ref a1), .val (.int p2), .val (.int p3), .val (.int (Int32.ofNat (cn ms p2 3)))]) rfl) ?_
    show GG _ _ _ _ _ _ _ T13 (mkF m 44 #[.val (.ref a1), .val (.int p2), .val (.int p3), .val (.int (Int32.ofNat (cn ms p2 3)))] [])
    refine own_go (fun _ => XS.iconst X13.here hx rfl (hb hby d5_44)) ?_
    show GG _ _ _ _ _ _ _ T13 (mkF m 45 #[.val (.ref a1), .val (.int p2), .val (.int p3), .val (.int (Int32.ofNat (cn ms p2 3)))] [(.int (3 : Int32))])
    refine own_go (fun _ => XS.iloadN X13.here hx rfl (hb hby d5_45) rfl) ?_
    show GG _ _ _ _ _ _ _ T13 (mkF m 46 #[.val (.ref a1), .val (.int p2), .val (.int p3), .val (.int (Int32.ofNat (cn ms p2 3)))] [(.int p3), (.int (3 : Int32))])
    have hc46 : (3 : Int32) < p3 := (Int32.lt_iff_toInt_lt.mpr ((by show (3 < p3.toInt); omega : (3 < p3.toInt))))
    refine own_go (fun _ => XS.icmpNo X13.here hx rfl (hb hby d5_46) rfl (tlt hc46).2.1) ?_
    show GG _ _ _ _ _ _ _ T13 (mkF m 49 #[.val (.ref a1), .val (.int p2), .val (.int p3), .val (.int (Int32.ofNat (cn ms p2 3)))] [])
    refine own_go (fun _ => XS.iloadN X13.here hx rfl (hb hby d5_49) rfl) ?_
    show GG _ _ _ _ _ _ _ T13 (mkF m 50 #[.val (.ref a1), .val (.int p2), .val (.int p3), .val (.int (Int32.ofNat (cn ms p2 3)))] [(.int (Int32.ofNat (cn ms p2 3)))])
    refine own_go (fun _ => XS.aloadN X13.here hx rfl (hb hby d5_50) rfl rfl) ?_
    show GG _ _ _ _ _ _ _ T13 (mkF m 51 #[.val (.ref a1), .val (.int p2), .val (.int p3), .val (.int (Int32.ofNat (cn ms p2 3)))] [(.ref a1), (.int (Int32.ofNat (cn ms p2 3)))])
    refine own_go (fun _ => XS.iconst X13.here hx rfl (hb hby d5_51)) ?_
    show GG _ _ _ _ _ _ _ T13 (mkF m 52 #[.val (.ref a1), .val (.int p2), .val (.int p3), .val (.int (Int32.ofNat (cn ms p2 3)))] [(.int (3 : Int32)), (.ref a1), (.int (Int32.ofNat (cn ms p2 3)))])
    refine own_go (fun _ => XS.iloadN X13.here hx rfl (hb hby d5_52) rfl) ?_
    show GG _ _ _ _ _ _ _ T13 (mkF m 53 #[.val (.ref a1), .val (.int p2), .val (.int p3), .val (.int (Int32.ofNat (cn ms p2 3)))] [(.int p2), (.int (3 : Int32)), (.ref a1), (.int (Int32.ofNat (cn ms p2 3)))])
    refine own_callS X13 hx hZ (y := (⟨"com/example/deft_shards/deftshards/cluster/KMeansMembersPinLaw", "at", "([III)I"⟩ : MethodName)) 1 hown (hw _ (List.mem_of_getElem? (i := 22) rfl)) (hw _ (List.mem_of_getElem? (i := 23) rfl)) (hw _ (List.mem_of_getElem? (i := 3) rfl)) (hw _ (List.mem_of_getElem? (i := 24) rfl)) (by decide) (argsL := [(.ref a1), (.int (3 : Int32)), (.int p2)]) (rest := [(.int (Int32.ofNat (cn ms p2 3)))]) (rm6 l Z a0 hw [] a1 (3 : Int32) p2 ms 3 h0 n0 Z0 V_1 (by decide) hn6) (by decide) (by decide) (by decide) (by decide) (g := (mkF m 53 #[.val (.ref a1), .val (.int p2), .val (.int p3), .val (.int (Int32.ofNat (cn ms p2 3)))] [(.int p2), (.int (3 : Int32)), (.ref a1), (.int (Int32.ofNat (cn ms p2 3)))])) rfl (by rw [hml]; rfl) (lenOf pd___III_I_464 rfl) rfl (by show 2 * 0 + _ ≤ _; exact Nat.le_of_eq rfl) (hb hby d5_53) hh13 ?_
    rintro v14 T14 L14 X14 ⟨rfl, N14q, hh14⟩
    have N14 := Fr.app N13 N14q
    show GG _ _ _ _ _ _ _ T14 (mkF m 56 #[.val (.ref a1), .val (.int p2), .val (.int p3), .val (.int (Int32.ofNat (cn ms p2 3)))] [(.int (if ms[3]? = some p2 then (1 : Int32) else 0)), (.int (Int32.ofNat (cn ms p2 3)))])
    refine own_go (fun _ => XS.iadd X14.here hx rfl (hb hby d5_56) rfl) ?_
    show GG _ _ _ _ _ _ _ T14 (mkF m 57 #[.val (.ref a1), .val (.int p2), .val (.int p3), .val (.int (Int32.ofNat (cn ms p2 3)))] [(.int ((Int32.ofNat (cn ms p2 3)) + (if ms[3]? = some p2 then (1 : Int32) else 0)))])
    rw [show ((Int32.ofNat (cn ms p2 3)) + (if ms[3]? = some p2 then (1 : Int32) else 0)) = Int32.ofNat (cn ms p2 3) + (if ms[3]? = some p2 then (1 : Int32) else 0) from rfl, own_at]
    show GG _ _ _ _ _ _ _ T14 (mkF m 57 #[.val (.ref a1), .val (.int p2), .val (.int p3), .val (.int (Int32.ofNat (cn ms p2 3)))] [(.int (Int32.ofNat (cn ms p2 4)))])
    refine own_go (fun _ => XS.istoreN X14.here hx rfl (hb hby d5_57) rfl (l' := #[.val (.ref a1), .val (.int p2), .val (.int p3), .val (.int (Int32.ofNat (cn ms p2 4)))]) rfl) ?_
    show GG _ _ _ _ _ _ _ T14 (mkF m 58 #[.val (.ref a1), .val (.int p2), .val (.int p3), .val (.int (Int32.ofNat (cn ms p2 4)))] [])
    refine own_go (fun _ => XS.iconst X14.here hx rfl (hb hby d5_58)) ?_
    show GG _ _ _ _ _ _ _ T14 (mkF m 59 #[.val (.ref a1), .val (.int p2), .val (.int p3), .val (.int (Int32.ofNat (cn ms p2 4)))] [(.int (4 : Int32))])
    refine own_go (fun _ => XS.iloadN X14.here hx rfl (hb hby d5_59) rfl) ?_
    show GG _ _ _ _ _ _ _ T14 (mkF m 60 #[.val (.ref a1), .val (.int p2), .val (.int p3), .val (.int (Int32.ofNat (cn ms p2 4)))] [(.int p3), (.int (4 : Int32))])
    have hc60 : (4 : Int32) < p3 := (Int32.lt_iff_toInt_lt.mpr ((by show (4 < p3.toInt); omega : (4 < p3.toInt))))
    refine own_go (fun _ => XS.icmpNo X14.here hx rfl (hb hby d5_60) rfl (tlt hc60).2.1) ?_
    show GG _ _ _ _ _ _ _ T14 (mkF m 63 #[.val (.ref a1), .val (.int p2), .val (.int p3), .val (.int (Int32.ofNat (cn ms p2 4)))] [])
    refine own_go (fun _ => XS.iloadN X14.here hx rfl (hb hby d5_63) rfl) ?_
    show GG _ _ _ _ _ _ _ T14 (mkF m 64 #[.val (.ref a1), .val (.int p2), .val (.int p3), .val (.int (Int32.ofNat (cn ms p2 4)))] [(.int (Int32.ofNat (cn ms p2 4)))])
    refine own_go (fun _ => XS.aloadN X14.here hx rfl (hb hby d5_64) rfl rfl) ?_
    show GG _ _ _ _ _ _ _ T14 (mkF m 65 #[.val (.ref a1), .val (.int p2), .val (.int p3), .val (.int (Int32.ofNat (cn ms p2 4)))] [(.ref a1), (.int (Int32.ofNat (cn ms p2 4)))])
    refine own_go (fun _ => XS.iconst X14.here hx rfl (hb hby d5_65)) ?_
    show GG _ _ _ _ _ _ _ T14 (mkF m 66 #[.val (.ref a1), .val (.int p2), .val (.int p3), .val (.int (Int32.ofNat (cn ms p2 4)))] [(.int (4 : Int32)), (.ref a1), (.int (Int32.ofNat (cn ms p2 4)))])
    refine own_go (fun _ => XS.iloadN X14.here hx rfl (hb hby d5_66) rfl) ?_
    show GG _ _ _ _ _ _ _ T14 (mkF m 67 #[.val (.ref a1), .val (.int p2), .val (.int p3), .val (.int (Int32.ofNat (cn ms p2 4)))] [(.int p2), (.int (4 : Int32)), (.ref a1), (.int (Int32.ofNat (cn ms p2 4)))])
    refine own_callS X14 hx hZ (y := (⟨"com/example/deft_shards/deftshards/cluster/KMeansMembersPinLaw", "at", "([III)I"⟩ : MethodName)) 1 hown (hw _ (List.mem_of_getElem? (i := 22) rfl)) (hw _ (List.mem_of_getElem? (i := 23) rfl)) (hw _ (List.mem_of_getElem? (i := 3) rfl)) (hw _ (List.mem_of_getElem? (i := 24) rfl)) (by decide) (argsL := [(.ref a1), (.int (4 : Int32)), (.int p2)]) (rest := [(.int (Int32.ofNat (cn ms p2 4)))]) (rm6 l Z a0 hw [] a1 (4 : Int32) p2 ms 4 h0 n0 Z0 V_1 (by decide) hn6) (by decide) (by decide) (by decide) (by decide) (g := (mkF m 67 #[.val (.ref a1), .val (.int p2), .val (.int p3), .val (.int (Int32.ofNat (cn ms p2 4)))] [(.int p2), (.int (4 : Int32)), (.ref a1), (.int (Int32.ofNat (cn ms p2 4)))])) rfl (by rw [hml]; rfl) (lenOf pd___III_I_464 rfl) rfl (by show 2 * 0 + _ ≤ _; exact Nat.le_of_eq rfl) (hb hby d5_67) hh14 ?_
    rintro v15 T15 L15 X15 ⟨rfl, N15q, hh15⟩
    have N15 := Fr.app N14 N15q
    show GG _ _ _ _ _ _ _ T15 (mkF m 70 #[.val (.ref a1), .val (.int p2), .val (.int p3), .val (.int (Int32.ofNat (cn ms p2 4)))] [(.int (if ms[4]? = some p2 then (1 : Int32) else 0)), (.int (Int32.ofNat (cn ms p2 4)))])
    refine own_go (fun _ => XS.iadd X15.here hx rfl (hb hby d5_70) rfl) ?_
    show GG _ _ _ _ _ _ _ T15 (mkF m 71 #[.val (.ref a1), .val (.int p2), .val (.int p3), .val (.int (Int32.ofNat (cn ms p2 4)))] [(.int ((Int32.ofNat (cn ms p2 4)) + (if ms[4]? = some p2 then (1 : Int32) else 0)))])
    rw [show ((Int32.ofNat (cn ms p2 4)) + (if ms[4]? = some p2 then (1 : Int32) else 0)) = Int32.ofNat (cn ms p2 4) + (if ms[4]? = some p2 then (1 : Int32) else 0) from rfl, own_at]
    show GG _ _ _ _ _ _ _ T15 (mkF m 71 #[.val (.ref a1), .val (.int p2), .val (.int p3), .val (.int (Int32.ofNat (cn ms p2 4)))] [(.int (Int32.ofNat (cn ms p2 5)))])
    refine own_go (fun _ => XS.istoreN X15.here hx rfl (hb hby d5_71) rfl (l' := #[.val (.ref a1), .val (.int p2), .val (.int p3), .val (.int (Int32.ofNat (cn ms p2 5)))]) rfl) ?_
    show GG _ _ _ _ _ _ _ T15 (mkF m 72 #[.val (.ref a1), .val (.int p2), .val (.int p3), .val (.int (Int32.ofNat (cn ms p2 5)))] [])
    refine own_go (fun _ => XS.iconst X15.here hx rfl (hb hby d5_72)) ?_
    show GG _ _ _ _ _ _ _ T15 (mkF m 73 #[.val (.ref a1), .val (.int p2), .val (.int p3), .val (.int (Int32.ofNat (cn ms p2 5)))] [(.int (5 : Int32))])
    refine own_go (fun _ => XS.iloadN X15.here hx rfl (hb hby d5_73) rfl) ?_
    show GG _ _ _ _ _ _ _ T15 (mkF m 74 #[.val (.ref a1), .val (.int p2), .val (.int p3), .val (.int (Int32.ofNat (cn ms p2 5)))] [(.int p3), (.int (5 : Int32))])
    have hc74 : ¬ ((5 : Int32) < p3) := (fun q => absurd (Int32.lt_iff_toInt_lt.mp q) ((by show ¬ (5 < p3.toInt); omega : ¬ (5 < p3.toInt))))
    refine own_go (fun _ => XS.icmpYes X15.here hx rfl (pc0 := 74) (pc' := 86) rfl (hb hby d5_74) rfl (flt hc74).2.1 (by decide) (by decide)) ?_
    show GG _ _ _ _ _ _ _ T15 (mkF m 86 #[.val (.ref a1), .val (.int p2), .val (.int p3), .val (.int (Int32.ofNat (cn ms p2 5)))] [])
    refine own_go (fun _ => XS.iloadN X15.here hx rfl (hb hby d5_86) rfl) ?_
    show GG _ _ _ _ _ _ _ T15 (mkF m 87 #[.val (.ref a1), .val (.int p2), .val (.int p3), .val (.int (Int32.ofNat (cn ms p2 5)))] [(.int (Int32.ofNat (cn ms p2 5)))])
    refine own_ret X15 hx hlk (t := .int) (w := (.int (Int32.ofNat (cn ms p2 5)))) Bd.returns rfl (Or.inl ⟨rfl, by simp, _, rfl⟩) (hb hby d5_87) (by decide) (by decide) ?_
    show Q5 Z a1 p2 p3 ms uN h0 n0 (some (.int (Int32.ofNat (cn ms p2 5)))) T15.heap _
    rw [hh15]
    exact ⟨by subst hul; rfl, N15, rfl⟩
  · skip
    show GG _ _ _ _ _ _ _ s₁ (mkF m 0 #[.val (.ref a1), .val (.int p2), .val (.int p3), .unset] [])
    refine own_go (fun _ => XS.iconst X0.here hx rfl (hb hby d5_0)) ?_
    show GG _ _ _ _ _ _ _ s₁ (mkF m 1 #[.val (.ref a1), .val (.int p2), .val (.int p3), .unset] [(.int (0 : Int32))])
    refine own_go (fun _ => XS.istoreN X0.here hx rfl (hb hby d5_1) rfl (l' := #[.val (.ref a1), .val (.int p2), .val (.int p3), .val (.int (0 : Int32))]) rfl) ?_
    show GG _ _ _ _ _ _ _ s₁ (mkF m 2 #[.val (.ref a1), .val (.int p2), .val (.int p3), .val (.int (0 : Int32))] [])
    refine own_go (fun _ => XS.iconst X0.here hx rfl (hb hby d5_2)) ?_
    show GG _ _ _ _ _ _ _ s₁ (mkF m 3 #[.val (.ref a1), .val (.int p2), .val (.int p3), .val (.int (0 : Int32))] [(.int (0 : Int32))])
    refine own_go (fun _ => XS.iloadN X0.here hx rfl (hb hby d5_3) rfl) ?_
    show GG _ _ _ _ _ _ _ s₁ (mkF m 4 #[.val (.ref a1), .val (.int p2), .val (.int p3), .val (.int (0 : Int32))] [(.int p3), (.int (0 : Int32))])
    have hc4 : (0 : Int32) < p3 := (Int32.lt_iff_toInt_lt.mpr ((by show (0 < p3.toInt); omega : (0 < p3.toInt))))
    refine own_go (fun _ => XS.icmpNo X0.here hx rfl (hb hby d5_4) rfl (tlt hc4).2.1) ?_
    show GG _ _ _ _ _ _ _ s₁ (mkF m 7 #[.val (.ref a1), .val (.int p2), .val (.int p3), .val (.int (0 : Int32))] [])
    refine own_go (fun _ => XS.iloadN X0.here hx rfl (hb hby d5_7) rfl) ?_
    show GG _ _ _ _ _ _ _ s₁ (mkF m 8 #[.val (.ref a1), .val (.int p2), .val (.int p3), .val (.int (0 : Int32))] [(.int (0 : Int32))])
    refine own_go (fun _ => XS.aloadN X0.here hx rfl (hb hby d5_8) rfl rfl) ?_
    show GG _ _ _ _ _ _ _ s₁ (mkF m 9 #[.val (.ref a1), .val (.int p2), .val (.int p3), .val (.int (0 : Int32))] [(.ref a1), (.int (0 : Int32))])
    refine own_go (fun _ => XS.iconst X0.here hx rfl (hb hby d5_9)) ?_
    show GG _ _ _ _ _ _ _ s₁ (mkF m 10 #[.val (.ref a1), .val (.int p2), .val (.int p3), .val (.int (0 : Int32))] [(.int (0 : Int32)), (.ref a1), (.int (0 : Int32))])
    refine own_go (fun _ => XS.iloadN X0.here hx rfl (hb hby d5_10) rfl) ?_
    show GG _ _ _ _ _ _ _ s₁ (mkF m 11 #[.val (.ref a1), .val (.int p2), .val (.int p3), .val (.int (0 : Int32))] [(.int p2), (.int (0 : Int32)), (.ref a1), (.int (0 : Int32))])
    refine own_callS X0 hx hZ (y := (⟨"com/example/deft_shards/deftshards/cluster/KMeansMembersPinLaw", "at", "([III)I"⟩ : MethodName)) 1 hown (hw _ (List.mem_of_getElem? (i := 22) rfl)) (hw _ (List.mem_of_getElem? (i := 23) rfl)) (hw _ (List.mem_of_getElem? (i := 3) rfl)) (hw _ (List.mem_of_getElem? (i := 24) rfl)) (by decide) (argsL := [(.ref a1), (.int (0 : Int32)), (.int p2)]) (rest := [(.int (0 : Int32))]) (rm6 l Z a0 hw [] a1 (0 : Int32) p2 ms 0 h0 n0 Z0 V_1 (by decide) hn6) (by decide) (by decide) (by decide) (by decide) (g := (mkF m 11 #[.val (.ref a1), .val (.int p2), .val (.int p3), .val (.int (0 : Int32))] [(.int p2), (.int (0 : Int32)), (.ref a1), (.int (0 : Int32))])) rfl (by rw [hml]; rfl) (lenOf pd___III_I_464 rfl) rfl (by show 2 * 0 + _ ≤ _; exact Nat.le_of_eq rfl) (hb hby d5_11) e0 ?_
    rintro v16 T16 L16 X16 ⟨rfl, N16q, hh16⟩
    have N16 := Fr.app N0 N16q
    show GG _ _ _ _ _ _ _ T16 (mkF m 14 #[.val (.ref a1), .val (.int p2), .val (.int p3), .val (.int (0 : Int32))] [(.int (if ms[0]? = some p2 then (1 : Int32) else 0)), (.int (0 : Int32))])
    refine own_go (fun _ => XS.iadd X16.here hx rfl (hb hby d5_14) rfl) ?_
    show GG _ _ _ _ _ _ _ T16 (mkF m 15 #[.val (.ref a1), .val (.int p2), .val (.int p3), .val (.int (0 : Int32))] [(.int ((0 : Int32) + (if ms[0]? = some p2 then (1 : Int32) else 0)))])
    rw [show ((0 : Int32) + (if ms[0]? = some p2 then (1 : Int32) else 0)) = Int32.ofNat (cn ms p2 0) + (if ms[0]? = some p2 then (1 : Int32) else 0) from rfl, own_at]
    show GG _ _ _ _ _ _ _ T16 (mkF m 15 #[.val (.ref a1), .val (.int p2), .val (.int p3), .val (.int (0 : Int32))] [(.int (Int32.ofNat (cn ms p2 1)))])
    refine own_go (fun _ => XS.istoreN X16.here hx rfl (hb hby d5_15) rfl (l' := #[.val (.ref a1), .val (.int p2), .val (.int p3), .val (.int (Int32.ofNat (cn ms p2 1)))]) rfl) ?_
    show GG _ _ _ _ _ _ _ T16 (mkF m 16 #[.val (.ref a1), .val (.int p2), .val (.int p3), .val (.int (Int32.ofNat (cn ms p2 1)))] [])
    refine own_go (fun _ => XS.iconst X16.here hx rfl (hb hby d5_16)) ?_
    show GG _ _ _ _ _ _ _ T16 (mkF m 17 #[.val (.ref a1), .val (.int p2), .val (.int p3), .val (.int (Int32.ofNat (cn ms p2 1)))] [(.int (1 : Int32))])
    refine own_go (fun _ => XS.iloadN X16.here hx rfl (hb hby d5_17) rfl) ?_
    show GG _ _ _ _ _ _ _ T16 (mkF m 18 #[.val (.ref a1), .val (.int p2), .val (.int p3), .val (.int (Int32.ofNat (cn ms p2 1)))] [(.int p3), (.int (1 : Int32))])
    have hc18 : (1 : Int32) < p3 := (Int32.lt_iff_toInt_lt.mpr ((by show (1 < p3.toInt); omega : (1 < p3.toInt))))
    refine own_go (fun _ => XS.icmpNo X16.here hx rfl (hb hby d5_18) rfl (tlt hc18).2.1) ?_
    show GG _ _ _ _ _ _ _ T16 (mkF m 21 #[.val (.ref a1), .val (.int p2), .val (.int p3), .val (.int (Int32.ofNat (cn ms p2 1)))] [])
    refine own_go (fun _ => XS.iloadN X16.here hx rfl (hb hby d5_21) rfl) ?_
    show GG _ _ _ _ _ _ _ T16 (mkF m 22 #[.val (.ref a1), .val (.int p2), .val (.int p3), .val (.int (Int32.ofNat (cn ms p2 1)))] [(.int (Int32.ofNat (cn ms p2 1)))])
    refine own_go (fun _ => XS.aloadN X16.here hx rfl (hb hby d5_22) rfl rfl) ?_
    show GG _ _ _ _ _ _ _ T16 (mkF m 23 #[.val (.ref a1), .val (.int p2), .val (.int p3), .val (.int (Int32.ofNat (cn ms p2 1)))] [(.ref a1), (.int (Int32.ofNat (cn ms p2 1)))])
    refine own_go (fun _ => XS.iconst X16.here hx rfl (hb hby d5_23)) ?_
    show GG _ _ _ _ _ _ _ T16 (mkF m 24 #[.val (.ref a1), .val (.int p2), .val (.int p3), .val (.int (Int32.ofNat (cn ms p2 1)))] [(.int (1 : Int32)), (.ref a1), (.int (Int32.ofNat (cn ms p2 1)))])
    refine own_go (fun _ => XS.iloadN X16.here hx rfl (hb hby d5_24) rfl) ?_
    show GG _ _ _ _ _ _ _ T16 (mkF m 25 #[.val (.ref a1), .val (.int p2), .val (.int p3), .val (.int (Int32.ofNat (cn ms p2 1)))] [(.int p2), (.int (1 : Int32)), (.ref a1), (.int (Int32.ofNat (cn ms p2 1)))])
    refine own_callS X16 hx hZ (y := (⟨"com/example/deft_shards/deftshards/cluster/KMeansMembersPinLaw", "at", "([III)I"⟩ : MethodName)) 1 hown (hw _ (List.mem_of_getElem? (i := 22) rfl)) (hw _ (List.mem_of_getElem? (i := 23) rfl)) (hw _ (List.mem_of_getElem? (i := 3) rfl)) (hw _ (List.mem_of_getElem? (i := 24) rfl)) (by decide) (argsL := [(.ref a1), (.int (1 : Int32)), (.int p2)]) (rest := [(.int (Int32.ofNat (cn ms p2 1)))]) (rm6 l Z a0 hw [] a1 (1 : Int32) p2 ms 1 h0 n0 Z0 V_1 (by decide) hn6) (by decide) (by decide) (by decide) (by decide) (g := (mkF m 25 #[.val (.ref a1), .val (.int p2), .val (.int p3), .val (.int (Int32.ofNat (cn ms p2 1)))] [(.int p2), (.int (1 : Int32)), (.ref a1), (.int (Int32.ofNat (cn ms p2 1)))])) rfl (by rw [hml]; rfl) (lenOf pd___III_I_464 rfl) rfl (by show 2 * 0 + _ ≤ _; exact Nat.le_of_eq rfl) (hb hby d5_25) hh16 ?_
    rintro v17 T17 L17 X17 ⟨rfl, N17q, hh17⟩
    have N17 := Fr.app N16 N17q
    show GG _ _ _ _ _ _ _ T17 (mkF m 28 #[.val (.ref a1), .val (.int p2), .val (.int p3), .val (.int (Int32.ofNat (cn ms p2 1)))] [(.int (if ms[1]? = some p2 then (1 : Int32) else 0)), (.int (Int32.ofNat (cn ms p2 1)))])
    refine own_go (fun _ => XS.iadd X17.here hx rfl (hb hby d5_28) rfl) ?_
    show GG _ _ _ _ _ _ _ T17 (mkF m 29 #[.val (.ref a1), .val (.int p2), .val (.int p3), .val (.int (Int32.ofNat (cn ms p2 1)))] [(.int ((Int32.ofNat (cn ms p2 1)) + (if ms[1]? = some p2 then (1 : Int32) else 0)))])
    rw [show ((Int32.ofNat (cn ms p2 1)) + (if ms[1]? = some p2 then (1 : Int32) else 0)) = Int32.ofNat (cn ms p2 1) + (if ms[1]? = some p2 then (1 : Int32) else 0) from rfl, own_at]
    show GG _ _ _ _ _ _ _ T17 (mkF m 29 #[.val (.ref a1), .val (.int p2), .val (.int p3), .val (.int (Int32.ofNat (cn ms p2 1)))] [(.int (Int32.ofNat (cn ms p2 2)))])
    refine own_go (fun _ => XS.istoreN X17.here hx rfl (hb hby d5_29) rfl (l' := #[.val (.ref a1), .val (.int p2), .val (.int p3), .val (.int (Int32.ofNat (cn ms p2 2)))]) rfl) ?_
    show GG _ _ _ _ _ _ _ T17 (mkF m 30 #[.val (.ref a1), .val (.int p2), .val (.int p3), .val (.int (Int32.ofNat (cn ms p2 2)))] [])
    refine own_go (fun _ => XS.iconst X17.here hx rfl (hb hby d5_30)) ?_
    show GG _ _ _ _ _ _ _ T17 (mkF m 31 #[.val (.ref a1), .val (.int p2), .val (.int p3), .val (.int (Int32.ofNat (cn ms p2 2)))] [(.int (2 : Int32))])
    refine own_go (fun _ => XS.iloadN X17.here hx rfl (hb hby d5_31) rfl) ?_
    show GG _ _ _ _ _ _ _ T17 (mkF m 32 #[.val (.ref a1), .val (.int p2), .val (.int p3), .val (.int (Int32.ofNat (cn ms p2 2)))] [(.int p3), (.int (2 : Int32))])
    have hc32 : (2 : Int32) < p3 := (Int32.lt_iff_toInt_lt.mpr ((by show (2 < p3.toInt); omega : (2 < p3.toInt))))
    refine own_go (fun _ => XS.icmpNo X17.here hx rfl (hb hby d5_32) rfl (tlt hc32).2.1) ?_
    show GG _ _ _ _ _ _ _ T17 (mkF m 35 #[.val (.ref a1), .val (.int p2), .val (.int p3), .val (.int (Int32.ofNat (cn ms p2 2)))] [])
    refine own_go (fun _ => XS.iloadN X17.here hx rfl (hb hby d5_35) rfl) ?_
    show GG _ _ _ _ _ _ _ T17 (mkF m 36 #[.val (.ref a1), .val (.int p2), .val (.int p3), .val (.int (Int32.ofNat (cn ms p2 2)))] [(.int (Int32.ofNat (cn ms p2 2)))])
    refine own_go (fun _ => XS.aloadN X17.here hx rfl (hb hby d5_36) rfl rfl) ?_
    show GG _ _ _ _ _ _ _ T17 (mkF m 37 #[.val (.ref a1), .val (.int p2), .val (.int p3), .val (.int (Int32.ofNat (cn ms p2 2)))] [(.ref a1), (.int (Int32.ofNat (cn ms p2 2)))])
    refine own_go (fun _ => XS.iconst X17.here hx rfl (hb hby d5_37)) ?_
    show GG _ _ _ _ _ _ _ T17 (mkF m 38 #[.val (.ref a1), .val (.int p2), .val (.int p3), .val (.int (Int32.ofNat (cn ms p2 2)))] [(.int (2 : Int32)), (.ref a1), (.int (Int32.ofNat (cn ms p2 2)))])
    refine own_go (fun _ => XS.iloadN X17.here hx rfl (hb hby d5_38) rfl) ?_
    show GG _ _ _ _ _ _ _ T17 (mkF m 39 #[.val (.ref a1), .val (.int p2), .val (.int p3), .val (.int (Int32.ofNat (cn ms p2 2)))] [(.int p2), (.int (2 : Int32)), (.ref a1), (.int (Int32.ofNat (cn ms p2 2)))])
    refine own_callS X17 hx hZ (y := (⟨"com/example/deft_shards/deftshards/cluster/KMeansMembersPinLaw", "at", "([III)I"⟩ : MethodName)) 1 hown (hw _ (List.mem_of_getElem? (i := 22) rfl)) (hw _ (List.mem_of_getElem? (i := 23) rfl)) (hw _ (List.mem_of_getElem? (i := 3) rfl)) (hw _ (List.mem_of_getElem? (i := 24) rfl)) (by decide) (argsL := [(.ref a1), (.int (2 : Int32)), (.int p2)]) (rest := [(.int (Int32.ofNat (cn ms p2 2)))]) (rm6 l Z a0 hw [] a1 (2 : Int32) p2 ms 2 h0 n0 Z0 V_1 (by decide) hn6) (by decide) (by decide) (by decide) (by decide) (g := (mkF m 39 #[.val (.ref a1), .val (.int p2), .val (.int p3), .val (.int (Int32.ofNat (cn ms p2 2)))] [(.int p2), (.int (2 : Int32)), (.ref a1), (.int (Int32.ofNat (cn ms p2 2)))])) rfl (by rw [hml]; rfl) (lenOf pd___III_I_464 rfl) rfl (by show 2 * 0 + _ ≤ _; exact Nat.le_of_eq rfl) (hb hby d5_39) hh17 ?_
    rintro v18 T18 L18 X18 ⟨rfl, N18q, hh18⟩
    have N18 := Fr.app N17 N18q
    show GG _ _ _ _ _ _ _ T18 (mkF m 42 #[.val (.ref a1), .val (.int p2), .val (.int p3), .val (.int (Int32.ofNat (cn ms p2 2)))] [(.int (if ms[2]? = some p2 then (1 : Int32) else 0)), (.int (Int32.ofNat (cn ms p2 2)))])
    refine own_go (fun _ => XS.iadd X18.here hx rfl (hb hby d5_42) rfl) ?_
    show GG _ _ _ _ _ _ _ T18 (mkF m 43 #[.val (.ref a1), .val (.int p2), .val (.int p3), .val (.int (Int32.ofNat (cn ms p2 2)))] [(.int ((Int32.ofNat (cn ms p2 2)) + (if ms[2]? = some p2 then (1 : Int32) else 0)))])
    rw [show ((Int32.ofNat (cn ms p2 2)) + (if ms[2]? = some p2 then (1 : Int32) else 0)) = Int32.ofNat (cn ms p2 2) + (if ms[2]? = some p2 then (1 : Int32) else 0) from rfl, own_at]
    show GG _ _ _ _ _ _ _ T18 (mkF m 43 #[.val (.ref a1), .val (.int p2), .val (.int p3), .val (.int (Int32.ofNat (cn ms p2 2)))] [(.int (Int32.ofNat (cn ms p2 3)))])
    refine own_go (fun _ => XS.istoreN X18.here hx rfl (hb hby d5_43) rfl (l' := #[.val (.ref a1), .val (.int p2), .val (.int p3), .val (.int (Int32.ofNat (cn ms p2 3)))]) rfl) ?_
    show GG _ _ _ _ _ _ _ T18 (mkF m 44 #[.val (.ref a1), .val (.int p2), .val (.int p3), .val (.int (Int32.ofNat (cn ms p2 3)))] [])
    refine own_go (fun _ => XS.iconst X18.here hx rfl (hb hby d5_44)) ?_
    show GG _ _ _ _ _ _ _ T18 (mkF m 45 #[.val (.ref a1), .val (.int p2), .val (.int p3), .val (.int (Int32.ofNat (cn ms p2 3)))] [(.int (3 : Int32))])
    refine own_go (fun _ => XS.iloadN X18.here hx rfl (hb hby d5_45) rfl) ?_
    show GG _ _ _ _ _ _ _ T18 (mkF m 46 #[.val (.ref a1), .val (.int p2), .val (.int p3), .val (.int (Int32.ofNat (cn ms p2 3)))] [(.int p3), (.int (3 : Int32))])
    have hc46 : (3 : Int32) < p3 := (Int32.lt_iff_toInt_lt.mpr ((by show (3 < p3.toInt); omega : (3 < p3.toInt))))
    refine own_go (fun _ => XS.icmpNo X18.here hx rfl (hb hby d5_46) rfl (tlt hc46).2.1) ?_
    show GG _ _ _ _ _ _ _ T18 (mkF m 49 #[.val (.ref a1), .val (.int p2), .val (.int p3), .val (.int (Int32.ofNat (cn ms p2 3)))] [])
    refine own_go (fun _ => XS.iloadN X18.here hx rfl (hb hby d5_49) rfl) ?_
    show GG _ _ _ _ _ _ _ T18 (mkF m 50 #[.val (.ref a1), .val (.int p2), .val (.int p3), .val (.int (Int32.ofNat (cn ms p2 3)))] [(.int (Int32.ofNat (cn ms p2 3)))])
    refine own_go (fun _ => XS.aloadN X18.here hx rfl (hb hby d5_50) rfl rfl) ?_
    show GG _ _ _ _ _ _ _ T18 (mkF m 51 #[.val (.ref a1), .val (.int p2), .val (.int p3), .val (.int (Int32.ofNat (cn ms p2 3)))] [(.ref a1), (.int (Int32.ofNat (cn ms p2 3)))])
    refine own_go (fun _ => XS.iconst X18.here hx rfl (hb hby d5_51)) ?_
    show GG _ _ _ _ _ _ _ T18 (mkF m 52 #[.val (.ref a1), .val (.int p2), .val (.int p3), .val (.int (Int32.ofNat (cn ms p2 3)))] [(.int (3 : Int32)), (.ref a1), (.int (Int32.ofNat (cn ms p2 3)))])
    refine own_go (fun _ => XS.iloadN X18.here hx rfl (hb hby d5_52) rfl) ?_
    show GG _ _ _ _ _ _ _ T18 (mkF m 53 #[.val (.ref a1), .val (.int p2), .val (.int p3), .val (.int (Int32.ofNat (cn ms p2 3)))] [(.int p2), (.int (3 : Int32)), (.ref a1), (.int (Int32.ofNat (cn ms p2 3)))])
    refine own_callS X18 hx hZ (y := (⟨"com/example/deft_shards/deftshards/cluster/KMeansMembersPinLaw", "at", "([III)I"⟩ : MethodName)) 1 hown (hw _ (List.mem_of_getElem? (i := 22) rfl)) (hw _ (List.mem_of_getElem? (i := 23) rfl)) (hw _ (List.mem_of_getElem? (i := 3) rfl)) (hw _ (List.mem_of_getElem? (i := 24) rfl)) (by decide) (argsL := [(.ref a1), (.int (3 : Int32)), (.int p2)]) (rest := [(.int (Int32.ofNat (cn ms p2 3)))]) (rm6 l Z a0 hw [] a1 (3 : Int32) p2 ms 3 h0 n0 Z0 V_1 (by decide) hn6) (by decide) (by decide) (by decide) (by decide) (g := (mkF m 53 #[.val (.ref a1), .val (.int p2), .val (.int p3), .val (.int (Int32.ofNat (cn ms p2 3)))] [(.int p2), (.int (3 : Int32)), (.ref a1), (.int (Int32.ofNat (cn ms p2 3)))])) rfl (by rw [hml]; rfl) (lenOf pd___III_I_464 rfl) rfl (by show 2 * 0 + _ ≤ _; exact Nat.le_of_eq rfl) (hb hby d5_53) hh18 ?_
    rintro v19 T19 L19 X19 ⟨rfl, N19q, hh19⟩
    have N19 := Fr.app N18 N19q
    show GG _ _ _ _ _ _ _ T19 (mkF m 56 #[.val (.ref a1), .val (.int p2), .val (.int p3), .val (.int (Int32.ofNat (cn ms p2 3)))] [(.int (if ms[3]? = some p2 then (1 : Int32) else 0)), (.int (Int32.ofNat (cn ms p2 3)))])
    refine own_go (fun _ => XS.iadd X19.here hx rfl (hb hby d5_56) rfl) ?_
    show GG _ _ _ _ _ _ _ T19 (mkF m 57 #[.val (.ref a1), .val (.int p2), .val (.int p3), .val (.int (Int32.ofNat (cn ms p2 3)))] [(.int ((Int32.ofNat (cn ms p2 3)) + (if ms[3]? = some p2 then (1 : Int32) else 0)))])
    rw [show ((Int32.ofNat (cn ms p2 3)) + (if ms[3]? = some p2 then (1 : Int32) else 0)) = Int32.ofNat (cn ms p2 3) + (if ms[3]? = some p2 then (1 : Int32) else 0) from rfl, own_at]
    show GG _ _ _ _ _ _ _ T19 (mkF m 57 #[.val (.ref a1), .val (.int p2), .val (.int p3), .val (.int (Int32.ofNat (cn ms p2 3)))] [(.int (Int32.ofNat (cn ms p2 4)))])
    refine own_go (fun _ => XS.istoreN X19.here hx rfl (hb hby d5_57) rfl (l' := #[.val (.ref a1), .val (.int p2), .val (.int p3), .val (.int (Int32.ofNat (cn ms p2 4)))]) rfl) ?_
    show GG _ _ _ _ _ _ _ T19 (mkF m 58 #[.val (.ref a1), .val (.int p2), .val (.int p3), .val (.int (Int32.ofNat (cn ms p2 4)))] [])
    refine own_go (fun _ => XS.iconst X19.here hx rfl (hb hby d5_58)) ?_
    show GG _ _ _ _ _ _ _ T19 (mkF m 59 #[.val (.ref a1), .val (.int p2), .val (.int p3), .val (.int (Int32.ofNat (cn ms p2 4)))] [(.int (4 : Int32))])
    refine own_go (fun _ => XS.iloadN X19.here hx rfl (hb hby d5_59) rfl) ?_
    show GG _ _ _ _ _ _ _ T19 (mkF m 60 #[.val (.ref a1), .val (.int p2), .val (.int p3), .val (.int (Int32.ofNat (cn ms p2 4)))] [(.int p3), (.int (4 : Int32))])
    have hc60 : (4 : Int32) < p3 := (Int32.lt_iff_toInt_lt.mpr ((by show (4 < p3.toInt); omega : (4 < p3.toInt))))
    refine own_go (fun _ => XS.icmpNo X19.here hx rfl (hb hby d5_60) rfl (tlt hc60).2.1) ?_
    show GG _ _ _ _ _ _ _ T19 (mkF m 63 #[.val (.ref a1), .val (.int p2), .val (.int p3), .val (.int (Int32.ofNat (cn ms p2 4)))] [])
    refine own_go (fun _ => XS.iloadN X19.here hx rfl (hb hby d5_63) rfl) ?_
    show GG _ _ _ _ _ _ _ T19 (mkF m 64 #[.val (.ref a1), .val (.int p2), .val (.int p3), .val (.int (Int32.ofNat (cn ms p2 4)))] [(.int (Int32.ofNat (cn ms p2 4)))])
    refine own_go (fun _ => XS.aloadN X19.here hx rfl (hb hby d5_64) rfl rfl) ?_
    show GG _ _ _ _ _ _ _ T19 (mkF m 65 #[.val (.ref a1), .val (.int p2), .val (.int p3), .val (.int (Int32.ofNat (cn ms p2 4)))] [(.ref a1), (.int (Int32.ofNat (cn ms p2 4)))])
    refine own_go (fun _ => XS.iconst X19.here hx rfl (hb hby d5_65)) ?_
    show GG _ _ _ _ _ _ _ T19 (mkF m 66 #[.val (.ref a1), .val (.int p2), .val (.int p3), .val (.int (Int32.ofNat (cn ms p2 4)))] [(.int (4 : Int32)), (.ref a1), (.int (Int32.ofNat (cn ms p2 4)))])
    refine own_go (fun _ => XS.iloadN X19.here hx rfl (hb hby d5_66) rfl) ?_
    show GG _ _ _ _ _ _ _ T19 (mkF m 67 #[.val (.ref a1), .val (.int p2), .val (.int p3), .val (.int (Int32.ofNat (cn ms p2 4)))] [(.int p2), (.int (4 : Int32)), (.ref a1), (.int (Int32.ofNat (cn ms p2 4)))])
    refine own_callS X19 hx hZ (y := (⟨"com/example/deft_shards/deftshards/cluster/KMeansMembersPinLaw", "at", "([III)I"⟩ : MethodName)) 1 hown (hw _ (List.mem_of_getElem? (i := 22) rfl)) (hw _ (List.mem_of_getElem? (i := 23) rfl)) (hw _ (List.mem_of_getElem? (i := 3) rfl)) (hw _ (List.mem_of_getElem? (i := 24) rfl)) (by decide) (argsL := [(.ref a1), (.int (4 : Int32)), (.int p2)]) (rest := [(.int (Int32.ofNat (cn ms p2 4)))]) (rm6 l Z a0 hw [] a1 (4 : Int32) p2 ms 4 h0 n0 Z0 V_1 (by decide) hn6) (by decide) (by decide) (by decide) (by decide) (g := (mkF m 67 #[.val (.ref a1), .val (.int p2), .val (.int p3), .val (.int (Int32.ofNat (cn ms p2 4)))] [(.int p2), (.int (4 : Int32)), (.ref a1), (.int (Int32.ofNat (cn ms p2 4)))])) rfl (by rw [hml]; rfl) (lenOf pd___III_I_464 rfl) rfl (by show 2 * 0 + _ ≤ _; exact Nat.le_of_eq rfl) (hb hby d5_67) hh19 ?_
    rintro v20 T20 L20 X20 ⟨rfl, N20q, hh20⟩
    have N20 := Fr.app N19 N20q
    show GG _ _ _ _ _ _ _ T20 (mkF m 70 #[.val (.ref a1), .val (.int p2), .val (.int p3), .val (.int (Int32.ofNat (cn ms p2 4)))] [(.int (if ms[4]? = some p2 then (1 : Int32) else 0)), (.int (Int32.ofNat (cn ms p2 4)))])
    refine own_go (fun _ => XS.iadd X20.here hx rfl (hb hby d5_70) rfl) ?_
    show GG _ _ _ _ _ _ _ T20 (mkF m 71 #[.val (.ref a1), .val (.int p2), .val (.int p3), .val (.int (Int32.ofNat (cn ms p2 4)))] [(.int ((Int32.ofNat (cn ms p2 4)) + (if ms[4]? = some p2 then (1 : Int32) else 0)))])
    rw [show ((Int32.ofNat (cn ms p2 4)) + (if ms[4]? = some p2 then (1 : Int32) else 0)) = Int32.ofNat (cn ms p2 4) + (if ms[4]? = some p2 then (1 : Int32) else 0) from rfl, own_at]
    show GG _ _ _ _ _ _ _ T20 (mkF m 71 #[.val (.ref a1), .val (.int p2), .val (.int p3), .val (.int (Int32.ofNat (cn ms p2 4)))] [(.int (Int32.ofNat (cn ms p2 5)))])
    refine own_go (fun _ => XS.istoreN X20.here hx rfl (hb hby d5_71) rfl (l' := #[.val (.ref a1), .val (.int p2), .val (.int p3), .val (.int (Int32.ofNat (cn ms p2 5)))]) rfl) ?_
    show GG _ _ _ _ _ _ _ T20 (mkF m 72 #[.val (.ref a1), .val (.int p2), .val (.int p3), .val (.int (Int32.ofNat (cn ms p2 5)))] [])
    refine own_go (fun _ => XS.iconst X20.here hx rfl (hb hby d5_72)) ?_
    show GG _ _ _ _ _ _ _ T20 (mkF m 73 #[.val (.ref a1), .val (.int p2), .val (.int p3), .val (.int (Int32.ofNat (cn ms p2 5)))] [(.int (5 : Int32))])
    refine own_go (fun _ => XS.iloadN X20.here hx rfl (hb hby d5_73) rfl) ?_
    show GG _ _ _ _ _ _ _ T20 (mkF m 74 #[.val (.ref a1), .val (.int p2), .val (.int p3), .val (.int (Int32.ofNat (cn ms p2 5)))] [(.int p3), (.int (5 : Int32))])
    have hc74 : (5 : Int32) < p3 := (Int32.lt_iff_toInt_lt.mpr ((by show (5 < p3.toInt); omega : (5 < p3.toInt))))
    refine own_go (fun _ => XS.icmpNo X20.here hx rfl (hb hby d5_74) rfl (tlt hc74).2.1) ?_
    show GG _ _ _ _ _ _ _ T20 (mkF m 77 #[.val (.ref a1), .val (.int p2), .val (.int p3), .val (.int (Int32.ofNat (cn ms p2 5)))] [])
    refine own_go (fun _ => XS.iloadN X20.here hx rfl (hb hby d5_77) rfl) ?_
    show GG _ _ _ _ _ _ _ T20 (mkF m 78 #[.val (.ref a1), .val (.int p2), .val (.int p3), .val (.int (Int32.ofNat (cn ms p2 5)))] [(.int (Int32.ofNat (cn ms p2 5)))])
    refine own_go (fun _ => XS.aloadN X20.here hx rfl (hb hby d5_78) rfl rfl) ?_
    show GG _ _ _ _ _ _ _ T20 (mkF m 79 #[.val (.ref a1), .val (.int p2), .val (.int p3), .val (.int (Int32.ofNat (cn ms p2 5)))] [(.ref a1), (.int (Int32.ofNat (cn ms p2 5)))])
    refine own_go (fun _ => XS.iconst X20.here hx rfl (hb hby d5_79)) ?_
    show GG _ _ _ _ _ _ _ T20 (mkF m 80 #[.val (.ref a1), .val (.int p2), .val (.int p3), .val (.int (Int32.ofNat (cn ms p2 5)))] [(.int (5 : Int32)), (.ref a1), (.int (Int32.ofNat (cn ms p2 5)))])
    refine own_go (fun _ => XS.iloadN X20.here hx rfl (hb hby d5_80) rfl) ?_
    show GG _ _ _ _ _ _ _ T20 (mkF m 81 #[.val (.ref a1), .val (.int p2), .val (.int p3), .val (.int (Int32.ofNat (cn ms p2 5)))] [(.int p2), (.int (5 : Int32)), (.ref a1), (.int (Int32.ofNat (cn ms p2 5)))])
    refine own_callS X20 hx hZ (y := (⟨"com/example/deft_shards/deftshards/cluster/KMeansMembersPinLaw", "at", "([III)I"⟩ : MethodName)) 1 hown (hw _ (List.mem_of_getElem? (i := 22) rfl)) (hw _ (List.mem_of_getElem? (i := 23) rfl)) (hw _ (List.mem_of_getElem? (i := 3) rfl)) (hw _ (List.mem_of_getElem? (i := 24) rfl)) (by decide) (argsL := [(.ref a1), (.int (5 : Int32)), (.int p2)]) (rest := [(.int (Int32.ofNat (cn ms p2 5)))]) (rm6 l Z a0 hw [] a1 (5 : Int32) p2 ms 5 h0 n0 Z0 V_1 (by decide) hn6) (by decide) (by decide) (by decide) (by decide) (g := (mkF m 81 #[.val (.ref a1), .val (.int p2), .val (.int p3), .val (.int (Int32.ofNat (cn ms p2 5)))] [(.int p2), (.int (5 : Int32)), (.ref a1), (.int (Int32.ofNat (cn ms p2 5)))])) rfl (by rw [hml]; rfl) (lenOf pd___III_I_464 rfl) rfl (by show 2 * 0 + _ ≤ _; exact Nat.le_of_eq rfl) (hb hby d5_81) hh20 ?_
    rintro v21 T21 L21 X21 ⟨rfl, N21q, hh21⟩
    have N21 := Fr.app N20 N21q
    show GG _ _ _ _ _ _ _ T21 (mkF m 84 #[.val (.ref a1), .val (.int p2), .val (.int p3), .val (.int (Int32.ofNat (cn ms p2 5)))] [(.int (if ms[5]? = some p2 then (1 : Int32) else 0)), (.int (Int32.ofNat (cn ms p2 5)))])
    refine own_go (fun _ => XS.iadd X21.here hx rfl (hb hby d5_84) rfl) ?_
    show GG _ _ _ _ _ _ _ T21 (mkF m 85 #[.val (.ref a1), .val (.int p2), .val (.int p3), .val (.int (Int32.ofNat (cn ms p2 5)))] [(.int ((Int32.ofNat (cn ms p2 5)) + (if ms[5]? = some p2 then (1 : Int32) else 0)))])
    rw [show ((Int32.ofNat (cn ms p2 5)) + (if ms[5]? = some p2 then (1 : Int32) else 0)) = Int32.ofNat (cn ms p2 5) + (if ms[5]? = some p2 then (1 : Int32) else 0) from rfl, own_at]
    show GG _ _ _ _ _ _ _ T21 (mkF m 85 #[.val (.ref a1), .val (.int p2), .val (.int p3), .val (.int (Int32.ofNat (cn ms p2 5)))] [(.int (Int32.ofNat (cn ms p2 6)))])
    refine own_go (fun _ => XS.istoreN X21.here hx rfl (hb hby d5_85) rfl (l' := #[.val (.ref a1), .val (.int p2), .val (.int p3), .val (.int (Int32.ofNat (cn ms p2 6)))]) rfl) ?_
    show GG _ _ _ _ _ _ _ T21 (mkF m 86 #[.val (.ref a1), .val (.int p2), .val (.int p3), .val (.int (Int32.ofNat (cn ms p2 6)))] [])
    refine own_go (fun _ => XS.iloadN X21.here hx rfl (hb hby d5_86) rfl) ?_
    show GG _ _ _ _ _ _ _ T21 (mkF m 87 #[.val (.ref a1), .val (.int p2), .val (.int p3), .val (.int (Int32.ofNat (cn ms p2 6)))] [(.int (Int32.ofNat (cn ms p2 6)))])
    refine own_ret X21 hx hlk (t := .int) (w := (.int (Int32.ofNat (cn ms p2 6)))) Bd.returns rfl (Or.inl ⟨rfl, by simp, _, rfl⟩) (hb hby d5_87) (by decide) (by decide) ?_
    show Q5 Z a1 p2 p3 ms uN h0 n0 (some (.int (Int32.ofNat (cn ms p2 6)))) T21.heap _
    rw [hh21]
    exact ⟨by subst hul; rfl, N21, rfl⟩
theorem d3_0 : decode method_6_code 0 = .ok (.iload_n 2, 1) := by decide +kernel
theorem d3_1 : decode method_6_code 1 = .ok (.aload_n 0, 1) := by decide +kernel
theorem d3_2 : decode method_6_code 2 = .ok (.arraylength, 1) := by decide +kernel
theorem d3_3 : decode method_6_code 3 = .ok (.if_icmp .lt 5, 3) := by decide +kernel
theorem d3_6 : decode method_6_code 6 = .ok (.iconst 1, 1) := by decide +kernel
theorem d3_7 : decode method_6_code 7 = .ok (.ireturn, 1) := by decide +kernel
theorem d3_8 : decode method_6_code 8 = .ok (.aload_n 0, 1) := by decide +kernel
theorem d3_9 : decode method_6_code 9 = .ok (.iload_n 2, 1) := by decide +kernel
theorem d3_10 : decode method_6_code 10 = .ok (.aaload, 1) := by decide +kernel
theorem d3_11 : decode method_6_code 11 = .ok (.ifnull 21, 3) := by decide +kernel
theorem d3_14 : decode method_6_code 14 = .ok (.aload_n 0, 1) := by decide +kernel
theorem d3_15 : decode method_6_code 15 = .ok (.iload_n 2, 1) := by decide +kernel
theorem d3_16 : decode method_6_code 16 = .ok (.aaload, 1) := by decide +kernel
theorem d3_17 : decode method_6_code 17 = .ok (.arraylength, 1) := by decide +kernel
theorem d3_18 : decode method_6_code 18 = .ok (.aload_n 1, 1) := by decide +kernel
theorem d3_19 : decode method_6_code 19 = .ok (.iload_n 2, 1) := by decide +kernel
theorem d3_20 : decode method_6_code 20 = .ok (.bipush 6, 2) := by decide +kernel
theorem d3_22 : decode method_6_code 22 = .ok (.invokestatic 32, 3) := by decide +kernel
theorem d3_25 : decode method_6_code 25 = .ok (.if_icmp .ne 7, 3) := by decide +kernel
theorem d3_28 : decode method_6_code 28 = .ok (.iconst 1, 1) := by decide +kernel
theorem d3_29 : decode method_6_code 29 = .ok (.goto 4, 3) := by decide +kernel
theorem d3_33 : decode method_6_code 33 = .ok (.ireturn, 1) := by decide +kernel
theorem ef_3 (m : MethodId) (x0 : Addr) (x1 : Addr) (x2 : Int32) : entryFrame m #[(.ref x0), (.ref x1), (.int x2)] 3 = mkF m 0 #[.val (.ref x0), .val (.ref x1), .val (.int x2)] [] := by first | (simp [entryFrame, mkF, argsToLocals, Value.category]; done) | rfl
def Q3 (Z : State) (a1 : Addr) (a2 : Addr) (p3 : Int32) (ms : List Int32) (rs : List Addr) (cN : Nat) (h0 : Heap) (n0 : Nat) (v : Option Value) (h : Heap) (L : List Loc) : Prop := v = some (.int 1) ∧ Fr n0 L ∧ h = h0
set_option maxRecDepth 65536 in
set_option maxHeartbeats 40000000 in
theorem rm3 (l : Launch) (Z : State) (a0 : Array Value) (hw : ∀ d ∈ tables_1, d.before a0 Z = true) (ws : List Jvm.Cond) (a1 : Addr) (a2 : Addr) (p3 : Int32) (ms : List Int32) (rs : List Addr) (cN : Nat) (h0 : Heap) (n0 : Nat) (Z0 : n0 ≤ h0.size) (V_r : Arx Z h0 a1 (.array .int) (rs.map Value.ref)) (V_m : Arx Z h0 a2 .int (ms.map Value.int)) (hR : Rows Z h0 ms rs) (hk4 : rs.length ≤ 4) (hn6 : ms.length ≤ 6) (hc : p3.toInt = cN) :
    own_CT l Z (⟨"com/example/deft_shards/deftshards/cluster/KMeansMembersPinLaw", "sizeOk", "([[I[II)Z"⟩ : MethodName) method_6_code 3 (some .boolean) ws ({ frames := 2, cells := 0, slots := 0, locals := 31 } : Room) #[(.ref a1), (.ref a2), (.int p3)] h0 (Q3 Z a1 a2 p3 ms rs cN h0 n0) := by
  refine MetFree.of_bodySF (plainFor_of_name pn_com_example_deft_shards_deftshards_cluster_KMeansMembersPinLaw) hisR ?_
  intro p e s m args below meth c s₁ Bd hml0 hP hK
  obtain ⟨rfl, hZ, hh⟩ := hP
  have hx := Bd.exec
  have hby := Bd.bytes
  have hml : c.maxLocals = 3 := hml0
  have hown : s.vm.findClass "com/example/deft_shards/deftshards/cluster/KMeansMembersPinLaw" = some m.cls := findClass_of_methodNamed Bd.named
  have hnm := (name_of_methodNamed Bd.named Bd.method).1
  have hlk : meth.locks = false := BodyLoose.notSynchronized Bd
  have X0 : Stand p l e ({ frames := 2, cells := 0, slots := 0, locals := 31 } : Room) s m #[(.ref a1), (.ref a2), (.int p3)] below meth c s₁ [] 0 0 := Stand.of_body Bd
  have e0 : s₁.heap = h0 := by rw [← hh, Bd.state]; rfl
  have N0 := Fr.nil n0
  show GG p e below s ({ frames := 2, cells := 0, slots := 0, locals := 31 } : Room).cells ({ frames := 2, cells := 0, slots := 0, locals := 31 } : Room).slots (Q3 Z a1 a2 p3 ms rs cN h0 n0) s₁ (entryFrame m #[(.ref a1), (.ref a2), (.int p3)] 3)
  refine own_in (ef_3 m a1 a2 p3) ?_
  show GG _ _ _ _ _ _ _ s₁ (mkF m 0 #[.val (.ref a1), .val (.ref a2), .val (.int p3)] [])
  refine own_go (fun _ => XS.iloadN X0.here hx rfl (hb hby d3_0) rfl) ?_
  show GG _ _ _ _ _ _ _ s₁ (mkF m 1 #[.val (.ref a1), .val (.ref a2), .val (.int p3)] [(.int p3)])
  refine own_go (fun _ => XS.aloadN X0.here hx rfl (hb hby d3_1) rfl rfl) ?_
  show GG _ _ _ _ _ _ _ s₁ (mkF m 2 #[.val (.ref a1), .val (.ref a2), .val (.int p3)] [(.ref a1), (.int p3)])
  refine own_go (fun _ => own_len X0 hx hZ e0 V_r (g := (mkF m 2 #[.val (.ref a1), .val (.ref a2), .val (.int p3)] [(.ref a1), (.int p3)])) rfl rfl (hb hby d3_2) _) ?_
  show GG _ _ _ _ _ _ _ s₁ (mkF m 3 #[.val (.ref a1), .val (.ref a2), .val (.int p3)] [(.int (Int32.ofNat (rs.map Value.ref).length)), (.int p3)])
  generalize hy1 : (Int32.ofNat (rs.map Value.ref).length) = y1
  have dy1 : y1.toInt = (rs.length : Nat) := by rw [← hy1, List.length_map]; exact own_ofNat (by omega)
  by_cases hc3 : p3 < y1
  · skip
    have ihc3 : (p3.toInt < y1.toInt) := Int32.lt_iff_toInt_lt.mp hc3
    refine own_go (fun _ => XS.icmpYes X0.here hx rfl (pc0 := 3) (pc' := 8) rfl (hb hby d3_3) rfl (tlt hc3).1 (by decide) (by decide)) ?_
    show GG _ _ _ _ _ _ _ s₁ (mkF m 8 #[.val (.ref a1), .val (.ref a2), .val (.int p3)] [])
    obtain ⟨aR, vs, hra, VR, RR⟩ := hR cN (by omega)
    have hp3 : p3 = Int32.ofNat cN := by rw [← Int32.toInt_inj, own_ofNat (by omega), hc]
    rw [← hp3] at RR
    refine own_go (fun _ => XS.aloadN X0.here hx rfl (hb hby d3_8) rfl rfl) ?_
    show GG _ _ _ _ _ _ _ s₁ (mkF m 9 #[.val (.ref a1), .val (.ref a2), .val (.int p3)] [(.ref a1)])
    refine own_go (fun _ => XS.iloadN X0.here hx rfl (hb hby d3_9) rfl) ?_
    show GG _ _ _ _ _ _ _ s₁ (mkF m 10 #[.val (.ref a1), .val (.ref a2), .val (.int p3)] [(.int p3), (.ref a1)])
    refine own_go (fun _ => own_aaload X0 hx hZ e0 V_r rfl (j := p3) (v := (.ref aR)) (own_nn (by omega)) (by rw [own_nat hc, List.getElem?_map, hra]; rfl) (g := (mkF m 10 #[.val (.ref a1), .val (.ref a2), .val (.int p3)] [(.int p3), (.ref a1)])) rfl rfl (hb hby d3_10) _) ?_
    show GG _ _ _ _ _ _ _ s₁ (mkF m 11 #[.val (.ref a1), .val (.ref a2), .val (.int p3)] [(.ref aR)])
    refine own_go (fun _ => XS.ifnullNo X0.here hx rfl (hb hby d3_11) rfl) ?_
    show GG _ _ _ _ _ _ _ s₁ (mkF m 14 #[.val (.ref a1), .val (.ref a2), .val (.int p3)] [])
    refine own_go (fun _ => XS.aloadN X0.here hx rfl (hb hby d3_14) rfl rfl) ?_
    show GG _ _ _ _ _ _ _ s₁ (mkF m 15 #[.val (.ref a1), .val (.ref a2), .val (.int p3)] [(.ref a1)])
    refine own_go (fun _ => XS.iloadN X0.here hx rfl (hb hby d3_15) rfl) ?_
    show GG _ _ _ _ _ _ _ s₁ (mkF m 16 #[.val (.ref a1), .val (.ref a2), .val (.int p3)] [(.int p3), (.ref a1)])
    refine own_go (fun _ => own_aaload X0 hx hZ e0 V_r rfl (j := p3) (v := (.ref aR)) (own_nn (by omega)) (by rw [own_nat hc, List.getElem?_map, hra]; rfl) (g := (mkF m 16 #[.val (.ref a1), .val (.ref a2), .val (.int p3)] [(.int p3), (.ref a1)])) rfl rfl (hb hby d3_16) _) ?_
    show GG _ _ _ _ _ _ _ s₁ (mkF m 17 #[.val (.ref a1), .val (.ref a2), .val (.int p3)] [(.ref aR)])
    refine own_go (fun _ => own_len X0 hx hZ e0 VR (g := (mkF m 17 #[.val (.ref a1), .val (.ref a2), .val (.int p3)] [(.ref aR)])) rfl rfl (hb hby d3_17) _) ?_
    show GG _ _ _ _ _ _ _ s₁ (mkF m 18 #[.val (.ref a1), .val (.ref a2), .val (.int p3)] [(.int (Int32.ofNat (vs.map Value.int).length))])
    refine own_go (fun _ => XS.aloadN X0.here hx rfl (hb hby d3_18) rfl rfl) ?_
    show GG _ _ _ _ _ _ _ s₁ (mkF m 19 #[.val (.ref a1), .val (.ref a2), .val (.int p3)] [(.ref a2), (.int (Int32.ofNat (vs.map Value.int).length))])
    refine own_go (fun _ => XS.iloadN X0.here hx rfl (hb hby d3_19) rfl) ?_
    show GG _ _ _ _ _ _ _ s₁ (mkF m 20 #[.val (.ref a1), .val (.ref a2), .val (.int p3)] [(.int p3), (.ref a2), (.int (Int32.ofNat (vs.map Value.int).length))])
    refine own_go (fun _ => XS.bipush X0.here hx rfl (hb hby d3_20)) ?_
    show GG _ _ _ _ _ _ _ s₁ (mkF m 22 #[.val (.ref a1), .val (.ref a2), .val (.int p3)] [(.int (6 : Int32)), (.int p3), (.ref a2), (.int (Int32.ofNat (vs.map Value.int).length))])
    refine own_callS X0 hx hZ (y := (⟨"com/example/deft_shards/deftshards/cluster/KMeansMembersPinLaw", "count", "([III)I"⟩ : MethodName)) 1 hown (hw _ (List.mem_of_getElem? (i := 19) rfl)) (hw _ (List.mem_of_getElem? (i := 20) rfl)) (hw _ (List.mem_of_getElem? (i := 3) rfl)) (hw _ (List.mem_of_getElem? (i := 21) rfl)) (by decide) (argsL := [(.ref a2), (.int p3), (.int (6 : Int32))]) (rest := [(.int (Int32.ofNat (vs.map Value.int).length))]) (rm5 l Z a0 hw [] a2 p3 (6 : Int32) ms 6 h0 n0 Z0 V_m (by decide) (by decide) hn6) (by decide) (by decide) (by decide) (by decide) (g := (mkF m 22 #[.val (.ref a1), .val (.ref a2), .val (.int p3)] [(.int (6 : Int32)), (.int p3), (.ref a2), (.int (Int32.ofNat (vs.map Value.int).length))])) rfl (by rw [hml]; rfl) (lenOf pd___III_I_464 rfl) rfl (by show 2 * 0 + _ ≤ _; exact Nat.le_of_eq rfl) (hb hby d3_22) e0 ?_
    rintro v2 T2 L2 X2 ⟨rfl, N2q, hh2⟩
    have N2 := Fr.app N0 N2q
    show GG _ _ _ _ _ _ _ T2 (mkF m 25 #[.val (.ref a1), .val (.ref a2), .val (.int p3)] [(.int (Int32.ofNat (cn ms p3 6))), (.int (Int32.ofNat (vs.map Value.int).length))])
    have hc25 : (Int32.ofNat (vs.map Value.int).length) = (Int32.ofNat (cn ms p3 6)) := by rw [List.length_map, RR.1, cn_end ms p3 hn6]
    refine own_go (fun _ => XS.icmpNo X2.here hx rfl (hb hby d3_25) rfl (teq hc25).2) ?_
    show GG _ _ _ _ _ _ _ T2 (mkF m 28 #[.val (.ref a1), .val (.ref a2), .val (.int p3)] [])
    refine own_go (fun _ => XS.iconst X2.here hx rfl (hb hby d3_28)) ?_
    show GG _ _ _ _ _ _ _ T2 (mkF m 29 #[.val (.ref a1), .val (.ref a2), .val (.int p3)] [(.int (1 : Int32))])
    refine own_go (fun _ => XS.goto X2.here hx rfl (pc0 := 29) (pc' := 33) rfl (hb hby d3_29) (by decide) (by decide)) ?_
    show GG _ _ _ _ _ _ _ T2 (mkF m 33 #[.val (.ref a1), .val (.ref a2), .val (.int p3)] [(.int (1 : Int32))])
    refine own_ret X2 hx hlk (t := .boolean) (w := (.int (1 : Int32))) Bd.returns rfl (Or.inl ⟨rfl, by simp, _, rfl⟩) (hb hby d3_33) (by decide) (by decide) ?_
    show Q3 Z a1 a2 p3 ms rs cN h0 n0 (some (.int (1 : Int32))) T2.heap _
    rw [hh2]
    exact ⟨rfl, N2, rfl⟩
  · skip
    have ihc3 : ¬ (p3.toInt < y1.toInt) := fun q => hc3 (Int32.lt_iff_toInt_lt.mpr q)
    refine own_go (fun _ => XS.icmpNo X0.here hx rfl (hb hby d3_3) rfl (flt hc3).1) ?_
    show GG _ _ _ _ _ _ _ s₁ (mkF m 6 #[.val (.ref a1), .val (.ref a2), .val (.int p3)] [])
    refine own_go (fun _ => XS.iconst X0.here hx rfl (hb hby d3_6)) ?_
    show GG _ _ _ _ _ _ _ s₁ (mkF m 7 #[.val (.ref a1), .val (.ref a2), .val (.int p3)] [(.int (1 : Int32))])
    refine own_ret X0 hx hlk (t := .boolean) (w := (.int (1 : Int32))) Bd.returns rfl (Or.inl ⟨rfl, by simp, _, rfl⟩) (hb hby d3_7) (by decide) (by decide) ?_
    show Q3 Z a1 a2 p3 ms rs cN h0 n0 (some (.int (1 : Int32))) s₁.heap _
    rw [e0]
    exact ⟨rfl, N0, rfl⟩
theorem d4_0 : decode method_7_code 0 = .ok (.iload_n 2, 1) := by decide +kernel
theorem d4_1 : decode method_7_code 1 = .ok (.aload_n 1, 1) := by decide +kernel
theorem d4_2 : decode method_7_code 2 = .ok (.arraylength, 1) := by decide +kernel
theorem d4_3 : decode method_7_code 3 = .ok (.if_icmp .ge 9, 3) := by decide +kernel
theorem d4_6 : decode method_7_code 6 = .ok (.aload_n 1, 1) := by decide +kernel
theorem d4_7 : decode method_7_code 7 = .ok (.iload_n 2, 1) := by decide +kernel
theorem d4_8 : decode method_7_code 8 = .ok (.iaload, 1) := by decide +kernel
theorem d4_9 : decode method_7_code 9 = .ok (.ifCond .ge 5, 3) := by decide +kernel
theorem d4_12 : decode method_7_code 12 = .ok (.iconst 1, 1) := by decide +kernel
theorem d4_13 : decode method_7_code 13 = .ok (.ireturn, 1) := by decide +kernel
theorem d4_14 : decode method_7_code 14 = .ok (.aload_n 0, 1) := by decide +kernel
theorem d4_15 : decode method_7_code 15 = .ok (.aload_n 1, 1) := by decide +kernel
theorem d4_16 : decode method_7_code 16 = .ok (.iload_n 2, 1) := by decide +kernel
theorem d4_17 : decode method_7_code 17 = .ok (.iaload, 1) := by decide +kernel
theorem d4_18 : decode method_7_code 18 = .ok (.aaload, 1) := by decide +kernel
theorem d4_19 : decode method_7_code 19 = .ok (.astore_n 3, 1) := by decide +kernel
theorem d4_20 : decode method_7_code 20 = .ok (.aload_n 1, 1) := by decide +kernel
theorem d4_21 : decode method_7_code 21 = .ok (.aload_n 1, 1) := by decide +kernel
theorem d4_22 : decode method_7_code 22 = .ok (.iload_n 2, 1) := by decide +kernel
theorem d4_23 : decode method_7_code 23 = .ok (.iaload, 1) := by decide +kernel
theorem d4_24 : decode method_7_code 24 = .ok (.iload_n 2, 1) := by decide +kernel
theorem d4_25 : decode method_7_code 25 = .ok (.invokestatic 32, 3) := by decide +kernel
theorem d4_28 : decode method_7_code 28 = .ok (.istore 4, 2) := by decide +kernel
theorem d4_30 : decode method_7_code 30 = .ok (.iload 4, 2) := by decide +kernel
theorem d4_32 : decode method_7_code 32 = .ok (.aload_n 3, 1) := by decide +kernel
theorem d4_33 : decode method_7_code 33 = .ok (.arraylength, 1) := by decide +kernel
theorem d4_34 : decode method_7_code 34 = .ok (.if_icmp .ge 15, 3) := by decide +kernel
theorem d4_37 : decode method_7_code 37 = .ok (.aload_n 3, 1) := by decide +kernel
theorem d4_38 : decode method_7_code 38 = .ok (.iload 4, 2) := by decide +kernel
theorem d4_40 : decode method_7_code 40 = .ok (.iaload, 1) := by decide +kernel
theorem d4_41 : decode method_7_code 41 = .ok (.iload_n 2, 1) := by decide +kernel
theorem d4_42 : decode method_7_code 42 = .ok (.if_icmp .ne 7, 3) := by decide +kernel
theorem d4_45 : decode method_7_code 45 = .ok (.iconst 1, 1) := by decide +kernel
theorem d4_46 : decode method_7_code 46 = .ok (.goto 4, 3) := by decide +kernel
theorem d4_50 : decode method_7_code 50 = .ok (.ireturn, 1) := by decide +kernel
theorem ef_4 (m : MethodId) (x0 : Addr) (x1 : Addr) (x2 : Int32) : entryFrame m #[(.ref x0), (.ref x1), (.int x2)] 5 = mkF m 0 #[.val (.ref x0), .val (.ref x1), .val (.int x2), .unset, .unset] [] := by first | (simp [entryFrame, mkF, argsToLocals, Value.category]; done) | rfl
def Q4 (Z : State) (a1 : Addr) (a2 : Addr) (p3 : Int32) (ms : List Int32) (rs : List Addr) (iN : Nat) (h0 : Heap) (n0 : Nat) (v : Option Value) (h : Heap) (L : List Loc) : Prop := v = some (.int 1) ∧ Fr n0 L ∧ h = h0
set_option maxRecDepth 65536 in
set_option maxHeartbeats 40000000 in
theorem rm4 (l : Launch) (Z : State) (a0 : Array Value) (hw : ∀ d ∈ tables_1, d.before a0 Z = true) (ws : List Jvm.Cond) (a1 : Addr) (a2 : Addr) (p3 : Int32) (ms : List Int32) (rs : List Addr) (iN : Nat) (h0 : Heap) (n0 : Nat) (Z0 : n0 ≤ h0.size) (V_r : Arx Z h0 a1 (.array .int) (rs.map Value.ref)) (V_m : Arx Z h0 a2 .int (ms.map Value.int)) (hR : Rows Z h0 ms rs) (hk4 : rs.length ≤ 4) (hn6 : ms.length ≤ 6) (hi : p3.toInt = iN) (hi6 : iN ≤ 6) (hG : ∀ (j : Nat) (y : Int32), ms[j]? = some y → -1 ≤ y.toInt ∧ y.toInt < rs.length) :
    own_CT l Z (⟨"com/example/deft_shards/deftshards/cluster/KMeansMembersPinLaw", "docOk", "([[I[II)Z"⟩ : MethodName) method_7_code 5 (some .boolean) ws ({ frames := 2, cells := 0, slots := 0, locals := 30 } : Room) #[(.ref a1), (.ref a2), (.int p3)] h0 (Q4 Z a1 a2 p3 ms rs iN h0 n0) := by
  refine MetFree.of_bodySF (plainFor_of_name pn_com_example_deft_shards_deftshards_cluster_KMeansMembersPinLaw) hisR ?_
  intro p e s m args below meth c s₁ Bd hml0 hP hK
  obtain ⟨rfl, hZ, hh⟩ := hP
  have hx := Bd.exec
  have hby := Bd.bytes
  have hml : c.maxLocals = 5 := hml0
  have hown : s.vm.findClass "com/example/deft_shards/deftshards/cluster/KMeansMembersPinLaw" = some m.cls := findClass_of_methodNamed Bd.named
  have hnm := (name_of_methodNamed Bd.named Bd.method).1
  have hlk : meth.locks = false := BodyLoose.notSynchronized Bd
  have X0 : Stand p l e ({ frames := 2, cells := 0, slots := 0, locals := 30 } : Room) s m #[(.ref a1), (.ref a2), (.int p3)] below meth c s₁ [] 0 0 := Stand.of_body Bd
  have e0 : s₁.heap = h0 := by rw [← hh, Bd.state]; rfl
  have N0 := Fr.nil n0
  show GG p e below s ({ frames := 2, cells := 0, slots := 0, locals := 30 } : Room).cells ({ frames := 2, cells := 0, slots := 0, locals := 30 } : Room).slots (Q4 Z a1 a2 p3 ms rs iN h0 n0) s₁ (entryFrame m #[(.ref a1), (.ref a2), (.int p3)] 5)
  refine own_in (ef_4 m a1 a2 p3) ?_
  show GG _ _ _ _ _ _ _ s₁ (mkF m 0 #[.val (.ref a1), .val (.ref a2), .val (.int p3), .unset, .unset] [])
  refine own_go (fun _ => XS.iloadN X0.here hx rfl (hb hby d4_0) rfl) ?_
  show GG _ _ _ _ _ _ _ s₁ (mkF m 1 #[.val (.ref a1), .val (.ref a2), .val (.int p3), .unset, .unset] [(.int p3)])
  refine own_go (fun _ => XS.aloadN X0.here hx rfl (hb hby d4_1) rfl rfl) ?_
  show GG _ _ _ _ _ _ _ s₁ (mkF m 2 #[.val (.ref a1), .val (.ref a2), .val (.int p3), .unset, .unset] [(.ref a2), (.int p3)])
  refine own_go (fun _ => own_len X0 hx hZ e0 V_m (g := (mkF m 2 #[.val (.ref a1), .val (.ref a2), .val (.int p3), .unset, .unset] [(.ref a2), (.int p3)])) rfl rfl (hb hby d4_2) _) ?_
  show GG _ _ _ _ _ _ _ s₁ (mkF m 3 #[.val (.ref a1), .val (.ref a2), .val (.int p3), .unset, .unset] [(.int (Int32.ofNat (ms.map Value.int).length)), (.int p3)])
  generalize hy1 : (Int32.ofNat (ms.map Value.int).length) = y1
  have dy1 : y1.toInt = (ms.length : Nat) := by rw [← hy1, List.length_map]; exact own_ofNat (by omega)
  by_cases hc3 : p3 < y1
  · skip
    have ihc3 : (p3.toInt < y1.toInt) := Int32.lt_iff_toInt_lt.mp hc3
    refine own_go (fun _ => XS.icmpNo X0.here hx rfl (hb hby d4_3) rfl (tlt hc3).2.1) ?_
    show GG _ _ _ _ _ _ _ s₁ (mkF m 6 #[.val (.ref a1), .val (.ref a2), .val (.int p3), .unset, .unset] [])
    obtain ⟨y, hy⟩ : ∃ y, ms[iN]? = some y := ⟨_, List.getElem?_eq_getElem (show iN < ms.length by omega)⟩
    have hyr := hG iN y hy
    refine own_go (fun _ => XS.aloadN X0.here hx rfl (hb hby d4_6) rfl rfl) ?_
    show GG _ _ _ _ _ _ _ s₁ (mkF m 7 #[.val (.ref a1), .val (.ref a2), .val (.int p3), .unset, .unset] [(.ref a2)])
    refine own_go (fun _ => XS.iloadN X0.here hx rfl (hb hby d4_7) rfl) ?_
    show GG _ _ _ _ _ _ _ s₁ (mkF m 8 #[.val (.ref a1), .val (.ref a2), .val (.int p3), .unset, .unset] [(.int p3), (.ref a2)])
    refine own_go (fun _ => own_iaload X0 hx hZ e0 V_m (j := p3) (v := (.int y)) (own_nn (by omega)) (own_mget hi hy) (g := (mkF m 8 #[.val (.ref a1), .val (.ref a2), .val (.int p3), .unset, .unset] [(.int p3), (.ref a2)])) rfl rfl (hb hby d4_8) _) ?_
    show GG _ _ _ _ _ _ _ s₁ (mkF m 9 #[.val (.ref a1), .val (.ref a2), .val (.int p3), .unset, .unset] [(.int y)])
    by_cases hc9 : y < (0 : Int32)
    · skip
      have ihc9 : (y.toInt < 0) := Int32.lt_iff_toInt_lt.mp hc9
      refine own_go (fun _ => XS.ifNo X0.here hx rfl (hb hby d4_9) rfl ((if0 _ _).trans (tlt hc9).2.1)) ?_
      show GG _ _ _ _ _ _ _ s₁ (mkF m 12 #[.val (.ref a1), .val (.ref a2), .val (.int p3), .unset, .unset] [])
      refine own_go (fun _ => XS.iconst X0.here hx rfl (hb hby d4_12)) ?_
      show GG _ _ _ _ _ _ _ s₁ (mkF m 13 #[.val (.ref a1), .val (.ref a2), .val (.int p3), .unset, .unset] [(.int (1 : Int32))])
      refine own_ret X0 hx hlk (t := .boolean) (w := (.int (1 : Int32))) Bd.returns rfl (Or.inl ⟨rfl, by simp, _, rfl⟩) (hb hby d4_13) (by decide) (by decide) ?_
      show Q4 Z a1 a2 p3 ms rs iN h0 n0 (some (.int (1 : Int32))) s₁.heap _
      rw [e0]
      exact ⟨rfl, N0, rfl⟩
    · skip
      have ihc9 : ¬ (y.toInt < 0) := fun q => hc9 (Int32.lt_iff_toInt_lt.mpr q)
      refine own_go (fun _ => XS.ifYes X0.here hx rfl (pc0 := 9) (pc' := 14) rfl (hb hby d4_9) rfl ((if0 _ _).trans (flt hc9).2.1) (by decide) (by decide)) ?_
      show GG _ _ _ _ _ _ _ s₁ (mkF m 14 #[.val (.ref a1), .val (.ref a2), .val (.int p3), .unset, .unset] [])
      obtain ⟨yN, hyN⟩ : ∃ z : Nat, y.toInt = z := ⟨y.toInt.toNat, by omega⟩
      obtain ⟨aR, vs, hra, VR, RR⟩ := hR yN (by omega)
      have hpy : y = Int32.ofNat yN := by rw [← Int32.toInt_inj, own_ofNat (by omega), hyN]
      rw [← hpy] at RR
      have hlt := cn_lt (j := ms.length) hy (by omega)
      have hc6 := cn_le ms y iN
      have hvs := RR.2 iN (by omega) hy
      have hvl := RR.1
      have hn7 := cn_le ms y ms.length
      refine own_go (fun _ => XS.aloadN X0.here hx rfl (hb hby d4_14) rfl rfl) ?_
      show GG _ _ _ _ _ _ _ s₁ (mkF m 15 #[.val (.ref a1), .val (.ref a2), .val (.int p3), .unset, .unset] [(.ref a1)])
      refine own_go (fun _ => XS.aloadN X0.here hx rfl (hb hby d4_15) rfl rfl) ?_
      show GG _ _ _ _ _ _ _ s₁ (mkF m 16 #[.val (.ref a1), .val (.ref a2), .val (.int p3), .unset, .unset] [(.ref a2), (.ref a1)])
      refine own_go (fun _ => XS.iloadN X0.here hx rfl (hb hby d4_16) rfl) ?_
      show GG _ _ _ _ _ _ _ s₁ (mkF m 17 #[.val (.ref a1), .val (.ref a2), .val (.int p3), .unset, .unset] [(.int p3), (.ref a2), (.ref a1)])
      refine own_go (fun _ => own_iaload X0 hx hZ e0 V_m (j := p3) (v := (.int y)) (own_nn (by omega)) (own_mget hi hy) (g := (mkF m 17 #[.val (.ref a1), .val (.ref a2), .val (.int p3), .unset, .unset] [(.int p3), (.ref a2), (.ref a1)])) rfl rfl (hb hby d4_17) _) ?_
      show GG _ _ _ _ _ _ _ s₁ (mkF m 18 #[.val (.ref a1), .val (.ref a2), .val (.int p3), .unset, .unset] [(.int y), (.ref a1)])
      refine own_go (fun _ => own_aaload X0 hx hZ e0 V_r rfl (j := y) (v := (.ref aR)) (own_nn (by omega)) (by rw [own_nat hyN, List.getElem?_map, hra]; rfl) (g := (mkF m 18 #[.val (.ref a1), .val (.ref a2), .val (.int p3), .unset, .unset] [(.int y), (.ref a1)])) rfl rfl (hb hby d4_18) _) ?_
      show GG _ _ _ _ _ _ _ s₁ (mkF m 19 #[.val (.ref a1), .val (.ref a2), .val (.int p3), .unset, .unset] [(.ref aR)])
      refine own_go (fun _ => XS.astoreN X0.here hx rfl (hb hby d4_19) rfl rfl (l' := #[.val (.ref a1), .val (.ref a2), .val (.int p3), .val (.ref aR), .unset]) rfl) ?_
      show GG _ _ _ _ _ _ _ s₁ (mkF m 20 #[.val (.ref a1), .val (.ref a2), .val (.int p3), .val (.ref aR), .unset] [])
      refine own_go (fun _ => XS.aloadN X0.here hx rfl (hb hby d4_20) rfl rfl) ?_
      show GG _ _ _ _ _ _ _ s₁ (mkF m 21 #[.val (.ref a1), .val (.ref a2), .val (.int p3), .val (.ref aR), .unset] [(.ref a2)])
      refine own_go (fun _ => XS.aloadN X0.here hx rfl (hb hby d4_21) rfl rfl) ?_
      show GG _ _ _ _ _ _ _ s₁ (mkF m 22 #[.val (.ref a1), .val (.ref a2), .val (.int p3), .val (.ref aR), .unset] [(.ref a2), (.ref a2)])
      refine own_go (fun _ => XS.iloadN X0.here hx rfl (hb hby d4_22) rfl) ?_
      show GG _ _ _ _ _ _ _ s₁ (mkF m 23 #[.val (.ref a1), .val (.ref a2), .val (.int p3), .val (.ref aR), .unset] [(.int p3), (.ref a2), (.ref a2)])
      refine own_go (fun _ => own_iaload X0 hx hZ e0 V_m (j := p3) (v := (.int y)) (own_nn (by omega)) (own_mget hi hy) (g := (mkF m 23 #[.val (.ref a1), .val (.ref a2), .val (.int p3), .val (.ref aR), .unset] [(.int p3), (.ref a2), (.ref a2)])) rfl rfl (hb hby d4_23) _) ?_
      show GG _ _ _ _ _ _ _ s₁ (mkF m 24 #[.val (.ref a1), .val (.ref a2), .val (.int p3), .val (.ref aR), .unset] [(.int y), (.ref a2)])
      refine own_go (fun _ => XS.iloadN X0.here hx rfl (hb hby d4_24) rfl) ?_
      show GG _ _ _ _ _ _ _ s₁ (mkF m 25 #[.val (.ref a1), .val (.ref a2), .val (.int p3), .val (.ref aR), .unset] [(.int p3), (.int y), (.ref a2)])
      refine own_callS X0 hx hZ (y := (⟨"com/example/deft_shards/deftshards/cluster/KMeansMembersPinLaw", "count", "([III)I"⟩ : MethodName)) 0 hown (hw _ (List.mem_of_getElem? (i := 19) rfl)) (hw _ (List.mem_of_getElem? (i := 20) rfl)) (hw _ (List.mem_of_getElem? (i := 3) rfl)) (hw _ (List.mem_of_getElem? (i := 21) rfl)) (by decide) (argsL := [(.ref a2), (.int y), (.int p3)]) (rest := []) (rm5 l Z a0 hw [] a2 y p3 ms iN h0 n0 Z0 V_m hi hi6 hn6) (by decide) (by decide) (by decide) (by decide) (g := (mkF m 25 #[.val (.ref a1), .val (.ref a2), .val (.int p3), .val (.ref aR), .unset] [(.int p3), (.int y), (.ref a2)])) rfl (by rw [hml]; rfl) (lenOf pd___III_I_464 rfl) rfl (by show 2 * 0 + _ ≤ _; exact Nat.le_of_eq rfl) (hb hby d4_25) e0 ?_
      rintro v2 T2 L2 X2 ⟨rfl, N2q, hh2⟩
      have N2 := Fr.app N0 N2q
      show GG _ _ _ _ _ _ _ T2 (mkF m 28 #[.val (.ref a1), .val (.ref a2), .val (.int p3), .val (.ref aR), .unset] [(.int (Int32.ofNat (cn ms y iN)))])
      refine own_go (fun _ => XS.istore X2.here hx rfl (hb hby d4_28) rfl (l' := #[.val (.ref a1), .val (.ref a2), .val (.int p3), .val (.ref aR), .val (.int (Int32.ofNat (cn ms y iN)))]) rfl) ?_
      show GG _ _ _ _ _ _ _ T2 (mkF m 30 #[.val (.ref a1), .val (.ref a2), .val (.int p3), .val (.ref aR), .val (.int (Int32.ofNat (cn ms y iN)))] [])
      refine own_go (fun _ => XS.iload X2.here hx rfl (hb hby d4_30) rfl) ?_
      show GG _ _ _ _ _ _ _ T2 (mkF m 32 #[.val (.ref a1), .val (.ref a2), .val (.int p3), .val (.ref aR), .val (.int (Int32.ofNat (cn ms y iN)))] [(.int (Int32.ofNat (cn ms y iN)))])
      refine own_go (fun _ => XS.aloadN X2.here hx rfl (hb hby d4_32) rfl rfl) ?_
      show GG _ _ _ _ _ _ _ T2 (mkF m 33 #[.val (.ref a1), .val (.ref a2), .val (.int p3), .val (.ref aR), .val (.int (Int32.ofNat (cn ms y iN)))] [(.ref aR), (.int (Int32.ofNat (cn ms y iN)))])
      refine own_go (fun _ => own_len X2 hx hZ hh2 VR (g := (mkF m 33 #[.val (.ref a1), .val (.ref a2), .val (.int p3), .val (.ref aR), .val (.int (Int32.ofNat (cn ms y iN)))] [(.ref aR), (.int (Int32.ofNat (cn ms y iN)))])) rfl rfl (hb hby d4_33) _) ?_
      show GG _ _ _ _ _ _ _ T2 (mkF m 34 #[.val (.ref a1), .val (.ref a2), .val (.int p3), .val (.ref aR), .val (.int (Int32.ofNat (cn ms y iN)))] [(.int (Int32.ofNat (vs.map Value.int).length)), (.int (Int32.ofNat (cn ms y iN)))])
      have hc34 : (Int32.ofNat (cn ms y iN)) < (Int32.ofNat (vs.map Value.int).length) := Int32.lt_iff_toInt_lt.mpr (by rw [own_ofNat (by omega), own_ofNat (by rw [List.length_map]; omega), List.length_map, RR.1]; omega)
      refine own_go (fun _ => XS.icmpNo X2.here hx rfl (hb hby d4_34) rfl (tlt hc34).2.1) ?_
      show GG _ _ _ _ _ _ _ T2 (mkF m 37 #[.val (.ref a1), .val (.ref a2), .val (.int p3), .val (.ref aR), .val (.int (Int32.ofNat (cn ms y iN)))] [])
      refine own_go (fun _ => XS.aloadN X2.here hx rfl (hb hby d4_37) rfl rfl) ?_
      show GG _ _ _ _ _ _ _ T2 (mkF m 38 #[.val (.ref a1), .val (.ref a2), .val (.int p3), .val (.ref aR), .val (.int (Int32.ofNat (cn ms y iN)))] [(.ref aR)])
      refine own_go (fun _ => XS.iload X2.here hx rfl (hb hby d4_38) rfl) ?_
      show GG _ _ _ _ _ _ _ T2 (mkF m 40 #[.val (.ref a1), .val (.ref a2), .val (.int p3), .val (.ref aR), .val (.int (Int32.ofNat (cn ms y iN)))] [(.int (Int32.ofNat (cn ms y iN))), (.ref aR)])
      refine own_go (fun _ => own_iaload X2 hx hZ hh2 VR (j := (Int32.ofNat (cn ms y iN))) (v := (.int (Int32.ofNat iN))) (own_onn (by omega)) (by rw [own_ocl (by omega), List.getElem?_map, hvs]; rfl) (g := (mkF m 40 #[.val (.ref a1), .val (.ref a2), .val (.int p3), .val (.ref aR), .val (.int (Int32.ofNat (cn ms y iN)))] [(.int (Int32.ofNat (cn ms y iN))), (.ref aR)])) rfl rfl (hb hby d4_40) _) ?_
      show GG _ _ _ _ _ _ _ T2 (mkF m 41 #[.val (.ref a1), .val (.ref a2), .val (.int p3), .val (.ref aR), .val (.int (Int32.ofNat (cn ms y iN)))] [(.int (Int32.ofNat iN))])
      refine own_go (fun _ => XS.iloadN X2.here hx rfl (hb hby d4_41) rfl) ?_
      show GG _ _ _ _ _ _ _ T2 (mkF m 42 #[.val (.ref a1), .val (.ref a2), .val (.int p3), .val (.ref aR), .val (.int (Int32.ofNat (cn ms y iN)))] [(.int p3), (.int (Int32.ofNat iN))])
      have hc42 : (Int32.ofNat iN) = p3 := by rw [← Int32.toInt_inj, own_ofNat (by omega), hi]
      refine own_go (fun _ => XS.icmpNo X2.here hx rfl (hb hby d4_42) rfl (teq hc42).2) ?_
      show GG _ _ _ _ _ _ _ T2 (mkF m 45 #[.val (.ref a1), .val (.ref a2), .val (.int p3), .val (.ref aR), .val (.int (Int32.ofNat (cn ms y iN)))] [])
      refine own_go (fun _ => XS.iconst X2.here hx rfl (hb hby d4_45)) ?_
      show GG _ _ _ _ _ _ _ T2 (mkF m 46 #[.val (.ref a1), .val (.ref a2), .val (.int p3), .val (.ref aR), .val (.int (Int32.ofNat (cn ms y iN)))] [(.int (1 : Int32))])
      refine own_go (fun _ => XS.goto X2.here hx rfl (pc0 := 46) (pc' := 50) rfl (hb hby d4_46) (by decide) (by decide)) ?_
      show GG _ _ _ _ _ _ _ T2 (mkF m 50 #[.val (.ref a1), .val (.ref a2), .val (.int p3), .val (.ref aR), .val (.int (Int32.ofNat (cn ms y iN)))] [(.int (1 : Int32))])
      refine own_ret X2 hx hlk (t := .boolean) (w := (.int (1 : Int32))) Bd.returns rfl (Or.inl ⟨rfl, by simp, _, rfl⟩) (hb hby d4_50) (by decide) (by decide) ?_
      show Q4 Z a1 a2 p3 ms rs iN h0 n0 (some (.int (1 : Int32))) T2.heap _
      rw [hh2]
      exact ⟨rfl, N2, rfl⟩
  · skip
    have ihc3 : ¬ (p3.toInt < y1.toInt) := fun q => hc3 (Int32.lt_iff_toInt_lt.mpr q)
    refine own_go (fun _ => XS.icmpYes X0.here hx rfl (pc0 := 3) (pc' := 12) rfl (hb hby d4_3) rfl (flt hc3).2.1 (by decide) (by decide)) ?_
    show GG _ _ _ _ _ _ _ s₁ (mkF m 12 #[.val (.ref a1), .val (.ref a2), .val (.int p3), .unset, .unset] [])
    refine own_go (fun _ => XS.iconst X0.here hx rfl (hb hby d4_12)) ?_
    show GG _ _ _ _ _ _ _ s₁ (mkF m 13 #[.val (.ref a1), .val (.ref a2), .val (.int p3), .unset, .unset] [(.int (1 : Int32))])
    refine own_ret X0 hx hlk (t := .boolean) (w := (.int (1 : Int32))) Bd.returns rfl (Or.inl ⟨rfl, by simp, _, rfl⟩) (hb hby d4_13) (by decide) (by decide) ?_
    show Q4 Z a1 a2 p3 ms rs iN h0 n0 (some (.int (1 : Int32))) s₁.heap _
    rw [e0]
    exact ⟨rfl, N0, rfl⟩
theorem d2_0 : decode prog_2_method_3_code 0 = .ok (.iload_n 1, 1) := by decide +kernel
theorem d2_1 : decode prog_2_method_3_code 1 = .ok (.newarray .int, 2) := by decide +kernel
theorem d2_3 : decode prog_2_method_3_code 3 = .ok (.astore_n 2, 1) := by decide +kernel
theorem d2_4 : decode prog_2_method_3_code 4 = .ok (.aload_n 0, 1) := by decide +kernel
theorem d2_5 : decode prog_2_method_3_code 5 = .ok (.astore_n 3, 1) := by decide +kernel
theorem d2_6 : decode prog_2_method_3_code 6 = .ok (.aload_n 3, 1) := by decide +kernel
theorem d2_7 : decode prog_2_method_3_code 7 = .ok (.arraylength, 1) := by decide +kernel
theorem d2_8 : decode prog_2_method_3_code 8 = .ok (.istore 4, 2) := by decide +kernel
theorem d2_10 : decode prog_2_method_3_code 10 = .ok (.iconst 0, 1) := by decide +kernel
theorem d2_11 : decode prog_2_method_3_code 11 = .ok (.istore 5, 2) := by decide +kernel
theorem d2_13 : decode prog_2_method_3_code 13 = .ok (.iload 5, 2) := by decide +kernel
theorem d2_15 : decode prog_2_method_3_code 15 = .ok (.iload 4, 2) := by decide +kernel
theorem d2_17 : decode prog_2_method_3_code 17 = .ok (.if_icmp .ge 28, 3) := by decide +kernel
theorem d2_20 : decode prog_2_method_3_code 20 = .ok (.aload_n 3, 1) := by decide +kernel
theorem d2_21 : decode prog_2_method_3_code 21 = .ok (.iload 5, 2) := by decide +kernel
theorem d2_23 : decode prog_2_method_3_code 23 = .ok (.iaload, 1) := by decide +kernel
theorem d2_24 : decode prog_2_method_3_code 24 = .ok (.istore 6, 2) := by decide +kernel
theorem d2_26 : decode prog_2_method_3_code 26 = .ok (.iload 6, 2) := by decide +kernel
theorem d2_28 : decode prog_2_method_3_code 28 = .ok (.ifCond .lt 11, 3) := by decide +kernel
theorem d2_39 : decode prog_2_method_3_code 39 = .ok (.iinc 5 1, 3) := by decide +kernel
theorem d2_42 : decode prog_2_method_3_code 42 = .ok (.goto (-29), 3) := by decide +kernel
theorem d2_45 : decode prog_2_method_3_code 45 = .ok (.iload_n 1, 1) := by decide +kernel
theorem d2_46 : decode prog_2_method_3_code 46 = .ok (.anewarray 81, 3) := by decide +kernel
theorem d2_49 : decode prog_2_method_3_code 49 = .ok (.astore_n 3, 1) := by decide +kernel
theorem d2_50 : decode prog_2_method_3_code 50 = .ok (.iconst 0, 1) := by decide +kernel
theorem d2_51 : decode prog_2_method_3_code 51 = .ok (.istore 4, 2) := by decide +kernel
theorem d2_53 : decode prog_2_method_3_code 53 = .ok (.iload 4, 2) := by decide +kernel
theorem d2_55 : decode prog_2_method_3_code 55 = .ok (.iload_n 1, 1) := by decide +kernel
theorem d2_56 : decode prog_2_method_3_code 56 = .ok (.if_icmp .ge 24, 3) := by decide +kernel
theorem d2_80 : decode prog_2_method_3_code 80 = .ok (.iconst 0, 1) := by decide +kernel
theorem d2_81 : decode prog_2_method_3_code 81 = .ok (.istore 4, 2) := by decide +kernel
theorem d2_83 : decode prog_2_method_3_code 83 = .ok (.iload 4, 2) := by decide +kernel
theorem d2_85 : decode prog_2_method_3_code 85 = .ok (.aload_n 0, 1) := by decide +kernel
theorem d2_86 : decode prog_2_method_3_code 86 = .ok (.arraylength, 1) := by decide +kernel
theorem d2_87 : decode prog_2_method_3_code 87 = .ok (.if_icmp .ge 36, 3) := by decide +kernel
theorem d2_90 : decode prog_2_method_3_code 90 = .ok (.aload_n 0, 1) := by decide +kernel
theorem d2_91 : decode prog_2_method_3_code 91 = .ok (.iload 4, 2) := by decide +kernel
theorem d2_93 : decode prog_2_method_3_code 93 = .ok (.iaload, 1) := by decide +kernel
theorem d2_94 : decode prog_2_method_3_code 94 = .ok (.istore 5, 2) := by decide +kernel
theorem d2_96 : decode prog_2_method_3_code 96 = .ok (.iload 5, 2) := by decide +kernel
theorem d2_98 : decode prog_2_method_3_code 98 = .ok (.ifCond .lt 19, 3) := by decide +kernel
theorem d2_117 : decode prog_2_method_3_code 117 = .ok (.iinc 4 1, 3) := by decide +kernel
theorem d2_120 : decode prog_2_method_3_code 120 = .ok (.goto (-37), 3) := by decide +kernel
theorem d2_123 : decode prog_2_method_3_code 123 = .ok (.aload_n 3, 1) := by decide +kernel
theorem d2_124 : decode prog_2_method_3_code 124 = .ok (.areturn, 1) := by decide +kernel
theorem pn_com_example_deft_shards_deftshards_cluster_KMeans : plainName "com/example/deft_shards/deftshards/cluster/KMeans" = true := by first | (simp [plainName, overriddenIn]; done) | decide +kernel
theorem ef_2 (m : MethodId) (x0 : Addr) (x1 : Int32) : entryFrame m #[(.ref x0), (.int x1)] 7 = mkF m 0 #[.val (.ref x0), .val (.int x1), .unset, .unset, .unset, .unset, .unset] [] := by first | (simp [entryFrame, mkF, argsToLocals, Value.category]; done) | rfl
def Q2_0 (Z : State) (a1 : Addr) (ms : List Int32) (h0 : Heap) (n0 : Nat) (v : Option Value) (h : Heap) (L : List Loc) : Prop := ∃ b rs, v = some (.ref b) ∧ Fr n0 L ∧ Keep h0 h [] ∧ Arx Z h b (.array .int) (rs.map Value.ref) ∧ rs.length = 0 ∧ Rows Z h ms rs
set_option maxRecDepth 65536 in
set_option maxHeartbeats 40000000 in
theorem rm2_0 (l : Launch) (Z : State) (a0 : Array Value) (hw : ∀ d ∈ tables_1, d.before a0 Z = true) (ws : List Jvm.Cond) (a1 : Addr) (ms : List Int32) (h0 : Heap) (n0 : Nat) (Z0 : n0 ≤ h0.size) (V_m : Arx Z h0 a1 .int (ms.map Value.int)) (hn6 : ms.length ≤ 6) (hG : ∀ (j : Nat) (y : Int32), ms[j]? = some y → -1 ≤ y.toInt ∧ y.toInt < 0) :
    own_CT l Z (⟨"com/example/deft_shards/deftshards/cluster/KMeans", "members", "([II)[[I"⟩ : MethodName) prog_2_method_3_code 7 (some (.array (.array .int))) ws ({ frames := 0, cells := 6, slots := 32, locals := 0 } : Room) #[(.ref a1), (.int (0 : Int32))] h0 (Q2_0 Z a1 ms h0 n0) := by
  refine MetFree.of_bodySF (plainFor_of_name pn_com_example_deft_shards_deftshards_cluster_KMeans) hisR ?_
  intro p e s m args below meth c s₁ Bd hml0 hP hK
  obtain ⟨rfl, hZ, hh⟩ := hP
  have hx := Bd.exec
  have hby := Bd.bytes
  have hml : c.maxLocals = 7 := hml0
  have hown : s.vm.findClass "com/example/deft_shards/deftshards/cluster/KMeans" = some m.cls := findClass_of_methodNamed Bd.named
  have hnm := (name_of_methodNamed Bd.named Bd.method).1
  have hlk : meth.locks = false := BodyLoose.notSynchronized Bd
  have X0 : Stand p l e ({ frames := 0, cells := 6, slots := 32, locals := 0 } : Room) s m #[(.ref a1), (.int (0 : Int32))] below meth c s₁ [] 0 0 := Stand.of_body Bd
  have e0 : s₁.heap = h0 := by rw [← hh, Bd.state]; rfl
  have N0 := Fr.nil n0
  show GG p e below s ({ frames := 0, cells := 6, slots := 32, locals := 0 } : Room).cells ({ frames := 0, cells := 6, slots := 32, locals := 0 } : Room).slots (Q2_0 Z a1 ms h0 n0) s₁ (entryFrame m #[(.ref a1), (.int (0 : Int32))] 7)
  refine own_in (ef_2 m a1 (0 : Int32)) ?_
  have K0 := Keep.refl h0 []
  show GG _ _ _ _ _ _ _ s₁ (mkF m 0 #[.val (.ref a1), .val (.int (0 : Int32)), .unset, .unset, .unset, .unset, .unset] [])
  refine own_go (fun _ => XS.iloadN X0.here hx rfl (hb hby d2_0) rfl) ?_
  show GG _ _ _ _ _ _ _ s₁ (mkF m 1 #[.val (.ref a1), .val (.int (0 : Int32)), .unset, .unset, .unset, .unset, .unset] [(.int (0 : Int32))])
  obtain ⟨T1, h1, ob1, g1, X1, e1, E1, V_ob1, E_ob1, st1⟩ := own_newarr X0 hx hZ (hw _ (List.mem_of_getElem? (i := 0) rfl)) e0 (g := (mkF m 1 #[.val (.ref a1), .val (.int (0 : Int32)), .unset, .unset, .unset, .unset, .unset] [(.int (0 : Int32))])) rfl (hb hby d2_1) rfl (by decide) (cap := 0) (by decide) (by decide) (by decide) (by decide) (ad := "[I") (by decide)
  have ne_a1_ob1 : a1 ≠ ob1 := Nat.ne_of_lt (Nat.lt_of_lt_of_le V_m.lt (Nat.le_of_eq g1.symm))
  have sz_ob1 : h0.size ≤ ob1 := Nat.le_trans K0.1 (Nat.le_of_eq g1.symm)
  have g_ob1 : n0 ≤ ob1 := Nat.le_trans Z0 sz_ob1
  have V_m := V_m.ext E1
  have K0 := K0.ext E1
  have V_ob1 : Arx Z h1 ob1 .int [] := V_ob1
  refine own_go (fun _ => st1 _) ?_
  show GG _ _ _ _ _ _ _ T1 (mkF m 3 #[.val (.ref a1), .val (.int (0 : Int32)), .unset, .unset, .unset, .unset, .unset] [(.ref ob1)])
  refine own_go (fun _ => XS.astoreN X1.here hx rfl (hb hby d2_3) rfl rfl (l' := #[.val (.ref a1), .val (.int (0 : Int32)), .val (.ref ob1), .unset, .unset, .unset, .unset]) rfl) ?_
  show GG _ _ _ _ _ _ _ T1 (mkF m 4 #[.val (.ref a1), .val (.int (0 : Int32)), .val (.ref ob1), .unset, .unset, .unset, .unset] [])
  refine own_go (fun _ => XS.aloadN X1.here hx rfl (hb hby d2_4) rfl rfl) ?_
  show GG _ _ _ _ _ _ _ T1 (mkF m 5 #[.val (.ref a1), .val (.int (0 : Int32)), .val (.ref ob1), .unset, .unset, .unset, .unset] [(.ref a1)])
  refine own_go (fun _ => XS.astoreN X1.here hx rfl (hb hby d2_5) rfl rfl (l' := #[.val (.ref a1), .val (.int (0 : Int32)), .val (.ref ob1), .val (.ref a1), .unset, .unset, .unset]) rfl) ?_
  show GG _ _ _ _ _ _ _ T1 (mkF m 6 #[.val (.ref a1), .val (.int (0 : Int32)), .val (.ref ob1), .val (.ref a1), .unset, .unset, .unset] [])
  refine own_go (fun _ => XS.aloadN X1.here hx rfl (hb hby d2_6) rfl rfl) ?_
  show GG _ _ _ _ _ _ _ T1 (mkF m 7 #[.val (.ref a1), .val (.int (0 : Int32)), .val (.ref ob1), .val (.ref a1), .unset, .unset, .unset] [(.ref a1)])
  refine own_go (fun _ => own_len X1 hx hZ e1 V_m (g := (mkF m 7 #[.val (.ref a1), .val (.int (0 : Int32)), .val (.ref ob1), .val (.ref a1), .unset, .unset, .unset] [(.ref a1)])) rfl rfl (hb hby d2_7) _) ?_
  show GG _ _ _ _ _ _ _ T1 (mkF m 8 #[.val (.ref a1), .val (.int (0 : Int32)), .val (.ref ob1), .val (.ref a1), .unset, .unset, .unset] [(.int (Int32.ofNat (ms.map Value.int).length))])
  generalize hy2 : (Int32.ofNat (ms.map Value.int).length) = y2
  have dy2 : y2.toInt = (ms.length : Nat) := by rw [← hy2, List.length_map]; exact own_ofNat (by omega)
  show GG _ _ _ _ _ _ _ T1 (mkF m 8 #[.val (.ref a1), .val (.int (0 : Int32)), .val (.ref ob1), .val (.ref a1), .unset, .unset, .unset] [(.int y2)])
  refine own_go (fun _ => XS.istore X1.here hx rfl (hb hby d2_8) rfl (l' := #[.val (.ref a1), .val (.int (0 : Int32)), .val (.ref ob1), .val (.ref a1), .val (.int y2), .unset, .unset]) rfl) ?_
  show GG _ _ _ _ _ _ _ T1 (mkF m 10 #[.val (.ref a1), .val (.int (0 : Int32)), .val (.ref ob1), .val (.ref a1), .val (.int y2), .unset, .unset] [])
  refine own_go (fun _ => XS.iconst X1.here hx rfl (hb hby d2_10)) ?_
  show GG _ _ _ _ _ _ _ T1 (mkF m 11 #[.val (.ref a1), .val (.int (0 : Int32)), .val (.ref ob1), .val (.ref a1), .val (.int y2), .unset, .unset] [(.int (0 : Int32))])
  refine own_go (fun _ => XS.istore X1.here hx rfl (hb hby d2_11) rfl (l' := #[.val (.ref a1), .val (.int (0 : Int32)), .val (.ref ob1), .val (.ref a1), .val (.int y2), .val (.int (0 : Int32)), .unset]) rfl) ?_
  show GG _ _ _ _ _ _ _ T1 (mkF m 13 #[.val (.ref a1), .val (.int (0 : Int32)), .val (.ref ob1), .val (.ref a1), .val (.int y2), .val (.int (0 : Int32)), .unset] [])
  have loop3 : ∀ (k : Nat) (iN : Nat) (i : Int32) (s6 : Slot) (TL : State) (hL : Heap) (lL : List Loc) (XL : Stand p l e ({ frames := 0, cells := 6, slots := 32, locals := 0 } : Room) s m #[(.ref a1), (.int (0 : Int32))] below meth c TL lL 1 0) (eL : TL.heap = hL) (NL : Fr n0 lL) (hi : i.toInt = iN) (hk : iN + k = ms.length) (hs6 : s6 = .unset ∨ ∃ w, s6 = .val w ∧ w.category = 1) (V_m : Arx Z hL a1 .int (ms.map Value.int)) (V_c : Arx Z hL ob1 .int []) (K0 : Keep h0 hL []), GG p e below s 6 32 (Q2_0 Z a1 ms h0 n0) TL (mkF m 13 #[.val (.ref a1), .val (.int (0 : Int32)), .val (.ref ob1), .val (.ref a1), .val (.int y2), .val (.int i), s6] []) := by
    intro k
    induction k with
    | zero =>
      intro iN i s6 TL hL lL XL eL NL hi hk hs6 V_m V_c K0
      obtain rfl : iN = ms.length := by omega
      show GG _ _ _ _ _ _ _ TL (mkF m 13 #[.val (.ref a1), .val (.int (0 : Int32)), .val (.ref ob1), .val (.ref a1), .val (.int y2), .val (.int i), s6] [])
      refine own_go (fun _ => XS.iload XL.here hx rfl (hb hby d2_13) rfl) ?_
      show GG _ _ _ _ _ _ _ TL (mkF m 15 #[.val (.ref a1), .val (.int (0 : Int32)), .val (.ref ob1), .val (.ref a1), .val (.int y2), .val (.int i), s6] [(.int i)])
      refine own_go (fun _ => XS.iload XL.here hx rfl (hb hby d2_15) rfl) ?_
      show GG _ _ _ _ _ _ _ TL (mkF m 17 #[.val (.ref a1), .val (.int (0 : Int32)), .val (.ref ob1), .val (.ref a1), .val (.int y2), .val (.int i), s6] [(.int y2), (.int i)])
      have hc17 : ¬ (i < y2) := (fun q => absurd (Int32.lt_iff_toInt_lt.mp q) ((by show ¬ (i.toInt < y2.toInt); omega : ¬ (i.toInt < y2.toInt))))
      refine own_go (fun _ => XS.icmpYes XL.here hx rfl (pc0 := 17) (pc' := 45) rfl (hb hby d2_17) rfl (flt hc17).2.1 (by decide) (by decide)) ?_
      show GG _ _ _ _ _ _ _ TL (mkF m 45 #[.val (.ref a1), .val (.int (0 : Int32)), .val (.ref ob1), .val (.ref a1), .val (.int y2), .val (.int i), s6] [])
      refine own_go (fun _ => XS.iloadN XL.here hx rfl (hb hby d2_45) rfl) ?_
      show GG _ _ _ _ _ _ _ TL (mkF m 46 #[.val (.ref a1), .val (.int (0 : Int32)), .val (.ref ob1), .val (.ref a1), .val (.int y2), .val (.int i), s6] [(.int (0 : Int32))])
      obtain ⟨T4, h4, ob4, g4, X4, e4, E4, V_ob4, E_ob4, st4⟩ := own_newRA XL hx hZ hown (hw _ (List.mem_of_getElem? (i := 10) rfl)) (hw _ (List.mem_of_getElem? (i := 11) rfl)) eL (g := (mkF m 46 #[.val (.ref a1), .val (.int (0 : Int32)), .val (.ref ob1), .val (.ref a1), .val (.int y2), .val (.int i), s6] [(.int (0 : Int32))])) rfl (hb hby d2_46) rfl (by decide) (cap := 0) (by decide) (by decide) (by decide) (by decide)
      have ne_a1_ob4 : a1 ≠ ob4 := Nat.ne_of_lt (Nat.lt_of_lt_of_le V_m.lt (Nat.le_of_eq g4.symm))
      have ne_ob1_ob4 : ob1 ≠ ob4 := Nat.ne_of_lt (Nat.lt_of_lt_of_le V_c.lt (Nat.le_of_eq g4.symm))
      have sz_ob4 : h0.size ≤ ob4 := Nat.le_trans K0.1 (Nat.le_of_eq g4.symm)
      have g_ob4 : n0 ≤ ob4 := Nat.le_trans Z0 sz_ob4
      have V_m := V_m.ext E4
      have V_c := V_c.ext E4
      have K0 := K0.ext E4
      have V_ob4 : Ary Z h4 ob4 [] := V_ob4
      refine own_go (fun _ => st4 _) ?_
      show GG _ _ _ _ _ _ _ T4 (mkF m 49 #[.val (.ref a1), .val (.int (0 : Int32)), .val (.ref ob1), .val (.ref a1), .val (.int y2), .val (.int i), s6] [(.ref ob4)])
      refine own_go (fun _ => XS.astoreN X4.here hx rfl (hb hby d2_49) rfl rfl (l' := #[.val (.ref a1), .val (.int (0 : Int32)), .val (.ref ob1), .val (.ref ob4), .val (.int y2), .val (.int i), s6]) rfl) ?_
      show GG _ _ _ _ _ _ _ T4 (mkF m 50 #[.val (.ref a1), .val (.int (0 : Int32)), .val (.ref ob1), .val (.ref ob4), .val (.int y2), .val (.int i), s6] [])
      refine own_go (fun _ => XS.iconst X4.here hx rfl (hb hby d2_50)) ?_
      show GG _ _ _ _ _ _ _ T4 (mkF m 51 #[.val (.ref a1), .val (.int (0 : Int32)), .val (.ref ob1), .val (.ref ob4), .val (.int y2), .val (.int i), s6] [(.int (0 : Int32))])
      refine own_go (fun _ => XS.istore X4.here hx rfl (hb hby d2_51) rfl (l' := #[.val (.ref a1), .val (.int (0 : Int32)), .val (.ref ob1), .val (.ref ob4), .val (.int (0 : Int32)), .val (.int i), s6]) rfl) ?_
      show GG _ _ _ _ _ _ _ T4 (mkF m 53 #[.val (.ref a1), .val (.int (0 : Int32)), .val (.ref ob1), .val (.ref ob4), .val (.int (0 : Int32)), .val (.int i), s6] [])
      refine own_go (fun _ => XS.iload X4.here hx rfl (hb hby d2_53) rfl) ?_
      show GG _ _ _ _ _ _ _ T4 (mkF m 55 #[.val (.ref a1), .val (.int (0 : Int32)), .val (.ref ob1), .val (.ref ob4), .val (.int (0 : Int32)), .val (.int i), s6] [(.int (0 : Int32))])
      refine own_go (fun _ => XS.iloadN X4.here hx rfl (hb hby d2_55) rfl) ?_
      show GG _ _ _ _ _ _ _ T4 (mkF m 56 #[.val (.ref a1), .val (.int (0 : Int32)), .val (.ref ob1), .val (.ref ob4), .val (.int (0 : Int32)), .val (.int i), s6] [(.int (0 : Int32)), (.int (0 : Int32))])
      have hc56 : ¬ ((0 : Int32) < (0 : Int32)) := by decide
      refine own_go (fun _ => XS.icmpYes X4.here hx rfl (pc0 := 56) (pc' := 80) rfl (hb hby d2_56) rfl (flt hc56).2.1 (by decide) (by decide)) ?_
      show GG _ _ _ _ _ _ _ T4 (mkF m 80 #[.val (.ref a1), .val (.int (0 : Int32)), .val (.ref ob1), .val (.ref ob4), .val (.int (0 : Int32)), .val (.int i), s6] [])
      refine own_go (fun _ => XS.iconst X4.here hx rfl (hb hby d2_80)) ?_
      show GG _ _ _ _ _ _ _ T4 (mkF m 81 #[.val (.ref a1), .val (.int (0 : Int32)), .val (.ref ob1), .val (.ref ob4), .val (.int (0 : Int32)), .val (.int i), s6] [(.int (0 : Int32))])
      refine own_go (fun _ => XS.istore X4.here hx rfl (hb hby d2_81) rfl (l' := #[.val (.ref a1), .val (.int (0 : Int32)), .val (.ref ob1), .val (.ref ob4), .val (.int (0 : Int32)), .val (.int i), s6]) rfl) ?_
      show GG _ _ _ _ _ _ _ T4 (mkF m 83 #[.val (.ref a1), .val (.int (0 : Int32)), .val (.ref ob1), .val (.ref ob4), .val (.int (0 : Int32)), .val (.int i), s6] [])
      have V_r := V_ob4.arx
      have loop5 : ∀ (k : Nat) (iN : Nat) (i t5 : Int32) (TL : State) (hL : Heap) (lL : List Loc) (XL : Stand p l e ({ frames := 0, cells := 6, slots := 32, locals := 0 } : Room) s m #[(.ref a1), (.int (0 : Int32))] below meth c TL lL 2 0) (eL : TL.heap = hL) (NL : Fr n0 lL) (hi : i.toInt = iN) (hk : iN + k = ms.length) (V_m : Arx Z hL a1 .int (ms.map Value.int)) (V_c : Arx Z hL ob1 .int []) (V_r : Arx Z hL ob4 (.array .int) []) (K0 : Keep h0 hL []), GG p e below s 6 32 (Q2_0 Z a1 ms h0 n0) TL (mkF m 83 #[.val (.ref a1), .val (.int (0 : Int32)), .val (.ref ob1), .val (.ref ob4), .val (.int i), .val (.int t5), s6] []) := by
        intro k
        induction k with
        | zero =>
          intro iN i t5 TL hL lL XL eL NL hi hk V_m V_c V_r K0
          obtain rfl : iN = ms.length := by omega
          show GG _ _ _ _ _ _ _ TL (mkF m 83 #[.val (.ref a1), .val (.int (0 : Int32)), .val (.ref ob1), .val (.ref ob4), .val (.int i), .val (.int t5), s6] [])
          refine own_go (fun _ => XS.iload XL.here hx rfl (hb hby d2_83) rfl) ?_
          show GG _ _ _ _ _ _ _ TL (mkF m 85 #[.val (.ref a1), .val (.int (0 : Int32)), .val (.ref ob1), .val (.ref ob4), .val (.int i), .val (.int t5), s6] [(.int i)])
          refine own_go (fun _ => XS.aloadN XL.here hx rfl (hb hby d2_85) rfl rfl) ?_
          show GG _ _ _ _ _ _ _ TL (mkF m 86 #[.val (.ref a1), .val (.int (0 : Int32)), .val (.ref ob1), .val (.ref ob4), .val (.int i), .val (.int t5), s6] [(.ref a1), (.int i)])
          refine own_go (fun _ => own_len XL hx hZ eL V_m (g := (mkF m 86 #[.val (.ref a1), .val (.int (0 : Int32)), .val (.ref ob1), .val (.ref ob4), .val (.int i), .val (.int t5), s6] [(.ref a1), (.int i)])) rfl rfl (hb hby d2_86) _) ?_
          show GG _ _ _ _ _ _ _ TL (mkF m 87 #[.val (.ref a1), .val (.int (0 : Int32)), .val (.ref ob1), .val (.ref ob4), .val (.int i), .val (.int t5), s6] [(.int (Int32.ofNat (ms.map Value.int).length)), (.int i)])
          generalize hy6 : (Int32.ofNat (ms.map Value.int).length) = y6
          have dy6 : y6.toInt = (ms.length : Nat) := by rw [← hy6, List.length_map]; exact own_ofNat (by omega)
          show GG _ _ _ _ _ _ _ TL (mkF m 87 #[.val (.ref a1), .val (.int (0 : Int32)), .val (.ref ob1), .val (.ref ob4), .val (.int i), .val (.int t5), s6] [(.int y6), (.int i)])
          have hc87 : ¬ (i < y6) := (fun q => absurd (Int32.lt_iff_toInt_lt.mp q) ((by show ¬ (i.toInt < y6.toInt); omega : ¬ (i.toInt < y6.toInt))))
          refine own_go (fun _ => XS.icmpYes XL.here hx rfl (pc0 := 87) (pc' := 123) rfl (hb hby d2_87) rfl (flt hc87).2.1 (by decide) (by decide)) ?_
          show GG _ _ _ _ _ _ _ TL (mkF m 123 #[.val (.ref a1), .val (.int (0 : Int32)), .val (.ref ob1), .val (.ref ob4), .val (.int i), .val (.int t5), s6] [])
          refine own_go (fun _ => XS.aloadN XL.here hx rfl (hb hby d2_123) rfl rfl) ?_
          show GG _ _ _ _ _ _ _ TL (mkF m 124 #[.val (.ref a1), .val (.int (0 : Int32)), .val (.ref ob1), .val (.ref ob4), .val (.int i), .val (.int t5), s6] [(.ref ob4)])
          refine own_ret XL hx hlk (t := (.array (.array .int))) (w := (.ref ob4)) Bd.returns rfl (Or.inr (Or.inr (Or.inr (Or.inr ⟨rfl, rfl, rfl⟩)))) (hb hby d2_124) (by decide) (by decide) ?_
          show Q2_0 Z a1 ms h0 n0 (some (.ref ob4)) TL.heap _
          rw [eL]
          exact ⟨_, [], rfl, NL, K0, V_r, rfl, fun c hc => by
            exact absurd hc (Nat.not_lt_zero c)⟩
        | succ k ih =>
          intro iN i t5 TL hL lL XL eL NL hi hk V_m V_c V_r K0
          have ri := rng32 i
          have hii : i = Int32.ofNat iN := by rw [← Int32.toInt_inj, own_ofNat (by omega), hi]
          obtain ⟨y, hy⟩ : ∃ y, ms[iN]? = some y := ⟨_, List.getElem?_eq_getElem (show iN < ms.length by omega)⟩
          have hyr := hG iN y hy
          show GG _ _ _ _ _ _ _ TL (mkF m 83 #[.val (.ref a1), .val (.int (0 : Int32)), .val (.ref ob1), .val (.ref ob4), .val (.int i), .val (.int t5), s6] [])
          refine own_go (fun _ => XS.iload XL.here hx rfl (hb hby d2_83) rfl) ?_
          show GG _ _ _ _ _ _ _ TL (mkF m 85 #[.val (.ref a1), .val (.int (0 : Int32)), .val (.ref ob1), .val (.ref ob4), .val (.int i), .val (.int t5), s6] [(.int i)])
          refine own_go (fun _ => XS.aloadN XL.here hx rfl (hb hby d2_85) rfl rfl) ?_
          show GG _ _ _ _ _ _ _ TL (mkF m 86 #[.val (.ref a1), .val (.int (0 : Int32)), .val (.ref ob1), .val (.ref ob4), .val (.int i), .val (.int t5), s6] [(.ref a1), (.int i)])
          refine own_go (fun _ => own_len XL hx hZ eL V_m (g := (mkF m 86 #[.val (.ref a1), .val (.int (0 : Int32)), .val (.ref ob1), .val (.ref ob4), .val (.int i), .val (.int t5), s6] [(.ref a1), (.int i)])) rfl rfl (hb hby d2_86) _) ?_
          show GG _ _ _ _ _ _ _ TL (mkF m 87 #[.val (.ref a1), .val (.int (0 : Int32)), .val (.ref ob1), .val (.ref ob4), .val (.int i), .val (.int t5), s6] [(.int (Int32.ofNat (ms.map Value.int).length)), (.int i)])
          generalize hy7 : (Int32.ofNat (ms.map Value.int).length) = y7
          have dy7 : y7.toInt = (ms.length : Nat) := by rw [← hy7, List.length_map]; exact own_ofNat (by omega)
          show GG _ _ _ _ _ _ _ TL (mkF m 87 #[.val (.ref a1), .val (.int (0 : Int32)), .val (.ref ob1), .val (.ref ob4), .val (.int i), .val (.int t5), s6] [(.int y7), (.int i)])
          have hc87 : i < y7 := (Int32.lt_iff_toInt_lt.mpr ((by show (i.toInt < y7.toInt); omega : (i.toInt < y7.toInt))))
          refine own_go (fun _ => XS.icmpNo XL.here hx rfl (hb hby d2_87) rfl (tlt hc87).2.1) ?_
          show GG _ _ _ _ _ _ _ TL (mkF m 90 #[.val (.ref a1), .val (.int (0 : Int32)), .val (.ref ob1), .val (.ref ob4), .val (.int i), .val (.int t5), s6] [])
          refine own_go (fun _ => XS.aloadN XL.here hx rfl (hb hby d2_90) rfl rfl) ?_
          show GG _ _ _ _ _ _ _ TL (mkF m 91 #[.val (.ref a1), .val (.int (0 : Int32)), .val (.ref ob1), .val (.ref ob4), .val (.int i), .val (.int t5), s6] [(.ref a1)])
          refine own_go (fun _ => XS.iload XL.here hx rfl (hb hby d2_91) rfl) ?_
          show GG _ _ _ _ _ _ _ TL (mkF m 93 #[.val (.ref a1), .val (.int (0 : Int32)), .val (.ref ob1), .val (.ref ob4), .val (.int i), .val (.int t5), s6] [(.int i), (.ref a1)])
          refine own_go (fun _ => own_iaload XL hx hZ eL V_m (j := i) (v := (.int y)) (own_nn (by omega)) (own_mget hi hy) (g := (mkF m 93 #[.val (.ref a1), .val (.int (0 : Int32)), .val (.ref ob1), .val (.ref ob4), .val (.int i), .val (.int t5), s6] [(.int i), (.ref a1)])) rfl rfl (hb hby d2_93) _) ?_
          show GG _ _ _ _ _ _ _ TL (mkF m 94 #[.val (.ref a1), .val (.int (0 : Int32)), .val (.ref ob1), .val (.ref ob4), .val (.int i), .val (.int t5), s6] [(.int y)])
          refine own_go (fun _ => XS.istore XL.here hx rfl (hb hby d2_94) rfl (l' := #[.val (.ref a1), .val (.int (0 : Int32)), .val (.ref ob1), .val (.ref ob4), .val (.int i), .val (.int y), s6]) rfl) ?_
          show GG _ _ _ _ _ _ _ TL (mkF m 96 #[.val (.ref a1), .val (.int (0 : Int32)), .val (.ref ob1), .val (.ref ob4), .val (.int i), .val (.int y), s6] [])
          refine own_go (fun _ => XS.iload XL.here hx rfl (hb hby d2_96) rfl) ?_
          show GG _ _ _ _ _ _ _ TL (mkF m 98 #[.val (.ref a1), .val (.int (0 : Int32)), .val (.ref ob1), .val (.ref ob4), .val (.int i), .val (.int y), s6] [(.int y)])
          by_cases hneg : y.toInt < 0
          · skip
            have hc98 : y < (0 : Int32) := (Int32.lt_iff_toInt_lt.mpr ((by show (y.toInt < 0); omega : (y.toInt < 0))))
            refine own_go (fun _ => XS.ifYes XL.here hx rfl (pc0 := 98) (pc' := 117) rfl (hb hby d2_98) rfl ((if0 _ _).trans (tlt hc98).1) (by decide) (by decide)) ?_
            show GG _ _ _ _ _ _ _ TL (mkF m 117 #[.val (.ref a1), .val (.int (0 : Int32)), .val (.ref ob1), .val (.ref ob4), .val (.int i), .val (.int y), s6] [])
            refine own_go (fun _ => XS.iinc XL.here hx rfl (hb hby d2_117) rfl (l' := #[.val (.ref a1), .val (.int (0 : Int32)), .val (.ref ob1), .val (.ref ob4), .val (.int (i + (1 : Int32))), .val (.int y), s6]) rfl) ?_
            show GG _ _ _ _ _ _ _ TL (mkF m 120 #[.val (.ref a1), .val (.int (0 : Int32)), .val (.ref ob1), .val (.ref ob4), .val (.int (i + (1 : Int32))), .val (.int y), s6] [])
            have cx8 := c_iadd i (1 : Int32)
            simp only [show ((1 : Int32)).toInt = 1 from by decide] at cx8
            generalize hx8 : (i + (1 : Int32)) = x8 at cx8 ⊢
            have rx8 := rng32 x8
            have dx8 : x8.toInt = i.toInt + 1 := by omega
            clear cx8
            refine own_go (fun _ => XS.goto XL.here hx rfl (pc0 := 120) (pc' := 83) rfl (hb hby d2_120) (by decide) (by decide)) ?_
            show GG _ _ _ _ _ _ _ TL (mkF m 83 #[.val (.ref a1), .val (.int (0 : Int32)), .val (.ref ob1), .val (.ref ob4), .val (.int x8), .val (.int y), s6] [])
            have Vn : Arx Z hL ob1 .int [] := by exact V_c
            exact ih (iN + 1) x8 y  TL _ _ XL eL NL (by omega) (by omega) V_m Vn V_r  K0
          · skip
            exact absurd hyr (by omega)
      exact loop5 ms.length 0 (0 : Int32) i  T4 h4 _ X4 e4 NL (by decide) (by omega) V_m V_c V_r  K0
    | succ k ih =>
      intro iN i s6 TL hL lL XL eL NL hi hk hs6 V_m V_c K0
      have ri := rng32 i
      obtain ⟨y, hy⟩ : ∃ y, ms[iN]? = some y := ⟨_, List.getElem?_eq_getElem (show iN < ms.length by omega)⟩
      have hyr := hG iN y hy
      show GG _ _ _ _ _ _ _ TL (mkF m 13 #[.val (.ref a1), .val (.int (0 : Int32)), .val (.ref ob1), .val (.ref a1), .val (.int y2), .val (.int i), s6] [])
      refine own_go (fun _ => XS.iload XL.here hx rfl (hb hby d2_13) rfl) ?_
      show GG _ _ _ _ _ _ _ TL (mkF m 15 #[.val (.ref a1), .val (.int (0 : Int32)), .val (.ref ob1), .val (.ref a1), .val (.int y2), .val (.int i), s6] [(.int i)])
      refine own_go (fun _ => XS.iload XL.here hx rfl (hb hby d2_15) rfl) ?_
      show GG _ _ _ _ _ _ _ TL (mkF m 17 #[.val (.ref a1), .val (.int (0 : Int32)), .val (.ref ob1), .val (.ref a1), .val (.int y2), .val (.int i), s6] [(.int y2), (.int i)])
      have hc17 : i < y2 := (Int32.lt_iff_toInt_lt.mpr ((by show (i.toInt < y2.toInt); omega : (i.toInt < y2.toInt))))
      refine own_go (fun _ => XS.icmpNo XL.here hx rfl (hb hby d2_17) rfl (tlt hc17).2.1) ?_
      show GG _ _ _ _ _ _ _ TL (mkF m 20 #[.val (.ref a1), .val (.int (0 : Int32)), .val (.ref ob1), .val (.ref a1), .val (.int y2), .val (.int i), s6] [])
      refine own_go (fun _ => XS.aloadN XL.here hx rfl (hb hby d2_20) rfl rfl) ?_
      show GG _ _ _ _ _ _ _ TL (mkF m 21 #[.val (.ref a1), .val (.int (0 : Int32)), .val (.ref ob1), .val (.ref a1), .val (.int y2), .val (.int i), s6] [(.ref a1)])
      refine own_go (fun _ => XS.iload XL.here hx rfl (hb hby d2_21) rfl) ?_
      show GG _ _ _ _ _ _ _ TL (mkF m 23 #[.val (.ref a1), .val (.int (0 : Int32)), .val (.ref ob1), .val (.ref a1), .val (.int y2), .val (.int i), s6] [(.int i), (.ref a1)])
      refine own_go (fun _ => own_iaload XL hx hZ eL V_m (j := i) (v := (.int y)) (own_nn (by omega)) (own_mget hi hy) (g := (mkF m 23 #[.val (.ref a1), .val (.int (0 : Int32)), .val (.ref ob1), .val (.ref a1), .val (.int y2), .val (.int i), s6] [(.int i), (.ref a1)])) rfl rfl (hb hby d2_23) _) ?_
      show GG _ _ _ _ _ _ _ TL (mkF m 24 #[.val (.ref a1), .val (.int (0 : Int32)), .val (.ref ob1), .val (.ref a1), .val (.int y2), .val (.int i), s6] [(.int y)])
      refine own_go (fun _ => XS.istore XL.here hx rfl (hb hby d2_24) rfl (l' := #[.val (.ref a1), .val (.int (0 : Int32)), .val (.ref ob1), .val (.ref a1), .val (.int y2), .val (.int i), .val (.int y)]) (XS.store1 (o := s6) rfl hs6 rfl)) ?_
      show GG _ _ _ _ _ _ _ TL (mkF m 26 #[.val (.ref a1), .val (.int (0 : Int32)), .val (.ref ob1), .val (.ref a1), .val (.int y2), .val (.int i), .val (.int y)] [])
      refine own_go (fun _ => XS.iload XL.here hx rfl (hb hby d2_26) rfl) ?_
      show GG _ _ _ _ _ _ _ TL (mkF m 28 #[.val (.ref a1), .val (.int (0 : Int32)), .val (.ref ob1), .val (.ref a1), .val (.int y2), .val (.int i), .val (.int y)] [(.int y)])
      by_cases hneg : y.toInt < 0
      · skip
        have hc28 : y < (0 : Int32) := (Int32.lt_iff_toInt_lt.mpr ((by show (y.toInt < 0); omega : (y.toInt < 0))))
        refine own_go (fun _ => XS.ifYes XL.here hx rfl (pc0 := 28) (pc' := 39) rfl (hb hby d2_28) rfl ((if0 _ _).trans (tlt hc28).1) (by decide) (by decide)) ?_
        show GG _ _ _ _ _ _ _ TL (mkF m 39 #[.val (.ref a1), .val (.int (0 : Int32)), .val (.ref ob1), .val (.ref a1), .val (.int y2), .val (.int i), .val (.int y)] [])
        have ri' := rng32 i
        refine own_go (fun _ => XS.iinc XL.here hx rfl (hb hby d2_39) rfl (l' := #[.val (.ref a1), .val (.int (0 : Int32)), .val (.ref ob1), .val (.ref a1), .val (.int y2), .val (.int (i + (1 : Int32))), .val (.int y)]) rfl) ?_
        show GG _ _ _ _ _ _ _ TL (mkF m 42 #[.val (.ref a1), .val (.int (0 : Int32)), .val (.ref ob1), .val (.ref a1), .val (.int y2), .val (.int (i + (1 : Int32))), .val (.int y)] [])
        have cx9 := c_iadd i (1 : Int32)
        simp only [show ((1 : Int32)).toInt = 1 from by decide] at cx9
        generalize hx9 : (i + (1 : Int32)) = x9 at cx9 ⊢
        have rx9 := rng32 x9
        have dx9 : x9.toInt = i.toInt + 1 := by omega
        clear cx9
        refine own_go (fun _ => XS.goto XL.here hx rfl (pc0 := 42) (pc' := 13) rfl (hb hby d2_42) (by decide) (by decide)) ?_
        show GG _ _ _ _ _ _ _ TL (mkF m 13 #[.val (.ref a1), .val (.int (0 : Int32)), .val (.ref ob1), .val (.ref a1), .val (.int y2), .val (.int x9), .val (.int y)] [])
        have Vn : Arx Z hL ob1 .int [] := by exact V_c
        exact ih (iN + 1) x9 (.val (.int y)) TL _ _ XL eL NL (by omega) (by omega) (Or.inr ⟨_, rfl, rfl⟩) V_m Vn K0
      · skip
        exact absurd hyr (by omega)
  exact loop3 ms.length 0 (0 : Int32) .unset T1 h1 _ X1 e1 N0 (by decide) (by omega) (Or.inl rfl) V_m V_ob1 K0
theorem d2_31 : decode prog_2_method_3_code 31 = .ok (.aload_n 2, 1) := by decide +kernel
theorem d2_32 : decode prog_2_method_3_code 32 = .ok (.iload 6, 2) := by decide +kernel
theorem d2_34 : decode prog_2_method_3_code 34 = .ok (.dup2, 1) := by decide +kernel
theorem d2_35 : decode prog_2_method_3_code 35 = .ok (.iaload, 1) := by decide +kernel
theorem d2_36 : decode prog_2_method_3_code 36 = .ok (.iconst 1, 1) := by decide +kernel
theorem d2_37 : decode prog_2_method_3_code 37 = .ok (.iadd, 1) := by decide +kernel
theorem d2_38 : decode prog_2_method_3_code 38 = .ok (.iastore, 1) := by decide +kernel
theorem d2_59 : decode prog_2_method_3_code 59 = .ok (.aload_n 3, 1) := by decide +kernel
theorem d2_60 : decode prog_2_method_3_code 60 = .ok (.iload 4, 2) := by decide +kernel
theorem d2_62 : decode prog_2_method_3_code 62 = .ok (.aload_n 2, 1) := by decide +kernel
theorem d2_63 : decode prog_2_method_3_code 63 = .ok (.iload 4, 2) := by decide +kernel
theorem d2_65 : decode prog_2_method_3_code 65 = .ok (.iaload, 1) := by decide +kernel
theorem d2_66 : decode prog_2_method_3_code 66 = .ok (.newarray .int, 2) := by decide +kernel
theorem d2_68 : decode prog_2_method_3_code 68 = .ok (.aastore, 1) := by decide +kernel
theorem d2_69 : decode prog_2_method_3_code 69 = .ok (.aload_n 2, 1) := by decide +kernel
theorem d2_70 : decode prog_2_method_3_code 70 = .ok (.iload 4, 2) := by decide +kernel
theorem d2_72 : decode prog_2_method_3_code 72 = .ok (.iconst 0, 1) := by decide +kernel
theorem d2_73 : decode prog_2_method_3_code 73 = .ok (.iastore, 1) := by decide +kernel
theorem d2_74 : decode prog_2_method_3_code 74 = .ok (.iinc 4 1, 3) := by decide +kernel
theorem d2_77 : decode prog_2_method_3_code 77 = .ok (.goto (-24), 3) := by decide +kernel
theorem d2_101 : decode prog_2_method_3_code 101 = .ok (.aload_n 3, 1) := by decide +kernel
theorem d2_102 : decode prog_2_method_3_code 102 = .ok (.iload 5, 2) := by decide +kernel
theorem d2_104 : decode prog_2_method_3_code 104 = .ok (.aaload, 1) := by decide +kernel
theorem d2_105 : decode prog_2_method_3_code 105 = .ok (.aload_n 2, 1) := by decide +kernel
theorem d2_106 : decode prog_2_method_3_code 106 = .ok (.iload 5, 2) := by decide +kernel
theorem d2_108 : decode prog_2_method_3_code 108 = .ok (.dup2, 1) := by decide +kernel
theorem d2_109 : decode prog_2_method_3_code 109 = .ok (.iaload, 1) := by decide +kernel
theorem d2_110 : decode prog_2_method_3_code 110 = .ok (.dup_x2, 1) := by decide +kernel
theorem d2_111 : decode prog_2_method_3_code 111 = .ok (.iconst 1, 1) := by decide +kernel
theorem d2_112 : decode prog_2_method_3_code 112 = .ok (.iadd, 1) := by decide +kernel
theorem d2_113 : decode prog_2_method_3_code 113 = .ok (.iastore, 1) := by decide +kernel
theorem d2_114 : decode prog_2_method_3_code 114 = .ok (.iload 4, 2) := by decide +kernel
theorem d2_116 : decode prog_2_method_3_code 116 = .ok (.iastore, 1) := by decide +kernel
def Q2_1 (Z : State) (a1 : Addr) (ms : List Int32) (h0 : Heap) (n0 : Nat) (v : Option Value) (h : Heap) (L : List Loc) : Prop := ∃ b rs, v = some (.ref b) ∧ Fr n0 L ∧ Keep h0 h [] ∧ Arx Z h b (.array .int) (rs.map Value.ref) ∧ rs.length = 1 ∧ Rows Z h ms rs
set_option maxRecDepth 65536 in
set_option maxHeartbeats 40000000 in
theorem rm2_1 (l : Launch) (Z : State) (a0 : Array Value) (hw : ∀ d ∈ tables_1, d.before a0 Z = true) (ws : List Jvm.Cond) (a1 : Addr) (ms : List Int32) (h0 : Heap) (n0 : Nat) (Z0 : n0 ≤ h0.size) (V_m : Arx Z h0 a1 .int (ms.map Value.int)) (hn6 : ms.length ≤ 6) (hG : ∀ (j : Nat) (y : Int32), ms[j]? = some y → -1 ≤ y.toInt ∧ y.toInt < 1) :
    own_CT l Z (⟨"com/example/deft_shards/deftshards/cluster/KMeans", "members", "([II)[[I"⟩ : MethodName) prog_2_method_3_code 7 (some (.array (.array .int))) ws ({ frames := 0, cells := 6, slots := 32, locals := 0 } : Room) #[(.ref a1), (.int (1 : Int32))] h0 (Q2_1 Z a1 ms h0 n0) := by
  refine MetFree.of_bodySF (plainFor_of_name pn_com_example_deft_shards_deftshards_cluster_KMeans) hisR ?_
  intro p e s m args below meth c s₁ Bd hml0 hP hK
  obtain ⟨rfl, hZ, hh⟩ := hP
  have hx := Bd.exec
  have hby := Bd.bytes
  have hml : c.maxLocals = 7 := hml0
  have hown : s.vm.findClass "com/example/deft_shards/deftshards/cluster/KMeans" = some m.cls := findClass_of_methodNamed Bd.named
  have hnm := (name_of_methodNamed Bd.named Bd.method).1
  have hlk : meth.locks = false := BodyLoose.notSynchronized Bd
  have X0 : Stand p l e ({ frames := 0, cells := 6, slots := 32, locals := 0 } : Room) s m #[(.ref a1), (.int (1 : Int32))] below meth c s₁ [] 0 0 := Stand.of_body Bd
  have e0 : s₁.heap = h0 := by rw [← hh, Bd.state]; rfl
  have N0 := Fr.nil n0
  show GG p e below s ({ frames := 0, cells := 6, slots := 32, locals := 0 } : Room).cells ({ frames := 0, cells := 6, slots := 32, locals := 0 } : Room).slots (Q2_1 Z a1 ms h0 n0) s₁ (entryFrame m #[(.ref a1), (.int (1 : Int32))] 7)
  refine own_in (ef_2 m a1 (1 : Int32)) ?_
  have K0 := Keep.refl h0 []
  show GG _ _ _ _ _ _ _ s₁ (mkF m 0 #[.val (.ref a1), .val (.int (1 : Int32)), .unset, .unset, .unset, .unset, .unset] [])
  refine own_go (fun _ => XS.iloadN X0.here hx rfl (hb hby d2_0) rfl) ?_
  show GG _ _ _ _ _ _ _ s₁ (mkF m 1 #[.val (.ref a1), .val (.int (1 : Int32)), .unset, .unset, .unset, .unset, .unset] [(.int (1 : Int32))])
  obtain ⟨T1, h1, ob1, g1, X1, e1, E1, V_ob1, E_ob1, st1⟩ := own_newarr X0 hx hZ (hw _ (List.mem_of_getElem? (i := 0) rfl)) e0 (g := (mkF m 1 #[.val (.ref a1), .val (.int (1 : Int32)), .unset, .unset, .unset, .unset, .unset] [(.int (1 : Int32))])) rfl (hb hby d2_1) rfl (by decide) (cap := 1) (by decide) (by decide) (by decide) (by decide) (ad := "[I") (by decide)
  have ne_a1_ob1 : a1 ≠ ob1 := Nat.ne_of_lt (Nat.lt_of_lt_of_le V_m.lt (Nat.le_of_eq g1.symm))
  have sz_ob1 : h0.size ≤ ob1 := Nat.le_trans K0.1 (Nat.le_of_eq g1.symm)
  have g_ob1 : n0 ≤ ob1 := Nat.le_trans Z0 sz_ob1
  have V_m := V_m.ext E1
  have K0 := K0.ext E1
  have V_ob1 : Arx Z h1 ob1 .int [(.int (0 : Int32))] := V_ob1
  refine own_go (fun _ => st1 _) ?_
  show GG _ _ _ _ _ _ _ T1 (mkF m 3 #[.val (.ref a1), .val (.int (1 : Int32)), .unset, .unset, .unset, .unset, .unset] [(.ref ob1)])
  refine own_go (fun _ => XS.astoreN X1.here hx rfl (hb hby d2_3) rfl rfl (l' := #[.val (.ref a1), .val (.int (1 : Int32)), .val (.ref ob1), .unset, .unset, .unset, .unset]) rfl) ?_
  show GG _ _ _ _ _ _ _ T1 (mkF m 4 #[.val (.ref a1), .val (.int (1 : Int32)), .val (.ref ob1), .unset, .unset, .unset, .unset] [])
  refine own_go (fun _ => XS.aloadN X1.here hx rfl (hb hby d2_4) rfl rfl) ?_
  show GG _ _ _ _ _ _ _ T1 (mkF m 5 #[.val (.ref a1), .val (.int (1 : Int32)), .val (.ref ob1), .unset, .unset, .unset, .unset] [(.ref a1)])
  refine own_go (fun _ => XS.astoreN X1.here hx rfl (hb hby d2_5) rfl rfl (l' := #[.val (.ref a1), .val (.int (1 : Int32)), .val (.ref ob1), .val (.ref a1), .unset, .unset, .unset]) rfl) ?_
  show GG _ _ _ _ _ _ _ T1 (mkF m 6 #[.val (.ref a1), .val (.int (1 : Int32)), .val (.ref ob1), .val (.ref a1), .unset, .unset, .unset] [])
  refine own_go (fun _ => XS.aloadN X1.here hx rfl (hb hby d2_6) rfl rfl) ?_
  show GG _ _ _ _ _ _ _ T1 (mkF m 7 #[.val (.ref a1), .val (.int (1 : Int32)), .val (.ref ob1), .val (.ref a1), .unset, .unset, .unset] [(.ref a1)])
  refine own_go (fun _ => own_len X1 hx hZ e1 V_m (g := (mkF m 7 #[.val (.ref a1), .val (.int (1 : Int32)), .val (.ref ob1), .val (.ref a1), .unset, .unset, .unset] [(.ref a1)])) rfl rfl (hb hby d2_7) _) ?_
  show GG _ _ _ _ _ _ _ T1 (mkF m 8 #[.val (.ref a1), .val (.int (1 : Int32)), .val (.ref ob1), .val (.ref a1), .unset, .unset, .unset] [(.int (Int32.ofNat (ms.map Value.int).length))])
  generalize hy2 : (Int32.ofNat (ms.map Value.int).length) = y2
  have dy2 : y2.toInt = (ms.length : Nat) := by rw [← hy2, List.length_map]; exact own_ofNat (by omega)
  show GG _ _ _ _ _ _ _ T1 (mkF m 8 #[.val (.ref a1), .val (.int (1 : Int32)), .val (.ref ob1), .val (.ref a1), .unset, .unset, .unset] [(.int y2)])
  refine own_go (fun _ => XS.istore X1.here hx rfl (hb hby d2_8) rfl (l' := #[.val (.ref a1), .val (.int (1 : Int32)), .val (.ref ob1), .val (.ref a1), .val (.int y2), .unset, .unset]) rfl) ?_
  show GG _ _ _ _ _ _ _ T1 (mkF m 10 #[.val (.ref a1), .val (.int (1 : Int32)), .val (.ref ob1), .val (.ref a1), .val (.int y2), .unset, .unset] [])
  refine own_go (fun _ => XS.iconst X1.here hx rfl (hb hby d2_10)) ?_
  show GG _ _ _ _ _ _ _ T1 (mkF m 11 #[.val (.ref a1), .val (.int (1 : Int32)), .val (.ref ob1), .val (.ref a1), .val (.int y2), .unset, .unset] [(.int (0 : Int32))])
  refine own_go (fun _ => XS.istore X1.here hx rfl (hb hby d2_11) rfl (l' := #[.val (.ref a1), .val (.int (1 : Int32)), .val (.ref ob1), .val (.ref a1), .val (.int y2), .val (.int (0 : Int32)), .unset]) rfl) ?_
  show GG _ _ _ _ _ _ _ T1 (mkF m 13 #[.val (.ref a1), .val (.int (1 : Int32)), .val (.ref ob1), .val (.ref a1), .val (.int y2), .val (.int (0 : Int32)), .unset] [])
  have loop3 : ∀ (k : Nat) (iN : Nat) (i : Int32) (s6 : Slot) (TL : State) (hL : Heap) (lL : List Loc) (XL : Stand p l e ({ frames := 0, cells := 6, slots := 32, locals := 0 } : Room) s m #[(.ref a1), (.int (1 : Int32))] below meth c TL lL 1 1) (eL : TL.heap = hL) (NL : Fr n0 lL) (hi : i.toInt = iN) (hk : iN + k = ms.length) (hs6 : s6 = .unset ∨ ∃ w, s6 = .val w ∧ w.category = 1) (V_m : Arx Z hL a1 .int (ms.map Value.int)) (V_c : Arx Z hL ob1 .int [(.int (Int32.ofNat (cn ms (0 : Int32) iN)))]) (K0 : Keep h0 hL []), GG p e below s 6 32 (Q2_1 Z a1 ms h0 n0) TL (mkF m 13 #[.val (.ref a1), .val (.int (1 : Int32)), .val (.ref ob1), .val (.ref a1), .val (.int y2), .val (.int i), s6] []) := by
    intro k
    induction k with
    | zero =>
      intro iN i s6 TL hL lL XL eL NL hi hk hs6 V_m V_c K0
      obtain rfl : iN = ms.length := by omega
      show GG _ _ _ _ _ _ _ TL (mkF m 13 #[.val (.ref a1), .val (.int (1 : Int32)), .val (.ref ob1), .val (.ref a1), .val (.int y2), .val (.int i), s6] [])
      refine own_go (fun _ => XS.iload XL.here hx rfl (hb hby d2_13) rfl) ?_
      show GG _ _ _ _ _ _ _ TL (mkF m 15 #[.val (.ref a1), .val (.int (1 : Int32)), .val (.ref ob1), .val (.ref a1), .val (.int y2), .val (.int i), s6] [(.int i)])
      refine own_go (fun _ => XS.iload XL.here hx rfl (hb hby d2_15) rfl) ?_
      show GG _ _ _ _ _ _ _ TL (mkF m 17 #[.val (.ref a1), .val (.int (1 : Int32)), .val (.ref ob1), .val (.ref a1), .val (.int y2), .val (.int i), s6] [(.int y2), (.int i)])
      have hc17 : ¬ (i < y2) := (fun q => absurd (Int32.lt_iff_toInt_lt.mp q) ((by show ¬ (i.toInt < y2.toInt); omega : ¬ (i.toInt < y2.toInt))))
      refine own_go (fun _ => XS.icmpYes XL.here hx rfl (pc0 := 17) (pc' := 45) rfl (hb hby d2_17) rfl (flt hc17).2.1 (by decide) (by decide)) ?_
      show GG _ _ _ _ _ _ _ TL (mkF m 45 #[.val (.ref a1), .val (.int (1 : Int32)), .val (.ref ob1), .val (.ref a1), .val (.int y2), .val (.int i), s6] [])
      refine own_go (fun _ => XS.iloadN XL.here hx rfl (hb hby d2_45) rfl) ?_
      show GG _ _ _ _ _ _ _ TL (mkF m 46 #[.val (.ref a1), .val (.int (1 : Int32)), .val (.ref ob1), .val (.ref a1), .val (.int y2), .val (.int i), s6] [(.int (1 : Int32))])
      obtain ⟨T4, h4, ob4, g4, X4, e4, E4, V_ob4, E_ob4, st4⟩ := own_newRA XL hx hZ hown (hw _ (List.mem_of_getElem? (i := 10) rfl)) (hw _ (List.mem_of_getElem? (i := 11) rfl)) eL (g := (mkF m 46 #[.val (.ref a1), .val (.int (1 : Int32)), .val (.ref ob1), .val (.ref a1), .val (.int y2), .val (.int i), s6] [(.int (1 : Int32))])) rfl (hb hby d2_46) rfl (by decide) (cap := 1) (by decide) (by decide) (by decide) (by decide)
      have ne_a1_ob4 : a1 ≠ ob4 := Nat.ne_of_lt (Nat.lt_of_lt_of_le V_m.lt (Nat.le_of_eq g4.symm))
      have ne_ob1_ob4 : ob1 ≠ ob4 := Nat.ne_of_lt (Nat.lt_of_lt_of_le V_c.lt (Nat.le_of_eq g4.symm))
      have sz_ob4 : h0.size ≤ ob4 := Nat.le_trans K0.1 (Nat.le_of_eq g4.symm)
      have g_ob4 : n0 ≤ ob4 := Nat.le_trans Z0 sz_ob4
      have V_m := V_m.ext E4
      have V_c := V_c.ext E4
      have K0 := K0.ext E4
      have V_ob4 : Ary Z h4 ob4 [.null] := V_ob4
      refine own_go (fun _ => st4 _) ?_
      show GG _ _ _ _ _ _ _ T4 (mkF m 49 #[.val (.ref a1), .val (.int (1 : Int32)), .val (.ref ob1), .val (.ref a1), .val (.int y2), .val (.int i), s6] [(.ref ob4)])
      refine own_go (fun _ => XS.astoreN X4.here hx rfl (hb hby d2_49) rfl rfl (l' := #[.val (.ref a1), .val (.int (1 : Int32)), .val (.ref ob1), .val (.ref ob4), .val (.int y2), .val (.int i), s6]) rfl) ?_
      show GG _ _ _ _ _ _ _ T4 (mkF m 50 #[.val (.ref a1), .val (.int (1 : Int32)), .val (.ref ob1), .val (.ref ob4), .val (.int y2), .val (.int i), s6] [])
      refine own_go (fun _ => XS.iconst X4.here hx rfl (hb hby d2_50)) ?_
      show GG _ _ _ _ _ _ _ T4 (mkF m 51 #[.val (.ref a1), .val (.int (1 : Int32)), .val (.ref ob1), .val (.ref ob4), .val (.int y2), .val (.int i), s6] [(.int (0 : Int32))])
      refine own_go (fun _ => XS.istore X4.here hx rfl (hb hby d2_51) rfl (l' := #[.val (.ref a1), .val (.int (1 : Int32)), .val (.ref ob1), .val (.ref ob4), .val (.int (0 : Int32)), .val (.int i), s6]) rfl) ?_
      show GG _ _ _ _ _ _ _ T4 (mkF m 53 #[.val (.ref a1), .val (.int (1 : Int32)), .val (.ref ob1), .val (.ref ob4), .val (.int (0 : Int32)), .val (.int i), s6] [])
      refine own_go (fun _ => XS.iload X4.here hx rfl (hb hby d2_53) rfl) ?_
      show GG _ _ _ _ _ _ _ T4 (mkF m 55 #[.val (.ref a1), .val (.int (1 : Int32)), .val (.ref ob1), .val (.ref ob4), .val (.int (0 : Int32)), .val (.int i), s6] [(.int (0 : Int32))])
      refine own_go (fun _ => XS.iloadN X4.here hx rfl (hb hby d2_55) rfl) ?_
      show GG _ _ _ _ _ _ _ T4 (mkF m 56 #[.val (.ref a1), .val (.int (1 : Int32)), .val (.ref ob1), .val (.ref ob4), .val (.int (0 : Int32)), .val (.int i), s6] [(.int (1 : Int32)), (.int (0 : Int32))])
      have hc56 : (0 : Int32) < (1 : Int32) := by decide
      refine own_go (fun _ => XS.icmpNo X4.here hx rfl (hb hby d2_56) rfl (tlt hc56).2.1) ?_
      show GG _ _ _ _ _ _ _ T4 (mkF m 59 #[.val (.ref a1), .val (.int (1 : Int32)), .val (.ref ob1), .val (.ref ob4), .val (.int (0 : Int32)), .val (.int i), s6] [])
      refine own_go (fun _ => XS.aloadN X4.here hx rfl (hb hby d2_59) rfl rfl) ?_
      show GG _ _ _ _ _ _ _ T4 (mkF m 60 #[.val (.ref a1), .val (.int (1 : Int32)), .val (.ref ob1), .val (.ref ob4), .val (.int (0 : Int32)), .val (.int i), s6] [(.ref ob4)])
      refine own_go (fun _ => XS.iload X4.here hx rfl (hb hby d2_60) rfl) ?_
      show GG _ _ _ _ _ _ _ T4 (mkF m 62 #[.val (.ref a1), .val (.int (1 : Int32)), .val (.ref ob1), .val (.ref ob4), .val (.int (0 : Int32)), .val (.int i), s6] [(.int (0 : Int32)), (.ref ob4)])
      refine own_go (fun _ => XS.aloadN X4.here hx rfl (hb hby d2_62) rfl rfl) ?_
      show GG _ _ _ _ _ _ _ T4 (mkF m 63 #[.val (.ref a1), .val (.int (1 : Int32)), .val (.ref ob1), .val (.ref ob4), .val (.int (0 : Int32)), .val (.int i), s6] [(.ref ob1), (.int (0 : Int32)), (.ref ob4)])
      refine own_go (fun _ => XS.iload X4.here hx rfl (hb hby d2_63) rfl) ?_
      show GG _ _ _ _ _ _ _ T4 (mkF m 65 #[.val (.ref a1), .val (.int (1 : Int32)), .val (.ref ob1), .val (.ref ob4), .val (.int (0 : Int32)), .val (.int i), s6] [(.int (0 : Int32)), (.ref ob1), (.int (0 : Int32)), (.ref ob4)])
      refine own_go (fun _ => own_iaload X4 hx hZ e4 V_c (j := (0 : Int32)) (v := (.int (Int32.ofNat (cn ms (0 : Int32) ms.length)))) (by decide) rfl (g := (mkF m 65 #[.val (.ref a1), .val (.int (1 : Int32)), .val (.ref ob1), .val (.ref ob4), .val (.int (0 : Int32)), .val (.int i), s6] [(.int (0 : Int32)), (.ref ob1), (.int (0 : Int32)), (.ref ob4)])) rfl rfl (hb hby d2_65) _) ?_
      show GG _ _ _ _ _ _ _ T4 (mkF m 66 #[.val (.ref a1), .val (.int (1 : Int32)), .val (.ref ob1), .val (.ref ob4), .val (.int (0 : Int32)), .val (.int i), s6] [(.int (Int32.ofNat (cn ms (0 : Int32) ms.length))), (.int (0 : Int32)), (.ref ob4)])
      obtain ⟨T5, h5, ob5, g5, X5, e5, E5, V_ob5, E_ob5, st5⟩ := own_newarr X4 hx hZ (hw _ (List.mem_of_getElem? (i := 0) rfl)) e4 (g := (mkF m 66 #[.val (.ref a1), .val (.int (1 : Int32)), .val (.ref ob1), .val (.ref ob4), .val (.int (0 : Int32)), .val (.int i), s6] [(.int (Int32.ofNat (cn ms (0 : Int32) ms.length))), (.int (0 : Int32)), (.ref ob4)])) rfl (hb hby d2_66) rfl (own_onn (Nat.le_trans (cn_le _ _ _) hn6)) (cap := 6) (Nat.le_trans (Nat.le_of_eq (own_ocl (Nat.le_trans (cn_le _ _ _) hn6))) (Nat.le_trans (cn_le _ _ _) hn6)) (by decide) (by decide) (by decide) (ad := "[I") (by decide)
      have ne_a1_ob5 : a1 ≠ ob5 := Nat.ne_of_lt (Nat.lt_of_lt_of_le V_m.lt (Nat.le_of_eq g5.symm))
      have ne_ob1_ob5 : ob1 ≠ ob5 := Nat.ne_of_lt (Nat.lt_of_lt_of_le V_c.lt (Nat.le_of_eq g5.symm))
      have ne_ob4_ob5 : ob4 ≠ ob5 := Nat.ne_of_lt (Nat.lt_of_lt_of_le V_ob4.lt (Nat.le_of_eq g5.symm))
      have sz_ob5 : h0.size ≤ ob5 := Nat.le_trans K0.1 (Nat.le_of_eq g5.symm)
      have g_ob5 : n0 ≤ ob5 := Nat.le_trans Z0 sz_ob5
      have V_m := V_m.ext E5
      have V_c := V_c.ext E5
      have K0 := K0.ext E5
      have V_ob4 := V_ob4.ext E5
      have V_ob5 : Arx Z h5 ob5 .int (List.replicate (Int32.ofNat (cn ms (0 : Int32) ms.length)).toNatClampNeg (.int (0 : Int32))) := V_ob5
      refine own_go (fun _ => st5 _) ?_
      show GG _ _ _ _ _ _ _ T5 (mkF m 68 #[.val (.ref a1), .val (.int (1 : Int32)), .val (.ref ob1), .val (.ref ob4), .val (.int (0 : Int32)), .val (.int i), s6] [(.ref ob5), (.int (0 : Int32)), (.ref ob4)])
      have V_ob5 : Arx Z h5 ob5 .int ((List.replicate (cn ms (0 : Int32) ms.length) (0 : Int32)).map Value.int) := own_rep (Nat.le_trans (cn_le _ _ _) hn6) V_ob5
      obtain ⟨T6, h6, X6, e6, W6, V6, st6⟩ := own_aastore X5 hx hZ e5 V_ob4 (Ins.self E_ob5) (by decide) (Nat.le_of_ble_eq_true rfl) (g := (mkF m 68 #[.val (.ref a1), .val (.int (1 : Int32)), .val (.ref ob1), .val (.ref ob4), .val (.int (0 : Int32)), .val (.int i), s6] [(.ref ob5), (.int (0 : Int32)), (.ref ob4)])) rfl rfl (hb hby d2_68)
      have V_m := V_m.other W6 ne_a1_ob4
      have V_c := V_c.other W6 ne_ob1_ob4
      have K0 := K0.wr W6 (Or.inr sz_ob4)
      have V_ob5 := V_ob5.other W6 (Ne.symm ne_ob4_ob5)
      have E_ob5 := E_ob5.wr W6
      have V_ob4 : Ary Z h6 ob4 [(.ref ob5)] := V6
      have N6 := Fr.snoc X6 NL g_ob4
      refine own_go (fun _ => st6 _) ?_
      show GG _ _ _ _ _ _ _ T6 (mkF m 69 #[.val (.ref a1), .val (.int (1 : Int32)), .val (.ref ob1), .val (.ref ob4), .val (.int (0 : Int32)), .val (.int i), s6] [])
      refine own_go (fun _ => XS.aloadN X6.here hx rfl (hb hby d2_69) rfl rfl) ?_
      show GG _ _ _ _ _ _ _ T6 (mkF m 70 #[.val (.ref a1), .val (.int (1 : Int32)), .val (.ref ob1), .val (.ref ob4), .val (.int (0 : Int32)), .val (.int i), s6] [(.ref ob1)])
      refine own_go (fun _ => XS.iload X6.here hx rfl (hb hby d2_70) rfl) ?_
      show GG _ _ _ _ _ _ _ T6 (mkF m 72 #[.val (.ref a1), .val (.int (1 : Int32)), .val (.ref ob1), .val (.ref ob4), .val (.int (0 : Int32)), .val (.int i), s6] [(.int (0 : Int32)), (.ref ob1)])
      refine own_go (fun _ => XS.iconst X6.here hx rfl (hb hby d2_72)) ?_
      show GG _ _ _ _ _ _ _ T6 (mkF m 73 #[.val (.ref a1), .val (.int (1 : Int32)), .val (.ref ob1), .val (.ref ob4), .val (.int (0 : Int32)), .val (.int i), s6] [(.int (0 : Int32)), (.int (0 : Int32)), (.ref ob1)])
      obtain ⟨T7, h7, X7, e7, W7, V7, st7⟩ := own_iastore X6 hx hZ e6 V_c (by decide) (Nat.le_of_ble_eq_true rfl) (g := (mkF m 73 #[.val (.ref a1), .val (.int (1 : Int32)), .val (.ref ob1), .val (.ref ob4), .val (.int (0 : Int32)), .val (.int i), s6] [(.int (0 : Int32)), (.int (0 : Int32)), (.ref ob1)])) rfl rfl (hb hby d2_73)
      have V_m := V_m.other W7 ne_a1_ob1
      have K0 := K0.wr W7 (Or.inr sz_ob1)
      have V_ob4 := V_ob4.other W7 (Ne.symm ne_ob1_ob4)
      have V_ob5 := V_ob5.other W7 (Ne.symm ne_ob1_ob5)
      have E_ob5 := E_ob5.wr W7
      have V_c : Arx Z h7 ob1 .int [(.int (0 : Int32))] := V7
      have N7 := Fr.snoc X7 N6 g_ob1
      refine own_go (fun _ => st7 _) ?_
      show GG _ _ _ _ _ _ _ T7 (mkF m 74 #[.val (.ref a1), .val (.int (1 : Int32)), .val (.ref ob1), .val (.ref ob4), .val (.int (0 : Int32)), .val (.int i), s6] [])
      refine own_go (fun _ => XS.iinc X7.here hx rfl (hb hby d2_74) rfl (l' := #[.val (.ref a1), .val (.int (1 : Int32)), .val (.ref ob1), .val (.ref ob4), .val (.int (1 : Int32)), .val (.int i), s6]) rfl) ?_
      show GG _ _ _ _ _ _ _ T7 (mkF m 77 #[.val (.ref a1), .val (.int (1 : Int32)), .val (.ref ob1), .val (.ref ob4), .val (.int (1 : Int32)), .val (.int i), s6] [])
      refine own_go (fun _ => XS.goto X7.here hx rfl (pc0 := 77) (pc' := 53) rfl (hb hby d2_77) (by decide) (by decide)) ?_
      show GG _ _ _ _ _ _ _ T7 (mkF m 53 #[.val (.ref a1), .val (.int (1 : Int32)), .val (.ref ob1), .val (.ref ob4), .val (.int (1 : Int32)), .val (.int i), s6] [])
      refine own_go (fun _ => XS.iload X7.here hx rfl (hb hby d2_53) rfl) ?_
      show GG _ _ _ _ _ _ _ T7 (mkF m 55 #[.val (.ref a1), .val (.int (1 : Int32)), .val (.ref ob1), .val (.ref ob4), .val (.int (1 : Int32)), .val (.int i), s6] [(.int (1 : Int32))])
      refine own_go (fun _ => XS.iloadN X7.here hx rfl (hb hby d2_55) rfl) ?_
      show GG _ _ _ _ _ _ _ T7 (mkF m 56 #[.val (.ref a1), .val (.int (1 : Int32)), .val (.ref ob1), .val (.ref ob4), .val (.int (1 : Int32)), .val (.int i), s6] [(.int (1 : Int32)), (.int (1 : Int32))])
      have hc56 : ¬ ((1 : Int32) < (1 : Int32)) := by decide
      refine own_go (fun _ => XS.icmpYes X7.here hx rfl (pc0 := 56) (pc' := 80) rfl (hb hby d2_56) rfl (flt hc56).2.1 (by decide) (by decide)) ?_
      show GG _ _ _ _ _ _ _ T7 (mkF m 80 #[.val (.ref a1), .val (.int (1 : Int32)), .val (.ref ob1), .val (.ref ob4), .val (.int (1 : Int32)), .val (.int i), s6] [])
      refine own_go (fun _ => XS.iconst X7.here hx rfl (hb hby d2_80)) ?_
      show GG _ _ _ _ _ _ _ T7 (mkF m 81 #[.val (.ref a1), .val (.int (1 : Int32)), .val (.ref ob1), .val (.ref ob4), .val (.int (1 : Int32)), .val (.int i), s6] [(.int (0 : Int32))])
      refine own_go (fun _ => XS.istore X7.here hx rfl (hb hby d2_81) rfl (l' := #[.val (.ref a1), .val (.int (1 : Int32)), .val (.ref ob1), .val (.ref ob4), .val (.int (0 : Int32)), .val (.int i), s6]) rfl) ?_
      show GG _ _ _ _ _ _ _ T7 (mkF m 83 #[.val (.ref a1), .val (.int (1 : Int32)), .val (.ref ob1), .val (.ref ob4), .val (.int (0 : Int32)), .val (.int i), s6] [])
      have V_r := V_ob4.arx
      have loop8 : ∀ (k : Nat) (iN : Nat) (i t5 : Int32) (vs0 : List Int32) (TL : State) (hL : Heap) (lL : List Loc) (XL : Stand p l e ({ frames := 0, cells := 6, slots := 32, locals := 0 } : Room) s m #[(.ref a1), (.int (1 : Int32))] below meth c TL lL 3 8) (eL : TL.heap = hL) (NL : Fr n0 lL) (hi : i.toInt = iN) (hk : iN + k = ms.length) (V_m : Arx Z hL a1 .int (ms.map Value.int)) (V_c : Arx Z hL ob1 .int [(.int (Int32.ofNat (cn ms (0 : Int32) iN)))]) (V_r : Arx Z hL ob4 (.array .int) [(.ref ob5)]) (V_0 : Arx Z hL ob5 .int (vs0.map Value.int)) (R_0 : Row ms (0 : Int32) ms.length iN vs0) (K0 : Keep h0 hL []), GG p e below s 6 32 (Q2_1 Z a1 ms h0 n0) TL (mkF m 83 #[.val (.ref a1), .val (.int (1 : Int32)), .val (.ref ob1), .val (.ref ob4), .val (.int i), .val (.int t5), s6] []) := by
        intro k
        induction k with
        | zero =>
          intro iN i t5 vs0 TL hL lL XL eL NL hi hk V_m V_c V_r V_0 R_0 K0
          obtain rfl : iN = ms.length := by omega
          show GG _ _ _ _ _ _ _ TL (mkF m 83 #[.val (.ref a1), .val (.int (1 : Int32)), .val (.ref ob1), .val (.ref ob4), .val (.int i), .val (.int t5), s6] [])
          refine own_go (fun _ => XS.iload XL.here hx rfl (hb hby d2_83) rfl) ?_
          show GG _ _ _ _ _ _ _ TL (mkF m 85 #[.val (.ref a1), .val (.int (1 : Int32)), .val (.ref ob1), .val (.ref ob4), .val (.int i), .val (.int t5), s6] [(.int i)])
          refine own_go (fun _ => XS.aloadN XL.here hx rfl (hb hby d2_85) rfl rfl) ?_
          show GG _ _ _ _ _ _ _ TL (mkF m 86 #[.val (.ref a1), .val (.int (1 : Int32)), .val (.ref ob1), .val (.ref ob4), .val (.int i), .val (.int t5), s6] [(.ref a1), (.int i)])
          refine own_go (fun _ => own_len XL hx hZ eL V_m (g := (mkF m 86 #[.val (.ref a1), .val (.int (1 : Int32)), .val (.ref ob1), .val (.ref ob4), .val (.int i), .val (.int t5), s6] [(.ref a1), (.int i)])) rfl rfl (hb hby d2_86) _) ?_
          show GG _ _ _ _ _ _ _ TL (mkF m 87 #[.val (.ref a1), .val (.int (1 : Int32)), .val (.ref ob1), .val (.ref ob4), .val (.int i), .val (.int t5), s6] [(.int (Int32.ofNat (ms.map Value.int).length)), (.int i)])
          generalize hy9 : (Int32.ofNat (ms.map Value.int).length) = y9
          have dy9 : y9.toInt = (ms.length : Nat) := by rw [← hy9, List.length_map]; exact own_ofNat (by omega)
          show GG _ _ _ _ _ _ _ TL (mkF m 87 #[.val (.ref a1), .val (.int (1 : Int32)), .val (.ref ob1), .val (.ref ob4), .val (.int i), .val (.int t5), s6] [(.int y9), (.int i)])
          have hc87 : ¬ (i < y9) := (fun q => absurd (Int32.lt_iff_toInt_lt.mp q) ((by show ¬ (i.toInt < y9.toInt); omega : ¬ (i.toInt < y9.toInt))))
          refine own_go (fun _ => XS.icmpYes XL.here hx rfl (pc0 := 87) (pc' := 123) rfl (hb hby d2_87) rfl (flt hc87).2.1 (by decide) (by decide)) ?_
          show GG _ _ _ _ _ _ _ TL (mkF m 123 #[.val (.ref a1), .val (.int (1 : Int32)), .val (.ref ob1), .val (.ref ob4), .val (.int i), .val (.int t5), s6] [])
          refine own_go (fun _ => XS.aloadN XL.here hx rfl (hb hby d2_123) rfl rfl) ?_
          show GG _ _ _ _ _ _ _ TL (mkF m 124 #[.val (.ref a1), .val (.int (1 : Int32)), .val (.ref ob1), .val (.ref ob4), .val (.int i), .val (.int t5), s6] [(.ref ob4)])
          refine own_ret XL hx hlk (t := (.array (.array .int))) (w := (.ref ob4)) Bd.returns rfl (Or.inr (Or.inr (Or.inr (Or.inr ⟨rfl, rfl, rfl⟩)))) (hb hby d2_124) (by decide) (by decide) ?_
          show Q2_1 Z a1 ms h0 n0 (some (.ref ob4)) TL.heap _
          rw [eL]
          exact ⟨_, [ob5], rfl, NL, K0, V_r, rfl, fun c hc => by
            match c, hc with
            | 0, _ => exact ⟨ob5, vs0, rfl, V_0, R_0⟩
            | q + 1, hq => exact absurd hq (by show ¬ q + 1 < 1; omega)⟩
        | succ k ih =>
          intro iN i t5 vs0 TL hL lL XL eL NL hi hk V_m V_c V_r V_0 R_0 K0
          have ri := rng32 i
          have hii : i = Int32.ofNat iN := by rw [← Int32.toInt_inj, own_ofNat (by omega), hi]
          obtain ⟨y, hy⟩ : ∃ y, ms[iN]? = some y := ⟨_, List.getElem?_eq_getElem (show iN < ms.length by omega)⟩
          have hyr := hG iN y hy
          show GG _ _ _ _ _ _ _ TL (mkF m 83 #[.val (.ref a1), .val (.int (1 : Int32)), .val (.ref ob1), .val (.ref ob4), .val (.int i), .val (.int t5), s6] [])
          refine own_go (fun _ => XS.iload XL.here hx rfl (hb hby d2_83) rfl) ?_
          show GG _ _ _ _ _ _ _ TL (mkF m 85 #[.val (.ref a1), .val (.int (1 : Int32)), .val (.ref ob1), .val (.ref ob4), .val (.int i), .val (.int t5), s6] [(.int i)])
          refine own_go (fun _ => XS.aloadN XL.here hx rfl (hb hby d2_85) rfl rfl) ?_
          show GG _ _ _ _ _ _ _ TL (mkF m 86 #[.val (.ref a1), .val (.int (1 : Int32)), .val (.ref ob1), .val (.ref ob4), .val (.int i), .val (.int t5), s6] [(.ref a1), (.int i)])
          refine own_go (fun _ => own_len XL hx hZ eL V_m (g := (mkF m 86 #[.val (.ref a1), .val (.int (1 : Int32)), .val (.ref ob1), .val (.ref ob4), .val (.int i), .val (.int t5), s6] [(.ref a1), (.int i)])) rfl rfl (hb hby d2_86) _) ?_
          show GG _ _ _ _ _ _ _ TL (mkF m 87 #[.val (.ref a1), .val (.int (1 : Int32)), .val (.ref ob1), .val (.ref ob4), .val (.int i), .val (.int t5), s6] [(.int (Int32.ofNat (ms.map Value.int).length)), (.int i)])
          generalize hy10 : (Int32.ofNat (ms.map Value.int).length) = y10
          have dy10 : y10.toInt = (ms.length : Nat) := by rw [← hy10, List.length_map]; exact own_ofNat (by omega)
          show GG _ _ _ _ _ _ _ TL (mkF m 87 #[.val (.ref a1), .val (.int (1 : Int32)), .val (.ref ob1), .val (.ref ob4), .val (.int i), .val (.int t5), s6] [(.int y10), (.int i)])
          have hc87 : i < y10 := (Int32.lt_iff_toInt_lt.mpr ((by show (i.toInt < y10.toInt); omega : (i.toInt < y10.toInt))))
          refine own_go (fun _ => XS.icmpNo XL.here hx rfl (hb hby d2_87) rfl (tlt hc87).2.1) ?_
          show GG _ _ _ _ _ _ _ TL (mkF m 90 #[.val (.ref a1), .val (.int (1 : Int32)), .val (.ref ob1), .val (.ref ob4), .val (.int i), .val (.int t5), s6] [])
          refine own_go (fun _ => XS.aloadN XL.here hx rfl (hb hby d2_90) rfl rfl) ?_
          show GG _ _ _ _ _ _ _ TL (mkF m 91 #[.val (.ref a1), .val (.int (1 : Int32)), .val (.ref ob1), .val (.ref ob4), .val (.int i), .val (.int t5), s6] [(.ref a1)])
          refine own_go (fun _ => XS.iload XL.here hx rfl (hb hby d2_91) rfl) ?_
          show GG _ _ _ _ _ _ _ TL (mkF m 93 #[.val (.ref a1), .val (.int (1 : Int32)), .val (.ref ob1), .val (.ref ob4), .val (.int i), .val (.int t5), s6] [(.int i), (.ref a1)])
          refine own_go (fun _ => own_iaload XL hx hZ eL V_m (j := i) (v := (.int y)) (own_nn (by omega)) (own_mget hi hy) (g := (mkF m 93 #[.val (.ref a1), .val (.int (1 : Int32)), .val (.ref ob1), .val (.ref ob4), .val (.int i), .val (.int t5), s6] [(.int i), (.ref a1)])) rfl rfl (hb hby d2_93) _) ?_
          show GG _ _ _ _ _ _ _ TL (mkF m 94 #[.val (.ref a1), .val (.int (1 : Int32)), .val (.ref ob1), .val (.ref ob4), .val (.int i), .val (.int t5), s6] [(.int y)])
          refine own_go (fun _ => XS.istore XL.here hx rfl (hb hby d2_94) rfl (l' := #[.val (.ref a1), .val (.int (1 : Int32)), .val (.ref ob1), .val (.ref ob4), .val (.int i), .val (.int y), s6]) rfl) ?_
          show GG _ _ _ _ _ _ _ TL (mkF m 96 #[.val (.ref a1), .val (.int (1 : Int32)), .val (.ref ob1), .val (.ref ob4), .val (.int i), .val (.int y), s6] [])
          refine own_go (fun _ => XS.iload XL.here hx rfl (hb hby d2_96) rfl) ?_
          show GG _ _ _ _ _ _ _ TL (mkF m 98 #[.val (.ref a1), .val (.int (1 : Int32)), .val (.ref ob1), .val (.ref ob4), .val (.int i), .val (.int y), s6] [(.int y)])
          by_cases hneg : y.toInt < 0
          · skip
            have hc98 : y < (0 : Int32) := (Int32.lt_iff_toInt_lt.mpr ((by show (y.toInt < 0); omega : (y.toInt < 0))))
            refine own_go (fun _ => XS.ifYes XL.here hx rfl (pc0 := 98) (pc' := 117) rfl (hb hby d2_98) rfl ((if0 _ _).trans (tlt hc98).1) (by decide) (by decide)) ?_
            show GG _ _ _ _ _ _ _ TL (mkF m 117 #[.val (.ref a1), .val (.int (1 : Int32)), .val (.ref ob1), .val (.ref ob4), .val (.int i), .val (.int y), s6] [])
            refine own_go (fun _ => XS.iinc XL.here hx rfl (hb hby d2_117) rfl (l' := #[.val (.ref a1), .val (.int (1 : Int32)), .val (.ref ob1), .val (.ref ob4), .val (.int (i + (1 : Int32))), .val (.int y), s6]) rfl) ?_
            show GG _ _ _ _ _ _ _ TL (mkF m 120 #[.val (.ref a1), .val (.int (1 : Int32)), .val (.ref ob1), .val (.ref ob4), .val (.int (i + (1 : Int32))), .val (.int y), s6] [])
            have cx11 := c_iadd i (1 : Int32)
            simp only [show ((1 : Int32)).toInt = 1 from by decide] at cx11
            generalize hx11 : (i + (1 : Int32)) = x11 at cx11 ⊢
            have rx11 := rng32 x11
            have dx11 : x11.toInt = i.toInt + 1 := by omega
            clear cx11
            refine own_go (fun _ => XS.goto XL.here hx rfl (pc0 := 120) (pc' := 83) rfl (hb hby d2_120) (by decide) (by decide)) ?_
            show GG _ _ _ _ _ _ _ TL (mkF m 83 #[.val (.ref a1), .val (.int (1 : Int32)), .val (.ref ob1), .val (.ref ob4), .val (.int x11), .val (.int y), s6] [])
            have Vn : Arx Z hL ob1 .int [(.int (Int32.ofNat (cn ms (0 : Int32) (iN + 1))))] := by rw [own_cn0 (0 : Int32) hy (fun q => by rw [q] at hneg; exact absurd hneg (by decide))]; exact V_c
            exact ih (iN + 1) x11 y _ TL _ _ XL eL NL (by omega) (by omega) V_m Vn V_r V_0 (R_0.skip hy (fun q => by rw [q] at hneg; exact absurd hneg (by decide))) K0
          · skip
            by_cases e0 : y.toInt = 0
            · skip
              obtain rfl : y = (0 : Int32) := Int32.toInt_inj.mp (by rw [e0]; decide)
              show GG _ _ _ _ _ _ _ TL (mkF m 98 #[.val (.ref a1), .val (.int (1 : Int32)), .val (.ref ob1), .val (.ref ob4), .val (.int i), .val (.int (0 : Int32)), s6] [(.int (0 : Int32))])
              have hcl := cn_lt (j := ms.length) hy (by omega)
              have hc6 := cn_le ms (0 : Int32) ms.length
              have hc98 : ¬ ((0 : Int32) < (0 : Int32)) := by decide
              refine own_go (fun _ => XS.ifNo XL.here hx rfl (hb hby d2_98) rfl ((if0 _ _).trans (flt hc98).1)) ?_
              show GG _ _ _ _ _ _ _ TL (mkF m 101 #[.val (.ref a1), .val (.int (1 : Int32)), .val (.ref ob1), .val (.ref ob4), .val (.int i), .val (.int (0 : Int32)), s6] [])
              refine own_go (fun _ => XS.aloadN XL.here hx rfl (hb hby d2_101) rfl rfl) ?_
              show GG _ _ _ _ _ _ _ TL (mkF m 102 #[.val (.ref a1), .val (.int (1 : Int32)), .val (.ref ob1), .val (.ref ob4), .val (.int i), .val (.int (0 : Int32)), s6] [(.ref ob4)])
              refine own_go (fun _ => XS.iload XL.here hx rfl (hb hby d2_102) rfl) ?_
              show GG _ _ _ _ _ _ _ TL (mkF m 104 #[.val (.ref a1), .val (.int (1 : Int32)), .val (.ref ob1), .val (.ref ob4), .val (.int i), .val (.int (0 : Int32)), s6] [(.int (0 : Int32)), (.ref ob4)])
              refine own_go (fun _ => own_aaload XL hx hZ eL V_r rfl (j := (0 : Int32)) (v := (.ref ob5)) (by decide) rfl (g := (mkF m 104 #[.val (.ref a1), .val (.int (1 : Int32)), .val (.ref ob1), .val (.ref ob4), .val (.int i), .val (.int (0 : Int32)), s6] [(.int (0 : Int32)), (.ref ob4)])) rfl rfl (hb hby d2_104) _) ?_
              show GG _ _ _ _ _ _ _ TL (mkF m 105 #[.val (.ref a1), .val (.int (1 : Int32)), .val (.ref ob1), .val (.ref ob4), .val (.int i), .val (.int (0 : Int32)), s6] [(.ref ob5)])
              refine own_go (fun _ => XS.aloadN XL.here hx rfl (hb hby d2_105) rfl rfl) ?_
              show GG _ _ _ _ _ _ _ TL (mkF m 106 #[.val (.ref a1), .val (.int (1 : Int32)), .val (.ref ob1), .val (.ref ob4), .val (.int i), .val (.int (0 : Int32)), s6] [(.ref ob1), (.ref ob5)])
              refine own_go (fun _ => XS.iload XL.here hx rfl (hb hby d2_106) rfl) ?_
              show GG _ _ _ _ _ _ _ TL (mkF m 108 #[.val (.ref a1), .val (.int (1 : Int32)), .val (.ref ob1), .val (.ref ob4), .val (.int i), .val (.int (0 : Int32)), s6] [(.int (0 : Int32)), (.ref ob1), (.ref ob5)])
              refine own_go (fun _ => XT.dup2 XL.here hx rfl (hb hby d2_108) rfl rfl rfl) ?_
              show GG _ _ _ _ _ _ _ TL (mkF m 109 #[.val (.ref a1), .val (.int (1 : Int32)), .val (.ref ob1), .val (.ref ob4), .val (.int i), .val (.int (0 : Int32)), s6] [(.int (0 : Int32)), (.ref ob1), (.int (0 : Int32)), (.ref ob1), (.ref ob5)])
              refine own_go (fun _ => own_iaload XL hx hZ eL V_c (j := (0 : Int32)) (v := (.int (Int32.ofNat (cn ms (0 : Int32) iN)))) (by decide) rfl (g := (mkF m 109 #[.val (.ref a1), .val (.int (1 : Int32)), .val (.ref ob1), .val (.ref ob4), .val (.int i), .val (.int (0 : Int32)), s6] [(.int (0 : Int32)), (.ref ob1), (.int (0 : Int32)), (.ref ob1), (.ref ob5)])) rfl rfl (hb hby d2_109) _) ?_
              show GG _ _ _ _ _ _ _ TL (mkF m 110 #[.val (.ref a1), .val (.int (1 : Int32)), .val (.ref ob1), .val (.ref ob4), .val (.int i), .val (.int (0 : Int32)), s6] [(.int (Int32.ofNat (cn ms (0 : Int32) iN))), (.int (0 : Int32)), (.ref ob1), (.ref ob5)])
              refine own_go (fun _ => own_dupX2 XL.here hx rfl (hb hby d2_110) rfl rfl rfl rfl) ?_
              show GG _ _ _ _ _ _ _ TL (mkF m 111 #[.val (.ref a1), .val (.int (1 : Int32)), .val (.ref ob1), .val (.ref ob4), .val (.int i), .val (.int (0 : Int32)), s6] [(.int (Int32.ofNat (cn ms (0 : Int32) iN))), (.int (0 : Int32)), (.ref ob1), (.int (Int32.ofNat (cn ms (0 : Int32) iN))), (.ref ob5)])
              refine own_go (fun _ => XS.iconst XL.here hx rfl (hb hby d2_111)) ?_
              show GG _ _ _ _ _ _ _ TL (mkF m 112 #[.val (.ref a1), .val (.int (1 : Int32)), .val (.ref ob1), .val (.ref ob4), .val (.int i), .val (.int (0 : Int32)), s6] [(.int (1 : Int32)), (.int (Int32.ofNat (cn ms (0 : Int32) iN))), (.int (0 : Int32)), (.ref ob1), (.int (Int32.ofNat (cn ms (0 : Int32) iN))), (.ref ob5)])
              refine own_go (fun _ => XS.iadd XL.here hx rfl (hb hby d2_112) rfl) ?_
              show GG _ _ _ _ _ _ _ TL (mkF m 113 #[.val (.ref a1), .val (.int (1 : Int32)), .val (.ref ob1), .val (.ref ob4), .val (.int i), .val (.int (0 : Int32)), s6] [(.int ((Int32.ofNat (cn ms (0 : Int32) iN)) + (1 : Int32))), (.int (0 : Int32)), (.ref ob1), (.int (Int32.ofNat (cn ms (0 : Int32) iN))), (.ref ob5)])
              obtain ⟨T12, h12, X12, e12, W12, V12, st12⟩ := own_iastore XL hx hZ eL V_c (by decide) (Nat.le_of_ble_eq_true rfl) (g := (mkF m 113 #[.val (.ref a1), .val (.int (1 : Int32)), .val (.ref ob1), .val (.ref ob4), .val (.int i), .val (.int (0 : Int32)), s6] [(.int ((Int32.ofNat (cn ms (0 : Int32) iN)) + (1 : Int32))), (.int (0 : Int32)), (.ref ob1), (.int (Int32.ofNat (cn ms (0 : Int32) iN))), (.ref ob5)])) rfl rfl (hb hby d2_113)
              have V_m := V_m.other W12 ne_a1_ob1
              have V_r := V_r.other W12 (Ne.symm ne_ob1_ob4)
              have K0 := K0.wr W12 (Or.inr sz_ob1)
              have V_0 := V_0.other W12 (Ne.symm ne_ob1_ob5)
              have V_c : Arx Z h12 ob1 .int [(.int ((Int32.ofNat (cn ms (0 : Int32) iN)) + (1 : Int32)))] := V12
              have N12 := Fr.snoc X12 NL g_ob1
              refine own_go (fun _ => st12 _) ?_
              show GG _ _ _ _ _ _ _ T12 (mkF m 114 #[.val (.ref a1), .val (.int (1 : Int32)), .val (.ref ob1), .val (.ref ob4), .val (.int i), .val (.int (0 : Int32)), s6] [(.int (Int32.ofNat (cn ms (0 : Int32) iN))), (.ref ob5)])
              refine own_go (fun _ => XS.iload X12.here hx rfl (hb hby d2_114) rfl) ?_
              show GG _ _ _ _ _ _ _ T12 (mkF m 116 #[.val (.ref a1), .val (.int (1 : Int32)), .val (.ref ob1), .val (.ref ob4), .val (.int i), .val (.int (0 : Int32)), s6] [(.int i), (.int (Int32.ofNat (cn ms (0 : Int32) iN))), (.ref ob5)])
              obtain ⟨T13, h13, X13, e13, W13, V13, st13⟩ := own_iastore X12 hx hZ e12 V_0 (own_onn (by omega)) (by rw [List.length_map, R_0.1, own_ocl (by omega)]; exact hcl) (g := (mkF m 116 #[.val (.ref a1), .val (.int (1 : Int32)), .val (.ref ob1), .val (.ref ob4), .val (.int i), .val (.int (0 : Int32)), s6] [(.int i), (.int (Int32.ofNat (cn ms (0 : Int32) iN))), (.ref ob5)])) rfl rfl (hb hby d2_116)
              have V_m := V_m.other W13 ne_a1_ob5
              have V_c := V_c.other W13 ne_ob1_ob5
              have V_r := V_r.other W13 ne_ob4_ob5
              have K0 := K0.wr W13 (Or.inr sz_ob5)
              have V_0 : Arx Z h13 ob5 .int ((vs0.set (cn ms (0 : Int32) iN) i).map Value.int) := (own_rset (by omega) V13)
              have N13 := Fr.snoc X13 N12 g_ob5
              refine own_go (fun _ => st13 _) ?_
              show GG _ _ _ _ _ _ _ T13 (mkF m 117 #[.val (.ref a1), .val (.int (1 : Int32)), .val (.ref ob1), .val (.ref ob4), .val (.int i), .val (.int (0 : Int32)), s6] [])
              refine own_go (fun _ => XS.iinc X13.here hx rfl (hb hby d2_117) rfl (l' := #[.val (.ref a1), .val (.int (1 : Int32)), .val (.ref ob1), .val (.ref ob4), .val (.int (i + (1 : Int32))), .val (.int (0 : Int32)), s6]) rfl) ?_
              show GG _ _ _ _ _ _ _ T13 (mkF m 120 #[.val (.ref a1), .val (.int (1 : Int32)), .val (.ref ob1), .val (.ref ob4), .val (.int (i + (1 : Int32))), .val (.int (0 : Int32)), s6] [])
              have cx14 := c_iadd i (1 : Int32)
              simp only [show ((1 : Int32)).toInt = 1 from by decide] at cx14
              generalize hx14 : (i + (1 : Int32)) = x14 at cx14 ⊢
              have rx14 := rng32 x14
              have dx14 : x14.toInt = i.toInt + 1 := by omega
              clear cx14
              refine own_go (fun _ => XS.goto X13.here hx rfl (pc0 := 120) (pc' := 83) rfl (hb hby d2_120) (by decide) (by decide)) ?_
              show GG _ _ _ _ _ _ _ T13 (mkF m 83 #[.val (.ref a1), .val (.int (1 : Int32)), .val (.ref ob1), .val (.ref ob4), .val (.int x14), .val (.int (0 : Int32)), s6] [])
              have Vn : Arx Z h13 ob1 .int [(.int (Int32.ofNat (cn ms (0 : Int32) (iN + 1))))] := by rw [own_cn1 hy]; exact V_c
              exact ih (iN + 1) x14 (0 : Int32) _ T13 _ _ X13 e13 N13 (by omega) (by omega) V_m Vn V_r V_0 (by rw [hii]; exact R_0.put hy (by omega)) K0
            exact absurd hyr (by omega)
      exact loop8 ms.length 0 (0 : Int32) i _ T7 h7 _ X7 e7 N7 (by decide) (by omega) V_m V_c V_r V_ob5 (Row.new _ _ _) K0
    | succ k ih =>
      intro iN i s6 TL hL lL XL eL NL hi hk hs6 V_m V_c K0
      have ri := rng32 i
      obtain ⟨y, hy⟩ : ∃ y, ms[iN]? = some y := ⟨_, List.getElem?_eq_getElem (show iN < ms.length by omega)⟩
      have hyr := hG iN y hy
      show GG _ _ _ _ _ _ _ TL (mkF m 13 #[.val (.ref a1), .val (.int (1 : Int32)), .val (.ref ob1), .val (.ref a1), .val (.int y2), .val (.int i), s6] [])
      refine own_go (fun _ => XS.iload XL.here hx rfl (hb hby d2_13) rfl) ?_
      show GG _ _ _ _ _ _ _ TL (mkF m 15 #[.val (.ref a1), .val (.int (1 : Int32)), .val (.ref ob1), .val (.ref a1), .val (.int y2), .val (.int i), s6] [(.int i)])
      refine own_go (fun _ => XS.iload XL.here hx rfl (hb hby d2_15) rfl) ?_
      show GG _ _ _ _ _ _ _ TL (mkF m 17 #[.val (.ref a1), .val (.int (1 : Int32)), .val (.ref ob1), .val (.ref a1), .val (.int y2), .val (.int i), s6] [(.int y2), (.int i)])
      have hc17 : i < y2 := (Int32.lt_iff_toInt_lt.mpr ((by show (i.toInt < y2.toInt); omega : (i.toInt < y2.toInt))))
      refine own_go (fun _ => XS.icmpNo XL.here hx rfl (hb hby d2_17) rfl (tlt hc17).2.1) ?_
      show GG _ _ _ _ _ _ _ TL (mkF m 20 #[.val (.ref a1), .val (.int (1 : Int32)), .val (.ref ob1), .val (.ref a1), .val (.int y2), .val (.int i), s6] [])
      refine own_go (fun _ => XS.aloadN XL.here hx rfl (hb hby d2_20) rfl rfl) ?_
      show GG _ _ _ _ _ _ _ TL (mkF m 21 #[.val (.ref a1), .val (.int (1 : Int32)), .val (.ref ob1), .val (.ref a1), .val (.int y2), .val (.int i), s6] [(.ref a1)])
      refine own_go (fun _ => XS.iload XL.here hx rfl (hb hby d2_21) rfl) ?_
      show GG _ _ _ _ _ _ _ TL (mkF m 23 #[.val (.ref a1), .val (.int (1 : Int32)), .val (.ref ob1), .val (.ref a1), .val (.int y2), .val (.int i), s6] [(.int i), (.ref a1)])
      refine own_go (fun _ => own_iaload XL hx hZ eL V_m (j := i) (v := (.int y)) (own_nn (by omega)) (own_mget hi hy) (g := (mkF m 23 #[.val (.ref a1), .val (.int (1 : Int32)), .val (.ref ob1), .val (.ref a1), .val (.int y2), .val (.int i), s6] [(.int i), (.ref a1)])) rfl rfl (hb hby d2_23) _) ?_
      show GG _ _ _ _ _ _ _ TL (mkF m 24 #[.val (.ref a1), .val (.int (1 : Int32)), .val (.ref ob1), .val (.ref a1), .val (.int y2), .val (.int i), s6] [(.int y)])
      refine own_go (fun _ => XS.istore XL.here hx rfl (hb hby d2_24) rfl (l' := #[.val (.ref a1), .val (.int (1 : Int32)), .val (.ref ob1), .val (.ref a1), .val (.int y2), .val (.int i), .val (.int y)]) (XS.store1 (o := s6) rfl hs6 rfl)) ?_
      show GG _ _ _ _ _ _ _ TL (mkF m 26 #[.val (.ref a1), .val (.int (1 : Int32)), .val (.ref ob1), .val (.ref a1), .val (.int y2), .val (.int i), .val (.int y)] [])
      refine own_go (fun _ => XS.iload XL.here hx rfl (hb hby d2_26) rfl) ?_
      show GG _ _ _ _ _ _ _ TL (mkF m 28 #[.val (.ref a1), .val (.int (1 : Int32)), .val (.ref ob1), .val (.ref a1), .val (.int y2), .val (.int i), .val (.int y)] [(.int y)])
      by_cases hneg : y.toInt < 0
      · skip
        have hc28 : y < (0 : Int32) := (Int32.lt_iff_toInt_lt.mpr ((by show (y.toInt < 0); omega : (y.toInt < 0))))
        refine own_go (fun _ => XS.ifYes XL.here hx rfl (pc0 := 28) (pc' := 39) rfl (hb hby d2_28) rfl ((if0 _ _).trans (tlt hc28).1) (by decide) (by decide)) ?_
        show GG _ _ _ _ _ _ _ TL (mkF m 39 #[.val (.ref a1), .val (.int (1 : Int32)), .val (.ref ob1), .val (.ref a1), .val (.int y2), .val (.int i), .val (.int y)] [])
        have ri' := rng32 i
        refine own_go (fun _ => XS.iinc XL.here hx rfl (hb hby d2_39) rfl (l' := #[.val (.ref a1), .val (.int (1 : Int32)), .val (.ref ob1), .val (.ref a1), .val (.int y2), .val (.int (i + (1 : Int32))), .val (.int y)]) rfl) ?_
        show GG _ _ _ _ _ _ _ TL (mkF m 42 #[.val (.ref a1), .val (.int (1 : Int32)), .val (.ref ob1), .val (.ref a1), .val (.int y2), .val (.int (i + (1 : Int32))), .val (.int y)] [])
        have cx15 := c_iadd i (1 : Int32)
        simp only [show ((1 : Int32)).toInt = 1 from by decide] at cx15
        generalize hx15 : (i + (1 : Int32)) = x15 at cx15 ⊢
        have rx15 := rng32 x15
        have dx15 : x15.toInt = i.toInt + 1 := by omega
        clear cx15
        refine own_go (fun _ => XS.goto XL.here hx rfl (pc0 := 42) (pc' := 13) rfl (hb hby d2_42) (by decide) (by decide)) ?_
        show GG _ _ _ _ _ _ _ TL (mkF m 13 #[.val (.ref a1), .val (.int (1 : Int32)), .val (.ref ob1), .val (.ref a1), .val (.int y2), .val (.int x15), .val (.int y)] [])
        have Vn : Arx Z hL ob1 .int [(.int (Int32.ofNat (cn ms (0 : Int32) (iN + 1))))] := by rw [own_cn0 (0 : Int32) hy (fun q => by rw [q] at hneg; exact absurd hneg (by decide))]; exact V_c
        exact ih (iN + 1) x15 (.val (.int y)) TL _ _ XL eL NL (by omega) (by omega) (Or.inr ⟨_, rfl, rfl⟩) V_m Vn K0
      · skip
        by_cases e0 : y.toInt = 0
        · skip
          obtain rfl : y = (0 : Int32) := Int32.toInt_inj.mp (by rw [e0]; decide)
          show GG _ _ _ _ _ _ _ TL (mkF m 28 #[.val (.ref a1), .val (.int (1 : Int32)), .val (.ref ob1), .val (.ref a1), .val (.int y2), .val (.int i), .val (.int (0 : Int32))] [(.int (0 : Int32))])
          have hc28 : ¬ ((0 : Int32) < (0 : Int32)) := by decide
          refine own_go (fun _ => XS.ifNo XL.here hx rfl (hb hby d2_28) rfl ((if0 _ _).trans (flt hc28).1)) ?_
          show GG _ _ _ _ _ _ _ TL (mkF m 31 #[.val (.ref a1), .val (.int (1 : Int32)), .val (.ref ob1), .val (.ref a1), .val (.int y2), .val (.int i), .val (.int (0 : Int32))] [])
          refine own_go (fun _ => XS.aloadN XL.here hx rfl (hb hby d2_31) rfl rfl) ?_
          show GG _ _ _ _ _ _ _ TL (mkF m 32 #[.val (.ref a1), .val (.int (1 : Int32)), .val (.ref ob1), .val (.ref a1), .val (.int y2), .val (.int i), .val (.int (0 : Int32))] [(.ref ob1)])
          refine own_go (fun _ => XS.iload XL.here hx rfl (hb hby d2_32) rfl) ?_
          show GG _ _ _ _ _ _ _ TL (mkF m 34 #[.val (.ref a1), .val (.int (1 : Int32)), .val (.ref ob1), .val (.ref a1), .val (.int y2), .val (.int i), .val (.int (0 : Int32))] [(.int (0 : Int32)), (.ref ob1)])
          refine own_go (fun _ => XT.dup2 XL.here hx rfl (hb hby d2_34) rfl rfl rfl) ?_
          show GG _ _ _ _ _ _ _ TL (mkF m 35 #[.val (.ref a1), .val (.int (1 : Int32)), .val (.ref ob1), .val (.ref a1), .val (.int y2), .val (.int i), .val (.int (0 : Int32))] [(.int (0 : Int32)), (.ref ob1), (.int (0 : Int32)), (.ref ob1)])
          refine own_go (fun _ => own_iaload XL hx hZ eL V_c (j := (0 : Int32)) (v := (.int (Int32.ofNat (cn ms (0 : Int32) iN)))) (by decide) rfl (g := (mkF m 35 #[.val (.ref a1), .val (.int (1 : Int32)), .val (.ref ob1), .val (.ref a1), .val (.int y2), .val (.int i), .val (.int (0 : Int32))] [(.int (0 : Int32)), (.ref ob1), (.int (0 : Int32)), (.ref ob1)])) rfl rfl (hb hby d2_35) _) ?_
          show GG _ _ _ _ _ _ _ TL (mkF m 36 #[.val (.ref a1), .val (.int (1 : Int32)), .val (.ref ob1), .val (.ref a1), .val (.int y2), .val (.int i), .val (.int (0 : Int32))] [(.int (Int32.ofNat (cn ms (0 : Int32) iN))), (.int (0 : Int32)), (.ref ob1)])
          refine own_go (fun _ => XS.iconst XL.here hx rfl (hb hby d2_36)) ?_
          show GG _ _ _ _ _ _ _ TL (mkF m 37 #[.val (.ref a1), .val (.int (1 : Int32)), .val (.ref ob1), .val (.ref a1), .val (.int y2), .val (.int i), .val (.int (0 : Int32))] [(.int (1 : Int32)), (.int (Int32.ofNat (cn ms (0 : Int32) iN))), (.int (0 : Int32)), (.ref ob1)])
          refine own_go (fun _ => XS.iadd XL.here hx rfl (hb hby d2_37) rfl) ?_
          show GG _ _ _ _ _ _ _ TL (mkF m 38 #[.val (.ref a1), .val (.int (1 : Int32)), .val (.ref ob1), .val (.ref a1), .val (.int y2), .val (.int i), .val (.int (0 : Int32))] [(.int ((Int32.ofNat (cn ms (0 : Int32) iN)) + (1 : Int32))), (.int (0 : Int32)), (.ref ob1)])
          obtain ⟨T16, h16, X16, e16, W16, V16, st16⟩ := own_iastore XL hx hZ eL V_c (by decide) (Nat.le_of_ble_eq_true rfl) (g := (mkF m 38 #[.val (.ref a1), .val (.int (1 : Int32)), .val (.ref ob1), .val (.ref a1), .val (.int y2), .val (.int i), .val (.int (0 : Int32))] [(.int ((Int32.ofNat (cn ms (0 : Int32) iN)) + (1 : Int32))), (.int (0 : Int32)), (.ref ob1)])) rfl rfl (hb hby d2_38)
          have V_m := V_m.other W16 ne_a1_ob1
          have K0 := K0.wr W16 (Or.inr sz_ob1)
          have V_c : Arx Z h16 ob1 .int [(.int ((Int32.ofNat (cn ms (0 : Int32) iN)) + (1 : Int32)))] := V16
          have N16 := Fr.snoc X16 NL g_ob1
          refine own_go (fun _ => st16 _) ?_
          show GG _ _ _ _ _ _ _ T16 (mkF m 39 #[.val (.ref a1), .val (.int (1 : Int32)), .val (.ref ob1), .val (.ref a1), .val (.int y2), .val (.int i), .val (.int (0 : Int32))] [])
          have ri' := rng32 i
          refine own_go (fun _ => XS.iinc X16.here hx rfl (hb hby d2_39) rfl (l' := #[.val (.ref a1), .val (.int (1 : Int32)), .val (.ref ob1), .val (.ref a1), .val (.int y2), .val (.int (i + (1 : Int32))), .val (.int (0 : Int32))]) rfl) ?_
          show GG _ _ _ _ _ _ _ T16 (mkF m 42 #[.val (.ref a1), .val (.int (1 : Int32)), .val (.ref ob1), .val (.ref a1), .val (.int y2), .val (.int (i + (1 : Int32))), .val (.int (0 : Int32))] [])
          have cx17 := c_iadd i (1 : Int32)
          simp only [show ((1 : Int32)).toInt = 1 from by decide] at cx17
          generalize hx17 : (i + (1 : Int32)) = x17 at cx17 ⊢
          have rx17 := rng32 x17
          have dx17 : x17.toInt = i.toInt + 1 := by omega
          clear cx17
          refine own_go (fun _ => XS.goto X16.here hx rfl (pc0 := 42) (pc' := 13) rfl (hb hby d2_42) (by decide) (by decide)) ?_
          show GG _ _ _ _ _ _ _ T16 (mkF m 13 #[.val (.ref a1), .val (.int (1 : Int32)), .val (.ref ob1), .val (.ref a1), .val (.int y2), .val (.int x17), .val (.int (0 : Int32))] [])
          have Vn : Arx Z h16 ob1 .int [(.int (Int32.ofNat (cn ms (0 : Int32) (iN + 1))))] := by rw [own_cn1 hy]; exact V_c
          exact ih (iN + 1) x17 (.val (.int (0 : Int32))) T16 _ _ X16 e16 N16 (by omega) (by omega) (Or.inr ⟨_, rfl, rfl⟩) V_m Vn K0
        exact absurd hyr (by omega)
  exact loop3 ms.length 0 (0 : Int32) .unset T1 h1 _ X1 e1 N0 (by decide) (by omega) (Or.inl rfl) V_m V_ob1 K0
def Q2_2 (Z : State) (a1 : Addr) (ms : List Int32) (h0 : Heap) (n0 : Nat) (v : Option Value) (h : Heap) (L : List Loc) : Prop := ∃ b rs, v = some (.ref b) ∧ Fr n0 L ∧ Keep h0 h [] ∧ Arx Z h b (.array .int) (rs.map Value.ref) ∧ rs.length = 2 ∧ Rows Z h ms rs
set_option maxRecDepth 65536 in
set_option maxHeartbeats 40000000 in
theorem rm2_2 (l : Launch) (Z : State) (a0 : Array Value) (hw : ∀ d ∈ tables_1, d.before a0 Z = true) (ws : List Jvm.Cond) (a1 : Addr) (ms : List Int32) (h0 : Heap) (n0 : Nat) (Z0 : n0 ≤ h0.size) (V_m : Arx Z h0 a1 .int (ms.map Value.int)) (hn6 : ms.length ≤ 6) (hG : ∀ (j : Nat) (y : Int32), ms[j]? = some y → -1 ≤ y.toInt ∧ y.toInt < 2) :
    own_CT l Z (⟨"com/example/deft_shards/deftshards/cluster/KMeans", "members", "([II)[[I"⟩ : MethodName) prog_2_method_3_code 7 (some (.array (.array .int))) ws ({ frames := 0, cells := 6, slots := 32, locals := 0 } : Room) #[(.ref a1), (.int (2 : Int32))] h0 (Q2_2 Z a1 ms h0 n0) := by
  refine MetFree.of_bodySF (plainFor_of_name pn_com_example_deft_shards_deftshards_cluster_KMeans) hisR ?_
  intro p e s m args below meth c s₁ Bd hml0 hP hK
  obtain ⟨rfl, hZ, hh⟩ := hP
  have hx := Bd.exec
  have hby := Bd.bytes
  have hml : c.maxLocals = 7 := hml0
  have hown : s.vm.findClass "com/example/deft_shards/deftshards/cluster/KMeans" = some m.cls := findClass_of_methodNamed Bd.named
  have hnm := (name_of_methodNamed Bd.named Bd.method).1
  have hlk : meth.locks = false := BodyLoose.notSynchronized Bd
  have X0 : Stand p l e ({ frames := 0, cells := 6, slots := 32, locals := 0 } : Room) s m #[(.ref a1), (.int (2 : Int32))] below meth c s₁ [] 0 0 := Stand.of_body Bd
  have e0 : s₁.heap = h0 := by rw [← hh, Bd.state]; rfl
  have N0 := Fr.nil n0
  show GG p e below s ({ frames := 0, cells := 6, slots := 32, locals := 0 } : Room).cells ({ frames := 0, cells := 6, slots := 32, locals := 0 } : Room).slots (Q2_2 Z a1 ms h0 n0) s₁ (entryFrame m #[(.ref a1), (.int (2 : Int32))] 7)
  refine own_in (ef_2 m a1 (2 : Int32)) ?_
  have K0 := Keep.refl h0 []
  show GG _ _ _ _ _ _ _ s₁ (mkF m 0 #[.val (.ref a1), .val (.int (2 : Int32)), .unset, .unset, .unset, .unset, .unset] [])
  refine own_go (fun _ => XS.iloadN X0.here hx rfl (hb hby d2_0) rfl) ?_
  show GG _ _ _ _ _ _ _ s₁ (mkF m 1 #[.val (.ref a1), .val (.int (2 : Int32)), .unset, .unset, .unset, .unset, .unset] [(.int (2 : Int32))])
  obtain ⟨T1, h1, ob1, g1, X1, e1, E1, V_ob1, E_ob1, st1⟩ := own_newarr X0 hx hZ (hw _ (List.mem_of_getElem? (i := 0) rfl)) e0 (g := (mkF m 1 #[.val (.ref a1), .val (.int (2 : Int32)), .unset, .unset, .unset, .unset, .unset] [(.int (2 : Int32))])) rfl (hb hby d2_1) rfl (by decide) (cap := 2) (by decide) (by decide) (by decide) (by decide) (ad := "[I") (by decide)
  have ne_a1_ob1 : a1 ≠ ob1 := Nat.ne_of_lt (Nat.lt_of_lt_of_le V_m.lt (Nat.le_of_eq g1.symm))
  have sz_ob1 : h0.size ≤ ob1 := Nat.le_trans K0.1 (Nat.le_of_eq g1.symm)
  have g_ob1 : n0 ≤ ob1 := Nat.le_trans Z0 sz_ob1
  have V_m := V_m.ext E1
  have K0 := K0.ext E1
  have V_ob1 : Arx Z h1 ob1 .int [(.int (0 : Int32)), (.int (0 : Int32))] := V_ob1
  refine own_go (fun _ => st1 _) ?_
  show GG _ _ _ _ _ _ _ T1 (mkF m 3 #[.val (.ref a1), .val (.int (2 : Int32)), .unset, .unset, .unset, .unset, .unset] [(.ref ob1)])
  refine own_go (fun _ => XS.astoreN X1.here hx rfl (hb hby d2_3) rfl rfl (l' := #[.val (.ref a1), .val (.int (2 : Int32)), .val (.ref ob1), .unset, .unset, .unset, .unset]) rfl) ?_
  show GG _ _ _ _ _ _ _ T1 (mkF m 4 #[.val (.ref a1), .val (.int (2 : Int32)), .val (.ref ob1), .unset, .unset, .unset, .unset] [])
  refine own_go (fun _ => XS.aloadN X1.here hx rfl (hb hby d2_4) rfl rfl) ?_
  show GG _ _ _ _ _ _ _ T1 (mkF m 5 #[.val (.ref a1), .val (.int (2 : Int32)), .val (.ref ob1), .unset, .unset, .unset, .unset] [(.ref a1)])
  refine own_go (fun _ => XS.astoreN X1.here hx rfl (hb hby d2_5) rfl rfl (l' := #[.val (.ref a1), .val (.int (2 : Int32)), .val (.ref ob1), .val (.ref a1), .unset, .unset, .unset]) rfl) ?_
  show GG _ _ _ _ _ _ _ T1 (mkF m 6 #[.val (.ref a1), .val (.int (2 : Int32)), .val (.ref ob1), .val (.ref a1), .unset, .unset, .unset] [])
  refine own_go (fun _ => XS.aloadN X1.here hx rfl (hb hby d2_6) rfl rfl) ?_
  show GG _ _ _ _ _ _ _ T1 (mkF m 7 #[.val (.ref a1), .val (.int (2 : Int32)), .val (.ref ob1), .val (.ref a1), .unset, .unset, .unset] [(.ref a1)])
  refine own_go (fun _ => own_len X1 hx hZ e1 V_m (g := (mkF m 7 #[.val (.ref a1), .val (.int (2 : Int32)), .val (.ref ob1), .val (.ref a1), .unset, .unset, .unset] [(.ref a1)])) rfl rfl (hb hby d2_7) _) ?_
  show GG _ _ _ _ _ _ _ T1 (mkF m 8 #[.val (.ref a1), .val (.int (2 : Int32)), .val (.ref ob1), .val (.ref a1), .unset, .unset, .unset] [(.int (Int32.ofNat (ms.map Value.int).length))])
  generalize hy2 : (Int32.ofNat (ms.map Value.int).length) = y2
  have dy2 : y2.toInt = (ms.length : Nat) := by rw [← hy2, List.length_map]; exact own_ofNat (by omega)
  show GG _ _ _ _ _ _ _ T1 (mkF m 8 #[.val (.ref a1), .val (.int (2 : Int32)), .val (.ref ob1), .val (.ref a1), .unset, .unset, .unset] [(.int y2)])
  refine own_go (fun _ => XS.istore X1.here hx rfl (hb hby d2_8) rfl (l' := #[.val (.ref a1), .val (.int (2 : Int32)), .val (.ref ob1), .val (.ref a1), .val (.int y2), .unset, .unset]) rfl) ?_
  show GG _ _ _ _ _ _ _ T1 (mkF m 10 #[.val (.ref a1), .val (.int (2 : Int32)), .val (.ref ob1), .val (.ref a1), .val (.int y2), .unset, .unset] [])
  refine own_go (fun _ => XS.iconst X1.here hx rfl (hb hby d2_10)) ?_
  show GG _ _ _ _ _ _ _ T1 (mkF m 11 #[.val (.ref a1), .val (.int (2 : Int32)), .val (.ref ob1), .val (.ref a1), .val (.int y2), .unset, .unset] [(.int (0 : Int32))])
  refine own_go (fun _ => XS.istore X1.here hx rfl (hb hby d2_11) rfl (l' := #[.val (.ref a1), .val (.int (2 : Int32)), .val (.ref ob1), .val (.ref a1), .val (.int y2), .val (.int (0 : Int32)), .unset]) rfl) ?_
  show GG _ _ _ _ _ _ _ T1 (mkF m 13 #[.val (.ref a1), .val (.int (2 : Int32)), .val (.ref ob1), .val (.ref a1), .val (.int y2), .val (.int (0 : Int32)), .unset] [])
  have loop3 : ∀ (k : Nat) (iN : Nat) (i : Int32) (s6 : Slot) (TL : State) (hL : Heap) (lL : List Loc) (XL : Stand p l e ({ frames := 0, cells := 6, slots := 32, locals := 0 } : Room) s m #[(.ref a1), (.int (2 : Int32))] below meth c TL lL 1 2) (eL : TL.heap = hL) (NL : Fr n0 lL) (hi : i.toInt = iN) (hk : iN + k = ms.length) (hs6 : s6 = .unset ∨ ∃ w, s6 = .val w ∧ w.category = 1) (V_m : Arx Z hL a1 .int (ms.map Value.int)) (V_c : Arx Z hL ob1 .int [(.int (Int32.ofNat (cn ms (0 : Int32) iN))), (.int (Int32.ofNat (cn ms (1 : Int32) iN)))]) (K0 : Keep h0 hL []), GG p e below s 6 32 (Q2_2 Z a1 ms h0 n0) TL (mkF m 13 #[.val (.ref a1), .val (.int (2 : Int32)), .val (.ref ob1), .val (.ref a1), .val (.int y2), .val (.int i), s6] []) := by
    intro k
    induction k with
    | zero =>
      intro iN i s6 TL hL lL XL eL NL hi hk hs6 V_m V_c K0
      obtain rfl : iN = ms.length := by omega
      show GG _ _ _ _ _ _ _ TL (mkF m 13 #[.val (.ref a1), .val (.int (2 : Int32)), .val (.ref ob1), .val (.ref a1), .val (.int y2), .val (.int i), s6] [])
      refine own_go (fun _ => XS.iload XL.here hx rfl (hb hby d2_13) rfl) ?_
      show GG _ _ _ _ _ _ _ TL (mkF m 15 #[.val (.ref a1), .val (.int (2 : Int32)), .val (.ref ob1), .val (.ref a1), .val (.int y2), .val (.int i), s6] [(.int i)])
      refine own_go (fun _ => XS.iload XL.here hx rfl (hb hby d2_15) rfl) ?_
      show GG _ _ _ _ _ _ _ TL (mkF m 17 #[.val (.ref a1), .val (.int (2 : Int32)), .val (.ref ob1), .val (.ref a1), .val (.int y2), .val (.int i), s6] [(.int y2), (.int i)])
      have hc17 : ¬ (i < y2) := (fun q => absurd (Int32.lt_iff_toInt_lt.mp q) ((by show ¬ (i.toInt < y2.toInt); omega : ¬ (i.toInt < y2.toInt))))
      refine own_go (fun _ => XS.icmpYes XL.here hx rfl (pc0 := 17) (pc' := 45) rfl (hb hby d2_17) rfl (flt hc17).2.1 (by decide) (by decide)) ?_
      show GG _ _ _ _ _ _ _ TL (mkF m 45 #[.val (.ref a1), .val (.int (2 : Int32)), .val (.ref ob1), .val (.ref a1), .val (.int y2), .val (.int i), s6] [])
      refine own_go (fun _ => XS.iloadN XL.here hx rfl (hb hby d2_45) rfl) ?_
      show GG _ _ _ _ _ _ _ TL (mkF m 46 #[.val (.ref a1), .val (.int (2 : Int32)), .val (.ref ob1), .val (.ref a1), .val (.int y2), .val (.int i), s6] [(.int (2 : Int32))])
      obtain ⟨T4, h4, ob4, g4, X4, e4, E4, V_ob4, E_ob4, st4⟩ := own_newRA XL hx hZ hown (hw _ (List.mem_of_getElem? (i := 10) rfl)) (hw _ (List.mem_of_getElem? (i := 11) rfl)) eL (g := (mkF m 46 #[.val (.ref a1), .val (.int (2 : Int32)), .val (.ref ob1), .val (.ref a1), .val (.int y2), .val (.int i), s6] [(.int (2 : Int32))])) rfl (hb hby d2_46) rfl (by decide) (cap := 2) (by decide) (by decide) (by decide) (by decide)
      have ne_a1_ob4 : a1 ≠ ob4 := Nat.ne_of_lt (Nat.lt_of_lt_of_le V_m.lt (Nat.le_of_eq g4.symm))
      have ne_ob1_ob4 : ob1 ≠ ob4 := Nat.ne_of_lt (Nat.lt_of_lt_of_le V_c.lt (Nat.le_of_eq g4.symm))
      have sz_ob4 : h0.size ≤ ob4 := Nat.le_trans K0.1 (Nat.le_of_eq g4.symm)
      have g_ob4 : n0 ≤ ob4 := Nat.le_trans Z0 sz_ob4
      have V_m := V_m.ext E4
      have V_c := V_c.ext E4
      have K0 := K0.ext E4
      have V_ob4 : Ary Z h4 ob4 [.null, .null] := V_ob4
      refine own_go (fun _ => st4 _) ?_
      show GG _ _ _ _ _ _ _ T4 (mkF m 49 #[.val (.ref a1), .val (.int (2 : Int32)), .val (.ref ob1), .val (.ref a1), .val (.int y2), .val (.int i), s6] [(.ref ob4)])
      refine own_go (fun _ => XS.astoreN X4.here hx rfl (hb hby d2_49) rfl rfl (l' := #[.val (.ref a1), .val (.int (2 : Int32)), .val (.ref ob1), .val (.ref ob4), .val (.int y2), .val (.int i), s6]) rfl) ?_
      show GG _ _ _ _ _ _ _ T4 (mkF m 50 #[.val (.ref a1), .val (.int (2 : Int32)), .val (.ref ob1), .val (.ref ob4), .val (.int y2), .val (.int i), s6] [])
      refine own_go (fun _ => XS.iconst X4.here hx rfl (hb hby d2_50)) ?_
      show GG _ _ _ _ _ _ _ T4 (mkF m 51 #[.val (.ref a1), .val (.int (2 : Int32)), .val (.ref ob1), .val (.ref ob4), .val (.int y2), .val (.int i), s6] [(.int (0 : Int32))])
      refine own_go (fun _ => XS.istore X4.here hx rfl (hb hby d2_51) rfl (l' := #[.val (.ref a1), .val (.int (2 : Int32)), .val (.ref ob1), .val (.ref ob4), .val (.int (0 : Int32)), .val (.int i), s6]) rfl) ?_
      show GG _ _ _ _ _ _ _ T4 (mkF m 53 #[.val (.ref a1), .val (.int (2 : Int32)), .val (.ref ob1), .val (.ref ob4), .val (.int (0 : Int32)), .val (.int i), s6] [])
      refine own_go (fun _ => XS.iload X4.here hx rfl (hb hby d2_53) rfl) ?_
      show GG _ _ _ _ _ _ _ T4 (mkF m 55 #[.val (.ref a1), .val (.int (2 : Int32)), .val (.ref ob1), .val (.ref ob4), .val (.int (0 : Int32)), .val (.int i), s6] [(.int (0 : Int32))])
      refine own_go (fun _ => XS.iloadN X4.here hx rfl (hb hby d2_55) rfl) ?_
      show GG _ _ _ _ _ _ _ T4 (mkF m 56 #[.val (.ref a1), .val (.int (2 : Int32)), .val (.ref ob1), .val (.ref ob4), .val (.int (0 : Int32)), .val (.int i), s6] [(.int (2 : Int32)), (.int (0 : Int32))])
      have hc56 : (0 : Int32) < (2 : Int32) := by decide
      refine own_go (fun _ => XS.icmpNo X4.here hx rfl (hb hby d2_56) rfl (tlt hc56).2.1) ?_
      show GG _ _ _ _ _ _ _ T4 (mkF m 59 #[.val (.ref a1), .val (.int (2 : Int32)), .val (.ref ob1), .val (.ref ob4), .val (.int (0 : Int32)), .val (.int i), s6] [])
      refine own_go (fun _ => XS.aloadN X4.here hx rfl (hb hby d2_59) rfl rfl) ?_
      show GG _ _ _ _ _ _ _ T4 (mkF m 60 #[.val (.ref a1), .val (.int (2 : Int32)), .val (.ref ob1), .val (.ref ob4), .val (.int (0 : Int32)), .val (.int i), s6] [(.ref ob4)])
      refine own_go (fun _ => XS.iload X4.here hx rfl (hb hby d2_60) rfl) ?_
      show GG _ _ _ _ _ _ _ T4 (mkF m 62 #[.val (.ref a1), .val (.int (2 : Int32)), .val (.ref ob1), .val (.ref ob4), .val (.int (0 : Int32)), .val (.int i), s6] [(.int (0 : Int32)), (.ref ob4)])
      refine own_go (fun _ => XS.aloadN X4.here hx rfl (hb hby d2_62) rfl rfl) ?_
      show GG _ _ _ _ _ _ _ T4 (mkF m 63 #[.val (.ref a1), .val (.int (2 : Int32)), .val (.ref ob1), .val (.ref ob4), .val (.int (0 : Int32)), .val (.int i), s6] [(.ref ob1), (.int (0 : Int32)), (.ref ob4)])
      refine own_go (fun _ => XS.iload X4.here hx rfl (hb hby d2_63) rfl) ?_
      show GG _ _ _ _ _ _ _ T4 (mkF m 65 #[.val (.ref a1), .val (.int (2 : Int32)), .val (.ref ob1), .val (.ref ob4), .val (.int (0 : Int32)), .val (.int i), s6] [(.int (0 : Int32)), (.ref ob1), (.int (0 : Int32)), (.ref ob4)])
      refine own_go (fun _ => own_iaload X4 hx hZ e4 V_c (j := (0 : Int32)) (v := (.int (Int32.ofNat (cn ms (0 : Int32) ms.length)))) (by decide) rfl (g := (mkF m 65 #[.val (.ref a1), .val (.int (2 : Int32)), .val (.ref ob1), .val (.ref ob4), .val (.int (0 : Int32)), .val (.int i), s6] [(.int (0 : Int32)), (.ref ob1), (.int (0 : Int32)), (.ref ob4)])) rfl rfl (hb hby d2_65) _) ?_
      show GG _ _ _ _ _ _ _ T4 (mkF m 66 #[.val (.ref a1), .val (.int (2 : Int32)), .val (.ref ob1), .val (.ref ob4), .val (.int (0 : Int32)), .val (.int i), s6] [(.int (Int32.ofNat (cn ms (0 : Int32) ms.length))), (.int (0 : Int32)), (.ref ob4)])
      obtain ⟨T5, h5, ob5, g5, X5, e5, E5, V_ob5, E_ob5, st5⟩ := own_newarr X4 hx hZ (hw _ (List.mem_of_getElem? (i := 0) rfl)) e4 (g := (mkF m 66 #[.val (.ref a1), .val (.int (2 : Int32)), .val (.ref ob1), .val (.ref ob4), .val (.int (0 : Int32)), .val (.int i), s6] [(.int (Int32.ofNat (cn ms (0 : Int32) ms.length))), (.int (0 : Int32)), (.ref ob4)])) rfl (hb hby d2_66) rfl (own_onn (Nat.le_trans (cn_le _ _ _) hn6)) (cap := 6) (Nat.le_trans (Nat.le_of_eq (own_ocl (Nat.le_trans (cn_le _ _ _) hn6))) (Nat.le_trans (cn_le _ _ _) hn6)) (by decide) (by decide) (by decide) (ad := "[I") (by decide)
      have ne_a1_ob5 : a1 ≠ ob5 := Nat.ne_of_lt (Nat.lt_of_lt_of_le V_m.lt (Nat.le_of_eq g5.symm))
      have ne_ob1_ob5 : ob1 ≠ ob5 := Nat.ne_of_lt (Nat.lt_of_lt_of_le V_c.lt (Nat.le_of_eq g5.symm))
      have ne_ob4_ob5 : ob4 ≠ ob5 := Nat.ne_of_lt (Nat.lt_of_lt_of_le V_ob4.lt (Nat.le_of_eq g5.symm))
      have sz_ob5 : h0.size ≤ ob5 := Nat.le_trans K0.1 (Nat.le_of_eq g5.symm)
      have g_ob5 : n0 ≤ ob5 := Nat.le_trans Z0 sz_ob5
      have V_m := V_m.ext E5
      have V_c := V_c.ext E5
      have K0 := K0.ext E5
      have V_ob4 := V_ob4.ext E5
      have V_ob5 : Arx Z h5 ob5 .int (List.replicate (Int32.ofNat (cn ms (0 : Int32) ms.length)).toNatClampNeg (.int (0 : Int32))) := V_ob5
      refine own_go (fun _ => st5 _) ?_
      show GG _ _ _ _ _ _ _ T5 (mkF m 68 #[.val (.ref a1), .val (.int (2 : Int32)), .val (.ref ob1), .val (.ref ob4), .val (.int (0 : Int32)), .val (.int i), s6] [(.ref ob5), (.int (0 : Int32)), (.ref ob4)])
      have V_ob5 : Arx Z h5 ob5 .int ((List.replicate (cn ms (0 : Int32) ms.length) (0 : Int32)).map Value.int) := own_rep (Nat.le_trans (cn_le _ _ _) hn6) V_ob5
      obtain ⟨T6, h6, X6, e6, W6, V6, st6⟩ := own_aastore X5 hx hZ e5 V_ob4 (Ins.self E_ob5) (by decide) (Nat.le_of_ble_eq_true rfl) (g := (mkF m 68 #[.val (.ref a1), .val (.int (2 : Int32)), .val (.ref ob1), .val (.ref ob4), .val (.int (0 : Int32)), .val (.int i), s6] [(.ref ob5), (.int (0 : Int32)), (.ref ob4)])) rfl rfl (hb hby d2_68)
      have V_m := V_m.other W6 ne_a1_ob4
      have V_c := V_c.other W6 ne_ob1_ob4
      have K0 := K0.wr W6 (Or.inr sz_ob4)
      have V_ob5 := V_ob5.other W6 (Ne.symm ne_ob4_ob5)
      have E_ob5 := E_ob5.wr W6
      have V_ob4 : Ary Z h6 ob4 [(.ref ob5), .null] := V6
      have N6 := Fr.snoc X6 NL g_ob4
      refine own_go (fun _ => st6 _) ?_
      show GG _ _ _ _ _ _ _ T6 (mkF m 69 #[.val (.ref a1), .val (.int (2 : Int32)), .val (.ref ob1), .val (.ref ob4), .val (.int (0 : Int32)), .val (.int i), s6] [])
      refine own_go (fun _ => XS.aloadN X6.here hx rfl (hb hby d2_69) rfl rfl) ?_
      show GG _ _ _ _ _ _ _ T6 (mkF m 70 #[.val (.ref a1), .val (.int (2 : Int32)), .val (.ref ob1), .val (.ref ob4), .val (.int (0 : Int32)), .val (.int i), s6] [(.ref ob1)])
      refine own_go (fun _ => XS.iload X6.here hx rfl (hb hby d2_70) rfl) ?_
      show GG _ _ _ _ _ _ _ T6 (mkF m 72 #[.val (.ref a1), .val (.int (2 : Int32)), .val (.ref ob1), .val (.ref ob4), .val (.int (0 : Int32)), .val (.int i), s6] [(.int (0 : Int32)), (.ref ob1)])
      refine own_go (fun _ => XS.iconst X6.here hx rfl (hb hby d2_72)) ?_
      show GG _ _ _ _ _ _ _ T6 (mkF m 73 #[.val (.ref a1), .val (.int (2 : Int32)), .val (.ref ob1), .val (.ref ob4), .val (.int (0 : Int32)), .val (.int i), s6] [(.int (0 : Int32)), (.int (0 : Int32)), (.ref ob1)])
      obtain ⟨T7, h7, X7, e7, W7, V7, st7⟩ := own_iastore X6 hx hZ e6 V_c (by decide) (Nat.le_of_ble_eq_true rfl) (g := (mkF m 73 #[.val (.ref a1), .val (.int (2 : Int32)), .val (.ref ob1), .val (.ref ob4), .val (.int (0 : Int32)), .val (.int i), s6] [(.int (0 : Int32)), (.int (0 : Int32)), (.ref ob1)])) rfl rfl (hb hby d2_73)
      have V_m := V_m.other W7 ne_a1_ob1
      have K0 := K0.wr W7 (Or.inr sz_ob1)
      have V_ob4 := V_ob4.other W7 (Ne.symm ne_ob1_ob4)
      have V_ob5 := V_ob5.other W7 (Ne.symm ne_ob1_ob5)
      have E_ob5 := E_ob5.wr W7
      have V_c : Arx Z h7 ob1 .int [(.int (0 : Int32)), (.int (Int32.ofNat (cn ms (1 : Int32) ms.length)))] := V7
      have N7 := Fr.snoc X7 N6 g_ob1
      refine own_go (fun _ => st7 _) ?_
      show GG _ _ _ _ _ _ _ T7 (mkF m 74 #[.val (.ref a1), .val (.int (2 : Int32)), .val (.ref ob1), .val (.ref ob4), .val (.int (0 : Int32)), .val (.int i), s6] [])
      refine own_go (fun _ => XS.iinc X7.here hx rfl (hb hby d2_74) rfl (l' := #[.val (.ref a1), .val (.int (2 : Int32)), .val (.ref ob1), .val (.ref ob4), .val (.int (1 : Int32)), .val (.int i), s6]) rfl) ?_
      show GG _ _ _ _ _ _ _ T7 (mkF m 77 #[.val (.ref a1), .val (.int (2 : Int32)), .val (.ref ob1), .val (.ref ob4), .val (.int (1 : Int32)), .val (.int i), s6] [])
      refine own_go (fun _ => XS.goto X7.here hx rfl (pc0 := 77) (pc' := 53) rfl (hb hby d2_77) (by decide) (by decide)) ?_
      show GG _ _ _ _ _ _ _ T7 (mkF m 53 #[.val (.ref a1), .val (.int (2 : Int32)), .val (.ref ob1), .val (.ref ob4), .val (.int (1 : Int32)), .val (.int i), s6] [])
      refine own_go (fun _ => XS.iload X7.here hx rfl (hb hby d2_53) rfl) ?_
      show GG _ _ _ _ _ _ _ T7 (mkF m 55 #[.val (.ref a1), .val (.int (2 : Int32)), .val (.ref ob1), .val (.ref ob4), .val (.int (1 : Int32)), .val (.int i), s6] [(.int (1 : Int32))])
      refine own_go (fun _ => XS.iloadN X7.here hx rfl (hb hby d2_55) rfl) ?_
      show GG _ _ _ _ _ _ _ T7 (mkF m 56 #[.val (.ref a1), .val (.int (2 : Int32)), .val (.ref ob1), .val (.ref ob4), .val (.int (1 : Int32)), .val (.int i), s6] [(.int (2 : Int32)), (.int (1 : Int32))])
      have hc56 : (1 : Int32) < (2 : Int32) := by decide
      refine own_go (fun _ => XS.icmpNo X7.here hx rfl (hb hby d2_56) rfl (tlt hc56).2.1) ?_
      show GG _ _ _ _ _ _ _ T7 (mkF m 59 #[.val (.ref a1), .val (.int (2 : Int32)), .val (.ref ob1), .val (.ref ob4), .val (.int (1 : Int32)), .val (.int i), s6] [])
      refine own_go (fun _ => XS.aloadN X7.here hx rfl (hb hby d2_59) rfl rfl) ?_
      show GG _ _ _ _ _ _ _ T7 (mkF m 60 #[.val (.ref a1), .val (.int (2 : Int32)), .val (.ref ob1), .val (.ref ob4), .val (.int (1 : Int32)), .val (.int i), s6] [(.ref ob4)])
      refine own_go (fun _ => XS.iload X7.here hx rfl (hb hby d2_60) rfl) ?_
      show GG _ _ _ _ _ _ _ T7 (mkF m 62 #[.val (.ref a1), .val (.int (2 : Int32)), .val (.ref ob1), .val (.ref ob4), .val (.int (1 : Int32)), .val (.int i), s6] [(.int (1 : Int32)), (.ref ob4)])
      refine own_go (fun _ => XS.aloadN X7.here hx rfl (hb hby d2_62) rfl rfl) ?_
      show GG _ _ _ _ _ _ _ T7 (mkF m 63 #[.val (.ref a1), .val (.int (2 : Int32)), .val (.ref ob1), .val (.ref ob4), .val (.int (1 : Int32)), .val (.int i), s6] [(.ref ob1), (.int (1 : Int32)), (.ref ob4)])
      refine own_go (fun _ => XS.iload X7.here hx rfl (hb hby d2_63) rfl) ?_
      show GG _ _ _ _ _ _ _ T7 (mkF m 65 #[.val (.ref a1), .val (.int (2 : Int32)), .val (.ref ob1), .val (.ref ob4), .val (.int (1 : Int32)), .val (.int i), s6] [(.int (1 : Int32)), (.ref ob1), (.int (1 : Int32)), (.ref ob4)])
      refine own_go (fun _ => own_iaload X7 hx hZ e7 V_c (j := (1 : Int32)) (v := (.int (Int32.ofNat (cn ms (1 : Int32) ms.length)))) (by decide) rfl (g := (mkF m 65 #[.val (.ref a1), .val (.int (2 : Int32)), .val (.ref ob1), .val (.ref ob4), .val (.int (1 : Int32)), .val (.int i), s6] [(.int (1 : Int32)), (.ref ob1), (.int (1 : Int32)), (.ref ob4)])) rfl rfl (hb hby d2_65) _) ?_
      show GG _ _ _ _ _ _ _ T7 (mkF m 66 #[.val (.ref a1), .val (.int (2 : Int32)), .val (.ref ob1), .val (.ref ob4), .val (.int (1 : Int32)), .val (.int i), s6] [(.int (Int32.ofNat (cn ms (1 : Int32) ms.length))), (.int (1 : Int32)), (.ref ob4)])
      obtain ⟨T8, h8, ob8, g8, X8, e8, E8, V_ob8, E_ob8, st8⟩ := own_newarr X7 hx hZ (hw _ (List.mem_of_getElem? (i := 0) rfl)) e7 (g := (mkF m 66 #[.val (.ref a1), .val (.int (2 : Int32)), .val (.ref ob1), .val (.ref ob4), .val (.int (1 : Int32)), .val (.int i), s6] [(.int (Int32.ofNat (cn ms (1 : Int32) ms.length))), (.int (1 : Int32)), (.ref ob4)])) rfl (hb hby d2_66) rfl (own_onn (Nat.le_trans (cn_le _ _ _) hn6)) (cap := 6) (Nat.le_trans (Nat.le_of_eq (own_ocl (Nat.le_trans (cn_le _ _ _) hn6))) (Nat.le_trans (cn_le _ _ _) hn6)) (by decide) (by decide) (by decide) (ad := "[I") (by decide)
      have ne_a1_ob8 : a1 ≠ ob8 := Nat.ne_of_lt (Nat.lt_of_lt_of_le V_m.lt (Nat.le_of_eq g8.symm))
      have ne_ob1_ob8 : ob1 ≠ ob8 := Nat.ne_of_lt (Nat.lt_of_lt_of_le V_c.lt (Nat.le_of_eq g8.symm))
      have ne_ob4_ob8 : ob4 ≠ ob8 := Nat.ne_of_lt (Nat.lt_of_lt_of_le V_ob4.lt (Nat.le_of_eq g8.symm))
      have ne_ob5_ob8 : ob5 ≠ ob8 := Nat.ne_of_lt (Nat.lt_of_lt_of_le V_ob5.lt (Nat.le_of_eq g8.symm))
      have sz_ob8 : h0.size ≤ ob8 := Nat.le_trans K0.1 (Nat.le_of_eq g8.symm)
      have g_ob8 : n0 ≤ ob8 := Nat.le_trans Z0 sz_ob8
      have V_m := V_m.ext E8
      have V_c := V_c.ext E8
      have K0 := K0.ext E8
      have V_ob4 := V_ob4.ext E8
      have V_ob5 := V_ob5.ext E8
      have E_ob5 := E_ob5.ext E8
      have V_ob8 : Arx Z h8 ob8 .int (List.replicate (Int32.ofNat (cn ms (1 : Int32) ms.length)).toNatClampNeg (.int (0 : Int32))) := V_ob8
      refine own_go (fun _ => st8 _) ?_
      show GG _ _ _ _ _ _ _ T8 (mkF m 68 #[.val (.ref a1), .val (.int (2 : Int32)), .val (.ref ob1), .val (.ref ob4), .val (.int (1 : Int32)), .val (.int i), s6] [(.ref ob8), (.int (1 : Int32)), (.ref ob4)])
      have V_ob8 : Arx Z h8 ob8 .int ((List.replicate (cn ms (1 : Int32) ms.length) (0 : Int32)).map Value.int) := own_rep (Nat.le_trans (cn_le _ _ _) hn6) V_ob8
      obtain ⟨T9, h9, X9, e9, W9, V9, st9⟩ := own_aastore X8 hx hZ e8 V_ob4 (Ins.self E_ob8) (by decide) (Nat.le_of_ble_eq_true rfl) (g := (mkF m 68 #[.val (.ref a1), .val (.int (2 : Int32)), .val (.ref ob1), .val (.ref ob4), .val (.int (1 : Int32)), .val (.int i), s6] [(.ref ob8), (.int (1 : Int32)), (.ref ob4)])) rfl rfl (hb hby d2_68)
      have V_m := V_m.other W9 ne_a1_ob4
      have V_c := V_c.other W9 ne_ob1_ob4
      have K0 := K0.wr W9 (Or.inr sz_ob4)
      have V_ob5 := V_ob5.other W9 (Ne.symm ne_ob4_ob5)
      have E_ob5 := E_ob5.wr W9
      have V_ob8 := V_ob8.other W9 (Ne.symm ne_ob4_ob8)
      have E_ob8 := E_ob8.wr W9
      have V_ob4 : Ary Z h9 ob4 [(.ref ob5), (.ref ob8)] := V9
      have N9 := Fr.snoc X9 N7 g_ob4
      refine own_go (fun _ => st9 _) ?_
      show GG _ _ _ _ _ _ _ T9 (mkF m 69 #[.val (.ref a1), .val (.int (2 : Int32)), .val (.ref ob1), .val (.ref ob4), .val (.int (1 : Int32)), .val (.int i), s6] [])
      refine own_go (fun _ => XS.aloadN X9.here hx rfl (hb hby d2_69) rfl rfl) ?_
      show GG _ _ _ _ _ _ _ T9 (mkF m 70 #[.val (.ref a1), .val (.int (2 : Int32)), .val (.ref ob1), .val (.ref ob4), .val (.int (1 : Int32)), .val (.int i), s6] [(.ref ob1)])
      refine own_go (fun _ => XS.iload X9.here hx rfl (hb hby d2_70) rfl) ?_
      show GG _ _ _ _ _ _ _ T9 (mkF m 72 #[.val (.ref a1), .val (.int (2 : Int32)), .val (.ref ob1), .val (.ref ob4), .val (.int (1 : Int32)), .val (.int i), s6] [(.int (1 : Int32)), (.ref ob1)])
      refine own_go (fun _ => XS.iconst X9.here hx rfl (hb hby d2_72)) ?_
      show GG _ _ _ _ _ _ _ T9 (mkF m 73 #[.val (.ref a1), .val (.int (2 : Int32)), .val (.ref ob1), .val (.ref ob4), .val (.int (1 : Int32)), .val (.int i), s6] [(.int (0 : Int32)), (.int (1 : Int32)), (.ref ob1)])
      obtain ⟨T10, h10, X10, e10, W10, V10, st10⟩ := own_iastore X9 hx hZ e9 V_c (by decide) (Nat.le_of_ble_eq_true rfl) (g := (mkF m 73 #[.val (.ref a1), .val (.int (2 : Int32)), .val (.ref ob1), .val (.ref ob4), .val (.int (1 : Int32)), .val (.int i), s6] [(.int (0 : Int32)), (.int (1 : Int32)), (.ref ob1)])) rfl rfl (hb hby d2_73)
      have V_m := V_m.other W10 ne_a1_ob1
      have K0 := K0.wr W10 (Or.inr sz_ob1)
      have V_ob4 := V_ob4.other W10 (Ne.symm ne_ob1_ob4)
      have V_ob5 := V_ob5.other W10 (Ne.symm ne_ob1_ob5)
      have E_ob5 := E_ob5.wr W10
      have V_ob8 := V_ob8.other W10 (Ne.symm ne_ob1_ob8)
      have E_ob8 := E_ob8.wr W10
      have V_c : Arx Z h10 ob1 .int [(.int (0 : Int32)), (.int (0 : Int32))] := V10
      have N10 := Fr.snoc X10 N9 g_ob1
      refine own_go (fun _ => st10 _) ?_
      show GG _ _ _ _ _ _ _ T10 (mkF m 74 #[.val (.ref a1), .val (.int (2 : Int32)), .val (.ref ob1), .val (.ref ob4), .val (.int (1 : Int32)), .val (.int i), s6] [])
      refine own_go (fun _ => XS.iinc X10.here hx rfl (hb hby d2_74) rfl (l' := #[.val (.ref a1), .val (.int (2 : Int32)), .val (.ref ob1), .val (.ref ob4), .val (.int (2 : Int32)), .val (.int i), s6]) rfl) ?_
      show GG _ _ _ _ _ _ _ T10 (mkF m 77 #[.val (.ref a1), .val (.int (2 : Int32)), .val (.ref ob1), .val (.ref ob4), .val (.int (2 : Int32)), .val (.int i), s6] [])
      refine own_go (fun _ => XS.goto X10.here hx rfl (pc0 := 77) (pc' := 53) rfl (hb hby d2_77) (by decide) (by decide)) ?_
      show GG _ _ _ _ _ _ _ T10 (mkF m 53 #[.val (.ref a1), .val (.int (2 : Int32)), .val (.ref ob1), .val (.ref ob4), .val (.int (2 : Int32)), .val (.int i), s6] [])
      refine own_go (fun _ => XS.iload X10.here hx rfl (hb hby d2_53) rfl) ?_
      show GG _ _ _ _ _ _ _ T10 (mkF m 55 #[.val (.ref a1), .val (.int (2 : Int32)), .val (.ref ob1), .val (.ref ob4), .val (.int (2 : Int32)), .val (.int i), s6] [(.int (2 : Int32))])
      refine own_go (fun _ => XS.iloadN X10.here hx rfl (hb hby d2_55) rfl) ?_
      show GG _ _ _ _ _ _ _ T10 (mkF m 56 #[.val (.ref a1), .val (.int (2 : Int32)), .val (.ref ob1), .val (.ref ob4), .val (.int (2 : Int32)), .val (.int i), s6] [(.int (2 : Int32)), (.int (2 : Int32))])
      have hc56 : ¬ ((2 : Int32) < (2 : Int32)) := by decide
      refine own_go (fun _ => XS.icmpYes X10.here hx rfl (pc0 := 56) (pc' := 80) rfl (hb hby d2_56) rfl (flt hc56).2.1 (by decide) (by decide)) ?_
      show GG _ _ _ _ _ _ _ T10 (mkF m 80 #[.val (.ref a1), .val (.int (2 : Int32)), .val (.ref ob1), .val (.ref ob4), .val (.int (2 : Int32)), .val (.int i), s6] [])
      refine own_go (fun _ => XS.iconst X10.here hx rfl (hb hby d2_80)) ?_
      show GG _ _ _ _ _ _ _ T10 (mkF m 81 #[.val (.ref a1), .val (.int (2 : Int32)), .val (.ref ob1), .val (.ref ob4), .val (.int (2 : Int32)), .val (.int i), s6] [(.int (0 : Int32))])
      refine own_go (fun _ => XS.istore X10.here hx rfl (hb hby d2_81) rfl (l' := #[.val (.ref a1), .val (.int (2 : Int32)), .val (.ref ob1), .val (.ref ob4), .val (.int (0 : Int32)), .val (.int i), s6]) rfl) ?_
      show GG _ _ _ _ _ _ _ T10 (mkF m 83 #[.val (.ref a1), .val (.int (2 : Int32)), .val (.ref ob1), .val (.ref ob4), .val (.int (0 : Int32)), .val (.int i), s6] [])
      have V_r := V_ob4.arx
      have loop11 : ∀ (k : Nat) (iN : Nat) (i t5 : Int32) (vs0 vs1 : List Int32) (TL : State) (hL : Heap) (lL : List Loc) (XL : Stand p l e ({ frames := 0, cells := 6, slots := 32, locals := 0 } : Room) s m #[(.ref a1), (.int (2 : Int32))] below meth c TL lL 4 16) (eL : TL.heap = hL) (NL : Fr n0 lL) (hi : i.toInt = iN) (hk : iN + k = ms.length) (V_m : Arx Z hL a1 .int (ms.map Value.int)) (V_c : Arx Z hL ob1 .int [(.int (Int32.ofNat (cn ms (0 : Int32) iN))), (.int (Int32.ofNat (cn ms (1 : Int32) iN)))]) (V_r : Arx Z hL ob4 (.array .int) [(.ref ob5), (.ref ob8)]) (V_0 : Arx Z hL ob5 .int (vs0.map Value.int)) (R_0 : Row ms (0 : Int32) ms.length iN vs0) (V_1 : Arx Z hL ob8 .int (vs1.map Value.int)) (R_1 : Row ms (1 : Int32) ms.length iN vs1) (K0 : Keep h0 hL []), GG p e below s 6 32 (Q2_2 Z a1 ms h0 n0) TL (mkF m 83 #[.val (.ref a1), .val (.int (2 : Int32)), .val (.ref ob1), .val (.ref ob4), .val (.int i), .val (.int t5), s6] []) := by
        intro k
        induction k with
        | zero =>
          intro iN i t5 vs0 vs1 TL hL lL XL eL NL hi hk V_m V_c V_r V_0 R_0 V_1 R_1 K0
          obtain rfl : iN = ms.length := by omega
          show GG _ _ _ _ _ _ _ TL (mkF m 83 #[.val (.ref a1), .val (.int (2 : Int32)), .val (.ref ob1), .val (.ref ob4), .val (.int i), .val (.int t5), s6] [])
          refine own_go (fun _ => XS.iload XL.here hx rfl (hb hby d2_83) rfl) ?_
          show GG _ _ _ _ _ _ _ TL (mkF m 85 #[.val (.ref a1), .val (.int (2 : Int32)), .val (.ref ob1), .val (.ref ob4), .val (.int i), .val (.int t5), s6] [(.int i)])
          refine own_go (fun _ => XS.aloadN XL.here hx rfl (hb hby d2_85) rfl rfl) ?_
          show GG _ _ _ _ _ _ _ TL (mkF m 86 #[.val (.ref a1), .val (.int (2 : Int32)), .val (.ref ob1), .val (.ref ob4), .val (.int i), .val (.int t5), s6] [(.ref a1), (.int i)])
          refine own_go (fun _ => own_len XL hx hZ eL V_m (g := (mkF m 86 #[.val (.ref a1), .val (.int (2 : Int32)), .val (.ref ob1), .val (.ref ob4), .val (.int i), .val (.int t5), s6] [(.ref a1), (.int i)])) rfl rfl (hb hby d2_86) _) ?_
          show GG _ _ _ _ _ _ _ TL (mkF m 87 #[.val (.ref a1), .val (.int (2 : Int32)), .val (.ref ob1), .val (.ref ob4), .val (.int i), .val (.int t5), s6] [(.int (Int32.ofNat (ms.map Value.int).length)), (.int i)])
          generalize hy12 : (Int32.ofNat (ms.map Value.int).length) = y12
          have dy12 : y12.toInt = (ms.length : Nat) := by rw [← hy12, List.length_map]; exact own_ofNat (by omega)
          show GG _ _ _ _ _ _ _ TL (mkF m 87 #[.val (.ref a1), .val (.int (2 : Int32)), .val (.ref ob1), .val (.ref ob4), .val (.int i), .val (.int t5), s6] [(.int y12), (.int i)])
          have hc87 : ¬ (i < y12) := (fun q => absurd (Int32.lt_iff_toInt_lt.mp q) ((by show ¬ (i.toInt < y12.toInt); omega : ¬ (i.toInt < y12.toInt))))
          refine own_go (fun _ => XS.icmpYes XL.here hx rfl (pc0 := 87) (pc' := 123) rfl (hb hby d2_87) rfl (flt hc87).2.1 (by decide) (by decide)) ?_
          show GG _ _ _ _ _ _ _ TL (mkF m 123 #[.val (.ref a1), .val (.int (2 : Int32)), .val (.ref ob1), .val (.ref ob4), .val (.int i), .val (.int t5), s6] [])
          refine own_go (fun _ => XS.aloadN XL.here hx rfl (hb hby d2_123) rfl rfl) ?_
          show GG _ _ _ _ _ _ _ TL (mkF m 124 #[.val (.ref a1), .val (.int (2 : Int32)), .val (.ref ob1), .val (.ref ob4), .val (.int i), .val (.int t5), s6] [(.ref ob4)])
          refine own_ret XL hx hlk (t := (.array (.array .int))) (w := (.ref ob4)) Bd.returns rfl (Or.inr (Or.inr (Or.inr (Or.inr ⟨rfl, rfl, rfl⟩)))) (hb hby d2_124) (by decide) (by decide) ?_
          show Q2_2 Z a1 ms h0 n0 (some (.ref ob4)) TL.heap _
          rw [eL]
          exact ⟨_, [ob5, ob8], rfl, NL, K0, V_r, rfl, fun c hc => by
            match c, hc with
            | 0, _ => exact ⟨ob5, vs0, rfl, V_0, R_0⟩
            | 1, _ => exact ⟨ob8, vs1, rfl, V_1, R_1⟩
            | q + 2, hq => exact absurd hq (by show ¬ q + 2 < 2; omega)⟩
        | succ k ih =>
          intro iN i t5 vs0 vs1 TL hL lL XL eL NL hi hk V_m V_c V_r V_0 R_0 V_1 R_1 K0
          have ri := rng32 i
          have hii : i = Int32.ofNat iN := by rw [← Int32.toInt_inj, own_ofNat (by omega), hi]
          obtain ⟨y, hy⟩ : ∃ y, ms[iN]? = some y := ⟨_, List.getElem?_eq_getElem (show iN < ms.length by omega)⟩
          have hyr := hG iN y hy
          show GG _ _ _ _ _ _ _ TL (mkF m 83 #[.val (.ref a1), .val (.int (2 : Int32)), .val (.ref ob1), .val (.ref ob4), .val (.int i), .val (.int t5), s6] [])
          refine own_go (fun _ => XS.iload XL.here hx rfl (hb hby d2_83) rfl) ?_
          show GG _ _ _ _ _ _ _ TL (mkF m 85 #[.val (.ref a1), .val (.int (2 : Int32)), .val (.ref ob1), .val (.ref ob4), .val (.int i), .val (.int t5), s6] [(.int i)])
          refine own_go (fun _ => XS.aloadN XL.here hx rfl (hb hby d2_85) rfl rfl) ?_
          show GG _ _ _ _ _ _ _ TL (mkF m 86 #[.val (.ref a1), .val (.int (2 : Int32)), .val (.ref ob1), .val (.ref ob4), .val (.int i), .val (.int t5), s6] [(.ref a1), (.int i)])
          refine own_go (fun _ => own_len XL hx hZ eL V_m (g := (mkF m 86 #[.val (.ref a1), .val (.int (2 : Int32)), .val (.ref ob1), .val (.ref ob4), .val (.int i), .val (.int t5), s6] [(.ref a1), (.int i)])) rfl rfl (hb hby d2_86) _) ?_
          show GG _ _ _ _ _ _ _ TL (mkF m 87 #[.val (.ref a1), .val (.int (2 : Int32)), .val (.ref ob1), .val (.ref ob4), .val (.int i), .val (.int t5), s6] [(.int (Int32.ofNat (ms.map Value.int).length)), (.int i)])
          generalize hy13 : (Int32.ofNat (ms.map Value.int).length) = y13
          have dy13 : y13.toInt = (ms.length : Nat) := by rw [← hy13, List.length_map]; exact own_ofNat (by omega)
          show GG _ _ _ _ _ _ _ TL (mkF m 87 #[.val (.ref a1), .val (.int (2 : Int32)), .val (.ref ob1), .val (.ref ob4), .val (.int i), .val (.int t5), s6] [(.int y13), (.int i)])
          have hc87 : i < y13 := (Int32.lt_iff_toInt_lt.mpr ((by show (i.toInt < y13.toInt); omega : (i.toInt < y13.toInt))))
          refine own_go (fun _ => XS.icmpNo XL.here hx rfl (hb hby d2_87) rfl (tlt hc87).2.1) ?_
          show GG _ _ _ _ _ _ _ TL (mkF m 90 #[.val (.ref a1), .val (.int (2 : Int32)), .val (.ref ob1), .val (.ref ob4), .val (.int i), .val (.int t5), s6] [])
          refine own_go (fun _ => XS.aloadN XL.here hx rfl (hb hby d2_90) rfl rfl) ?_
          show GG _ _ _ _ _ _ _ TL (mkF m 91 #[.val (.ref a1), .val (.int (2 : Int32)), .val (.ref ob1), .val (.ref ob4), .val (.int i), .val (.int t5), s6] [(.ref a1)])
          refine own_go (fun _ => XS.iload XL.here hx rfl (hb hby d2_91) rfl) ?_
          show GG _ _ _ _ _ _ _ TL (mkF m 93 #[.val (.ref a1), .val (.int (2 : Int32)), .val (.ref ob1), .val (.ref ob4), .val (.int i), .val (.int t5), s6] [(.int i), (.ref a1)])
          refine own_go (fun _ => own_iaload XL hx hZ eL V_m (j := i) (v := (.int y)) (own_nn (by omega)) (own_mget hi hy) (g := (mkF m 93 #[.val (.ref a1), .val (.int (2 : Int32)), .val (.ref ob1), .val (.ref ob4), .val (.int i), .val (.int t5), s6] [(.int i), (.ref a1)])) rfl rfl (hb hby d2_93) _) ?_
          show GG _ _ _ _ _ _ _ TL (mkF m 94 #[.val (.ref a1), .val (.int (2 : Int32)), .val (.ref ob1), .val (.ref ob4), .val (.int i), .val (.int t5), s6] [(.int y)])
          refine own_go (fun _ => XS.istore XL.here hx rfl (hb hby d2_94) rfl (l' := #[.val (.ref a1), .val (.int (2 : Int32)), .val (.ref ob1), .val (.ref ob4), .val (.int i), .val (.int y), s6]) rfl) ?_
          show GG _ _ _ _ _ _ _ TL (mkF m 96 #[.val (.ref a1), .val (.int (2 : Int32)), .val (.ref ob1), .val (.ref ob4), .val (.int i), .val (.int y), s6] [])
          refine own_go (fun _ => XS.iload XL.here hx rfl (hb hby d2_96) rfl) ?_
          show GG _ _ _ _ _ _ _ TL (mkF m 98 #[.val (.ref a1), .val (.int (2 : Int32)), .val (.ref ob1), .val (.ref ob4), .val (.int i), .val (.int y), s6] [(.int y)])
          by_cases hneg : y.toInt < 0
          · skip
            have hc98 : y < (0 : Int32) := (Int32.lt_iff_toInt_lt.mpr ((by show (y.toInt < 0); omega : (y.toInt < 0))))
            refine own_go (fun _ => XS.ifYes XL.here hx rfl (pc0 := 98) (pc' := 117) rfl (hb hby d2_98) rfl ((if0 _ _).trans (tlt hc98).1) (by decide) (by decide)) ?_
            show GG _ _ _ _ _ _ _ TL (mkF m 117 #[.val (.ref a1), .val (.int (2 : Int32)), .val (.ref ob1), .val (.ref ob4), .val (.int i), .val (.int y), s6] [])
            refine own_go (fun _ => XS.iinc XL.here hx rfl (hb hby d2_117) rfl (l' := #[.val (.ref a1), .val (.int (2 : Int32)), .val (.ref ob1), .val (.ref ob4), .val (.int (i + (1 : Int32))), .val (.int y), s6]) rfl) ?_
            show GG _ _ _ _ _ _ _ TL (mkF m 120 #[.val (.ref a1), .val (.int (2 : Int32)), .val (.ref ob1), .val (.ref ob4), .val (.int (i + (1 : Int32))), .val (.int y), s6] [])
            have cx14 := c_iadd i (1 : Int32)
            simp only [show ((1 : Int32)).toInt = 1 from by decide] at cx14
            generalize hx14 : (i + (1 : Int32)) = x14 at cx14 ⊢
            have rx14 := rng32 x14
            have dx14 : x14.toInt = i.toInt + 1 := by omega
            clear cx14
            refine own_go (fun _ => XS.goto XL.here hx rfl (pc0 := 120) (pc' := 83) rfl (hb hby d2_120) (by decide) (by decide)) ?_
            show GG _ _ _ _ _ _ _ TL (mkF m 83 #[.val (.ref a1), .val (.int (2 : Int32)), .val (.ref ob1), .val (.ref ob4), .val (.int x14), .val (.int y), s6] [])
            have Vn : Arx Z hL ob1 .int [(.int (Int32.ofNat (cn ms (0 : Int32) (iN + 1)))), (.int (Int32.ofNat (cn ms (1 : Int32) (iN + 1))))] := by rw [own_cn0 (0 : Int32) hy (fun q => by rw [q] at hneg; exact absurd hneg (by decide)), own_cn0 (1 : Int32) hy (fun q => by rw [q] at hneg; exact absurd hneg (by decide))]; exact V_c
            exact ih (iN + 1) x14 y _ _ TL _ _ XL eL NL (by omega) (by omega) V_m Vn V_r V_0 (R_0.skip hy (fun q => by rw [q] at hneg; exact absurd hneg (by decide))) V_1 (R_1.skip hy (fun q => by rw [q] at hneg; exact absurd hneg (by decide))) K0
          · skip
            by_cases e0 : y.toInt = 0
            · skip
              obtain rfl : y = (0 : Int32) := Int32.toInt_inj.mp (by rw [e0]; decide)
              show GG _ _ _ _ _ _ _ TL (mkF m 98 #[.val (.ref a1), .val (.int (2 : Int32)), .val (.ref ob1), .val (.ref ob4), .val (.int i), .val (.int (0 : Int32)), s6] [(.int (0 : Int32))])
              have hcl := cn_lt (j := ms.length) hy (by omega)
              have hc6 := cn_le ms (0 : Int32) ms.length
              have hc98 : ¬ ((0 : Int32) < (0 : Int32)) := by decide
              refine own_go (fun _ => XS.ifNo XL.here hx rfl (hb hby d2_98) rfl ((if0 _ _).trans (flt hc98).1)) ?_
              show GG _ _ _ _ _ _ _ TL (mkF m 101 #[.val (.ref a1), .val (.int (2 : Int32)), .val (.ref ob1), .val (.ref ob4), .val (.int i), .val (.int (0 : Int32)), s6] [])
              refine own_go (fun _ => XS.aloadN XL.here hx rfl (hb hby d2_101) rfl rfl) ?_
              show GG _ _ _ _ _ _ _ TL (mkF m 102 #[.val (.ref a1), .val (.int (2 : Int32)), .val (.ref ob1), .val (.ref ob4), .val (.int i), .val (.int (0 : Int32)), s6] [(.ref ob4)])
              refine own_go (fun _ => XS.iload XL.here hx rfl (hb hby d2_102) rfl) ?_
              show GG _ _ _ _ _ _ _ TL (mkF m 104 #[.val (.ref a1), .val (.int (2 : Int32)), .val (.ref ob1), .val (.ref ob4), .val (.int i), .val (.int (0 : Int32)), s6] [(.int (0 : Int32)), (.ref ob4)])
              refine own_go (fun _ => own_aaload XL hx hZ eL V_r rfl (j := (0 : Int32)) (v := (.ref ob5)) (by decide) rfl (g := (mkF m 104 #[.val (.ref a1), .val (.int (2 : Int32)), .val (.ref ob1), .val (.ref ob4), .val (.int i), .val (.int (0 : Int32)), s6] [(.int (0 : Int32)), (.ref ob4)])) rfl rfl (hb hby d2_104) _) ?_
              show GG _ _ _ _ _ _ _ TL (mkF m 105 #[.val (.ref a1), .val (.int (2 : Int32)), .val (.ref ob1), .val (.ref ob4), .val (.int i), .val (.int (0 : Int32)), s6] [(.ref ob5)])
              refine own_go (fun _ => XS.aloadN XL.here hx rfl (hb hby d2_105) rfl rfl) ?_
              show GG _ _ _ _ _ _ _ TL (mkF m 106 #[.val (.ref a1), .val (.int (2 : Int32)), .val (.ref ob1), .val (.ref ob4), .val (.int i), .val (.int (0 : Int32)), s6] [(.ref ob1), (.ref ob5)])
              refine own_go (fun _ => XS.iload XL.here hx rfl (hb hby d2_106) rfl) ?_
              show GG _ _ _ _ _ _ _ TL (mkF m 108 #[.val (.ref a1), .val (.int (2 : Int32)), .val (.ref ob1), .val (.ref ob4), .val (.int i), .val (.int (0 : Int32)), s6] [(.int (0 : Int32)), (.ref ob1), (.ref ob5)])
              refine own_go (fun _ => XT.dup2 XL.here hx rfl (hb hby d2_108) rfl rfl rfl) ?_
              show GG _ _ _ _ _ _ _ TL (mkF m 109 #[.val (.ref a1), .val (.int (2 : Int32)), .val (.ref ob1), .val (.ref ob4), .val (.int i), .val (.int (0 : Int32)), s6] [(.int (0 : Int32)), (.ref ob1), (.int (0 : Int32)), (.ref ob1), (.ref ob5)])
              refine own_go (fun _ => own_iaload XL hx hZ eL V_c (j := (0 : Int32)) (v := (.int (Int32.ofNat (cn ms (0 : Int32) iN)))) (by decide) rfl (g := (mkF m 109 #[.val (.ref a1), .val (.int (2 : Int32)), .val (.ref ob1), .val (.ref ob4), .val (.int i), .val (.int (0 : Int32)), s6] [(.int (0 : Int32)), (.ref ob1), (.int (0 : Int32)), (.ref ob1), (.ref ob5)])) rfl rfl (hb hby d2_109) _) ?_
              show GG _ _ _ _ _ _ _ TL (mkF m 110 #[.val (.ref a1), .val (.int (2 : Int32)), .val (.ref ob1), .val (.ref ob4), .val (.int i), .val (.int (0 : Int32)), s6] [(.int (Int32.ofNat (cn ms (0 : Int32) iN))), (.int (0 : Int32)), (.ref ob1), (.ref ob5)])
              refine own_go (fun _ => own_dupX2 XL.here hx rfl (hb hby d2_110) rfl rfl rfl rfl) ?_
              show GG _ _ _ _ _ _ _ TL (mkF m 111 #[.val (.ref a1), .val (.int (2 : Int32)), .val (.ref ob1), .val (.ref ob4), .val (.int i), .val (.int (0 : Int32)), s6] [(.int (Int32.ofNat (cn ms (0 : Int32) iN))), (.int (0 : Int32)), (.ref ob1), (.int (Int32.ofNat (cn ms (0 : Int32) iN))), (.ref ob5)])
              refine own_go (fun _ => XS.iconst XL.here hx rfl (hb hby d2_111)) ?_
              show GG _ _ _ _ _ _ _ TL (mkF m 112 #[.val (.ref a1), .val (.int (2 : Int32)), .val (.ref ob1), .val (.ref ob4), .val (.int i), .val (.int (0 : Int32)), s6] [(.int (1 : Int32)), (.int (Int32.ofNat (cn ms (0 : Int32) iN))), (.int (0 : Int32)), (.ref ob1), (.int (Int32.ofNat (cn ms (0 : Int32) iN))), (.ref ob5)])
              refine own_go (fun _ => XS.iadd XL.here hx rfl (hb hby d2_112) rfl) ?_
              show GG _ _ _ _ _ _ _ TL (mkF m 113 #[.val (.ref a1), .val (.int (2 : Int32)), .val (.ref ob1), .val (.ref ob4), .val (.int i), .val (.int (0 : Int32)), s6] [(.int ((Int32.ofNat (cn ms (0 : Int32) iN)) + (1 : Int32))), (.int (0 : Int32)), (.ref ob1), (.int (Int32.ofNat (cn ms (0 : Int32) iN))), (.ref ob5)])
              obtain ⟨T15, h15, X15, e15, W15, V15, st15⟩ := own_iastore XL hx hZ eL V_c (by decide) (Nat.le_of_ble_eq_true rfl) (g := (mkF m 113 #[.val (.ref a1), .val (.int (2 : Int32)), .val (.ref ob1), .val (.ref ob4), .val (.int i), .val (.int (0 : Int32)), s6] [(.int ((Int32.ofNat (cn ms (0 : Int32) iN)) + (1 : Int32))), (.int (0 : Int32)), (.ref ob1), (.int (Int32.ofNat (cn ms (0 : Int32) iN))), (.ref ob5)])) rfl rfl (hb hby d2_113)
              have V_m := V_m.other W15 ne_a1_ob1
              have V_r := V_r.other W15 (Ne.symm ne_ob1_ob4)
              have K0 := K0.wr W15 (Or.inr sz_ob1)
              have V_0 := V_0.other W15 (Ne.symm ne_ob1_ob5)
              have V_1 := V_1.other W15 (Ne.symm ne_ob1_ob8)
              have V_c : Arx Z h15 ob1 .int [(.int ((Int32.ofNat (cn ms (0 : Int32) iN)) + (1 : Int32))), (.int (Int32.ofNat (cn ms (1 : Int32) iN)))] := V15
              have N15 := Fr.snoc X15 NL g_ob1
              refine own_go (fun _ => st15 _) ?_
              show GG _ _ _ _ _ _ _ T15 (mkF m 114 #[.val (.ref a1), .val (.int (2 : Int32)), .val (.ref ob1), .val (.ref ob4), .val (.int i), .val (.int (0 : Int32)), s6] [(.int (Int32.ofNat (cn ms (0 : Int32) iN))), (.ref ob5)])
              refine own_go (fun _ => XS.iload X15.here hx rfl (hb hby d2_114) rfl) ?_
              show GG _ _ _ _ _ _ _ T15 (mkF m 116 #[.val (.ref a1), .val (.int (2 : Int32)), .val (.ref ob1), .val (.ref ob4), .val (.int i), .val (.int (0 : Int32)), s6] [(.int i), (.int (Int32.ofNat (cn ms (0 : Int32) iN))), (.ref ob5)])
              obtain ⟨T16, h16, X16, e16, W16, V16, st16⟩ := own_iastore X15 hx hZ e15 V_0 (own_onn (by omega)) (by rw [List.length_map, R_0.1, own_ocl (by omega)]; exact hcl) (g := (mkF m 116 #[.val (.ref a1), .val (.int (2 : Int32)), .val (.ref ob1), .val (.ref ob4), .val (.int i), .val (.int (0 : Int32)), s6] [(.int i), (.int (Int32.ofNat (cn ms (0 : Int32) iN))), (.ref ob5)])) rfl rfl (hb hby d2_116)
              have V_m := V_m.other W16 ne_a1_ob5
              have V_c := V_c.other W16 ne_ob1_ob5
              have V_r := V_r.other W16 ne_ob4_ob5
              have K0 := K0.wr W16 (Or.inr sz_ob5)
              have V_1 := V_1.other W16 (Ne.symm ne_ob5_ob8)
              have V_0 : Arx Z h16 ob5 .int ((vs0.set (cn ms (0 : Int32) iN) i).map Value.int) := (own_rset (by omega) V16)
              have N16 := Fr.snoc X16 N15 g_ob5
              refine own_go (fun _ => st16 _) ?_
              show GG _ _ _ _ _ _ _ T16 (mkF m 117 #[.val (.ref a1), .val (.int (2 : Int32)), .val (.ref ob1), .val (.ref ob4), .val (.int i), .val (.int (0 : Int32)), s6] [])
              refine own_go (fun _ => XS.iinc X16.here hx rfl (hb hby d2_117) rfl (l' := #[.val (.ref a1), .val (.int (2 : Int32)), .val (.ref ob1), .val (.ref ob4), .val (.int (i + (1 : Int32))), .val (.int (0 : Int32)), s6]) rfl) ?_
              show GG _ _ _ _ _ _ _ T16 (mkF m 120 #[.val (.ref a1), .val (.int (2 : Int32)), .val (.ref ob1), .val (.ref ob4), .val (.int (i + (1 : Int32))), .val (.int (0 : Int32)), s6] [])
              have cx17 := c_iadd i (1 : Int32)
              simp only [show ((1 : Int32)).toInt = 1 from by decide] at cx17
              generalize hx17 : (i + (1 : Int32)) = x17 at cx17 ⊢
              have rx17 := rng32 x17
              have dx17 : x17.toInt = i.toInt + 1 := by omega
              clear cx17
              refine own_go (fun _ => XS.goto X16.here hx rfl (pc0 := 120) (pc' := 83) rfl (hb hby d2_120) (by decide) (by decide)) ?_
              show GG _ _ _ _ _ _ _ T16 (mkF m 83 #[.val (.ref a1), .val (.int (2 : Int32)), .val (.ref ob1), .val (.ref ob4), .val (.int x17), .val (.int (0 : Int32)), s6] [])
              have Vn : Arx Z h16 ob1 .int [(.int (Int32.ofNat (cn ms (0 : Int32) (iN + 1)))), (.int (Int32.ofNat (cn ms (1 : Int32) (iN + 1))))] := by rw [own_cn1 hy, own_cn0 (1 : Int32) hy (by decide)]; exact V_c
              exact ih (iN + 1) x17 (0 : Int32) _ _ T16 _ _ X16 e16 N16 (by omega) (by omega) V_m Vn V_r V_0 (by rw [hii]; exact R_0.put hy (by omega)) V_1 (R_1.skip hy (by decide)) K0
            by_cases e1 : y.toInt = 1
            · skip
              obtain rfl : y = (1 : Int32) := Int32.toInt_inj.mp (by rw [e1]; decide)
              show GG _ _ _ _ _ _ _ TL (mkF m 98 #[.val (.ref a1), .val (.int (2 : Int32)), .val (.ref ob1), .val (.ref ob4), .val (.int i), .val (.int (1 : Int32)), s6] [(.int (1 : Int32))])
              have hcl := cn_lt (j := ms.length) hy (by omega)
              have hc6 := cn_le ms (1 : Int32) ms.length
              have hc98 : ¬ ((1 : Int32) < (0 : Int32)) := by decide
              refine own_go (fun _ => XS.ifNo XL.here hx rfl (hb hby d2_98) rfl ((if0 _ _).trans (flt hc98).1)) ?_
              show GG _ _ _ _ _ _ _ TL (mkF m 101 #[.val (.ref a1), .val (.int (2 : Int32)), .val (.ref ob1), .val (.ref ob4), .val (.int i), .val (.int (1 : Int32)), s6] [])
              refine own_go (fun _ => XS.aloadN XL.here hx rfl (hb hby d2_101) rfl rfl) ?_
              show GG _ _ _ _ _ _ _ TL (mkF m 102 #[.val (.ref a1), .val (.int (2 : Int32)), .val (.ref ob1), .val (.ref ob4), .val (.int i), .val (.int (1 : Int32)), s6] [(.ref ob4)])
              refine own_go (fun _ => XS.iload XL.here hx rfl (hb hby d2_102) rfl) ?_
              show GG _ _ _ _ _ _ _ TL (mkF m 104 #[.val (.ref a1), .val (.int (2 : Int32)), .val (.ref ob1), .val (.ref ob4), .val (.int i), .val (.int (1 : Int32)), s6] [(.int (1 : Int32)), (.ref ob4)])
              refine own_go (fun _ => own_aaload XL hx hZ eL V_r rfl (j := (1 : Int32)) (v := (.ref ob8)) (by decide) rfl (g := (mkF m 104 #[.val (.ref a1), .val (.int (2 : Int32)), .val (.ref ob1), .val (.ref ob4), .val (.int i), .val (.int (1 : Int32)), s6] [(.int (1 : Int32)), (.ref ob4)])) rfl rfl (hb hby d2_104) _) ?_
              show GG _ _ _ _ _ _ _ TL (mkF m 105 #[.val (.ref a1), .val (.int (2 : Int32)), .val (.ref ob1), .val (.ref ob4), .val (.int i), .val (.int (1 : Int32)), s6] [(.ref ob8)])
              refine own_go (fun _ => XS.aloadN XL.here hx rfl (hb hby d2_105) rfl rfl) ?_
              show GG _ _ _ _ _ _ _ TL (mkF m 106 #[.val (.ref a1), .val (.int (2 : Int32)), .val (.ref ob1), .val (.ref ob4), .val (.int i), .val (.int (1 : Int32)), s6] [(.ref ob1), (.ref ob8)])
              refine own_go (fun _ => XS.iload XL.here hx rfl (hb hby d2_106) rfl) ?_
              show GG _ _ _ _ _ _ _ TL (mkF m 108 #[.val (.ref a1), .val (.int (2 : Int32)), .val (.ref ob1), .val (.ref ob4), .val (.int i), .val (.int (1 : Int32)), s6] [(.int (1 : Int32)), (.ref ob1), (.ref ob8)])
              refine own_go (fun _ => XT.dup2 XL.here hx rfl (hb hby d2_108) rfl rfl rfl) ?_
              show GG _ _ _ _ _ _ _ TL (mkF m 109 #[.val (.ref a1), .val (.int (2 : Int32)), .val (.ref ob1), .val (.ref ob4), .val (.int i), .val (.int (1 : Int32)), s6] [(.int (1 : Int32)), (.ref ob1), (.int (1 : Int32)), (.ref ob1), (.ref ob8)])
              refine own_go (fun _ => own_iaload XL hx hZ eL V_c (j := (1 : Int32)) (v := (.int (Int32.ofNat (cn ms (1 : Int32) iN)))) (by decide) rfl (g := (mkF m 109 #[.val (.ref a1), .val (.int (2 : Int32)), .val (.ref ob1), .val (.ref ob4), .val (.int i), .val (.int (1 : Int32)), s6] [(.int (1 : Int32)), (.ref ob1), (.int (1 : Int32)), (.ref ob1), (.ref ob8)])) rfl rfl (hb hby d2_109) _) ?_
              show GG _ _ _ _ _ _ _ TL (mkF m 110 #[.val (.ref a1), .val (.int (2 : Int32)), .val (.ref ob1), .val (.ref ob4), .val (.int i), .val (.int (1 : Int32)), s6] [(.int (Int32.ofNat (cn ms (1 : Int32) iN))), (.int (1 : Int32)), (.ref ob1), (.ref ob8)])
              refine own_go (fun _ => own_dupX2 XL.here hx rfl (hb hby d2_110) rfl rfl rfl rfl) ?_
              show GG _ _ _ _ _ _ _ TL (mkF m 111 #[.val (.ref a1), .val (.int (2 : Int32)), .val (.ref ob1), .val (.ref ob4), .val (.int i), .val (.int (1 : Int32)), s6] [(.int (Int32.ofNat (cn ms (1 : Int32) iN))), (.int (1 : Int32)), (.ref ob1), (.int (Int32.ofNat (cn ms (1 : Int32) iN))), (.ref ob8)])
              refine own_go (fun _ => XS.iconst XL.here hx rfl (hb hby d2_111)) ?_
              show GG _ _ _ _ _ _ _ TL (mkF m 112 #[.val (.ref a1), .val (.int (2 : Int32)), .val (.ref ob1), .val (.ref ob4), .val (.int i), .val (.int (1 : Int32)), s6] [(.int (1 : Int32)), (.int (Int32.ofNat (cn ms (1 : Int32) iN))), (.int (1 : Int32)), (.ref ob1), (.int (Int32.ofNat (cn ms (1 : Int32) iN))), (.ref ob8)])
              refine own_go (fun _ => XS.iadd XL.here hx rfl (hb hby d2_112) rfl) ?_
              show GG _ _ _ _ _ _ _ TL (mkF m 113 #[.val (.ref a1), .val (.int (2 : Int32)), .val (.ref ob1), .val (.ref ob4), .val (.int i), .val (.int (1 : Int32)), s6] [(.int ((Int32.ofNat (cn ms (1 : Int32) iN)) + (1 : Int32))), (.int (1 : Int32)), (.ref ob1), (.int (Int32.ofNat (cn ms (1 : Int32) iN))), (.ref ob8)])
              obtain ⟨T18, h18, X18, e18, W18, V18, st18⟩ := own_iastore XL hx hZ eL V_c (by decide) (Nat.le_of_ble_eq_true rfl) (g := (mkF m 113 #[.val (.ref a1), .val (.int (2 : Int32)), .val (.ref ob1), .val (.ref ob4), .val (.int i), .val (.int (1 : Int32)), s6] [(.int ((Int32.ofNat (cn ms (1 : Int32) iN)) + (1 : Int32))), (.int (1 : Int32)), (.ref ob1), (.int (Int32.ofNat (cn ms (1 : Int32) iN))), (.ref ob8)])) rfl rfl (hb hby d2_113)
              have V_m := V_m.other W18 ne_a1_ob1
              have V_r := V_r.other W18 (Ne.symm ne_ob1_ob4)
              have K0 := K0.wr W18 (Or.inr sz_ob1)
              have V_0 := V_0.other W18 (Ne.symm ne_ob1_ob5)
              have V_1 := V_1.other W18 (Ne.symm ne_ob1_ob8)
              have V_c : Arx Z h18 ob1 .int [(.int (Int32.ofNat (cn ms (0 : Int32) iN))), (.int ((Int32.ofNat (cn ms (1 : Int32) iN)) + (1 : Int32)))] := V18
              have N18 := Fr.snoc X18 NL g_ob1
              refine own_go (fun _ => st18 _) ?_
              show GG _ _ _ _ _ _ _ T18 (mkF m 114 #[.val (.ref a1), .val (.int (2 : Int32)), .val (.ref ob1), .val (.ref ob4), .val (.int i), .val (.int (1 : Int32)), s6] [(.int (Int32.ofNat (cn ms (1 : Int32) iN))), (.ref ob8)])
              refine own_go (fun _ => XS.iload X18.here hx rfl (hb hby d2_114) rfl) ?_
              show GG _ _ _ _ _ _ _ T18 (mkF m 116 #[.val (.ref a1), .val (.int (2 : Int32)), .val (.ref ob1), .val (.ref ob4), .val (.int i), .val (.int (1 : Int32)), s6] [(.int i), (.int (Int32.ofNat (cn ms (1 : Int32) iN))), (.ref ob8)])
              obtain ⟨T19, h19, X19, e19, W19, V19, st19⟩ := own_iastore X18 hx hZ e18 V_1 (own_onn (by omega)) (by rw [List.length_map, R_1.1, own_ocl (by omega)]; exact hcl) (g := (mkF m 116 #[.val (.ref a1), .val (.int (2 : Int32)), .val (.ref ob1), .val (.ref ob4), .val (.int i), .val (.int (1 : Int32)), s6] [(.int i), (.int (Int32.ofNat (cn ms (1 : Int32) iN))), (.ref ob8)])) rfl rfl (hb hby d2_116)
              have V_m := V_m.other W19 ne_a1_ob8
              have V_c := V_c.other W19 ne_ob1_ob8
              have V_r := V_r.other W19 ne_ob4_ob8
              have K0 := K0.wr W19 (Or.inr sz_ob8)
              have V_0 := V_0.other W19 ne_ob5_ob8
              have V_1 : Arx Z h19 ob8 .int ((vs1.set (cn ms (1 : Int32) iN) i).map Value.int) := (own_rset (by omega) V19)
              have N19 := Fr.snoc X19 N18 g_ob8
              refine own_go (fun _ => st19 _) ?_
              show GG _ _ _ _ _ _ _ T19 (mkF m 117 #[.val (.ref a1), .val (.int (2 : Int32)), .val (.ref ob1), .val (.ref ob4), .val (.int i), .val (.int (1 : Int32)), s6] [])
              refine own_go (fun _ => XS.iinc X19.here hx rfl (hb hby d2_117) rfl (l' := #[.val (.ref a1), .val (.int (2 : Int32)), .val (.ref ob1), .val (.ref ob4), .val (.int (i + (1 : Int32))), .val (.int (1 : Int32)), s6]) rfl) ?_
              show GG _ _ _ _ _ _ _ T19 (mkF m 120 #[.val (.ref a1), .val (.int (2 : Int32)), .val (.ref ob1), .val (.ref ob4), .val (.int (i + (1 : Int32))), .val (.int (1 : Int32)), s6] [])
              have cx20 := c_iadd i (1 : Int32)
              simp only [show ((1 : Int32)).toInt = 1 from by decide] at cx20
              generalize hx20 : (i + (1 : Int32)) = x20 at cx20 ⊢
              have rx20 := rng32 x20
              have dx20 : x20.toInt = i.toInt + 1 := by omega
              clear cx20
              refine own_go (fun _ => XS.goto X19.here hx rfl (pc0 := 120) (pc' := 83) rfl (hb hby d2_120) (by decide) (by decide)) ?_
              show GG _ _ _ _ _ _ _ T19 (mkF m 83 #[.val (.ref a1), .val (.int (2 : Int32)), .val (.ref ob1), .val (.ref ob4), .val (.int x20), .val (.int (1 : Int32)), s6] [])
              have Vn : Arx Z h19 ob1 .int [(.int (Int32.ofNat (cn ms (0 : Int32) (iN + 1)))), (.int (Int32.ofNat (cn ms (1 : Int32) (iN + 1))))] := by rw [own_cn0 (0 : Int32) hy (by decide), own_cn1 hy]; exact V_c
              exact ih (iN + 1) x20 (1 : Int32) _ _ T19 _ _ X19 e19 N19 (by omega) (by omega) V_m Vn V_r V_0 (R_0.skip hy (by decide)) V_1 (by rw [hii]; exact R_1.put hy (by omega)) K0
            exact absurd hyr (by omega)
      exact loop11 ms.length 0 (0 : Int32) i _ _ T10 h10 _ X10 e10 N10 (by decide) (by omega) V_m V_c V_r V_ob5 (Row.new _ _ _) V_ob8 (Row.new _ _ _) K0
    | succ k ih =>
      intro iN i s6 TL hL lL XL eL NL hi hk hs6 V_m V_c K0
      have ri := rng32 i
      obtain ⟨y, hy⟩ : ∃ y, ms[iN]? = some y := ⟨_, List.getElem?_eq_getElem (show iN < ms.length by omega)⟩
      have hyr := hG iN y hy
      show GG _ _ _ _ _ _ _ TL (mkF m 13 #[.val (.ref a1), .val (.int (2 : Int32)), .val (.ref ob1), .val (.ref a1), .val (.int y2), .val (.int i), s6] [])
      refine own_go (fun _ => XS.iload XL.here hx rfl (hb hby d2_13) rfl) ?_
      show GG _ _ _ _ _ _ _ TL (mkF m 15 #[.val (.ref a1), .val (.int (2 : Int32)), .val (.ref ob1), .val (.ref a1), .val (.int y2), .val (.int i), s6] [(.int i)])
      refine own_go (fun _ => XS.iload XL.here hx rfl (hb hby d2_15) rfl) ?_
      show GG _ _ _ _ _ _ _ TL (mkF m 17 #[.val (.ref a1), .val (.int (2 : Int32)), .val (.ref ob1), .val (.ref a1), .val (.int y2), .val (.int i), s6] [(.int y2), (.int i)])
      have hc17 : i < y2 := (Int32.lt_iff_toInt_lt.mpr ((by show (i.toInt < y2.toInt); omega : (i.toInt < y2.toInt))))
      refine own_go (fun _ => XS.icmpNo XL.here hx rfl (hb hby d2_17) rfl (tlt hc17).2.1) ?_
      show GG _ _ _ _ _ _ _ TL (mkF m 20 #[.val (.ref a1), .val (.int (2 : Int32)), .val (.ref ob1), .val (.ref a1), .val (.int y2), .val (.int i), s6] [])
      refine own_go (fun _ => XS.aloadN XL.here hx rfl (hb hby d2_20) rfl rfl) ?_
      show GG _ _ _ _ _ _ _ TL (mkF m 21 #[.val (.ref a1), .val (.int (2 : Int32)), .val (.ref ob1), .val (.ref a1), .val (.int y2), .val (.int i), s6] [(.ref a1)])
      refine own_go (fun _ => XS.iload XL.here hx rfl (hb hby d2_21) rfl) ?_
      show GG _ _ _ _ _ _ _ TL (mkF m 23 #[.val (.ref a1), .val (.int (2 : Int32)), .val (.ref ob1), .val (.ref a1), .val (.int y2), .val (.int i), s6] [(.int i), (.ref a1)])
      refine own_go (fun _ => own_iaload XL hx hZ eL V_m (j := i) (v := (.int y)) (own_nn (by omega)) (own_mget hi hy) (g := (mkF m 23 #[.val (.ref a1), .val (.int (2 : Int32)), .val (.ref ob1), .val (.ref a1), .val (.int y2), .val (.int i), s6] [(.int i), (.ref a1)])) rfl rfl (hb hby d2_23) _) ?_
      show GG _ _ _ _ _ _ _ TL (mkF m 24 #[.val (.ref a1), .val (.int (2 : Int32)), .val (.ref ob1), .val (.ref a1), .val (.int y2), .val (.int i), s6] [(.int y)])
      refine own_go (fun _ => XS.istore XL.here hx rfl (hb hby d2_24) rfl (l' := #[.val (.ref a1), .val (.int (2 : Int32)), .val (.ref ob1), .val (.ref a1), .val (.int y2), .val (.int i), .val (.int y)]) (XS.store1 (o := s6) rfl hs6 rfl)) ?_
      show GG _ _ _ _ _ _ _ TL (mkF m 26 #[.val (.ref a1), .val (.int (2 : Int32)), .val (.ref ob1), .val (.ref a1), .val (.int y2), .val (.int i), .val (.int y)] [])
      refine own_go (fun _ => XS.iload XL.here hx rfl (hb hby d2_26) rfl) ?_
      show GG _ _ _ _ _ _ _ TL (mkF m 28 #[.val (.ref a1), .val (.int (2 : Int32)), .val (.ref ob1), .val (.ref a1), .val (.int y2), .val (.int i), .val (.int y)] [(.int y)])
      by_cases hneg : y.toInt < 0
      · skip
        have hc28 : y < (0 : Int32) := (Int32.lt_iff_toInt_lt.mpr ((by show (y.toInt < 0); omega : (y.toInt < 0))))
        refine own_go (fun _ => XS.ifYes XL.here hx rfl (pc0 := 28) (pc' := 39) rfl (hb hby d2_28) rfl ((if0 _ _).trans (tlt hc28).1) (by decide) (by decide)) ?_
        show GG _ _ _ _ _ _ _ TL (mkF m 39 #[.val (.ref a1), .val (.int (2 : Int32)), .val (.ref ob1), .val (.ref a1), .val (.int y2), .val (.int i), .val (.int y)] [])
        have ri' := rng32 i
        refine own_go (fun _ => XS.iinc XL.here hx rfl (hb hby d2_39) rfl (l' := #[.val (.ref a1), .val (.int (2 : Int32)), .val (.ref ob1), .val (.ref a1), .val (.int y2), .val (.int (i + (1 : Int32))), .val (.int y)]) rfl) ?_
        show GG _ _ _ _ _ _ _ TL (mkF m 42 #[.val (.ref a1), .val (.int (2 : Int32)), .val (.ref ob1), .val (.ref a1), .val (.int y2), .val (.int (i + (1 : Int32))), .val (.int y)] [])
        have cx21 := c_iadd i (1 : Int32)
        simp only [show ((1 : Int32)).toInt = 1 from by decide] at cx21
        generalize hx21 : (i + (1 : Int32)) = x21 at cx21 ⊢
        have rx21 := rng32 x21
        have dx21 : x21.toInt = i.toInt + 1 := by omega
        clear cx21
        refine own_go (fun _ => XS.goto XL.here hx rfl (pc0 := 42) (pc' := 13) rfl (hb hby d2_42) (by decide) (by decide)) ?_
        show GG _ _ _ _ _ _ _ TL (mkF m 13 #[.val (.ref a1), .val (.int (2 : Int32)), .val (.ref ob1), .val (.ref a1), .val (.int y2), .val (.int x21), .val (.int y)] [])
        have Vn : Arx Z hL ob1 .int [(.int (Int32.ofNat (cn ms (0 : Int32) (iN + 1)))), (.int (Int32.ofNat (cn ms (1 : Int32) (iN + 1))))] := by rw [own_cn0 (0 : Int32) hy (fun q => by rw [q] at hneg; exact absurd hneg (by decide)), own_cn0 (1 : Int32) hy (fun q => by rw [q] at hneg; exact absurd hneg (by decide))]; exact V_c
        exact ih (iN + 1) x21 (.val (.int y)) TL _ _ XL eL NL (by omega) (by omega) (Or.inr ⟨_, rfl, rfl⟩) V_m Vn K0
      · skip
        by_cases e0 : y.toInt = 0
        · skip
          obtain rfl : y = (0 : Int32) := Int32.toInt_inj.mp (by rw [e0]; decide)
          show GG _ _ _ _ _ _ _ TL (mkF m 28 #[.val (.ref a1), .val (.int (2 : Int32)), .val (.ref ob1), .val (.ref a1), .val (.int y2), .val (.int i), .val (.int (0 : Int32))] [(.int (0 : Int32))])
          have hc28 : ¬ ((0 : Int32) < (0 : Int32)) := by decide
          refine own_go (fun _ => XS.ifNo XL.here hx rfl (hb hby d2_28) rfl ((if0 _ _).trans (flt hc28).1)) ?_
          show GG _ _ _ _ _ _ _ TL (mkF m 31 #[.val (.ref a1), .val (.int (2 : Int32)), .val (.ref ob1), .val (.ref a1), .val (.int y2), .val (.int i), .val (.int (0 : Int32))] [])
          refine own_go (fun _ => XS.aloadN XL.here hx rfl (hb hby d2_31) rfl rfl) ?_
          show GG _ _ _ _ _ _ _ TL (mkF m 32 #[.val (.ref a1), .val (.int (2 : Int32)), .val (.ref ob1), .val (.ref a1), .val (.int y2), .val (.int i), .val (.int (0 : Int32))] [(.ref ob1)])
          refine own_go (fun _ => XS.iload XL.here hx rfl (hb hby d2_32) rfl) ?_
          show GG _ _ _ _ _ _ _ TL (mkF m 34 #[.val (.ref a1), .val (.int (2 : Int32)), .val (.ref ob1), .val (.ref a1), .val (.int y2), .val (.int i), .val (.int (0 : Int32))] [(.int (0 : Int32)), (.ref ob1)])
          refine own_go (fun _ => XT.dup2 XL.here hx rfl (hb hby d2_34) rfl rfl rfl) ?_
          show GG _ _ _ _ _ _ _ TL (mkF m 35 #[.val (.ref a1), .val (.int (2 : Int32)), .val (.ref ob1), .val (.ref a1), .val (.int y2), .val (.int i), .val (.int (0 : Int32))] [(.int (0 : Int32)), (.ref ob1), (.int (0 : Int32)), (.ref ob1)])
          refine own_go (fun _ => own_iaload XL hx hZ eL V_c (j := (0 : Int32)) (v := (.int (Int32.ofNat (cn ms (0 : Int32) iN)))) (by decide) rfl (g := (mkF m 35 #[.val (.ref a1), .val (.int (2 : Int32)), .val (.ref ob1), .val (.ref a1), .val (.int y2), .val (.int i), .val (.int (0 : Int32))] [(.int (0 : Int32)), (.ref ob1), (.int (0 : Int32)), (.ref ob1)])) rfl rfl (hb hby d2_35) _) ?_
          show GG _ _ _ _ _ _ _ TL (mkF m 36 #[.val (.ref a1), .val (.int (2 : Int32)), .val (.ref ob1), .val (.ref a1), .val (.int y2), .val (.int i), .val (.int (0 : Int32))] [(.int (Int32.ofNat (cn ms (0 : Int32) iN))), (.int (0 : Int32)), (.ref ob1)])
          refine own_go (fun _ => XS.iconst XL.here hx rfl (hb hby d2_36)) ?_
          show GG _ _ _ _ _ _ _ TL (mkF m 37 #[.val (.ref a1), .val (.int (2 : Int32)), .val (.ref ob1), .val (.ref a1), .val (.int y2), .val (.int i), .val (.int (0 : Int32))] [(.int (1 : Int32)), (.int (Int32.ofNat (cn ms (0 : Int32) iN))), (.int (0 : Int32)), (.ref ob1)])
          refine own_go (fun _ => XS.iadd XL.here hx rfl (hb hby d2_37) rfl) ?_
          show GG _ _ _ _ _ _ _ TL (mkF m 38 #[.val (.ref a1), .val (.int (2 : Int32)), .val (.ref ob1), .val (.ref a1), .val (.int y2), .val (.int i), .val (.int (0 : Int32))] [(.int ((Int32.ofNat (cn ms (0 : Int32) iN)) + (1 : Int32))), (.int (0 : Int32)), (.ref ob1)])
          obtain ⟨T22, h22, X22, e22, W22, V22, st22⟩ := own_iastore XL hx hZ eL V_c (by decide) (Nat.le_of_ble_eq_true rfl) (g := (mkF m 38 #[.val (.ref a1), .val (.int (2 : Int32)), .val (.ref ob1), .val (.ref a1), .val (.int y2), .val (.int i), .val (.int (0 : Int32))] [(.int ((Int32.ofNat (cn ms (0 : Int32) iN)) + (1 : Int32))), (.int (0 : Int32)), (.ref ob1)])) rfl rfl (hb hby d2_38)
          have V_m := V_m.other W22 ne_a1_ob1
          have K0 := K0.wr W22 (Or.inr sz_ob1)
          have V_c : Arx Z h22 ob1 .int [(.int ((Int32.ofNat (cn ms (0 : Int32) iN)) + (1 : Int32))), (.int (Int32.ofNat (cn ms (1 : Int32) iN)))] := V22
          have N22 := Fr.snoc X22 NL g_ob1
          refine own_go (fun _ => st22 _) ?_
          show GG _ _ _ _ _ _ _ T22 (mkF m 39 #[.val (.ref a1), .val (.int (2 : Int32)), .val (.ref ob1), .val (.ref a1), .val (.int y2), .val (.int i), .val (.int (0 : Int32))] [])
          have ri' := rng32 i
          refine own_go (fun _ => XS.iinc X22.here hx rfl (hb hby d2_39) rfl (l' := #[.val (.ref a1), .val (.int (2 : Int32)), .val (.ref ob1), .val (.ref a1), .val (.int y2), .val (.int (i + (1 : Int32))), .val (.int (0 : Int32))]) rfl) ?_
          show GG _ _ _ _ _ _ _ T22 (mkF m 42 #[.val (.ref a1), .val (.int (2 : Int32)), .val (.ref ob1), .val (.ref a1), .val (.int y2), .val (.int (i + (1 : Int32))), .val (.int (0 : Int32))] [])
          have cx23 := c_iadd i (1 : Int32)
          simp only [show ((1 : Int32)).toInt = 1 from by decide] at cx23
          generalize hx23 : (i + (1 : Int32)) = x23 at cx23 ⊢
          have rx23 := rng32 x23
          have dx23 : x23.toInt = i.toInt + 1 := by omega
          clear cx23
          refine own_go (fun _ => XS.goto X22.here hx rfl (pc0 := 42) (pc' := 13) rfl (hb hby d2_42) (by decide) (by decide)) ?_
          show GG _ _ _ _ _ _ _ T22 (mkF m 13 #[.val (.ref a1), .val (.int (2 : Int32)), .val (.ref ob1), .val (.ref a1), .val (.int y2), .val (.int x23), .val (.int (0 : Int32))] [])
          have Vn : Arx Z h22 ob1 .int [(.int (Int32.ofNat (cn ms (0 : Int32) (iN + 1)))), (.int (Int32.ofNat (cn ms (1 : Int32) (iN + 1))))] := by rw [own_cn1 hy, own_cn0 (1 : Int32) hy (by decide)]; exact V_c
          exact ih (iN + 1) x23 (.val (.int (0 : Int32))) T22 _ _ X22 e22 N22 (by omega) (by omega) (Or.inr ⟨_, rfl, rfl⟩) V_m Vn K0
        by_cases e1 : y.toInt = 1
        · skip
          obtain rfl : y = (1 : Int32) := Int32.toInt_inj.mp (by rw [e1]; decide)
          show GG _ _ _ _ _ _ _ TL (mkF m 28 #[.val (.ref a1), .val (.int (2 : Int32)), .val (.ref ob1), .val (.ref a1), .val (.int y2), .val (.int i), .val (.int (1 : Int32))] [(.int (1 : Int32))])
          have hc28 : ¬ ((1 : Int32) < (0 : Int32)) := by decide
          refine own_go (fun _ => XS.ifNo XL.here hx rfl (hb hby d2_28) rfl ((if0 _ _).trans (flt hc28).1)) ?_
          show GG _ _ _ _ _ _ _ TL (mkF m 31 #[.val (.ref a1), .val (.int (2 : Int32)), .val (.ref ob1), .val (.ref a1), .val (.int y2), .val (.int i), .val (.int (1 : Int32))] [])
          refine own_go (fun _ => XS.aloadN XL.here hx rfl (hb hby d2_31) rfl rfl) ?_
          show GG _ _ _ _ _ _ _ TL (mkF m 32 #[.val (.ref a1), .val (.int (2 : Int32)), .val (.ref ob1), .val (.ref a1), .val (.int y2), .val (.int i), .val (.int (1 : Int32))] [(.ref ob1)])
          refine own_go (fun _ => XS.iload XL.here hx rfl (hb hby d2_32) rfl) ?_
          show GG _ _ _ _ _ _ _ TL (mkF m 34 #[.val (.ref a1), .val (.int (2 : Int32)), .val (.ref ob1), .val (.ref a1), .val (.int y2), .val (.int i), .val (.int (1 : Int32))] [(.int (1 : Int32)), (.ref ob1)])
          refine own_go (fun _ => XT.dup2 XL.here hx rfl (hb hby d2_34) rfl rfl rfl) ?_
          show GG _ _ _ _ _ _ _ TL (mkF m 35 #[.val (.ref a1), .val (.int (2 : Int32)), .val (.ref ob1), .val (.ref a1), .val (.int y2), .val (.int i), .val (.int (1 : Int32))] [(.int (1 : Int32)), (.ref ob1), (.int (1 : Int32)), (.ref ob1)])
          refine own_go (fun _ => own_iaload XL hx hZ eL V_c (j := (1 : Int32)) (v := (.int (Int32.ofNat (cn ms (1 : Int32) iN)))) (by decide) rfl (g := (mkF m 35 #[.val (.ref a1), .val (.int (2 : Int32)), .val (.ref ob1), .val (.ref a1), .val (.int y2), .val (.int i), .val (.int (1 : Int32))] [(.int (1 : Int32)), (.ref ob1), (.int (1 : Int32)), (.ref ob1)])) rfl rfl (hb hby d2_35) _) ?_
          show GG _ _ _ _ _ _ _ TL (mkF m 36 #[.val (.ref a1), .val (.int (2 : Int32)), .val (.ref ob1), .val (.ref a1), .val (.int y2), .val (.int i), .val (.int (1 : Int32))] [(.int (Int32.ofNat (cn ms (1 : Int32) iN))), (.int (1 : Int32)), (.ref ob1)])
          refine own_go (fun _ => XS.iconst XL.here hx rfl (hb hby d2_36)) ?_
          show GG _ _ _ _ _ _ _ TL (mkF m 37 #[.val (.ref a1), .val (.int (2 : Int32)), .val (.ref ob1), .val (.ref a1), .val (.int y2), .val (.int i), .val (.int (1 : Int32))] [(.int (1 : Int32)), (.int (Int32.ofNat (cn ms (1 : Int32) iN))), (.int (1 : Int32)), (.ref ob1)])
          refine own_go (fun _ => XS.iadd XL.here hx rfl (hb hby d2_37) rfl) ?_
          show GG _ _ _ _ _ _ _ TL (mkF m 38 #[.val (.ref a1), .val (.int (2 : Int32)), .val (.ref ob1), .val (.ref a1), .val (.int y2), .val (.int i), .val (.int (1 : Int32))] [(.int ((Int32.ofNat (cn ms (1 : Int32) iN)) + (1 : Int32))), (.int (1 : Int32)), (.ref ob1)])
          obtain ⟨T24, h24, X24, e24, W24, V24, st24⟩ := own_iastore XL hx hZ eL V_c (by decide) (Nat.le_of_ble_eq_true rfl) (g := (mkF m 38 #[.val (.ref a1), .val (.int (2 : Int32)), .val (.ref ob1), .val (.ref a1), .val (.int y2), .val (.int i), .val (.int (1 : Int32))] [(.int ((Int32.ofNat (cn ms (1 : Int32) iN)) + (1 : Int32))), (.int (1 : Int32)), (.ref ob1)])) rfl rfl (hb hby d2_38)
          have V_m := V_m.other W24 ne_a1_ob1
          have K0 := K0.wr W24 (Or.inr sz_ob1)
          have V_c : Arx Z h24 ob1 .int [(.int (Int32.ofNat (cn ms (0 : Int32) iN))), (.int ((Int32.ofNat (cn ms (1 : Int32) iN)) + (1 : Int32)))] := V24
          have N24 := Fr.snoc X24 NL g_ob1
          refine own_go (fun _ => st24 _) ?_
          show GG _ _ _ _ _ _ _ T24 (mkF m 39 #[.val (.ref a1), .val (.int (2 : Int32)), .val (.ref ob1), .val (.ref a1), .val (.int y2), .val (.int i), .val (.int (1 : Int32))] [])
          have ri' := rng32 i
          refine own_go (fun _ => XS.iinc X24.here hx rfl (hb hby d2_39) rfl (l' := #[.val (.ref a1), .val (.int (2 : Int32)), .val (.ref ob1), .val (.ref a1), .val (.int y2), .val (.int (i + (1 : Int32))), .val (.int (1 : Int32))]) rfl) ?_
          show GG _ _ _ _ _ _ _ T24 (mkF m 42 #[.val (.ref a1), .val (.int (2 : Int32)), .val (.ref ob1), .val (.ref a1), .val (.int y2), .val (.int (i + (1 : Int32))), .val (.int (1 : Int32))] [])
          have cx25 := c_iadd i (1 : Int32)
          simp only [show ((1 : Int32)).toInt = 1 from by decide] at cx25
          generalize hx25 : (i + (1 : Int32)) = x25 at cx25 ⊢
          have rx25 := rng32 x25
          have dx25 : x25.toInt = i.toInt + 1 := by omega
          clear cx25
          refine own_go (fun _ => XS.goto X24.here hx rfl (pc0 := 42) (pc' := 13) rfl (hb hby d2_42) (by decide) (by decide)) ?_
          show GG _ _ _ _ _ _ _ T24 (mkF m 13 #[.val (.ref a1), .val (.int (2 : Int32)), .val (.ref ob1), .val (.ref a1), .val (.int y2), .val (.int x25), .val (.int (1 : Int32))] [])
          have Vn : Arx Z h24 ob1 .int [(.int (Int32.ofNat (cn ms (0 : Int32) (iN + 1)))), (.int (Int32.ofNat (cn ms (1 : Int32) (iN + 1))))] := by rw [own_cn0 (0 : Int32) hy (by decide), own_cn1 hy]; exact V_c
          exact ih (iN + 1) x25 (.val (.int (1 : Int32))) T24 _ _ X24 e24 N24 (by omega) (by omega) (Or.inr ⟨_, rfl, rfl⟩) V_m Vn K0
        exact absurd hyr (by omega)
  exact loop3 ms.length 0 (0 : Int32) .unset T1 h1 _ X1 e1 N0 (by decide) (by omega) (Or.inl rfl) V_m V_ob1 K0
def Q2_3 (Z : State) (a1 : Addr) (ms : List Int32) (h0 : Heap) (n0 : Nat) (v : Option Value) (h : Heap) (L : List Loc) : Prop := ∃ b rs, v = some (.ref b) ∧ Fr n0 L ∧ Keep h0 h [] ∧ Arx Z h b (.array .int) (rs.map Value.ref) ∧ rs.length = 3 ∧ Rows Z h ms rs
set_option maxRecDepth 65536 in
set_option maxHeartbeats 40000000 in
theorem rm2_3 (l : Launch) (Z : State) (a0 : Array Value) (hw : ∀ d ∈ tables_1, d.before a0 Z = true) (ws : List Jvm.Cond) (a1 : Addr) (ms : List Int32) (h0 : Heap) (n0 : Nat) (Z0 : n0 ≤ h0.size) (V_m : Arx Z h0 a1 .int (ms.map Value.int)) (hn6 : ms.length ≤ 6) (hG : ∀ (j : Nat) (y : Int32), ms[j]? = some y → -1 ≤ y.toInt ∧ y.toInt < 3) :
    own_CT l Z (⟨"com/example/deft_shards/deftshards/cluster/KMeans", "members", "([II)[[I"⟩ : MethodName) prog_2_method_3_code 7 (some (.array (.array .int))) ws ({ frames := 0, cells := 6, slots := 32, locals := 0 } : Room) #[(.ref a1), (.int (3 : Int32))] h0 (Q2_3 Z a1 ms h0 n0) := by
  refine MetFree.of_bodySF (plainFor_of_name pn_com_example_deft_shards_deftshards_cluster_KMeans) hisR ?_
  intro p e s m args below meth c s₁ Bd hml0 hP hK
  obtain ⟨rfl, hZ, hh⟩ := hP
  have hx := Bd.exec
  have hby := Bd.bytes
  have hml : c.maxLocals = 7 := hml0
  have hown : s.vm.findClass "com/example/deft_shards/deftshards/cluster/KMeans" = some m.cls := findClass_of_methodNamed Bd.named
  have hnm := (name_of_methodNamed Bd.named Bd.method).1
  have hlk : meth.locks = false := BodyLoose.notSynchronized Bd
  have X0 : Stand p l e ({ frames := 0, cells := 6, slots := 32, locals := 0 } : Room) s m #[(.ref a1), (.int (3 : Int32))] below meth c s₁ [] 0 0 := Stand.of_body Bd
  have e0 : s₁.heap = h0 := by rw [← hh, Bd.state]; rfl
  have N0 := Fr.nil n0
  show GG p e below s ({ frames := 0, cells := 6, slots := 32, locals := 0 } : Room).cells ({ frames := 0, cells := 6, slots := 32, locals := 0 } : Room).slots (Q2_3 Z a1 ms h0 n0) s₁ (entryFrame m #[(.ref a1), (.int (3 : Int32))] 7)
  refine own_in (ef_2 m a1 (3 : Int32)) ?_
  have K0 := Keep.refl h0 []
  show GG _ _ _ _ _ _ _ s₁ (mkF m 0 #[.val (.ref a1), .val (.int (3 : Int32)), .unset, .unset, .unset, .unset, .unset] [])
  refine own_go (fun _ => XS.iloadN X0.here hx rfl (hb hby d2_0) rfl) ?_
  show GG _ _ _ _ _ _ _ s₁ (mkF m 1 #[.val (.ref a1), .val (.int (3 : Int32)), .unset, .unset, .unset, .unset, .unset] [(.int (3 : Int32))])
  obtain ⟨T1, h1, ob1, g1, X1, e1, E1, V_ob1, E_ob1, st1⟩ := own_newarr X0 hx hZ (hw _ (List.mem_of_getElem? (i := 0) rfl)) e0 (g := (mkF m 1 #[.val (.ref a1), .val (.int (3 : Int32)), .unset, .unset, .unset, .unset, .unset] [(.int (3 : Int32))])) rfl (hb hby d2_1) rfl (by decide) (cap := 3) (by decide) (by decide) (by decide) (by decide) (ad := "[I") (by decide)
  have ne_a1_ob1 : a1 ≠ ob1 := Nat.ne_of_lt (Nat.lt_of_lt_of_le V_m.lt (Nat.le_of_eq g1.symm))
  have sz_ob1 : h0.size ≤ ob1 := Nat.le_trans K0.1 (Nat.le_of_eq g1.symm)
  have g_ob1 : n0 ≤ ob1 := Nat.le_trans Z0 sz_ob1
  have V_m := V_m.ext E1
  have K0 := K0.ext E1
  have V_ob1 : Arx Z h1 ob1 .int [(.int (0 : Int32)), (.int (0 : Int32)), (.int (0 : Int32))] := V_ob1
  refine own_go (fun _ => st1 _) ?_
  show GG _ _ _ _ _ _ _ T1 (mkF m 3 #[.val (.ref a1), .val (.int (3 : Int32)), .unset, .unset, .unset, .unset, .unset] [(.ref ob1)])
  refine own_go (fun _ => XS.astoreN X1.here hx rfl (hb hby d2_3) rfl rfl (l' := #[.val (.ref a1), .val (.int (3 : Int32)), .val (.ref ob1), .unset, .unset, .unset, .unset]) rfl) ?_
  show GG _ _ _ _ _ _ _ T1 (mkF m 4 #[.val (.ref a1), .val (.int (3 : Int32)), .val (.ref ob1), .unset, .unset, .unset, .unset] [])
  refine own_go (fun _ => XS.aloadN X1.here hx rfl (hb hby d2_4) rfl rfl) ?_
  show GG _ _ _ _ _ _ _ T1 (mkF m 5 #[.val (.ref a1), .val (.int (3 : Int32)), .val (.ref ob1), .unset, .unset, .unset, .unset] [(.ref a1)])
  refine own_go (fun _ => XS.astoreN X1.here hx rfl (hb hby d2_5) rfl rfl (l' := #[.val (.ref a1), .val (.int (3 : Int32)), .val (.ref ob1), .val (.ref a1), .unset, .unset, .unset]) rfl) ?_
  show GG _ _ _ _ _ _ _ T1 (mkF m 6 #[.val (.ref a1), .val (.int (3 : Int32)), .val (.ref ob1), .val (.ref a1), .unset, .unset, .unset] [])
  refine own_go (fun _ => XS.aloadN X1.here hx rfl (hb hby d2_6) rfl rfl) ?_
  show GG _ _ _ _ _ _ _ T1 (mkF m 7 #[.val (.ref a1), .val (.int (3 : Int32)), .val (.ref ob1), .val (.ref a1), .unset, .unset, .unset] [(.ref a1)])
  refine own_go (fun _ => own_len X1 hx hZ e1 V_m (g := (mkF m 7 #[.val (.ref a1), .val (.int (3 : Int32)), .val (.ref ob1), .val (.ref a1), .unset, .unset, .unset] [(.ref a1)])) rfl rfl (hb hby d2_7) _) ?_
  show GG _ _ _ _ _ _ _ T1 (mkF m 8 #[.val (.ref a1), .val (.int (3 : Int32)), .val (.ref ob1), .val (.ref a1), .unset, .unset, .unset] [(.int (Int32.ofNat (ms.map Value.int).length))])
  generalize hy2 : (Int32.ofNat (ms.map Value.int).length) = y2
  have dy2 : y2.toInt = (ms.length : Nat) := by rw [← hy2, List.length_map]; exact own_ofNat (by omega)
  show GG _ _ _ _ _ _ _ T1 (mkF m 8 #[.val (.ref a1), .val (.int (3 : Int32)), .val (.ref ob1), .val (.ref a1), .unset, .unset, .unset] [(.int y2)])
  refine own_go (fun _ => XS.istore X1.here hx rfl (hb hby d2_8) rfl (l' := #[.val (.ref a1), .val (.int (3 : Int32)), .val (.ref ob1), .val (.ref a1), .val (.int y2), .unset, .unset]) rfl) ?_
  show GG _ _ _ _ _ _ _ T1 (mkF m 10 #[.val (.ref a1), .val (.int (3 : Int32)), .val (.ref ob1), .val (.ref a1), .val (.int y2), .unset, .unset] [])
  refine own_go (fun _ => XS.iconst X1.here hx rfl (hb hby d2_10)) ?_
  show GG _ _ _ _ _ _ _ T1 (mkF m 11 #[.val (.ref a1), .val (.int (3 : Int32)), .val (.ref ob1), .val (.ref a1), .val (.int y2), .unset, .unset] [(.int (0 : Int32))])
  refine own_go (fun _ => XS.istore X1.here hx rfl (hb hby d2_11) rfl (l' := #[.val (.ref a1), .val (.int (3 : Int32)), .val (.ref ob1), .val (.ref a1), .val (.int y2), .val (.int (0 : Int32)), .unset]) rfl) ?_
  show GG _ _ _ _ _ _ _ T1 (mkF m 13 #[.val (.ref a1), .val (.int (3 : Int32)), .val (.ref ob1), .val (.ref a1), .val (.int y2), .val (.int (0 : Int32)), .unset] [])
  have loop3 : ∀ (k : Nat) (iN : Nat) (i : Int32) (s6 : Slot) (TL : State) (hL : Heap) (lL : List Loc) (XL : Stand p l e ({ frames := 0, cells := 6, slots := 32, locals := 0 } : Room) s m #[(.ref a1), (.int (3 : Int32))] below meth c TL lL 1 3) (eL : TL.heap = hL) (NL : Fr n0 lL) (hi : i.toInt = iN) (hk : iN + k = ms.length) (hs6 : s6 = .unset ∨ ∃ w, s6 = .val w ∧ w.category = 1) (V_m : Arx Z hL a1 .int (ms.map Value.int)) (V_c : Arx Z hL ob1 .int [(.int (Int32.ofNat (cn ms (0 : Int32) iN))), (.int (Int32.ofNat (cn ms (1 : Int32) iN))), (.int (Int32.ofNat (cn ms (2 : Int32) iN)))]) (K0 : Keep h0 hL []), GG p e below s 6 32 (Q2_3 Z a1 ms h0 n0) TL (mkF m 13 #[.val (.ref a1), .val (.int (3 : Int32)), .val (.ref ob1), .val (.ref a1), .val (.int y2), .val (.int i), s6] []) := by
    intro k
    induction k with
    | zero =>
      intro iN i s6 TL hL lL XL eL NL hi hk hs6 V_m V_c K0
      obtain rfl : iN = ms.length := by omega
      show GG _ _ _ _ _ _ _ TL (mkF m 13 #[.val (.ref a1), .val (.int (3 : Int32)), .val (.ref ob1), .val (.ref a1), .val (.int y2), .val (.int i), s6] [])
      refine own_go (fun _ => XS.iload XL.here hx rfl (hb hby d2_13) rfl) ?_
      show GG _ _ _ _ _ _ _ TL (mkF m 15 #[.val (.ref a1), .val (.int (3 : Int32)), .val (.ref ob1), .val (.ref a1), .val (.int y2), .val (.int i), s6] [(.int i)])
      refine own_go (fun _ => XS.iload XL.here hx rfl (hb hby d2_15) rfl) ?_
      show GG _ _ _ _ _ _ _ TL (mkF m 17 #[.val (.ref a1), .val (.int (3 : Int32)), .val (.ref ob1), .val (.ref a1), .val (.int y2), .val (.int i), s6] [(.int y2), (.int i)])
      have hc17 : ¬ (i < y2) := (fun q => absurd (Int32.lt_iff_toInt_lt.mp q) ((by show ¬ (i.toInt < y2.toInt); omega : ¬ (i.toInt < y2.toInt))))
      refine own_go (fun _ => XS.icmpYes XL.here hx rfl (pc0 := 17) (pc' := 45) rfl (hb hby d2_17) rfl (flt hc17).2.1 (by decide) (by decide)) ?_
      show GG _ _ _ _ _ _ _ TL (mkF m 45 #[.val (.ref a1), .val (.int (3 : Int32)), .val (.ref ob1), .val (.ref a1), .val (.int y2), .val (.int i), s6] [])
      refine own_go (fun _ => XS.iloadN XL.here hx rfl (hb hby d2_45) rfl) ?_
      show GG _ _ _ _ _ _ _ TL (mkF m 46 #[.val (.ref a1), .val (.int (3 : Int32)), .val (.ref ob1), .val (.ref a1), .val (.int y2), .val (.int i), s6] [(.int (3 : Int32))])
      obtain ⟨T4, h4, ob4, g4, X4, e4, E4, V_ob4, E_ob4, st4⟩ := own_newRA XL hx hZ hown (hw _ (List.mem_of_getElem? (i := 10) rfl)) (hw _ (List.mem_of_getElem? (i := 11) rfl)) eL (g := (mkF m 46 #[.val (.ref a1), .val (.int (3 : Int32)), .val (.ref ob1), .val (.ref a1), .val (.int y2), .val (.int i), s6] [(.int (3 : Int32))])) rfl (hb hby d2_46) rfl (by decide) (cap := 3) (by decide) (by decide) (by decide) (by decide)
      have ne_a1_ob4 : a1 ≠ ob4 := Nat.ne_of_lt (Nat.lt_of_lt_of_le V_m.lt (Nat.le_of_eq g4.symm))
      have ne_ob1_ob4 : ob1 ≠ ob4 := Nat.ne_of_lt (Nat.lt_of_lt_of_le V_c.lt (Nat.le_of_eq g4.symm))
      have sz_ob4 : h0.size ≤ ob4 := Nat.le_trans K0.1 (Nat.le_of_eq g4.symm)
      have g_ob4 : n0 ≤ ob4 := Nat.le_trans Z0 sz_ob4
      have V_m := V_m.ext E4
      have V_c := V_c.ext E4
      have K0 := K0.ext E4
      have V_ob4 : Ary Z h4 ob4 [.null, .null, .null] := V_ob4
      refine own_go (fun _ => st4 _) ?_
      show GG _ _ _ _ _ _ _ T4 (mkF m 49 #[.val (.ref a1), .val (.int (3 : Int32)), .val (.ref ob1), .val (.ref a1), .val (.int y2), .val (.int i), s6] [(.ref ob4)])
      refine own_go (fun _ => XS.astoreN X4.here hx rfl (hb hby d2_49) rfl rfl (l' := #[.val (.ref a1), .val (.int (3 : Int32)), .val (.ref ob1), .val (.ref ob4), .val (.int y2), .val (.int i), s6]) rfl) ?_
      show GG _ _ _ _ _ _ _ T4 (mkF m 50 #[.val (.ref a1), .val (.int (3 : Int32)), .val (.ref ob1), .val (.ref ob4), .val (.int y2), .val (.int i), s6] [])
      refine own_go (fun _ => XS.iconst X4.here hx rfl (hb hby d2_50)) ?_
      show GG _ _ _ _ _ _ _ T4 (mkF m 51 #[.val (.ref a1), .val (.int (3 : Int32)), .val (.ref ob1), .val (.ref ob4), .val (.int y2), .val (.int i), s6] [(.int (0 : Int32))])
      refine own_go (fun _ => XS.istore X4.here hx rfl (hb hby d2_51) rfl (l' := #[.val (.ref a1), .val (.int (3 : Int32)), .val (.ref ob1), .val (.ref ob4), .val (.int (0 : Int32)), .val (.int i), s6]) rfl) ?_
      show GG _ _ _ _ _ _ _ T4 (mkF m 53 #[.val (.ref a1), .val (.int (3 : Int32)), .val (.ref ob1), .val (.ref ob4), .val (.int (0 : Int32)), .val (.int i), s6] [])
      refine own_go (fun _ => XS.iload X4.here hx rfl (hb hby d2_53) rfl) ?_
      show GG _ _ _ _ _ _ _ T4 (mkF m 55 #[.val (.ref a1), .val (.int (3 : Int32)), .val (.ref ob1), .val (.ref ob4), .val (.int (0 : Int32)), .val (.int i), s6] [(.int (0 : Int32))])
      refine own_go (fun _ => XS.iloadN X4.here hx rfl (hb hby d2_55) rfl) ?_
      show GG _ _ _ _ _ _ _ T4 (mkF m 56 #[.val (.ref a1), .val (.int (3 : Int32)), .val (.ref ob1), .val (.ref ob4), .val (.int (0 : Int32)), .val (.int i), s6] [(.int (3 : Int32)), (.int (0 : Int32))])
      have hc56 : (0 : Int32) < (3 : Int32) := by decide
      refine own_go (fun _ => XS.icmpNo X4.here hx rfl (hb hby d2_56) rfl (tlt hc56).2.1) ?_
      show GG _ _ _ _ _ _ _ T4 (mkF m 59 #[.val (.ref a1), .val (.int (3 : Int32)), .val (.ref ob1), .val (.ref ob4), .val (.int (0 : Int32)), .val (.int i), s6] [])
      refine own_go (fun _ => XS.aloadN X4.here hx rfl (hb hby d2_59) rfl rfl) ?_
      show GG _ _ _ _ _ _ _ T4 (mkF m 60 #[.val (.ref a1), .val (.int (3 : Int32)), .val (.ref ob1), .val (.ref ob4), .val (.int (0 : Int32)), .val (.int i), s6] [(.ref ob4)])
      refine own_go (fun _ => XS.iload X4.here hx rfl (hb hby d2_60) rfl) ?_
      show GG _ _ _ _ _ _ _ T4 (mkF m 62 #[.val (.ref a1), .val (.int (3 : Int32)), .val (.ref ob1), .val (.ref ob4), .val (.int (0 : Int32)), .val (.int i), s6] [(.int (0 : Int32)), (.ref ob4)])
      refine own_go (fun _ => XS.aloadN X4.here hx rfl (hb hby d2_62) rfl rfl) ?_
      show GG _ _ _ _ _ _ _ T4 (mkF m 63 #[.val (.ref a1), .val (.int (3 : Int32)), .val (.ref ob1), .val (.ref ob4), .val (.int (0 : Int32)), .val (.int i), s6] [(.ref ob1), (.int (0 : Int32)), (.ref ob4)])
      refine own_go (fun _ => XS.iload X4.here hx rfl (hb hby d2_63) rfl) ?_
      show GG _ _ _ _ _ _ _ T4 (mkF m 65 #[.val (.ref a1), .val (.int (3 : Int32)), .val (.ref ob1), .val (.ref ob4), .val (.int (0 : Int32)), .val (.int i), s6] [(.int (0 : Int32)), (.ref ob1), (.int (0 : Int32)), (.ref ob4)])
      refine own_go (fun _ => own_iaload X4 hx hZ e4 V_c (j := (0 : Int32)) (v := (.int (Int32.ofNat (cn ms (0 : Int32) ms.length)))) (by decide) rfl (g := (mkF m 65 #[.val (.ref a1), .val (.int (3 : Int32)), .val (.ref ob1), .val (.ref ob4), .val (.int (0 : Int32)), .val (.int i), s6] [(.int (0 : Int32)), (.ref ob1), (.int (0 : Int32)), (.ref ob4)])) rfl rfl (hb hby d2_65) _) ?_
      show GG _ _ _ _ _ _ _ T4 (mkF m 66 #[.val (.ref a1), .val (.int (3 : Int32)), .val (.ref ob1), .val (.ref ob4), .val (.int (0 : Int32)), .val (.int i), s6] [(.int (Int32.ofNat (cn ms (0 : Int32) ms.length))), (.int (0 : Int32)), (.ref ob4)])
      obtain ⟨T5, h5, ob5, g5, X5, e5, E5, V_ob5, E_ob5, st5⟩ := own_newarr X4 hx hZ (hw _ (List.mem_of_getElem? (i := 0) rfl)) e4 (g := (mkF m 66 #[.val (.ref a1), .val (.int (3 : Int32)), .val (.ref ob1), .val (.ref ob4), .val (.int (0 : Int32)), .val (.int i), s6] [(.int (Int32.ofNat (cn ms (0 : Int32) ms.length))), (.int (0 : Int32)), (.ref ob4)])) rfl (hb hby d2_66) rfl (own_onn (Nat.le_trans (cn_le _ _ _) hn6)) (cap := 6) (Nat.le_trans (Nat.le_of_eq (own_ocl (Nat.le_trans (cn_le _ _ _) hn6))) (Nat.le_trans (cn_le _ _ _) hn6)) (by decide) (by decide) (by decide) (ad := "[I") (by decide)
      have ne_a1_ob5 : a1 ≠ ob5 := Nat.ne_of_lt (Nat.lt_of_lt_of_le V_m.lt (Nat.le_of_eq g5.symm))
      have ne_ob1_ob5 : ob1 ≠ ob5 := Nat.ne_of_lt (Nat.lt_of_lt_of_le V_c.lt (Nat.le_of_eq g5.symm))
      have ne_ob4_ob5 : ob4 ≠ ob5 := Nat.ne_of_lt (Nat.lt_of_lt_of_le V_ob4.lt (Nat.le_of_eq g5.symm))
      have sz_ob5 : h0.size ≤ ob5 := Nat.le_trans K0.1 (Nat.le_of_eq g5.symm)
      have g_ob5 : n0 ≤ ob5 := Nat.le_trans Z0 sz_ob5
      have V_m := V_m.ext E5
      have V_c := V_c.ext E5
      have K0 := K0.ext E5
      have V_ob4 := V_ob4.ext E5
      have V_ob5 : Arx Z h5 ob5 .int (List.replicate (Int32.ofNat (cn ms (0 : Int32) ms.length)).toNatClampNeg (.int (0 : Int32))) := V_ob5
      refine own_go (fun _ => st5 _) ?_
      show GG _ _ _ _ _ _ _ T5 (mkF m 68 #[.val (.ref a1), .val (.int (3 : Int32)), .val (.ref ob1), .val (.ref ob4), .val (.int (0 : Int32)), .val (.int i), s6] [(.ref ob5), (.int (0 : Int32)), (.ref ob4)])
      have V_ob5 : Arx Z h5 ob5 .int ((List.replicate (cn ms (0 : Int32) ms.length) (0 : Int32)).map Value.int) := own_rep (Nat.le_trans (cn_le _ _ _) hn6) V_ob5
      obtain ⟨T6, h6, X6, e6, W6, V6, st6⟩ := own_aastore X5 hx hZ e5 V_ob4 (Ins.self E_ob5) (by decide) (Nat.le_of_ble_eq_true rfl) (g := (mkF m 68 #[.val (.ref a1), .val (.int (3 : Int32)), .val (.ref ob1), .val (.ref ob4), .val (.int (0 : Int32)), .val (.int i), s6] [(.ref ob5), (.int (0 : Int32)), (.ref ob4)])) rfl rfl (hb hby d2_68)
      have V_m := V_m.other W6 ne_a1_ob4
      have V_c := V_c.other W6 ne_ob1_ob4
      have K0 := K0.wr W6 (Or.inr sz_ob4)
      have V_ob5 := V_ob5.other W6 (Ne.symm ne_ob4_ob5)
      have E_ob5 := E_ob5.wr W6
      have V_ob4 : Ary Z h6 ob4 [(.ref ob5), .null, .null] := V6
      have N6 := Fr.snoc X6 NL g_ob4
      refine own_go (fun _ => st6 _) ?_
      show GG _ _ _ _ _ _ _ T6 (mkF m 69 #[.val (.ref a1), .val (.int (3 : Int32)), .val (.ref ob1), .val (.ref ob4), .val (.int (0 : Int32)), .val (.int i), s6] [])
      refine own_go (fun _ => XS.aloadN X6.here hx rfl (hb hby d2_69) rfl rfl) ?_
      show GG _ _ _ _ _ _ _ T6 (mkF m 70 #[.val (.ref a1), .val (.int (3 : Int32)), .val (.ref ob1), .val (.ref ob4), .val (.int (0 : Int32)), .val (.int i), s6] [(.ref ob1)])
      refine own_go (fun _ => XS.iload X6.here hx rfl (hb hby d2_70) rfl) ?_
      show GG _ _ _ _ _ _ _ T6 (mkF m 72 #[.val (.ref a1), .val (.int (3 : Int32)), .val (.ref ob1), .val (.ref ob4), .val (.int (0 : Int32)), .val (.int i), s6] [(.int (0 : Int32)), (.ref ob1)])
      refine own_go (fun _ => XS.iconst X6.here hx rfl (hb hby d2_72)) ?_
      show GG _ _ _ _ _ _ _ T6 (mkF m 73 #[.val (.ref a1), .val (.int (3 : Int32)), .val (.ref ob1), .val (.ref ob4), .val (.int (0 : Int32)), .val (.int i), s6] [(.int (0 : Int32)), (.int (0 : Int32)), (.ref ob1)])
      obtain ⟨T7, h7, X7, e7, W7, V7, st7⟩ := own_iastore X6 hx hZ e6 V_c (by decide) (Nat.le_of_ble_eq_true rfl) (g := (mkF m 73 #[.val (.ref a1), .val (.int (3 : Int32)), .val (.ref ob1), .val (.ref ob4), .val (.int (0 : Int32)), .val (.int i), s6] [(.int (0 : Int32)), (.int (0 : Int32)), (.ref ob1)])) rfl rfl (hb hby d2_73)
      have V_m := V_m.other W7 ne_a1_ob1
      have K0 := K0.wr W7 (Or.inr sz_ob1)
      have V_ob4 := V_ob4.other W7 (Ne.symm ne_ob1_ob4)
      have V_ob5 := V_ob5.other W7 (Ne.symm ne_ob1_ob5)
      have E_ob5 := E_ob5.wr W7
      have V_c : Arx Z h7 ob1 .int [(.int (0 : Int32)), (.int (Int32.ofNat (cn ms (1 : Int32) ms.length))), (.int (Int32.ofNat (cn ms (2 : Int32) ms.length)))] := V7
      have N7 := Fr.snoc X7 N6 g_ob1
      refine own_go (fun _ => st7 _) ?_
      show GG _ _ _ _ _ _ _ T7 (mkF m 74 #[.val (.ref a1), .val (.int (3 : Int32)), .val (.ref ob1), .val (.ref ob4), .val (.int (0 : Int32)), .val (.int i), s6] [])
      refine own_go (fun _ => XS.iinc X7.here hx rfl (hb hby d2_74) rfl (l' := #[.val (.ref a1), .val (.int (3 : Int32)), .val (.ref ob1), .val (.ref ob4), .val (.int (1 : Int32)), .val (.int i), s6]) rfl) ?_
      show GG _ _ _ _ _ _ _ T7 (mkF m 77 #[.val (.ref a1), .val (.int (3 : Int32)), .val (.ref ob1), .val (.ref ob4), .val (.int (1 : Int32)), .val (.int i), s6] [])
      refine own_go (fun _ => XS.goto X7.here hx rfl (pc0 := 77) (pc' := 53) rfl (hb hby d2_77) (by decide) (by decide)) ?_
      show GG _ _ _ _ _ _ _ T7 (mkF m 53 #[.val (.ref a1), .val (.int (3 : Int32)), .val (.ref ob1), .val (.ref ob4), .val (.int (1 : Int32)), .val (.int i), s6] [])
      refine own_go (fun _ => XS.iload X7.here hx rfl (hb hby d2_53) rfl) ?_
      show GG _ _ _ _ _ _ _ T7 (mkF m 55 #[.val (.ref a1), .val (.int (3 : Int32)), .val (.ref ob1), .val (.ref ob4), .val (.int (1 : Int32)), .val (.int i), s6] [(.int (1 : Int32))])
      refine own_go (fun _ => XS.iloadN X7.here hx rfl (hb hby d2_55) rfl) ?_
      show GG _ _ _ _ _ _ _ T7 (mkF m 56 #[.val (.ref a1), .val (.int (3 : Int32)), .val (.ref ob1), .val (.ref ob4), .val (.int (1 : Int32)), .val (.int i), s6] [(.int (3 : Int32)), (.int (1 : Int32))])
      have hc56 : (1 : Int32) < (3 : Int32) := by decide
      refine own_go (fun _ => XS.icmpNo X7.here hx rfl (hb hby d2_56) rfl (tlt hc56).2.1) ?_
      show GG _ _ _ _ _ _ _ T7 (mkF m 59 #[.val (.ref a1), .val (.int (3 : Int32)), .val (.ref ob1), .val (.ref ob4), .val (.int (1 : Int32)), .val (.int i), s6] [])
      refine own_go (fun _ => XS.aloadN X7.here hx rfl (hb hby d2_59) rfl rfl) ?_
      show GG _ _ _ _ _ _ _ T7 (mkF m 60 #[.val (.ref a1), .val (.int (3 : Int32)), .val (.ref ob1), .val (.ref ob4), .val (.int (1 : Int32)), .val (.int i), s6] [(.ref ob4)])
      refine own_go (fun _ => XS.iload X7.here hx rfl (hb hby d2_60) rfl) ?_
      show GG _ _ _ _ _ _ _ T7 (mkF m 62 #[.val (.ref a1), .val (.int (3 : Int32)), .val (.ref ob1), .val (.ref ob4), .val (.int (1 : Int32)), .val (.int i), s6] [(.int (1 : Int32)), (.ref ob4)])
      refine own_go (fun _ => XS.aloadN X7.here hx rfl (hb hby d2_62) rfl rfl) ?_
      show GG _ _ _ _ _ _ _ T7 (mkF m 63 #[.val (.ref a1), .val (.int (3 : Int32)), .val (.ref ob1), .val (.ref ob4), .val (.int (1 : Int32)), .val (.int i), s6] [(.ref ob1), (.int (1 : Int32)), (.ref ob4)])
      refine own_go (fun _ => XS.iload X7.here hx rfl (hb hby d2_63) rfl) ?_
      show GG _ _ _ _ _ _ _ T7 (mkF m 65 #[.val (.ref a1), .val (.int (3 : Int32)), .val (.ref ob1), .val (.ref ob4), .val (.int (1 : Int32)), .val (.int i), s6] [(.int (1 : Int32)), (.ref ob1), (.int (1 : Int32)), (.ref ob4)])
      refine own_go (fun _ => own_iaload X7 hx hZ e7 V_c (j := (1 : Int32)) (v := (.int (Int32.ofNat (cn ms (1 : Int32) ms.length)))) (by decide) rfl (g := (mkF m 65 #[.val (.ref a1), .val (.int (3 : Int32)), .val (.ref ob1), .val (.ref ob4), .val (.int (1 : Int32)), .val (.int i), s6] [(.int (1 : Int32)), (.ref ob1), (.int (1 : Int32)), (.ref ob4)])) rfl rfl (hb hby d2_65) _) ?_
      show GG _ _ _ _ _ _ _ T7 (mkF m 66 #[.val (.ref a1), .val (.int (3 : Int32)), .val (.ref ob1), .val (.ref ob4), .val (.int (1 : Int32)), .val (.int i), s6] [(.int (Int32.ofNat (cn ms (1 : Int32) ms.length))), (.int (1 : Int32)), (.ref ob4)])
      obtain ⟨T8, h8, ob8, g8, X8, e8, E8, V_ob8, E_ob8, st8⟩ := own_newarr X7 hx hZ (hw _ (List.mem_of_getElem? (i := 0) rfl)) e7 (g := (mkF m 66 #[.val (.ref a1), .val (.int (3 : Int32)), .val (.ref ob1), .val (.ref ob4), .val (.int (1 : Int32)), .val (.int i), s6] [(.int (Int32.ofNat (cn ms (1 : Int32) ms.length))), (.int (1 : Int32)), (.ref ob4)])) rfl (hb hby d2_66) rfl (own_onn (Nat.le_trans (cn_le _ _ _) hn6)) (cap := 6) (Nat.le_trans (Nat.le_of_eq (own_ocl (Nat.le_trans (cn_le _ _ _) hn6))) (Nat.le_trans (cn_le _ _ _) hn6)) (by decide) (by decide) (by decide) (ad := "[I") (by decide)
      have ne_a1_ob8 : a1 ≠ ob8 := Nat.ne_of_lt (Nat.lt_of_lt_of_le V_m.lt (Nat.le_of_eq g8.symm))
      have ne_ob1_ob8 : ob1 ≠ ob8 := Nat.ne_of_lt (Nat.lt_of_lt_of_le V_c.lt (Nat.le_of_eq g8.symm))
      have ne_ob4_ob8 : ob4 ≠ ob8 := Nat.ne_of_lt (Nat.lt_of_lt_of_le V_ob4.lt (Nat.le_of_eq g8.symm))
      have ne_ob5_ob8 : ob5 ≠ ob8 := Nat.ne_of_lt (Nat.lt_of_lt_of_le V_ob5.lt (Nat.le_of_eq g8.symm))
      have sz_ob8 : h0.size ≤ ob8 := Nat.le_trans K0.1 (Nat.le_of_eq g8.symm)
      have g_ob8 : n0 ≤ ob8 := Nat.le_trans Z0 sz_ob8
      have V_m := V_m.ext E8
      have V_c := V_c.ext E8
      have K0 := K0.ext E8
      have V_ob4 := V_ob4.ext E8
      have V_ob5 := V_ob5.ext E8
      have E_ob5 := E_ob5.ext E8
      have V_ob8 : Arx Z h8 ob8 .int (List.replicate (Int32.ofNat (cn ms (1 : Int32) ms.length)).toNatClampNeg (.int (0 : Int32))) := V_ob8
      refine own_go (fun _ => st8 _) ?_
      show GG _ _ _ _ _ _ _ T8 (mkF m 68 #[.val (.ref a1), .val (.int (3 : Int32)), .val (.ref ob1), .val (.ref ob4), .val (.int (1 : Int32)), .val (.int i), s6] [(.ref ob8), (.int (1 : Int32)), (.ref ob4)])
      have V_ob8 : Arx Z h8 ob8 .int ((List.replicate (cn ms (1 : Int32) ms.length) (0 : Int32)).map Value.int) := own_rep (Nat.le_trans (cn_le _ _ _) hn6) V_ob8
      obtain ⟨T9, h9, X9, e9, W9, V9, st9⟩ := own_aastore X8 hx hZ e8 V_ob4 (Ins.self E_ob8) (by decide) (Nat.le_of_ble_eq_true rfl) (g := (mkF m 68 #[.val (.ref a1), .val (.int (3 : Int32)), .val (.ref ob1), .val (.ref ob4), .val (.int (1 : Int32)), .val (.int i), s6] [(.ref ob8), (.int (1 : Int32)), (.ref ob4)])) rfl rfl (hb hby d2_68)
      have V_m := V_m.other W9 ne_a1_ob4
      have V_c := V_c.other W9 ne_ob1_ob4
      have K0 := K0.wr W9 (Or.inr sz_ob4)
      have V_ob5 := V_ob5.other W9 (Ne.symm ne_ob4_ob5)
      have E_ob5 := E_ob5.wr W9
      have V_ob8 := V_ob8.other W9 (Ne.symm ne_ob4_ob8)
      have E_ob8 := E_ob8.wr W9
      have V_ob4 : Ary Z h9 ob4 [(.ref ob5), (.ref ob8), .null] := V9
      have N9 := Fr.snoc X9 N7 g_ob4
      refine own_go (fun _ => st9 _) ?_
      show GG _ _ _ _ _ _ _ T9 (mkF m 69 #[.val (.ref a1), .val (.int (3 : Int32)), .val (.ref ob1), .val (.ref ob4), .val (.int (1 : Int32)), .val (.int i), s6] [])
      refine own_go (fun _ => XS.aloadN X9.here hx rfl (hb hby d2_69) rfl rfl) ?_
      show GG _ _ _ _ _ _ _ T9 (mkF m 70 #[.val (.ref a1), .val (.int (3 : Int32)), .val (.ref ob1), .val (.ref ob4), .val (.int (1 : Int32)), .val (.int i), s6] [(.ref ob1)])
      refine own_go (fun _ => XS.iload X9.here hx rfl (hb hby d2_70) rfl) ?_
      show GG _ _ _ _ _ _ _ T9 (mkF m 72 #[.val (.ref a1), .val (.int (3 : Int32)), .val (.ref ob1), .val (.ref ob4), .val (.int (1 : Int32)), .val (.int i), s6] [(.int (1 : Int32)), (.ref ob1)])
      refine own_go (fun _ => XS.iconst X9.here hx rfl (hb hby d2_72)) ?_
      show GG _ _ _ _ _ _ _ T9 (mkF m 73 #[.val (.ref a1), .val (.int (3 : Int32)), .val (.ref ob1), .val (.ref ob4), .val (.int (1 : Int32)), .val (.int i), s6] [(.int (0 : Int32)), (.int (1 : Int32)), (.ref ob1)])
      obtain ⟨T10, h10, X10, e10, W10, V10, st10⟩ := own_iastore X9 hx hZ e9 V_c (by decide) (Nat.le_of_ble_eq_true rfl) (g := (mkF m 73 #[.val (.ref a1), .val (.int (3 : Int32)), .val (.ref ob1), .val (.ref ob4), .val (.int (1 : Int32)), .val (.int i), s6] [(.int (0 : Int32)), (.int (1 : Int32)), (.ref ob1)])) rfl rfl (hb hby d2_73)
      have V_m := V_m.other W10 ne_a1_ob1
      have K0 := K0.wr W10 (Or.inr sz_ob1)
      have V_ob4 := V_ob4.other W10 (Ne.symm ne_ob1_ob4)
      have V_ob5 := V_ob5.other W10 (Ne.symm ne_ob1_ob5)
      have E_ob5 := E_ob5.wr W10
      have V_ob8 := V_ob8.other W10 (Ne.symm ne_ob1_ob8)
      have E_ob8 := E_ob8.wr W10
      have V_c : Arx Z h10 ob1 .int [(.int (0 : Int32)), (.int (0 : Int32)), (.int (Int32.ofNat (cn ms (2 : Int32) ms.length)))] := V10
      have N10 := Fr.snoc X10 N9 g_ob1
      refine own_go (fun _ => st10 _) ?_
      show GG _ _ _ _ _ _ _ T10 (mkF m 74 #[.val (.ref a1), .val (.int (3 : Int32)), .val (.ref ob1), .val (.ref ob4), .val (.int (1 : Int32)), .val (.int i), s6] [])
      refine own_go (fun _ => XS.iinc X10.here hx rfl (hb hby d2_74) rfl (l' := #[.val (.ref a1), .val (.int (3 : Int32)), .val (.ref ob1), .val (.ref ob4), .val (.int (2 : Int32)), .val (.int i), s6]) rfl) ?_
      show GG _ _ _ _ _ _ _ T10 (mkF m 77 #[.val (.ref a1), .val (.int (3 : Int32)), .val (.ref ob1), .val (.ref ob4), .val (.int (2 : Int32)), .val (.int i), s6] [])
      refine own_go (fun _ => XS.goto X10.here hx rfl (pc0 := 77) (pc' := 53) rfl (hb hby d2_77) (by decide) (by decide)) ?_
      show GG _ _ _ _ _ _ _ T10 (mkF m 53 #[.val (.ref a1), .val (.int (3 : Int32)), .val (.ref ob1), .val (.ref ob4), .val (.int (2 : Int32)), .val (.int i), s6] [])
      refine own_go (fun _ => XS.iload X10.here hx rfl (hb hby d2_53) rfl) ?_
      show GG _ _ _ _ _ _ _ T10 (mkF m 55 #[.val (.ref a1), .val (.int (3 : Int32)), .val (.ref ob1), .val (.ref ob4), .val (.int (2 : Int32)), .val (.int i), s6] [(.int (2 : Int32))])
      refine own_go (fun _ => XS.iloadN X10.here hx rfl (hb hby d2_55) rfl) ?_
      show GG _ _ _ _ _ _ _ T10 (mkF m 56 #[.val (.ref a1), .val (.int (3 : Int32)), .val (.ref ob1), .val (.ref ob4), .val (.int (2 : Int32)), .val (.int i), s6] [(.int (3 : Int32)), (.int (2 : Int32))])
      have hc56 : (2 : Int32) < (3 : Int32) := by decide
      refine own_go (fun _ => XS.icmpNo X10.here hx rfl (hb hby d2_56) rfl (tlt hc56).2.1) ?_
      show GG _ _ _ _ _ _ _ T10 (mkF m 59 #[.val (.ref a1), .val (.int (3 : Int32)), .val (.ref ob1), .val (.ref ob4), .val (.int (2 : Int32)), .val (.int i), s6] [])
      refine own_go (fun _ => XS.aloadN X10.here hx rfl (hb hby d2_59) rfl rfl) ?_
      show GG _ _ _ _ _ _ _ T10 (mkF m 60 #[.val (.ref a1), .val (.int (3 : Int32)), .val (.ref ob1), .val (.ref ob4), .val (.int (2 : Int32)), .val (.int i), s6] [(.ref ob4)])
      refine own_go (fun _ => XS.iload X10.here hx rfl (hb hby d2_60) rfl) ?_
      show GG _ _ _ _ _ _ _ T10 (mkF m 62 #[.val (.ref a1), .val (.int (3 : Int32)), .val (.ref ob1), .val (.ref ob4), .val (.int (2 : Int32)), .val (.int i), s6] [(.int (2 : Int32)), (.ref ob4)])
      refine own_go (fun _ => XS.aloadN X10.here hx rfl (hb hby d2_62) rfl rfl) ?_
      show GG _ _ _ _ _ _ _ T10 (mkF m 63 #[.val (.ref a1), .val (.int (3 : Int32)), .val (.ref ob1), .val (.ref ob4), .val (.int (2 : Int32)), .val (.int i), s6] [(.ref ob1), (.int (2 : Int32)), (.ref ob4)])
      refine own_go (fun _ => XS.iload X10.here hx rfl (hb hby d2_63) rfl) ?_
      show GG _ _ _ _ _ _ _ T10 (mkF m 65 #[.val (.ref a1), .val (.int (3 : Int32)), .val (.ref ob1), .val (.ref ob4), .val (.int (2 : Int32)), .val (.int i), s6] [(.int (2 : Int32)), (.ref ob1), (.int (2 : Int32)), (.ref ob4)])
      refine own_go (fun _ => own_iaload X10 hx hZ e10 V_c (j := (2 : Int32)) (v := (.int (Int32.ofNat (cn ms (2 : Int32) ms.length)))) (by decide) rfl (g := (mkF m 65 #[.val (.ref a1), .val (.int (3 : Int32)), .val (.ref ob1), .val (.ref ob4), .val (.int (2 : Int32)), .val (.int i), s6] [(.int (2 : Int32)), (.ref ob1), (.int (2 : Int32)), (.ref ob4)])) rfl rfl (hb hby d2_65) _) ?_
      show GG _ _ _ _ _ _ _ T10 (mkF m 66 #[.val (.ref a1), .val (.int (3 : Int32)), .val (.ref ob1), .val (.ref ob4), .val (.int (2 : Int32)), .val (.int i), s6] [(.int (Int32.ofNat (cn ms (2 : Int32) ms.length))), (.int (2 : Int32)), (.ref ob4)])
      obtain ⟨T11, h11, ob11, g11, X11, e11, E11, V_ob11, E_ob11, st11⟩ := own_newarr X10 hx hZ (hw _ (List.mem_of_getElem? (i := 0) rfl)) e10 (g := (mkF m 66 #[.val (.ref a1), .val (.int (3 : Int32)), .val (.ref ob1), .val (.ref ob4), .val (.int (2 : Int32)), .val (.int i), s6] [(.int (Int32.ofNat (cn ms (2 : Int32) ms.length))), (.int (2 : Int32)), (.ref ob4)])) rfl (hb hby d2_66) rfl (own_onn (Nat.le_trans (cn_le _ _ _) hn6)) (cap := 6) (Nat.le_trans (Nat.le_of_eq (own_ocl (Nat.le_trans (cn_le _ _ _) hn6))) (Nat.le_trans (cn_le _ _ _) hn6)) (by decide) (by decide) (by decide) (ad := "[I") (by decide)
      have ne_a1_ob11 : a1 ≠ ob11 := Nat.ne_of_lt (Nat.lt_of_lt_of_le V_m.lt (Nat.le_of_eq g11.symm))
      have ne_ob1_ob11 : ob1 ≠ ob11 := Nat.ne_of_lt (Nat.lt_of_lt_of_le V_c.lt (Nat.le_of_eq g11.symm))
      have ne_ob4_ob11 : ob4 ≠ ob11 := Nat.ne_of_lt (Nat.lt_of_lt_of_le V_ob4.lt (Nat.le_of_eq g11.symm))
      have ne_ob5_ob11 : ob5 ≠ ob11 := Nat.ne_of_lt (Nat.lt_of_lt_of_le V_ob5.lt (Nat.le_of_eq g11.symm))
      have ne_ob8_ob11 : ob8 ≠ ob11 := Nat.ne_of_lt (Nat.lt_of_lt_of_le V_ob8.lt (Nat.le_of_eq g11.symm))
      have sz_ob11 : h0.size ≤ ob11 := Nat.le_trans K0.1 (Nat.le_of_eq g11.symm)
      have g_ob11 : n0 ≤ ob11 := Nat.le_trans Z0 sz_ob11
      have V_m := V_m.ext E11
      have V_c := V_c.ext E11
      have K0 := K0.ext E11
      have V_ob4 := V_ob4.ext E11
      have V_ob5 := V_ob5.ext E11
      have E_ob5 := E_ob5.ext E11
      have V_ob8 := V_ob8.ext E11
      have E_ob8 := E_ob8.ext E11
      have V_ob11 : Arx Z h11 ob11 .int (List.replicate (Int32.ofNat (cn ms (2 : Int32) ms.length)).toNatClampNeg (.int (0 : Int32))) := V_ob11
      refine own_go (fun _ => st11 _) ?_
      show GG _ _ _ _ _ _ _ T11 (mkF m 68 #[.val (.ref a1), .val (.int (3 : Int32)), .val (.ref ob1), .val (.ref ob4), .val (.int (2 : Int32)), .val (.int i), s6] [(.ref ob11), (.int (2 : Int32)), (.ref ob4)])
      have V_ob11 : Arx Z h11 ob11 .int ((List.replicate (cn ms (2 : Int32) ms.length) (0 : Int32)).map Value.int) := own_rep (Nat.le_trans (cn_le _ _ _) hn6) V_ob11
      obtain ⟨T12, h12, X12, e12, W12, V12, st12⟩ := own_aastore X11 hx hZ e11 V_ob4 (Ins.self E_ob11) (by decide) (Nat.le_of_ble_eq_true rfl) (g := (mkF m 68 #[.val (.ref a1), .val (.int (3 : Int32)), .val (.ref ob1), .val (.ref ob4), .val (.int (2 : Int32)), .val (.int i), s6] [(.ref ob11), (.int (2 : Int32)), (.ref ob4)])) rfl rfl (hb hby d2_68)
      have V_m := V_m.other W12 ne_a1_ob4
      have V_c := V_c.other W12 ne_ob1_ob4
      have K0 := K0.wr W12 (Or.inr sz_ob4)
      have V_ob5 := V_ob5.other W12 (Ne.symm ne_ob4_ob5)
      have E_ob5 := E_ob5.wr W12
      have V_ob8 := V_ob8.other W12 (Ne.symm ne_ob4_ob8)
      have E_ob8 := E_ob8.wr W12
      have V_ob11 := V_ob11.other W12 (Ne.symm ne_ob4_ob11)
      have E_ob11 := E_ob11.wr W12
      have V_ob4 : Ary Z h12 ob4 [(.ref ob5), (.ref ob8), (.ref ob11)] := V12
      have N12 := Fr.snoc X12 N10 g_ob4
      refine own_go (fun _ => st12 _) ?_
      show GG _ _ _ _ _ _ _ T12 (mkF m 69 #[.val (.ref a1), .val (.int (3 : Int32)), .val (.ref ob1), .val (.ref ob4), .val (.int (2 : Int32)), .val (.int i), s6] [])
      refine own_go (fun _ => XS.aloadN X12.here hx rfl (hb hby d2_69) rfl rfl) ?_
      show GG _ _ _ _ _ _ _ T12 (mkF m 70 #[.val (.ref a1), .val (.int (3 : Int32)), .val (.ref ob1), .val (.ref ob4), .val (.int (2 : Int32)), .val (.int i), s6] [(.ref ob1)])
      refine own_go (fun _ => XS.iload X12.here hx rfl (hb hby d2_70) rfl) ?_
      show GG _ _ _ _ _ _ _ T12 (mkF m 72 #[.val (.ref a1), .val (.int (3 : Int32)), .val (.ref ob1), .val (.ref ob4), .val (.int (2 : Int32)), .val (.int i), s6] [(.int (2 : Int32)), (.ref ob1)])
      refine own_go (fun _ => XS.iconst X12.here hx rfl (hb hby d2_72)) ?_
      show GG _ _ _ _ _ _ _ T12 (mkF m 73 #[.val (.ref a1), .val (.int (3 : Int32)), .val (.ref ob1), .val (.ref ob4), .val (.int (2 : Int32)), .val (.int i), s6] [(.int (0 : Int32)), (.int (2 : Int32)), (.ref ob1)])
      obtain ⟨T13, h13, X13, e13, W13, V13, st13⟩ := own_iastore X12 hx hZ e12 V_c (by decide) (Nat.le_of_ble_eq_true rfl) (g := (mkF m 73 #[.val (.ref a1), .val (.int (3 : Int32)), .val (.ref ob1), .val (.ref ob4), .val (.int (2 : Int32)), .val (.int i), s6] [(.int (0 : Int32)), (.int (2 : Int32)), (.ref ob1)])) rfl rfl (hb hby d2_73)
      have V_m := V_m.other W13 ne_a1_ob1
      have K0 := K0.wr W13 (Or.inr sz_ob1)
      have V_ob4 := V_ob4.other W13 (Ne.symm ne_ob1_ob4)
      have V_ob5 := V_ob5.other W13 (Ne.symm ne_ob1_ob5)
      have E_ob5 := E_ob5.wr W13
      have V_ob8 := V_ob8.other W13 (Ne.symm ne_ob1_ob8)
      have E_ob8 := E_ob8.wr W13
      have V_ob11 := V_ob11.other W13 (Ne.symm ne_ob1_ob11)
      have E_ob11 := E_ob11.wr W13
      have V_c : Arx Z h13 ob1 .int [(.int (0 : Int32)), (.int (0 : Int32)), (.int (0 : Int32))] := V13
      have N13 := Fr.snoc X13 N12 g_ob1
      refine own_go (fun _ => st13 _) ?_
      show GG _ _ _ _ _ _ _ T13 (mkF m 74 #[.val (.ref a1), .val (.int (3 : Int32)), .val (.ref ob1), .val (.ref ob4), .val (.int (2 : Int32)), .val (.int i), s6] [])
      refine own_go (fun _ => XS.iinc X13.here hx rfl (hb hby d2_74) rfl (l' := #[.val (.ref a1), .val (.int (3 : Int32)), .val (.ref ob1), .val (.ref ob4), .val (.int (3 : Int32)), .val (.int i), s6]) rfl) ?_
      show GG _ _ _ _ _ _ _ T13 (mkF m 77 #[.val (.ref a1), .val (.int (3 : Int32)), .val (.ref ob1), .val (.ref ob4), .val (.int (3 : Int32)), .val (.int i), s6] [])
      refine own_go (fun _ => XS.goto X13.here hx rfl (pc0 := 77) (pc' := 53) rfl (hb hby d2_77) (by decide) (by decide)) ?_
      show GG _ _ _ _ _ _ _ T13 (mkF m 53 #[.val (.ref a1), .val (.int (3 : Int32)), .val (.ref ob1), .val (.ref ob4), .val (.int (3 : Int32)), .val (.int i), s6] [])
      refine own_go (fun _ => XS.iload X13.here hx rfl (hb hby d2_53) rfl) ?_
      show GG _ _ _ _ _ _ _ T13 (mkF m 55 #[.val (.ref a1), .val (.int (3 : Int32)), .val (.ref ob1), .val (.ref ob4), .val (.int (3 : Int32)), .val (.int i), s6] [(.int (3 : Int32))])
      refine own_go (fun _ => XS.iloadN X13.here hx rfl (hb hby d2_55) rfl) ?_
      show GG _ _ _ _ _ _ _ T13 (mkF m 56 #[.val (.ref a1), .val (.int (3 : Int32)), .val (.ref ob1), .val (.ref ob4), .val (.int (3 : Int32)), .val (.int i), s6] [(.int (3 : Int32)), (.int (3 : Int32))])
      have hc56 : ¬ ((3 : Int32) < (3 : Int32)) := by decide
      refine own_go (fun _ => XS.icmpYes X13.here hx rfl (pc0 := 56) (pc' := 80) rfl (hb hby d2_56) rfl (flt hc56).2.1 (by decide) (by decide)) ?_
      show GG _ _ _ _ _ _ _ T13 (mkF m 80 #[.val (.ref a1), .val (.int (3 : Int32)), .val (.ref ob1), .val (.ref ob4), .val (.int (3 : Int32)), .val (.int i), s6] [])
      refine own_go (fun _ => XS.iconst X13.here hx rfl (hb hby d2_80)) ?_
      show GG _ _ _ _ _ _ _ T13 (mkF m 81 #[.val (.ref a1), .val (.int (3 : Int32)), .val (.ref ob1), .val (.ref ob4), .val (.int (3 : Int32)), .val (.int i), s6] [(.int (0 : Int32))])
      refine own_go (fun _ => XS.istore X13.here hx rfl (hb hby d2_81) rfl (l' := #[.val (.ref a1), .val (.int (3 : Int32)), .val (.ref ob1), .val (.ref ob4), .val (.int (0 : Int32)), .val (.int i), s6]) rfl) ?_
      show GG _ _ _ _ _ _ _ T13 (mkF m 83 #[.val (.ref a1), .val (.int (3 : Int32)), .val (.ref ob1), .val (.ref ob4), .val (.int (0 : Int32)), .val (.int i), s6] [])
      have V_r := V_ob4.arx
      have loop14 : ∀ (k : Nat) (iN : Nat) (i t5 : Int32) (vs0 vs1 vs2 : List Int32) (TL : State) (hL : Heap) (lL : List Loc) (XL : Stand p l e ({ frames := 0, cells := 6, slots := 32, locals := 0 } : Room) s m #[(.ref a1), (.int (3 : Int32))] below meth c TL lL 5 24) (eL : TL.heap = hL) (NL : Fr n0 lL) (hi : i.toInt = iN) (hk : iN + k = ms.length) (V_m : Arx Z hL a1 .int (ms.map Value.int)) (V_c : Arx Z hL ob1 .int [(.int (Int32.ofNat (cn ms (0 : Int32) iN))), (.int (Int32.ofNat (cn ms (1 : Int32) iN))), (.int (Int32.ofNat (cn ms (2 : Int32) iN)))]) (V_r : Arx Z hL ob4 (.array .int) [(.ref ob5), (.ref ob8), (.ref ob11)]) (V_0 : Arx Z hL ob5 .int (vs0.map Value.int)) (R_0 : Row ms (0 : Int32) ms.length iN vs0) (V_1 : Arx Z hL ob8 .int (vs1.map Value.int)) (R_1 : Row ms (1 : Int32) ms.length iN vs1) (V_2 : Arx Z hL ob11 .int (vs2.map Value.int)) (R_2 : Row ms (2 : Int32) ms.length iN vs2) (K0 : Keep h0 hL []), GG p e below s 6 32 (Q2_3 Z a1 ms h0 n0) TL (mkF m 83 #[.val (.ref a1), .val (.int (3 : Int32)), .val (.ref ob1), .val (.ref ob4), .val (.int i), .val (.int t5), s6] []) := by
        intro k
        induction k with
        | zero =>
          intro iN i t5 vs0 vs1 vs2 TL hL lL XL eL NL hi hk V_m V_c V_r V_0 R_0 V_1 R_1 V_2 R_2 K0
          obtain rfl : iN = ms.length := by omega
          show GG _ _ _ _ _ _ _ TL (mkF m 83 #[.val (.ref a1), .val (.int (3 : Int32)), .val (.ref ob1), .val (.ref ob4), .val (.int i), .val (.int t5), s6] [])
          refine own_go (fun _ => XS.iload XL.here hx rfl (hb hby d2_83) rfl) ?_
          show GG _ _ _ _ _ _ _ TL (mkF m 85 #[.val (.ref a1), .val (.int (3 : Int32)), .val (.ref ob1), .val (.ref ob4), .val (.int i), .val (.int t5), s6] [(.int i)])
          refine own_go (fun _ => XS.aloadN XL.here hx rfl (hb hby d2_85) rfl rfl) ?_
          show GG _ _ _ _ _ _ _ TL (mkF m 86 #[.val (.ref a1), .val (.int (3 : Int32)), .val (.ref ob1), .val (.ref ob4), .val (.int i), .val (.int t5), s6] [(.ref a1), (.int i)])
          refine own_go (fun _ => own_len XL hx hZ eL V_m (g := (mkF m 86 #[.val (.ref a1), .val (.int (3 : Int32)), .val (.ref ob1), .val (.ref ob4), .val (.int i), .val (.int t5), s6] [(.ref a1), (.int i)])) rfl rfl (hb hby d2_86) _) ?_
          show GG _ _ _ _ _ _ _ TL (mkF m 87 #[.val (.ref a1), .val (.int (3 : Int32)), .val (.ref ob1), .val (.ref ob4), .val (.int i), .val (.int t5), s6] [(.int (Int32.ofNat (ms.map Value.int).length)), (.int i)])
          generalize hy15 : (Int32.ofNat (ms.map Value.int).length) = y15
          have dy15 : y15.toInt = (ms.length : Nat) := by rw [← hy15, List.length_map]; exact own_ofNat (by omega)
          show GG _ _ _ _ _ _ _ TL (mkF m 87 #[.val (.ref a1), .val (.int (3 : Int32)), .val (.ref ob1), .val (.ref ob4), .val (.int i), .val (.int t5), s6] [(.int y15), (.int i)])
          have hc87 : ¬ (i < y15) := (fun q => absurd (Int32.lt_iff_toInt_lt.mp q) ((by show ¬ (i.toInt < y15.toInt); omega : ¬ (i.toInt < y15.toInt))))
          refine own_go (fun _ => XS.icmpYes XL.here hx rfl (pc0 := 87) (pc' := 123) rfl (hb hby d2_87) rfl (flt hc87).2.1 (by decide) (by decide)) ?_
          show GG _ _ _ _ _ _ _ TL (mkF m 123 #[.val (.ref a1), .val (.int (3 : Int32)), .val (.ref ob1), .val (.ref ob4), .val (.int i), .val (.int t5), s6] [])
          refine own_go (fun _ => XS.aloadN XL.here hx rfl (hb hby d2_123) rfl rfl) ?_
          show GG _ _ _ _ _ _ _ TL (mkF m 124 #[.val (.ref a1), .val (.int (3 : Int32)), .val (.ref ob1), .val (.ref ob4), .val (.int i), .val (.int t5), s6] [(.ref ob4)])
          refine own_ret XL hx hlk (t := (.array (.array .int))) (w := (.ref ob4)) Bd.returns rfl (Or.inr (Or.inr (Or.inr (Or.inr ⟨rfl, rfl, rfl⟩)))) (hb hby d2_124) (by decide) (by decide) ?_
          show Q2_3 Z a1 ms h0 n0 (some (.ref ob4)) TL.heap _
          rw [eL]
          exact ⟨_, [ob5, ob8, ob11], rfl, NL, K0, V_r, rfl, fun c hc => by
            match c, hc with
            | 0, _ => exact ⟨ob5, vs0, rfl, V_0, R_0⟩
            | 1, _ => exact ⟨ob8, vs1, rfl, V_1, R_1⟩
            | 2, _ => exact ⟨ob11, vs2, rfl, V_2, R_2⟩
            | q + 3, hq => exact absurd hq (by show ¬ q + 3 < 3; omega)⟩
        | succ k ih =>
          intro iN i t5 vs0 vs1 vs2 TL hL lL XL eL NL hi hk V_m V_c V_r V_0 R_0 V_1 R_1 V_2 R_2 K0
          have ri := rng32 i
          have hii : i = Int32.ofNat iN := by rw [← Int32.toInt_inj, own_ofNat (by omega), hi]
          obtain ⟨y, hy⟩ : ∃ y, ms[iN]? = some y := ⟨_, List.getElem?_eq_getElem (show iN < ms.length by omega)⟩
          have hyr := hG iN y hy
          show GG _ _ _ _ _ _ _ TL (mkF m 83 #[.val (.ref a1), .val (.int (3 : Int32)), .val (.ref ob1), .val (.ref ob4), .val (.int i), .val (.int t5), s6] [])
          refine own_go (fun _ => XS.iload XL.here hx rfl (hb hby d2_83) rfl) ?_
          show GG _ _ _ _ _ _ _ TL (mkF m 85 #[.val (.ref a1), .val (.int (3 : Int32)), .val (.ref ob1), .val (.ref ob4), .val (.int i), .val (.int t5), s6] [(.int i)])
          refine own_go (fun _ => XS.aloadN XL.here hx rfl (hb hby d2_85) rfl rfl) ?_
          show GG _ _ _ _ _ _ _ TL (mkF m 86 #[.val (.ref a1), .val (.int (3 : Int32)), .val (.ref ob1), .val (.ref ob4), .val (.int i), .val (.int t5), s6] [(.ref a1), (.int i)])
          refine own_go (fun _ => own_len XL hx hZ eL V_m (g := (mkF m 86 #[.val (.ref a1), .val (.int (3 : Int32)), .val (.ref ob1), .val (.ref ob4), .val (.int i), .val (.int t5), s6] [(.ref a1), (.int i)])) rfl rfl (hb hby d2_86) _) ?_
          show GG _ _ _ _ _ _ _ TL (mkF m 87 #[.val (.ref a1), .val (.int (3 : Int32)), .val (.ref ob1), .val (.ref ob4), .val (.int i), .val (.int t5), s6] [(.int (Int32.ofNat (ms.map Value.int).length)), (.int i)])
          generalize hy16 : (Int32.ofNat (ms.map Value.int).length) = y16
          have dy16 : y16.toInt = (ms.length : Nat) := by rw [← hy16, List.length_map]; exact own_ofNat (by omega)
          show GG _ _ _ _ _ _ _ TL (mkF m 87 #[.val (.ref a1), .val (.int (3 : Int32)), .val (.ref ob1), .val (.ref ob4), .val (.int i), .val (.int t5), s6] [(.int y16), (.int i)])
          have hc87 : i < y16 := (Int32.lt_iff_toInt_lt.mpr ((by show (i.toInt < y16.toInt); omega : (i.toInt < y16.toInt))))
          refine own_go (fun _ => XS.icmpNo XL.here hx rfl (hb hby d2_87) rfl (tlt hc87).2.1) ?_
          show GG _ _ _ _ _ _ _ TL (mkF m 90 #[.val (.ref a1), .val (.int (3 : Int32)), .val (.ref ob1), .val (.ref ob4), .val (.int i), .val (.int t5), s6] [])
          refine own_go (fun _ => XS.aloadN XL.here hx rfl (hb hby d2_90) rfl rfl) ?_
          show GG _ _ _ _ _ _ _ TL (mkF m 91 #[.val (.ref a1), .val (.int (3 : Int32)), .val (.ref ob1), .val (.ref ob4), .val (.int i), .val (.int t5), s6] [(.ref a1)])
          refine own_go (fun _ => XS.iload XL.here hx rfl (hb hby d2_91) rfl) ?_
          show GG _ _ _ _ _ _ _ TL (mkF m 93 #[.val (.ref a1), .val (.int (3 : Int32)), .val (.ref ob1), .val (.ref ob4), .val (.int i), .val (.int t5), s6] [(.int i), (.ref a1)])
          refine own_go (fun _ => own_iaload XL hx hZ eL V_m (j := i) (v := (.int y)) (own_nn (by omega)) (own_mget hi hy) (g := (mkF m 93 #[.val (.ref a1), .val (.int (3 : Int32)), .val (.ref ob1), .val (.ref ob4), .val (.int i), .val (.int t5), s6] [(.int i), (.ref a1)])) rfl rfl (hb hby d2_93) _) ?_
          show GG _ _ _ _ _ _ _ TL (mkF m 94 #[.val (.ref a1), .val (.int (3 : Int32)), .val (.ref ob1), .val (.ref ob4), .val (.int i), .val (.int t5), s6] [(.int y)])
          refine own_go (fun _ => XS.istore XL.here hx rfl (hb hby d2_94) rfl (l' := #[.val (.ref a1), .val (.int (3 : Int32)), .val (.ref ob1), .val (.ref ob4), .val (.int i), .val (.int y), s6]) rfl) ?_
          show GG _ _ _ _ _ _ _ TL (mkF m 96 #[.val (.ref a1), .val (.int (3 : Int32)), .val (.ref ob1), .val (.ref ob4), .val (.int i), .val (.int y), s6] [])
          refine own_go (fun _ => XS.iload XL.here hx rfl (hb hby d2_96) rfl) ?_
          show GG _ _ _ _ _ _ _ TL (mkF m 98 #[.val (.ref a1), .val (.int (3 : Int32)), .val (.ref ob1), .val (.ref ob4), .val (.int i), .val (.int y), s6] [(.int y)])
          by_cases hneg : y.toInt < 0
          · skip
            have hc98 : y < (0 : Int32) := (Int32.lt_iff_toInt_lt.mpr ((by show (y.toInt < 0); omega : (y.toInt < 0))))
            refine own_go (fun _ => XS.ifYes XL.here hx rfl (pc0 := 98) (pc' := 117) rfl (hb hby d2_98) rfl ((if0 _ _).trans (tlt hc98).1) (by decide) (by decide)) ?_
            show GG _ _ _ _ _ _ _ TL (mkF m 117 #[.val (.ref a1), .val (.int (3 : Int32)), .val (.ref ob1), .val (.ref ob4), .val (.int i), .val (.int y), s6] [])
            refine own_go (fun _ => XS.iinc XL.here hx rfl (hb hby d2_117) rfl (l' := #[.val (.ref a1), .val (.int (3 : Int32)), .val (.ref ob1), .val (.ref ob4), .val (.int (i + (1 : Int32))), .val (.int y), s6]) rfl) ?_
            show GG _ _ _ _ _ _ _ TL (mkF m 120 #[.val (.ref a1), .val (.int (3 : Int32)), .val (.ref ob1), .val (.ref ob4), .val (.int (i + (1 : Int32))), .val (.int y), s6] [])
            have cx17 := c_iadd i (1 : Int32)
            simp only [show ((1 : Int32)).toInt = 1 from by decide] at cx17
            generalize hx17 : (i + (1 : Int32)) = x17 at cx17 ⊢
            have rx17 := rng32 x17
            have dx17 : x17.toInt = i.toInt + 1 := by omega
            clear cx17
            refine own_go (fun _ => XS.goto XL.here hx rfl (pc0 := 120) (pc' := 83) rfl (hb hby d2_120) (by decide) (by decide)) ?_
            show GG _ _ _ _ _ _ _ TL (mkF m 83 #[.val (.ref a1), .val (.int (3 : Int32)), .val (.ref ob1), .val (.ref ob4), .val (.int x17), .val (.int y), s6] [])
            have Vn : Arx Z hL ob1 .int [(.int (Int32.ofNat (cn ms (0 : Int32) (iN + 1)))), (.int (Int32.ofNat (cn ms (1 : Int32) (iN + 1)))), (.int (Int32.ofNat (cn ms (2 : Int32) (iN + 1))))] := by rw [own_cn0 (0 : Int32) hy (fun q => by rw [q] at hneg; exact absurd hneg (by decide)), own_cn0 (1 : Int32) hy (fun q => by rw [q] at hneg; exact absurd hneg (by decide)), own_cn0 (2 : Int32) hy (fun q => by rw [q] at hneg; exact absurd hneg (by decide))]; exact V_c
            exact ih (iN + 1) x17 y _ _ _ TL _ _ XL eL NL (by omega) (by omega) V_m Vn V_r V_0 (R_0.skip hy (fun q => by rw [q] at hneg; exact absurd hneg (by decide))) V_1 (R_1.skip hy (fun q => by rw [q] at hneg; exact absurd hneg (by decide))) V_2 (R_2.skip hy (fun q => by rw [q] at hneg; exact absurd hneg (by decide))) K0
          · skip
            by_cases e0 : y.toInt = 0
            · skip
              obtain rfl : y = (0 : Int32) := Int32.toInt_inj.mp (by rw [e0]; decide)
              show GG _ _ _ _ _ _ _ TL (mkF m 98 #[.val (.ref a1), .val (.int (3 : Int32)), .val (.ref ob1), .val (.ref ob4), .val (.int i), .val (.int (0 : Int32)), s6] [(.int (0 : Int32))])
              have hcl := cn_lt (j := ms.length) hy (by omega)
              have hc6 := cn_le ms (0 : Int32) ms.length
              have hc98 : ¬ ((0 : Int32) < (0 : Int32)) := by decide
              refine own_go (fun _ => XS.ifNo XL.here hx rfl (hb hby d2_98) rfl ((if0 _ _).trans (flt hc98).1)) ?_
              show GG _ _ _ _ _ _ _ TL (mkF m 101 #[.val (.ref a1), .val (.int (3 : Int32)), .val (.ref ob1), .val (.ref ob4), .val (.int i), .val (.int (0 : Int32)), s6] [])
              refine own_go (fun _ => XS.aloadN XL.here hx rfl (hb hby d2_101) rfl rfl) ?_
              show GG _ _ _ _ _ _ _ TL (mkF m 102 #[.val (.ref a1), .val (.int (3 : Int32)), .val (.ref ob1), .val (.ref ob4), .val (.int i), .val (.int (0 : Int32)), s6] [(.ref ob4)])
              refine own_go (fun _ => XS.iload XL.here hx rfl (hb hby d2_102) rfl) ?_
              show GG _ _ _ _ _ _ _ TL (mkF m 104 #[.val (.ref a1), .val (.int (3 : Int32)), .val (.ref ob1), .val (.ref ob4), .val (.int i), .val (.int (0 : Int32)), s6] [(.int (0 : Int32)), (.ref ob4)])
              refine own_go (fun _ => own_aaload XL hx hZ eL V_r rfl (j := (0 : Int32)) (v := (.ref ob5)) (by decide) rfl (g := (mkF m 104 #[.val (.ref a1), .val (.int (3 : Int32)), .val (.ref ob1), .val (.ref ob4), .val (.int i), .val (.int (0 : Int32)), s6] [(.int (0 : Int32)), (.ref ob4)])) rfl rfl (hb hby d2_104) _) ?_
              show GG _ _ _ _ _ _ _ TL (mkF m 105 #[.val (.ref a1), .val (.int (3 : Int32)), .val (.ref ob1), .val (.ref ob4), .val (.int i), .val (.int (0 : Int32)), s6] [(.ref ob5)])
              refine own_go (fun _ => XS.aloadN XL.here hx rfl (hb hby d2_105) rfl rfl) ?_
              show GG _ _ _ _ _ _ _ TL (mkF m 106 #[.val (.ref a1), .val (.int (3 : Int32)), .val (.ref ob1), .val (.ref ob4), .val (.int i), .val (.int (0 : Int32)), s6] [(.ref ob1), (.ref ob5)])
              refine own_go (fun _ => XS.iload XL.here hx rfl (hb hby d2_106) rfl) ?_
              show GG _ _ _ _ _ _ _ TL (mkF m 108 #[.val (.ref a1), .val (.int (3 : Int32)), .val (.ref ob1), .val (.ref ob4), .val (.int i), .val (.int (0 : Int32)), s6] [(.int (0 : Int32)), (.ref ob1), (.ref ob5)])
              refine own_go (fun _ => XT.dup2 XL.here hx rfl (hb hby d2_108) rfl rfl rfl) ?_
              show GG _ _ _ _ _ _ _ TL (mkF m 109 #[.val (.ref a1), .val (.int (3 : Int32)), .val (.ref ob1), .val (.ref ob4), .val (.int i), .val (.int (0 : Int32)), s6] [(.int (0 : Int32)), (.ref ob1), (.int (0 : Int32)), (.ref ob1), (.ref ob5)])
              refine own_go (fun _ => own_iaload XL hx hZ eL V_c (j := (0 : Int32)) (v := (.int (Int32.ofNat (cn ms (0 : Int32) iN)))) (by decide) rfl (g := (mkF m 109 #[.val (.ref a1), .val (.int (3 : Int32)), .val (.ref ob1), .val (.ref ob4), .val (.int i), .val (.int (0 : Int32)), s6] [(.int (0 : Int32)), (.ref ob1), (.int (0 : Int32)), (.ref ob1), (.ref ob5)])) rfl rfl (hb hby d2_109) _) ?_
              show GG _ _ _ _ _ _ _ TL (mkF m 110 #[.val (.ref a1), .val (.int (3 : Int32)), .val (.ref ob1), .val (.ref ob4), .val (.int i), .val (.int (0 : Int32)), s6] [(.int (Int32.ofNat (cn ms (0 : Int32) iN))), (.int (0 : Int32)), (.ref ob1), (.ref ob5)])
              refine own_go (fun _ => own_dupX2 XL.here hx rfl (hb hby d2_110) rfl rfl rfl rfl) ?_
              show GG _ _ _ _ _ _ _ TL (mkF m 111 #[.val (.ref a1), .val (.int (3 : Int32)), .val (.ref ob1), .val (.ref ob4), .val (.int i), .val (.int (0 : Int32)), s6] [(.int (Int32.ofNat (cn ms (0 : Int32) iN))), (.int (0 : Int32)), (.ref ob1), (.int (Int32.ofNat (cn ms (0 : Int32) iN))), (.ref ob5)])
              refine own_go (fun _ => XS.iconst XL.here hx rfl (hb hby d2_111)) ?_
              show GG _ _ _ _ _ _ _ TL (mkF m 112 #[.val (.ref a1), .val (.int (3 : Int32)), .val (.ref ob1), .val (.ref ob4), .val (.int i), .val (.int (0 : Int32)), s6] [(.int (1 : Int32)), (.int (Int32.ofNat (cn ms (0 : Int32) iN))), (.int (0 : Int32)), (.ref ob1), (.int (Int32.ofNat (cn ms (0 : Int32) iN))), (.ref ob5)])
              refine own_go (fun _ => XS.iadd XL.here hx rfl (hb hby d2_112) rfl) ?_
              show GG _ _ _ _ _ _ _ TL (mkF m 113 #[.val (.ref a1), .val (.int (3 : Int32)), .val (.ref ob1), .val (.ref ob4), .val (.int i), .val (.int (0 : Int32)), s6] [(.int ((Int32.ofNat (cn ms (0 : Int32) iN)) + (1 : Int32))), (.int (0 : Int32)), (.ref ob1), (.int (Int32.ofNat (cn ms (0 : Int32) iN))), (.ref ob5)])
              obtain ⟨T18, h18, X18, e18, W18, V18, st18⟩ := own_iastore XL hx hZ eL V_c (by decide) (Nat.le_of_ble_eq_true rfl) (g := (mkF m 113 #[.val (.ref a1), .val (.int (3 : Int32)), .val (.ref ob1), .val (.ref ob4), .val (.int i), .val (.int (0 : Int32)), s6] [(.int ((Int32.ofNat (cn ms (0 : Int32) iN)) + (1 : Int32))), (.int (0 : Int32)), (.ref ob1), (.int (Int32.ofNat (cn ms (0 : Int32) iN))), (.ref ob5)])) rfl rfl (hb hby d2_113)
              have V_m := V_m.other W18 ne_a1_ob1
              have V_r := V_r.other W18 (Ne.symm ne_ob1_ob4)
              have K0 := K0.wr W18 (Or.inr sz_ob1)
              have V_0 := V_0.other W18 (Ne.symm ne_ob1_ob5)
              have V_1 := V_1.other W18 (Ne.symm ne_ob1_ob8)
              have V_2 := V_2.other W18 (Ne.symm ne_ob1_ob11)
              have V_c : Arx Z h18 ob1 .int [(.int ((Int32.ofNat (cn ms (0 : Int32) iN)) + (1 : Int32))), (.int (Int32.ofNat (cn ms (1 : Int32) iN))), (.int (Int32.ofNat (cn ms (2 : Int32) iN)))] := V18
              have N18 := Fr.snoc X18 NL g_ob1
              refine own_go (fun _ => st18 _) ?_
              show GG _ _ _ _ _ _ _ T18 (mkF m 114 #[.val (.ref a1), .val (.int (3 : Int32)), .val (.ref ob1), .val (.ref ob4), .val (.int i), .val (.int (0 : Int32)), s6] [(.int (Int32.ofNat (cn ms (0 : Int32) iN))), (.ref ob5)])
              refine own_go (fun _ => XS.iload X18.here hx rfl (hb hby d2_114) rfl) ?_
              show GG _ _ _ _ _ _ _ T18 (mkF m 116 #[.val (.ref a1), .val (.int (3 : Int32)), .val (.ref ob1), .val (.ref ob4), .val (.int i), .val (.int (0 : Int32)), s6] [(.int i), (.int (Int32.ofNat (cn ms (0 : Int32) iN))), (.ref ob5)])
              obtain ⟨T19, h19, X19, e19, W19, V19, st19⟩ := own_iastore X18 hx hZ e18 V_0 (own_onn (by omega)) (by rw [List.length_map, R_0.1, own_ocl (by omega)]; exact hcl) (g := (mkF m 116 #[.val (.ref a1), .val (.int (3 : Int32)), .val (.ref ob1), .val (.ref ob4), .val (.int i), .val (.int (0 : Int32)), s6] [(.int i), (.int (Int32.ofNat (cn ms (0 : Int32) iN))), (.ref ob5)])) rfl rfl (hb hby d2_116)
              have V_m := V_m.other W19 ne_a1_ob5
              have V_c := V_c.other W19 ne_ob1_ob5
              have V_r := V_r.other W19 ne_ob4_ob5
              have K0 := K0.wr W19 (Or.inr sz_ob5)
              have V_1 := V_1.other W19 (Ne.symm ne_ob5_ob8)
              have V_2 := V_2.other W19 (Ne.symm ne_ob5_ob11)
              have V_0 : Arx Z h19 ob5 .int ((vs0.set (cn ms (0 : Int32) iN) i).map Value.int) := (own_rset (by omega) V19)
              have N19 := Fr.snoc X19 N18 g_ob5
              refine own_go (fun _ => st19 _) ?_
              show GG _ _ _ _ _ _ _ T19 (mkF m 117 #[.val (.ref a1), .val (.int (3 : Int32)), .val (.ref ob1), .val (.ref ob4), .val (.int i), .val (.int (0 : Int32)), s6] [])
              refine own_go (fun _ => XS.iinc X19.here hx rfl (hb hby d2_117) rfl (l' := #[.val (.ref a1), .val (.int (3 : Int32)), .val (.ref ob1), .val (.ref ob4), .val (.int (i + (1 : Int32))), .val (.int (0 : Int32)), s6]) rfl) ?_
              show GG _ _ _ _ _ _ _ T19 (mkF m 120 #[.val (.ref a1), .val (.int (3 : Int32)), .val (.ref ob1), .val (.ref ob4), .val (.int (i + (1 : Int32))), .val (.int (0 : Int32)), s6] [])
              have cx20 := c_iadd i (1 : Int32)
              simp only [show ((1 : Int32)).toInt = 1 from by decide] at cx20
              generalize hx20 : (i + (1 : Int32)) = x20 at cx20 ⊢
              have rx20 := rng32 x20
              have dx20 : x20.toInt = i.toInt + 1 := by omega
              clear cx20
              refine own_go (fun _ => XS.goto X19.here hx rfl (pc0 := 120) (pc' := 83) rfl (hb hby d2_120) (by decide) (by decide)) ?_
              show GG _ _ _ _ _ _ _ T19 (mkF m 83 #[.val (.ref a1), .val (.int (3 : Int32)), .val (.ref ob1), .val (.ref ob4), .val (.int x20), .val (.int (0 : Int32)), s6] [])
              have Vn : Arx Z h19 ob1 .int [(.int (Int32.ofNat (cn ms (0 : Int32) (iN + 1)))), (.int (Int32.ofNat (cn ms (1 : Int32) (iN + 1)))), (.int (Int32.ofNat (cn ms (2 : Int32) (iN + 1))))] := by rw [own_cn1 hy, own_cn0 (1 : Int32) hy (by decide), own_cn0 (2 : Int32) hy (by decide)]; exact V_c
              exact ih (iN + 1) x20 (0 : Int32) _ _ _ T19 _ _ X19 e19 N19 (by omega) (by omega) V_m Vn V_r V_0 (by rw [hii]; exact R_0.put hy (by omega)) V_1 (R_1.skip hy (by decide)) V_2 (R_2.skip hy (by decide)) K0
            by_cases e1 : y.toInt = 1
            · skip
              obtain rfl : y = (1 : Int32) := Int32.toInt_inj.mp (by rw [e1]; decide)
              show GG _ _ _ _ _ _ _ TL (mkF m 98 #[.val (.ref a1), .val (.int (3 : Int32)), .val (.ref ob1), .val (.ref ob4), .val (.int i), .val (.int (1 : Int32)), s6] [(.int (1 : Int32))])
              have hcl := cn_lt (j := ms.length) hy (by omega)
              have hc6 := cn_le ms (1 : Int32) ms.length
              have hc98 : ¬ ((1 : Int32) < (0 : Int32)) := by decide
              refine own_go (fun _ => XS.ifNo XL.here hx rfl (hb hby d2_98) rfl ((if0 _ _).trans (flt hc98).1)) ?_
              show GG _ _ _ _ _ _ _ TL (mkF m 101 #[.val (.ref a1), .val (.int (3 : Int32)), .val (.ref ob1), .val (.ref ob4), .val (.int i), .val (.int (1 : Int32)), s6] [])
              refine own_go (fun _ => XS.aloadN XL.here hx rfl (hb hby d2_101) rfl rfl) ?_
              show GG _ _ _ _ _ _ _ TL (mkF m 102 #[.val (.ref a1), .val (.int (3 : Int32)), .val (.ref ob1), .val (.ref ob4), .val (.int i), .val (.int (1 : Int32)), s6] [(.ref ob4)])
              refine own_go (fun _ => XS.iload XL.here hx rfl (hb hby d2_102) rfl) ?_
              show GG _ _ _ _ _ _ _ TL (mkF m 104 #[.val (.ref a1), .val (.int (3 : Int32)), .val (.ref ob1), .val (.ref ob4), .val (.int i), .val (.int (1 : Int32)), s6] [(.int (1 : Int32)), (.ref ob4)])
              refine own_go (fun _ => own_aaload XL hx hZ eL V_r rfl (j := (1 : Int32)) (v := (.ref ob8)) (by decide) rfl (g := (mkF m 104 #[.val (.ref a1), .val (.int (3 : Int32)), .val (.ref ob1), .val (.ref ob4), .val (.int i), .val (.int (1 : Int32)), s6] [(.int (1 : Int32)), (.ref ob4)])) rfl rfl (hb hby d2_104) _) ?_
              show GG _ _ _ _ _ _ _ TL (mkF m 105 #[.val (.ref a1), .val (.int (3 : Int32)), .val (.ref ob1), .val (.ref ob4), .val (.int i), .val (.int (1 : Int32)), s6] [(.ref ob8)])
              refine own_go (fun _ => XS.aloadN XL.here hx rfl (hb hby d2_105) rfl rfl) ?_
              show GG _ _ _ _ _ _ _ TL (mkF m 106 #[.val (.ref a1), .val (.int (3 : Int32)), .val (.ref ob1), .val (.ref ob4), .val (.int i), .val (.int (1 : Int32)), s6] [(.ref ob1), (.ref ob8)])
              refine own_go (fun _ => XS.iload XL.here hx rfl (hb hby d2_106) rfl) ?_
              show GG _ _ _ _ _ _ _ TL (mkF m 108 #[.val (.ref a1), .val (.int (3 : Int32)), .val (.ref ob1), .val (.ref ob4), .val (.int i), .val (.int (1 : Int32)), s6] [(.int (1 : Int32)), (.ref ob1), (.ref ob8)])
              refine own_go (fun _ => XT.dup2 XL.here hx rfl (hb hby d2_108) rfl rfl rfl) ?_
              show GG _ _ _ _ _ _ _ TL (mkF m 109 #[.val (.ref a1), .val (.int (3 : Int32)), .val (.ref ob1), .val (.ref ob4), .val (.int i), .val (.int (1 : Int32)), s6] [(.int (1 : Int32)), (.ref ob1), (.int (1 : Int32)), (.ref ob1), (.ref ob8)])
              refine own_go (fun _ => own_iaload XL hx hZ eL V_c (j := (1 : Int32)) (v := (.int (Int32.ofNat (cn ms (1 : Int32) iN)))) (by decide) rfl (g := (mkF m 109 #[.val (.ref a1), .val (.int (3 : Int32)), .val (.ref ob1), .val (.ref ob4), .val (.int i), .val (.int (1 : Int32)), s6] [(.int (1 : Int32)), (.ref ob1), (.int (1 : Int32)), (.ref ob1), (.ref ob8)])) rfl rfl (hb hby d2_109) _) ?_
              show GG _ _ _ _ _ _ _ TL (mkF m 110 #[.val (.ref a1), .val (.int (3 : Int32)), .val (.ref ob1), .val (.ref ob4), .val (.int i), .val (.int (1 : Int32)), s6] [(.int (Int32.ofNat (cn ms (1 : Int32) iN))), (.int (1 : Int32)), (.ref ob1), (.ref ob8)])
              refine own_go (fun _ => own_dupX2 XL.here hx rfl (hb hby d2_110) rfl rfl rfl rfl) ?_
              show GG _ _ _ _ _ _ _ TL (mkF m 111 #[.val (.ref a1), .val (.int (3 : Int32)), .val (.ref ob1), .val (.ref ob4), .val (.int i), .val (.int (1 : Int32)), s6] [(.int (Int32.ofNat (cn ms (1 : Int32) iN))), (.int (1 : Int32)), (.ref ob1), (.int (Int32.ofNat (cn ms (1 : Int32) iN))), (.ref ob8)])
              refine own_go (fun _ => XS.iconst XL.here hx rfl (hb hby d2_111)) ?_
              show GG _ _ _ _ _ _ _ TL (mkF m 112 #[.val (.ref a1), .val (.int (3 : Int32)), .val (.ref ob1), .val (.ref ob4), .val (.int i), .val (.int (1 : Int32)), s6] [(.int (1 : Int32)), (.int (Int32.ofNat (cn ms (1 : Int32) iN))), (.int (1 : Int32)), (.ref ob1), (.int (Int32.ofNat (cn ms (1 : Int32) iN))), (.ref ob8)])
              refine own_go (fun _ => XS.iadd XL.here hx rfl (hb hby d2_112) rfl) ?_
              show GG _ _ _ _ _ _ _ TL (mkF m 113 #[.val (.ref a1), .val (.int (3 : Int32)), .val (.ref ob1), .val (.ref ob4), .val (.int i), .val (.int (1 : Int32)), s6] [(.int ((Int32.ofNat (cn ms (1 : Int32) iN)) + (1 : Int32))), (.int (1 : Int32)), (.ref ob1), (.int (Int32.ofNat (cn ms (1 : Int32) iN))), (.ref ob8)])
              obtain ⟨T21, h21, X21, e21, W21, V21, st21⟩ := own_iastore XL hx hZ eL V_c (by decide) (Nat.le_of_ble_eq_true rfl) (g := (mkF m 113 #[.val (.ref a1), .val (.int (3 : Int32)), .val (.ref ob1), .val (.ref ob4), .val (.int i), .val (.int (1 : Int32)), s6] [(.int ((Int32.ofNat (cn ms (1 : Int32) iN)) + (1 : Int32))), (.int (1 : Int32)), (.ref ob1), (.int (Int32.ofNat (cn ms (1 : Int32) iN))), (.ref ob8)])) rfl rfl (hb hby d2_113)
              have V_m := V_m.other W21 ne_a1_ob1
              have V_r := V_r.other W21 (Ne.symm ne_ob1_ob4)
              have K0 := K0.wr W21 (Or.inr sz_ob1)
              have V_0 := V_0.other W21 (Ne.symm ne_ob1_ob5)
              have V_1 := V_1.other W21 (Ne.symm ne_ob1_ob8)
              have V_2 := V_2.other W21 (Ne.symm ne_ob1_ob11)
              have V_c : Arx Z h21 ob1 .int [(.int (Int32.ofNat (cn ms (0 : Int32) iN))), (.int ((Int32.ofNat (cn ms (1 : Int32) iN)) + (1 : Int32))), (.int (Int32.ofNat (cn ms (2 : Int32) iN)))] := V21
              have N21 := Fr.snoc X21 NL g_ob1
              refine own_go (fun _ => st21 _) ?_
              show GG _ _ _ _ _ _ _ T21 (mkF m 114 #[.val (.ref a1), .val (.int (3 : Int32)), .val (.ref ob1), .val (.ref ob4), .val (.int i), .val (.int (1 : Int32)), s6] [(.int (Int32.ofNat (cn ms (1 : Int32) iN))), (.ref ob8)])
              refine own_go (fun _ => XS.iload X21.here hx rfl (hb hby d2_114) rfl) ?_
              show GG _ _ _ _ _ _ _ T21 (mkF m 116 #[.val (.ref a1), .val (.int (3 : Int32)), .val (.ref ob1), .val (.ref ob4), .val (.int i), .val (.int (1 : Int32)), s6] [(.int i), (.int (Int32.ofNat (cn ms (1 : Int32) iN))), (.ref ob8)])
              obtain ⟨T22, h22, X22, e22, W22, V22, st22⟩ := own_iastore X21 hx hZ e21 V_1 (own_onn (by omega)) (by rw [List.length_map, R_1.1, own_ocl (by omega)]; exact hcl) (g := (mkF m 116 #[.val (.ref a1), .val (.int (3 : Int32)), .val (.ref ob1), .val (.ref ob4), .val (.int i), .val (.int (1 : Int32)), s6] [(.int i), (.int (Int32.ofNat (cn ms (1 : Int32) iN))), (.ref ob8)])) rfl rfl (hb hby d2_116)
              have V_m := V_m.other W22 ne_a1_ob8
              have V_c := V_c.other W22 ne_ob1_ob8
              have V_r := V_r.other W22 ne_ob4_ob8
              have K0 := K0.wr W22 (Or.inr sz_ob8)
              have V_0 := V_0.other W22 ne_ob5_ob8
              have V_2 := V_2.other W22 (Ne.symm ne_ob8_ob11)
              have V_1 : Arx Z h22 ob8 .int ((vs1.set (cn ms (1 : Int32) iN) i).map Value.int) := (own_rset (by omega) V22)
              have N22 := Fr.snoc X22 N21 g_ob8
              refine own_go (fun _ => st22 _) ?_
              show GG _ _ _ _ _ _ _ T22 (mkF m 117 #[.val (.ref a1), .val (.int (3 : Int32)), .val (.ref ob1), .val (.ref ob4), .val (.int i), .val (.int (1 : Int32)), s6] [])
              refine own_go (fun _ => XS.iinc X22.here hx rfl (hb hby d2_117) rfl (l' := #[.val (.ref a1), .val (.int (3 : Int32)), .val (.ref ob1), .val (.ref ob4), .val (.int (i + (1 : Int32))), .val (.int (1 : Int32)), s6]) rfl) ?_
              show GG _ _ _ _ _ _ _ T22 (mkF m 120 #[.val (.ref a1), .val (.int (3 : Int32)), .val (.ref ob1), .val (.ref ob4), .val (.int (i + (1 : Int32))), .val (.int (1 : Int32)), s6] [])
              have cx23 := c_iadd i (1 : Int32)
              simp only [show ((1 : Int32)).toInt = 1 from by decide] at cx23
              generalize hx23 : (i + (1 : Int32)) = x23 at cx23 ⊢
              have rx23 := rng32 x23
              have dx23 : x23.toInt = i.toInt + 1 := by omega
              clear cx23
              refine own_go (fun _ => XS.goto X22.here hx rfl (pc0 := 120) (pc' := 83) rfl (hb hby d2_120) (by decide) (by decide)) ?_
              show GG _ _ _ _ _ _ _ T22 (mkF m 83 #[.val (.ref a1), .val (.int (3 : Int32)), .val (.ref ob1), .val (.ref ob4), .val (.int x23), .val (.int (1 : Int32)), s6] [])
              have Vn : Arx Z h22 ob1 .int [(.int (Int32.ofNat (cn ms (0 : Int32) (iN + 1)))), (.int (Int32.ofNat (cn ms (1 : Int32) (iN + 1)))), (.int (Int32.ofNat (cn ms (2 : Int32) (iN + 1))))] := by rw [own_cn0 (0 : Int32) hy (by decide), own_cn1 hy, own_cn0 (2 : Int32) hy (by decide)]; exact V_c
              exact ih (iN + 1) x23 (1 : Int32) _ _ _ T22 _ _ X22 e22 N22 (by omega) (by omega) V_m Vn V_r V_0 (R_0.skip hy (by decide)) V_1 (by rw [hii]; exact R_1.put hy (by omega)) V_2 (R_2.skip hy (by decide)) K0
            by_cases e2 : y.toInt = 2
            · skip
              obtain rfl : y = (2 : Int32) := Int32.toInt_inj.mp (by rw [e2]; decide)
              show GG _ _ _ _ _ _ _ TL (mkF m 98 #[.val (.ref a1), .val (.int (3 : Int32)), .val (.ref ob1), .val (.ref ob4), .val (.int i), .val (.int (2 : Int32)), s6] [(.int (2 : Int32))])
              have hcl := cn_lt (j := ms.length) hy (by omega)
              have hc6 := cn_le ms (2 : Int32) ms.length
              have hc98 : ¬ ((2 : Int32) < (0 : Int32)) := by decide
              refine own_go (fun _ => XS.ifNo XL.here hx rfl (hb hby d2_98) rfl ((if0 _ _).trans (flt hc98).1)) ?_
              show GG _ _ _ _ _ _ _ TL (mkF m 101 #[.val (.ref a1), .val (.int (3 : Int32)), .val (.ref ob1), .val (.ref ob4), .val (.int i), .val (.int (2 : Int32)), s6] [])
              refine own_go (fun _ => XS.aloadN XL.here hx rfl (hb hby d2_101) rfl rfl) ?_
              show GG _ _ _ _ _ _ _ TL (mkF m 102 #[.val (.ref a1), .val (.int (3 : Int32)), .val (.ref ob1), .val (.ref ob4), .val (.int i), .val (.int (2 : Int32)), s6] [(.ref ob4)])
              refine own_go (fun _ => XS.iload XL.here hx rfl (hb hby d2_102) rfl) ?_
              show GG _ _ _ _ _ _ _ TL (mkF m 104 #[.val (.ref a1), .val (.int (3 : Int32)), .val (.ref ob1), .val (.ref ob4), .val (.int i), .val (.int (2 : Int32)), s6] [(.int (2 : Int32)), (.ref ob4)])
              refine own_go (fun _ => own_aaload XL hx hZ eL V_r rfl (j := (2 : Int32)) (v := (.ref ob11)) (by decide) rfl (g := (mkF m 104 #[.val (.ref a1), .val (.int (3 : Int32)), .val (.ref ob1), .val (.ref ob4), .val (.int i), .val (.int (2 : Int32)), s6] [(.int (2 : Int32)), (.ref ob4)])) rfl rfl (hb hby d2_104) _) ?_
              show GG _ _ _ _ _ _ _ TL (mkF m 105 #[.val (.ref a1), .val (.int (3 : Int32)), .val (.ref ob1), .val (.ref ob4), .val (.int i), .val (.int (2 : Int32)), s6] [(.ref ob11)])
              refine own_go (fun _ => XS.aloadN XL.here hx rfl (hb hby d2_105) rfl rfl) ?_
              show GG _ _ _ _ _ _ _ TL (mkF m 106 #[.val (.ref a1), .val (.int (3 : Int32)), .val (.ref ob1), .val (.ref ob4), .val (.int i), .val (.int (2 : Int32)), s6] [(.ref ob1), (.ref ob11)])
              refine own_go (fun _ => XS.iload XL.here hx rfl (hb hby d2_106) rfl) ?_
              show GG _ _ _ _ _ _ _ TL (mkF m 108 #[.val (.ref a1), .val (.int (3 : Int32)), .val (.ref ob1), .val (.ref ob4), .val (.int i), .val (.int (2 : Int32)), s6] [(.int (2 : Int32)), (.ref ob1), (.ref ob11)])
              refine own_go (fun _ => XT.dup2 XL.here hx rfl (hb hby d2_108) rfl rfl rfl) ?_
              show GG _ _ _ _ _ _ _ TL (mkF m 109 #[.val (.ref a1), .val (.int (3 : Int32)), .val (.ref ob1), .val (.ref ob4), .val (.int i), .val (.int (2 : Int32)), s6] [(.int (2 : Int32)), (.ref ob1), (.int (2 : Int32)), (.ref ob1), (.ref ob11)])
              refine own_go (fun _ => own_iaload XL hx hZ eL V_c (j := (2 : Int32)) (v := (.int (Int32.ofNat (cn ms (2 : Int32) iN)))) (by decide) rfl (g := (mkF m 109 #[.val (.ref a1), .val (.int (3 : Int32)), .val (.ref ob1), .val (.ref ob4), .val (.int i), .val (.int (2 : Int32)), s6] [(.int (2 : Int32)), (.ref ob1), (.int (2 : Int32)), (.ref ob1), (.ref ob11)])) rfl rfl (hb hby d2_109) _) ?_
              show GG _ _ _ _ _ _ _ TL (mkF m 110 #[.val (.ref a1), .val (.int (3 : Int32)), .val (.ref ob1), .val (.ref ob4), .val (.int i), .val (.int (2 : Int32)), s6] [(.int (Int32.ofNat (cn ms (2 : Int32) iN))), (.int (2 : Int32)), (.ref ob1), (.ref ob11)])
              refine own_go (fun _ => own_dupX2 XL.here hx rfl (hb hby d2_110) rfl rfl rfl rfl) ?_
              show GG _ _ _ _ _ _ _ TL (mkF m 111 #[.val (.ref a1), .val (.int (3 : Int32)), .val (.ref ob1), .val (.ref ob4), .val (.int i), .val (.int (2 : Int32)), s6] [(.int (Int32.ofNat (cn ms (2 : Int32) iN))), (.int (2 : Int32)), (.ref ob1), (.int (Int32.ofNat (cn ms (2 : Int32) iN))), (.ref ob11)])
              refine own_go (fun _ => XS.iconst XL.here hx rfl (hb hby d2_111)) ?_
              show GG _ _ _ _ _ _ _ TL (mkF m 112 #[.val (.ref a1), .val (.int (3 : Int32)), .val (.ref ob1), .val (.ref ob4), .val (.int i), .val (.int (2 : Int32)), s6] [(.int (1 : Int32)), (.int (Int32.ofNat (cn ms (2 : Int32) iN))), (.int (2 : Int32)), (.ref ob1), (.int (Int32.ofNat (cn ms (2 : Int32) iN))), (.ref ob11)])
              refine own_go (fun _ => XS.iadd XL.here hx rfl (hb hby d2_112) rfl) ?_
              show GG _ _ _ _ _ _ _ TL (mkF m 113 #[.val (.ref a1), .val (.int (3 : Int32)), .val (.ref ob1), .val (.ref ob4), .val (.int i), .val (.int (2 : Int32)), s6] [(.int ((Int32.ofNat (cn ms (2 : Int32) iN)) + (1 : Int32))), (.int (2 : Int32)), (.ref ob1), (.int (Int32.ofNat (cn ms (2 : Int32) iN))), (.ref ob11)])
              obtain ⟨T24, h24, X24, e24, W24, V24, st24⟩ := own_iastore XL hx hZ eL V_c (by decide) (Nat.le_of_ble_eq_true rfl) (g := (mkF m 113 #[.val (.ref a1), .val (.int (3 : Int32)), .val (.ref ob1), .val (.ref ob4), .val (.int i), .val (.int (2 : Int32)), s6] [(.int ((Int32.ofNat (cn ms (2 : Int32) iN)) + (1 : Int32))), (.int (2 : Int32)), (.ref ob1), (.int (Int32.ofNat (cn ms (2 : Int32) iN))), (.ref ob11)])) rfl rfl (hb hby d2_113)
              have V_m := V_m.other W24 ne_a1_ob1
              have V_r := V_r.other W24 (Ne.symm ne_ob1_ob4)
              have K0 := K0.wr W24 (Or.inr sz_ob1)
              have V_0 := V_0.other W24 (Ne.symm ne_ob1_ob5)
              have V_1 := V_1.other W24 (Ne.symm ne_ob1_ob8)
              have V_2 := V_2.other W24 (Ne.symm ne_ob1_ob11)
              have V_c : Arx Z h24 ob1 .int [(.int (Int32.ofNat (cn ms (0 : Int32) iN))), (.int (Int32.ofNat (cn ms (1 : Int32) iN))), (.int ((Int32.ofNat (cn ms (2 : Int32) iN)) + (1 : Int32)))] := V24
              have N24 := Fr.snoc X24 NL g_ob1
              refine own_go (fun _ => st24 _) ?_
              show GG _ _ _ _ _ _ _ T24 (mkF m 114 #[.val (.ref a1), .val (.int (3 : Int32)), .val (.ref ob1), .val (.ref ob4), .val (.int i), .val (.int (2 : Int32)), s6] [(.int (Int32.ofNat (cn ms (2 : Int32) iN))), (.ref ob11)])
              refine own_go (fun _ => XS.iload X24.here hx rfl (hb hby d2_114) rfl) ?_
              show GG _ _ _ _ _ _ _ T24 (mkF m 116 #[.val (.ref a1), .val (.int (3 : Int32)), .val (.ref ob1), .val (.ref ob4), .val (.int i), .val (.int (2 : Int32)), s6] [(.int i), (.int (Int32.ofNat (cn ms (2 : Int32) iN))), (.ref ob11)])
              obtain ⟨T25, h25, X25, e25, W25, V25, st25⟩ := own_iastore X24 hx hZ e24 V_2 (own_onn (by omega)) (by rw [List.length_map, R_2.1, own_ocl (by omega)]; exact hcl) (g := (mkF m 116 #[.val (.ref a1), .val (.int (3 : Int32)), .val (.ref ob1), .val (.ref ob4), .val (.int i), .val (.int (2 : Int32)), s6] [(.int i), (.int (Int32.ofNat (cn ms (2 : Int32) iN))), (.ref ob11)])) rfl rfl (hb hby d2_116)
              have V_m := V_m.other W25 ne_a1_ob11
              have V_c := V_c.other W25 ne_ob1_ob11
              have V_r := V_r.other W25 ne_ob4_ob11
              have K0 := K0.wr W25 (Or.inr sz_ob11)
              have V_0 := V_0.other W25 ne_ob5_ob11
              have V_1 := V_1.other W25 ne_ob8_ob11
              have V_2 : Arx Z h25 ob11 .int ((vs2.set (cn ms (2 : Int32) iN) i).map Value.int) := (own_rset (by omega) V25)
              have N25 := Fr.snoc X25 N24 g_ob11
              refine own_go (fun _ => st25 _) ?_
              show GG _ _ _ _ _ _ _ T25 (mkF m 117 #[.val (.ref a1), .val (.int (3 : Int32)), .val (.ref ob1), .val (.ref ob4), .val (.int i), .val (.int (2 : Int32)), s6] [])
              refine own_go (fun _ => XS.iinc X25.here hx rfl (hb hby d2_117) rfl (l' := #[.val (.ref a1), .val (.int (3 : Int32)), .val (.ref ob1), .val (.ref ob4), .val (.int (i + (1 : Int32))), .val (.int (2 : Int32)), s6]) rfl) ?_
              show GG _ _ _ _ _ _ _ T25 (mkF m 120 #[.val (.ref a1), .val (.int (3 : Int32)), .val (.ref ob1), .val (.ref ob4), .val (.int (i + (1 : Int32))), .val (.int (2 : Int32)), s6] [])
              have cx26 := c_iadd i (1 : Int32)
              simp only [show ((1 : Int32)).toInt = 1 from by decide] at cx26
              generalize hx26 : (i + (1 : Int32)) = x26 at cx26 ⊢
              have rx26 := rng32 x26
              have dx26 : x26.toInt = i.toInt + 1 := by omega
              clear cx26
              refine own_go (fun _ => XS.goto X25.here hx rfl (pc0 := 120) (pc' := 83) rfl (hb hby d2_120) (by decide) (by decide)) ?_
              show GG _ _ _ _ _ _ _ T25 (mkF m 83 #[.val (.ref a1), .val (.int (3 : Int32)), .val (.ref ob1), .val (.ref ob4), .val (.int x26), .val (.int (2 : Int32)), s6] [])
              have Vn : Arx Z h25 ob1 .int [(.int (Int32.ofNat (cn ms (0 : Int32) (iN + 1)))), (.int (Int32.ofNat (cn ms (1 : Int32) (iN + 1)))), (.int (Int32.ofNat (cn ms (2 : Int32) (iN + 1))))] := by rw [own_cn0 (0 : Int32) hy (by decide), own_cn0 (1 : Int32) hy (by decide), own_cn1 hy]; exact V_c
              exact ih (iN + 1) x26 (2 : Int32) _ _ _ T25 _ _ X25 e25 N25 (by omega) (by omega) V_m Vn V_r V_0 (R_0.skip hy (by decide)) V_1 (R_1.skip hy (by decide)) V_2 (by rw [hii]; exact R_2.put hy (by omega)) K0
            exact absurd hyr (by omega)
      exact loop14 ms.length 0 (0 : Int32) i _ _ _ T13 h13 _ X13 e13 N13 (by decide) (by omega) V_m V_c V_r V_ob5 (Row.new _ _ _) V_ob8 (Row.new _ _ _) V_ob11 (Row.new _ _ _) K0
    | succ k ih =>
      intro iN i s6 TL hL lL XL eL NL hi hk hs6 V_m V_c K0
      have ri := rng32 i
      obtain ⟨y, hy⟩ : ∃ y, ms[iN]? = some y := ⟨_, List.getElem?_eq_getElem (show iN < ms.length by omega)⟩
      have hyr := hG iN y hy
      show GG _ _ _ _ _ _ _ TL (mkF m 13 #[.val (.ref a1), .val (.int (3 : Int32)), .val (.ref ob1), .val (.ref a1), .val (.int y2), .val (.int i), s6] [])
      refine own_go (fun _ => XS.iload XL.here hx rfl (hb hby d2_13) rfl) ?_
      show GG _ _ _ _ _ _ _ TL (mkF m 15 #[.val (.ref a1), .val (.int (3 : Int32)), .val (.ref ob1), .val (.ref a1), .val (.int y2), .val (.int i), s6] [(.int i)])
      refine own_go (fun _ => XS.iload XL.here hx rfl (hb hby d2_15) rfl) ?_
      show GG _ _ _ _ _ _ _ TL (mkF m 17 #[.val (.ref a1), .val (.int (3 : Int32)), .val (.ref ob1), .val (.ref a1), .val (.int y2), .val (.int i), s6] [(.int y2), (.int i)])
      have hc17 : i < y2 := (Int32.lt_iff_toInt_lt.mpr ((by show (i.toInt < y2.toInt); omega : (i.toInt < y2.toInt))))
      refine own_go (fun _ => XS.icmpNo XL.here hx rfl (hb hby d2_17) rfl (tlt hc17).2.1) ?_
      show GG _ _ _ _ _ _ _ TL (mkF m 20 #[.val (.ref a1), .val (.int (3 : Int32)), .val (.ref ob1), .val (.ref a1), .val (.int y2), .val (.int i), s6] [])
      refine own_go (fun _ => XS.aloadN XL.here hx rfl (hb hby d2_20) rfl rfl) ?_
      show GG _ _ _ _ _ _ _ TL (mkF m 21 #[.val (.ref a1), .val (.int (3 : Int32)), .val (.ref ob1), .val (.ref a1), .val (.int y2), .val (.int i), s6] [(.ref a1)])
      refine own_go (fun _ => XS.iload XL.here hx rfl (hb hby d2_21) rfl) ?_
      show GG _ _ _ _ _ _ _ TL (mkF m 23 #[.val (.ref a1), .val (.int (3 : Int32)), .val (.ref ob1), .val (.ref a1), .val (.int y2), .val (.int i), s6] [(.int i), (.ref a1)])
      refine own_go (fun _ => own_iaload XL hx hZ eL V_m (j := i) (v := (.int y)) (own_nn (by omega)) (own_mget hi hy) (g := (mkF m 23 #[.val (.ref a1), .val (.int (3 : Int32)), .val (.ref ob1), .val (.ref a1), .val (.int y2), .val (.int i), s6] [(.int i), (.ref a1)])) rfl rfl (hb hby d2_23) _) ?_
      show GG _ _ _ _ _ _ _ TL (mkF m 24 #[.val (.ref a1), .val (.int (3 : Int32)), .val (.ref ob1), .val (.ref a1), .val (.int y2), .val (.int i), s6] [(.int y)])
      refine own_go (fun _ => XS.istore XL.here hx rfl (hb hby d2_24) rfl (l' := #[.val (.ref a1), .val (.int (3 : Int32)), .val (.ref ob1), .val (.ref a1), .val (.int y2), .val (.int i), .val (.int y)]) (XS.store1 (o := s6) rfl hs6 rfl)) ?_
      show GG _ _ _ _ _ _ _ TL (mkF m 26 #[.val (.ref a1), .val (.int (3 : Int32)), .val (.ref ob1), .val (.ref a1), .val (.int y2), .val (.int i), .val (.int y)] [])
      refine own_go (fun _ => XS.iload XL.here hx rfl (hb hby d2_26) rfl) ?_
      show GG _ _ _ _ _ _ _ TL (mkF m 28 #[.val (.ref a1), .val (.int (3 : Int32)), .val (.ref ob1), .val (.ref a1), .val (.int y2), .val (.int i), .val (.int y)] [(.int y)])
      by_cases hneg : y.toInt < 0
      · skip
        have hc28 : y < (0 : Int32) := (Int32.lt_iff_toInt_lt.mpr ((by show (y.toInt < 0); omega : (y.toInt < 0))))
        refine own_go (fun _ => XS.ifYes XL.here hx rfl (pc0 := 28) (pc' := 39) rfl (hb hby d2_28) rfl ((if0 _ _).trans (tlt hc28).1) (by decide) (by decide)) ?_
        show GG _ _ _ _ _ _ _ TL (mkF m 39 #[.val (.ref a1), .val (.int (3 : Int32)), .val (.ref ob1), .val (.ref a1), .val (.int y2), .val (.int i), .val (.int y)] [])
        have ri' := rng32 i
        refine own_go (fun _ => XS.iinc XL.here hx rfl (hb hby d2_39) rfl (l' := #[.val (.ref a1), .val (.int (3 : Int32)), .val (.ref ob1), .val (.ref a1), .val (.int y2), .val (.int (i + (1 : Int32))), .val (.int y)]) rfl) ?_
        show GG _ _ _ _ _ _ _ TL (mkF m 42 #[.val (.ref a1), .val (.int (3 : Int32)), .val (.ref ob1), .val (.ref a1), .val (.int y2), .val (.int (i + (1 : Int32))), .val (.int y)] [])
        have cx27 := c_iadd i (1 : Int32)
        simp only [show ((1 : Int32)).toInt = 1 from by decide] at cx27
        generalize hx27 : (i + (1 : Int32)) = x27 at cx27 ⊢
        have rx27 := rng32 x27
        have dx27 : x27.toInt = i.toInt + 1 := by omega
        clear cx27
        refine own_go (fun _ => XS.goto XL.here hx rfl (pc0 := 42) (pc' := 13) rfl (hb hby d2_42) (by decide) (by decide)) ?_
        show GG _ _ _ _ _ _ _ TL (mkF m 13 #[.val (.ref a1), .val (.int (3 : Int32)), .val (.ref ob1), .val (.ref a1), .val (.int y2), .val (.int x27), .val (.int y)] [])
        have Vn : Arx Z hL ob1 .int [(.int (Int32.ofNat (cn ms (0 : Int32) (iN + 1)))), (.int (Int32.ofNat (cn ms (1 : Int32) (iN + 1)))), (.int (Int32.ofNat (cn ms (2 : Int32) (iN + 1))))] := by rw [own_cn0 (0 : Int32) hy (fun q => by rw [q] at hneg; exact absurd hneg (by decide)), own_cn0 (1 : Int32) hy (fun q => by rw [q] at hneg; exact absurd hneg (by decide)), own_cn0 (2 : Int32) hy (fun q => by rw [q] at hneg; exact absurd hneg (by decide))]; exact V_c
        exact ih (iN + 1) x27 (.val (.int y)) TL _ _ XL eL NL (by omega) (by omega) (Or.inr ⟨_, rfl, rfl⟩) V_m Vn K0
      · skip
        by_cases e0 : y.toInt = 0
        · skip
          obtain rfl : y = (0 : Int32) := Int32.toInt_inj.mp (by rw [e0]; decide)
          show GG _ _ _ _ _ _ _ TL (mkF m 28 #[.val (.ref a1), .val (.int (3 : Int32)), .val (.ref ob1), .val (.ref a1), .val (.int y2), .val (.int i), .val (.int (0 : Int32))] [(.int (0 : Int32))])
          have hc28 : ¬ ((0 : Int32) < (0 : Int32)) := by decide
          refine own_go (fun _ => XS.ifNo XL.here hx rfl (hb hby d2_28) rfl ((if0 _ _).trans (flt hc28).1)) ?_
          show GG _ _ _ _ _ _ _ TL (mkF m 31 #[.val (.ref a1), .val (.int (3 : Int32)), .val (.ref ob1), .val (.ref a1), .val (.int y2), .val (.int i), .val (.int (0 : Int32))] [])
          refine own_go (fun _ => XS.aloadN XL.here hx rfl (hb hby d2_31) rfl rfl) ?_
          show GG _ _ _ _ _ _ _ TL (mkF m 32 #[.val (.ref a1), .val (.int (3 : Int32)), .val (.ref ob1), .val (.ref a1), .val (.int y2), .val (.int i), .val (.int (0 : Int32))] [(.ref ob1)])
          refine own_go (fun _ => XS.iload XL.here hx rfl (hb hby d2_32) rfl) ?_
          show GG _ _ _ _ _ _ _ TL (mkF m 34 #[.val (.ref a1), .val (.int (3 : Int32)), .val (.ref ob1), .val (.ref a1), .val (.int y2), .val (.int i), .val (.int (0 : Int32))] [(.int (0 : Int32)), (.ref ob1)])
          refine own_go (fun _ => XT.dup2 XL.here hx rfl (hb hby d2_34) rfl rfl rfl) ?_
          show GG _ _ _ _ _ _ _ TL (mkF m 35 #[.val (.ref a1), .val (.int (3 : Int32)), .val (.ref ob1), .val (.ref a1), .val (.int y2), .val (.int i), .val (.int (0 : Int32))] [(.int (0 : Int32)), (.ref ob1), (.int (0 : Int32)), (.ref ob1)])
          refine own_go (fun _ => own_iaload XL hx hZ eL V_c (j := (0 : Int32)) (v := (.int (Int32.ofNat (cn ms (0 : Int32) iN)))) (by decide) rfl (g := (mkF m 35 #[.val (.ref a1), .val (.int (3 : Int32)), .val (.ref ob1), .val (.ref a1), .val (.int y2), .val (.int i), .val (.int (0 : Int32))] [(.int (0 : Int32)), (.ref ob1), (.int (0 : Int32)), (.ref ob1)])) rfl rfl (hb hby d2_35) _) ?_
          show GG _ _ _ _ _ _ _ TL (mkF m 36 #[.val (.ref a1), .val (.int (3 : Int32)), .val (.ref ob1), .val (.ref a1), .val (.int y2), .val (.int i), .val (.int (0 : Int32))] [(.int (Int32.ofNat (cn ms (0 : Int32) iN))), (.int (0 : Int32)), (.ref ob1)])
          refine own_go (fun _ => XS.iconst XL.here hx rfl (hb hby d2_36)) ?_
          show GG _ _ _ _ _ _ _ TL (mkF m 37 #[.val (.ref a1), .val (.int (3 : Int32)), .val (.ref ob1), .val (.ref a1), .val (.int y2), .val (.int i), .val (.int (0 : Int32))] [(.int (1 : Int32)), (.int (Int32.ofNat (cn ms (0 : Int32) iN))), (.int (0 : Int32)), (.ref ob1)])
          refine own_go (fun _ => XS.iadd XL.here hx rfl (hb hby d2_37) rfl) ?_
          show GG _ _ _ _ _ _ _ TL (mkF m 38 #[.val (.ref a1), .val (.int (3 : Int32)), .val (.ref ob1), .val (.ref a1), .val (.int y2), .val (.int i), .val (.int (0 : Int32))] [(.int ((Int32.ofNat (cn ms (0 : Int32) iN)) + (1 : Int32))), (.int (0 : Int32)), (.ref ob1)])
          obtain ⟨T28, h28, X28, e28, W28, V28, st28⟩ := own_iastore XL hx hZ eL V_c (by decide) (Nat.le_of_ble_eq_true rfl) (g := (mkF m 38 #[.val (.ref a1), .val (.int (3 : Int32)), .val (.ref ob1), .val (.ref a1), .val (.int y2), .val (.int i), .val (.int (0 : Int32))] [(.int ((Int32.ofNat (cn ms (0 : Int32) iN)) + (1 : Int32))), (.int (0 : Int32)), (.ref ob1)])) rfl rfl (hb hby d2_38)
          have V_m := V_m.other W28 ne_a1_ob1
          have K0 := K0.wr W28 (Or.inr sz_ob1)
          have V_c : Arx Z h28 ob1 .int [(.int ((Int32.ofNat (cn ms (0 : Int32) iN)) + (1 : Int32))), (.int (Int32.ofNat (cn ms (1 : Int32) iN))), (.int (Int32.ofNat (cn ms (2 : Int32) iN)))] := V28
          have N28 := Fr.snoc X28 NL g_ob1
          refine own_go (fun _ => st28 _) ?_
          show GG _ _ _ _ _ _ _ T28 (mkF m 39 #[.val (.ref a1), .val (.int (3 : Int32)), .val (.ref ob1), .val (.ref a1), .val (.int y2), .val (.int i), .val (.int (0 : Int32))] [])
          have ri' := rng32 i
          refine own_go (fun _ => XS.iinc X28.here hx rfl (hb hby d2_39) rfl (l' := #[.val (.ref a1), .val (.int (3 : Int32)), .val (.ref ob1), .val (.ref a1), .val (.int y2), .val (.int (i + (1 : Int32))), .val (.int (0 : Int32))]) rfl) ?_
          show GG _ _ _ _ _ _ _ T28 (mkF m 42 #[.val (.ref a1), .val (.int (3 : Int32)), .val (.ref ob1), .val (.ref a1), .val (.int y2), .val (.int (i + (1 : Int32))), .val (.int (0 : Int32))] [])
          have cx29 := c_iadd i (1 : Int32)
          simp only [show ((1 : Int32)).toInt = 1 from by decide] at cx29
          generalize hx29 : (i + (1 : Int32)) = x29 at cx29 ⊢
          have rx29 := rng32 x29
          have dx29 : x29.toInt = i.toInt + 1 := by omega
          clear cx29
          refine own_go (fun _ => XS.goto X28.here hx rfl (pc0 := 42) (pc' := 13) rfl (hb hby d2_42) (by decide) (by decide)) ?_
          show GG _ _ _ _ _ _ _ T28 (mkF m 13 #[.val (.ref a1), .val (.int (3 : Int32)), .val (.ref ob1), .val (.ref a1), .val (.int y2), .val (.int x29), .val (.int (0 : Int32))] [])
          have Vn : Arx Z h28 ob1 .int [(.int (Int32.ofNat (cn ms (0 : Int32) (iN + 1)))), (.int (Int32.ofNat (cn ms (1 : Int32) (iN + 1)))), (.int (Int32.ofNat (cn ms (2 : Int32) (iN + 1))))] := by rw [own_cn1 hy, own_cn0 (1 : Int32) hy (by decide), own_cn0 (2 : Int32) hy (by decide)]; exact V_c
          exact ih (iN + 1) x29 (.val (.int (0 : Int32))) T28 _ _ X28 e28 N28 (by omega) (by omega) (Or.inr ⟨_, rfl, rfl⟩) V_m Vn K0
        by_cases e1 : y.toInt = 1
        · skip
          obtain rfl : y = (1 : Int32) := Int32.toInt_inj.mp (by rw [e1]; decide)
          show GG _ _ _ _ _ _ _ TL (mkF m 28 #[.val (.ref a1), .val (.int (3 : Int32)), .val (.ref ob1), .val (.ref a1), .val (.int y2), .val (.int i), .val (.int (1 : Int32))] [(.int (1 : Int32))])
          have hc28 : ¬ ((1 : Int32) < (0 : Int32)) := by decide
          refine own_go (fun _ => XS.ifNo XL.here hx rfl (hb hby d2_28) rfl ((if0 _ _).trans (flt hc28).1)) ?_
          show GG _ _ _ _ _ _ _ TL (mkF m 31 #[.val (.ref a1), .val (.int (3 : Int32)), .val (.ref ob1), .val (.ref a1), .val (.int y2), .val (.int i), .val (.int (1 : Int32))] [])
          refine own_go (fun _ => XS.aloadN XL.here hx rfl (hb hby d2_31) rfl rfl) ?_
          show GG _ _ _ _ _ _ _ TL (mkF m 32 #[.val (.ref a1), .val (.int (3 : Int32)), .val (.ref ob1), .val (.ref a1), .val (.int y2), .val (.int i), .val (.int (1 : Int32))] [(.ref ob1)])
          refine own_go (fun _ => XS.iload XL.here hx rfl (hb hby d2_32) rfl) ?_
          show GG _ _ _ _ _ _ _ TL (mkF m 34 #[.val (.ref a1), .val (.int (3 : Int32)), .val (.ref ob1), .val (.ref a1), .val (.int y2), .val (.int i), .val (.int (1 : Int32))] [(.int (1 : Int32)), (.ref ob1)])
          refine own_go (fun _ => XT.dup2 XL.here hx rfl (hb hby d2_34) rfl rfl rfl) ?_
          show GG _ _ _ _ _ _ _ TL (mkF m 35 #[.val (.ref a1), .val (.int (3 : Int32)), .val (.ref ob1), .val (.ref a1), .val (.int y2), .val (.int i), .val (.int (1 : Int32))] [(.int (1 : Int32)), (.ref ob1), (.int (1 : Int32)), (.ref ob1)])
          refine own_go (fun _ => own_iaload XL hx hZ eL V_c (j := (1 : Int32)) (v := (.int (Int32.ofNat (cn ms (1 : Int32) iN)))) (by decide) rfl (g := (mkF m 35 #[.val (.ref a1), .val (.int (3 : Int32)), .val (.ref ob1), .val (.ref a1), .val (.int y2), .val (.int i), .val (.int (1 : Int32))] [(.int (1 : Int32)), (.ref ob1), (.int (1 : Int32)), (.ref ob1)])) rfl rfl (hb hby d2_35) _) ?_
          show GG _ _ _ _ _ _ _ TL (mkF m 36 #[.val (.ref a1), .val (.int (3 : Int32)), .val (.ref ob1), .val (.ref a1), .val (.int y2), .val (.int i), .val (.int (1 : Int32))] [(.int (Int32.ofNat (cn ms (1 : Int32) iN))), (.int (1 : Int32)), (.ref ob1)])
          refine own_go (fun _ => XS.iconst XL.here hx rfl (hb hby d2_36)) ?_
          show GG _ _ _ _ _ _ _ TL (mkF m 37 #[.val (.ref a1), .val (.int (3 : Int32)), .val (.ref ob1), .val (.ref a1), .val (.int y2), .val (.int i), .val (.int (1 : Int32))] [(.int (1 : Int32)), (.int (Int32.ofNat (cn ms (1 : Int32) iN))), (.int (1 : Int32)), (.ref ob1)])
          refine own_go (fun _ => XS.iadd XL.here hx rfl (hb hby d2_37) rfl) ?_
          show GG _ _ _ _ _ _ _ TL (mkF m 38 #[.val (.ref a1), .val (.int (3 : Int32)), .val (.ref ob1), .val (.ref a1), .val (.int y2), .val (.int i), .val (.int (1 : Int32))] [(.int ((Int32.ofNat (cn ms (1 : Int32) iN)) + (1 : Int32))), (.int (1 : Int32)), (.ref ob1)])
          obtain ⟨T30, h30, X30, e30, W30, V30, st30⟩ := own_iastore XL hx hZ eL V_c (by decide) (Nat.le_of_ble_eq_true rfl) (g := (mkF m 38 #[.val (.ref a1), .val (.int (3 : Int32)), .val (.ref ob1), .val (.ref a1), .val (.int y2), .val (.int i), .val (.int (1 : Int32))] [(.int ((Int32.ofNat (cn ms (1 : Int32) iN)) + (1 : Int32))), (.int (1 : Int32)), (.ref ob1)])) rfl rfl (hb hby d2_38)
          have V_m := V_m.other W30 ne_a1_ob1
          have K0 := K0.wr W30 (Or.inr sz_ob1)
          have V_c : Arx Z h30 ob1 .int [(.int (Int32.ofNat (cn ms (0 : Int32) iN))), (.int ((Int32.ofNat (cn ms (1 : Int32) iN)) + (1 : Int32))), (.int (Int32.ofNat (cn ms (2 : Int32) iN)))] := V30
          have N30 := Fr.snoc X30 NL g_ob1
          refine own_go (fun _ => st30 _) ?_
          show GG _ _ _ _ _ _ _ T30 (mkF m 39 #[.val (.ref a1), .val (.int (3 : Int32)), .val (.ref ob1), .val (.ref a1), .val (.int y2), .val (.int i), .val (.int (1 : Int32))] [])
          have ri' := rng32 i
          refine own_go (fun _ => XS.iinc X30.here hx rfl (hb hby d2_39) rfl (l' := #[.val (.ref a1), .val (.int (3 : Int32)), .val (.ref ob1), .val (.ref a1), .val (.int y2), .val (.int (i + (1 : Int32))), .val (.int (1 : Int32))]) rfl) ?_
          show GG _ _ _ _ _ _ _ T30 (mkF m 42 #[.val (.ref a1), .val (.int (3 : Int32)), .val (.ref ob1), .val (.ref a1), .val (.int y2), .val (.int (i + (1 : Int32))), .val (.int (1 : Int32))] [])
          have cx31 := c_iadd i (1 : Int32)
          simp only [show ((1 : Int32)).toInt = 1 from by decide] at cx31
          generalize hx31 : (i + (1 : Int32)) = x31 at cx31 ⊢
          have rx31 := rng32 x31
          have dx31 : x31.toInt = i.toInt + 1 := by omega
          clear cx31
          refine own_go (fun _ => XS.goto X30.here hx rfl (pc0 := 42) (pc' := 13) rfl (hb hby d2_42) (by decide) (by decide)) ?_
          show GG _ _ _ _ _ _ _ T30 (mkF m 13 #[.val (.ref a1), .val (.int (3 : Int32)), .val (.ref ob1), .val (.ref a1), .val (.int y2), .val (.int x31), .val (.int (1 : Int32))] [])
          have Vn : Arx Z h30 ob1 .int [(.int (Int32.ofNat (cn ms (0 : Int32) (iN + 1)))), (.int (Int32.ofNat (cn ms (1 : Int32) (iN + 1)))), (.int (Int32.ofNat (cn ms (2 : Int32) (iN + 1))))] := by rw [own_cn0 (0 : Int32) hy (by decide), own_cn1 hy, own_cn0 (2 : Int32) hy (by decide)]; exact V_c
          exact ih (iN + 1) x31 (.val (.int (1 : Int32))) T30 _ _ X30 e30 N30 (by omega) (by omega) (Or.inr ⟨_, rfl, rfl⟩) V_m Vn K0
        by_cases e2 : y.toInt = 2
        · skip
          obtain rfl : y = (2 : Int32) := Int32.toInt_inj.mp (by rw [e2]; decide)
          show GG _ _ _ _ _ _ _ TL (mkF m 28 #[.val (.ref a1), .val (.int (3 : Int32)), .val (.ref ob1), .val (.ref a1), .val (.int y2), .val (.int i), .val (.int (2 : Int32))] [(.int (2 : Int32))])
          have hc28 : ¬ ((2 : Int32) < (0 : Int32)) := by decide
          refine own_go (fun _ => XS.ifNo XL.here hx rfl (hb hby d2_28) rfl ((if0 _ _).trans (flt hc28).1)) ?_
          show GG _ _ _ _ _ _ _ TL (mkF m 31 #[.val (.ref a1), .val (.int (3 : Int32)), .val (.ref ob1), .val (.ref a1), .val (.int y2), .val (.int i), .val (.int (2 : Int32))] [])
          refine own_go (fun _ => XS.aloadN XL.here hx rfl (hb hby d2_31) rfl rfl) ?_
          show GG _ _ _ _ _ _ _ TL (mkF m 32 #[.val (.ref a1), .val (.int (3 : Int32)), .val (.ref ob1), .val (.ref a1), .val (.int y2), .val (.int i), .val (.int (2 : Int32))] [(.ref ob1)])
          refine own_go (fun _ => XS.iload XL.here hx rfl (hb hby d2_32) rfl) ?_
          show GG _ _ _ _ _ _ _ TL (mkF m 34 #[.val (.ref a1), .val (.int (3 : Int32)), .val (.ref ob1), .val (.ref a1), .val (.int y2), .val (.int i), .val (.int (2 : Int32))] [(.int (2 : Int32)), (.ref ob1)])
          refine own_go (fun _ => XT.dup2 XL.here hx rfl (hb hby d2_34) rfl rfl rfl) ?_
          show GG _ _ _ _ _ _ _ TL (mkF m 35 #[.val (.ref a1), .val (.int (3 : Int32)), .val (.ref ob1), .val (.ref a1), .val (.int y2), .val (.int i), .val (.int (2 : Int32))] [(.int (2 : Int32)), (.ref ob1), (.int (2 : Int32)), (.ref ob1)])
          refine own_go (fun _ => own_iaload XL hx hZ eL V_c (j := (2 : Int32)) (v := (.int (Int32.ofNat (cn ms (2 : Int32) iN)))) (by decide) rfl (g := (mkF m 35 #[.val (.ref a1), .val (.int (3 : Int32)), .val (.ref ob1), .val (.ref a1), .val (.int y2), .val (.int i), .val (.int (2 : Int32))] [(.int (2 : Int32)), (.ref ob1), (.int (2 : Int32)), (.ref ob1)])) rfl rfl (hb hby d2_35) _) ?_
          show GG _ _ _ _ _ _ _ TL (mkF m 36 #[.val (.ref a1), .val (.int (3 : Int32)), .val (.ref ob1), .val (.ref a1), .val (.int y2), .val (.int i), .val (.int (2 : Int32))] [(.int (Int32.ofNat (cn ms (2 : Int32) iN))), (.int (2 : Int32)), (.ref ob1)])
          refine own_go (fun _ => XS.iconst XL.here hx rfl (hb hby d2_36)) ?_
          show GG _ _ _ _ _ _ _ TL (mkF m 37 #[.val (.ref a1), .val (.int (3 : Int32)), .val (.ref ob1), .val (.ref a1), .val (.int y2), .val (.int i), .val (.int (2 : Int32))] [(.int (1 : Int32)), (.int (Int32.ofNat (cn ms (2 : Int32) iN))), (.int (2 : Int32)), (.ref ob1)])
          refine own_go (fun _ => XS.iadd XL.here hx rfl (hb hby d2_37) rfl) ?_
          show GG _ _ _ _ _ _ _ TL (mkF m 38 #[.val (.ref a1), .val (.int (3 : Int32)), .val (.ref ob1), .val (.ref a1), .val (.int y2), .val (.int i), .val (.int (2 : Int32))] [(.int ((Int32.ofNat (cn ms (2 : Int32) iN)) + (1 : Int32))), (.int (2 : Int32)), (.ref ob1)])
          obtain ⟨T32, h32, X32, e32, W32, V32, st32⟩ := own_iastore XL hx hZ eL V_c (by decide) (Nat.le_of_ble_eq_true rfl) (g := (mkF m 38 #[.val (.ref a1), .val (.int (3 : Int32)), .val (.ref ob1), .val (.ref a1), .val (.int y2), .val (.int i), .val (.int (2 : Int32))] [(.int ((Int32.ofNat (cn ms (2 : Int32) iN)) + (1 : Int32))), (.int (2 : Int32)), (.ref ob1)])) rfl rfl (hb hby d2_38)
          have V_m := V_m.other W32 ne_a1_ob1
          have K0 := K0.wr W32 (Or.inr sz_ob1)
          have V_c : Arx Z h32 ob1 .int [(.int (Int32.ofNat (cn ms (0 : Int32) iN))), (.int (Int32.ofNat (cn ms (1 : Int32) iN))), (.int ((Int32.ofNat (cn ms (2 : Int32) iN)) + (1 : Int32)))] := V32
          have N32 := Fr.snoc X32 NL g_ob1
          refine own_go (fun _ => st32 _) ?_
          show GG _ _ _ _ _ _ _ T32 (mkF m 39 #[.val (.ref a1), .val (.int (3 : Int32)), .val (.ref ob1), .val (.ref a1), .val (.int y2), .val (.int i), .val (.int (2 : Int32))] [])
          have ri' := rng32 i
          refine own_go (fun _ => XS.iinc X32.here hx rfl (hb hby d2_39) rfl (l' := #[.val (.ref a1), .val (.int (3 : Int32)), .val (.ref ob1), .val (.ref a1), .val (.int y2), .val (.int (i + (1 : Int32))), .val (.int (2 : Int32))]) rfl) ?_
          show GG _ _ _ _ _ _ _ T32 (mkF m 42 #[.val (.ref a1), .val (.int (3 : Int32)), .val (.ref ob1), .val (.ref a1), .val (.int y2), .val (.int (i + (1 : Int32))), .val (.int (2 : Int32))] [])
          have cx33 := c_iadd i (1 : Int32)
          simp only [show ((1 : Int32)).toInt = 1 from by decide] at cx33
          generalize hx33 : (i + (1 : Int32)) = x33 at cx33 ⊢
          have rx33 := rng32 x33
          have dx33 : x33.toInt = i.toInt + 1 := by omega
          clear cx33
          refine own_go (fun _ => XS.goto X32.here hx rfl (pc0 := 42) (pc' := 13) rfl (hb hby d2_42) (by decide) (by decide)) ?_
          show GG _ _ _ _ _ _ _ T32 (mkF m 13 #[.val (.ref a1), .val (.int (3 : Int32)), .val (.ref ob1), .val (.ref a1), .val (.int y2), .val (.int x33), .val (.int (2 : Int32))] [])
          have Vn : Arx Z h32 ob1 .int [(.int (Int32.ofNat (cn ms (0 : Int32) (iN + 1)))), (.int (Int32.ofNat (cn ms (1 : Int32) (iN + 1)))), (.int (Int32.ofNat (cn ms (2 : Int32) (iN + 1))))] := by rw [own_cn0 (0 : Int32) hy (by decide), own_cn0 (1 : Int32) hy (by decide), own_cn1 hy]; exact V_c
          exact ih (iN + 1) x33 (.val (.int (2 : Int32))) T32 _ _ X32 e32 N32 (by omega) (by omega) (Or.inr ⟨_, rfl, rfl⟩) V_m Vn K0
        exact absurd hyr (by omega)
  exact loop3 ms.length 0 (0 : Int32) .unset T1 h1 _ X1 e1 N0 (by decide) (by omega) (Or.inl rfl) V_m V_ob1 K0
def Q2_4 (Z : State) (a1 : Addr) (ms : List Int32) (h0 : Heap) (n0 : Nat) (v : Option Value) (h : Heap) (L : List Loc) : Prop := ∃ b rs, v = some (.ref b) ∧ Fr n0 L ∧ Keep h0 h [] ∧ Arx Z h b (.array .int) (rs.map Value.ref) ∧ rs.length = 4 ∧ Rows Z h ms rs
set_option maxRecDepth 65536 in
set_option maxHeartbeats 40000000 in
theorem rm2_4 (l : Launch) (Z : State) (a0 : Array Value) (hw : ∀ d ∈ tables_1, d.before a0 Z = true) (ws : List Jvm.Cond) (a1 : Addr) (ms : List Int32) (h0 : Heap) (n0 : Nat) (Z0 : n0 ≤ h0.size) (V_m : Arx Z h0 a1 .int (ms.map Value.int)) (hn6 : ms.length ≤ 6) (hG : ∀ (j : Nat) (y : Int32), ms[j]? = some y → -1 ≤ y.toInt ∧ y.toInt < 4) :
    own_CT l Z (⟨"com/example/deft_shards/deftshards/cluster/KMeans", "members", "([II)[[I"⟩ : MethodName) prog_2_method_3_code 7 (some (.array (.array .int))) ws ({ frames := 0, cells := 6, slots := 32, locals := 0 } : Room) #[(.ref a1), (.int (4 : Int32))] h0 (Q2_4 Z a1 ms h0 n0) := by
  refine MetFree.of_bodySF (plainFor_of_name pn_com_example_deft_shards_deftshards_cluster_KMeans) hisR ?_
  intro p e s m args below meth c s₁ Bd hml0 hP hK
  obtain ⟨rfl, hZ, hh⟩ := hP
  have hx := Bd.exec
  have hby := Bd.bytes
  have hml : c.maxLocals = 7 := hml0
  have hown : s.vm.findClass "com/example/deft_shards/deftshards/cluster/KMeans" = some m.cls := findClass_of_methodNamed Bd.named
  have hnm := (name_of_methodNamed Bd.named Bd.method).1
  have hlk : meth.locks = false := BodyLoose.notSynchronized Bd
  have X0 : Stand p l e ({ frames := 0, cells := 6, slots := 32, locals := 0 } : Room) s m #[(.ref a1), (.int (4 : Int32))] below meth c s₁ [] 0 0 := Stand.of_body Bd
  have e0 : s₁.heap = h0 := by rw [← hh, Bd.state]; rfl
  have N0 := Fr.nil n0
  show GG p e below s ({ frames := 0, cells := 6, slots := 32, locals := 0 } : Room).cells ({ frames := 0, cells := 6, slots := 32, locals := 0 } : Room).slots (Q2_4 Z a1 ms h0 n0) s₁ (entryFrame m #[(.ref a1), (.int (4 : Int32))] 7)
  refine own_in (ef_2 m a1 (4 : Int32)) ?_
  have K0 := Keep.refl h0 []
  show GG _ _ _ _ _ _ _ s₁ (mkF m 0 #[.val (.ref a1), .val (.int (4 : Int32)), .unset, .unset, .unset, .unset, .unset] [])
  refine own_go (fun _ => XS.iloadN X0.here hx rfl (hb hby d2_0) rfl) ?_
  show GG _ _ _ _ _ _ _ s₁ (mkF m 1 #[.val (.ref a1), .val (.int (4 : Int32)), .unset, .unset, .unset, .unset, .unset] [(.int (4 : Int32))])
  obtain ⟨T1, h1, ob1, g1, X1, e1, E1, V_ob1, E_ob1, st1⟩ := own_newarr X0 hx hZ (hw _ (List.mem_of_getElem? (i := 0) rfl)) e0 (g := (mkF m 1 #[.val (.ref a1), .val (.int (4 : Int32)), .unset, .unset, .unset, .unset, .unset] [(.int (4 : Int32))])) rfl (hb hby d2_1) rfl (by decide) (cap := 4) (by decide) (by decide) (by decide) (by decide) (ad := "[I") (by decide)
  have ne_a1_ob1 : a1 ≠ ob1 := Nat.ne_of_lt (Nat.lt_of_lt_of_le V_m.lt (Nat.le_of_eq g1.symm))
  have sz_ob1 : h0.size ≤ ob1 := Nat.le_trans K0.1 (Nat.le_of_eq g1.symm)
  have g_ob1 : n0 ≤ ob1 := Nat.le_trans Z0 sz_ob1
  have V_m := V_m.ext E1
  have K0 := K0.ext E1
  have V_ob1 : Arx Z h1 ob1 .int [(.int (0 : Int32)), (.int (0 : Int32)), (.int (0 : Int32)), (.int (0 : Int32))] := V_ob1
  refine own_go (fun _ => st1 _) ?_
  show GG _ _ _ _ _ _ _ T1 (mkF m 3 #[.val (.ref a1), .val (.int (4 : Int32)), .unset, .unset, .unset, .unset, .unset] [(.ref ob1)])
  refine own_go (fun _ => XS.astoreN X1.here hx rfl (hb hby d2_3) rfl rfl (l' := #[.val (.ref a1), .val (.int (4 : Int32)), .val (.ref ob1), .unset, .unset, .unset, .unset]) rfl) ?_
  show GG _ _ _ _ _ _ _ T1 (mkF m 4 #[.val (.ref a1), .val (.int (4 : Int32)), .val (.ref ob1), .unset, .unset, .unset, .unset] [])
  refine own_go (fun _ => XS.aloadN X1.here hx rfl (hb hby d2_4) rfl rfl) ?_
  show GG _ _ _ _ _ _ _ T1 (mkF m 5 #[.val (.ref a1), .val (.int (4 : Int32)), .val (.ref ob1), .unset, .unset, .unset, .unset] [(.ref a1)])
  refine own_go (fun _ => XS.astoreN X1.here hx rfl (hb hby d2_5) rfl rfl (l' := #[.val (.ref a1), .val (.int (4 : Int32)), .val (.ref ob1), .val (.ref a1), .unset, .unset, .unset]) rfl) ?_
  show GG _ _ _ _ _ _ _ T1 (mkF m 6 #[.val (.ref a1), .val (.int (4 : Int32)), .val (.ref ob1), .val (.ref a1), .unset, .unset, .unset] [])
  refine own_go (fun _ => XS.aloadN X1.here hx rfl (hb hby d2_6) rfl rfl) ?_
  show GG _ _ _ _ _ _ _ T1 (mkF m 7 #[.val (.ref a1), .val (.int (4 : Int32)), .val (.ref ob1), .val (.ref a1), .unset, .unset, .unset] [(.ref a1)])
  refine own_go (fun _ => own_len X1 hx hZ e1 V_m (g := (mkF m 7 #[.val (.ref a1), .val (.int (4 : Int32)), .val (.ref ob1), .val (.ref a1), .unset, .unset, .unset] [(.ref a1)])) rfl rfl (hb hby d2_7) _) ?_
  show GG _ _ _ _ _ _ _ T1 (mkF m 8 #[.val (.ref a1), .val (.int (4 : Int32)), .val (.ref ob1), .val (.ref a1), .unset, .unset, .unset] [(.int (Int32.ofNat (ms.map Value.int).length))])
  generalize hy2 : (Int32.ofNat (ms.map Value.int).length) = y2
  have dy2 : y2.toInt = (ms.length : Nat) := by rw [← hy2, List.length_map]; exact own_ofNat (by omega)
  show GG _ _ _ _ _ _ _ T1 (mkF m 8 #[.val (.ref a1), .val (.int (4 : Int32)), .val (.ref ob1), .val (.ref a1), .unset, .unset, .unset] [(.int y2)])
  refine own_go (fun _ => XS.istore X1.here hx rfl (hb hby d2_8) rfl (l' := #[.val (.ref a1), .val (.int (4 : Int32)), .val (.ref ob1), .val (.ref a1), .val (.int y2), .unset, .unset]) rfl) ?_
  show GG _ _ _ _ _ _ _ T1 (mkF m 10 #[.val (.ref a1), .val (.int (4 : Int32)), .val (.ref ob1), .val (.ref a1), .val (.int y2), .unset, .unset] [])
  refine own_go (fun _ => XS.iconst X1.here hx rfl (hb hby d2_10)) ?_
  show GG _ _ _ _ _ _ _ T1 (mkF m 11 #[.val (.ref a1), .val (.int (4 : Int32)), .val (.ref ob1), .val (.ref a1), .val (.int y2), .unset, .unset] [(.int (0 : Int32))])
  refine own_go (fun _ => XS.istore X1.here hx rfl (hb hby d2_11) rfl (l' := #[.val (.ref a1), .val (.int (4 : Int32)), .val (.ref ob1), .val (.ref a1), .val (.int y2), .val (.int (0 : Int32)), .unset]) rfl) ?_
  show GG _ _ _ _ _ _ _ T1 (mkF m 13 #[.val (.ref a1), .val (.int (4 : Int32)), .val (.ref ob1), .val (.ref a1), .val (.int y2), .val (.int (0 : Int32)), .unset] [])
  have loop3 : ∀ (k : Nat) (iN : Nat) (i : Int32) (s6 : Slot) (TL : State) (hL : Heap) (lL : List Loc) (XL : Stand p l e ({ frames := 0, cells := 6, slots := 32, locals := 0 } : Room) s m #[(.ref a1), (.int (4 : Int32))] below meth c TL lL 1 4) (eL : TL.heap = hL) (NL : Fr n0 lL) (hi : i.toInt = iN) (hk : iN + k = ms.length) (hs6 : s6 = .unset ∨ ∃ w, s6 = .val w ∧ w.category = 1) (V_m : Arx Z hL a1 .int (ms.map Value.int)) (V_c : Arx Z hL ob1 .int [(.int (Int32.ofNat (cn ms (0 : Int32) iN))), (.int (Int32.ofNat (cn ms (1 : Int32) iN))), (.int (Int32.ofNat (cn ms (2 : Int32) iN))), (.int (Int32.ofNat (cn ms (3 : Int32) iN)))]) (K0 : Keep h0 hL []), GG p e below s 6 32 (Q2_4 Z a1 ms h0 n0) TL (mkF m 13 #[.val (.ref a1), .val (.int (4 : Int32)), .val (.ref ob1), .val (.ref a1), .val (.int y2), .val (.int i), s6] []) := by
    intro k
    induction k with
    | zero =>
      intro iN i s6 TL hL lL XL eL NL hi hk hs6 V_m V_c K0
      obtain rfl : iN = ms.length := by omega
      show GG _ _ _ _ _ _ _ TL (mkF m 13 #[.val (.ref a1), .val (.int (4 : Int32)), .val (.ref ob1), .val (.ref a1), .val (.int y2), .val (.int i), s6] [])
      refine own_go (fun _ => XS.iload XL.here hx rfl (hb hby d2_13) rfl) ?_
      show GG _ _ _ _ _ _ _ TL (mkF m 15 #[.val (.ref a1), .val (.int (4 : Int32)), .val (.ref ob1), .val (.ref a1), .val (.int y2), .val (.int i), s6] [(.int i)])
      refine own_go (fun _ => XS.iload XL.here hx rfl (hb hby d2_15) rfl) ?_
      show GG _ _ _ _ _ _ _ TL (mkF m 17 #[.val (.ref a1), .val (.int (4 : Int32)), .val (.ref ob1), .val (.ref a1), .val (.int y2), .val (.int i), s6] [(.int y2), (.int i)])
      have hc17 : ¬ (i < y2) := (fun q => absurd (Int32.lt_iff_toInt_lt.mp q) ((by show ¬ (i.toInt < y2.toInt); omega : ¬ (i.toInt < y2.toInt))))
      refine own_go (fun _ => XS.icmpYes XL.here hx rfl (pc0 := 17) (pc' := 45) rfl (hb hby d2_17) rfl (flt hc17).2.1 (by decide) (by decide)) ?_
      show GG _ _ _ _ _ _ _ TL (mkF m 45 #[.val (.ref a1), .val (.int (4 : Int32)), .val (.ref ob1), .val (.ref a1), .val (.int y2), .val (.int i), s6] [])
      refine own_go (fun _ => XS.iloadN XL.here hx rfl (hb hby d2_45) rfl) ?_
      show GG _ _ _ _ _ _ _ TL (mkF m 46 #[.val (.ref a1), .val (.int (4 : Int32)), .val (.ref ob1), .val (.ref a1), .val (.int y2), .val (.int i), s6] [(.int (4 : Int32))])
      obtain ⟨T4, h4, ob4, g4, X4, e4, E4, V_ob4, E_ob4, st4⟩ := own_newRA XL hx hZ hown (hw _ (List.mem_of_getElem? (i := 10) rfl)) (hw _ (List.mem_of_getElem? (i := 11) rfl)) eL (g := (mkF m 46 #[.val (.ref a1), .val (.int (4 : Int32)), .val (.ref ob1), .val (.ref a1), .val (.int y2), .val (.int i), s6] [(.int (4 : Int32))])) rfl (hb hby d2_46) rfl (by decide) (cap := 4) (by decide) (by decide) (by decide) (by decide)
      have ne_a1_ob4 : a1 ≠ ob4 := Nat.ne_of_lt (Nat.lt_of_lt_of_le V_m.lt (Nat.le_of_eq g4.symm))
      have ne_ob1_ob4 : ob1 ≠ ob4 := Nat.ne_of_lt (Nat.lt_of_lt_of_le V_c.lt (Nat.le_of_eq g4.symm))
      have sz_ob4 : h0.size ≤ ob4 := Nat.le_trans K0.1 (Nat.le_of_eq g4.symm)
      have g_ob4 : n0 ≤ ob4 := Nat.le_trans Z0 sz_ob4
      have V_m := V_m.ext E4
      have V_c := V_c.ext E4
      have K0 := K0.ext E4
      have V_ob4 : Ary Z h4 ob4 [.null, .null, .null, .null] := V_ob4
      refine own_go (fun _ => st4 _) ?_
      show GG _ _ _ _ _ _ _ T4 (mkF m 49 #[.val (.ref a1), .val (.int (4 : Int32)), .val (.ref ob1), .val (.ref a1), .val (.int y2), .val (.int i), s6] [(.ref ob4)])
      refine own_go (fun _ => XS.astoreN X4.here hx rfl (hb hby d2_49) rfl rfl (l' := #[.val (.ref a1), .val (.int (4 : Int32)), .val (.ref ob1), .val (.ref ob4), .val (.int y2), .val (.int i), s6]) rfl) ?_
      show GG _ _ _ _ _ _ _ T4 (mkF m 50 #[.val (.ref a1), .val (.int (4 : Int32)), .val (.ref ob1), .val (.ref ob4), .val (.int y2), .val (.int i), s6] [])
      refine own_go (fun _ => XS.iconst X4.here hx rfl (hb hby d2_50)) ?_
      show GG _ _ _ _ _ _ _ T4 (mkF m 51 #[.val (.ref a1), .val (.int (4 : Int32)), .val (.ref ob1), .val (.ref ob4), .val (.int y2), .val (.int i), s6] [(.int (0 : Int32))])
      refine own_go (fun _ => XS.istore X4.here hx rfl (hb hby d2_51) rfl (l' := #[.val (.ref a1), .val (.int (4 : Int32)), .val (.ref ob1), .val (.ref ob4), .val (.int (0 : Int32)), .val (.int i), s6]) rfl) ?_
      show GG _ _ _ _ _ _ _ T4 (mkF m 53 #[.val (.ref a1), .val (.int (4 : Int32)), .val (.ref ob1), .val (.ref ob4), .val (.int (0 : Int32)), .val (.int i), s6] [])
      refine own_go (fun _ => XS.iload X4.here hx rfl (hb hby d2_53) rfl) ?_
      show GG _ _ _ _ _ _ _ T4 (mkF m 55 #[.val (.ref a1), .val (.int (4 : Int32)), .val (.ref ob1), .val (.ref ob4), .val (.int (0 : Int32)), .val (.int i), s6] [(.int (0 : Int32))])
      refine own_go (fun _ => XS.iloadN X4.here hx rfl (hb hby d2_55) rfl) ?_
      show GG _ _ _ _ _ _ _ T4 (mkF m 56 #[.val (.ref a1), .val (.int (4 : Int32)), .val (.ref ob1), .val (.ref ob4), .val (.int (0 : Int32)), .val (.int i), s6] [(.int (4 : Int32)), (.int (0 : Int32))])
      have hc56 : (0 : Int32) < (4 : Int32) := by decide
      refine own_go (fun _ => XS.icmpNo X4.here hx rfl (hb hby d2_56) rfl (tlt hc56).2.1) ?_
      show GG _ _ _ _ _ _ _ T4 (mkF m 59 #[.val (.ref a1), .val (.int (4 : Int32)), .val (.ref ob1), .val (.ref ob4), .val (.int (0 : Int32)), .val (.int i), s6] [])
      refine own_go (fun _ => XS.aloadN X4.here hx rfl (hb hby d2_59) rfl rfl) ?_
      show GG _ _ _ _ _ _ _ T4 (mkF m 60 #[.val (.ref a1), .val (.int (4 : Int32)), .val (.ref ob1), .val (.ref ob4), .val (.int (0 : Int32)), .val (.int i), s6] [(.ref ob4)])
      refine own_go (fun _ => XS.iload X4.here hx rfl (hb hby d2_60) rfl) ?_
      show GG _ _ _ _ _ _ _ T4 (mkF m 62 #[.val (.ref a1), .val (.int (4 : Int32)), .val (.ref ob1), .val (.ref ob4), .val (.int (0 : Int32)), .val (.int i), s6] [(.int (0 : Int32)), (.ref ob4)])
      refine own_go (fun _ => XS.aloadN X4.here hx rfl (hb hby d2_62) rfl rfl) ?_
      show GG _ _ _ _ _ _ _ T4 (mkF m 63 #[.val (.ref a1), .val (.int (4 : Int32)), .val (.ref ob1), .val (.ref ob4), .val (.int (0 : Int32)), .val (.int i), s6] [(.ref ob1), (.int (0 : Int32)), (.ref ob4)])
      refine own_go (fun _ => XS.iload X4.here hx rfl (hb hby d2_63) rfl) ?_
      show GG _ _ _ _ _ _ _ T4 (mkF m 65 #[.val (.ref a1), .val (.int (4 : Int32)), .val (.ref ob1), .val (.ref ob4), .val (.int (0 : Int32)), .val (.int i), s6] [(.int (0 : Int32)), (.ref ob1), (.int (0 : Int32)), (.ref ob4)])
      refine own_go (fun _ => own_iaload X4 hx hZ e4 V_c (j := (0 : Int32)) (v := (.int (Int32.ofNat (cn ms (0 : Int32) ms.length)))) (by decide) rfl (g := (mkF m 65 #[.val (.ref a1), .val (.int (4 : Int32)), .val (.ref ob1), .val (.ref ob4), .val (.int (0 : Int32)), .val (.int i), s6] [(.int (0 : Int32)), (.ref ob1), (.int (0 : Int32)), (.ref ob4)])) rfl rfl (hb hby d2_65) _) ?_
      show GG _ _ _ _ _ _ _ T4 (mkF m 66 #[.val (.ref a1), .val (.int (4 : Int32)), .val (.ref ob1), .val (.ref ob4), .val (.int (0 : Int32)), .val (.int i), s6] [(.int (Int32.ofNat (cn ms (0 : Int32) ms.length))), (.int (0 : Int32)), (.ref ob4)])
      obtain ⟨T5, h5, ob5, g5, X5, e5, E5, V_ob5, E_ob5, st5⟩ := own_newarr X4 hx hZ (hw _ (List.mem_of_getElem? (i := 0) rfl)) e4 (g := (mkF m 66 #[.val (.ref a1), .val (.int (4 : Int32)), .val (.ref ob1), .val (.ref ob4), .val (.int (0 : Int32)), .val (.int i), s6] [(.int (Int32.ofNat (cn ms (0 : Int32) ms.length))), (.int (0 : Int32)), (.ref ob4)])) rfl (hb hby d2_66) rfl (own_onn (Nat.le_trans (cn_le _ _ _) hn6)) (cap := 6) (Nat.le_trans (Nat.le_of_eq (own_ocl (Nat.le_trans (cn_le _ _ _) hn6))) (Nat.le_trans (cn_le _ _ _) hn6)) (by decide) (by decide) (by decide) (ad := "[I") (by decide)
      have ne_a1_ob5 : a1 ≠ ob5 := Nat.ne_of_lt (Nat.lt_of_lt_of_le V_m.lt (Nat.le_of_eq g5.symm))
      have ne_ob1_ob5 : ob1 ≠ ob5 := Nat.ne_of_lt (Nat.lt_of_lt_of_le V_c.lt (Nat.le_of_eq g5.symm))
      have ne_ob4_ob5 : ob4 ≠ ob5 := Nat.ne_of_lt (Nat.lt_of_lt_of_le V_ob4.lt (Nat.le_of_eq g5.symm))
      have sz_ob5 : h0.size ≤ ob5 := Nat.le_trans K0.1 (Nat.le_of_eq g5.symm)
      have g_ob5 : n0 ≤ ob5 := Nat.le_trans Z0 sz_ob5
      have V_m := V_m.ext E5
      have V_c := V_c.ext E5
      have K0 := K0.ext E5
      have V_ob4 := V_ob4.ext E5
      have V_ob5 : Arx Z h5 ob5 .int (List.replicate (Int32.ofNat (cn ms (0 : Int32) ms.length)).toNatClampNeg (.int (0 : Int32))) := V_ob5
      refine own_go (fun _ => st5 _) ?_
      show GG _ _ _ _ _ _ _ T5 (mkF m 68 #[.val (.ref a1), .val (.int (4 : Int32)), .val (.ref ob1), .val (.ref ob4), .val (.int (0 : Int32)), .val (.int i), s6] [(.ref ob5), (.int (0 : Int32)), (.ref ob4)])
      have V_ob5 : Arx Z h5 ob5 .int ((List.replicate (cn ms (0 : Int32) ms.length) (0 : Int32)).map Value.int) := own_rep (Nat.le_trans (cn_le _ _ _) hn6) V_ob5
      obtain ⟨T6, h6, X6, e6, W6, V6, st6⟩ := own_aastore X5 hx hZ e5 V_ob4 (Ins.self E_ob5) (by decide) (Nat.le_of_ble_eq_true rfl) (g := (mkF m 68 #[.val (.ref a1), .val (.int (4 : Int32)), .val (.ref ob1), .val (.ref ob4), .val (.int (0 : Int32)), .val (.int i), s6] [(.ref ob5), (.int (0 : Int32)), (.ref ob4)])) rfl rfl (hb hby d2_68)
      have V_m := V_m.other W6 ne_a1_ob4
      have V_c := V_c.other W6 ne_ob1_ob4
      have K0 := K0.wr W6 (Or.inr sz_ob4)
      have V_ob5 := V_ob5.other W6 (Ne.symm ne_ob4_ob5)
      have E_ob5 := E_ob5.wr W6
      have V_ob4 : Ary Z h6 ob4 [(.ref ob5), .null, .null, .null] := V6
      have N6 := Fr.snoc X6 NL g_ob4
      refine own_go (fun _ => st6 _) ?_
      show GG _ _ _ _ _ _ _ T6 (mkF m 69 #[.val (.ref a1), .val (.int (4 : Int32)), .val (.ref ob1), .val (.ref ob4), .val (.int (0 : Int32)), .val (.int i), s6] [])
      refine own_go (fun _ => XS.aloadN X6.here hx rfl (hb hby d2_69) rfl rfl) ?_
      show GG _ _ _ _ _ _ _ T6 (mkF m 70 #[.val (.ref a1), .val (.int (4 : Int32)), .val (.ref ob1), .val (.ref ob4), .val (.int (0 : Int32)), .val (.int i), s6] [(.ref ob1)])
      refine own_go (fun _ => XS.iload X6.here hx rfl (hb hby d2_70) rfl) ?_
      show GG _ _ _ _ _ _ _ T6 (mkF m 72 #[.val (.ref a1), .val (.int (4 : Int32)), .val (.ref ob1), .val (.ref ob4), .val (.int (0 : Int32)), .val (.int i), s6] [(.int (0 : Int32)), (.ref ob1)])
      refine own_go (fun _ => XS.iconst X6.here hx rfl (hb hby d2_72)) ?_
      show GG _ _ _ _ _ _ _ T6 (mkF m 73 #[.val (.ref a1), .val (.int (4 : Int32)), .val (.ref ob1), .val (.ref ob4), .val (.int (0 : Int32)), .val (.int i), s6] [(.int (0 : Int32)), (.int (0 : Int32)), (.ref ob1)])
      obtain ⟨T7, h7, X7, e7, W7, V7, st7⟩ := own_iastore X6 hx hZ e6 V_c (by decide) (Nat.le_of_ble_eq_true rfl) (g := (mkF m 73 #[.val (.ref a1), .val (.int (4 : Int32)), .val (.ref ob1), .val (.ref ob4), .val (.int (0 : Int32)), .val (.int i), s6] [(.int (0 : Int32)), (.int (0 : Int32)), (.ref ob1)])) rfl rfl (hb hby d2_73)
      have V_m := V_m.other W7 ne_a1_ob1
      have K0 := K0.wr W7 (Or.inr sz_ob1)
      have V_ob4 := V_ob4.other W7 (Ne.symm ne_ob1_ob4)
      have V_ob5 := V_ob5.other W7 (Ne.symm ne_ob1_ob5)
      have E_ob5 := E_ob5.wr W7
      have V_c : Arx Z h7 ob1 .int [(.int (0 : Int32)), (.int (Int32.ofNat (cn ms (1 : Int32) ms.length))), (.int (Int32.ofNat (cn ms (2 : Int32) ms.length))), (.int (Int32.ofNat (cn ms (3 : Int32) ms.length)))] := V7
      have N7 := Fr.snoc X7 N6 g_ob1
      refine own_go (fun _ => st7 _) ?_
      show GG _ _ _ _ _ _ _ T7 (mkF m 74 #[.val (.ref a1), .val (.int (4 : Int32)), .val (.ref ob1), .val (.ref ob4), .val (.int (0 : Int32)), .val (.int i), s6] [])
      refine own_go (fun _ => XS.iinc X7.here hx rfl (hb hby d2_74) rfl (l' := #[.val (.ref a1), .val (.int (4 : Int32)), .val (.ref ob1), .val (.ref ob4), .val (.int (1 : Int32)), .val (.int i), s6]) rfl) ?_
      show GG _ _ _ _ _ _ _ T7 (mkF m 77 #[.val (.ref a1), .val (.int (4 : Int32)), .val (.ref ob1), .val (.ref ob4), .val (.int (1 : Int32)), .val (.int i), s6] [])
      refine own_go (fun _ => XS.goto X7.here hx rfl (pc0 := 77) (pc' := 53) rfl (hb hby d2_77) (by decide) (by decide)) ?_
      show GG _ _ _ _ _ _ _ T7 (mkF m 53 #[.val (.ref a1), .val (.int (4 : Int32)), .val (.ref ob1), .val (.ref ob4), .val (.int (1 : Int32)), .val (.int i), s6] [])
      refine own_go (fun _ => XS.iload X7.here hx rfl (hb hby d2_53) rfl) ?_
      show GG _ _ _ _ _ _ _ T7 (mkF m 55 #[.val (.ref a1), .val (.int (4 : Int32)), .val (.ref ob1), .val (.ref ob4), .val (.int (1 : Int32)), .val (.int i), s6] [(.int (1 : Int32))])
      refine own_go (fun _ => XS.iloadN X7.here hx rfl (hb hby d2_55) rfl) ?_
      show GG _ _ _ _ _ _ _ T7 (mkF m 56 #[.val (.ref a1), .val (.int (4 : Int32)), .val (.ref ob1), .val (.ref ob4), .val (.int (1 : Int32)), .val (.int i), s6] [(.int (4 : Int32)), (.int (1 : Int32))])
      have hc56 : (1 : Int32) < (4 : Int32) := by decide
      refine own_go (fun _ => XS.icmpNo X7.here hx rfl (hb hby d2_56) rfl (tlt hc56).2.1) ?_
      show GG _ _ _ _ _ _ _ T7 (mkF m 59 #[.val (.ref a1), .val (.int (4 : Int32)), .val (.ref ob1), .val (.ref ob4), .val (.int (1 : Int32)), .val (.int i), s6] [])
      refine own_go (fun _ => XS.aloadN X7.here hx rfl (hb hby d2_59) rfl rfl) ?_
      show GG _ _ _ _ _ _ _ T7 (mkF m 60 #[.val (.ref a1), .val (.int (4 : Int32)), .val (.ref ob1), .val (.ref ob4), .val (.int (1 : Int32)), .val (.int i), s6] [(.ref ob4)])
      refine own_go (fun _ => XS.iload X7.here hx rfl (hb hby d2_60) rfl) ?_
      show GG _ _ _ _ _ _ _ T7 (mkF m 62 #[.val (.ref a1), .val (.int (4 : Int32)), .val (.ref ob1), .val (.ref ob4), .val (.int (1 : Int32)), .val (.int i), s6] [(.int (1 : Int32)), (.ref ob4)])
      refine own_go (fun _ => XS.aloadN X7.here hx rfl (hb hby d2_62) rfl rfl) ?_
      show GG _ _ _ _ _ _ _ T7 (mkF m 63 #[.val (.ref a1), .val (.int (4 : Int32)), .val (.ref ob1), .val (.ref ob4), .val (.int (1 : Int32)), .val (.int i), s6] [(.ref ob1), (.int (1 : Int32)), (.ref ob4)])
      refine own_go (fun _ => XS.iload X7.here hx rfl (hb hby d2_63) rfl) ?_
      show GG _ _ _ _ _ _ _ T7 (mkF m 65 #[.val (.ref a1), .val (.int (4 : Int32)), .val (.ref ob1), .val (.ref ob4), .val (.int (1 : Int32)), .val (.int i), s6] [(.int (1 : Int32)), (.ref ob1), (.int (1 : Int32)), (.ref ob4)])
      refine own_go (fun _ => own_iaload X7 hx hZ e7 V_c (j := (1 : Int32)) (v := (.int (Int32.ofNat (cn ms (1 : Int32) ms.length)))) (by decide) rfl (g := (mkF m 65 #[.val (.ref a1), .val (.int (4 : Int32)), .val (.ref ob1), .val (.ref ob4), .val (.int (1 : Int32)), .val (.int i), s6] [(.int (1 : Int32)), (.ref ob1), (.int (1 : Int32)), (.ref ob4)])) rfl rfl (hb hby d2_65) _) ?_
      show GG _ _ _ _ _ _ _ T7 (mkF m 66 #[.val (.ref a1), .val (.int (4 : Int32)), .val (.ref ob1), .val (.ref ob4), .val (.int (1 : Int32)), .val (.int i), s6] [(.int (Int32.ofNat (cn ms (1 : Int32) ms.length))), (.int (1 : Int32)), (.ref ob4)])
      obtain ⟨T8, h8, ob8, g8, X8, e8, E8, V_ob8, E_ob8, st8⟩ := own_newarr X7 hx hZ (hw _ (List.mem_of_getElem? (i := 0) rfl)) e7 (g := (mkF m 66 #[.val (.ref a1), .val (.int (4 : Int32)), .val (.ref ob1), .val (.ref ob4), .val (.int (1 : Int32)), .val (.int i), s6] [(.int (Int32.ofNat (cn ms (1 : Int32) ms.length))), (.int (1 : Int32)), (.ref ob4)])) rfl (hb hby d2_66) rfl (own_onn (Nat.le_trans (cn_le _ _ _) hn6)) (cap := 6) (Nat.le_trans (Nat.le_of_eq (own_ocl (Nat.le_trans (cn_le _ _ _) hn6))) (Nat.le_trans (cn_le _ _ _) hn6)) (by decide) (by decide) (by decide) (ad := "[I") (by decide)
      have ne_a1_ob8 : a1 ≠ ob8 := Nat.ne_of_lt (Nat.lt_of_lt_of_le V_m.lt (Nat.le_of_eq g8.symm))
      have ne_ob1_ob8 : ob1 ≠ ob8 := Nat.ne_of_lt (Nat.lt_of_lt_of_le V_c.lt (Nat.le_of_eq g8.symm))
      have ne_ob4_ob8 : ob4 ≠ ob8 := Nat.ne_of_lt (Nat.lt_of_lt_of_le V_ob4.lt (Nat.le_of_eq g8.symm))
      have ne_ob5_ob8 : ob5 ≠ ob8 := Nat.ne_of_lt (Nat.lt_of_lt_of_le V_ob5.lt (Nat.le_of_eq g8.symm))
      have sz_ob8 : h0.size ≤ ob8 := Nat.le_trans K0.1 (Nat.le_of_eq g8.symm)
      have g_ob8 : n0 ≤ ob8 := Nat.le_trans Z0 sz_ob8
      have V_m := V_m.ext E8
      have V_c := V_c.ext E8
      have K0 := K0.ext E8
      have V_ob4 := V_ob4.ext E8
      have V_ob5 := V_ob5.ext E8
      have E_ob5 := E_ob5.ext E8
      have V_ob8 : Arx Z h8 ob8 .int (List.replicate (Int32.ofNat (cn ms (1 : Int32) ms.length)).toNatClampNeg (.int (0 : Int32))) := V_ob8
      refine own_go (fun _ => st8 _) ?_
      show GG _ _ _ _ _ _ _ T8 (mkF m 68 #[.val (.ref a1), .val (.int (4 : Int32)), .val (.ref ob1), .val (.ref ob4), .val (.int (1 : Int32)), .val (.int i), s6] [(.ref ob8), (.int (1 : Int32)), (.ref ob4)])
      have V_ob8 : Arx Z h8 ob8 .int ((List.replicate (cn ms (1 : Int32) ms.length) (0 : Int32)).map Value.int) := own_rep (Nat.le_trans (cn_le _ _ _) hn6) V_ob8
      obtain ⟨T9, h9, X9, e9, W9, V9, st9⟩ := own_aastore X8 hx hZ e8 V_ob4 (Ins.self E_ob8) (by decide) (Nat.le_of_ble_eq_true rfl) (g := (mkF m 68 #[.val (.ref a1), .val (.int (4 : Int32)), .val (.ref ob1), .val (.ref ob4), .val (.int (1 : Int32)), .val (.int i), s6] [(.ref ob8), (.int (1 : Int32)), (.ref ob4)])) rfl rfl (hb hby d2_68)
      have V_m := V_m.other W9 ne_a1_ob4
      have V_c := V_c.other W9 ne_ob1_ob4
      have K0 := K0.wr W9 (Or.inr sz_ob4)
      have V_ob5 := V_ob5.other W9 (Ne.symm ne_ob4_ob5)
      have E_ob5 := E_ob5.wr W9
      have V_ob8 := V_ob8.other W9 (Ne.symm ne_ob4_ob8)
      have E_ob8 := E_ob8.wr W9
      have V_ob4 : Ary Z h9 ob4 [(.ref ob5), (.ref ob8), .null, .null] := V9
      have N9 := Fr.snoc X9 N7 g_ob4
      refine own_go (fun _ => st9 _) ?_
      show GG _ _ _ _ _ _ _ T9 (mkF m 69 #[.val (.ref a1), .val (.int (4 : Int32)), .val (.ref ob1), .val (.ref ob4), .val (.int (1 : Int32)), .val (.int i), s6] [])
      refine own_go (fun _ => XS.aloadN X9.here hx rfl (hb hby d2_69) rfl rfl) ?_
      show GG _ _ _ _ _ _ _ T9 (mkF m 70 #[.val (.ref a1), .val (.int (4 : Int32)), .val (.ref ob1), .val (.ref ob4), .val (.int (1 : Int32)), .val (.int i), s6] [(.ref ob1)])
      refine own_go (fun _ => XS.iload X9.here hx rfl (hb hby d2_70) rfl) ?_
      show GG _ _ _ _ _ _ _ T9 (mkF m 72 #[.val (.ref a1), .val (.int (4 : Int32)), .val (.ref ob1), .val (.ref ob4), .val (.int (1 : Int32)), .val (.int i), s6] [(.int (1 : Int32)), (.ref ob1)])
      refine own_go (fun _ => XS.iconst X9.here hx rfl (hb hby d2_72)) ?_
      show GG _ _ _ _ _ _ _ T9 (mkF m 73 #[.val (.ref a1), .val (.int (4 : Int32)), .val (.ref ob1), .val (.ref ob4), .val (.int (1 : Int32)), .val (.int i), s6] [(.int (0 : Int32)), (.int (1 : Int32)), (.ref ob1)])
      obtain ⟨T10, h10, X10, e10, W10, V10, st10⟩ := own_iastore X9 hx hZ e9 V_c (by decide) (Nat.le_of_ble_eq_true rfl) (g := (mkF m 73 #[.val (.ref a1), .val (.int (4 : Int32)), .val (.ref ob1), .val (.ref ob4), .val (.int (1 : Int32)), .val (.int i), s6] [(.int (0 : Int32)), (.int (1 : Int32)), (.ref ob1)])) rfl rfl (hb hby d2_73)
      have V_m := V_m.other W10 ne_a1_ob1
      have K0 := K0.wr W10 (Or.inr sz_ob1)
      have V_ob4 := V_ob4.other W10 (Ne.symm ne_ob1_ob4)
      have V_ob5 := V_ob5.other W10 (Ne.symm ne_ob1_ob5)
      have E_ob5 := E_ob5.wr W10
      have V_ob8 := V_ob8.other W10 (Ne.symm ne_ob1_ob8)
      have E_ob8 := E_ob8.wr W10
      have V_c : Arx Z h10 ob1 .int [(.int (0 : Int32)), (.int (0 : Int32)), (.int (Int32.ofNat (cn ms (2 : Int32) ms.length))), (.int (Int32.ofNat (cn ms (3 : Int32) ms.length)))] := V10
      have N10 := Fr.snoc X10 N9 g_ob1
      refine own_go (fun _ => st10 _) ?_
      show GG _ _ _ _ _ _ _ T10 (mkF m 74 #[.val (.ref a1), .val (.int (4 : Int32)), .val (.ref ob1), .val (.ref ob4), .val (.int (1 : Int32)), .val (.int i), s6] [])
      refine own_go (fun _ => XS.iinc X10.here hx rfl (hb hby d2_74) rfl (l' := #[.val (.ref a1), .val (.int (4 : Int32)), .val (.ref ob1), .val (.ref ob4), .val (.int (2 : Int32)), .val (.int i), s6]) rfl) ?_
      show GG _ _ _ _ _ _ _ T10 (mkF m 77 #[.val (.ref a1), .val (.int (4 : Int32)), .val (.ref ob1), .val (.ref ob4), .val (.int (2 : Int32)), .val (.int i), s6] [])
      refine own_go (fun _ => XS.goto X10.here hx rfl (pc0 := 77) (pc' := 53) rfl (hb hby d2_77) (by decide) (by decide)) ?_
      show GG _ _ _ _ _ _ _ T10 (mkF m 53 #[.val (.ref a1), .val (.int (4 : Int32)), .val (.ref ob1), .val (.ref ob4), .val (.int (2 : Int32)), .val (.int i), s6] [])
      refine own_go (fun _ => XS.iload X10.here hx rfl (hb hby d2_53) rfl) ?_
      show GG _ _ _ _ _ _ _ T10 (mkF m 55 #[.val (.ref a1), .val (.int (4 : Int32)), .val (.ref ob1), .val (.ref ob4), .val (.int (2 : Int32)), .val (.int i), s6] [(.int (2 : Int32))])
      refine own_go (fun _ => XS.iloadN X10.here hx rfl (hb hby d2_55) rfl) ?_
      show GG _ _ _ _ _ _ _ T10 (mkF m 56 #[.val (.ref a1), .val (.int (4 : Int32)), .val (.ref ob1), .val (.ref ob4), .val (.int (2 : Int32)), .val (.int i), s6] [(.int (4 : Int32)), (.int (2 : Int32))])
      have hc56 : (2 : Int32) < (4 : Int32) := by decide
      refine own_go (fun _ => XS.icmpNo X10.here hx rfl (hb hby d2_56) rfl (tlt hc56).2.1) ?_
      show GG _ _ _ _ _ _ _ T10 (mkF m 59 #[.val (.ref a1), .val (.int (4 : Int32)), .val (.ref ob1), .val (.ref ob4), .val (.int (2 : Int32)), .val (.int i), s6] [])
      refine own_go (fun _ => XS.aloadN X10.here hx rfl (hb hby d2_59) rfl rfl) ?_
      show GG _ _ _ _ _ _ _ T10 (mkF m 60 #[.val (.ref a1), .val (.int (4 : Int32)), .val (.ref ob1), .val (.ref ob4), .val (.int (2 : Int32)), .val (.int i), s6] [(.ref ob4)])
      refine own_go (fun _ => XS.iload X10.here hx rfl (hb hby d2_60) rfl) ?_
      show GG _ _ _ _ _ _ _ T10 (mkF m 62 #[.val (.ref a1), .val (.int (4 : Int32)), .val (.ref ob1), .val (.ref ob4), .val (.int (2 : Int32)), .val (.int i), s6] [(.int (2 : Int32)), (.ref ob4)])
      refine own_go (fun _ => XS.aloadN X10.here hx rfl (hb hby d2_62) rfl rfl) ?_
      show GG _ _ _ _ _ _ _ T10 (mkF m 63 #[.val (.ref a1), .val (.int (4 : Int32)), .val (.ref ob1), .val (.ref ob4), .val (.int (2 : Int32)), .val (.int i), s6] [(.ref ob1), (.int (2 : Int32)), (.ref ob4)])
      refine own_go (fun _ => XS.iload X10.here hx rfl (hb hby d2_63) rfl) ?_
      show GG _ _ _ _ _ _ _ T10 (mkF m 65 #[.val (.ref a1), .val (.int (4 : Int32)), .val (.ref ob1), .val (.ref ob4), .val (.int (2 : Int32)), .val (.int i), s6] [(.int (2 : Int32)), (.ref ob1), (.int (2 : Int32)), (.ref ob4)])
      refine own_go (fun _ => own_iaload X10 hx hZ e10 V_c (j := (2 : Int32)) (v := (.int (Int32.ofNat (cn ms (2 : Int32) ms.length)))) (by decide) rfl (g := (mkF m 65 #[.val (.ref a1), .val (.int (4 : Int32)), .val (.ref ob1), .val (.ref ob4), .val (.int (2 : Int32)), .val (.int i), s6] [(.int (2 : Int32)), (.ref ob1), (.int (2 : Int32)), (.ref ob4)])) rfl rfl (hb hby d2_65) _) ?_
      show GG _ _ _ _ _ _ _ T10 (mkF m 66 #[.val (.ref a1), .val (.int (4 : Int32)), .val (.ref ob1), .val (.ref ob4), .val (.int (2 : Int32)), .val (.int i), s6] [(.int (Int32.ofNat (cn ms (2 : Int32) ms.length))), (.int (2 : Int32)), (.ref ob4)])
      obtain ⟨T11, h11, ob11, g11, X11, e11, E11, V_ob11, E_ob11, st11⟩ := own_newarr X10 hx hZ (hw _ (List.mem_of_getElem? (i := 0) rfl)) e10 (g := (mkF m 66 #[.val (.ref a1), .val (.int (4 : Int32)), .val (.ref ob1), .val (.ref ob4), .val (.int (2 : Int32)), .val (.int i), s6] [(.int (Int32.ofNat (cn ms (2 : Int32) ms.length))), (.int (2 : Int32)), (.ref ob4)])) rfl (hb hby d2_66) rfl (own_onn (Nat.le_trans (cn_le _ _ _) hn6)) (cap := 6) (Nat.le_trans (Nat.le_of_eq (own_ocl (Nat.le_trans (cn_le _ _ _) hn6))) (Nat.le_trans (cn_le _ _ _) hn6)) (by decide) (by decide) (by decide) (ad := "[I") (by decide)
      have ne_a1_ob11 : a1 ≠ ob11 := Nat.ne_of_lt (Nat.lt_of_lt_of_le V_m.lt (Nat.le_of_eq g11.symm))
      have ne_ob1_ob11 : ob1 ≠ ob11 := Nat.ne_of_lt (Nat.lt_of_lt_of_le V_c.lt (Nat.le_of_eq g11.symm))
      have ne_ob4_ob11 : ob4 ≠ ob11 := Nat.ne_of_lt (Nat.lt_of_lt_of_le V_ob4.lt (Nat.le_of_eq g11.symm))
      have ne_ob5_ob11 : ob5 ≠ ob11 := Nat.ne_of_lt (Nat.lt_of_lt_of_le V_ob5.lt (Nat.le_of_eq g11.symm))
      have ne_ob8_ob11 : ob8 ≠ ob11 := Nat.ne_of_lt (Nat.lt_of_lt_of_le V_ob8.lt (Nat.le_of_eq g11.symm))
      have sz_ob11 : h0.size ≤ ob11 := Nat.le_trans K0.1 (Nat.le_of_eq g11.symm)
      have g_ob11 : n0 ≤ ob11 := Nat.le_trans Z0 sz_ob11
      have V_m := V_m.ext E11
      have V_c := V_c.ext E11
      have K0 := K0.ext E11
      have V_ob4 := V_ob4.ext E11
      have V_ob5 := V_ob5.ext E11
      have E_ob5 := E_ob5.ext E11
      have V_ob8 := V_ob8.ext E11
      have E_ob8 := E_ob8.ext E11
      have V_ob11 : Arx Z h11 ob11 .int (List.replicate (Int32.ofNat (cn ms (2 : Int32) ms.length)).toNatClampNeg (.int (0 : Int32))) := V_ob11
      refine own_go (fun _ => st11 _) ?_
      show GG _ _ _ _ _ _ _ T11 (mkF m 68 #[.val (.ref a1), .val (.int (4 : Int32)), .val (.ref ob1), .val (.ref ob4), .val (.int (2 : Int32)), .val (.int i), s6] [(.ref ob11), (.int (2 : Int32)), (.ref ob4)])
      have V_ob11 : Arx Z h11 ob11 .int ((List.replicate (cn ms (2 : Int32) ms.length) (0 : Int32)).map Value.int) := own_rep (Nat.le_trans (cn_le _ _ _) hn6) V_ob11
      obtain ⟨T12, h12, X12, e12, W12, V12, st12⟩ := own_aastore X11 hx hZ e11 V_ob4 (Ins.self E_ob11) (by decide) (Nat.le_of_ble_eq_true rfl) (g := (mkF m 68 #[.val (.ref a1), .val (.int (4 : Int32)), .val (.ref ob1), .val (.ref ob4), .val (.int (2 : Int32)), .val (.int i), s6] [(.ref ob11), (.int (2 : Int32)), (.ref ob4)])) rfl rfl (hb hby d2_68)
      have V_m := V_m.other W12 ne_a1_ob4
      have V_c := V_c.other W12 ne_ob1_ob4
      have K0 := K0.wr W12 (Or.inr sz_ob4)
      have V_ob5 := V_ob5.other W12 (Ne.symm ne_ob4_ob5)
      have E_ob5 := E_ob5.wr W12
      have V_ob8 := V_ob8.other W12 (Ne.symm ne_ob4_ob8)
      have E_ob8 := E_ob8.wr W12
      have V_ob11 := V_ob11.other W12 (Ne.symm ne_ob4_ob11)
      have E_ob11 := E_ob11.wr W12
      have V_ob4 : Ary Z h12 ob4 [(.ref ob5), (.ref ob8), (.ref ob11), .null] := V12
      have N12 := Fr.snoc X12 N10 g_ob4
      refine own_go (fun _ => st12 _) ?_
      show GG _ _ _ _ _ _ _ T12 (mkF m 69 #[.val (.ref a1), .val (.int (4 : Int32)), .val (.ref ob1), .val (.ref ob4), .val (.int (2 : Int32)), .val (.int i), s6] [])
      refine own_go (fun _ => XS.aloadN X12.here hx rfl (hb hby d2_69) rfl rfl) ?_
      show GG _ _ _ _ _ _ _ T12 (mkF m 70 #[.val (.ref a1), .val (.int (4 : Int32)), .val (.ref ob1), .val (.ref ob4), .val (.int (2 : Int32)), .val (.int i), s6] [(.ref ob1)])
      refine own_go (fun _ => XS.iload X12.here hx rfl (hb hby d2_70) rfl) ?_
      show GG _ _ _ _ _ _ _ T12 (mkF m 72 #[.val (.ref a1), .val (.int (4 : Int32)), .val (.ref ob1), .val (.ref ob4), .val (.int (2 : Int32)), .val (.int i), s6] [(.int (2 : Int32)), (.ref ob1)])
      refine own_go (fun _ => XS.iconst X12.here hx rfl (hb hby d2_72)) ?_
      show GG _ _ _ _ _ _ _ T12 (mkF m 73 #[.val (.ref a1), .val (.int (4 : Int32)), .val (.ref ob1), .val (.ref ob4), .val (.int (2 : Int32)), .val (.int i), s6] [(.int (0 : Int32)), (.int (2 : Int32)), (.ref ob1)])
      obtain ⟨T13, h13, X13, e13, W13, V13, st13⟩ := own_iastore X12 hx hZ e12 V_c (by decide) (Nat.le_of_ble_eq_true rfl) (g := (mkF m 73 #[.val (.ref a1), .val (.int (4 : Int32)), .val (.ref ob1), .val (.ref ob4), .val (.int (2 : Int32)), .val (.int i), s6] [(.int (0 : Int32)), (.int (2 : Int32)), (.ref ob1)])) rfl rfl (hb hby d2_73)
      have V_m := V_m.other W13 ne_a1_ob1
      have K0 := K0.wr W13 (Or.inr sz_ob1)
      have V_ob4 := V_ob4.other W13 (Ne.symm ne_ob1_ob4)
      have V_ob5 := V_ob5.other W13 (Ne.symm ne_ob1_ob5)
      have E_ob5 := E_ob5.wr W13
      have V_ob8 := V_ob8.other W13 (Ne.symm ne_ob1_ob8)
      have E_ob8 := E_ob8.wr W13
      have V_ob11 := V_ob11.other W13 (Ne.symm ne_ob1_ob11)
      have E_ob11 := E_ob11.wr W13
      have V_c : Arx Z h13 ob1 .int [(.int (0 : Int32)), (.int (0 : Int32)), (.int (0 : Int32)), (.int (Int32.ofNat (cn ms (3 : Int32) ms.length)))] := V13
      have N13 := Fr.snoc X13 N12 g_ob1
      refine own_go (fun _ => st13 _) ?_
      show GG _ _ _ _ _ _ _ T13 (mkF m 74 #[.val (.ref a1), .val (.int (4 : Int32)), .val (.ref ob1), .val (.ref ob4), .val (.int (2 : Int32)), .val (.int i), s6] [])
      refine own_go (fun _ => XS.iinc X13.here hx rfl (hb hby d2_74) rfl (l' := #[.val (.ref a1), .val (.int (4 : Int32)), .val (.ref ob1), .val (.ref ob4), .val (.int (3 : Int32)), .val (.int i), s6]) rfl) ?_
      show GG _ _ _ _ _ _ _ T13 (mkF m 77 #[.val (.ref a1), .val (.int (4 : Int32)), .val (.ref ob1), .val (.ref ob4), .val (.int (3 : Int32)), .val (.int i), s6] [])
      refine own_go (fun _ => XS.goto X13.here hx rfl (pc0 := 77) (pc' := 53) rfl (hb hby d2_77) (by decide) (by decide)) ?_
      show GG _ _ _ _ _ _ _ T13 (mkF m 53 #[.val (.ref a1), .val (.int (4 : Int32)), .val (.ref ob1), .val (.ref ob4), .val (.int (3 : Int32)), .val (.int i), s6] [])
      refine own_go (fun _ => XS.iload X13.here hx rfl (hb hby d2_53) rfl) ?_
      show GG _ _ _ _ _ _ _ T13 (mkF m 55 #[.val (.ref a1), .val (.int (4 : Int32)), .val (.ref ob1), .val (.ref ob4), .val (.int (3 : Int32)), .val (.int i), s6] [(.int (3 : Int32))])
      refine own_go (fun _ => XS.iloadN X13.here hx rfl (hb hby d2_55) rfl) ?_
      show GG _ _ _ _ _ _ _ T13 (mkF m 56 #[.val (.ref a1), .val (.int (4 : Int32)), .val (.ref ob1), .val (.ref ob4), .val (.int (3 : Int32)), .val (.int i), s6] [(.int (4 : Int32)), (.int (3 : Int32))])
      have hc56 : (3 : Int32) < (4 : Int32) := by decide
      refine own_go (fun _ => XS.icmpNo X13.here hx rfl (hb hby d2_56) rfl (tlt hc56).2.1) ?_
      show GG _ _ _ _ _ _ _ T13 (mkF m 59 #[.val (.ref a1), .val (.int (4 : Int32)), .val (.ref ob1), .val (.ref ob4), .val (.int (3 : Int32)), .val (.int i), s6] [])
      refine own_go (fun _ => XS.aloadN X13.here hx rfl (hb hby d2_59) rfl rfl) ?_
      show GG _ _ _ _ _ _ _ T13 (mkF m 60 #[.val (.ref a1), .val (.int (4 : Int32)), .val (.ref ob1), .val (.ref ob4), .val (.int (3 : Int32)), .val (.int i), s6] [(.ref ob4)])
      refine own_go (fun _ => XS.iload X13.here hx rfl (hb hby d2_60) rfl) ?_
      show GG _ _ _ _ _ _ _ T13 (mkF m 62 #[.val (.ref a1), .val (.int (4 : Int32)), .val (.ref ob1), .val (.ref ob4), .val (.int (3 : Int32)), .val (.int i), s6] [(.int (3 : Int32)), (.ref ob4)])
      refine own_go (fun _ => XS.aloadN X13.here hx rfl (hb hby d2_62) rfl rfl) ?_
      show GG _ _ _ _ _ _ _ T13 (mkF m 63 #[.val (.ref a1), .val (.int (4 : Int32)), .val (.ref ob1), .val (.ref ob4), .val (.int (3 : Int32)), .val (.int i), s6] [(.ref ob1), (.int (3 : Int32)), (.ref ob4)])
      refine own_go (fun _ => XS.iload X13.here hx rfl (hb hby d2_63) rfl) ?_
      show GG _ _ _ _ _ _ _ T13 (mkF m 65 #[.val (.ref a1), .val (.int (4 : Int32)), .val (.ref ob1), .val (.ref ob4), .val (.int (3 : Int32)), .val (.int i), s6] [(.int (3 : Int32)), (.ref ob1), (.int (3 : Int32)), (.ref ob4)])
      refine own_go (fun _ => own_iaload X13 hx hZ e13 V_c (j := (3 : Int32)) (v := (.int (Int32.ofNat (cn ms (3 : Int32) ms.length)))) (by decide) rfl (g := (mkF m 65 #[.val (.ref a1), .val (.int (4 : Int32)), .val (.ref ob1), .val (.ref ob4), .val (.int (3 : Int32)), .val (.int i), s6] [(.int (3 : Int32)), (.ref ob1), (.int (3 : Int32)), (.ref ob4)])) rfl rfl (hb hby d2_65) _) ?_
      show GG _ _ _ _ _ _ _ T13 (mkF m 66 #[.val (.ref a1), .val (.int (4 : Int32)), .val (.ref ob1), .val (.ref ob4), .val (.int (3 : Int32)), .val (.int i), s6] [(.int (Int32.ofNat (cn ms (3 : Int32) ms.length))), (.int (3 : Int32)), (.ref ob4)])
      obtain ⟨T14, h14, ob14, g14, X14, e14, E14, V_ob14, E_ob14, st14⟩ := own_newarr X13 hx hZ (hw _ (List.mem_of_getElem? (i := 0) rfl)) e13 (g := (mkF m 66 #[.val (.ref a1), .val (.int (4 : Int32)), .val (.ref ob1), .val (.ref ob4), .val (.int (3 : Int32)), .val (.int i), s6] [(.int (Int32.ofNat (cn ms (3 : Int32) ms.length))), (.int (3 : Int32)), (.ref ob4)])) rfl (hb hby d2_66) rfl (own_onn (Nat.le_trans (cn_le _ _ _) hn6)) (cap := 6) (Nat.le_trans (Nat.le_of_eq (own_ocl (Nat.le_trans (cn_le _ _ _) hn6))) (Nat.le_trans (cn_le _ _ _) hn6)) (by decide) (by decide) (by decide) (ad := "[I") (by decide)
      have ne_a1_ob14 : a1 ≠ ob14 := Nat.ne_of_lt (Nat.lt_of_lt_of_le V_m.lt (Nat.le_of_eq g14.symm))
      have ne_ob1_ob14 : ob1 ≠ ob14 := Nat.ne_of_lt (Nat.lt_of_lt_of_le V_c.lt (Nat.le_of_eq g14.symm))
      have ne_ob4_ob14 : ob4 ≠ ob14 := Nat.ne_of_lt (Nat.lt_of_lt_of_le V_ob4.lt (Nat.le_of_eq g14.symm))
      have ne_ob5_ob14 : ob5 ≠ ob14 := Nat.ne_of_lt (Nat.lt_of_lt_of_le V_ob5.lt (Nat.le_of_eq g14.symm))
      have ne_ob8_ob14 : ob8 ≠ ob14 := Nat.ne_of_lt (Nat.lt_of_lt_of_le V_ob8.lt (Nat.le_of_eq g14.symm))
      have ne_ob11_ob14 : ob11 ≠ ob14 := Nat.ne_of_lt (Nat.lt_of_lt_of_le V_ob11.lt (Nat.le_of_eq g14.symm))
      have sz_ob14 : h0.size ≤ ob14 := Nat.le_trans K0.1 (Nat.le_of_eq g14.symm)
      have g_ob14 : n0 ≤ ob14 := Nat.le_trans Z0 sz_ob14
      have V_m := V_m.ext E14
      have V_c := V_c.ext E14
      have K0 := K0.ext E14
      have V_ob4 := V_ob4.ext E14
      have V_ob5 := V_ob5.ext E14
      have E_ob5 := E_ob5.ext E14
      have V_ob8 := V_ob8.ext E14
      have E_ob8 := E_ob8.ext E14
      have V_ob11 := V_ob11.ext E14
      have E_ob11 := E_ob11.ext E14
      have V_ob14 : Arx Z h14 ob14 .int (List.replicate (Int32.ofNat (cn ms (3 : Int32) ms.length)).toNatClampNeg (.int (0 : Int32))) := V_ob14
      refine own_go (fun _ => st14 _) ?_
      show GG _ _ _ _ _ _ _ T14 (mkF m 68 #[.val (.ref a1), .val (.int (4 : Int32)), .val (.ref ob1), .val (.ref ob4), .val (.int (3 : Int32)), .val (.int i), s6] [(.ref ob14), (.int (3 : Int32)), (.ref ob4)])
      have V_ob14 : Arx Z h14 ob14 .int ((List.replicate (cn ms (3 : Int32) ms.length) (0 : Int32)).map Value.int) := own_rep (Nat.le_trans (cn_le _ _ _) hn6) V_ob14
      obtain ⟨T15, h15, X15, e15, W15, V15, st15⟩ := own_aastore X14 hx hZ e14 V_ob4 (Ins.self E_ob14) (by decide) (Nat.le_of_ble_eq_true rfl) (g := (mkF m 68 #[.val (.ref a1), .val (.int (4 : Int32)), .val (.ref ob1), .val (.ref ob4), .val (.int (3 : Int32)), .val (.int i), s6] [(.ref ob14), (.int (3 : Int32)), (.ref ob4)])) rfl rfl (hb hby d2_68)
      have V_m := V_m.other W15 ne_a1_ob4
      have V_c := V_c.other W15 ne_ob1_ob4
      have K0 := K0.wr W15 (Or.inr sz_ob4)
      have V_ob5 := V_ob5.other W15 (Ne.symm ne_ob4_ob5)
      have E_ob5 := E_ob5.wr W15
      have V_ob8 := V_ob8.other W15 (Ne.symm ne_ob4_ob8)
      have E_ob8 := E_ob8.wr W15
      have V_ob11 := V_ob11.other W15 (Ne.symm ne_ob4_ob11)
      have E_ob11 := E_ob11.wr W15
      have V_ob14 := V_ob14.other W15 (Ne.symm ne_ob4_ob14)
      have E_ob14 := E_ob14.wr W15
      have V_ob4 : Ary Z h15 ob4 [(.ref ob5), (.ref ob8), (.ref ob11), (.ref ob14)] := V15
      have N15 := Fr.snoc X15 N13 g_ob4
      refine own_go (fun _ => st15 _) ?_
      show GG _ _ _ _ _ _ _ T15 (mkF m 69 #[.val (.ref a1), .val (.int (4 : Int32)), .val (.ref ob1), .val (.ref ob4), .val (.int (3 : Int32)), .val (.int i), s6] [])
      refine own_go (fun _ => XS.aloadN X15.here hx rfl (hb hby d2_69) rfl rfl) ?_
      show GG _ _ _ _ _ _ _ T15 (mkF m 70 #[.val (.ref a1), .val (.int (4 : Int32)), .val (.ref ob1), .val (.ref ob4), .val (.int (3 : Int32)), .val (.int i), s6] [(.ref ob1)])
      refine own_go (fun _ => XS.iload X15.here hx rfl (hb hby d2_70) rfl) ?_
      show GG _ _ _ _ _ _ _ T15 (mkF m 72 #[.val (.ref a1), .val (.int (4 : Int32)), .val (.ref ob1), .val (.ref ob4), .val (.int (3 : Int32)), .val (.int i), s6] [(.int (3 : Int32)), (.ref ob1)])
      refine own_go (fun _ => XS.iconst X15.here hx rfl (hb hby d2_72)) ?_
      show GG _ _ _ _ _ _ _ T15 (mkF m 73 #[.val (.ref a1), .val (.int (4 : Int32)), .val (.ref ob1), .val (.ref ob4), .val (.int (3 : Int32)), .val (.int i), s6] [(.int (0 : Int32)), (.int (3 : Int32)), (.ref ob1)])
      obtain ⟨T16, h16, X16, e16, W16, V16, st16⟩ := own_iastore X15 hx hZ e15 V_c (by decide) (Nat.le_of_ble_eq_true rfl) (g := (mkF m 73 #[.val (.ref a1), .val (.int (4 : Int32)), .val (.ref ob1), .val (.ref ob4), .val (.int (3 : Int32)), .val (.int i), s6] [(.int (0 : Int32)), (.int (3 : Int32)), (.ref ob1)])) rfl rfl (hb hby d2_73)
      have V_m := V_m.other W16 ne_a1_ob1
      have K0 := K0.wr W16 (Or.inr sz_ob1)
      have V_ob4 := V_ob4.other W16 (Ne.symm ne_ob1_ob4)
      have V_ob5 := V_ob5.other W16 (Ne.symm ne_ob1_ob5)
      have E_ob5 := E_ob5.wr W16
      have V_ob8 := V_ob8.other W16 (Ne.symm ne_ob1_ob8)
      have E_ob8 := E_ob8.wr W16
      have V_ob11 := V_ob11.other W16 (Ne.symm ne_ob1_ob11)
      have E_ob11 := E_ob11.wr W16
      have V_ob14 := V_ob14.other W16 (Ne.symm ne_ob1_ob14)
      have E_ob14 := E_ob14.wr W16
      have V_c : Arx Z h16 ob1 .int [(.int (0 : Int32)), (.int (0 : Int32)), (.int (0 : Int32)), (.int (0 : Int32))] := V16
      have N16 := Fr.snoc X16 N15 g_ob1
      refine own_go (fun _ => st16 _) ?_
      show GG _ _ _ _ _ _ _ T16 (mkF m 74 #[.val (.ref a1), .val (.int (4 : Int32)), .val (.ref ob1), .val (.ref ob4), .val (.int (3 : Int32)), .val (.int i), s6] [])
      refine own_go (fun _ => XS.iinc X16.here hx rfl (hb hby d2_74) rfl (l' := #[.val (.ref a1), .val (.int (4 : Int32)), .val (.ref ob1), .val (.ref ob4), .val (.int (4 : Int32)), .val (.int i), s6]) rfl) ?_
      show GG _ _ _ _ _ _ _ T16 (mkF m 77 #[.val (.ref a1), .val (.int (4 : Int32)), .val (.ref ob1), .val (.ref ob4), .val (.int (4 : Int32)), .val (.int i), s6] [])
      refine own_go (fun _ => XS.goto X16.here hx rfl (pc0 := 77) (pc' := 53) rfl (hb hby d2_77) (by decide) (by decide)) ?_
      show GG _ _ _ _ _ _ _ T16 (mkF m 53 #[.val (.ref a1), .val (.int (4 : Int32)), .val (.ref ob1), .val (.ref ob4), .val (.int (4 : Int32)), .val (.int i), s6] [])
      refine own_go (fun _ => XS.iload X16.here hx rfl (hb hby d2_53) rfl) ?_
      show GG _ _ _ _ _ _ _ T16 (mkF m 55 #[.val (.ref a1), .val (.int (4 : Int32)), .val (.ref ob1), .val (.ref ob4), .val (.int (4 : Int32)), .val (.int i), s6] [(.int (4 : Int32))])
      refine own_go (fun _ => XS.iloadN X16.here hx rfl (hb hby d2_55) rfl) ?_
      show GG _ _ _ _ _ _ _ T16 (mkF m 56 #[.val (.ref a1), .val (.int (4 : Int32)), .val (.ref ob1), .val (.ref ob4), .val (.int (4 : Int32)), .val (.int i), s6] [(.int (4 : Int32)), (.int (4 : Int32))])
      have hc56 : ¬ ((4 : Int32) < (4 : Int32)) := by decide
      refine own_go (fun _ => XS.icmpYes X16.here hx rfl (pc0 := 56) (pc' := 80) rfl (hb hby d2_56) rfl (flt hc56).2.1 (by decide) (by decide)) ?_
      show GG _ _ _ _ _ _ _ T16 (mkF m 80 #[.val (.ref a1), .val (.int (4 : Int32)), .val (.ref ob1), .val (.ref ob4), .val (.int (4 : Int32)), .val (.int i), s6] [])
      refine own_go (fun _ => XS.iconst X16.here hx rfl (hb hby d2_80)) ?_
      show GG _ _ _ _ _ _ _ T16 (mkF m 81 #[.val (.ref a1), .val (.int (4 : Int32)), .val (.ref ob1), .val (.ref ob4), .val (.int (4 : Int32)), .val (.int i), s6] [(.int (0 : Int32))])
      refine own_go (fun _ => XS.istore X16.here hx rfl (hb hby d2_81) rfl (l' := #[.val (.ref a1), .val (.int (4 : Int32)), .val (.ref ob1), .val (.ref ob4), .val (.int (0 : Int32)), .val (.int i), s6]) rfl) ?_
      show GG _ _ _ _ _ _ _ T16 (mkF m 83 #[.val (.ref a1), .val (.int (4 : Int32)), .val (.ref ob1), .val (.ref ob4), .val (.int (0 : Int32)), .val (.int i), s6] [])
      have V_r := V_ob4.arx
      have loop17 : ∀ (k : Nat) (iN : Nat) (i t5 : Int32) (vs0 vs1 vs2 vs3 : List Int32) (TL : State) (hL : Heap) (lL : List Loc) (XL : Stand p l e ({ frames := 0, cells := 6, slots := 32, locals := 0 } : Room) s m #[(.ref a1), (.int (4 : Int32))] below meth c TL lL 6 32) (eL : TL.heap = hL) (NL : Fr n0 lL) (hi : i.toInt = iN) (hk : iN + k = ms.length) (V_m : Arx Z hL a1 .int (ms.map Value.int)) (V_c : Arx Z hL ob1 .int [(.int (Int32.ofNat (cn ms (0 : Int32) iN))), (.int (Int32.ofNat (cn ms (1 : Int32) iN))), (.int (Int32.ofNat (cn ms (2 : Int32) iN))), (.int (Int32.ofNat (cn ms (3 : Int32) iN)))]) (V_r : Arx Z hL ob4 (.array .int) [(.ref ob5), (.ref ob8), (.ref ob11), (.ref ob14)]) (V_0 : Arx Z hL ob5 .int (vs0.map Value.int)) (R_0 : Row ms (0 : Int32) ms.length iN vs0) (V_1 : Arx Z hL ob8 .int (vs1.map Value.int)) (R_1 : Row ms (1 : Int32) ms.length iN vs1) (V_2 : Arx Z hL ob11 .int (vs2.map Value.int)) (R_2 : Row ms (2 : Int32) ms.length iN vs2) (V_3 : Arx Z hL ob14 .int (vs3.map Value.int)) (R_3 : Row ms (3 : Int32) ms.length iN vs3) (K0 : Keep h0 hL []), GG p e below s 6 32 (Q2_4 Z a1 ms h0 n0) TL (mkF m 83 #[.val (.ref a1), .val (.int (4 : Int32)), .val (.ref ob1), .val (.ref ob4), .val (.int i), .val (.int t5), s6] []) := by
        intro k
        induction k with
        | zero =>
          intro iN i t5 vs0 vs1 vs2 vs3 TL hL lL XL eL NL hi hk V_m V_c V_r V_0 R_0 V_1 R_1 V_2 R_2 V_3 R_3 K0
          obtain rfl : iN = ms.length := by omega
          show GG _ _ _ _ _ _ _ TL (mkF m 83 #[.val (.ref a1), .val (.int (4 : Int32)), .val (.ref ob1), .val (.ref ob4), .val (.int i), .val (.int t5), s6] [])
          refine own_go (fun _ => XS.iload XL.here hx rfl (hb hby d2_83) rfl) ?_
          show GG _ _ _ _ _ _ _ TL (mkF m 85 #[.val (.ref a1), .val (.int (4 : Int32)), .val (.ref ob1), .val (.ref ob4), .val (.int i), .val (.int t5), s6] [(.int i)])
          refine own_go (fun _ => XS.aloadN XL.here hx rfl (hb hby d2_85) rfl rfl) ?_
          show GG _ _ _ _ _ _ _ TL (mkF m 86 #[.val (.ref a1), .val (.int (4 : Int32)), .val (.ref ob1), .val (.ref ob4), .val (.int i), .val (.int t5), s6] [(.ref a1), (.int i)])
          refine own_go (fun _ => own_len XL hx hZ eL V_m (g := (mkF m 86 #[.val (.ref a1), .val (.int (4 : Int32)), .val (.ref ob1), .val (.ref ob4), .val (.int i), .val (.int t5), s6] [(.ref a1), (.int i)])) rfl rfl (hb hby d2_86) _) ?_
          show GG _ _ _ _ _ _ _ TL (mkF m 87 #[.val (.ref a1), .val (.int (4 : Int32)), .val (.ref ob1), .val (.ref ob4), .val (.int i), .val (.int t5), s6] [(.int (Int32.ofNat (ms.map Value.int).length)), (.int i)])
          generalize hy18 : (Int32.ofNat (ms.map Value.int).length) = y18
          have dy18 : y18.toInt = (ms.length : Nat) := by rw [← hy18, List.length_map]; exact own_ofNat (by omega)
          show GG _ _ _ _ _ _ _ TL (mkF m 87 #[.val (.ref a1), .val (.int (4 : Int32)), .val (.ref ob1), .val (.ref ob4), .val (.int i), .val (.int t5), s6] [(.int y18), (.int i)])
          have hc87 : ¬ (i < y18) := (fun q => absurd (Int32.lt_iff_toInt_lt.mp q) ((by show ¬ (i.toInt < y18.toInt); omega : ¬ (i.toInt < y18.toInt))))
          refine own_go (fun _ => XS.icmpYes XL.here hx rfl (pc0 := 87) (pc' := 123) rfl (hb hby d2_87) rfl (flt hc87).2.1 (by decide) (by decide)) ?_
          show GG _ _ _ _ _ _ _ TL (mkF m 123 #[.val (.ref a1), .val (.int (4 : Int32)), .val (.ref ob1), .val (.ref ob4), .val (.int i), .val (.int t5), s6] [])
          refine own_go (fun _ => XS.aloadN XL.here hx rfl (hb hby d2_123) rfl rfl) ?_
          show GG _ _ _ _ _ _ _ TL (mkF m 124 #[.val (.ref a1), .val (.int (4 : Int32)), .val (.ref ob1), .val (.ref ob4), .val (.int i), .val (.int t5), s6] [(.ref ob4)])
          refine own_ret XL hx hlk (t := (.array (.array .int))) (w := (.ref ob4)) Bd.returns rfl (Or.inr (Or.inr (Or.inr (Or.inr ⟨rfl, rfl, rfl⟩)))) (hb hby d2_124) (by decide) (by decide) ?_
          show Q2_4 Z a1 ms h0 n0 (some (.ref ob4)) TL.heap _
          rw [eL]
          exact ⟨_, [ob5, ob8, ob11, ob14], rfl, NL, K0, V_r, rfl, fun c hc => by
            match c, hc with
            | 0, _ => exact ⟨ob5, vs0, rfl, V_0, R_0⟩
            | 1, _ => exact ⟨ob8, vs1, rfl, V_1, R_1⟩
            | 2, _ => exact ⟨ob11, vs2, rfl, V_2, R_2⟩
            | 3, _ => exact ⟨ob14, vs3, rfl, V_3, R_3⟩
            | q + 4, hq => exact absurd hq (by show ¬ q + 4 < 4; omega)⟩
        | succ k ih =>
          intro iN i t5 vs0 vs1 vs2 vs3 TL hL lL XL eL NL hi hk V_m V_c V_r V_0 R_0 V_1 R_1 V_2 R_2 V_3 R_3 K0
          have ri := rng32 i
          have hii : i = Int32.ofNat iN := by rw [← Int32.toInt_inj, own_ofNat (by omega), hi]
          obtain ⟨y, hy⟩ : ∃ y, ms[iN]? = some y := ⟨_, List.getElem?_eq_getElem (show iN < ms.length by omega)⟩
          have hyr := hG iN y hy
          show GG _ _ _ _ _ _ _ TL (mkF m 83 #[.val (.ref a1), .val (.int (4 : Int32)), .val (.ref ob1), .val (.ref ob4), .val (.int i), .val (.int t5), s6] [])
          refine own_go (fun _ => XS.iload XL.here hx rfl (hb hby d2_83) rfl) ?_
          show GG _ _ _ _ _ _ _ TL (mkF m 85 #[.val (.ref a1), .val (.int (4 : Int32)), .val (.ref ob1), .val (.ref ob4), .val (.int i), .val (.int t5), s6] [(.int i)])
          refine own_go (fun _ => XS.aloadN XL.here hx rfl (hb hby d2_85) rfl rfl) ?_
          show GG _ _ _ _ _ _ _ TL (mkF m 86 #[.val (.ref a1), .val (.int (4 : Int32)), .val (.ref ob1), .val (.ref ob4), .val (.int i), .val (.int t5), s6] [(.ref a1), (.int i)])
          refine own_go (fun _ => own_len XL hx hZ eL V_m (g := (mkF m 86 #[.val (.ref a1), .val (.int (4 : Int32)), .val (.ref ob1), .val (.ref ob4), .val (.int i), .val (.int t5), s6] [(.ref a1), (.int i)])) rfl rfl (hb hby d2_86) _) ?_
          show GG _ _ _ _ _ _ _ TL (mkF m 87 #[.val (.ref a1), .val (.int (4 : Int32)), .val (.ref ob1), .val (.ref ob4), .val (.int i), .val (.int t5), s6] [(.int (Int32.ofNat (ms.map Value.int).length)), (.int i)])
          generalize hy19 : (Int32.ofNat (ms.map Value.int).length) = y19
          have dy19 : y19.toInt = (ms.length : Nat) := by rw [← hy19, List.length_map]; exact own_ofNat (by omega)
          show GG _ _ _ _ _ _ _ TL (mkF m 87 #[.val (.ref a1), .val (.int (4 : Int32)), .val (.ref ob1), .val (.ref ob4), .val (.int i), .val (.int t5), s6] [(.int y19), (.int i)])
          have hc87 : i < y19 := (Int32.lt_iff_toInt_lt.mpr ((by show (i.toInt < y19.toInt); omega : (i.toInt < y19.toInt))))
          refine own_go (fun _ => XS.icmpNo XL.here hx rfl (hb hby d2_87) rfl (tlt hc87).2.1) ?_
          show GG _ _ _ _ _ _ _ TL (mkF m 90 #[.val (.ref a1), .val (.int (4 : Int32)), .val (.ref ob1), .val (.ref ob4), .val (.int i), .val (.int t5), s6] [])
          refine own_go (fun _ => XS.aloadN XL.here hx rfl (hb hby d2_90) rfl rfl) ?_
          show GG _ _ _ _ _ _ _ TL (mkF m 91 #[.val (.ref a1), .val (.int (4 : Int32)), .val (.ref ob1), .val (.ref ob4), .val (.int i), .val (.int t5), s6] [(.ref a1)])
          refine own_go (fun _ => XS.iload XL.here hx rfl (hb hby d2_91) rfl) ?_
          show GG _ _ _ _ _ _ _ TL (mkF m 93 #[.val (.ref a1), .val (.int (4 : Int32)), .val (.ref ob1), .val (.ref ob4), .val (.int i), .val (.int t5), s6] [(.int i), (.ref a1)])
          refine own_go (fun _ => own_iaload XL hx hZ eL V_m (j := i) (v := (.int y)) (own_nn (by omega)) (own_mget hi hy) (g := (mkF m 93 #[.val (.ref a1), .val (.int (4 : Int32)), .val (.ref ob1), .val (.ref ob4), .val (.int i), .val (.int t5), s6] [(.int i), (.ref a1)])) rfl rfl (hb hby d2_93) _) ?_
          show GG _ _ _ _ _ _ _ TL (mkF m 94 #[.val (.ref a1), .val (.int (4 : Int32)), .val (.ref ob1), .val (.ref ob4), .val (.int i), .val (.int t5), s6] [(.int y)])
          refine own_go (fun _ => XS.istore XL.here hx rfl (hb hby d2_94) rfl (l' := #[.val (.ref a1), .val (.int (4 : Int32)), .val (.ref ob1), .val (.ref ob4), .val (.int i), .val (.int y), s6]) rfl) ?_
          show GG _ _ _ _ _ _ _ TL (mkF m 96 #[.val (.ref a1), .val (.int (4 : Int32)), .val (.ref ob1), .val (.ref ob4), .val (.int i), .val (.int y), s6] [])
          refine own_go (fun _ => XS.iload XL.here hx rfl (hb hby d2_96) rfl) ?_
          show GG _ _ _ _ _ _ _ TL (mkF m 98 #[.val (.ref a1), .val (.int (4 : Int32)), .val (.ref ob1), .val (.ref ob4), .val (.int i), .val (.int y), s6] [(.int y)])
          by_cases hneg : y.toInt < 0
          · skip
            have hc98 : y < (0 : Int32) := (Int32.lt_iff_toInt_lt.mpr ((by show (y.toInt < 0); omega : (y.toInt < 0))))
            refine own_go (fun _ => XS.ifYes XL.here hx rfl (pc0 := 98) (pc' := 117) rfl (hb hby d2_98) rfl ((if0 _ _).trans (tlt hc98).1) (by decide) (by decide)) ?_
            show GG _ _ _ _ _ _ _ TL (mkF m 117 #[.val (.ref a1), .val (.int (4 : Int32)), .val (.ref ob1), .val (.ref ob4), .val (.int i), .val (.int y), s6] [])
            refine own_go (fun _ => XS.iinc XL.here hx rfl (hb hby d2_117) rfl (l' := #[.val (.ref a1), .val (.int (4 : Int32)), .val (.ref ob1), .val (.ref ob4), .val (.int (i + (1 : Int32))), .val (.int y), s6]) rfl) ?_
            show GG _ _ _ _ _ _ _ TL (mkF m 120 #[.val (.ref a1), .val (.int (4 : Int32)), .val (.ref ob1), .val (.ref ob4), .val (.int (i + (1 : Int32))), .val (.int y), s6] [])
            have cx20 := c_iadd i (1 : Int32)
            simp only [show ((1 : Int32)).toInt = 1 from by decide] at cx20
            generalize hx20 : (i + (1 : Int32)) = x20 at cx20 ⊢
            have rx20 := rng32 x20
            have dx20 : x20.toInt = i.toInt + 1 := by omega
            clear cx20
            refine own_go (fun _ => XS.goto XL.here hx rfl (pc0 := 120) (pc' := 83) rfl (hb hby d2_120) (by decide) (by decide)) ?_
            show GG _ _ _ _ _ _ _ TL (mkF m 83 #[.val (.ref a1), .val (.int (4 : Int32)), .val (.ref ob1), .val (.ref ob4), .val (.int x20), .val (.int y), s6] [])
            have Vn : Arx Z hL ob1 .int [(.int (Int32.ofNat (cn ms (0 : Int32) (iN + 1)))), (.int (Int32.ofNat (cn ms (1 : Int32) (iN + 1)))), (.int (Int32.ofNat (cn ms (2 : Int32) (iN + 1)))), (.int (Int32.ofNat (cn ms (3 : Int32) (iN + 1))))] := by rw [own_cn0 (0 : Int32) hy (fun q => by rw [q] at hneg; exact absurd hneg (by decide)), own_cn0 (1 : Int32) hy (fun q => by rw [q] at hneg; exact absurd hneg (by decide)), own_cn0 (2 : Int32) hy (fun q => by rw [q] at hneg; exact absurd hneg (by decide)), own_cn0 (3 : Int32) hy (fun q => by rw [q] at hneg; exact absurd hneg (by decide))]; exact V_c
            exact ih (iN + 1) x20 y _ _ _ _ TL _ _ XL eL NL (by omega) (by omega) V_m Vn V_r V_0 (R_0.skip hy (fun q => by rw [q] at hneg; exact absurd hneg (by decide))) V_1 (R_1.skip hy (fun q => by rw [q] at hneg; exact absurd hneg (by decide))) V_2 (R_2.skip hy (fun q => by rw [q] at hneg; exact absurd hneg (by decide))) V_3 (R_3.skip hy (fun q => by rw [q] at hneg; exact absurd hneg (by decide))) K0
          · skip
            by_cases e0 : y.toInt = 0
            · skip
              obtain rfl : y = (0 : Int32) := Int32.toInt_inj.mp (by rw [e0]; decide)
              show GG _ _ _ _ _ _ _ TL (mkF m 98 #[.val (.ref a1), .val (.int (4 : Int32)), .val (.ref ob1), .val (.ref ob4), .val (.int i), .val (.int (0 : Int32)), s6] [(.int (0 : Int32))])
              have hcl := cn_lt (j := ms.length) hy (by omega)
              have hc6 := cn_le ms (0 : Int32) ms.length
              have hc98 : ¬ ((0 : Int32) < (0 : Int32)) := by decide
              refine own_go (fun _ => XS.ifNo XL.here hx rfl (hb hby d2_98) rfl ((if0 _ _).trans (flt hc98).1)) ?_
              show GG _ _ _ _ _ _ _ TL (mkF m 101 #[.val (.ref a1), .val (.int (4 : Int32)), .val (.ref ob1), .val (.ref ob4), .val (.int i), .val (.int (0 : Int32)), s6] [])
              refine own_go (fun _ => XS.aloadN XL.here hx rfl (hb hby d2_101) rfl rfl) ?_
              show GG _ _ _ _ _ _ _ TL (mkF m 102 #[.val (.ref a1), .val (.int (4 : Int32)), .val (.ref ob1), .val (.ref ob4), .val (.int i), .val (.int (0 : Int32)), s6] [(.ref ob4)])
              refine own_go (fun _ => XS.iload XL.here hx rfl (hb hby d2_102) rfl) ?_
              show GG _ _ _ _ _ _ _ TL (mkF m 104 #[.val (.ref a1), .val (.int (4 : Int32)), .val (.ref ob1), .val (.ref ob4), .val (.int i), .val (.int (0 : Int32)), s6] [(.int (0 : Int32)), (.ref ob4)])
              refine own_go (fun _ => own_aaload XL hx hZ eL V_r rfl (j := (0 : Int32)) (v := (.ref ob5)) (by decide) rfl (g := (mkF m 104 #[.val (.ref a1), .val (.int (4 : Int32)), .val (.ref ob1), .val (.ref ob4), .val (.int i), .val (.int (0 : Int32)), s6] [(.int (0 : Int32)), (.ref ob4)])) rfl rfl (hb hby d2_104) _) ?_
              show GG _ _ _ _ _ _ _ TL (mkF m 105 #[.val (.ref a1), .val (.int (4 : Int32)), .val (.ref ob1), .val (.ref ob4), .val (.int i), .val (.int (0 : Int32)), s6] [(.ref ob5)])
              refine own_go (fun _ => XS.aloadN XL.here hx rfl (hb hby d2_105) rfl rfl) ?_
              show GG _ _ _ _ _ _ _ TL (mkF m 106 #[.val (.ref a1), .val (.int (4 : Int32)), .val (.ref ob1), .val (.ref ob4), .val (.int i), .val (.int (0 : Int32)), s6] [(.ref ob1), (.ref ob5)])
              refine own_go (fun _ => XS.iload XL.here hx rfl (hb hby d2_106) rfl) ?_
              show GG _ _ _ _ _ _ _ TL (mkF m 108 #[.val (.ref a1), .val (.int (4 : Int32)), .val (.ref ob1), .val (.ref ob4), .val (.int i), .val (.int (0 : Int32)), s6] [(.int (0 : Int32)), (.ref ob1), (.ref ob5)])
              refine own_go (fun _ => XT.dup2 XL.here hx rfl (hb hby d2_108) rfl rfl rfl) ?_
              show GG _ _ _ _ _ _ _ TL (mkF m 109 #[.val (.ref a1), .val (.int (4 : Int32)), .val (.ref ob1), .val (.ref ob4), .val (.int i), .val (.int (0 : Int32)), s6] [(.int (0 : Int32)), (.ref ob1), (.int (0 : Int32)), (.ref ob1), (.ref ob5)])
              refine own_go (fun _ => own_iaload XL hx hZ eL V_c (j := (0 : Int32)) (v := (.int (Int32.ofNat (cn ms (0 : Int32) iN)))) (by decide) rfl (g := (mkF m 109 #[.val (.ref a1), .val (.int (4 : Int32)), .val (.ref ob1), .val (.ref ob4), .val (.int i), .val (.int (0 : Int32)), s6] [(.int (0 : Int32)), (.ref ob1), (.int (0 : Int32)), (.ref ob1), (.ref ob5)])) rfl rfl (hb hby d2_109) _) ?_
              show GG _ _ _ _ _ _ _ TL (mkF m 110 #[.val (.ref a1), .val (.int (4 : Int32)), .val (.ref ob1), .val (.ref ob4), .val (.int i), .val (.int (0 : Int32)), s6] [(.int (Int32.ofNat (cn ms (0 : Int32) iN))), (.int (0 : Int32)), (.ref ob1), (.ref ob5)])
              refine own_go (fun _ => own_dupX2 XL.here hx rfl (hb hby d2_110) rfl rfl rfl rfl) ?_
              show GG _ _ _ _ _ _ _ TL (mkF m 111 #[.val (.ref a1), .val (.int (4 : Int32)), .val (.ref ob1), .val (.ref ob4), .val (.int i), .val (.int (0 : Int32)), s6] [(.int (Int32.ofNat (cn ms (0 : Int32) iN))), (.int (0 : Int32)), (.ref ob1), (.int (Int32.ofNat (cn ms (0 : Int32) iN))), (.ref ob5)])
              refine own_go (fun _ => XS.iconst XL.here hx rfl (hb hby d2_111)) ?_
              show GG _ _ _ _ _ _ _ TL (mkF m 112 #[.val (.ref a1), .val (.int (4 : Int32)), .val (.ref ob1), .val (.ref ob4), .val (.int i), .val (.int (0 : Int32)), s6] [(.int (1 : Int32)), (.int (Int32.ofNat (cn ms (0 : Int32) iN))), (.int (0 : Int32)), (.ref ob1), (.int (Int32.ofNat (cn ms (0 : Int32) iN))), (.ref ob5)])
              refine own_go (fun _ => XS.iadd XL.here hx rfl (hb hby d2_112) rfl) ?_
              show GG _ _ _ _ _ _ _ TL (mkF m 113 #[.val (.ref a1), .val (.int (4 : Int32)), .val (.ref ob1), .val (.ref ob4), .val (.int i), .val (.int (0 : Int32)), s6] [(.int ((Int32.ofNat (cn ms (0 : Int32) iN)) + (1 : Int32))), (.int (0 : Int32)), (.ref ob1), (.int (Int32.ofNat (cn ms (0 : Int32) iN))), (.ref ob5)])
              obtain ⟨T21, h21, X21, e21, W21, V21, st21⟩ := own_iastore XL hx hZ eL V_c (by decide) (Nat.le_of_ble_eq_true rfl) (g := (mkF m 113 #[.val (.ref a1), .val (.int (4 : Int32)), .val (.ref ob1), .val (.ref ob4), .val (.int i), .val (.int (0 : Int32)), s6] [(.int ((Int32.ofNat (cn ms (0 : Int32) iN)) + (1 : Int32))), (.int (0 : Int32)), (.ref ob1), (.int (Int32.ofNat (cn ms (0 : Int32) iN))), (.ref ob5)])) rfl rfl (hb hby d2_113)
              have V_m := V_m.other W21 ne_a1_ob1
              have V_r := V_r.other W21 (Ne.symm ne_ob1_ob4)
              have K0 := K0.wr W21 (Or.inr sz_ob1)
              have V_0 := V_0.other W21 (Ne.symm ne_ob1_ob5)
              have V_1 := V_1.other W21 (Ne.symm ne_ob1_ob8)
              have V_2 := V_2.other W21 (Ne.symm ne_ob1_ob11)
              have V_3 := V_3.other W21 (Ne.symm ne_ob1_ob14)
              have V_c : Arx Z h21 ob1 .int [(.int ((Int32.ofNat (cn ms (0 : Int32) iN)) + (1 : Int32))), (.int (Int32.ofNat (cn ms (1 : Int32) iN))), (.int (Int32.ofNat (cn ms (2 : Int32) iN))), (.int (Int32.ofNat (cn ms (3 : Int32) iN)))] := V21
              have N21 := Fr.snoc X21 NL g_ob1
              refine own_go (fun _ => st21 _) ?_
              show GG _ _ _ _ _ _ _ T21 (mkF m 114 #[.val (.ref a1), .val (.int (4 : Int32)), .val (.ref ob1), .val (.ref ob4), .val (.int i), .val (.int (0 : Int32)), s6] [(.int (Int32.ofNat (cn ms (0 : Int32) iN))), (.ref ob5)])
              refine own_go (fun _ => XS.iload X21.here hx rfl (hb hby d2_114) rfl) ?_
              show GG _ _ _ _ _ _ _ T21 (mkF m 116 #[.val (.ref a1), .val (.int (4 : Int32)), .val (.ref ob1), .val (.ref ob4), .val (.int i), .val (.int (0 : Int32)), s6] [(.int i), (.int (Int32.ofNat (cn ms (0 : Int32) iN))), (.ref ob5)])
              obtain ⟨T22, h22, X22, e22, W22, V22, st22⟩ := own_iastore X21 hx hZ e21 V_0 (own_onn (by omega)) (by rw [List.length_map, R_0.1, own_ocl (by omega)]; exact hcl) (g := (mkF m 116 #[.val (.ref a1), .val (.int (4 : Int32)), .val (.ref ob1), .val (.ref ob4), .val (.int i), .val (.int (0 : Int32)), s6] [(.int i), (.int (Int32.ofNat (cn ms (0 : Int32) iN))), (.ref ob5)])) rfl rfl (hb hby d2_116)
              have V_m := V_m.other W22 ne_a1_ob5
              have V_c := V_c.other W22 ne_ob1_ob5
              have V_r := V_r.other W22 ne_ob4_ob5
              have K0 := K0.wr W22 (Or.inr sz_ob5)
              have V_1 := V_1.other W22 (Ne.symm ne_ob5_ob8)
              have V_2 := V_2.other W22 (Ne.symm ne_ob5_ob11)
              have V_3 := V_3.other W22 (Ne.symm ne_ob5_ob14)
              have V_0 : Arx Z h22 ob5 .int ((vs0.set (cn ms (0 : Int32) iN) i).map Value.int) := (own_rset (by omega) V22)
              have N22 := Fr.snoc X22 N21 g_ob5
              refine own_go (fun _ => st22 _) ?_
              show GG _ _ _ _ _ _ _ T22 (mkF m 117 #[.val (.ref a1), .val (.int (4 : Int32)), .val (.ref ob1), .val (.ref ob4), .val (.int i), .val (.int (0 : Int32)), s6] [])
              refine own_go (fun _ => XS.iinc X22.here hx rfl (hb hby d2_117) rfl (l' := #[.val (.ref a1), .val (.int (4 : Int32)), .val (.ref ob1), .val (.ref ob4), .val (.int (i + (1 : Int32))), .val (.int (0 : Int32)), s6]) rfl) ?_
              show GG _ _ _ _ _ _ _ T22 (mkF m 120 #[.val (.ref a1), .val (.int (4 : Int32)), .val (.ref ob1), .val (.ref ob4), .val (.int (i + (1 : Int32))), .val (.int (0 : Int32)), s6] [])
              have cx23 := c_iadd i (1 : Int32)
              simp only [show ((1 : Int32)).toInt = 1 from by decide] at cx23
              generalize hx23 : (i + (1 : Int32)) = x23 at cx23 ⊢
              have rx23 := rng32 x23
              have dx23 : x23.toInt = i.toInt + 1 := by omega
              clear cx23
              refine own_go (fun _ => XS.goto X22.here hx rfl (pc0 := 120) (pc' := 83) rfl (hb hby d2_120) (by decide) (by decide)) ?_
              show GG _ _ _ _ _ _ _ T22 (mkF m 83 #[.val (.ref a1), .val (.int (4 : Int32)), .val (.ref ob1), .val (.ref ob4), .val (.int x23), .val (.int (0 : Int32)), s6] [])
              have Vn : Arx Z h22 ob1 .int [(.int (Int32.ofNat (cn ms (0 : Int32) (iN + 1)))), (.int (Int32.ofNat (cn ms (1 : Int32) (iN + 1)))), (.int (Int32.ofNat (cn ms (2 : Int32) (iN + 1)))), (.int (Int32.ofNat (cn ms (3 : Int32) (iN + 1))))] := by rw [own_cn1 hy, own_cn0 (1 : Int32) hy (by decide), own_cn0 (2 : Int32) hy (by decide), own_cn0 (3 : Int32) hy (by decide)]; exact V_c
              exact ih (iN + 1) x23 (0 : Int32) _ _ _ _ T22 _ _ X22 e22 N22 (by omega) (by omega) V_m Vn V_r V_0 (by rw [hii]; exact R_0.put hy (by omega)) V_1 (R_1.skip hy (by decide)) V_2 (R_2.skip hy (by decide)) V_3 (R_3.skip hy (by decide)) K0
            by_cases e1 : y.toInt = 1
            · skip
              obtain rfl : y = (1 : Int32) := Int32.toInt_inj.mp (by rw [e1]; decide)
              show GG _ _ _ _ _ _ _ TL (mkF m 98 #[.val (.ref a1), .val (.int (4 : Int32)), .val (.ref ob1), .val (.ref ob4), .val (.int i), .val (.int (1 : Int32)), s6] [(.int (1 : Int32))])
              have hcl := cn_lt (j := ms.length) hy (by omega)
              have hc6 := cn_le ms (1 : Int32) ms.length
              have hc98 : ¬ ((1 : Int32) < (0 : Int32)) := by decide
              refine own_go (fun _ => XS.ifNo XL.here hx rfl (hb hby d2_98) rfl ((if0 _ _).trans (flt hc98).1)) ?_
              show GG _ _ _ _ _ _ _ TL (mkF m 101 #[.val (.ref a1), .val (.int (4 : Int32)), .val (.ref ob1), .val (.ref ob4), .val (.int i), .val (.int (1 : Int32)), s6] [])
              refine own_go (fun _ => XS.aloadN XL.here hx rfl (hb hby d2_101) rfl rfl) ?_
              show GG _ _ _ _ _ _ _ TL (mkF m 102 #[.val (.ref a1), .val (.int (4 : Int32)), .val (.ref ob1), .val (.ref ob4), .val (.int i), .val (.int (1 : Int32)), s6] [(.ref ob4)])
              refine own_go (fun _ => XS.iload XL.here hx rfl (hb hby d2_102) rfl) ?_
              show GG _ _ _ _ _ _ _ TL (mkF m 104 #[.val (.ref a1), .val (.int (4 : Int32)), .val (.ref ob1), .val (.ref ob4), .val (.int i), .val (.int (1 : Int32)), s6] [(.int (1 : Int32)), (.ref ob4)])
              refine own_go (fun _ => own_aaload XL hx hZ eL V_r rfl (j := (1 : Int32)) (v := (.ref ob8)) (by decide) rfl (g := (mkF m 104 #[.val (.ref a1), .val (.int (4 : Int32)), .val (.ref ob1), .val (.ref ob4), .val (.int i), .val (.int (1 : Int32)), s6] [(.int (1 : Int32)), (.ref ob4)])) rfl rfl (hb hby d2_104) _) ?_
              show GG _ _ _ _ _ _ _ TL (mkF m 105 #[.val (.ref a1), .val (.int (4 : Int32)), .val (.ref ob1), .val (.ref ob4), .val (.int i), .val (.int (1 : Int32)), s6] [(.ref ob8)])
              refine own_go (fun _ => XS.aloadN XL.here hx rfl (hb hby d2_105) rfl rfl) ?_
              show GG _ _ _ _ _ _ _ TL (mkF m 106 #[.val (.ref a1), .val (.int (4 : Int32)), .val (.ref ob1), .val (.ref ob4), .val (.int i), .val (.int (1 : Int32)), s6] [(.ref ob1), (.ref ob8)])
              refine own_go (fun _ => XS.iload XL.here hx rfl (hb hby d2_106) rfl) ?_
              show GG _ _ _ _ _ _ _ TL (mkF m 108 #[.val (.ref a1), .val (.int (4 : Int32)), .val (.ref ob1), .val (.ref ob4), .val (.int i), .val (.int (1 : Int32)), s6] [(.int (1 : Int32)), (.ref ob1), (.ref ob8)])
              refine own_go (fun _ => XT.dup2 XL.here hx rfl (hb hby d2_108) rfl rfl rfl) ?_
              show GG _ _ _ _ _ _ _ TL (mkF m 109 #[.val (.ref a1), .val (.int (4 : Int32)), .val (.ref ob1), .val (.ref ob4), .val (.int i), .val (.int (1 : Int32)), s6] [(.int (1 : Int32)), (.ref ob1), (.int (1 : Int32)), (.ref ob1), (.ref ob8)])
              refine own_go (fun _ => own_iaload XL hx hZ eL V_c (j := (1 : Int32)) (v := (.int (Int32.ofNat (cn ms (1 : Int32) iN)))) (by decide) rfl (g := (mkF m 109 #[.val (.ref a1), .val (.int (4 : Int32)), .val (.ref ob1), .val (.ref ob4), .val (.int i), .val (.int (1 : Int32)), s6] [(.int (1 : Int32)), (.ref ob1), (.int (1 : Int32)), (.ref ob1), (.ref ob8)])) rfl rfl (hb hby d2_109) _) ?_
              show GG _ _ _ _ _ _ _ TL (mkF m 110 #[.val (.ref a1), .val (.int (4 : Int32)), .val (.ref ob1), .val (.ref ob4), .val (.int i), .val (.int (1 : Int32)), s6] [(.int (Int32.ofNat (cn ms (1 : Int32) iN))), (.int (1 : Int32)), (.ref ob1), (.ref ob8)])
              refine own_go (fun _ => own_dupX2 XL.here hx rfl (hb hby d2_110) rfl rfl rfl rfl) ?_
              show GG _ _ _ _ _ _ _ TL (mkF m 111 #[.val (.ref a1), .val (.int (4 : Int32)), .val (.ref ob1), .val (.ref ob4), .val (.int i), .val (.int (1 : Int32)), s6] [(.int (Int32.ofNat (cn ms (1 : Int32) iN))), (.int (1 : Int32)), (.ref ob1), (.int (Int32.ofNat (cn ms (1 : Int32) iN))), (.ref ob8)])
              refine own_go (fun _ => XS.iconst XL.here hx rfl (hb hby d2_111)) ?_
              show GG _ _ _ _ _ _ _ TL (mkF m 112 #[.val (.ref a1), .val (.int (4 : Int32)), .val (.ref ob1), .val (.ref ob4), .val (.int i), .val (.int (1 : Int32)), s6] [(.int (1 : Int32)), (.int (Int32.ofNat (cn ms (1 : Int32) iN))), (.int (1 : Int32)), (.ref ob1), (.int (Int32.ofNat (cn ms (1 : Int32) iN))), (.ref ob8)])
              refine own_go (fun _ => XS.iadd XL.here hx rfl (hb hby d2_112) rfl) ?_
              show GG _ _ _ _ _ _ _ TL (mkF m 113 #[.val (.ref a1), .val (.int (4 : Int32)), .val (.ref ob1), .val (.ref ob4), .val (.int i), .val (.int (1 : Int32)), s6] [(.int ((Int32.ofNat (cn ms (1 : Int32) iN)) + (1 : Int32))), (.int (1 : Int32)), (.ref ob1), (.int (Int32.ofNat (cn ms (1 : Int32) iN))), (.ref ob8)])
              obtain ⟨T24, h24, X24, e24, W24, V24, st24⟩ := own_iastore XL hx hZ eL V_c (by decide) (Nat.le_of_ble_eq_true rfl) (g := (mkF m 113 #[.val (.ref a1), .val (.int (4 : Int32)), .val (.ref ob1), .val (.ref ob4), .val (.int i), .val (.int (1 : Int32)), s6] [(.int ((Int32.ofNat (cn ms (1 : Int32) iN)) + (1 : Int32))), (.int (1 : Int32)), (.ref ob1), (.int (Int32.ofNat (cn ms (1 : Int32) iN))), (.ref ob8)])) rfl rfl (hb hby d2_113)
              have V_m := V_m.other W24 ne_a1_ob1
              have V_r := V_r.other W24 (Ne.symm ne_ob1_ob4)
              have K0 := K0.wr W24 (Or.inr sz_ob1)
              have V_0 := V_0.other W24 (Ne.symm ne_ob1_ob5)
              have V_1 := V_1.other W24 (Ne.symm ne_ob1_ob8)
              have V_2 := V_2.other W24 (Ne.symm ne_ob1_ob11)
              have V_3 := V_3.other W24 (Ne.symm ne_ob1_ob14)
              have V_c : Arx Z h24 ob1 .int [(.int (Int32.ofNat (cn ms (0 : Int32) iN))), (.int ((Int32.ofNat (cn ms (1 : Int32) iN)) + (1 : Int32))), (.int (Int32.ofNat (cn ms (2 : Int32) iN))), (.int (Int32.ofNat (cn ms (3 : Int32) iN)))] := V24
              have N24 := Fr.snoc X24 NL g_ob1
              refine own_go (fun _ => st24 _) ?_
              show GG _ _ _ _ _ _ _ T24 (mkF m 114 #[.val (.ref a1), .val (.int (4 : Int32)), .val (.ref ob1), .val (.ref ob4), .val (.int i), .val (.int (1 : Int32)), s6] [(.int (Int32.ofNat (cn ms (1 : Int32) iN))), (.ref ob8)])
              refine own_go (fun _ => XS.iload X24.here hx rfl (hb hby d2_114) rfl) ?_
              show GG _ _ _ _ _ _ _ T24 (mkF m 116 #[.val (.ref a1), .val (.int (4 : Int32)), .val (.ref ob1), .val (.ref ob4), .val (.int i), .val (.int (1 : Int32)), s6] [(.int i), (.int (Int32.ofNat (cn ms (1 : Int32) iN))), (.ref ob8)])
              obtain ⟨T25, h25, X25, e25, W25, V25, st25⟩ := own_iastore X24 hx hZ e24 V_1 (own_onn (by omega)) (by rw [List.length_map, R_1.1, own_ocl (by omega)]; exact hcl) (g := (mkF m 116 #[.val (.ref a1), .val (.int (4 : Int32)), .val (.ref ob1), .val (.ref ob4), .val (.int i), .val (.int (1 : Int32)), s6] [(.int i), (.int (Int32.ofNat (cn ms (1 : Int32) iN))), (.ref ob8)])) rfl rfl (hb hby d2_116)
              have V_m := V_m.other W25 ne_a1_ob8
              have V_c := V_c.other W25 ne_ob1_ob8
              have V_r := V_r.other W25 ne_ob4_ob8
              have K0 := K0.wr W25 (Or.inr sz_ob8)
              have V_0 := V_0.other W25 ne_ob5_ob8
              have V_2 := V_2.other W25 (Ne.symm ne_ob8_ob11)
              have V_3 := V_3.other W25 (Ne.symm ne_ob8_ob14)
              have V_1 : Arx Z h25 ob8 .int ((vs1.set (cn ms (1 : Int32) iN) i).map Value.int) := (own_rset (by omega) V25)
              have N25 := Fr.snoc X25 N24 g_ob8
              refine own_go (fun _ => st25 _) ?_
              show GG _ _ _ _ _ _ _ T25 (mkF m 117 #[.val (.ref a1), .val (.int (4 : Int32)), .val (.ref ob1), .val (.ref ob4), .val (.int i), .val (.int (1 : Int32)), s6] [])
              refine own_go (fun _ => XS.iinc X25.here hx rfl (hb hby d2_117) rfl (l' := #[.val (.ref a1), .val (.int (4 : Int32)), .val (.ref ob1), .val (.ref ob4), .val (.int (i + (1 : Int32))), .val (.int (1 : Int32)), s6]) rfl) ?_
              show GG _ _ _ _ _ _ _ T25 (mkF m 120 #[.val (.ref a1), .val (.int (4 : Int32)), .val (.ref ob1), .val (.ref ob4), .val (.int (i + (1 : Int32))), .val (.int (1 : Int32)), s6] [])
              have cx26 := c_iadd i (1 : Int32)
              simp only [show ((1 : Int32)).toInt = 1 from by decide] at cx26
              generalize hx26 : (i + (1 : Int32)) = x26 at cx26 ⊢
              have rx26 := rng32 x26
              have dx26 : x26.toInt = i.toInt + 1 := by omega
              clear cx26
              refine own_go (fun _ => XS.goto X25.here hx rfl (pc0 := 120) (pc' := 83) rfl (hb hby d2_120) (by decide) (by decide)) ?_
              show GG _ _ _ _ _ _ _ T25 (mkF m 83 #[.val (.ref a1), .val (.int (4 : Int32)), .val (.ref ob1), .val (.ref ob4), .val (.int x26), .val (.int (1 : Int32)), s6] [])
              have Vn : Arx Z h25 ob1 .int [(.int (Int32.ofNat (cn ms (0 : Int32) (iN + 1)))), (.int (Int32.ofNat (cn ms (1 : Int32) (iN + 1)))), (.int (Int32.ofNat (cn ms (2 : Int32) (iN + 1)))), (.int (Int32.ofNat (cn ms (3 : Int32) (iN + 1))))] := by rw [own_cn0 (0 : Int32) hy (by decide), own_cn1 hy, own_cn0 (2 : Int32) hy (by decide), own_cn0 (3 : Int32) hy (by decide)]; exact V_c
              exact ih (iN + 1) x26 (1 : Int32) _ _ _ _ T25 _ _ X25 e25 N25 (by omega) (by omega) V_m Vn V_r V_0 (R_0.skip hy (by decide)) V_1 (by rw [hii]; exact R_1.put hy (by omega)) V_2 (R_2.skip hy (by decide)) V_3 (R_3.skip hy (by decide)) K0
            by_cases e2 : y.toInt = 2
            · skip
              obtain rfl : y = (2 : Int32) := Int32.toInt_inj.mp (by rw [e2]; decide)
              show GG _ _ _ _ _ _ _ TL (mkF m 98 #[.val (.ref a1), .val (.int (4 : Int32)), .val (.ref ob1), .val (.ref ob4), .val (.int i), .val (.int (2 : Int32)), s6] [(.int (2 : Int32))])
              have hcl := cn_lt (j := ms.length) hy (by omega)
              have hc6 := cn_le ms (2 : Int32) ms.length
              have hc98 : ¬ ((2 : Int32) < (0 : Int32)) := by decide
              refine own_go (fun _ => XS.ifNo XL.here hx rfl (hb hby d2_98) rfl ((if0 _ _).trans (flt hc98).1)) ?_
              show GG _ _ _ _ _ _ _ TL (mkF m 101 #[.val (.ref a1), .val (.int (4 : Int32)), .val (.ref ob1), .val (.ref ob4), .val (.int i), .val (.int (2 : Int32)), s6] [])
              refine own_go (fun _ => XS.aloadN XL.here hx rfl (hb hby d2_101) rfl rfl) ?_
              show GG _ _ _ _ _ _ _ TL (mkF m 102 #[.val (.ref a1), .val (.int (4 : Int32)), .val (.ref ob1), .val (.ref ob4), .val (.int i), .val (.int (2 : Int32)), s6] [(.ref ob4)])
              refine own_go (fun _ => XS.iload XL.here hx rfl (hb hby d2_102) rfl) ?_
              show GG _ _ _ _ _ _ _ TL (mkF m 104 #[.val (.ref a1), .val (.int (4 : Int32)), .val (.ref ob1), .val (.ref ob4), .val (.int i), .val (.int (2 : Int32)), s6] [(.int (2 : Int32)), (.ref ob4)])
              refine own_go (fun _ => own_aaload XL hx hZ eL V_r rfl (j := (2 : Int32)) (v := (.ref ob11)) (by decide) rfl (g := (mkF m 104 #[.val (.ref a1), .val (.int (4 : Int32)), .val (.ref ob1), .val (.ref ob4), .val (.int i), .val (.int (2 : Int32)), s6] [(.int (2 : Int32)), (.ref ob4)])) rfl rfl (hb hby d2_104) _) ?_
              show GG _ _ _ _ _ _ _ TL (mkF m 105 #[.val (.ref a1), .val (.int (4 : Int32)), .val (.ref ob1), .val (.ref ob4), .val (.int i), .val (.int (2 : Int32)), s6] [(.ref ob11)])
              refine own_go (fun _ => XS.aloadN XL.here hx rfl (hb hby d2_105) rfl rfl) ?_
              show GG _ _ _ _ _ _ _ TL (mkF m 106 #[.val (.ref a1), .val (.int (4 : Int32)), .val (.ref ob1), .val (.ref ob4), .val (.int i), .val (.int (2 : Int32)), s6] [(.ref ob1), (.ref ob11)])
              refine own_go (fun _ => XS.iload XL.here hx rfl (hb hby d2_106) rfl) ?_
              show GG _ _ _ _ _ _ _ TL (mkF m 108 #[.val (.ref a1), .val (.int (4 : Int32)), .val (.ref ob1), .val (.ref ob4), .val (.int i), .val (.int (2 : Int32)), s6] [(.int (2 : Int32)), (.ref ob1), (.ref ob11)])
              refine own_go (fun _ => XT.dup2 XL.here hx rfl (hb hby d2_108) rfl rfl rfl) ?_
              show GG _ _ _ _ _ _ _ TL (mkF m 109 #[.val (.ref a1), .val (.int (4 : Int32)), .val (.ref ob1), .val (.ref ob4), .val (.int i), .val (.int (2 : Int32)), s6] [(.int (2 : Int32)), (.ref ob1), (.int (2 : Int32)), (.ref ob1), (.ref ob11)])
              refine own_go (fun _ => own_iaload XL hx hZ eL V_c (j := (2 : Int32)) (v := (.int (Int32.ofNat (cn ms (2 : Int32) iN)))) (by decide) rfl (g := (mkF m 109 #[.val (.ref a1), .val (.int (4 : Int32)), .val (.ref ob1), .val (.ref ob4), .val (.int i), .val (.int (2 : Int32)), s6] [(.int (2 : Int32)), (.ref ob1), (.int (2 : Int32)), (.ref ob1), (.ref ob11)])) rfl rfl (hb hby d2_109) _) ?_
              show GG _ _ _ _ _ _ _ TL (mkF m 110 #[.val (.ref a1), .val (.int (4 : Int32)), .val (.ref ob1), .val (.ref ob4), .val (.int i), .val (.int (2 : Int32)), s6] [(.int (Int32.ofNat (cn ms (2 : Int32) iN))), (.int (2 : Int32)), (.ref ob1), (.ref ob11)])
              refine own_go (fun _ => own_dupX2 XL.here hx rfl (hb hby d2_110) rfl rfl rfl rfl) ?_
              show GG _ _ _ _ _ _ _ TL (mkF m 111 #[.val (.ref a1), .val (.int (4 : Int32)), .val (.ref ob1), .val (.ref ob4), .val (.int i), .val (.int (2 : Int32)), s6] [(.int (Int32.ofNat (cn ms (2 : Int32) iN))), (.int (2 : Int32)), (.ref ob1), (.int (Int32.ofNat (cn ms (2 : Int32) iN))), (.ref ob11)])
              refine own_go (fun _ => XS.iconst XL.here hx rfl (hb hby d2_111)) ?_
              show GG _ _ _ _ _ _ _ TL (mkF m 112 #[.val (.ref a1), .val (.int (4 : Int32)), .val (.ref ob1), .val (.ref ob4), .val (.int i), .val (.int (2 : Int32)), s6] [(.int (1 : Int32)), (.int (Int32.ofNat (cn ms (2 : Int32) iN))), (.int (2 : Int32)), (.ref ob1), (.int (Int32.ofNat (cn ms (2 : Int32) iN))), (.ref ob11)])
              refine own_go (fun _ => XS.iadd XL.here hx rfl (hb hby d2_112) rfl) ?_
              show GG _ _ _ _ _ _ _ TL (mkF m 113 #[.val (.ref a1), .val (.int (4 : Int32)), .val (.ref ob1), .val (.ref ob4), .val (.int i), .val (.int (2 : Int32)), s6] [(.int ((Int32.ofNat (cn ms (2 : Int32) iN)) + (1 : Int32))), (.int (2 : Int32)), (.ref ob1), (.int (Int32.ofNat (cn ms (2 : Int32) iN))), (.ref ob11)])
              obtain ⟨T27, h27, X27, e27, W27, V27, st27⟩ := own_iastore XL hx hZ eL V_c (by decide) (Nat.le_of_ble_eq_true rfl) (g := (mkF m 113 #[.val (.ref a1), .val (.int (4 : Int32)), .val (.ref ob1), .val (.ref ob4), .val (.int i), .val (.int (2 : Int32)), s6] [(.int ((Int32.ofNat (cn ms (2 : Int32) iN)) + (1 : Int32))), (.int (2 : Int32)), (.ref ob1), (.int (Int32.ofNat (cn ms (2 : Int32) iN))), (.ref ob11)])) rfl rfl (hb hby d2_113)
              have V_m := V_m.other W27 ne_a1_ob1
              have V_r := V_r.other W27 (Ne.symm ne_ob1_ob4)
              have K0 := K0.wr W27 (Or.inr sz_ob1)
              have V_0 := V_0.other W27 (Ne.symm ne_ob1_ob5)
              have V_1 := V_1.other W27 (Ne.symm ne_ob1_ob8)
              have V_2 := V_2.other W27 (Ne.symm ne_ob1_ob11)
              have V_3 := V_3.other W27 (Ne.symm ne_ob1_ob14)
              have V_c : Arx Z h27 ob1 .int [(.int (Int32.ofNat (cn ms (0 : Int32) iN))), (.int (Int32.ofNat (cn ms (1 : Int32) iN))), (.int ((Int32.ofNat (cn ms (2 : Int32) iN)) + (1 : Int32))), (.int (Int32.ofNat (cn ms (3 : Int32) iN)))] := V27
              have N27 := Fr.snoc X27 NL g_ob1
              refine own_go (fun _ => st27 _) ?_
              show GG _ _ _ _ _ _ _ T27 (mkF m 114 #[.val (.ref a1), .val (.int (4 : Int32)), .val (.ref ob1), .val (.ref ob4), .val (.int i), .val (.int (2 : Int32)), s6] [(.int (Int32.ofNat (cn ms (2 : Int32) iN))), (.ref ob11)])
              refine own_go (fun _ => XS.iload X27.here hx rfl (hb hby d2_114) rfl) ?_
              show GG _ _ _ _ _ _ _ T27 (mkF m 116 #[.val (.ref a1), .val (.int (4 : Int32)), .val (.ref ob1), .val (.ref ob4), .val (.int i), .val (.int (2 : Int32)), s6] [(.int i), (.int (Int32.ofNat (cn ms (2 : Int32) iN))), (.ref ob11)])
              obtain ⟨T28, h28, X28, e28, W28, V28, st28⟩ := own_iastore X27 hx hZ e27 V_2 (own_onn (by omega)) (by rw [List.length_map, R_2.1, own_ocl (by omega)]; exact hcl) (g := (mkF m 116 #[.val (.ref a1), .val (.int (4 : Int32)), .val (.ref ob1), .val (.ref ob4), .val (.int i), .val (.int (2 : Int32)), s6] [(.int i), (.int (Int32.ofNat (cn ms (2 : Int32) iN))), (.ref ob11)])) rfl rfl (hb hby d2_116)
              have V_m := V_m.other W28 ne_a1_ob11
              have V_c := V_c.other W28 ne_ob1_ob11
              have V_r := V_r.other W28 ne_ob4_ob11
              have K0 := K0.wr W28 (Or.inr sz_ob11)
              have V_0 := V_0.other W28 ne_ob5_ob11
              have V_1 := V_1.other W28 ne_ob8_ob11
              have V_3 := V_3.other W28 (Ne.symm ne_ob11_ob14)
              have V_2 : Arx Z h28 ob11 .int ((vs2.set (cn ms (2 : Int32) iN) i).map Value.int) := (own_rset (by omega) V28)
              have N28 := Fr.snoc X28 N27 g_ob11
              refine own_go (fun _ => st28 _) ?_
              show GG _ _ _ _ _ _ _ T28 (mkF m 117 #[.val (.ref a1), .val (.int (4 : Int32)), .val (.ref ob1), .val (.ref ob4), .val (.int i), .val (.int (2 : Int32)), s6] [])
              refine own_go (fun _ => XS.iinc X28.here hx rfl (hb hby d2_117) rfl (l' := #[.val (.ref a1), .val (.int (4 : Int32)), .val (.ref ob1), .val (.ref ob4), .val (.int (i + (1 : Int32))), .val (.int (2 : Int32)), s6]) rfl) ?_
              show GG _ _ _ _ _ _ _ T28 (mkF m 120 #[.val (.ref a1), .val (.int (4 : Int32)), .val (.ref ob1), .val (.ref ob4), .val (.int (i + (1 : Int32))), .val (.int (2 : Int32)), s6] [])
              have cx29 := c_iadd i (1 : Int32)
              simp only [show ((1 : Int32)).toInt = 1 from by decide] at cx29
              generalize hx29 : (i + (1 : Int32)) = x29 at cx29 ⊢
              have rx29 := rng32 x29
              have dx29 : x29.toInt = i.toInt + 1 := by omega
              clear cx29
              refine own_go (fun _ => XS.goto X28.here hx rfl (pc0 := 120) (pc' := 83) rfl (hb hby d2_120) (by decide) (by decide)) ?_
              show GG _ _ _ _ _ _ _ T28 (mkF m 83 #[.val (.ref a1), .val (.int (4 : Int32)), .val (.ref ob1), .val (.ref ob4), .val (.int x29), .val (.int (2 : Int32)), s6] [])
              have Vn : Arx Z h28 ob1 .int [(.int (Int32.ofNat (cn ms (0 : Int32) (iN + 1)))), (.int (Int32.ofNat (cn ms (1 : Int32) (iN + 1)))), (.int (Int32.ofNat (cn ms (2 : Int32) (iN + 1)))), (.int (Int32.ofNat (cn ms (3 : Int32) (iN + 1))))] := by rw [own_cn0 (0 : Int32) hy (by decide), own_cn0 (1 : Int32) hy (by decide), own_cn1 hy, own_cn0 (3 : Int32) hy (by decide)]; exact V_c
              exact ih (iN + 1) x29 (2 : Int32) _ _ _ _ T28 _ _ X28 e28 N28 (by omega) (by omega) V_m Vn V_r V_0 (R_0.skip hy (by decide)) V_1 (R_1.skip hy (by decide)) V_2 (by rw [hii]; exact R_2.put hy (by omega)) V_3 (R_3.skip hy (by decide)) K0
            by_cases e3 : y.toInt = 3
            · skip
              obtain rfl : y = (3 : Int32) := Int32.toInt_inj.mp (by rw [e3]; decide)
              show GG _ _ _ _ _ _ _ TL (mkF m 98 #[.val (.ref a1), .val (.int (4 : Int32)), .val (.ref ob1), .val (.ref ob4), .val (.int i), .val (.int (3 : Int32)), s6] [(.int (3 : Int32))])
              have hcl := cn_lt (j := ms.length) hy (by omega)
              have hc6 := cn_le ms (3 : Int32) ms.length
              have hc98 : ¬ ((3 : Int32) < (0 : Int32)) := by decide
              refine own_go (fun _ => XS.ifNo XL.here hx rfl (hb hby d2_98) rfl ((if0 _ _).trans (flt hc98).1)) ?_
              show GG _ _ _ _ _ _ _ TL (mkF m 101 #[.val (.ref a1), .val (.int (4 : Int32)), .val (.ref ob1), .val (.ref ob4), .val (.int i), .val (.int (3 : Int32)), s6] [])
              refine own_go (fun _ => XS.aloadN XL.here hx rfl (hb hby d2_101) rfl rfl) ?_
              show GG _ _ _ _ _ _ _ TL (mkF m 102 #[.val (.ref a1), .val (.int (4 : Int32)), .val (.ref ob1), .val (.ref ob4), .val (.int i), .val (.int (3 : Int32)), s6] [(.ref ob4)])
              refine own_go (fun _ => XS.iload XL.here hx rfl (hb hby d2_102) rfl) ?_
              show GG _ _ _ _ _ _ _ TL (mkF m 104 #[.val (.ref a1), .val (.int (4 : Int32)), .val (.ref ob1), .val (.ref ob4), .val (.int i), .val (.int (3 : Int32)), s6] [(.int (3 : Int32)), (.ref ob4)])
              refine own_go (fun _ => own_aaload XL hx hZ eL V_r rfl (j := (3 : Int32)) (v := (.ref ob14)) (by decide) rfl (g := (mkF m 104 #[.val (.ref a1), .val (.int (4 : Int32)), .val (.ref ob1), .val (.ref ob4), .val (.int i), .val (.int (3 : Int32)), s6] [(.int (3 : Int32)), (.ref ob4)])) rfl rfl (hb hby d2_104) _) ?_
              show GG _ _ _ _ _ _ _ TL (mkF m 105 #[.val (.ref a1), .val (.int (4 : Int32)), .val (.ref ob1), .val (.ref ob4), .val (.int i), .val (.int (3 : Int32)), s6] [(.ref ob14)])
              refine own_go (fun _ => XS.aloadN XL.here hx rfl (hb hby d2_105) rfl rfl) ?_
              show GG _ _ _ _ _ _ _ TL (mkF m 106 #[.val (.ref a1), .val (.int (4 : Int32)), .val (.ref ob1), .val (.ref ob4), .val (.int i), .val (.int (3 : Int32)), s6] [(.ref ob1), (.ref ob14)])
              refine own_go (fun _ => XS.iload XL.here hx rfl (hb hby d2_106) rfl) ?_
              show GG _ _ _ _ _ _ _ TL (mkF m 108 #[.val (.ref a1), .val (.int (4 : Int32)), .val (.ref ob1), .val (.ref ob4), .val (.int i), .val (.int (3 : Int32)), s6] [(.int (3 : Int32)), (.ref ob1), (.ref ob14)])
              refine own_go (fun _ => XT.dup2 XL.here hx rfl (hb hby d2_108) rfl rfl rfl) ?_
              show GG _ _ _ _ _ _ _ TL (mkF m 109 #[.val (.ref a1), .val (.int (4 : Int32)), .val (.ref ob1), .val (.ref ob4), .val (.int i), .val (.int (3 : Int32)), s6] [(.int (3 : Int32)), (.ref ob1), (.int (3 : Int32)), (.ref ob1), (.ref ob14)])
              refine own_go (fun _ => own_iaload XL hx hZ eL V_c (j := (3 : Int32)) (v := (.int (Int32.ofNat (cn ms (3 : Int32) iN)))) (by decide) rfl (g := (mkF m 109 #[.val (.ref a1), .val (.int (4 : Int32)), .val (.ref ob1), .val (.ref ob4), .val (.int i), .val (.int (3 : Int32)), s6] [(.int (3 : Int32)), (.ref ob1), (.int (3 : Int32)), (.ref ob1), (.ref ob14)])) rfl rfl (hb hby d2_109) _) ?_
              show GG _ _ _ _ _ _ _ TL (mkF m 110 #[.val (.ref a1), .val (.int (4 : Int32)), .val (.ref ob1), .val (.ref ob4), .val (.int i), .val (.int (3 : Int32)), s6] [(.int (Int32.ofNat (cn ms (3 : Int32) iN))), (.int (3 : Int32)), (.ref ob1), (.ref ob14)])
              refine own_go (fun _ => own_dupX2 XL.here hx rfl (hb hby d2_110) rfl rfl rfl rfl) ?_
              show GG _ _ _ _ _ _ _ TL (mkF m 111 #[.val (.ref a1), .val (.int (4 : Int32)), .val (.ref ob1), .val (.ref ob4), .val (.int i), .val (.int (3 : Int32)), s6] [(.int (Int32.ofNat (cn ms (3 : Int32) iN))), (.int (3 : Int32)), (.ref ob1), (.int (Int32.ofNat (cn ms (3 : Int32) iN))), (.ref ob14)])
              refine own_go (fun _ => XS.iconst XL.here hx rfl (hb hby d2_111)) ?_
              show GG _ _ _ _ _ _ _ TL (mkF m 112 #[.val (.ref a1), .val (.int (4 : Int32)), .val (.ref ob1), .val (.ref ob4), .val (.int i), .val (.int (3 : Int32)), s6] [(.int (1 : Int32)), (.int (Int32.ofNat (cn ms (3 : Int32) iN))), (.int (3 : Int32)), (.ref ob1), (.int (Int32.ofNat (cn ms (3 : Int32) iN))), (.ref ob14)])
              refine own_go (fun _ => XS.iadd XL.here hx rfl (hb hby d2_112) rfl) ?_
              show GG _ _ _ _ _ _ _ TL (mkF m 113 #[.val (.ref a1), .val (.int (4 : Int32)), .val (.ref ob1), .val (.ref ob4), .val (.int i), .val (.int (3 : Int32)), s6] [(.int ((Int32.ofNat (cn ms (3 : Int32) iN)) + (1 : Int32))), (.int (3 : Int32)), (.ref ob1), (.int (Int32.ofNat (cn ms (3 : Int32) iN))), (.ref ob14)])
              obtain ⟨T30, h30, X30, e30, W30, V30, st30⟩ := own_iastore XL hx hZ eL V_c (by decide) (Nat.le_of_ble_eq_true rfl) (g := (mkF m 113 #[.val (.ref a1), .val (.int (4 : Int32)), .val (.ref ob1), .val (.ref ob4), .val (.int i), .val (.int (3 : Int32)), s6] [(.int ((Int32.ofNat (cn ms (3 : Int32) iN)) + (1 : Int32))), (.int (3 : Int32)), (.ref ob1), (.int (Int32.ofNat (cn ms (3 : Int32) iN))), (.ref ob14)])) rfl rfl (hb hby d2_113)
              have V_m := V_m.other W30 ne_a1_ob1
              have V_r := V_r.other W30 (Ne.symm ne_ob1_ob4)
              have K0 := K0.wr W30 (Or.inr sz_ob1)
              have V_0 := V_0.other W30 (Ne.symm ne_ob1_ob5)
              have V_1 := V_1.other W30 (Ne.symm ne_ob1_ob8)
              have V_2 := V_2.other W30 (Ne.symm ne_ob1_ob11)
              have V_3 := V_3.other W30 (Ne.symm ne_ob1_ob14)
              have V_c : Arx Z h30 ob1 .int [(.int (Int32.ofNat (cn ms (0 : Int32) iN))), (.int (Int32.ofNat (cn ms (1 : Int32) iN))), (.int (Int32.ofNat (cn ms (2 : Int32) iN))), (.int ((Int32.ofNat (cn ms (3 : Int32) iN)) + (1 : Int32)))] := V30
              have N30 := Fr.snoc X30 NL g_ob1
              refine own_go (fun _ => st30 _) ?_
              show GG _ _ _ _ _ _ _ T30 (mkF m 114 #[.val (.ref a1), .val (.int (4 : Int32)), .val (.ref ob1), .val (.ref ob4), .val (.int i), .val (.int (3 : Int32)), s6] [(.int (Int32.ofNat (cn ms (3 : Int32) iN))), (.ref ob14)])
              refine own_go (fun _ => XS.iload X30.here hx rfl (hb hby d2_114) rfl) ?_
              show GG _ _ _ _ _ _ _ T30 (mkF m 116 #[.val (.ref a1), .val (.int (4 : Int32)), .val (.ref ob1), .val (.ref ob4), .val (.int i), .val (.int (3 : Int32)), s6] [(.int i), (.int (Int32.ofNat (cn ms (3 : Int32) iN))), (.ref ob14)])
              obtain ⟨T31, h31, X31, e31, W31, V31, st31⟩ := own_iastore X30 hx hZ e30 V_3 (own_onn (by omega)) (by rw [List.length_map, R_3.1, own_ocl (by omega)]; exact hcl) (g := (mkF m 116 #[.val (.ref a1), .val (.int (4 : Int32)), .val (.ref ob1), .val (.ref ob4), .val (.int i), .val (.int (3 : Int32)), s6] [(.int i), (.int (Int32.ofNat (cn ms (3 : Int32) iN))), (.ref ob14)])) rfl rfl (hb hby d2_116)
              have V_m := V_m.other W31 ne_a1_ob14
              have V_c := V_c.other W31 ne_ob1_ob14
              have V_r := V_r.other W31 ne_ob4_ob14
              have K0 := K0.wr W31 (Or.inr sz_ob14)
              have V_0 := V_0.other W31 ne_ob5_ob14
              have V_1 := V_1.other W31 ne_ob8_ob14
              have V_2 := V_2.other W31 ne_ob11_ob14
              have V_3 : Arx Z h31 ob14 .int ((vs3.set (cn ms (3 : Int32) iN) i).map Value.int) := (own_rset (by omega) V31)
              have N31 := Fr.snoc X31 N30 g_ob14
              refine own_go (fun _ => st31 _) ?_
              show GG _ _ _ _ _ _ _ T31 (mkF m 117 #[.val (.ref a1), .val (.int (4 : Int32)), .val (.ref ob1), .val (.ref ob4), .val (.int i), .val (.int (3 : Int32)), s6] [])
              refine own_go (fun _ => XS.iinc X31.here hx rfl (hb hby d2_117) rfl (l' := #[.val (.ref a1), .val (.int (4 : Int32)), .val (.ref ob1), .val (.ref ob4), .val (.int (i + (1 : Int32))), .val (.int (3 : Int32)), s6]) rfl) ?_
              show GG _ _ _ _ _ _ _ T31 (mkF m 120 #[.val (.ref a1), .val (.int (4 : Int32)), .val (.ref ob1), .val (.ref ob4), .val (.int (i + (1 : Int32))), .val (.int (3 : Int32)), s6] [])
              have cx32 := c_iadd i (1 : Int32)
              simp only [show ((1 : Int32)).toInt = 1 from by decide] at cx32
              generalize hx32 : (i + (1 : Int32)) = x32 at cx32 ⊢
              have rx32 := rng32 x32
              have dx32 : x32.toInt = i.toInt + 1 := by omega
              clear cx32
              refine own_go (fun _ => XS.goto X31.here hx rfl (pc0 := 120) (pc' := 83) rfl (hb hby d2_120) (by decide) (by decide)) ?_
              show GG _ _ _ _ _ _ _ T31 (mkF m 83 #[.val (.ref a1), .val (.int (4 : Int32)), .val (.ref ob1), .val (.ref ob4), .val (.int x32), .val (.int (3 : Int32)), s6] [])
              have Vn : Arx Z h31 ob1 .int [(.int (Int32.ofNat (cn ms (0 : Int32) (iN + 1)))), (.int (Int32.ofNat (cn ms (1 : Int32) (iN + 1)))), (.int (Int32.ofNat (cn ms (2 : Int32) (iN + 1)))), (.int (Int32.ofNat (cn ms (3 : Int32) (iN + 1))))] := by rw [own_cn0 (0 : Int32) hy (by decide), own_cn0 (1 : Int32) hy (by decide), own_cn0 (2 : Int32) hy (by decide), own_cn1 hy]; exact V_c
              exact ih (iN + 1) x32 (3 : Int32) _ _ _ _ T31 _ _ X31 e31 N31 (by omega) (by omega) V_m Vn V_r V_0 (R_0.skip hy (by decide)) V_1 (R_1.skip hy (by decide)) V_2 (R_2.skip hy (by decide)) V_3 (by rw [hii]; exact R_3.put hy (by omega)) K0
            exact absurd hyr (by omega)
      exact loop17 ms.length 0 (0 : Int32) i _ _ _ _ T16 h16 _ X16 e16 N16 (by decide) (by omega) V_m V_c V_r V_ob5 (Row.new _ _ _) V_ob8 (Row.new _ _ _) V_ob11 (Row.new _ _ _) V_ob14 (Row.new _ _ _) K0
    | succ k ih =>
      intro iN i s6 TL hL lL XL eL NL hi hk hs6 V_m V_c K0
      have ri := rng32 i
      obtain ⟨y, hy⟩ : ∃ y, ms[iN]? = some y := ⟨_, List.getElem?_eq_getElem (show iN < ms.length by omega)⟩
      have hyr := hG iN y hy
      show GG _ _ _ _ _ _ _ TL (mkF m 13 #[.val (.ref a1), .val (.int (4 : Int32)), .val (.ref ob1), .val (.ref a1), .val (.int y2), .val (.int i), s6] [])
      refine own_go (fun _ => XS.iload XL.here hx rfl (hb hby d2_13) rfl) ?_
      show GG _ _ _ _ _ _ _ TL (mkF m 15 #[.val (.ref a1), .val (.int (4 : Int32)), .val (.ref ob1), .val (.ref a1), .val (.int y2), .val (.int i), s6] [(.int i)])
      refine own_go (fun _ => XS.iload XL.here hx rfl (hb hby d2_15) rfl) ?_
      show GG _ _ _ _ _ _ _ TL (mkF m 17 #[.val (.ref a1), .val (.int (4 : Int32)), .val (.ref ob1), .val (.ref a1), .val (.int y2), .val (.int i), s6] [(.int y2), (.int i)])
      have hc17 : i < y2 := (Int32.lt_iff_toInt_lt.mpr ((by show (i.toInt < y2.toInt); omega : (i.toInt < y2.toInt))))
      refine own_go (fun _ => XS.icmpNo XL.here hx rfl (hb hby d2_17) rfl (tlt hc17).2.1) ?_
      show GG _ _ _ _ _ _ _ TL (mkF m 20 #[.val (.ref a1), .val (.int (4 : Int32)), .val (.ref ob1), .val (.ref a1), .val (.int y2), .val (.int i), s6] [])
      refine own_go (fun _ => XS.aloadN XL.here hx rfl (hb hby d2_20) rfl rfl) ?_
      show GG _ _ _ _ _ _ _ TL (mkF m 21 #[.val (.ref a1), .val (.int (4 : Int32)), .val (.ref ob1), .val (.ref a1), .val (.int y2), .val (.int i), s6] [(.ref a1)])
      refine own_go (fun _ => XS.iload XL.here hx rfl (hb hby d2_21) rfl) ?_
      show GG _ _ _ _ _ _ _ TL (mkF m 23 #[.val (.ref a1), .val (.int (4 : Int32)), .val (.ref ob1), .val (.ref a1), .val (.int y2), .val (.int i), s6] [(.int i), (.ref a1)])
      refine own_go (fun _ => own_iaload XL hx hZ eL V_m (j := i) (v := (.int y)) (own_nn (by omega)) (own_mget hi hy) (g := (mkF m 23 #[.val (.ref a1), .val (.int (4 : Int32)), .val (.ref ob1), .val (.ref a1), .val (.int y2), .val (.int i), s6] [(.int i), (.ref a1)])) rfl rfl (hb hby d2_23) _) ?_
      show GG _ _ _ _ _ _ _ TL (mkF m 24 #[.val (.ref a1), .val (.int (4 : Int32)), .val (.ref ob1), .val (.ref a1), .val (.int y2), .val (.int i), s6] [(.int y)])
      refine own_go (fun _ => XS.istore XL.here hx rfl (hb hby d2_24) rfl (l' := #[.val (.ref a1), .val (.int (4 : Int32)), .val (.ref ob1), .val (.ref a1), .val (.int y2), .val (.int i), .val (.int y)]) (XS.store1 (o := s6) rfl hs6 rfl)) ?_
      show GG _ _ _ _ _ _ _ TL (mkF m 26 #[.val (.ref a1), .val (.int (4 : Int32)), .val (.ref ob1), .val (.ref a1), .val (.int y2), .val (.int i), .val (.int y)] [])
      refine own_go (fun _ => XS.iload XL.here hx rfl (hb hby d2_26) rfl) ?_
      show GG _ _ _ _ _ _ _ TL (mkF m 28 #[.val (.ref a1), .val (.int (4 : Int32)), .val (.ref ob1), .val (.ref a1), .val (.int y2), .val (.int i), .val (.int y)] [(.int y)])
      by_cases hneg : y.toInt < 0
      · skip
        have hc28 : y < (0 : Int32) := (Int32.lt_iff_toInt_lt.mpr ((by show (y.toInt < 0); omega : (y.toInt < 0))))
        refine own_go (fun _ => XS.ifYes XL.here hx rfl (pc0 := 28) (pc' := 39) rfl (hb hby d2_28) rfl ((if0 _ _).trans (tlt hc28).1) (by decide) (by decide)) ?_
        show GG _ _ _ _ _ _ _ TL (mkF m 39 #[.val (.ref a1), .val (.int (4 : Int32)), .val (.ref ob1), .val (.ref a1), .val (.int y2), .val (.int i), .val (.int y)] [])
        have ri' := rng32 i
        refine own_go (fun _ => XS.iinc XL.here hx rfl (hb hby d2_39) rfl (l' := #[.val (.ref a1), .val (.int (4 : Int32)), .val (.ref ob1), .val (.ref a1), .val (.int y2), .val (.int (i + (1 : Int32))), .val (.int y)]) rfl) ?_
        show GG _ _ _ _ _ _ _ TL (mkF m 42 #[.val (.ref a1), .val (.int (4 : Int32)), .val (.ref ob1), .val (.ref a1), .val (.int y2), .val (.int (i + (1 : Int32))), .val (.int y)] [])
        have cx33 := c_iadd i (1 : Int32)
        simp only [show ((1 : Int32)).toInt = 1 from by decide] at cx33
        generalize hx33 : (i + (1 : Int32)) = x33 at cx33 ⊢
        have rx33 := rng32 x33
        have dx33 : x33.toInt = i.toInt + 1 := by omega
        clear cx33
        refine own_go (fun _ => XS.goto XL.here hx rfl (pc0 := 42) (pc' := 13) rfl (hb hby d2_42) (by decide) (by decide)) ?_
        show GG _ _ _ _ _ _ _ TL (mkF m 13 #[.val (.ref a1), .val (.int (4 : Int32)), .val (.ref ob1), .val (.ref a1), .val (.int y2), .val (.int x33), .val (.int y)] [])
        have Vn : Arx Z hL ob1 .int [(.int (Int32.ofNat (cn ms (0 : Int32) (iN + 1)))), (.int (Int32.ofNat (cn ms (1 : Int32) (iN + 1)))), (.int (Int32.ofNat (cn ms (2 : Int32) (iN + 1)))), (.int (Int32.ofNat (cn ms (3 : Int32) (iN + 1))))] := by rw [own_cn0 (0 : Int32) hy (fun q => by rw [q] at hneg; exact absurd hneg (by decide)), own_cn0 (1 : Int32) hy (fun q => by rw [q] at hneg; exact absurd hneg (by decide)), own_cn0 (2 : Int32) hy (fun q => by rw [q] at hneg; exact absurd hneg (by decide)), own_cn0 (3 : Int32) hy (fun q => by rw [q] at hneg; exact absurd hneg (by decide))]; exact V_c
        exact ih (iN + 1) x33 (.val (.int y)) TL _ _ XL eL NL (by omega) (by omega) (Or.inr ⟨_, rfl, rfl⟩) V_m Vn K0
      · skip
        by_cases e0 : y.toInt = 0
        · skip
          obtain rfl : y = (0 : Int32) := Int32.toInt_inj.mp (by rw [e0]; decide)
          show GG _ _ _ _ _ _ _ TL (mkF m 28 #[.val (.ref a1), .val (.int (4 : Int32)), .val (.ref ob1), .val (.ref a1), .val (.int y2), .val (.int i), .val (.int (0 : Int32))] [(.int (0 : Int32))])
          have hc28 : ¬ ((0 : Int32) < (0 : Int32)) := by decide
          refine own_go (fun _ => XS.ifNo XL.here hx rfl (hb hby d2_28) rfl ((if0 _ _).trans (flt hc28).1)) ?_
          show GG _ _ _ _ _ _ _ TL (mkF m 31 #[.val (.ref a1), .val (.int (4 : Int32)), .val (.ref ob1), .val (.ref a1), .val (.int y2), .val (.int i), .val (.int (0 : Int32))] [])
          refine own_go (fun _ => XS.aloadN XL.here hx rfl (hb hby d2_31) rfl rfl) ?_
          show GG _ _ _ _ _ _ _ TL (mkF m 32 #[.val (.ref a1), .val (.int (4 : Int32)), .val (.ref ob1), .val (.ref a1), .val (.int y2), .val (.int i), .val (.int (0 : Int32))] [(.ref ob1)])
          refine own_go (fun _ => XS.iload XL.here hx rfl (hb hby d2_32) rfl) ?_
          show GG _ _ _ _ _ _ _ TL (mkF m 34 #[.val (.ref a1), .val (.int (4 : Int32)), .val (.ref ob1), .val (.ref a1), .val (.int y2), .val (.int i), .val (.int (0 : Int32))] [(.int (0 : Int32)), (.ref ob1)])
          refine own_go (fun _ => XT.dup2 XL.here hx rfl (hb hby d2_34) rfl rfl rfl) ?_
          show GG _ _ _ _ _ _ _ TL (mkF m 35 #[.val (.ref a1), .val (.int (4 : Int32)), .val (.ref ob1), .val (.ref a1), .val (.int y2), .val (.int i), .val (.int (0 : Int32))] [(.int (0 : Int32)), (.ref ob1), (.int (0 : Int32)), (.ref ob1)])
          refine own_go (fun _ => own_iaload XL hx hZ eL V_c (j := (0 : Int32)) (v := (.int (Int32.ofNat (cn ms (0 : Int32) iN)))) (by decide) rfl (g := (mkF m 35 #[.val (.ref a1), .val (.int (4 : Int32)), .val (.ref ob1), .val (.ref a1), .val (.int y2), .val (.int i), .val (.int (0 : Int32))] [(.int (0 : Int32)), (.ref ob1), (.int (0 : Int32)), (.ref ob1)])) rfl rfl (hb hby d2_35) _) ?_
          show GG _ _ _ _ _ _ _ TL (mkF m 36 #[.val (.ref a1), .val (.int (4 : Int32)), .val (.ref ob1), .val (.ref a1), .val (.int y2), .val (.int i), .val (.int (0 : Int32))] [(.int (Int32.ofNat (cn ms (0 : Int32) iN))), (.int (0 : Int32)), (.ref ob1)])
          refine own_go (fun _ => XS.iconst XL.here hx rfl (hb hby d2_36)) ?_
          show GG _ _ _ _ _ _ _ TL (mkF m 37 #[.val (.ref a1), .val (.int (4 : Int32)), .val (.ref ob1), .val (.ref a1), .val (.int y2), .val (.int i), .val (.int (0 : Int32))] [(.int (1 : Int32)), (.int (Int32.ofNat (cn ms (0 : Int32) iN))), (.int (0 : Int32)), (.ref ob1)])
          refine own_go (fun _ => XS.iadd XL.here hx rfl (hb hby d2_37) rfl) ?_
          show GG _ _ _ _ _ _ _ TL (mkF m 38 #[.val (.ref a1), .val (.int (4 : Int32)), .val (.ref ob1), .val (.ref a1), .val (.int y2), .val (.int i), .val (.int (0 : Int32))] [(.int ((Int32.ofNat (cn ms (0 : Int32) iN)) + (1 : Int32))), (.int (0 : Int32)), (.ref ob1)])
          obtain ⟨T34, h34, X34, e34, W34, V34, st34⟩ := own_iastore XL hx hZ eL V_c (by decide) (Nat.le_of_ble_eq_true rfl) (g := (mkF m 38 #[.val (.ref a1), .val (.int (4 : Int32)), .val (.ref ob1), .val (.ref a1), .val (.int y2), .val (.int i), .val (.int (0 : Int32))] [(.int ((Int32.ofNat (cn ms (0 : Int32) iN)) + (1 : Int32))), (.int (0 : Int32)), (.ref ob1)])) rfl rfl (hb hby d2_38)
          have V_m := V_m.other W34 ne_a1_ob1
          have K0 := K0.wr W34 (Or.inr sz_ob1)
          have V_c : Arx Z h34 ob1 .int [(.int ((Int32.ofNat (cn ms (0 : Int32) iN)) + (1 : Int32))), (.int (Int32.ofNat (cn ms (1 : Int32) iN))), (.int (Int32.ofNat (cn ms (2 : Int32) iN))), (.int (Int32.ofNat (cn ms (3 : Int32) iN)))] := V34
          have N34 := Fr.snoc X34 NL g_ob1
          refine own_go (fun _ => st34 _) ?_
          show GG _ _ _ _ _ _ _ T34 (mkF m 39 #[.val (.ref a1), .val (.int (4 : Int32)), .val (.ref ob1), .val (.ref a1), .val (.int y2), .val (.int i), .val (.int (0 : Int32))] [])
          have ri' := rng32 i
          refine own_go (fun _ => XS.iinc X34.here hx rfl (hb hby d2_39) rfl (l' := #[.val (.ref a1), .val (.int (4 : Int32)), .val (.ref ob1), .val (.ref a1), .val (.int y2), .val (.int (i + (1 : Int32))), .val (.int (0 : Int32))]) rfl) ?_
          show GG _ _ _ _ _ _ _ T34 (mkF m 42 #[.val (.ref a1), .val (.int (4 : Int32)), .val (.ref ob1), .val (.ref a1), .val (.int y2), .val (.int (i + (1 : Int32))), .val (.int (0 : Int32))] [])
          have cx35 := c_iadd i (1 : Int32)
          simp only [show ((1 : Int32)).toInt = 1 from by decide] at cx35
          generalize hx35 : (i + (1 : Int32)) = x35 at cx35 ⊢
          have rx35 := rng32 x35
          have dx35 : x35.toInt = i.toInt + 1 := by omega
          clear cx35
          refine own_go (fun _ => XS.goto X34.here hx rfl (pc0 := 42) (pc' := 13) rfl (hb hby d2_42) (by decide) (by decide)) ?_
          show GG _ _ _ _ _ _ _ T34 (mkF m 13 #[.val (.ref a1), .val (.int (4 : Int32)), .val (.ref ob1), .val (.ref a1), .val (.int y2), .val (.int x35), .val (.int (0 : Int32))] [])
          have Vn : Arx Z h34 ob1 .int [(.int (Int32.ofNat (cn ms (0 : Int32) (iN + 1)))), (.int (Int32.ofNat (cn ms (1 : Int32) (iN + 1)))), (.int (Int32.ofNat (cn ms (2 : Int32) (iN + 1)))), (.int (Int32.ofNat (cn ms (3 : Int32) (iN + 1))))] := by rw [own_cn1 hy, own_cn0 (1 : Int32) hy (by decide), own_cn0 (2 : Int32) hy (by decide), own_cn0 (3 : Int32) hy (by decide)]; exact V_c
          exact ih (iN + 1) x35 (.val (.int (0 : Int32))) T34 _ _ X34 e34 N34 (by omega) (by omega) (Or.inr ⟨_, rfl, rfl⟩) V_m Vn K0
        by_cases e1 : y.toInt = 1
        · skip
          obtain rfl : y = (1 : Int32) := Int32.toInt_inj.mp (by rw [e1]; decide)
          show GG _ _ _ _ _ _ _ TL (mkF m 28 #[.val (.ref a1), .val (.int (4 : Int32)), .val (.ref ob1), .val (.ref a1), .val (.int y2), .val (.int i), .val (.int (1 : Int32))] [(.int (1 : Int32))])
          have hc28 : ¬ ((1 : Int32) < (0 : Int32)) := by decide
          refine own_go (fun _ => XS.ifNo XL.here hx rfl (hb hby d2_28) rfl ((if0 _ _).trans (flt hc28).1)) ?_
          show GG _ _ _ _ _ _ _ TL (mkF m 31 #[.val (.ref a1), .val (.int (4 : Int32)), .val (.ref ob1), .val (.ref a1), .val (.int y2), .val (.int i), .val (.int (1 : Int32))] [])
          refine own_go (fun _ => XS.aloadN XL.here hx rfl (hb hby d2_31) rfl rfl) ?_
          show GG _ _ _ _ _ _ _ TL (mkF m 32 #[.val (.ref a1), .val (.int (4 : Int32)), .val (.ref ob1), .val (.ref a1), .val (.int y2), .val (.int i), .val (.int (1 : Int32))] [(.ref ob1)])
          refine own_go (fun _ => XS.iload XL.here hx rfl (hb hby d2_32) rfl) ?_
          show GG _ _ _ _ _ _ _ TL (mkF m 34 #[.val (.ref a1), .val (.int (4 : Int32)), .val (.ref ob1), .val (.ref a1), .val (.int y2), .val (.int i), .val (.int (1 : Int32))] [(.int (1 : Int32)), (.ref ob1)])
          refine own_go (fun _ => XT.dup2 XL.here hx rfl (hb hby d2_34) rfl rfl rfl) ?_
          show GG _ _ _ _ _ _ _ TL (mkF m 35 #[.val (.ref a1), .val (.int (4 : Int32)), .val (.ref ob1), .val (.ref a1), .val (.int y2), .val (.int i), .val (.int (1 : Int32))] [(.int (1 : Int32)), (.ref ob1), (.int (1 : Int32)), (.ref ob1)])
          refine own_go (fun _ => own_iaload XL hx hZ eL V_c (j := (1 : Int32)) (v := (.int (Int32.ofNat (cn ms (1 : Int32) iN)))) (by decide) rfl (g := (mkF m 35 #[.val (.ref a1), .val (.int (4 : Int32)), .val (.ref ob1), .val (.ref a1), .val (.int y2), .val (.int i), .val (.int (1 : Int32))] [(.int (1 : Int32)), (.ref ob1), (.int (1 : Int32)), (.ref ob1)])) rfl rfl (hb hby d2_35) _) ?_
          show GG _ _ _ _ _ _ _ TL (mkF m 36 #[.val (.ref a1), .val (.int (4 : Int32)), .val (.ref ob1), .val (.ref a1), .val (.int y2), .val (.int i), .val (.int (1 : Int32))] [(.int (Int32.ofNat (cn ms (1 : Int32) iN))), (.int (1 : Int32)), (.ref ob1)])
          refine own_go (fun _ => XS.iconst XL.here hx rfl (hb hby d2_36)) ?_
          show GG _ _ _ _ _ _ _ TL (mkF m 37 #[.val (.ref a1), .val (.int (4 : Int32)), .val (.ref ob1), .val (.ref a1), .val (.int y2), .val (.int i), .val (.int (1 : Int32))] [(.int (1 : Int32)), (.int (Int32.ofNat (cn ms (1 : Int32) iN))), (.int (1 : Int32)), (.ref ob1)])
          refine own_go (fun _ => XS.iadd XL.here hx rfl (hb hby d2_37) rfl) ?_
          show GG _ _ _ _ _ _ _ TL (mkF m 38 #[.val (.ref a1), .val (.int (4 : Int32)), .val (.ref ob1), .val (.ref a1), .val (.int y2), .val (.int i), .val (.int (1 : Int32))] [(.int ((Int32.ofNat (cn ms (1 : Int32) iN)) + (1 : Int32))), (.int (1 : Int32)), (.ref ob1)])
          obtain ⟨T36, h36, X36, e36, W36, V36, st36⟩ := own_iastore XL hx hZ eL V_c (by decide) (Nat.le_of_ble_eq_true rfl) (g := (mkF m 38 #[.val (.ref a1), .val (.int (4 : Int32)), .val (.ref ob1), .val (.ref a1), .val (.int y2), .val (.int i), .val (.int (1 : Int32))] [(.int ((Int32.ofNat (cn ms (1 : Int32) iN)) + (1 : Int32))), (.int (1 : Int32)), (.ref ob1)])) rfl rfl (hb hby d2_38)
          have V_m := V_m.other W36 ne_a1_ob1
          have K0 := K0.wr W36 (Or.inr sz_ob1)
          have V_c : Arx Z h36 ob1 .int [(.int (Int32.ofNat (cn ms (0 : Int32) iN))), (.int ((Int32.ofNat (cn ms (1 : Int32) iN)) + (1 : Int32))), (.int (Int32.ofNat (cn ms (2 : Int32) iN))), (.int (Int32.ofNat (cn ms (3 : Int32) iN)))] := V36
          have N36 := Fr.snoc X36 NL g_ob1
          refine own_go (fun _ => st36 _) ?_
          show GG _ _ _ _ _ _ _ T36 (mkF m 39 #[.val (.ref a1), .val (.int (4 : Int32)), .val (.ref ob1), .val (.ref a1), .val (.int y2), .val (.int i), .val (.int (1 : Int32))] [])
          have ri' := rng32 i
          refine own_go (fun _ => XS.iinc X36.here hx rfl (hb hby d2_39) rfl (l' := #[.val (.ref a1), .val (.int (4 : Int32)), .val (.ref ob1), .val (.ref a1), .val (.int y2), .val (.int (i + (1 : Int32))), .val (.int (1 : Int32))]) rfl) ?_
          show GG _ _ _ _ _ _ _ T36 (mkF m 42 #[.val (.ref a1), .val (.int (4 : Int32)), .val (.ref ob1), .val (.ref a1), .val (.int y2), .val (.int (i + (1 : Int32))), .val (.int (1 : Int32))] [])
          have cx37 := c_iadd i (1 : Int32)
          simp only [show ((1 : Int32)).toInt = 1 from by decide] at cx37
          generalize hx37 : (i + (1 : Int32)) = x37 at cx37 ⊢
          have rx37 := rng32 x37
          have dx37 : x37.toInt = i.toInt + 1 := by omega
          clear cx37
          refine own_go (fun _ => XS.goto X36.here hx rfl (pc0 := 42) (pc' := 13) rfl (hb hby d2_42) (by decide) (by decide)) ?_
          show GG _ _ _ _ _ _ _ T36 (mkF m 13 #[.val (.ref a1), .val (.int (4 : Int32)), .val (.ref ob1), .val (.ref a1), .val (.int y2), .val (.int x37), .val (.int (1 : Int32))] [])
          have Vn : Arx Z h36 ob1 .int [(.int (Int32.ofNat (cn ms (0 : Int32) (iN + 1)))), (.int (Int32.ofNat (cn ms (1 : Int32) (iN + 1)))), (.int (Int32.ofNat (cn ms (2 : Int32) (iN + 1)))), (.int (Int32.ofNat (cn ms (3 : Int32) (iN + 1))))] := by rw [own_cn0 (0 : Int32) hy (by decide), own_cn1 hy, own_cn0 (2 : Int32) hy (by decide), own_cn0 (3 : Int32) hy (by decide)]; exact V_c
          exact ih (iN + 1) x37 (.val (.int (1 : Int32))) T36 _ _ X36 e36 N36 (by omega) (by omega) (Or.inr ⟨_, rfl, rfl⟩) V_m Vn K0
        by_cases e2 : y.toInt = 2
        · skip
          obtain rfl : y = (2 : Int32) := Int32.toInt_inj.mp (by rw [e2]; decide)
          show GG _ _ _ _ _ _ _ TL (mkF m 28 #[.val (.ref a1), .val (.int (4 : Int32)), .val (.ref ob1), .val (.ref a1), .val (.int y2), .val (.int i), .val (.int (2 : Int32))] [(.int (2 : Int32))])
          have hc28 : ¬ ((2 : Int32) < (0 : Int32)) := by decide
          refine own_go (fun _ => XS.ifNo XL.here hx rfl (hb hby d2_28) rfl ((if0 _ _).trans (flt hc28).1)) ?_
          show GG _ _ _ _ _ _ _ TL (mkF m 31 #[.val (.ref a1), .val (.int (4 : Int32)), .val (.ref ob1), .val (.ref a1), .val (.int y2), .val (.int i), .val (.int (2 : Int32))] [])
          refine own_go (fun _ => XS.aloadN XL.here hx rfl (hb hby d2_31) rfl rfl) ?_
          show GG _ _ _ _ _ _ _ TL (mkF m 32 #[.val (.ref a1), .val (.int (4 : Int32)), .val (.ref ob1), .val (.ref a1), .val (.int y2), .val (.int i), .val (.int (2 : Int32))] [(.ref ob1)])
          refine own_go (fun _ => XS.iload XL.here hx rfl (hb hby d2_32) rfl) ?_
          show GG _ _ _ _ _ _ _ TL (mkF m 34 #[.val (.ref a1), .val (.int (4 : Int32)), .val (.ref ob1), .val (.ref a1), .val (.int y2), .val (.int i), .val (.int (2 : Int32))] [(.int (2 : Int32)), (.ref ob1)])
          refine own_go (fun _ => XT.dup2 XL.here hx rfl (hb hby d2_34) rfl rfl rfl) ?_
          show GG _ _ _ _ _ _ _ TL (mkF m 35 #[.val (.ref a1), .val (.int (4 : Int32)), .val (.ref ob1), .val (.ref a1), .val (.int y2), .val (.int i), .val (.int (2 : Int32))] [(.int (2 : Int32)), (.ref ob1), (.int (2 : Int32)), (.ref ob1)])
          refine own_go (fun _ => own_iaload XL hx hZ eL V_c (j := (2 : Int32)) (v := (.int (Int32.ofNat (cn ms (2 : Int32) iN)))) (by decide) rfl (g := (mkF m 35 #[.val (.ref a1), .val (.int (4 : Int32)), .val (.ref ob1), .val (.ref a1), .val (.int y2), .val (.int i), .val (.int (2 : Int32))] [(.int (2 : Int32)), (.ref ob1), (.int (2 : Int32)), (.ref ob1)])) rfl rfl (hb hby d2_35) _) ?_
          show GG _ _ _ _ _ _ _ TL (mkF m 36 #[.val (.ref a1), .val (.int (4 : Int32)), .val (.ref ob1), .val (.ref a1), .val (.int y2), .val (.int i), .val (.int (2 : Int32))] [(.int (Int32.ofNat (cn ms (2 : Int32) iN))), (.int (2 : Int32)), (.ref ob1)])
          refine own_go (fun _ => XS.iconst XL.here hx rfl (hb hby d2_36)) ?_
          show GG _ _ _ _ _ _ _ TL (mkF m 37 #[.val (.ref a1), .val (.int (4 : Int32)), .val (.ref ob1), .val (.ref a1), .val (.int y2), .val (.int i), .val (.int (2 : Int32))] [(.int (1 : Int32)), (.int (Int32.ofNat (cn ms (2 : Int32) iN))), (.int (2 : Int32)), (.ref ob1)])
          refine own_go (fun _ => XS.iadd XL.here hx rfl (hb hby d2_37) rfl) ?_
          show GG _ _ _ _ _ _ _ TL (mkF m 38 #[.val (.ref a1), .val (.int (4 : Int32)), .val (.ref ob1), .val (.ref a1), .val (.int y2), .val (.int i), .val (.int (2 : Int32))] [(.int ((Int32.ofNat (cn ms (2 : Int32) iN)) + (1 : Int32))), (.int (2 : Int32)), (.ref ob1)])
          obtain ⟨T38, h38, X38, e38, W38, V38, st38⟩ := own_iastore XL hx hZ eL V_c (by decide) (Nat.le_of_ble_eq_true rfl) (g := (mkF m 38 #[.val (.ref a1), .val (.int (4 : Int32)), .val (.ref ob1), .val (.ref a1), .val (.int y2), .val (.int i), .val (.int (2 : Int32))] [(.int ((Int32.ofNat (cn ms (2 : Int32) iN)) + (1 : Int32))), (.int (2 : Int32)), (.ref ob1)])) rfl rfl (hb hby d2_38)
          have V_m := V_m.other W38 ne_a1_ob1
          have K0 := K0.wr W38 (Or.inr sz_ob1)
          have V_c : Arx Z h38 ob1 .int [(.int (Int32.ofNat (cn ms (0 : Int32) iN))), (.int (Int32.ofNat (cn ms (1 : Int32) iN))), (.int ((Int32.ofNat (cn ms (2 : Int32) iN)) + (1 : Int32))), (.int (Int32.ofNat (cn ms (3 : Int32) iN)))] := V38
          have N38 := Fr.snoc X38 NL g_ob1
          refine own_go (fun _ => st38 _) ?_
          show GG _ _ _ _ _ _ _ T38 (mkF m 39 #[.val (.ref a1), .val (.int (4 : Int32)), .val (.ref ob1), .val (.ref a1), .val (.int y2), .val (.int i), .val (.int (2 : Int32))] [])
          have ri' := rng32 i
          refine own_go (fun _ => XS.iinc X38.here hx rfl (hb hby d2_39) rfl (l' := #[.val (.ref a1), .val (.int (4 : Int32)), .val (.ref ob1), .val (.ref a1), .val (.int y2), .val (.int (i + (1 : Int32))), .val (.int (2 : Int32))]) rfl) ?_
          show GG _ _ _ _ _ _ _ T38 (mkF m 42 #[.val (.ref a1), .val (.int (4 : Int32)), .val (.ref ob1), .val (.ref a1), .val (.int y2), .val (.int (i + (1 : Int32))), .val (.int (2 : Int32))] [])
          have cx39 := c_iadd i (1 : Int32)
          simp only [show ((1 : Int32)).toInt = 1 from by decide] at cx39
          generalize hx39 : (i + (1 : Int32)) = x39 at cx39 ⊢
          have rx39 := rng32 x39
          have dx39 : x39.toInt = i.toInt + 1 := by omega
          clear cx39
          refine own_go (fun _ => XS.goto X38.here hx rfl (pc0 := 42) (pc' := 13) rfl (hb hby d2_42) (by decide) (by decide)) ?_
          show GG _ _ _ _ _ _ _ T38 (mkF m 13 #[.val (.ref a1), .val (.int (4 : Int32)), .val (.ref ob1), .val (.ref a1), .val (.int y2), .val (.int x39), .val (.int (2 : Int32))] [])
          have Vn : Arx Z h38 ob1 .int [(.int (Int32.ofNat (cn ms (0 : Int32) (iN + 1)))), (.int (Int32.ofNat (cn ms (1 : Int32) (iN + 1)))), (.int (Int32.ofNat (cn ms (2 : Int32) (iN + 1)))), (.int (Int32.ofNat (cn ms (3 : Int32) (iN + 1))))] := by rw [own_cn0 (0 : Int32) hy (by decide), own_cn0 (1 : Int32) hy (by decide), own_cn1 hy, own_cn0 (3 : Int32) hy (by decide)]; exact V_c
          exact ih (iN + 1) x39 (.val (.int (2 : Int32))) T38 _ _ X38 e38 N38 (by omega) (by omega) (Or.inr ⟨_, rfl, rfl⟩) V_m Vn K0
        by_cases e3 : y.toInt = 3
        · skip
          obtain rfl : y = (3 : Int32) := Int32.toInt_inj.mp (by rw [e3]; decide)
          show GG _ _ _ _ _ _ _ TL (mkF m 28 #[.val (.ref a1), .val (.int (4 : Int32)), .val (.ref ob1), .val (.ref a1), .val (.int y2), .val (.int i), .val (.int (3 : Int32))] [(.int (3 : Int32))])
          have hc28 : ¬ ((3 : Int32) < (0 : Int32)) := by decide
          refine own_go (fun _ => XS.ifNo XL.here hx rfl (hb hby d2_28) rfl ((if0 _ _).trans (flt hc28).1)) ?_
          show GG _ _ _ _ _ _ _ TL (mkF m 31 #[.val (.ref a1), .val (.int (4 : Int32)), .val (.ref ob1), .val (.ref a1), .val (.int y2), .val (.int i), .val (.int (3 : Int32))] [])
          refine own_go (fun _ => XS.aloadN XL.here hx rfl (hb hby d2_31) rfl rfl) ?_
          show GG _ _ _ _ _ _ _ TL (mkF m 32 #[.val (.ref a1), .val (.int (4 : Int32)), .val (.ref ob1), .val (.ref a1), .val (.int y2), .val (.int i), .val (.int (3 : Int32))] [(.ref ob1)])
          refine own_go (fun _ => XS.iload XL.here hx rfl (hb hby d2_32) rfl) ?_
          show GG _ _ _ _ _ _ _ TL (mkF m 34 #[.val (.ref a1), .val (.int (4 : Int32)), .val (.ref ob1), .val (.ref a1), .val (.int y2), .val (.int i), .val (.int (3 : Int32))] [(.int (3 : Int32)), (.ref ob1)])
          refine own_go (fun _ => XT.dup2 XL.here hx rfl (hb hby d2_34) rfl rfl rfl) ?_
          show GG _ _ _ _ _ _ _ TL (mkF m 35 #[.val (.ref a1), .val (.int (4 : Int32)), .val (.ref ob1), .val (.ref a1), .val (.int y2), .val (.int i), .val (.int (3 : Int32))] [(.int (3 : Int32)), (.ref ob1), (.int (3 : Int32)), (.ref ob1)])
          refine own_go (fun _ => own_iaload XL hx hZ eL V_c (j := (3 : Int32)) (v := (.int (Int32.ofNat (cn ms (3 : Int32) iN)))) (by decide) rfl (g := (mkF m 35 #[.val (.ref a1), .val (.int (4 : Int32)), .val (.ref ob1), .val (.ref a1), .val (.int y2), .val (.int i), .val (.int (3 : Int32))] [(.int (3 : Int32)), (.ref ob1), (.int (3 : Int32)), (.ref ob1)])) rfl rfl (hb hby d2_35) _) ?_
          show GG _ _ _ _ _ _ _ TL (mkF m 36 #[.val (.ref a1), .val (.int (4 : Int32)), .val (.ref ob1), .val (.ref a1), .val (.int y2), .val (.int i), .val (.int (3 : Int32))] [(.int (Int32.ofNat (cn ms (3 : Int32) iN))), (.int (3 : Int32)), (.ref ob1)])
          refine own_go (fun _ => XS.iconst XL.here hx rfl (hb hby d2_36)) ?_
          show GG _ _ _ _ _ _ _ TL (mkF m 37 #[.val (.ref a1), .val (.int (4 : Int32)), .val (.ref ob1), .val (.ref a1), .val (.int y2), .val (.int i), .val (.int (3 : Int32))] [(.int (1 : Int32)), (.int (Int32.ofNat (cn ms (3 : Int32) iN))), (.int (3 : Int32)), (.ref ob1)])
          refine own_go (fun _ => XS.iadd XL.here hx rfl (hb hby d2_37) rfl) ?_
          show GG _ _ _ _ _ _ _ TL (mkF m 38 #[.val (.ref a1), .val (.int (4 : Int32)), .val (.ref ob1), .val (.ref a1), .val (.int y2), .val (.int i), .val (.int (3 : Int32))] [(.int ((Int32.ofNat (cn ms (3 : Int32) iN)) + (1 : Int32))), (.int (3 : Int32)), (.ref ob1)])
          obtain ⟨T40, h40, X40, e40, W40, V40, st40⟩ := own_iastore XL hx hZ eL V_c (by decide) (Nat.le_of_ble_eq_true rfl) (g := (mkF m 38 #[.val (.ref a1), .val (.int (4 : Int32)), .val (.ref ob1), .val (.ref a1), .val (.int y2), .val (.int i), .val (.int (3 : Int32))] [(.int ((Int32.ofNat (cn ms (3 : Int32) iN)) + (1 : Int32))), (.int (3 : Int32)), (.ref ob1)])) rfl rfl (hb hby d2_38)
          have V_m := V_m.other W40 ne_a1_ob1
          have K0 := K0.wr W40 (Or.inr sz_ob1)
          have V_c : Arx Z h40 ob1 .int [(.int (Int32.ofNat (cn ms (0 : Int32) iN))), (.int (Int32.ofNat (cn ms (1 : Int32) iN))), (.int (Int32.ofNat (cn ms (2 : Int32) iN))), (.int ((Int32.ofNat (cn ms (3 : Int32) iN)) + (1 : Int32)))] := V40
          have N40 := Fr.snoc X40 NL g_ob1
          refine own_go (fun _ => st40 _) ?_
          show GG _ _ _ _ _ _ _ T40 (mkF m 39 #[.val (.ref a1), .val (.int (4 : Int32)), .val (.ref ob1), .val (.ref a1), .val (.int y2), .val (.int i), .val (.int (3 : Int32))] [])
          have ri' := rng32 i
          refine own_go (fun _ => XS.iinc X40.here hx rfl (hb hby d2_39) rfl (l' := #[.val (.ref a1), .val (.int (4 : Int32)), .val (.ref ob1), .val (.ref a1), .val (.int y2), .val (.int (i + (1 : Int32))), .val (.int (3 : Int32))]) rfl) ?_
          show GG _ _ _ _ _ _ _ T40 (mkF m 42 #[.val (.ref a1), .val (.int (4 : Int32)), .val (.ref ob1), .val (.ref a1), .val (.int y2), .val (.int (i + (1 : Int32))), .val (.int (3 : Int32))] [])
          have cx41 := c_iadd i (1 : Int32)
          simp only [show ((1 : Int32)).toInt = 1 from by decide] at cx41
          generalize hx41 : (i + (1 : Int32)) = x41 at cx41 ⊢
          have rx41 := rng32 x41
          have dx41 : x41.toInt = i.toInt + 1 := by omega
          clear cx41
          refine own_go (fun _ => XS.goto X40.here hx rfl (pc0 := 42) (pc' := 13) rfl (hb hby d2_42) (by decide) (by decide)) ?_
          show GG _ _ _ _ _ _ _ T40 (mkF m 13 #[.val (.ref a1), .val (.int (4 : Int32)), .val (.ref ob1), .val (.ref a1), .val (.int y2), .val (.int x41), .val (.int (3 : Int32))] [])
          have Vn : Arx Z h40 ob1 .int [(.int (Int32.ofNat (cn ms (0 : Int32) (iN + 1)))), (.int (Int32.ofNat (cn ms (1 : Int32) (iN + 1)))), (.int (Int32.ofNat (cn ms (2 : Int32) (iN + 1)))), (.int (Int32.ofNat (cn ms (3 : Int32) (iN + 1))))] := by rw [own_cn0 (0 : Int32) hy (by decide), own_cn0 (1 : Int32) hy (by decide), own_cn0 (2 : Int32) hy (by decide), own_cn1 hy]; exact V_c
          exact ih (iN + 1) x41 (.val (.int (3 : Int32))) T40 _ _ X40 e40 N40 (by omega) (by omega) (Or.inr ⟨_, rfl, rfl⟩) V_m Vn K0
        exact absurd hyr (by omega)
  exact loop3 ms.length 0 (0 : Int32) .unset T1 h1 _ X1 e1 N0 (by decide) (by omega) (Or.inl rfl) V_m V_ob1 K0
def Q2 (Z : State) (a1 : Addr) (p2 : Int32) (ms : List Int32) (kN : Nat) (h0 : Heap) (n0 : Nat) (v : Option Value) (h : Heap) (L : List Loc) : Prop := ∃ b rs, v = some (.ref b) ∧ Fr n0 L ∧ Keep h0 h [] ∧ Arx Z h b (.array .int) (rs.map Value.ref) ∧ rs.length = kN ∧ Rows Z h ms rs
theorem rm2 (l : Launch) (Z : State) (a0 : Array Value) (hw : ∀ d ∈ tables_1, d.before a0 Z = true) (ws : List Jvm.Cond) (a1 : Addr) (p2 : Int32) (ms : List Int32) (kN : Nat) (h0 : Heap) (n0 : Nat) (Z0 : n0 ≤ h0.size) (V_m : Arx Z h0 a1 .int (ms.map Value.int)) (hn6 : ms.length ≤ 6) (hG : ∀ (j : Nat) (y : Int32), ms[j]? = some y → -1 ≤ y.toInt ∧ y.toInt < kN) (hk : p2.toInt = kN) (hk4 : kN ≤ 4) :
    own_CT l Z (⟨"com/example/deft_shards/deftshards/cluster/KMeans", "members", "([II)[[I"⟩ : MethodName) prog_2_method_3_code 7 (some (.array (.array .int))) ws ({ frames := 0, cells := 6, slots := 32, locals := 0 } : Room) #[(.ref a1), (.int p2)] h0 (Q2 Z a1 p2 ms kN h0 n0) := by
  have q : kN = 0 ∨ kN = 1 ∨ kN = 2 ∨ kN = 3 ∨ kN = 4 := by omega
  rcases q with rfl | rfl | rfl | rfl | rfl
  · obtain rfl : p2 = (0 : Int32) := Int32.toInt_inj.mp (by rw [hk]; decide)
    exact rm2_0 l Z a0 hw ws a1 ms h0 n0 Z0 V_m hn6 (fun j y h => ⟨(hG j y h).1, by have := (hG j y h).2; omega⟩)
  · obtain rfl : p2 = (1 : Int32) := Int32.toInt_inj.mp (by rw [hk]; decide)
    exact rm2_1 l Z a0 hw ws a1 ms h0 n0 Z0 V_m hn6 (fun j y h => ⟨(hG j y h).1, by have := (hG j y h).2; omega⟩)
  · obtain rfl : p2 = (2 : Int32) := Int32.toInt_inj.mp (by rw [hk]; decide)
    exact rm2_2 l Z a0 hw ws a1 ms h0 n0 Z0 V_m hn6 (fun j y h => ⟨(hG j y h).1, by have := (hG j y h).2; omega⟩)
  · obtain rfl : p2 = (3 : Int32) := Int32.toInt_inj.mp (by rw [hk]; decide)
    exact rm2_3 l Z a0 hw ws a1 ms h0 n0 Z0 V_m hn6 (fun j y h => ⟨(hG j y h).1, by have := (hG j y h).2; omega⟩)
  · obtain rfl : p2 = (4 : Int32) := Int32.toInt_inj.mp (by rw [hk]; decide)
    exact rm2_4 l Z a0 hw ws a1 ms h0 n0 Z0 V_m hn6 (fun j y h => ⟨(hG j y h).1, by have := (hG j y h).2; omega⟩)
theorem pd___IIIJ_V_551 : parseMethodDescriptor "([IIIJ)V" = some ⟨[(.array .int), .int, .int, .long], none⟩ := by decide +kernel
theorem pd___II___I_573 : parseMethodDescriptor "([II)[[I" = some ⟨[(.array .int), .int], some (.array (.array .int))⟩ := by decide +kernel
theorem pd____I_II_Z_663 : parseMethodDescriptor "([[I[II)Z" = some ⟨[(.array (.array .int)), (.array .int), .int], some .boolean⟩ := by decide +kernel
theorem ef_0 (m : MethodId) (x0 : Int32) (x1 : Int32) (x2 : Int64) : entryFrame m #[(.int x0), (.int x1), (.long x2)] maxLocals = mkF m 0 #[.val (.int x0), .val (.int x1), .val (.long x2), .second, .unset, .unset, .unset, .unset] [] := by first | (simp [entryFrame, mkF, argsToLocals, Value.category, maxLocals]; done) | rfl
def Q0 (Z : State) (p0 : Int32) (p1 : Int32) (q2 : Int64) (h0 : Heap) (n0 : Nat) (v : Option Value) (h : Heap) (L : List Loc) : Prop := v = some (.int 1) ∧ Fr n0 L
set_option maxRecDepth 65536 in
set_option maxHeartbeats 40000000 in
theorem rm0 (l : Launch) (Z : State) (a0 : Array Value) (hw : ∀ d ∈ tables_1, d.before a0 Z = true) (ws : List Jvm.Cond) (p0 : Int32) (p1 : Int32) (q2 : Int64) (h0 : Heap) (n0 : Nat) (Z0 : n0 ≤ h0.size)  :
    own_CT l Z x code maxLocals ret ws room_1 #[(.int p0), (.int p1), (.long q2)] h0 (Q0 Z p0 p1 q2 h0 n0) := by
  refine MetFree.of_bodySF (plainFor_of_name pn_com_example_deft_shards_deftshards_cluster_KMeansMembersPinLaw) hisR ?_
  intro p e s m args below meth c s₁ Bd hml0 hP hK
  obtain ⟨rfl, hZ, hh⟩ := hP
  have hx := Bd.exec
  have hby := Bd.bytes
  have hml : c.maxLocals = 8 := hml0
  have hown : s.vm.findClass "com/example/deft_shards/deftshards/cluster/KMeansMembersPinLaw" = some m.cls := findClass_of_methodNamed Bd.named
  have hnm := (name_of_methodNamed Bd.named Bd.method).1
  have hlk : meth.locks = false := BodyLoose.notSynchronized Bd
  have X0 : Stand p l e room_1 s m #[(.int p0), (.int p1), (.long q2)] below meth c s₁ [] 0 0 := Stand.of_body Bd
  have e0 : s₁.heap = h0 := by rw [← hh, Bd.state]; rfl
  have N0 := Fr.nil n0
  show GG p e below s room_1.cells room_1.slots (Q0 Z p0 p1 q2 h0 n0) s₁ (entryFrame m #[(.int p0), (.int p1), (.long q2)] maxLocals)
  refine own_in (ef_0 m p0 p1 q2) ?_
  have K0 := Keep.refl h0 []
  show GG _ _ _ _ _ _ _ s₁ (mkF m 0 #[.val (.int p0), .val (.int p1), .val (.long q2), .second, .unset, .unset, .unset, .unset] [])
  refine own_go (fun _ => XS.iloadN X0.here hx rfl (hb hby at_0) rfl) ?_
  show GG _ _ _ _ _ _ _ s₁ (mkF m 1 #[.val (.int p0), .val (.int p1), .val (.long q2), .second, .unset, .unset, .unset, .unset] [(.int p0)])
  refine own_go (fun _ => XS.bipush X0.here hx rfl (hb hby at_1)) ?_
  show GG _ _ _ _ _ _ _ s₁ (mkF m 3 #[.val (.int p0), .val (.int p1), .val (.long q2), .second, .unset, .unset, .unset, .unset] [(.int (7 : Int32)), (.int p0)])
  refine own_go (fun _ => XS.iand X0.here hx rfl (hb hby at_3) rfl) ?_
  show GG _ _ _ _ _ _ _ s₁ (mkF m 4 #[.val (.int p0), .val (.int p1), .val (.long q2), .second, .unset, .unset, .unset, .unset] [(.int (p0 &&& (7 : Int32)))])
  have cx1 := c_mask p0 (7 : Int32) 3 (by decide) (by decide)
  generalize hx1 : (p0 &&& (7 : Int32)) = x1 at cx1 ⊢
  have rx1 := rng32 x1
  refine own_go (fun _ => XS.iconst X0.here hx rfl (hb hby at_4)) ?_
  show GG _ _ _ _ _ _ _ s₁ (mkF m 5 #[.val (.int p0), .val (.int p1), .val (.long q2), .second, .unset, .unset, .unset, .unset] [(.int (5 : Int32)), (.int x1)])
  refine own_go (fun _ => iremM X0 hx rfl (hb hby at_5) rfl (by decide)) ?_
  show GG _ _ _ _ _ _ _ s₁ (mkF m 6 #[.val (.int p0), .val (.int p1), .val (.long q2), .second, .unset, .unset, .unset, .unset] [(.int (x1 % (5 : Int32)))])
  have cx2 := c_irem x1 (5 : Int32) 5 (by decide)
  generalize hx2 : (x1 % (5 : Int32)) = x2 at cx2 ⊢
  have rx2 := rng32 x2
  refine own_go (fun _ => XS.istore X0.here hx rfl (hb hby at_6) rfl (l' := #[.val (.int p0), .val (.int p1), .val (.long q2), .second, .val (.int x2), .unset, .unset, .unset]) rfl) ?_
  show GG _ _ _ _ _ _ _ s₁ (mkF m 8 #[.val (.int p0), .val (.int p1), .val (.long q2), .second, .val (.int x2), .unset, .unset, .unset] [])
  refine own_go (fun _ => XS.iloadN X0.here hx rfl (hb hby at_8) rfl) ?_
  show GG _ _ _ _ _ _ _ s₁ (mkF m 9 #[.val (.int p0), .val (.int p1), .val (.long q2), .second, .val (.int x2), .unset, .unset, .unset] [(.int p1)])
  refine own_go (fun _ => XS.bipush X0.here hx rfl (hb hby at_9)) ?_
  show GG _ _ _ _ _ _ _ s₁ (mkF m 11 #[.val (.int p0), .val (.int p1), .val (.long q2), .second, .val (.int x2), .unset, .unset, .unset] [(.int (7 : Int32)), (.int p1)])
  refine own_go (fun _ => XS.iand X0.here hx rfl (hb hby at_11) rfl) ?_
  show GG _ _ _ _ _ _ _ s₁ (mkF m 12 #[.val (.int p0), .val (.int p1), .val (.long q2), .second, .val (.int x2), .unset, .unset, .unset] [(.int (p1 &&& (7 : Int32)))])
  have cx3 := c_mask p1 (7 : Int32) 3 (by decide) (by decide)
  generalize hx3 : (p1 &&& (7 : Int32)) = x3 at cx3 ⊢
  have rx3 := rng32 x3
  refine own_go (fun _ => XS.bipush X0.here hx rfl (hb hby at_12)) ?_
  show GG _ _ _ _ _ _ _ s₁ (mkF m 14 #[.val (.int p0), .val (.int p1), .val (.long q2), .second, .val (.int x2), .unset, .unset, .unset] [(.int (7 : Int32)), (.int x3)])
  refine own_go (fun _ => iremM X0 hx rfl (hb hby at_14) rfl (by decide)) ?_
  show GG _ _ _ _ _ _ _ s₁ (mkF m 15 #[.val (.int p0), .val (.int p1), .val (.long q2), .second, .val (.int x2), .unset, .unset, .unset] [(.int (x3 % (7 : Int32)))])
  have cx4 := c_irem x3 (7 : Int32) 7 (by decide)
  generalize hx4 : (x3 % (7 : Int32)) = x4 at cx4 ⊢
  have rx4 := rng32 x4
  refine own_go (fun _ => XS.istore X0.here hx rfl (hb hby at_15) rfl (l' := #[.val (.int p0), .val (.int p1), .val (.long q2), .second, .val (.int x2), .val (.int x4), .unset, .unset]) rfl) ?_
  show GG _ _ _ _ _ _ _ s₁ (mkF m 17 #[.val (.int p0), .val (.int p1), .val (.long q2), .second, .val (.int x2), .val (.int x4), .unset, .unset] [])
  obtain ⟨kN, hk⟩ : ∃ z : Nat, x2.toInt = z := ⟨x2.toInt.toNat, by omega⟩
  obtain ⟨nN, hn⟩ : ∃ z : Nat, x4.toInt = z := ⟨x4.toInt.toNat, by omega⟩
  have hk4 : kN ≤ 4 := by omega
  have hnb : nN ≤ 6 := by omega
  clear rx1 cx1 rx2 cx2 rx3 cx3 rx4 cx4
  refine own_go (fun _ => XS.iload X0.here hx rfl (hb hby at_17) rfl) ?_
  show GG _ _ _ _ _ _ _ s₁ (mkF m 19 #[.val (.int p0), .val (.int p1), .val (.long q2), .second, .val (.int x2), .val (.int x4), .unset, .unset] [(.int x4)])
  obtain ⟨T5, h5, ob5, g5, X5, e5, E5, V_ob5, E_ob5, st5⟩ := own_newarr X0 hx hZ (hw _ (List.mem_of_getElem? (i := 0) rfl)) e0 (g := (mkF m 19 #[.val (.int p0), .val (.int p1), .val (.long q2), .second, .val (.int x2), .val (.int x4), .unset, .unset] [(.int x4)])) rfl (hb hby at_19) rfl (own_nn (by omega)) (cap := 6) (Nat.le_trans (Nat.le_of_eq (own_nat hn)) hnb) (by decide) (by decide) (by decide) (ad := "[I") (by decide)
  have sz_ob5 : h0.size ≤ ob5 := Nat.le_trans K0.1 (Nat.le_of_eq g5.symm)
  have g_ob5 : n0 ≤ ob5 := Nat.le_trans Z0 sz_ob5
  have K0 := K0.ext E5
  have V_ob5 : Arx Z h5 ob5 .int (List.replicate x4.toNatClampNeg (.int (0 : Int32))) := V_ob5
  refine own_go (fun _ => st5 _) ?_
  show GG _ _ _ _ _ _ _ T5 (mkF m 21 #[.val (.int p0), .val (.int p1), .val (.long q2), .second, .val (.int x2), .val (.int x4), .unset, .unset] [(.ref ob5)])
  have V_ob5 : Arx Z h5 ob5 .int ((List.replicate nN (0 : Int32)).map Value.int) := by rw [List.map_replicate, ← own_nat hn]; exact V_ob5
  refine own_go (fun _ => XS.astore X5.here hx rfl (hb hby at_21) rfl rfl (l' := #[.val (.int p0), .val (.int p1), .val (.long q2), .second, .val (.int x2), .val (.int x4), .val (.ref ob5), .unset]) rfl) ?_
  show GG _ _ _ _ _ _ _ T5 (mkF m 23 #[.val (.int p0), .val (.int p1), .val (.long q2), .second, .val (.int x2), .val (.int x4), .val (.ref ob5), .unset] [])
  refine own_go (fun _ => XS.aload X5.here hx rfl (hb hby at_23) rfl rfl) ?_
  show GG _ _ _ _ _ _ _ T5 (mkF m 25 #[.val (.int p0), .val (.int p1), .val (.long q2), .second, .val (.int x2), .val (.int x4), .val (.ref ob5), .unset] [(.ref ob5)])
  refine own_go (fun _ => XS.iconst X5.here hx rfl (hb hby at_25)) ?_
  show GG _ _ _ _ _ _ _ T5 (mkF m 26 #[.val (.int p0), .val (.int p1), .val (.long q2), .second, .val (.int x2), .val (.int x4), .val (.ref ob5), .unset] [(.int (0 : Int32)), (.ref ob5)])
  refine own_go (fun _ => XS.iload X5.here hx rfl (hb hby at_26) rfl) ?_
  show GG _ _ _ _ _ _ _ T5 (mkF m 28 #[.val (.int p0), .val (.int p1), .val (.long q2), .second, .val (.int x2), .val (.int x4), .val (.ref ob5), .unset] [(.int x2), (.int (0 : Int32)), (.ref ob5)])
  refine own_go (fun _ => XS.lloadN X5.here hx rfl (hb hby at_28) rfl) ?_
  show GG _ _ _ _ _ _ _ T5 (mkF m 29 #[.val (.int p0), .val (.int p1), .val (.long q2), .second, .val (.int x2), .val (.int x4), .val (.ref ob5), .unset] [(.long q2), (.int x2), (.int (0 : Int32)), (.ref ob5)])
  refine own_callS X5 hx hZ (y := (⟨"com/example/deft_shards/deftshards/cluster/KMeansMembersPinLaw", "set", "([IIIJ)V"⟩ : MethodName)) 0 hown (hw _ (List.mem_of_getElem? (i := 1) rfl)) (hw _ (List.mem_of_getElem? (i := 2) rfl)) (hw _ (List.mem_of_getElem? (i := 3) rfl)) (hw _ (List.mem_of_getElem? (i := 4) rfl)) (by decide) (argsL := [(.ref ob5), (.int (0 : Int32)), (.int x2), (.long q2)]) (rest := []) (rm1 l Z a0 hw [] ob5 (0 : Int32) x2 q2 (List.replicate nN (0 : Int32)) 0 kN h5 n0 (Nat.le_trans Z0 K0.1) V_ob5 g_ob5 (by decide) (by decide) hk hk4 (by rw [List.length_replicate]; exact hnb) (fun j h => absurd h (Nat.not_lt_zero j))) (by decide) (by decide) (by decide) (by decide) (g := (mkF m 29 #[.val (.int p0), .val (.int p1), .val (.long q2), .second, .val (.int x2), .val (.int x4), .val (.ref ob5), .unset] [(.long q2), (.int x2), (.int (0 : Int32)), (.ref ob5)])) rfl (by rw [hml]; rfl) (lenOf pd___IIIJ_V_551 rfl) rfl (by show 2 * 0 + _ ≤ _; exact Nat.le_of_eq rfl) (hb hby at_29) e5 ?_
  rintro v6 T6 L6 X6 ⟨rfl, N6q, Kq6, mq6, lq6, Gq6, Vq6⟩
  have N6 := Fr.app N0 N6q
  have K0 := K0.trans Kq6 (allS (Or.inr sz_ob5) all0)
  have E_ob5 := E_ob5.keep Kq6
  have hn6 : mq6.length ≤ 6 := by rw [lq6]; exact (by rw [List.length_replicate]; exact hnb)
  show GG _ _ _ _ _ _ _ T6 (mkF m 32 #[.val (.int p0), .val (.int p1), .val (.long q2), .second, .val (.int x2), .val (.int x4), .val (.ref ob5), .unset] [])
  refine own_go (fun _ => XS.aload X6.here hx rfl (hb hby at_32) rfl rfl) ?_
  show GG _ _ _ _ _ _ _ T6 (mkF m 34 #[.val (.int p0), .val (.int p1), .val (.long q2), .second, .val (.int x2), .val (.int x4), .val (.ref ob5), .unset] [(.ref ob5)])
  refine own_go (fun _ => XS.iconst X6.here hx rfl (hb hby at_34)) ?_
  show GG _ _ _ _ _ _ _ T6 (mkF m 35 #[.val (.int p0), .val (.int p1), .val (.long q2), .second, .val (.int x2), .val (.int x4), .val (.ref ob5), .unset] [(.int (1 : Int32)), (.ref ob5)])
  refine own_go (fun _ => XS.iload X6.here hx rfl (hb hby at_35) rfl) ?_
  show GG _ _ _ _ _ _ _ T6 (mkF m 37 #[.val (.int p0), .val (.int p1), .val (.long q2), .second, .val (.int x2), .val (.int x4), .val (.ref ob5), .unset] [(.int x2), (.int (1 : Int32)), (.ref ob5)])
  refine own_go (fun _ => XS.lloadN X6.here hx rfl (hb hby at_37) rfl) ?_
  show GG _ _ _ _ _ _ _ T6 (mkF m 38 #[.val (.int p0), .val (.int p1), .val (.long q2), .second, .val (.int x2), .val (.int x4), .val (.ref ob5), .unset] [(.long q2), (.int x2), (.int (1 : Int32)), (.ref ob5)])
  refine own_callS X6 hx hZ (y := (⟨"com/example/deft_shards/deftshards/cluster/KMeansMembersPinLaw", "set", "([IIIJ)V"⟩ : MethodName)) 0 hown (hw _ (List.mem_of_getElem? (i := 1) rfl)) (hw _ (List.mem_of_getElem? (i := 2) rfl)) (hw _ (List.mem_of_getElem? (i := 3) rfl)) (hw _ (List.mem_of_getElem? (i := 4) rfl)) (by decide) (argsL := [(.ref ob5), (.int (1 : Int32)), (.int x2), (.long q2)]) (rest := []) (rm1 l Z a0 hw [] ob5 (1 : Int32) x2 q2 mq6 1 kN T6.heap n0 (Nat.le_trans Z0 K0.1) Vq6 g_ob5 (by decide) (by decide) hk hk4 hn6 Gq6) (by decide) (by decide) (by decide) (by decide) (g := (mkF m 38 #[.val (.int p0), .val (.int p1), .val (.long q2), .second, .val (.int x2), .val (.int x4), .val (.ref ob5), .unset] [(.long q2), (.int x2), (.int (1 : Int32)), (.ref ob5)])) rfl (by rw [hml]; rfl) (lenOf pd___IIIJ_V_551 rfl) rfl (by show 2 * 0 + _ ≤ _; exact Nat.le_of_eq rfl) (hb hby at_38) rfl ?_
  rintro v7 T7 L7 X7 ⟨rfl, N7q, Kq7, mq7, lq7, Gq7, Vq7⟩
  have N7 := Fr.app N6 N7q
  have K0 := K0.trans Kq7 (allS (Or.inr sz_ob5) all0)
  have E_ob5 := E_ob5.keep Kq7
  have hn7 : mq7.length ≤ 6 := by rw [lq7]; exact hn6
  show GG _ _ _ _ _ _ _ T7 (mkF m 41 #[.val (.int p0), .val (.int p1), .val (.long q2), .second, .val (.int x2), .val (.int x4), .val (.ref ob5), .unset] [])
  refine own_go (fun _ => XS.aload X7.here hx rfl (hb hby at_41) rfl rfl) ?_
  show GG _ _ _ _ _ _ _ T7 (mkF m 43 #[.val (.int p0), .val (.int p1), .val (.long q2), .second, .val (.int x2), .val (.int x4), .val (.ref ob5), .unset] [(.ref ob5)])
  refine own_go (fun _ => XS.iconst X7.here hx rfl (hb hby at_43)) ?_
  show GG _ _ _ _ _ _ _ T7 (mkF m 44 #[.val (.int p0), .val (.int p1), .val (.long q2), .second, .val (.int x2), .val (.int x4), .val (.ref ob5), .unset] [(.int (2 : Int32)), (.ref ob5)])
  refine own_go (fun _ => XS.iload X7.here hx rfl (hb hby at_44) rfl) ?_
  show GG _ _ _ _ _ _ _ T7 (mkF m 46 #[.val (.int p0), .val (.int p1), .val (.long q2), .second, .val (.int x2), .val (.int x4), .val (.ref ob5), .unset] [(.int x2), (.int (2 : Int32)), (.ref ob5)])
  refine own_go (fun _ => XS.lloadN X7.here hx rfl (hb hby at_46) rfl) ?_
  show GG _ _ _ _ _ _ _ T7 (mkF m 47 #[.val (.int p0), .val (.int p1), .val (.long q2), .second, .val (.int x2), .val (.int x4), .val (.ref ob5), .unset] [(.long q2), (.int x2), (.int (2 : Int32)), (.ref ob5)])
  refine own_callS X7 hx hZ (y := (⟨"com/example/deft_shards/deftshards/cluster/KMeansMembersPinLaw", "set", "([IIIJ)V"⟩ : MethodName)) 0 hown (hw _ (List.mem_of_getElem? (i := 1) rfl)) (hw _ (List.mem_of_getElem? (i := 2) rfl)) (hw _ (List.mem_of_getElem? (i := 3) rfl)) (hw _ (List.mem_of_getElem? (i := 4) rfl)) (by decide) (argsL := [(.ref ob5), (.int (2 : Int32)), (.int x2), (.long q2)]) (rest := []) (rm1 l Z a0 hw [] ob5 (2 : Int32) x2 q2 mq7 2 kN T7.heap n0 (Nat.le_trans Z0 K0.1) Vq7 g_ob5 (by decide) (by decide) hk hk4 hn7 Gq7) (by decide) (by decide) (by decide) (by decide) (g := (mkF m 47 #[.val (.int p0), .val (.int p1), .val (.long q2), .second, .val (.int x2), .val (.int x4), .val (.ref ob5), .unset] [(.long q2), (.int x2), (.int (2 : Int32)), (.ref ob5)])) rfl (by rw [hml]; rfl) (lenOf pd___IIIJ_V_551 rfl) rfl (by show 2 * 0 + _ ≤ _; exact Nat.le_of_eq rfl) (hb hby at_47) rfl ?_
  rintro v8 T8 L8 X8 ⟨rfl, N8q, Kq8, mq8, lq8, Gq8, Vq8⟩
  have N8 := Fr.app N7 N8q
  have K0 := K0.trans Kq8 (allS (Or.inr sz_ob5) all0)
  have E_ob5 := E_ob5.keep Kq8
  have hn8 : mq8.length ≤ 6 := by rw [lq8]; exact hn7
  show GG _ _ _ _ _ _ _ T8 (mkF m 50 #[.val (.int p0), .val (.int p1), .val (.long q2), .second, .val (.int x2), .val (.int x4), .val (.ref ob5), .unset] [])
  refine own_go (fun _ => XS.aload X8.here hx rfl (hb hby at_50) rfl rfl) ?_
  show GG _ _ _ _ _ _ _ T8 (mkF m 52 #[.val (.int p0), .val (.int p1), .val (.long q2), .second, .val (.int x2), .val (.int x4), .val (.ref ob5), .unset] [(.ref ob5)])
  refine own_go (fun _ => XS.iconst X8.here hx rfl (hb hby at_52)) ?_
  show GG _ _ _ _ _ _ _ T8 (mkF m 53 #[.val (.int p0), .val (.int p1), .val (.long q2), .second, .val (.int x2), .val (.int x4), .val (.ref ob5), .unset] [(.int (3 : Int32)), (.ref ob5)])
  refine own_go (fun _ => XS.iload X8.here hx rfl (hb hby at_53) rfl) ?_
  show GG _ _ _ _ _ _ _ T8 (mkF m 55 #[.val (.int p0), .val (.int p1), .val (.long q2), .second, .val (.int x2), .val (.int x4), .val (.ref ob5), .unset] [(.int x2), (.int (3 : Int32)), (.ref ob5)])
  refine own_go (fun _ => XS.lloadN X8.here hx rfl (hb hby at_55) rfl) ?_
  show GG _ _ _ _ _ _ _ T8 (mkF m 56 #[.val (.int p0), .val (.int p1), .val (.long q2), .second, .val (.int x2), .val (.int x4), .val (.ref ob5), .unset] [(.long q2), (.int x2), (.int (3 : Int32)), (.ref ob5)])
  refine own_callS X8 hx hZ (y := (⟨"com/example/deft_shards/deftshards/cluster/KMeansMembersPinLaw", "set", "([IIIJ)V"⟩ : MethodName)) 0 hown (hw _ (List.mem_of_getElem? (i := 1) rfl)) (hw _ (List.mem_of_getElem? (i := 2) rfl)) (hw _ (List.mem_of_getElem? (i := 3) rfl)) (hw _ (List.mem_of_getElem? (i := 4) rfl)) (by decide) (argsL := [(.ref ob5), (.int (3 : Int32)), (.int x2), (.long q2)]) (rest := []) (rm1 l Z a0 hw [] ob5 (3 : Int32) x2 q2 mq8 3 kN T8.heap n0 (Nat.le_trans Z0 K0.1) Vq8 g_ob5 (by decide) (by decide) hk hk4 hn8 Gq8) (by decide) (by decide) (by decide) (by decide) (g := (mkF m 56 #[.val (.int p0), .val (.int p1), .val (.long q2), .second, .val (.int x2), .val (.int x4), .val (.ref ob5), .unset] [(.long q2), (.int x2), (.int (3 : Int32)), (.ref ob5)])) rfl (by rw [hml]; rfl) (lenOf pd___IIIJ_V_551 rfl) rfl (by show 2 * 0 + _ ≤ _; exact Nat.le_of_eq rfl) (hb hby at_56) rfl ?_
  rintro v9 T9 L9 X9 ⟨rfl, N9q, Kq9, mq9, lq9, Gq9, Vq9⟩
  have N9 := Fr.app N8 N9q
  have K0 := K0.trans Kq9 (allS (Or.inr sz_ob5) all0)
  have E_ob5 := E_ob5.keep Kq9
  have hn9 : mq9.length ≤ 6 := by rw [lq9]; exact hn8
  show GG _ _ _ _ _ _ _ T9 (mkF m 59 #[.val (.int p0), .val (.int p1), .val (.long q2), .second, .val (.int x2), .val (.int x4), .val (.ref ob5), .unset] [])
  refine own_go (fun _ => XS.aload X9.here hx rfl (hb hby at_59) rfl rfl) ?_
  show GG _ _ _ _ _ _ _ T9 (mkF m 61 #[.val (.int p0), .val (.int p1), .val (.long q2), .second, .val (.int x2), .val (.int x4), .val (.ref ob5), .unset] [(.ref ob5)])
  refine own_go (fun _ => XS.iconst X9.here hx rfl (hb hby at_61)) ?_
  show GG _ _ _ _ _ _ _ T9 (mkF m 62 #[.val (.int p0), .val (.int p1), .val (.long q2), .second, .val (.int x2), .val (.int x4), .val (.ref ob5), .unset] [(.int (4 : Int32)), (.ref ob5)])
  refine own_go (fun _ => XS.iload X9.here hx rfl (hb hby at_62) rfl) ?_
  show GG _ _ _ _ _ _ _ T9 (mkF m 64 #[.val (.int p0), .val (.int p1), .val (.long q2), .second, .val (.int x2), .val (.int x4), .val (.ref ob5), .unset] [(.int x2), (.int (4 : Int32)), (.ref ob5)])
  refine own_go (fun _ => XS.lloadN X9.here hx rfl (hb hby at_64) rfl) ?_
  show GG _ _ _ _ _ _ _ T9 (mkF m 65 #[.val (.int p0), .val (.int p1), .val (.long q2), .second, .val (.int x2), .val (.int x4), .val (.ref ob5), .unset] [(.long q2), (.int x2), (.int (4 : Int32)), (.ref ob5)])
  refine own_callS X9 hx hZ (y := (⟨"com/example/deft_shards/deftshards/cluster/KMeansMembersPinLaw", "set", "([IIIJ)V"⟩ : MethodName)) 0 hown (hw _ (List.mem_of_getElem? (i := 1) rfl)) (hw _ (List.mem_of_getElem? (i := 2) rfl)) (hw _ (List.mem_of_getElem? (i := 3) rfl)) (hw _ (List.mem_of_getElem? (i := 4) rfl)) (by decide) (argsL := [(.ref ob5), (.int (4 : Int32)), (.int x2), (.long q2)]) (rest := []) (rm1 l Z a0 hw [] ob5 (4 : Int32) x2 q2 mq9 4 kN T9.heap n0 (Nat.le_trans Z0 K0.1) Vq9 g_ob5 (by decide) (by decide) hk hk4 hn9 Gq9) (by decide) (by decide) (by decide) (by decide) (g := (mkF m 65 #[.val (.int p0), .val (.int p1), .val (.long q2), .second, .val (.int x2), .val (.int x4), .val (.ref ob5), .unset] [(.long q2), (.int x2), (.int (4 : Int32)), (.ref ob5)])) rfl (by rw [hml]; rfl) (lenOf pd___IIIJ_V_551 rfl) rfl (by show 2 * 0 + _ ≤ _; exact Nat.le_of_eq rfl) (hb hby at_65) rfl ?_
  rintro v10 T10 L10 X10 ⟨rfl, N10q, Kq10, mq10, lq10, Gq10, Vq10⟩
  have N10 := Fr.app N9 N10q
  have K0 := K0.trans Kq10 (allS (Or.inr sz_ob5) all0)
  have E_ob5 := E_ob5.keep Kq10
  have hn10 : mq10.length ≤ 6 := by rw [lq10]; exact hn9
  show GG _ _ _ _ _ _ _ T10 (mkF m 68 #[.val (.int p0), .val (.int p1), .val (.long q2), .second, .val (.int x2), .val (.int x4), .val (.ref ob5), .unset] [])
  refine own_go (fun _ => XS.aload X10.here hx rfl (hb hby at_68) rfl rfl) ?_
  show GG _ _ _ _ _ _ _ T10 (mkF m 70 #[.val (.int p0), .val (.int p1), .val (.long q2), .second, .val (.int x2), .val (.int x4), .val (.ref ob5), .unset] [(.ref ob5)])
  refine own_go (fun _ => XS.iconst X10.here hx rfl (hb hby at_70)) ?_
  show GG _ _ _ _ _ _ _ T10 (mkF m 71 #[.val (.int p0), .val (.int p1), .val (.long q2), .second, .val (.int x2), .val (.int x4), .val (.ref ob5), .unset] [(.int (5 : Int32)), (.ref ob5)])
  refine own_go (fun _ => XS.iload X10.here hx rfl (hb hby at_71) rfl) ?_
  show GG _ _ _ _ _ _ _ T10 (mkF m 73 #[.val (.int p0), .val (.int p1), .val (.long q2), .second, .val (.int x2), .val (.int x4), .val (.ref ob5), .unset] [(.int x2), (.int (5 : Int32)), (.ref ob5)])
  refine own_go (fun _ => XS.lloadN X10.here hx rfl (hb hby at_73) rfl) ?_
  show GG _ _ _ _ _ _ _ T10 (mkF m 74 #[.val (.int p0), .val (.int p1), .val (.long q2), .second, .val (.int x2), .val (.int x4), .val (.ref ob5), .unset] [(.long q2), (.int x2), (.int (5 : Int32)), (.ref ob5)])
  refine own_callS X10 hx hZ (y := (⟨"com/example/deft_shards/deftshards/cluster/KMeansMembersPinLaw", "set", "([IIIJ)V"⟩ : MethodName)) 0 hown (hw _ (List.mem_of_getElem? (i := 1) rfl)) (hw _ (List.mem_of_getElem? (i := 2) rfl)) (hw _ (List.mem_of_getElem? (i := 3) rfl)) (hw _ (List.mem_of_getElem? (i := 4) rfl)) (by decide) (argsL := [(.ref ob5), (.int (5 : Int32)), (.int x2), (.long q2)]) (rest := []) (rm1 l Z a0 hw [] ob5 (5 : Int32) x2 q2 mq10 5 kN T10.heap n0 (Nat.le_trans Z0 K0.1) Vq10 g_ob5 (by decide) (by decide) hk hk4 hn10 Gq10) (by decide) (by decide) (by decide) (by decide) (g := (mkF m 74 #[.val (.int p0), .val (.int p1), .val (.long q2), .second, .val (.int x2), .val (.int x4), .val (.ref ob5), .unset] [(.long q2), (.int x2), (.int (5 : Int32)), (.ref ob5)])) rfl (by rw [hml]; rfl) (lenOf pd___IIIJ_V_551 rfl) rfl (by show 2 * 0 + _ ≤ _; exact Nat.le_of_eq rfl) (hb hby at_74) rfl ?_
  rintro v11 T11 L11 X11 ⟨rfl, N11q, Kq11, mq11, lq11, Gq11, Vq11⟩
  have N11 := Fr.app N10 N11q
  have K0 := K0.trans Kq11 (allS (Or.inr sz_ob5) all0)
  have E_ob5 := E_ob5.keep Kq11
  have hn11 : mq11.length ≤ 6 := by rw [lq11]; exact hn10
  show GG _ _ _ _ _ _ _ T11 (mkF m 77 #[.val (.int p0), .val (.int p1), .val (.long q2), .second, .val (.int x2), .val (.int x4), .val (.ref ob5), .unset] [])
  have hGd : ∀ (j : Nat) (y : Int32), mq11[j]? = some y → -1 ≤ y.toInt ∧ y.toInt < kN := fun j y h => Gq11 j (by have q := (List.getElem?_eq_some_iff.mp h).1; omega) y h
  refine own_go (fun _ => XS.aload X11.here hx rfl (hb hby at_77) rfl rfl) ?_
  show GG _ _ _ _ _ _ _ T11 (mkF m 79 #[.val (.int p0), .val (.int p1), .val (.long q2), .second, .val (.int x2), .val (.int x4), .val (.ref ob5), .unset] [(.ref ob5)])
  refine own_go (fun _ => XS.iload X11.here hx rfl (hb hby at_79) rfl) ?_
  show GG _ _ _ _ _ _ _ T11 (mkF m 81 #[.val (.int p0), .val (.int p1), .val (.long q2), .second, .val (.int x2), .val (.int x4), .val (.ref ob5), .unset] [(.int x2), (.ref ob5)])
  refine own_callS X11 hx hZ (y := (⟨"com/example/deft_shards/deftshards/cluster/KMeans", "members", "([II)[[I"⟩ : MethodName)) 0 hown (hw _ (List.mem_of_getElem? (i := 6) rfl)) (hw _ (List.mem_of_getElem? (i := 7) rfl)) (hw _ (List.mem_of_getElem? (i := 8) rfl)) (hw _ (List.mem_of_getElem? (i := 9) rfl)) (by decide) (argsL := [(.ref ob5), (.int x2)]) (rest := []) (rm2 l Z a0 hw [] ob5 x2 mq11 kN T11.heap n0 (Nat.le_trans Z0 K0.1) Vq11 hn11 hGd hk hk4) (by decide) (by decide) (by decide) (by decide) (g := (mkF m 81 #[.val (.int p0), .val (.int p1), .val (.long q2), .second, .val (.int x2), .val (.int x4), .val (.ref ob5), .unset] [(.int x2), (.ref ob5)])) rfl (by rw [hml]; rfl) (lenOf pd___II___I_573 rfl) rfl (by show 2 * 0 + _ ≤ _; exact Nat.le_of_eq rfl) (hb hby at_81) rfl ?_
  rintro v12 T12 L12 X12 ⟨bq12, rs, rfl, N12q, Kq12, Vq12, lrs, Rq12⟩
  have N12 := Fr.app N11 N12q
  have K0 := K0.trans Kq12 all0
  have Vq11 := Vq11.keep Kq12 nin0
  have E_ob5 := E_ob5.keep Kq12
  have hrs4 : rs.length ≤ 4 := by omega
  rw [← lrs] at hGd
  show GG _ _ _ _ _ _ _ T12 (mkF m 84 #[.val (.int p0), .val (.int p1), .val (.long q2), .second, .val (.int x2), .val (.int x4), .val (.ref ob5), .unset] [(.ref bq12)])
  refine own_go (fun _ => XS.astore X12.here hx rfl (hb hby at_84) rfl rfl (l' := #[.val (.int p0), .val (.int p1), .val (.long q2), .second, .val (.int x2), .val (.int x4), .val (.ref ob5), .val (.ref bq12)]) rfl) ?_
  show GG _ _ _ _ _ _ _ T12 (mkF m 86 #[.val (.int p0), .val (.int p1), .val (.long q2), .second, .val (.int x2), .val (.int x4), .val (.ref ob5), .val (.ref bq12)] [])
  refine own_go (fun _ => XS.aload X12.here hx rfl (hb hby at_86) rfl rfl) ?_
  show GG _ _ _ _ _ _ _ T12 (mkF m 88 #[.val (.int p0), .val (.int p1), .val (.long q2), .second, .val (.int x2), .val (.int x4), .val (.ref ob5), .val (.ref bq12)] [(.ref bq12)])
  refine own_go (fun _ => XS.ifnullNo X12.here hx rfl (hb hby at_88) rfl) ?_
  show GG _ _ _ _ _ _ _ T12 (mkF m 91 #[.val (.int p0), .val (.int p1), .val (.long q2), .second, .val (.int x2), .val (.int x4), .val (.ref ob5), .val (.ref bq12)] [])
  refine own_go (fun _ => XS.aload X12.here hx rfl (hb hby at_91) rfl rfl) ?_
  show GG _ _ _ _ _ _ _ T12 (mkF m 93 #[.val (.int p0), .val (.int p1), .val (.long q2), .second, .val (.int x2), .val (.int x4), .val (.ref ob5), .val (.ref bq12)] [(.ref bq12)])
  refine own_go (fun _ => own_len X12 hx hZ rfl Vq12 (g := (mkF m 93 #[.val (.int p0), .val (.int p1), .val (.long q2), .second, .val (.int x2), .val (.int x4), .val (.ref ob5), .val (.ref bq12)] [(.ref bq12)])) rfl rfl (hb hby at_93) _) ?_
  show GG _ _ _ _ _ _ _ T12 (mkF m 94 #[.val (.int p0), .val (.int p1), .val (.long q2), .second, .val (.int x2), .val (.int x4), .val (.ref ob5), .val (.ref bq12)] [(.int (Int32.ofNat (rs.map Value.ref).length))])
  refine own_go (fun _ => XS.iload X12.here hx rfl (hb hby at_94) rfl) ?_
  show GG _ _ _ _ _ _ _ T12 (mkF m 96 #[.val (.int p0), .val (.int p1), .val (.long q2), .second, .val (.int x2), .val (.int x4), .val (.ref ob5), .val (.ref bq12)] [(.int x2), (.int (Int32.ofNat (rs.map Value.ref).length))])
  have hc96 : (Int32.ofNat (rs.map Value.ref).length) = x2 := by rw [← Int32.toInt_inj, List.length_map, own_ofNat (by omega), lrs, hk]
  refine own_go (fun _ => XS.icmpYes X12.here hx rfl (pc0 := 96) (pc' := 101) rfl (hb hby at_96) rfl (teq hc96).1 (by decide) (by decide)) ?_
  show GG _ _ _ _ _ _ _ T12 (mkF m 101 #[.val (.int p0), .val (.int p1), .val (.long q2), .second, .val (.int x2), .val (.int x4), .val (.ref ob5), .val (.ref bq12)] [])
  refine own_go (fun _ => XS.aload X12.here hx rfl (hb hby at_101) rfl rfl) ?_
  show GG _ _ _ _ _ _ _ T12 (mkF m 103 #[.val (.int p0), .val (.int p1), .val (.long q2), .second, .val (.int x2), .val (.int x4), .val (.ref ob5), .val (.ref bq12)] [(.ref bq12)])
  refine own_go (fun _ => XS.aload X12.here hx rfl (hb hby at_103) rfl rfl) ?_
  show GG _ _ _ _ _ _ _ T12 (mkF m 105 #[.val (.int p0), .val (.int p1), .val (.long q2), .second, .val (.int x2), .val (.int x4), .val (.ref ob5), .val (.ref bq12)] [(.ref ob5), (.ref bq12)])
  refine own_go (fun _ => XS.iconst X12.here hx rfl (hb hby at_105)) ?_
  show GG _ _ _ _ _ _ _ T12 (mkF m 106 #[.val (.int p0), .val (.int p1), .val (.long q2), .second, .val (.int x2), .val (.int x4), .val (.ref ob5), .val (.ref bq12)] [(.int (0 : Int32)), (.ref ob5), (.ref bq12)])
  refine own_callS X12 hx hZ (y := (⟨"com/example/deft_shards/deftshards/cluster/KMeansMembersPinLaw", "sizeOk", "([[I[II)Z"⟩ : MethodName)) 0 hown (hw _ (List.mem_of_getElem? (i := 12) rfl)) (hw _ (List.mem_of_getElem? (i := 13) rfl)) (hw _ (List.mem_of_getElem? (i := 3) rfl)) (hw _ (List.mem_of_getElem? (i := 14) rfl)) (by decide) (argsL := [(.ref bq12), (.ref ob5), (.int (0 : Int32))]) (rest := []) (rm3 l Z a0 hw [] bq12 ob5 (0 : Int32) mq11 rs 0 T12.heap n0 (Nat.le_trans Z0 K0.1) Vq12 Vq11 Rq12 hrs4 hn11 (by decide)) (by decide) (by decide) (by decide) (by decide) (g := (mkF m 106 #[.val (.int p0), .val (.int p1), .val (.long q2), .second, .val (.int x2), .val (.int x4), .val (.ref ob5), .val (.ref bq12)] [(.int (0 : Int32)), (.ref ob5), (.ref bq12)])) rfl (by rw [hml]; rfl) (lenOf pd____I_II_Z_663 rfl) rfl (by show 2 * 0 + _ ≤ _; exact Nat.le_of_eq rfl) (hb hby at_106) rfl ?_
  rintro v13 T13 L13 X13 ⟨rfl, N13q, hh13⟩
  have N13 := Fr.app N12 N13q
  show GG _ _ _ _ _ _ _ T13 (mkF m 109 #[.val (.int p0), .val (.int p1), .val (.long q2), .second, .val (.int x2), .val (.int x4), .val (.ref ob5), .val (.ref bq12)] [(.int (1 : Int32))])
  have hc109 : ¬ ((1 : Int32) = (0 : Int32)) := by decide
  refine own_go (fun _ => XS.ifNo X13.here hx rfl (hb hby at_109) rfl ((if0 _ _).trans (feq hc109).1)) ?_
  show GG _ _ _ _ _ _ _ T13 (mkF m 112 #[.val (.int p0), .val (.int p1), .val (.long q2), .second, .val (.int x2), .val (.int x4), .val (.ref ob5), .val (.ref bq12)] [])
  refine own_go (fun _ => XS.aload X13.here hx rfl (hb hby at_112) rfl rfl) ?_
  show GG _ _ _ _ _ _ _ T13 (mkF m 114 #[.val (.int p0), .val (.int p1), .val (.long q2), .second, .val (.int x2), .val (.int x4), .val (.ref ob5), .val (.ref bq12)] [(.ref bq12)])
  refine own_go (fun _ => XS.aload X13.here hx rfl (hb hby at_114) rfl rfl) ?_
  show GG _ _ _ _ _ _ _ T13 (mkF m 116 #[.val (.int p0), .val (.int p1), .val (.long q2), .second, .val (.int x2), .val (.int x4), .val (.ref ob5), .val (.ref bq12)] [(.ref ob5), (.ref bq12)])
  refine own_go (fun _ => XS.iconst X13.here hx rfl (hb hby at_116)) ?_
  show GG _ _ _ _ _ _ _ T13 (mkF m 117 #[.val (.int p0), .val (.int p1), .val (.long q2), .second, .val (.int x2), .val (.int x4), .val (.ref ob5), .val (.ref bq12)] [(.int (1 : Int32)), (.ref ob5), (.ref bq12)])
  refine own_callS X13 hx hZ (y := (⟨"com/example/deft_shards/deftshards/cluster/KMeansMembersPinLaw", "sizeOk", "([[I[II)Z"⟩ : MethodName)) 0 hown (hw _ (List.mem_of_getElem? (i := 12) rfl)) (hw _ (List.mem_of_getElem? (i := 13) rfl)) (hw _ (List.mem_of_getElem? (i := 3) rfl)) (hw _ (List.mem_of_getElem? (i := 14) rfl)) (by decide) (argsL := [(.ref bq12), (.ref ob5), (.int (1 : Int32))]) (rest := []) (rm3 l Z a0 hw [] bq12 ob5 (1 : Int32) mq11 rs 1 T12.heap n0 (Nat.le_trans Z0 K0.1) Vq12 Vq11 Rq12 hrs4 hn11 (by decide)) (by decide) (by decide) (by decide) (by decide) (g := (mkF m 117 #[.val (.int p0), .val (.int p1), .val (.long q2), .second, .val (.int x2), .val (.int x4), .val (.ref ob5), .val (.ref bq12)] [(.int (1 : Int32)), (.ref ob5), (.ref bq12)])) rfl (by rw [hml]; rfl) (lenOf pd____I_II_Z_663 rfl) rfl (by show 2 * 0 + _ ≤ _; exact Nat.le_of_eq rfl) (hb hby at_117) hh13 ?_
  rintro v14 T14 L14 X14 ⟨rfl, N14q, hh14⟩
  have N14 := Fr.app N13 N14q
  show GG _ _ _ _ _ _ _ T14 (mkF m 120 #[.val (.int p0), .val (.int p1), .val (.long q2), .second, .val (.int x2), .val (.int x4), .val (.ref ob5), .val (.ref bq12)] [(.int (1 : Int32))])
  have hc120 : ¬ ((1 : Int32) = (0 : Int32)) := by decide
  refine own_go (fun _ => XS.ifNo X14.here hx rfl (hb hby at_120) rfl ((if0 _ _).trans (feq hc120).1)) ?_
  show GG _ _ _ _ _ _ _ T14 (mkF m 123 #[.val (.int p0), .val (.int p1), .val (.long q2), .second, .val (.int x2), .val (.int x4), .val (.ref ob5), .val (.ref bq12)] [])
  refine own_go (fun _ => XS.aload X14.here hx rfl (hb hby at_123) rfl rfl) ?_
  show GG _ _ _ _ _ _ _ T14 (mkF m 125 #[.val (.int p0), .val (.int p1), .val (.long q2), .second, .val (.int x2), .val (.int x4), .val (.ref ob5), .val (.ref bq12)] [(.ref bq12)])
  refine own_go (fun _ => XS.aload X14.here hx rfl (hb hby at_125) rfl rfl) ?_
  show GG _ _ _ _ _ _ _ T14 (mkF m 127 #[.val (.int p0), .val (.int p1), .val (.long q2), .second, .val (.int x2), .val (.int x4), .val (.ref ob5), .val (.ref bq12)] [(.ref ob5), (.ref bq12)])
  refine own_go (fun _ => XS.iconst X14.here hx rfl (hb hby at_127)) ?_
  show GG _ _ _ _ _ _ _ T14 (mkF m 128 #[.val (.int p0), .val (.int p1), .val (.long q2), .second, .val (.int x2), .val (.int x4), .val (.ref ob5), .val (.ref bq12)] [(.int (2 : Int32)), (.ref ob5), (.ref bq12)])
  refine own_callS X14 hx hZ (y := (⟨"com/example/deft_shards/deftshards/cluster/KMeansMembersPinLaw", "sizeOk", "([[I[II)Z"⟩ : MethodName)) 0 hown (hw _ (List.mem_of_getElem? (i := 12) rfl)) (hw _ (List.mem_of_getElem? (i := 13) rfl)) (hw _ (List.mem_of_getElem? (i := 3) rfl)) (hw _ (List.mem_of_getElem? (i := 14) rfl)) (by decide) (argsL := [(.ref bq12), (.ref ob5), (.int (2 : Int32))]) (rest := []) (rm3 l Z a0 hw [] bq12 ob5 (2 : Int32) mq11 rs 2 T12.heap n0 (Nat.le_trans Z0 K0.1) Vq12 Vq11 Rq12 hrs4 hn11 (by decide)) (by decide) (by decide) (by decide) (by decide) (g := (mkF m 128 #[.val (.int p0), .val (.int p1), .val (.long q2), .second, .val (.int x2), .val (.int x4), .val (.ref ob5), .val (.ref bq12)] [(.int (2 : Int32)), (.ref ob5), (.ref bq12)])) rfl (by rw [hml]; rfl) (lenOf pd____I_II_Z_663 rfl) rfl (by show 2 * 0 + _ ≤ _; exact Nat.le_of_eq rfl) (hb hby at_128) hh14 ?_
  rintro v15 T15 L15 X15 ⟨rfl, N15q, hh15⟩
  have N15 := Fr.app N14 N15q
  show GG _ _ _ _ _ _ _ T15 (mkF m 131 #[.val (.int p0), .val (.int p1), .val (.long q2), .second, .val (.int x2), .val (.int x4), .val (.ref ob5), .val (.ref bq12)] [(.int (1 : Int32))])
  have hc131 : ¬ ((1 : Int32) = (0 : Int32)) := by decide
  refine own_go (fun _ => XS.ifNo X15.here hx rfl (hb hby at_131) rfl ((if0 _ _).trans (feq hc131).1)) ?_
  show GG _ _ _ _ _ _ _ T15 (mkF m 134 #[.val (.int p0), .val (.int p1), .val (.long q2), .second, .val (.int x2), .val (.int x4), .val (.ref ob5), .val (.ref bq12)] [])
  refine own_go (fun _ => XS.aload X15.here hx rfl (hb hby at_134) rfl rfl) ?_
  show GG _ _ _ _ _ _ _ T15 (mkF m 136 #[.val (.int p0), .val (.int p1), .val (.long q2), .second, .val (.int x2), .val (.int x4), .val (.ref ob5), .val (.ref bq12)] [(.ref bq12)])
  refine own_go (fun _ => XS.aload X15.here hx rfl (hb hby at_136) rfl rfl) ?_
  show GG _ _ _ _ _ _ _ T15 (mkF m 138 #[.val (.int p0), .val (.int p1), .val (.long q2), .second, .val (.int x2), .val (.int x4), .val (.ref ob5), .val (.ref bq12)] [(.ref ob5), (.ref bq12)])
  refine own_go (fun _ => XS.iconst X15.here hx rfl (hb hby at_138)) ?_
  show GG _ _ _ _ _ _ _ T15 (mkF m 139 #[.val (.int p0), .val (.int p1), .val (.long q2), .second, .val (.int x2), .val (.int x4), .val (.ref ob5), .val (.ref bq12)] [(.int (3 : Int32)), (.ref ob5), (.ref bq12)])
  refine own_callS X15 hx hZ (y := (⟨"com/example/deft_shards/deftshards/cluster/KMeansMembersPinLaw", "sizeOk", "([[I[II)Z"⟩ : MethodName)) 0 hown (hw _ (List.mem_of_getElem? (i := 12) rfl)) (hw _ (List.mem_of_getElem? (i := 13) rfl)) (hw _ (List.mem_of_getElem? (i := 3) rfl)) (hw _ (List.mem_of_getElem? (i := 14) rfl)) (by decide) (argsL := [(.ref bq12), (.ref ob5), (.int (3 : Int32))]) (rest := []) (rm3 l Z a0 hw [] bq12 ob5 (3 : Int32) mq11 rs 3 T12.heap n0 (Nat.le_trans Z0 K0.1) Vq12 Vq11 Rq12 hrs4 hn11 (by decide)) (by decide) (by decide) (by decide) (by decide) (g := (mkF m 139 #[.val (.int p0), .val (.int p1), .val (.long q2), .second, .val (.int x2), .val (.int x4), .val (.ref ob5), .val (.ref bq12)] [(.int (3 : Int32)), (.ref ob5), (.ref bq12)])) rfl (by rw [hml]; rfl) (lenOf pd____I_II_Z_663 rfl) rfl (by show 2 * 0 + _ ≤ _; exact Nat.le_of_eq rfl) (hb hby at_139) hh15 ?_
  rintro v16 T16 L16 X16 ⟨rfl, N16q, hh16⟩
  have N16 := Fr.app N15 N16q
  show GG _ _ _ _ _ _ _ T16 (mkF m 142 #[.val (.int p0), .val (.int p1), .val (.long q2), .second, .val (.int x2), .val (.int x4), .val (.ref ob5), .val (.ref bq12)] [(.int (1 : Int32))])
  have hc142 : ¬ ((1 : Int32) = (0 : Int32)) := by decide
  refine own_go (fun _ => XS.ifYes X16.here hx rfl (pc0 := 142) (pc' := 147) rfl (hb hby at_142) rfl ((if0 _ _).trans (feq hc142).2) (by decide) (by decide)) ?_
  show GG _ _ _ _ _ _ _ T16 (mkF m 147 #[.val (.int p0), .val (.int p1), .val (.long q2), .second, .val (.int x2), .val (.int x4), .val (.ref ob5), .val (.ref bq12)] [])
  refine own_go (fun _ => XS.aload X16.here hx rfl (hb hby at_147) rfl rfl) ?_
  show GG _ _ _ _ _ _ _ T16 (mkF m 149 #[.val (.int p0), .val (.int p1), .val (.long q2), .second, .val (.int x2), .val (.int x4), .val (.ref ob5), .val (.ref bq12)] [(.ref bq12)])
  refine own_go (fun _ => XS.aload X16.here hx rfl (hb hby at_149) rfl rfl) ?_
  show GG _ _ _ _ _ _ _ T16 (mkF m 151 #[.val (.int p0), .val (.int p1), .val (.long q2), .second, .val (.int x2), .val (.int x4), .val (.ref ob5), .val (.ref bq12)] [(.ref ob5), (.ref bq12)])
  refine own_go (fun _ => XS.iconst X16.here hx rfl (hb hby at_151)) ?_
  show GG _ _ _ _ _ _ _ T16 (mkF m 152 #[.val (.int p0), .val (.int p1), .val (.long q2), .second, .val (.int x2), .val (.int x4), .val (.ref ob5), .val (.ref bq12)] [(.int (0 : Int32)), (.ref ob5), (.ref bq12)])
  refine own_callS X16 hx hZ (y := (⟨"com/example/deft_shards/deftshards/cluster/KMeansMembersPinLaw", "docOk", "([[I[II)Z"⟩ : MethodName)) 0 hown (hw _ (List.mem_of_getElem? (i := 15) rfl)) (hw _ (List.mem_of_getElem? (i := 16) rfl)) (hw _ (List.mem_of_getElem? (i := 3) rfl)) (hw _ (List.mem_of_getElem? (i := 17) rfl)) (by decide) (argsL := [(.ref bq12), (.ref ob5), (.int (0 : Int32))]) (rest := []) (rm4 l Z a0 hw [] bq12 ob5 (0 : Int32) mq11 rs 0 T12.heap n0 (Nat.le_trans Z0 K0.1) Vq12 Vq11 Rq12 hrs4 hn11 (by decide) (by decide) hGd) (by decide) (by decide) (by decide) (by decide) (g := (mkF m 152 #[.val (.int p0), .val (.int p1), .val (.long q2), .second, .val (.int x2), .val (.int x4), .val (.ref ob5), .val (.ref bq12)] [(.int (0 : Int32)), (.ref ob5), (.ref bq12)])) rfl (by rw [hml]; rfl) (lenOf pd____I_II_Z_663 rfl) rfl (by show 2 * 0 + _ ≤ _; exact Nat.le_of_eq rfl) (hb hby at_152) hh16 ?_
  rintro v17 T17 L17 X17 ⟨rfl, N17q, hh17⟩
  have N17 := Fr.app N16 N17q
  show GG _ _ _ _ _ _ _ T17 (mkF m 155 #[.val (.int p0), .val (.int p1), .val (.long q2), .second, .val (.int x2), .val (.int x4), .val (.ref ob5), .val (.ref bq12)] [(.int (1 : Int32))])
  have hc155 : ¬ ((1 : Int32) = (0 : Int32)) := by decide
  refine own_go (fun _ => XS.ifNo X17.here hx rfl (hb hby at_155) rfl ((if0 _ _).trans (feq hc155).1)) ?_
  show GG _ _ _ _ _ _ _ T17 (mkF m 158 #[.val (.int p0), .val (.int p1), .val (.long q2), .second, .val (.int x2), .val (.int x4), .val (.ref ob5), .val (.ref bq12)] [])
  refine own_go (fun _ => XS.aload X17.here hx rfl (hb hby at_158) rfl rfl) ?_
  show GG _ _ _ _ _ _ _ T17 (mkF m 160 #[.val (.int p0), .val (.int p1), .val (.long q2), .second, .val (.int x2), .val (.int x4), .val (.ref ob5), .val (.ref bq12)] [(.ref bq12)])
  refine own_go (fun _ => XS.aload X17.here hx rfl (hb hby at_160) rfl rfl) ?_
  show GG _ _ _ _ _ _ _ T17 (mkF m 162 #[.val (.int p0), .val (.int p1), .val (.long q2), .second, .val (.int x2), .val (.int x4), .val (.ref ob5), .val (.ref bq12)] [(.ref ob5), (.ref bq12)])
  refine own_go (fun _ => XS.iconst X17.here hx rfl (hb hby at_162)) ?_
  show GG _ _ _ _ _ _ _ T17 (mkF m 163 #[.val (.int p0), .val (.int p1), .val (.long q2), .second, .val (.int x2), .val (.int x4), .val (.ref ob5), .val (.ref bq12)] [(.int (1 : Int32)), (.ref ob5), (.ref bq12)])
  refine own_callS X17 hx hZ (y := (⟨"com/example/deft_shards/deftshards/cluster/KMeansMembersPinLaw", "docOk", "([[I[II)Z"⟩ : MethodName)) 0 hown (hw _ (List.mem_of_getElem? (i := 15) rfl)) (hw _ (List.mem_of_getElem? (i := 16) rfl)) (hw _ (List.mem_of_getElem? (i := 3) rfl)) (hw _ (List.mem_of_getElem? (i := 17) rfl)) (by decide) (argsL := [(.ref bq12), (.ref ob5), (.int (1 : Int32))]) (rest := []) (rm4 l Z a0 hw [] bq12 ob5 (1 : Int32) mq11 rs 1 T12.heap n0 (Nat.le_trans Z0 K0.1) Vq12 Vq11 Rq12 hrs4 hn11 (by decide) (by decide) hGd) (by decide) (by decide) (by decide) (by decide) (g := (mkF m 163 #[.val (.int p0), .val (.int p1), .val (.long q2), .second, .val (.int x2), .val (.int x4), .val (.ref ob5), .val (.ref bq12)] [(.int (1 : Int32)), (.ref ob5), (.ref bq12)])) rfl (by rw [hml]; rfl) (lenOf pd____I_II_Z_663 rfl) rfl (by show 2 * 0 + _ ≤ _; exact Nat.le_of_eq rfl) (hb hby at_163) hh17 ?_
  rintro v18 T18 L18 X18 ⟨rfl, N18q, hh18⟩
  have N18 := Fr.app N17 N18q
  show GG _ _ _ _ _ _ _ T18 (mkF m 166 #[.val (.int p0), .val (.int p1), .val (.long q2), .second, .val (.int x2), .val (.int x4), .val (.ref ob5), .val (.ref bq12)] [(.int (1 : Int32))])
  have hc166 : ¬ ((1 : Int32) = (0 : Int32)) := by decide
  refine own_go (fun _ => XS.ifNo X18.here hx rfl (hb hby at_166) rfl ((if0 _ _).trans (feq hc166).1)) ?_
  show GG _ _ _ _ _ _ _ T18 (mkF m 169 #[.val (.int p0), .val (.int p1), .val (.long q2), .second, .val (.int x2), .val (.int x4), .val (.ref ob5), .val (.ref bq12)] [])
  refine own_go (fun _ => XS.aload X18.here hx rfl (hb hby at_169) rfl rfl) ?_
  show GG _ _ _ _ _ _ _ T18 (mkF m 171 #[.val (.int p0), .val (.int p1), .val (.long q2), .second, .val (.int x2), .val (.int x4), .val (.ref ob5), .val (.ref bq12)] [(.ref bq12)])
  refine own_go (fun _ => XS.aload X18.here hx rfl (hb hby at_171) rfl rfl) ?_
  show GG _ _ _ _ _ _ _ T18 (mkF m 173 #[.val (.int p0), .val (.int p1), .val (.long q2), .second, .val (.int x2), .val (.int x4), .val (.ref ob5), .val (.ref bq12)] [(.ref ob5), (.ref bq12)])
  refine own_go (fun _ => XS.iconst X18.here hx rfl (hb hby at_173)) ?_
  show GG _ _ _ _ _ _ _ T18 (mkF m 174 #[.val (.int p0), .val (.int p1), .val (.long q2), .second, .val (.int x2), .val (.int x4), .val (.ref ob5), .val (.ref bq12)] [(.int (2 : Int32)), (.ref ob5), (.ref bq12)])
  refine own_callS X18 hx hZ (y := (⟨"com/example/deft_shards/deftshards/cluster/KMeansMembersPinLaw", "docOk", "([[I[II)Z"⟩ : MethodName)) 0 hown (hw _ (List.mem_of_getElem? (i := 15) rfl)) (hw _ (List.mem_of_getElem? (i := 16) rfl)) (hw _ (List.mem_of_getElem? (i := 3) rfl)) (hw _ (List.mem_of_getElem? (i := 17) rfl)) (by decide) (argsL := [(.ref bq12), (.ref ob5), (.int (2 : Int32))]) (rest := []) (rm4 l Z a0 hw [] bq12 ob5 (2 : Int32) mq11 rs 2 T12.heap n0 (Nat.le_trans Z0 K0.1) Vq12 Vq11 Rq12 hrs4 hn11 (by decide) (by decide) hGd) (by decide) (by decide) (by decide) (by decide) (g := (mkF m 174 #[.val (.int p0), .val (.int p1), .val (.long q2), .second, .val (.int x2), .val (.int x4), .val (.ref ob5), .val (.ref bq12)] [(.int (2 : Int32)), (.ref ob5), (.ref bq12)])) rfl (by rw [hml]; rfl) (lenOf pd____I_II_Z_663 rfl) rfl (by show 2 * 0 + _ ≤ _; exact Nat.le_of_eq rfl) (hb hby at_174) hh18 ?_
  rintro v19 T19 L19 X19 ⟨rfl, N19q, hh19⟩
  have N19 := Fr.app N18 N19q
  show GG _ _ _ _ _ _ _ T19 (mkF m 177 #[.val (.int p0), .val (.int p1), .val (.long q2), .second, .val (.int x2), .val (.int x4), .val (.ref ob5), .val (.ref bq12)] [(.int (1 : Int32))])
  have hc177 : ¬ ((1 : Int32) = (0 : Int32)) := by decide
  refine own_go (fun _ => XS.ifNo X19.here hx rfl (hb hby at_177) rfl ((if0 _ _).trans (feq hc177).1)) ?_
  show GG _ _ _ _ _ _ _ T19 (mkF m 180 #[.val (.int p0), .val (.int p1), .val (.long q2), .second, .val (.int x2), .val (.int x4), .val (.ref ob5), .val (.ref bq12)] [])
  refine own_go (fun _ => XS.aload X19.here hx rfl (hb hby at_180) rfl rfl) ?_
  show GG _ _ _ _ _ _ _ T19 (mkF m 182 #[.val (.int p0), .val (.int p1), .val (.long q2), .second, .val (.int x2), .val (.int x4), .val (.ref ob5), .val (.ref bq12)] [(.ref bq12)])
  refine own_go (fun _ => XS.aload X19.here hx rfl (hb hby at_182) rfl rfl) ?_
  show GG _ _ _ _ _ _ _ T19 (mkF m 184 #[.val (.int p0), .val (.int p1), .val (.long q2), .second, .val (.int x2), .val (.int x4), .val (.ref ob5), .val (.ref bq12)] [(.ref ob5), (.ref bq12)])
  refine own_go (fun _ => XS.iconst X19.here hx rfl (hb hby at_184)) ?_
  show GG _ _ _ _ _ _ _ T19 (mkF m 185 #[.val (.int p0), .val (.int p1), .val (.long q2), .second, .val (.int x2), .val (.int x4), .val (.ref ob5), .val (.ref bq12)] [(.int (3 : Int32)), (.ref ob5), (.ref bq12)])
  refine own_callS X19 hx hZ (y := (⟨"com/example/deft_shards/deftshards/cluster/KMeansMembersPinLaw", "docOk", "([[I[II)Z"⟩ : MethodName)) 0 hown (hw _ (List.mem_of_getElem? (i := 15) rfl)) (hw _ (List.mem_of_getElem? (i := 16) rfl)) (hw _ (List.mem_of_getElem? (i := 3) rfl)) (hw _ (List.mem_of_getElem? (i := 17) rfl)) (by decide) (argsL := [(.ref bq12), (.ref ob5), (.int (3 : Int32))]) (rest := []) (rm4 l Z a0 hw [] bq12 ob5 (3 : Int32) mq11 rs 3 T12.heap n0 (Nat.le_trans Z0 K0.1) Vq12 Vq11 Rq12 hrs4 hn11 (by decide) (by decide) hGd) (by decide) (by decide) (by decide) (by decide) (g := (mkF m 185 #[.val (.int p0), .val (.int p1), .val (.long q2), .second, .val (.int x2), .val (.int x4), .val (.ref ob5), .val (.ref bq12)] [(.int (3 : Int32)), (.ref ob5), (.ref bq12)])) rfl (by rw [hml]; rfl) (lenOf pd____I_II_Z_663 rfl) rfl (by show 2 * 0 + _ ≤ _; exact Nat.le_of_eq rfl) (hb hby at_185) hh19 ?_
  rintro v20 T20 L20 X20 ⟨rfl, N20q, hh20⟩
  have N20 := Fr.app N19 N20q
  show GG _ _ _ _ _ _ _ T20 (mkF m 188 #[.val (.int p0), .val (.int p1), .val (.long q2), .second, .val (.int x2), .val (.int x4), .val (.ref ob5), .val (.ref bq12)] [(.int (1 : Int32))])
  have hc188 : ¬ ((1 : Int32) = (0 : Int32)) := by decide
  refine own_go (fun _ => XS.ifNo X20.here hx rfl (hb hby at_188) rfl ((if0 _ _).trans (feq hc188).1)) ?_
  show GG _ _ _ _ _ _ _ T20 (mkF m 191 #[.val (.int p0), .val (.int p1), .val (.long q2), .second, .val (.int x2), .val (.int x4), .val (.ref ob5), .val (.ref bq12)] [])
  refine own_go (fun _ => XS.aload X20.here hx rfl (hb hby at_191) rfl rfl) ?_
  show GG _ _ _ _ _ _ _ T20 (mkF m 193 #[.val (.int p0), .val (.int p1), .val (.long q2), .second, .val (.int x2), .val (.int x4), .val (.ref ob5), .val (.ref bq12)] [(.ref bq12)])
  refine own_go (fun _ => XS.aload X20.here hx rfl (hb hby at_193) rfl rfl) ?_
  show GG _ _ _ _ _ _ _ T20 (mkF m 195 #[.val (.int p0), .val (.int p1), .val (.long q2), .second, .val (.int x2), .val (.int x4), .val (.ref ob5), .val (.ref bq12)] [(.ref ob5), (.ref bq12)])
  refine own_go (fun _ => XS.iconst X20.here hx rfl (hb hby at_195)) ?_
  show GG _ _ _ _ _ _ _ T20 (mkF m 196 #[.val (.int p0), .val (.int p1), .val (.long q2), .second, .val (.int x2), .val (.int x4), .val (.ref ob5), .val (.ref bq12)] [(.int (4 : Int32)), (.ref ob5), (.ref bq12)])
  refine own_callS X20 hx hZ (y := (⟨"com/example/deft_shards/deftshards/cluster/KMeansMembersPinLaw", "docOk", "([[I[II)Z"⟩ : MethodName)) 0 hown (hw _ (List.mem_of_getElem? (i := 15) rfl)) (hw _ (List.mem_of_getElem? (i := 16) rfl)) (hw _ (List.mem_of_getElem? (i := 3) rfl)) (hw _ (List.mem_of_getElem? (i := 17) rfl)) (by decide) (argsL := [(.ref bq12), (.ref ob5), (.int (4 : Int32))]) (rest := []) (rm4 l Z a0 hw [] bq12 ob5 (4 : Int32) mq11 rs 4 T12.heap n0 (Nat.le_trans Z0 K0.1) Vq12 Vq11 Rq12 hrs4 hn11 (by decide) (by decide) hGd) (by decide) (by decide) (by decide) (by decide) (g := (mkF m 196 #[.val (.int p0), .val (.int p1), .val (.long q2), .second, .val (.int x2), .val (.int x4), .val (.ref ob5), .val (.ref bq12)] [(.int (4 : Int32)), (.ref ob5), (.ref bq12)])) rfl (by rw [hml]; rfl) (lenOf pd____I_II_Z_663 rfl) rfl (by show 2 * 0 + _ ≤ _; exact Nat.le_of_eq rfl) (hb hby at_196) hh20 ?_
  rintro v21 T21 L21 X21 ⟨rfl, N21q, hh21⟩
  have N21 := Fr.app N20 N21q
  show GG _ _ _ _ _ _ _ T21 (mkF m 199 #[.val (.int p0), .val (.int p1), .val (.long q2), .second, .val (.int x2), .val (.int x4), .val (.ref ob5), .val (.ref bq12)] [(.int (1 : Int32))])
  have hc199 : ¬ ((1 : Int32) = (0 : Int32)) := by decide
  refine own_go (fun _ => XS.ifNo X21.here hx rfl (hb hby at_199) rfl ((if0 _ _).trans (feq hc199).1)) ?_
  show GG _ _ _ _ _ _ _ T21 (mkF m 202 #[.val (.int p0), .val (.int p1), .val (.long q2), .second, .val (.int x2), .val (.int x4), .val (.ref ob5), .val (.ref bq12)] [])
  refine own_go (fun _ => XS.aload X21.here hx rfl (hb hby at_202) rfl rfl) ?_
  show GG _ _ _ _ _ _ _ T21 (mkF m 204 #[.val (.int p0), .val (.int p1), .val (.long q2), .second, .val (.int x2), .val (.int x4), .val (.ref ob5), .val (.ref bq12)] [(.ref bq12)])
  refine own_go (fun _ => XS.aload X21.here hx rfl (hb hby at_204) rfl rfl) ?_
  show GG _ _ _ _ _ _ _ T21 (mkF m 206 #[.val (.int p0), .val (.int p1), .val (.long q2), .second, .val (.int x2), .val (.int x4), .val (.ref ob5), .val (.ref bq12)] [(.ref ob5), (.ref bq12)])
  refine own_go (fun _ => XS.iconst X21.here hx rfl (hb hby at_206)) ?_
  show GG _ _ _ _ _ _ _ T21 (mkF m 207 #[.val (.int p0), .val (.int p1), .val (.long q2), .second, .val (.int x2), .val (.int x4), .val (.ref ob5), .val (.ref bq12)] [(.int (5 : Int32)), (.ref ob5), (.ref bq12)])
  refine own_callS X21 hx hZ (y := (⟨"com/example/deft_shards/deftshards/cluster/KMeansMembersPinLaw", "docOk", "([[I[II)Z"⟩ : MethodName)) 0 hown (hw _ (List.mem_of_getElem? (i := 15) rfl)) (hw _ (List.mem_of_getElem? (i := 16) rfl)) (hw _ (List.mem_of_getElem? (i := 3) rfl)) (hw _ (List.mem_of_getElem? (i := 17) rfl)) (by decide) (argsL := [(.ref bq12), (.ref ob5), (.int (5 : Int32))]) (rest := []) (rm4 l Z a0 hw [] bq12 ob5 (5 : Int32) mq11 rs 5 T12.heap n0 (Nat.le_trans Z0 K0.1) Vq12 Vq11 Rq12 hrs4 hn11 (by decide) (by decide) hGd) (by decide) (by decide) (by decide) (by decide) (g := (mkF m 207 #[.val (.int p0), .val (.int p1), .val (.long q2), .second, .val (.int x2), .val (.int x4), .val (.ref ob5), .val (.ref bq12)] [(.int (5 : Int32)), (.ref ob5), (.ref bq12)])) rfl (by rw [hml]; rfl) (lenOf pd____I_II_Z_663 rfl) rfl (by show 2 * 0 + _ ≤ _; exact Nat.le_of_eq rfl) (hb hby at_207) hh21 ?_
  rintro v22 T22 L22 X22 ⟨rfl, N22q, hh22⟩
  have N22 := Fr.app N21 N22q
  show GG _ _ _ _ _ _ _ T22 (mkF m 210 #[.val (.int p0), .val (.int p1), .val (.long q2), .second, .val (.int x2), .val (.int x4), .val (.ref ob5), .val (.ref bq12)] [(.int (1 : Int32))])
  have hc210 : ¬ ((1 : Int32) = (0 : Int32)) := by decide
  refine own_go (fun _ => XS.ifNo X22.here hx rfl (hb hby at_210) rfl ((if0 _ _).trans (feq hc210).1)) ?_
  show GG _ _ _ _ _ _ _ T22 (mkF m 213 #[.val (.int p0), .val (.int p1), .val (.long q2), .second, .val (.int x2), .val (.int x4), .val (.ref ob5), .val (.ref bq12)] [])
  refine own_go (fun _ => XS.iconst X22.here hx rfl (hb hby at_213)) ?_
  show GG _ _ _ _ _ _ _ T22 (mkF m 214 #[.val (.int p0), .val (.int p1), .val (.long q2), .second, .val (.int x2), .val (.int x4), .val (.ref ob5), .val (.ref bq12)] [(.int (1 : Int32))])
  refine own_go (fun _ => XS.goto X22.here hx rfl (pc0 := 214) (pc' := 218) rfl (hb hby at_214) (by decide) (by decide)) ?_
  show GG _ _ _ _ _ _ _ T22 (mkF m 218 #[.val (.int p0), .val (.int p1), .val (.long q2), .second, .val (.int x2), .val (.int x4), .val (.ref ob5), .val (.ref bq12)] [(.int (1 : Int32))])
  refine own_ret X22 hx hlk (t := .boolean) (w := (.int (1 : Int32))) Bd.returns rfl (Or.inl ⟨rfl, by simp, _, rfl⟩) (hb hby at_218) (by decide) (by decide) ?_
  show Q0 Z p0 p1 q2 h0 n0 (some (.int (1 : Int32))) T22.heap _
  rw [hh22]
  exact ⟨rfl, N22⟩
set_option maxRecDepth 65536 in
set_option maxHeartbeats 40000000 in
theorem comes_1 {Post : Tables → Env → Array Value → State → Outcome → State → Prop} (hpost : ∀ tb e args s v u, (limb_1_1.after args s (.returned v) u = true ∧ limb_1_2.after args s (.returned v) u = true ∧ True) → FrameEnd s (.returned v) u (Jvm.fieldLocs frame_1_writes args s ++ Jvm.arrayLocs frame_1_arrays args s ++ Jvm.staticLocs frame_1_statics s) 24 128 → Post tb e args s (.returned v) u) :
    ArmFor flags0 classFile x code maxLocals ret World_1 tables_1 room_1 Calls_1 rest_1 Pre_1 Post := by
  intro l hfl _ _ p e ha hc hk s m args below hf hA hF happ hP
  obtain ⟨hcalls, hrest, hpre⟩ := hP
  obtain ⟨-, -, -, hnamed, -, -, -, hat⟩ := (Spec.applies_iff hf).mp happ
  obtain ⟨hg, hn⟩ := and_e (Cond.before_iff.mp (show (Jvm.Cond.and given_1 narrow_1).before args s = true from hpre))
  obtain ⟨g1, g2⟩ := and_e hg
  obtain ⟨g3, g4⟩ := and_e g2
  obtain ⟨g5, g6⟩ := and_e g4
  obtain ⟨w0, w1, w2, rfl⟩ : ∃ w0 w1 w2 : Value, args = #[w0, w1, w2] := by
    have hs : args.size = 3 := by simpa [Cond.value, given_1] using g1
    obtain ⟨L⟩ := args
    match L, hs with
    | [w0, w1, w2], _ => exact ⟨w0, w1, w2, rfl⟩
  have hw := fun d (hd : d ∈ tables_1) => atoms_spec (ws := Jvm.Cond.code x code maxLocals ret :: tables_1) hat d (List.mem_cons_of_mem _ hd)
  have hfit : Fit s := fun {y c} hc i hi => by
    obtain ⟨ha, rfl⟩ := Array.getElem?_eq_some_iff.mp hc
    have q := List.all_eq_true.mp ((Array.all_eq_true_iff_forall_mem.mp hF) _ (Array.getElem_mem ha)) i (List.mem_range.mpr hi)
    simpa [Array.getElem?_eq_getElem hi] using q
  obtain ⟨i0, ei0⟩ := is_v g3
  obtain rfl : w0 = (.int i0) := Option.some.inj ei0
  obtain ⟨i1, ei1⟩ := is_v g5
  obtain rfl : w1 = (.int i1) := Option.some.inj ei1
  obtain ⟨i2, ei2⟩ := isL_v g6
  obtain rfl : w2 = (.long i2) := Option.some.inj ei2
  obtain ⟨n, o, h1, h2, h3, _, L, rfl, ⟨rfl, N⟩, hq⟩ := rm0 l s _ hw tables_1 i0 i1 i2 s.heap s.heap.size (Nat.le_refl _)  p e ha hc hk s m _ below hf ((Spec.applies_iff_loose hf).mp happ).1 ⟨rfl, State.Warmed39.refl s, rfl⟩ trivial
  refine ⟨n, _, h1, h2, h3, hpost _ _ _ _ _ _ ⟨Cond.after_iff.mpr rfl, Cond.after_iff.mpr (eq_i res_at (Term.int_eval (1)) rfl), trivial⟩ ⟨hq.1, hq.2.1, (hq.2.2.sift fun y hy => Or.inr (N y hy)).mono (by decide) (by decide)⟩⟩
theorem main_1_1 : Claimed_1_1 := comes_1 fun _ _ _ _ _ _ h hF => ⟨h.1, hF⟩
theorem main_1_2 : Claimed_1_2 := comes_1 fun _ _ _ _ _ _ h hF => ⟨h.2.1, hF⟩
end Jvm.Pilot.@@N@@
namespace Jvm.Pilot.@@N@@
open Jvm Jvm.ClassFile Sem Op Lib Jvm.Free Jvm.Stand Jvm.Pilot.@@N@@.Jvm.D
/-! MADE BY PROGRAM (witnessworld.py) out of the Statement's table words and the real class files: 9 classes; the members and pool entries that the words name. The judged class is class 1, her method 1. -/
namespace start1
open Jvm.ClassFile
def u (s : String) : CpInfo := .utf8 (stringToUtf16 s)
/-- a pool by its gaps: so many unusable entries, then the entry; so many at the end -/
def gap : Nat → List CpInfo → List CpInfo
  | 0, r => r
  | n + 1, r => .unusable :: gap n r
def poolList (es : List (Nat × CpInfo)) (last : Nat) : List CpInfo := es.foldr (fun e r => gap e.1 (e.2 :: r)) (gap last [])
def pool (es : List (Nat × CpInfo)) (last : Nat) : Array CpInfo := ⟨poolList es last⟩
def fileOf (pool : Array CpInfo) (this : Nat) (attrs : Array Attribute := #[]) (ms : Array MethodInfo := #[]) (fl : Nat := 33) (sup : Nat := 0) (ifs : Array Nat := #[]) (fds : Array FieldInfo := #[]) : ClassFile where
  minorVersion := 0
  majorVersion := 65
  constantPool := pool
  accessFlags := fl
  thisClass := this
  superClass := sup
  interfaces := ifs
  fields := fds
  methods := ms
  attributes := attrs
def plain (name : String) (sup : Option ClassId) : Class where
  name := name
  kind := .ordinary
  loader := none
  accessFlags := 33
  super := sup
  interfaces := #[]
  cf := none
  fields := #[]
  methods := #[]
  instanceTypes := #[]
  staticTypes := #[]
  resolved := #[]
  callSites := []
  init := .initialized
  statics := none
  mirror := none

def pool0 : Array CpInfo := pool [(5, u "<init>"), (0, u "()V"), (1, .class_ 10), (1, u "java/lang/Object")] 113

def k0m0 : Method := { name := "<init>", desc := "()V", sig := { parameters := [], returnType := none }, accessFlags := 1, code := none }
/-- java/lang/Object -/
def k0 : Class := { plain "java/lang/Object" none with
  accessFlags := 33
  interfaces := #[]
  cf := some (fileOf pool0 8 #[] #[{ accessFlags := 1, nameIndex := 5, descriptorIndex := 6, attributes := #[] }] 33 0 #[] #[])
  fields := #[]
  methods := #[k0m0]
  instanceTypes := #[]
  staticTypes := #[]
  resolved := Array.replicate 124 none
  statics := none }

def pool1 : Array CpInfo := pool [(2, .class_ 4), (1, u "java/lang/Object"), (0, u "<init>"), (0, u "()V"), (0, .methodref 8 9), (0, .class_ 10), (0, .nameAndType 11 12), (0, u "com/example/deft_shards/deftshards/cluster/KMeansMembersPinLaw"), (0, u "set"), (0, u "([IIIJ)V"), (0, .methodref 14 15), (0, .class_ 16), (0, .nameAndType 17 18), (0, u "com/example/deft_shards/deftshards/cluster/KMeans"), (0, u "members"), (0, u "([II)[[I"), (0, .methodref 8 20), (0, .nameAndType 21 22), (0, u "sizeOk"), (0, u "([[I[II)Z"), (0, .methodref 8 24), (0, .nameAndType 25 22), (0, u "docOk"), (0, .long 7), (1, .methodref 8 29), (0, .nameAndType 30 31), (0, u "at"), (0, u "([III)I"), (0, .methodref 8 33), (0, .nameAndType 34 31), (0, u "count"), (2, u "law"), (0, u "(IIJ)Z")] 7

def k1m0 : Method := { name := "<init>", desc := "()V", sig := { parameters := [], returnType := none }, accessFlags := 1, code := none }
def k1c1 : Code := { maxStack := 5, maxLocals := 8, code := code, exceptionTable := #[], attributes := #[] }
def k1m1 : Method := { name := "law", desc := "(IIJ)Z", sig := { parameters := [.int, .int, .long], returnType := some .boolean }, accessFlags := 9, code := some k1c1 }
def k1c2 : Code := { maxStack := 5, maxLocals := 6, code := method_3_code, exceptionTable := #[], attributes := #[] }
def k1m2 : Method := { name := "set", desc := "([IIIJ)V", sig := { parameters := [(.array .int), .int, .int, .long], returnType := none }, accessFlags := 10, code := some k1c2 }
def k1c3 : Code := { maxStack := 2, maxLocals := 3, code := method_4_code, exceptionTable := #[], attributes := #[] }
def k1m3 : Method := { name := "at", desc := "([III)I", sig := { parameters := [(.array .int), .int, .int], returnType := some .int }, accessFlags := 10, code := some k1c3 }
def k1c4 : Code := { maxStack := 4, maxLocals := 4, code := method_5_code, exceptionTable := #[], attributes := #[] }
def k1m4 : Method := { name := "count", desc := "([III)I", sig := { parameters := [(.array .int), .int, .int], returnType := some .int }, accessFlags := 10, code := some k1c4 }
def k1c5 : Code := { maxStack := 4, maxLocals := 3, code := method_6_code, exceptionTable := #[], attributes := #[] }
def k1m5 : Method := { name := "sizeOk", desc := "([[I[II)Z", sig := { parameters := [(.array (.array .int)), (.array .int), .int], returnType := some .boolean }, accessFlags := 10, code := some k1c5 }
def k1c6 : Code := { maxStack := 3, maxLocals := 5, code := method_7_code, exceptionTable := #[], attributes := #[] }
def k1m6 : Method := { name := "docOk", desc := "([[I[II)Z", sig := { parameters := [(.array (.array .int)), (.array .int), .int], returnType := some .boolean }, accessFlags := 10, code := some k1c6 }
/-- com/example/deft_shards/deftshards/cluster/KMeansMembersPinLaw -/
def k1 : Class := { plain "com/example/deft_shards/deftshards/cluster/KMeansMembersPinLaw" (some 0) with
  accessFlags := 49
  interfaces := #[]
  cf := some (fileOf pool1 8 #[] #[{ accessFlags := 1, nameIndex := 5, descriptorIndex := 6, attributes := #[] }, { accessFlags := 9, nameIndex := 37, descriptorIndex := 38, attributes := #[] }, { accessFlags := 10, nameIndex := 11, descriptorIndex := 12, attributes := #[] }, { accessFlags := 10, nameIndex := 30, descriptorIndex := 31, attributes := #[] }, { accessFlags := 10, nameIndex := 34, descriptorIndex := 31, attributes := #[] }, { accessFlags := 10, nameIndex := 21, descriptorIndex := 22, attributes := #[] }, { accessFlags := 10, nameIndex := 25, descriptorIndex := 22, attributes := #[] }] 49 2 #[] #[])
  fields := #[]
  methods := #[k1m0, k1m1, k1m2, k1m3, k1m4, k1m5, k1m6]
  instanceTypes := #[]
  staticTypes := #[]
  resolved := Array.replicate 46 none
  statics := none }

def pool2 : Array CpInfo := pool [(2, .class_ 4), (1, u "java/lang/Object"), (55, .class_ 62), (1, u "com/example/deft_shards/deftshards/cluster/KMeans"), (0, u "scores"), (0, u "[D"), (14, u "centroids"), (0, u "Lcom/example/deft_shards/deftshards/cluster/Centroids;"), (0, .class_ 82), (0, u "[I"), (3, u "MAX_ROUNDS"), (0, u "I"), (10, u "members"), (0, u "([II)[[I")] 20

def k2c0 : Code := { maxStack := 6, maxLocals := 7, code := prog_2_method_3_code, exceptionTable := #[], attributes := #[] }
def k2m0 : Method := { name := "members", desc := "([II)[[I", sig := { parameters := [(.array .int), .int], returnType := some (.array (.array .int)) }, accessFlags := 9, code := some k2c0 }
/-- com/example/deft_shards/deftshards/cluster/KMeans -/
def k2 : Class := { plain "com/example/deft_shards/deftshards/cluster/KMeans" (some 0) with
  accessFlags := 49
  interfaces := #[]
  cf := some (fileOf pool2 60 #[] #[{ accessFlags := 9, nameIndex := 98, descriptorIndex := 99, attributes := #[] }] 49 2 #[] #[{ accessFlags := 25, nameIndex := 86, descriptorIndex := 87, attributes := #[] }, { accessFlags := 18, nameIndex := 79, descriptorIndex := 80, attributes := #[] }, { accessFlags := 18, nameIndex := 63, descriptorIndex := 64, attributes := #[] }])
  fields := #[{ name := "MAX_ROUNDS", type := .int, accessFlags := 25, slot := 0, constantValue := 0 }, { name := "centroids", type := (.object "com/example/deft_shards/deftshards/cluster/Centroids"), accessFlags := 18, slot := 0, constantValue := 0 }, { name := "scores", type := (.array .double), accessFlags := 18, slot := 1, constantValue := 0 }]
  methods := #[k2m0]
  instanceTypes := #[(.object "com/example/deft_shards/deftshards/cluster/Centroids"), (.array .double)]
  staticTypes := #[.int]
  resolved := Array.replicate 120 none
  statics := none }

def pool3 : Array CpInfo := pool [(1, u "java/lang/Cloneable"), (0, .class_ 1), (0, u "java/lang/Object"), (0, .class_ 3)] 3

/-- java/lang/Cloneable -/
def k3 : Class := { plain "java/lang/Cloneable" (some 0) with
  accessFlags := 1537
  interfaces := #[]
  cf := some (fileOf pool3 2 #[] #[] 1537 4 #[] #[])
  fields := #[]
  methods := #[]
  instanceTypes := #[]
  staticTypes := #[]
  resolved := Array.replicate 8 none
  statics := none }

def pool4 : Array CpInfo := pool [(1, u "java/io/Serializable"), (0, .class_ 1), (0, u "java/lang/Object"), (0, .class_ 3)] 3

/-- java/io/Serializable -/
def k4 : Class := { plain "java/io/Serializable" (some 0) with
  accessFlags := 1537
  interfaces := #[]
  cf := some (fileOf pool4 2 #[] #[] 1537 4 #[] #[])
  fields := #[]
  methods := #[]
  instanceTypes := #[]
  staticTypes := #[]
  resolved := Array.replicate 8 none
  statics := none }

/-- the primitive byte -/
def k5 : Class := { plain "byte" none with kind := .primitive 'B', accessFlags := 0x411 }
/-- [B -/
def k6 : Class := { plain "[B" (some 0) with kind := .array 5 .byte, interfaces := #[3, 4], accessFlags := 1041 }

/-- the primitive int -/
def k7 : Class := { plain "int" none with kind := .primitive 'I', accessFlags := 0x411 }
/-- [I -/
def k8 : Class := { plain "[I" (some 0) with kind := .array 7 .int, interfaces := #[3, 4], accessFlags := 1041 }

def heap : Heap := #[]
def k9 : Class := { plain "[[I" (some 0) with kind := .array 8 (.array .int), interfaces := #[3, 4], accessFlags := 1041 }
def classes : Array Class := #[k0, k1, k2, k3, k4, k5, k6, k7, k8, k9]
def interned : List (Array UInt16 × Addr) := []
def slotsUsed : Nat := 0
def theMethod : MethodId := ⟨1, 1⟩
def args0 : Array Value := #[.int 3, .int 5, .long 77777]
def aboutOver (below : List Frame) : State where
  vm := { classes := classes, interned := interned.toArray }
  heap := heap
  slotsUsed := slotsUsed
  threads := #[{ frames := .invoking theMethod args0 :: below }]
def below0 : List Frame := [.native { method := ⟨0, 0⟩, args := #[] }]
def about1 : State := aboutOver below0
def p0 : Program := .bare "" "" ""
def e0 : Env := launch0.env 0 0 0
theorem w_frames : about1.frames = Frame.invoking theMethod args0 :: below0 := rfl
set_option maxRecDepth 65536 in
theorem w_args : argsFit about1.vm theMethod args0 = true := by decide +kernel
set_option maxRecDepth 65536 in
theorem w_heap : heapFits about1 = true := by decide +kernel
set_option maxRecDepth 65536 in
theorem w_runnable : about1.curStatus? = some .runnable := by decide +kernel
set_option maxRecDepth 65536 in
theorem w_alone : about1.alone = true := by decide +kernel
set_option maxRecDepth 65536 in
theorem w_named : about1.methodNamed? x = some theMethod := by decide +kernel
set_option maxRecDepth 65536 in
theorem w_hears : about1.hears theMethod below0 = true := by decide +kernel
set_option maxRecDepth 65536 in
theorem w_ripe : about1.ripe theMethod args0 below0 = true := by decide +kernel
theorem w_running : about1.status = .running := rfl
set_option maxRecDepth 65536 in
theorem w_room : about1.hasRoom e0.platform room_1 = true :=
  launch0.hasRoom_least _ room_1 (by decide +kernel) (by decide +kernel) (by decide +kernel) (by decide +kernel) (by decide +kernel) (by decide +kernel)
theorem allAtoms_all (ts : List Jvm.Cond) (a : Array Jvm.Value) (st : Jvm.State) : (allAtoms ts).before a st = ts.all (fun c => c.before a st) := by
  induction ts with
  | nil => rfl
  | cons c t ih =>
    show (Jvm.Cond.and c (allAtoms t)).before a st = _
    rw [Jvm.Cond.before_and, ih, List.all_cons]
def words1 : List Jvm.Cond := Jvm.Cond.code x code maxLocals ret :: tables_1
/-- a 'code' word, met by the world's own term for the bytes: nothing is compared byte by byte -/
theorem code_word {y : MethodName} {bytes : ByteArray} {mx : Nat} {rt : Option FieldType} {a : Array Value} {s : State} {m : MethodId} {meth : Method} {c : Code} (h1 : s.methodNamed? y = some m) (h2 : s.vm.method? m = some meth) (h3 : meth.code = some c) (h4 : c.code = bytes)
    (h5 : (c.maxLocals == mx && c.exceptionTable.isEmpty && decide (c.maxStack ≤ mostOperands) && decide (meth.sig.returnType = rt) && !meth.locks && decide (parseMethodDescriptor y.desc = some meth.sig)) = true) : (Jvm.Cond.code y bytes mx rt).before a s = true := by
  simp only [Bool.and_eq_true, beq_iff_eq, Bool.not_eq_true', decide_eq_true_eq] at h5
  obtain ⟨⟨⟨⟨⟨g1, g2⟩, g3⟩, g4⟩, g5⟩, g6⟩ := h5
  simp [Cond.before, Cond.holds, Cond.value, h1, h2, h3, h4, g1, g2, g3, g4, g5, g6]
def isCode : Jvm.Cond → Bool
  | .code _ _ _ _ => true
  | _ => false
theorem all_split {L : List Jvm.Cond} {P : Jvm.Cond → Bool} (h1 : L.all (fun c => isCode c || P c) = true) (h2 : ∀ c ∈ L.filter isCode, P c = true) : L.all P = true := by
  refine List.all_eq_true.mpr fun c hc => ?_
  have h := List.all_eq_true.mp h1 c hc
  rcases Bool.eq_false_or_eq_true (isCode c) with hi | hi
  · exact h2 c (List.mem_filter.mpr ⟨hc, hi⟩)
  · simpa [hi] using h
set_option maxRecDepth 65536 in
theorem w_c0 : (Jvm.Cond.code x code maxLocals ret).before args0 about1 = true := code_word (m := ⟨1, 1⟩) (meth := k1m1) (c := k1c1) (by decide +kernel) rfl rfl rfl (by decide +kernel)
set_option maxRecDepth 65536 in
theorem w_c1 : (Jvm.Cond.code ({ cls := "com/example/deft_shards/deftshards/cluster/KMeansMembersPinLaw", name := "set", desc := "([IIIJ)V" } : Jvm.MethodName) method_3_code (6 : Nat) (Option.none : Option Jvm.ClassFile.FieldType)).before args0 about1 = true := code_word (m := ⟨1, 2⟩) (meth := k1m2) (c := k1c2) (by decide +kernel) rfl rfl rfl (by decide +kernel)
set_option maxRecDepth 65536 in
theorem w_c2 : (Jvm.Cond.code ({ cls := "com/example/deft_shards/deftshards/cluster/KMeans", name := "members", desc := "([II)[[I" } : Jvm.MethodName) prog_2_method_3_code (7 : Nat) (Option.some (Jvm.ClassFile.FieldType.array (Jvm.ClassFile.FieldType.array Jvm.ClassFile.FieldType.int)))).before args0 about1 = true := code_word (m := ⟨2, 0⟩) (meth := k2m0) (c := k2c0) (by decide +kernel) rfl rfl rfl (by decide +kernel)
set_option maxRecDepth 65536 in
theorem w_c3 : (Jvm.Cond.code ({ cls := "com/example/deft_shards/deftshards/cluster/KMeansMembersPinLaw", name := "sizeOk", desc := "([[I[II)Z" } : Jvm.MethodName) method_6_code (3 : Nat) (Option.some Jvm.ClassFile.FieldType.boolean)).before args0 about1 = true := code_word (m := ⟨1, 5⟩) (meth := k1m5) (c := k1c5) (by decide +kernel) rfl rfl rfl (by decide +kernel)
set_option maxRecDepth 65536 in
theorem w_c4 : (Jvm.Cond.code ({ cls := "com/example/deft_shards/deftshards/cluster/KMeansMembersPinLaw", name := "docOk", desc := "([[I[II)Z" } : Jvm.MethodName) method_7_code (5 : Nat) (Option.some Jvm.ClassFile.FieldType.boolean)).before args0 about1 = true := code_word (m := ⟨1, 6⟩) (meth := k1m6) (c := k1c6) (by decide +kernel) rfl rfl rfl (by decide +kernel)
set_option maxRecDepth 65536 in
theorem w_c5 : (Jvm.Cond.code ({ cls := "com/example/deft_shards/deftshards/cluster/KMeansMembersPinLaw", name := "count", desc := "([III)I" } : Jvm.MethodName) method_5_code (4 : Nat) (Option.some Jvm.ClassFile.FieldType.int)).before args0 about1 = true := code_word (m := ⟨1, 4⟩) (meth := k1m4) (c := k1c4) (by decide +kernel) rfl rfl rfl (by decide +kernel)
set_option maxRecDepth 65536 in
theorem w_c6 : (Jvm.Cond.code ({ cls := "com/example/deft_shards/deftshards/cluster/KMeansMembersPinLaw", name := "at", desc := "([III)I" } : Jvm.MethodName) method_4_code (3 : Nat) (Option.some Jvm.ClassFile.FieldType.int)).before args0 about1 = true := code_word (m := ⟨1, 3⟩) (meth := k1m3) (c := k1c3) (by decide +kernel) rfl rfl rfl (by decide +kernel)
def codes1 : List Jvm.Cond := [Jvm.Cond.code x code maxLocals ret, Jvm.Cond.code ({ cls := "com/example/deft_shards/deftshards/cluster/KMeansMembersPinLaw", name := "set", desc := "([IIIJ)V" } : Jvm.MethodName) method_3_code (6 : Nat) (Option.none : Option Jvm.ClassFile.FieldType), Jvm.Cond.code ({ cls := "com/example/deft_shards/deftshards/cluster/KMeans", name := "members", desc := "([II)[[I" } : Jvm.MethodName) prog_2_method_3_code (7 : Nat) (Option.some (Jvm.ClassFile.FieldType.array (Jvm.ClassFile.FieldType.array Jvm.ClassFile.FieldType.int))), Jvm.Cond.code ({ cls := "com/example/deft_shards/deftshards/cluster/KMeansMembersPinLaw", name := "sizeOk", desc := "([[I[II)Z" } : Jvm.MethodName) method_6_code (3 : Nat) (Option.some Jvm.ClassFile.FieldType.boolean), Jvm.Cond.code ({ cls := "com/example/deft_shards/deftshards/cluster/KMeansMembersPinLaw", name := "docOk", desc := "([[I[II)Z" } : Jvm.MethodName) method_7_code (5 : Nat) (Option.some Jvm.ClassFile.FieldType.boolean), Jvm.Cond.code ({ cls := "com/example/deft_shards/deftshards/cluster/KMeansMembersPinLaw", name := "count", desc := "([III)I" } : Jvm.MethodName) method_5_code (4 : Nat) (Option.some Jvm.ClassFile.FieldType.int), Jvm.Cond.code ({ cls := "com/example/deft_shards/deftshards/cluster/KMeansMembersPinLaw", name := "at", desc := "([III)I" } : Jvm.MethodName) method_4_code (3 : Nat) (Option.some Jvm.ClassFile.FieldType.int)]
set_option maxRecDepth 65536 in
theorem codes_eq : words1.filter isCode = codes1 := rfl
theorem w_codes : ∀ c ∈ words1.filter isCode, c.before args0 about1 = true := by
  rw [codes_eq]
  intro c hc
  simp only [codes1, List.mem_cons, List.not_mem_nil, or_false] at hc
  rcases hc with rfl | rfl | rfl | rfl | rfl | rfl | rfl
  · exact w_c0
  · exact w_c1
  · exact w_c2
  · exact w_c3
  · exact w_c4
  · exact w_c5
  · exact w_c6
set_option maxRecDepth 65536 in
theorem w_t1 : (words1.take 24).all (fun c => isCode c || c.before args0 about1) = true := by decide +kernel
set_option maxRecDepth 65536 in
theorem w_t2 : (words1.drop 24).all (fun c => isCode c || c.before args0 about1) = true := by decide +kernel
theorem w_tables : (allAtoms (Jvm.Cond.code x code maxLocals ret :: tables_1)).before args0 about1 = true := by
  rw [allAtoms_all]
  show words1.all (fun c => c.before args0 about1) = true
  refine all_split ?_ w_codes
  rw [← List.take_append_drop 24 words1, List.all_append, w_t1, w_t2]
  rfl
set_option maxRecDepth 65536 in
theorem w_case : (Jvm.Cond.and given_1 narrow_1).before args0 about1 = true := by decide +kernel
theorem w_applies : (headSpec (Jvm.Cond.code x code maxLocals ret :: tables_1) room_1).applies x e0.platform about1 = true :=
  (Spec.applies_iff w_frames).mpr ⟨w_running, w_runnable, w_alone, w_named, w_hears, w_ripe, w_room, w_tables⟩
theorem atStart : AtStart classFile x code maxLocals ret World_1 tables_1 room_1 Calls_1 rest_1 Pre_1 launch0 p0 e0 about1 theMethod args0 below0 :=
  ⟨lists_1, trivial, launch0.admits_env _ _ _, launch0.least_env, fairChoices_fair.cas, fairChoices_fair.clock, w_frames, w_args, w_heap, w_applies, trivial, trivial, w_case⟩
end start1
theorem witness_1 : WitnessClaimed_1 := ⟨start1.p0, start1.e0, start1.about1, start1.theMethod, start1.args0, start1.below0, start1.atStart⟩
end Jvm.Pilot.@@N@@
