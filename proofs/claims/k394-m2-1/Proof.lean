import JvmDerived
import JvmDerived.Pilot.@@N@@Statement
import JvmDerived.Pilot.@@N@@Code
set_option linter.unusedVariables false
set_option linter.unusedSimpArgs false
namespace Jvm.Pilot.@@N@@
open Jvm Jvm.ClassFile Sem Op Lib Jvm.Free Jvm.Stand Jvm.LawKit Jvm.RoadKit Bundle Jvm.Pilot.@@N@@.Jvm.D
section Own
variable {p : Program} {l : Launch} {e : Env} {R : Room} {s : State} {m : MethodId} {args : Array Value} {below : List Frame} {meth : Method} {c : Code} {T : State} {locs : List Loc} {cells slots : Nat} {Z : State} {a0 : Array Value} {h h' : Heap} {rc rs : Nat} {Q Qc : Option Value → Heap → List Loc → Prop}
/-- from here the run comes to its end, and leaves what Q says -/
def GG (p : Program) (e : Env) (below : List Frame) (s : State) (rc rs : Nat) (Q : Option Value → Heap → List Loc → Prop) (T : State) (g : JFrame) : Prop :=
  ∃ s₂ o, Steps p.tables e below (T.setTop g) s₂ ∧ s₂.status = .running ∧ Ended s₂ below o ∧ ∃ v L, o = .returned v ∧ Q v s₂.heap L ∧ FrameEnd s o s₂ L rc rs
theorem own_go {T' : State} {g g' : JFrame} (st : ∀ t, Steps p.tables e below (T'.setTop g') t → Steps p.tables e below (T.setTop g) t) (k : GG p e below s rc rs Q T' g') : GG p e below s rc rs Q T g := by
  obtain ⟨s₂, o, h1, h2⟩ := k
  exact ⟨s₂, o, st _ h1, h2⟩
theorem own_in {g g' : JFrame} (q : g = g') (k : GG p e below s rc rs Q T g') : GG p e below s rc rs Q T g := q ▸ k
theorem own_if {g1 g2 : JFrame} {P : Prop} [Decidable P] (k1 : P → GG p e below s rc rs Q T g1) (k2 : ¬ P → GG p e below s rc rs Q T g2) : GG p e below s rc rs Q T (if P then g1 else g2) := by
  by_cases q : P
  · rw [if_pos q]; exact k1 q
  · rw [if_neg q]; exact k2 q
theorem own_join {g g' : JFrame} (k1 : GG p e below s rc rs Q T g' → GG p e below s rc rs Q T g) (k2 : GG p e below s rc rs Q T g') : GG p e below s rc rs Q T g := k1 k2
abbrev own_CT (l : Launch) (Z : State) (y : MethodName) (bytes : ByteArray) (maxL : Nat) (ret : Option FieldType) (ws : List Jvm.Cond) (rm : Room) (as : Array Value) (h : Heap) (Qc : Option Value → Heap → List Loc → Prop) : Prop :=
  MetFree l y (head1 (Jvm.Cond.code y bytes maxL ret :: ws) rm) (fun a U => a = as ∧ Z.Warmed39 U.vm ∧ U.heap = h) (fun _ _ _ _ _ => True) (fun _ U o U' => ∃ v L, o = .returned v ∧ Qc v U'.heap L ∧ FrameEnd U o U' L rm.cells rm.slots)
theorem own_callS (X : Stand p l e R s m args below meth c T locs cells slots) (hx : p.tables.exec = Jvm.exec) (hZ : Z.Warmed39 s.vm) {own : String} {index : Nat} {y : MethodName} {bytes : ByteArray} {maxL : Nat} {ret : Option FieldType} {rm : Room} (W : Nat)
    (hown : s.vm.findClass own = some m.cls) (w1 : (Jvm.Cond.methodLink own index y).before a0 Z = true) (w2 : (Jvm.Cond.static y).before a0 Z = true) (w3 : (Jvm.Cond.initialized y.cls).before a0 Z = true) (w4 : (Jvm.Cond.code y bytes maxL ret).before a0 Z = true)
    (hy : y.cls ≠ "java/lang/invoke/MethodHandle" ∧ y.cls ≠ "java/lang/invoke/VarHandle") {argsL rest : List Value} (hM : own_CT l Z y bytes maxL ret [] rm argsL.toArray h Qc)
    (hf : rm.frames + 1 ≤ R.frames) (hl : W + (maxL + 11) + rm.locals ≤ R.locals) (hc : cells + rm.cells ≤ R.cells) (hs : slots + rm.slots ≤ R.slots)
    {g : JFrame} (hg : g.method = m) (hsize : g.locals.size = c.maxLocals) (hlen : ∀ sig, parseMethodDescriptor y.desc = some sig → argsL.length = sig.parameters.length) (hstack : g.stack = argsL.reverse ++ rest) (hW : 2 * g.monitorRoom + (rest.map fun v => v.category).sum ≤ W)
    (hdg : decode c.code g.pc = .ok (.invokestatic index, 3)) (eT : T.heap = h)
    (k : ∀ (v : Option Value) (T' : State) (L : List Loc), Stand p l e R s m args below meth c T' (locs ++ L) (cells + rm.cells) (slots + rm.slots) → Qc v T'.heap L → GG p e below s rc rs Q T' { g with pc := g.pc + 3, stack := v.toList ++ rest }) : GG p e below s rc rs Q T g := by
  obtain ⟨v, vm₁, ⟨T', L', k', n'⟩, -, X', ⟨L, hQ, q1, q2, q3⟩, st⟩ := Jvm.LawKit.callS X hx hown (mvT hZ w1) (mvT hZ w2) (mvT hZ w3) (mvT hZ w4) hy (backOf (W := W) hM hZ w4 w3 hf hl) hg hsize hlen hstack hW hdg (fun _ _ => ⟨rfl, eT, hc, hs⟩)
  dsimp only [Pt.U, Pt.locs, Pt.cells, Pt.slots] at X' q1 q2 q3 st hQ
  subst q1 q2 q3
  exact own_go st (k v T' L X' hQ)
theorem own_callI (X : Stand p l e R s m args below meth c T locs cells slots) (hx : p.tables.exec = Jvm.exec) (hZ : Z.Warmed39 s.vm) {own : String} {index : Nat} {y : MethodName} {bytes : ByteArray} {maxL : Nat} {rm : Room} (W : Nat) (hy1 : y.name = "<init>")
    (hown : s.vm.findClass own = some m.cls) (w1 : (Jvm.Cond.methodLink own index y).before a0 Z = true) (w2 : (Jvm.Cond.instanceMethod y).before a0 Z = true) (w3 : (Jvm.Cond.initialized y.cls).before a0 Z = true) (w4 : (Jvm.Cond.code y bytes maxL none).before a0 Z = true)
    (hy : y.cls ≠ "java/lang/invoke/MethodHandle" ∧ y.cls ≠ "java/lang/invoke/VarHandle") {a : Addr} {argsL rest : List Value} (hM : own_CT l Z y bytes maxL none [] rm (.ref a :: argsL).toArray h Qc)
    (hf : rm.frames + 1 ≤ R.frames) (hl : W + (maxL + 11) + rm.locals ≤ R.locals) (hc : cells + rm.cells ≤ R.cells) (hs : slots + rm.slots ≤ R.slots)
    {g : JFrame} (hg : g.method = m) (hsize : g.locals.size = c.maxLocals) (hlen : ∀ sig, parseMethodDescriptor y.desc = some sig → argsL.length = sig.parameters.length) (hstack : g.stack = argsL.reverse ++ .ref a :: rest) (hW : 2 * g.monitorRoom + (rest.map fun v => v.category).sum ≤ W)
    (hdg : decode c.code g.pc = .ok (.invokespecial index, 3)) (eT : T.heap = h)
    (k : ∀ (v : Option Value) (T' : State) (L : List Loc), Stand p l e R s m args below meth c T' (locs ++ L) (cells + rm.cells) (slots + rm.slots) → Qc v T'.heap L → GG p e below s rc rs Q T' { g with pc := g.pc + 3, stack := v.toList ++ rest }) : GG p e below s rc rs Q T g := by
  obtain ⟨v, vm₁, ⟨T', L', k', n'⟩, -, X', ⟨L, hQ, q1, q2, q3⟩, st⟩ := X.specialBack hx hy1 hown (mvT hZ w1) (mvT hZ w2) (mvT hZ w4) hy (backOf (W := W) hM hZ w4 w3 hf hl) hg hsize (Steps.refl _) hlen hstack hW hdg (fun _ _ => ⟨rfl, eT, hc, hs⟩)
  dsimp only [Pt.U, Pt.locs, Pt.cells, Pt.slots] at X' q1 q2 q3 st hQ
  subst q1 q2 q3
  exact own_go (fun _ => st.trans) (k v T' L X' hQ)
theorem own_callV (X : Stand p l e R s m args below meth c T locs cells slots) (hx : p.tables.exec = Jvm.exec) (hZ : Z.Warmed39 s.vm) {own C : String} {index : Nat} {y z : MethodName} {bytes : ByteArray} {maxL : Nat} {ret : Option FieldType} {rm : Room} (W : Nat)
    (hown : s.vm.findClass own = some m.cls) (w1 : (Jvm.Cond.methodLink own index y).before a0 Z = true) (w2 : (Jvm.Cond.declares y).before a0 Z = true) (hnf : NotFace s y) (w5 : (Jvm.Cond.selects C y z).before a0 Z = true) (w6 : (Jvm.Cond.instanceMethod z).before a0 Z = true) (w3 : (Jvm.Cond.initialized z.cls).before a0 Z = true) (w4 : (Jvm.Cond.code z bytes maxL ret).before a0 Z = true)
    (hy : y.cls ≠ "java/lang/invoke/MethodHandle" ∧ y.cls ≠ "java/lang/invoke/VarHandle") {a : Addr} {argsL rest : List Value} (hM : own_CT l Z z bytes maxL ret [] rm (.ref a :: argsL).toArray h Qc)
    (hf : rm.frames + 1 ≤ R.frames) (hl : W + (maxL + 11) + rm.locals ≤ R.locals) (hc : cells + rm.cells ≤ R.cells) (hs : slots + rm.slots ≤ R.slots) (E : Exa Z h a C)
    {g : JFrame} (hg : g.method = m) (hsize : g.locals.size = c.maxLocals) (hlen : ∀ sig, parseMethodDescriptor y.desc = some sig → argsL.length = sig.parameters.length) (hstack : g.stack = argsL.reverse ++ .ref a :: rest) (hW : 2 * g.monitorRoom + (rest.map fun v => v.category).sum ≤ W)
    (hdg : decode c.code g.pc = .ok (.invokevirtual index, 3)) (eT : T.heap = h)
    (k : ∀ (v : Option Value) (T' : State) (L : List Loc), Stand p l e R s m args below meth c T' (locs ++ L) (cells + rm.cells) (slots + rm.slots) → Qc v T'.heap L → GG p e below s rc rs Q T' { g with pc := g.pc + 3, stack := v.toList ++ rest }) : GG p e below s rc rs Q T g := by
  obtain ⟨cq, kq, qa, qb, qc⟩ := isOf hZ eT E
  obtain ⟨v, vm₁, ⟨T', L', k', n'⟩, -, X', ⟨L, hQ, q1, q2, q3⟩, st⟩ := X.virtualBack hx hown (mvT hZ w1) (mvT hZ w2) hnf (mvT hZ w5) (mvT hZ w6) hy (backOf (W := W) hM hZ w4 w3 hf hl) qa qc hg hsize (Steps.refl _) hlen hstack hW hdg (fun _ _ => ⟨rfl, eT, hc, hs⟩)
  dsimp only [Pt.U, Pt.locs, Pt.cells, Pt.slots] at X' q1 q2 q3 st hQ
  subst q1 q2 q3
  exact own_go (fun _ => st.trans) (k v T' L X' hQ)
theorem own_callP (X : Stand p l e R s m args below meth c T locs cells slots) (hx : p.tables.exec = Jvm.exec) (hZ : Z.Warmed39 s.vm) {own C : String} {index : Nat} {y : MethodName} {bytes : ByteArray} {maxL : Nat} {ret : Option FieldType} {rm : Room} (W : Nat)
    (hown : s.vm.findClass own = some m.cls) (w1 : (Jvm.Cond.methodLink own index y).before a0 Z = true) (w2 : (Jvm.Cond.instanceMethod y).before a0 Z = true) {kk : Nat} (w5 : (Jvm.Cond.instantiable y.cls kk).before a0 Z = true) (w6 : (Jvm.Cond.privateMethod y).before a0 Z = true) (w3 : (Jvm.Cond.initialized y.cls).before a0 Z = true) (w4 : (Jvm.Cond.code y bytes maxL ret).before a0 Z = true)
    (hy : y.cls ≠ "java/lang/invoke/MethodHandle" ∧ y.cls ≠ "java/lang/invoke/VarHandle") {a : Addr} {argsL rest : List Value} (hM : own_CT l Z y bytes maxL ret [] rm (.ref a :: argsL).toArray h Qc)
    (hf : rm.frames + 1 ≤ R.frames) (hl : W + (maxL + 11) + rm.locals ≤ R.locals) (hc : cells + rm.cells ≤ R.cells) (hs : slots + rm.slots ≤ R.slots) (E : Exa Z h a C)
    {g : JFrame} (hg : g.method = m) (hsize : g.locals.size = c.maxLocals) (hlen : ∀ sig, parseMethodDescriptor y.desc = some sig → argsL.length = sig.parameters.length) (hstack : g.stack = argsL.reverse ++ .ref a :: rest) (hW : 2 * g.monitorRoom + (rest.map fun v => v.category).sum ≤ W)
    (hdg : decode c.code g.pc = .ok (.invokevirtual index, 3)) (eT : T.heap = h)
    (k : ∀ (v : Option Value) (T' : State) (L : List Loc), Stand p l e R s m args below meth c T' (locs ++ L) (cells + rm.cells) (slots + rm.slots) → Qc v T'.heap L → GG p e below s rc rs Q T' { g with pc := g.pc + 3, stack := v.toList ++ rest }) : GG p e below s rc rs Q T g := by
  obtain ⟨cq, q, q'⟩ := E.cell
  have hpr : s.PrivateAt y := Cond.privateMethod_at (mvP hZ w6 (args := #[]))
  obtain ⟨c1, k1, i1, i2, -, i4, -⟩ := Cond.instantiable_spec (show (Jvm.Cond.instantiable y.cls kk).before args s = true from mv hZ w5)
  have hsel : (Jvm.Cond.selects y.cls y y).before args s = true := selects_self_of_private i1 i2 (Bool.or_eq_false_iff.mp i4).1 hpr (mvT hZ w2) hy
  obtain ⟨v, vm₁, ⟨T', L', k', n'⟩, -, X', ⟨L, hQ, q1, q2, q3⟩, st⟩ := X.privateBack hx hown (mvT hZ w1) (mvT hZ w2) hsel hpr (mvT hZ w4) hy (backOf (W := W) hM hZ w4 w3 hf hl) hg hsize (Steps.refl _) (by rw [eT]; exact q) q' hlen hstack hW hdg (fun _ _ => ⟨rfl, eT, hc, hs⟩)
  dsimp only [Pt.U, Pt.locs, Pt.cells, Pt.slots] at X' q1 q2 q3 st hQ
  subst q1 q2 q3
  exact own_go (fun _ => st.trans) (k v T' L X' hQ)
theorem own_ret (X : Stand p l e R s m args below meth c T locs cells slots) (hx : p.tables.exec = Jvm.exec) (hlk : meth.locks = false) {t : FieldType} {w : Value} {i : Instr} {pc : Nat} {Ls : Array Slot} {rest : List Value} (hret : meth.sig.returnType = some t) (hn : narrow t w = w)
    (hi : (i = .ireturn ∧ (t = .int ∨ t = .boolean ∨ t = .byte ∨ t = .char ∨ t = .short) ∧ ∃ z, w = .int z) ∨ (i = .lreturn ∧ t = .long ∧ ∃ z, w = .long z) ∨ (i = .dreturn ∧ t = .double ∧ ∃ z, w = .double z) ∨ (i = .freturn ∧ t = .float ∧ ∃ z, w = .float z) ∨ (i = .areturn ∧ t.isReference = true ∧ w.isRef = true))
    (hd : decode c.code pc = .ok (i, 1)) (hc : cells ≤ rc) (hs : slots ≤ rs) (hQ : Q (some w) T.heap locs) : GG p e below s rc rs Q T (mkF m pc Ls (w :: rest)) := by
  obtain ⟨fs, hr, hrun, hended, hW, hsame⟩ := X.leave (v := some w) (fun h => by rw [hret] at h; cases h) hlk
  exact ⟨_, _, retOut X hx hret hn hi hd hr, hrun, hended, _, _, rfl, hQ, ⟨_, rfl⟩, hW, hsame.mono hc hs⟩
theorem own_retV (X : Stand p l e R s m args below meth c T locs cells slots) (hx : p.tables.exec = Jvm.exec) (hlk : meth.locks = false) {pc : Nat} {Ls : Array Slot} (hret : meth.sig.returnType = none)
    (hd : decode c.code pc = .ok (.return_, 1)) (hc : cells ≤ rc) (hs : slots ≤ rs) (hQ : Q none T.heap locs) : GG p e below s rc rs Q T (mkF m pc Ls []) := by
  obtain ⟨fs, hr, hrun, hended, hW, hsame⟩ := X.leave (v := none) (fun _ => rfl) hlk
  exact ⟨_, _, X.returnOut hx hret hd hr, hrun, hended, _, _, rfl, hQ, ⟨_, rfl⟩, hW, hsame.mono hc hs⟩
theorem own_nZ {P : Prop} [Decidable P] : narrow .boolean (.int (if P then 1 else 0)) = .int (if P then 1 else 0) := by split <;> rfl
/-- an array of values, all of them named -/
def Arx (Z : State) (h : Heap) (a : Addr) (ty : FieldType) (vs : List Value) : Prop := vs.length < 2 ^ 31 ∧ ∃ k dv, Arv Z h a k ty (Int32.ofNat vs.length) vs dv
variable {a b : Addr} {ty : FieldType} {vs : List Value}
theorem own_ofNat {n : Nat} (q : n < 2 ^ 31) : (Int32.ofNat n).toInt = n := Int32.toInt_ofNat_of_lt q
theorem own_clamp {n : Nat} (q : n < 2 ^ 31) : (Int32.ofNat n).toNatClampNeg = n := by simp only [Int32.toNatClampNeg, own_ofNat q]; rfl
theorem Arx.lt (V : Arx Z h a ty vs) : a < h.size := by obtain ⟨_, k, dv, V⟩ := V; exact V.lt
theorem Arx.ext (V : Arx Z h a ty vs) (E : Ext h h') : Arx Z h' a ty vs := by obtain ⟨q, k, dv, V⟩ := V; exact ⟨q, k, dv, V.ext E⟩
theorem Arx.other {sl : Nat} {v : Value} (V : Arx Z h b ty vs) (W : Wr h h' a sl v) (n : b ≠ a) : Arx Z h' b ty vs := by obtain ⟨q, k, dv, V⟩ := V; exact ⟨q, k, dv, V.other W n⟩
theorem Arx.keep {ws : List Addr} (V : Arx Z h a ty vs) (K : Keep h h' ws) (n : a ∉ ws) : Arx Z h' a ty vs := by obtain ⟨q, k, dv, V⟩ := V; exact ⟨q, k, dv, V.keep K n⟩
theorem Arx.open {j : Int32} {v : Value} (V : Arx Z h a ty vs) (h0 : ¬ j < 0) (hv : vs[j.toNatClampNeg]? = some v) : ∃ cl, Arr Z h a cl ty ∧ ¬ (j < 0 ∨ cl.slots.size ≤ j.toNatClampNeg) ∧ cl.slots[j.toNatClampNeg]? = some v := by
  obtain ⟨q, k, dv, cl, A, -, S, -, H, -⟩ := V
  rw [own_clamp q] at S
  have hl := (List.getElem?_eq_some_iff.mp hv).1
  have e := H j.toNatClampNeg (by rw [S]; exact hl)
  rw [List.getD_eq_getElem?_getD, hv] at e
  exact ⟨cl, A, fun q' => q'.elim h0 (by rw [S]; exact Nat.not_le.mpr hl), e⟩
theorem own_len (X : Stand p l e R s m args below meth c T locs cells slots) (hx : p.tables.exec = Jvm.exec) (hZ : Z.Warmed39 s.vm) (eT : T.heap = h) (V : Arx Z h a ty vs) {g : JFrame} (hg : g.method = m) {rest : List Value} (hs : g.stack = .ref a :: rest) (hd : decode c.code g.pc = .ok (.arraylength, 1)) :
    ∀ t, Steps p.tables e below (T.setTop { g with pc := g.pc + 1, stack := .int (Int32.ofNat vs.length) :: rest }) t → Steps p.tables e below (T.setTop g) t := fun t k => by
  obtain ⟨q, k', dv, cl, A, -, S, N, -⟩ := V
  refine X.arraylength hx (by rw [eT]; exact A.1) (State.isArrayOf_alike hZ.alike A.2.1) hg hs hd _ ?_
  rw [len_of S N]; exact k
theorem own_iaload (X : Stand p l e R s m args below meth c T locs cells slots) (hx : p.tables.exec = Jvm.exec) (hZ : Z.Warmed39 s.vm) (eT : T.heap = h) (V : Arx Z h a .int vs) {j : Int32} {v : Value} (h0 : ¬ j < 0) (hv : vs[j.toNatClampNeg]? = some v) {g : JFrame} (hg : g.method = m) {rest : List Value} (hs : g.stack = .int j :: .ref a :: rest) (hd : decode c.code g.pc = .ok (.iaload, 1)) :
    ∀ t, Steps p.tables e below (T.setTop { g with pc := g.pc + 1, stack := v :: rest }) t → Steps p.tables e below (T.setTop g) t := fun t k => by
  obtain ⟨cl, A, h1, h2⟩ := V.open h0 hv
  exact X.iaload hx (by rw [eT]; exact A.1) (State.isArrayOf_alike hZ.alike A.2.1) A.2.2 h1 h2 hg hs hd _ k
theorem own_laload (X : Stand p l e R s m args below meth c T locs cells slots) (hx : p.tables.exec = Jvm.exec) (hZ : Z.Warmed39 s.vm) (eT : T.heap = h) (V : Arx Z h a .long vs) {j : Int32} {v : Value} (h0 : ¬ j < 0) (hv : vs[j.toNatClampNeg]? = some v) {g : JFrame} (hg : g.method = m) {rest : List Value} (hs : g.stack = .int j :: .ref a :: rest) (hd : decode c.code g.pc = .ok (.laload, 1)) :
    ∀ t, Steps p.tables e below (T.setTop { g with pc := g.pc + 1, stack := v :: rest }) t → Steps p.tables e below (T.setTop g) t := fun t k => by
  obtain ⟨cl, A, h1, h2⟩ := V.open h0 hv
  exact X.laload hx (by rw [eT]; exact A.1) (State.isArrayOf_alike hZ.alike A.2.1) A.2.2 h1 h2 hg hs hd _ k
theorem own_caload (X : Stand p l e R s m args below meth c T locs cells slots) (hx : p.tables.exec = Jvm.exec) (hZ : Z.Warmed39 s.vm) (eT : T.heap = h) (V : Arx Z h a .char vs) {j : Int32} {v : Value} (h0 : ¬ j < 0) (hv : vs[j.toNatClampNeg]? = some v) {g : JFrame} (hg : g.method = m) {rest : List Value} (hs : g.stack = .int j :: .ref a :: rest) (hd : decode c.code g.pc = .ok (.caload, 1)) :
    ∀ t, Steps p.tables e below (T.setTop { g with pc := g.pc + 1, stack := v :: rest }) t → Steps p.tables e below (T.setTop g) t := fun t k => by
  obtain ⟨cl, A, h1, h2⟩ := V.open h0 hv
  exact X.caload hx (by rw [eT]; exact A.1) (State.isArrayOf_alike hZ.alike A.2.1) A.2.2 h1 h2 hg hs hd _ k
theorem own_baload (X : Stand p l e R s m args below meth c T locs cells slots) (hx : p.tables.exec = Jvm.exec) (hZ : Z.Warmed39 s.vm) (eT : T.heap = h) (V : Arx Z h a .byte vs) {j : Int32} {v : Value} (h0 : ¬ j < 0) (hv : vs[j.toNatClampNeg]? = some v) {g : JFrame} (hg : g.method = m) {rest : List Value} (hs : g.stack = .int j :: .ref a :: rest) (hd : decode c.code g.pc = .ok (.baload, 1)) :
    ∀ t, Steps p.tables e below (T.setTop { g with pc := g.pc + 1, stack := v :: rest }) t → Steps p.tables e below (T.setTop g) t := fun t k => by
  obtain ⟨cl, A, h1, h2⟩ := V.open h0 hv
  exact X.baloadBytes hx (by rw [eT]; exact A.1) (State.isArrayOf_alike hZ.alike A.2.1) A.2.2 h1 h2 hg hs hd _ k
theorem own_aaload (X : Stand p l e R s m args below meth c T locs cells slots) (hx : p.tables.exec = Jvm.exec) (hZ : Z.Warmed39 s.vm) (eT : T.heap = h) (V : Arx Z h a ty vs) (ht : ty.isReference = true) {j : Int32} {v : Value} (h0 : ¬ j < 0) (hv : vs[j.toNatClampNeg]? = some v) {g : JFrame} (hg : g.method = m) {rest : List Value} (hs : g.stack = .int j :: .ref a :: rest) (hd : decode c.code g.pc = .ok (.aaload, 1)) :
    ∀ t, Steps p.tables e below (T.setTop { g with pc := g.pc + 1, stack := v :: rest }) t → Steps p.tables e below (T.setTop g) t := fun t k => by
  obtain ⟨cl, A, h1, h2⟩ := V.open h0 hv
  exact X.aaload hx (by rw [eT]; exact A.1) (State.isArrayOf_alike hZ.alike A.2.1) ht A.2.2 h1 h2 hg hs hd _ k
theorem Arx.put {j : Int32} {v : Value} (V : Arx Z h a ty vs) (h0 : ¬ j < 0) (hj : j.toNatClampNeg < vs.length) (hv : fits ty v = true) : ∃ cl, Arr Z h a cl ty ∧ ¬ (j < 0 ∨ cl.slots.size ≤ j.toNatClampNeg) ∧ ∀ {h' : Heap}, Wr h h' a j.toNatClampNeg v → Arx Z h' a ty (vs.set j.toNatClampNeg v) := by
  obtain ⟨q, k, dv, cl, A, q1, S, N, H, G⟩ := V
  refine ⟨cl, A, fun q' => q'.elim h0 ?_, fun W => ⟨by rw [List.length_set]; exact q, k, dv, ?_⟩⟩
  · rw [S, own_clamp q]; exact Nat.not_le.mpr hj
  · rw [List.length_set]; exact Arv.set A q1 S N H G hv W _ rfl hj
theorem own_iastore (X : Stand p l e R s m args below meth c T locs cells slots) (hx : p.tables.exec = Jvm.exec) (hZ : Z.Warmed39 s.vm) (eT : T.heap = h) (V : Arx Z h a .int vs) {j x : Int32} (h0 : ¬ j < 0) (hj : j.toNatClampNeg < vs.length) {g : JFrame} (hg : g.method = m) {rest : List Value} (hs : g.stack = .int x :: .int j :: .ref a :: rest) (hd : decode c.code g.pc = .ok (.iastore, 1)) :
    ∃ T' h', Stand p l e R s m args below meth c T' (locs ++ [⟨a, j.toNatClampNeg⟩]) cells slots ∧ T'.heap = h' ∧ Wr h h' a j.toNatClampNeg (.int x) ∧ Arx Z h' a .int (vs.set j.toNatClampNeg (.int x)) ∧ ∀ t, Steps p.tables e below (T'.setTop { g with pc := g.pc + 1, stack := rest }) t → Steps p.tables e below (T.setTop g) t := by
  obtain ⟨cl, A, h1, h2⟩ := V.put (v := .int x) h0 hj rfl
  obtain ⟨T', h', X', e', W, st⟩ := stI X hx hZ eT A h1 hg hs hd
  exact ⟨T', h', X', e', W, h2 W, st⟩
theorem own_lastore (X : Stand p l e R s m args below meth c T locs cells slots) (hx : p.tables.exec = Jvm.exec) (hZ : Z.Warmed39 s.vm) (eT : T.heap = h) (V : Arx Z h a .long vs) {j : Int32} {x : Int64} (h0 : ¬ j < 0) (hj : j.toNatClampNeg < vs.length) {g : JFrame} (hg : g.method = m) {rest : List Value} (hs : g.stack = .long x :: .int j :: .ref a :: rest) (hd : decode c.code g.pc = .ok (.lastore, 1)) :
    ∃ T' h', Stand p l e R s m args below meth c T' (locs ++ [⟨a, j.toNatClampNeg⟩]) cells slots ∧ T'.heap = h' ∧ Wr h h' a j.toNatClampNeg (.long x) ∧ Arx Z h' a .long (vs.set j.toNatClampNeg (.long x)) ∧ ∀ t, Steps p.tables e below (T'.setTop { g with pc := g.pc + 1, stack := rest }) t → Steps p.tables e below (T.setTop g) t := by
  obtain ⟨cl, A, h1, h2⟩ := V.put (v := .long x) h0 hj rfl
  obtain ⟨T', h', X', e', W, st⟩ := stJ X hx hZ eT A h1 hg hs hd
  exact ⟨T', h', X', e', W, h2 W, st⟩
theorem own_castore (X : Stand p l e R s m args below meth c T locs cells slots) (hx : p.tables.exec = Jvm.exec) (hZ : Z.Warmed39 s.vm) (eT : T.heap = h) (V : Arx Z h a .char vs) {j x : Int32} (h0 : ¬ j < 0) (hj : j.toNatClampNeg < vs.length) {g : JFrame} (hg : g.method = m) {rest : List Value} (hs : g.stack = .int x :: .int j :: .ref a :: rest) (hd : decode c.code g.pc = .ok (.castore, 1)) :
    ∃ T' h', Stand p l e R s m args below meth c T' (locs ++ [⟨a, j.toNatClampNeg⟩]) cells slots ∧ T'.heap = h' ∧ Wr h h' a j.toNatClampNeg (.int (nar .char x)) ∧ Arx Z h' a .char (vs.set j.toNatClampNeg (.int (nar .char x))) ∧ ∀ t, Steps p.tables e below (T'.setTop { g with pc := g.pc + 1, stack := rest }) t → Steps p.tables e below (T.setTop g) t := by
  obtain ⟨cl, A, h1, h2⟩ := V.put (v := .int (nar .char x)) h0 hj (fits_nar_char _)
  obtain ⟨T', h', X', e', W, st⟩ := stC X hx hZ eT A h1 hg hs hd
  exact ⟨T', h', X', e', W, h2 W, st⟩
theorem own_bastore (X : Stand p l e R s m args below meth c T locs cells slots) (hx : p.tables.exec = Jvm.exec) (hZ : Z.Warmed39 s.vm) (eT : T.heap = h) (V : Arx Z h a .byte vs) {j x : Int32} (h0 : ¬ j < 0) (hj : j.toNatClampNeg < vs.length) {g : JFrame} (hg : g.method = m) {rest : List Value} (hs : g.stack = .int x :: .int j :: .ref a :: rest) (hd : decode c.code g.pc = .ok (.bastore, 1)) :
    ∃ T' h', Stand p l e R s m args below meth c T' (locs ++ [⟨a, j.toNatClampNeg⟩]) cells slots ∧ T'.heap = h' ∧ Wr h h' a j.toNatClampNeg (.int (nar .byte x)) ∧ Arx Z h' a .byte (vs.set j.toNatClampNeg (.int (nar .byte x))) ∧ ∀ t, Steps p.tables e below (T'.setTop { g with pc := g.pc + 1, stack := rest }) t → Steps p.tables e below (T.setTop g) t := by
  obtain ⟨cl, A, h1, h2⟩ := V.put (v := .int (nar .byte x)) h0 hj (fits_nar_byte _)
  obtain ⟨T', h', X', e', W, st⟩ := stB X hx hZ eT A h1 hg hs hd
  exact ⟨T', h', X', e', W, h2 W, st⟩
theorem own_newarr (X : Stand p l e R s m args below meth c T locs cells slots) (hx : p.tables.exec = Jvm.exec) (hZ : Z.Warmed39 s.vm) {aty : ArrayType} (w : (Jvm.Cond.arrayClass (newarray.typeOf aty)).before a0 Z = true) (eT : T.heap = h) {g : JFrame} (hg : g.method = m) (hd : decode c.code g.pc = .ok (.newarray aty, 2)) {n : Int32} {rest : List Value} (hs : g.stack = .int n :: rest)
    (hn : ¬ n < 0) {cap : Nat} (hcap : n.toNatClampNeg ≤ cap) (hb : cap * 8 ≤ 536870912) (hc : cells + 1 ≤ R.cells) (hl : slots + cap ≤ R.slots) {ad : String} (had : "[" ++ (newarray.typeOf aty).toString = ad) :
    ∃ T' h' a, a = h.size ∧ Stand p l e R s m args below meth c T' locs (cells + 1) (slots + cap) ∧ T'.heap = h' ∧ Ext h h' ∧ Arx Z h' a (newarray.typeOf aty) (List.replicate n.toNatClampNeg (defaultValue (newarray.typeOf aty))) ∧ Exa Z h' a ad ∧
      ∀ t, Steps p.tables e below (T'.setTop { g with pc := g.pc + 2, stack := .ref a :: rest }) t → Steps p.tables e below (T.setTop g) t := by
  obtain ⟨T', h', cA, X', e', E, A, Ex, st⟩ := newPE X hx hZ w eT hg hd hs hn hcap hb hc hl had
  have b := back32 hn
  refine ⟨T', h', _, rfl, X', e', E, ⟨by rw [List.length_replicate]; exact b.2, cA, defaultValue (newarray.typeOf aty), ?_⟩, Ex, st⟩
  rw [List.length_replicate, show Int32.ofNat n.toNatClampNeg = n from b.1]
  exact (Arv.new A hn).pad (pad_rep [] _ _)
theorem own_clone (X : Stand p l e R s m args below meth c T locs cells slots) (hx : p.tables.exec = Jvm.exec) (hZ : Z.Warmed39 s.vm) {own ad : String} {index : Nat} (hown : s.vm.findClass own = some m.cls)
    (w1 : (Jvm.Cond.methodLink own index ⟨ad, "clone", "()Ljava/lang/Object;"⟩).before a0 Z = true) (w2 : (Jvm.Cond.sameMethod ad "java/lang/Object" "clone" "()Ljava/lang/Object;").before a0 Z = true) (w3 : (Jvm.Cond.native ⟨"java/lang/Object", "clone", "()Ljava/lang/Object;"⟩).before a0 Z = true)
    (w4 : (Jvm.Cond.instanceMethod ⟨"java/lang/Object", "clone", "()Ljava/lang/Object;"⟩).before a0 Z = true) (w5 : (Jvm.Cond.selects ad ⟨ad, "clone", "()Ljava/lang/Object;"⟩ ⟨"java/lang/Object", "clone", "()Ljava/lang/Object;"⟩).before a0 Z = true) (w6 : (Jvm.Cond.castable ad "java/lang/Cloneable").before a0 Z = true)
    (eT : T.heap = h) (V : Arx Z h a ty vs) (E : Exa Z h a ad) {g : JFrame} (hg : g.method = m) (hsize : g.locals.size = c.maxLocals) {rest : List Value} (hst : g.stack = .ref a :: rest) (hd : decode c.code g.pc = .ok (.invokevirtual index, 3))
    (hf : 1 ≤ R.frames) {W cap : Nat} (hW : 2 * g.monitorRoom + (rest.map fun v => v.category).sum ≤ W) (hl : W + 14 ≤ R.locals) (hcap : vs.length ≤ cap) (hc : cells + 1 ≤ R.cells) (hsl : slots + cap ≤ R.slots) :
    ∃ T' h' b, b = h.size ∧ Stand p l e R s m args below meth c T' locs (cells + 1) (slots + cap) ∧ T'.heap = h' ∧ Ext h h' ∧ Arx Z h' b ty vs ∧ Exa Z h' b ad ∧
      ∀ t, Steps p.tables e below (T'.setTop { g with pc := g.pc + 3, stack := .ref b :: rest }) t → Steps p.tables e below (T.setTop g) t := by
  obtain ⟨q, k, dv, V⟩ := V
  obtain ⟨T', h', X', e', ex, V', E', st⟩ := cloneH X hx hZ hown w1 w2 w3 w4 w5 w6 eT V.arh E hg hsize hst hd hf hW hl (by rw [own_clamp q]; exact hcap) hc hsl
  exact ⟨T', h', _, rfl, X', e', ex, ⟨q, k, dv, V'⟩, E', st⟩
end Own
def sumL (L : List Int32) : Int64 := L.foldl (fun s x => s + x.toInt64) 0
theorem own_sum (L : List Int32) (i : Nat) (x : Int32) (h : L[i]? = some x) : sumL (L.take i) + x.toInt64 = sumL (L.take (i + 1)) := by
  unfold sumL
  rw [List.take_add_one, h, Option.toList_some, List.foldl_append]
  rfl
theorem own_nat {i : Int32} {n : Nat} (h : i.toInt = n) : i.toNatClampNeg = n := by simp only [Int32.toNatClampNeg, h]; rfl
theorem own_nn {i : Int32} (h : 0 ≤ i.toInt) : ¬ i < 0 := fun q => absurd (Int32.lt_iff_toInt_lt.mp q) (by show ¬ i.toInt < 0; omega)
theorem d1_0 : decode prog_16_method_1_code 0 = .ok (.aload_n 0, 1) := by decide +kernel
theorem d1_1 : decode prog_16_method_1_code 1 = .ok (.invokespecial 1, 3) := by decide +kernel
theorem d1_4 : decode prog_16_method_1_code 4 = .ok (.aload_n 0, 1) := by decide +kernel
theorem d1_5 : decode prog_16_method_1_code 5 = .ok (.aload_n 1, 1) := by decide +kernel
theorem d1_6 : decode prog_16_method_1_code 6 = .ok (.invokevirtual 7, 3) := by decide +kernel
theorem d1_9 : decode prog_16_method_1_code 9 = .ok (.checkcast 8, 3) := by decide +kernel
theorem d1_12 : decode prog_16_method_1_code 12 = .ok (.putfield 13, 3) := by decide +kernel
theorem d1_15 : decode prog_16_method_1_code 15 = .ok (.aload_n 0, 1) := by decide +kernel
theorem d1_16 : decode prog_16_method_1_code 16 = .ok (.lload_n 2, 1) := by decide +kernel
theorem d1_17 : decode prog_16_method_1_code 17 = .ok (.putfield 18, 3) := by decide +kernel
theorem d1_20 : decode prog_16_method_1_code 20 = .ok (.return_, 1) := by decide +kernel
theorem pn_com_example_deft_shards_deftshards_index_IndexSummary : plainName "com/example/deft_shards/deftshards/index/IndexSummary" = true := by first | (simp [plainName, overriddenIn]; done) | decide +kernel
theorem ef_1 (m : MethodId) (x0 : Addr) (x1 : Addr) (x2 : Int64) : entryFrame m #[(.ref x0), (.ref x1), (.long x2)] 4 = mkF m 0 #[.val (.ref x0), .val (.ref x1), .val (.long x2), .second] [] := by first | (simp [entryFrame, mkF, argsToLocals, Value.category]; done) | rfl
def Q1 (Z : State) (a5 : Addr) (a6 : Addr) (q7 : Int64) (vs : List Value) (h0 : Heap) (n0 : Nat) (v : Option Value) (h : Heap) (L : List Loc) : Prop := v = none ∧ Fr n0 L ∧ Keep h0 h [a5] ∧ Exa Z h a5 "com/example/deft_shards/deftshards/index/IndexSummary" ∧ ∃ b, n0 ≤ b ∧ Fld Z h a5 "com/example/deft_shards/deftshards/index/IndexSummary" "shardDocuments" "[I" (.ref b) ∧ Arx Z h b .int vs
set_option maxRecDepth 65536 in
set_option maxHeartbeats 40000000 in
theorem rm1 (l : Launch) (Z : State) (a0 : Array Value) (hw : ∀ d ∈ tables_1, d.before a0 Z = true) (ws : List Jvm.Cond) (a5 : Addr) (a6 : Addr) (q7 : Int64) (vs : List Value) (h0 : Heap) (n0 : Nat) (Z0 : n0 ≤ h0.size) (E_a5 : Exa Z h0 a5 "com/example/deft_shards/deftshards/index/IndexSummary") (F_sd : Fld Z h0 a5 "com/example/deft_shards/deftshards/index/IndexSummary" "shardDocuments" "[I" .null) (F_sk : Fld Z h0 a5 "com/example/deft_shards/deftshards/index/IndexSummary" "skipped" "J" (.long (0 : Int64))) (V_a6 : Arx Z h0 a6 .int vs) (E_a6 : Exa Z h0 a6 "[I") (g_a5 : n0 ≤ a5) (hlen : vs.length ≤ 4) :
    own_CT l Z (⟨"com/example/deft_shards/deftshards/index/IndexSummary", "<init>", "([IJ)V"⟩ : MethodName) prog_16_method_1_code 4 none ws ({ frames := 1, cells := 1, slots := 4, locals := 15 } : Room) #[(.ref a5), (.ref a6), (.long q7)] h0 (Q1 Z a5 a6 q7 vs h0 n0) := by
  refine MetFree.of_bodySF (plainFor_of_name pn_com_example_deft_shards_deftshards_index_IndexSummary) hisR ?_
  intro p e s m args below meth c s₁ Bd hml0 hP hK
  obtain ⟨rfl, hZ, hh⟩ := hP
  have hx := Bd.exec
  have hby := Bd.bytes
  have hml : c.maxLocals = 4 := hml0
  have hown : s.vm.findClass "com/example/deft_shards/deftshards/index/IndexSummary" = some m.cls := findClass_of_methodNamed Bd.named
  have hnm := (name_of_methodNamed Bd.named Bd.method).1
  have hlk : meth.locks = false := BodyLoose.notSynchronized Bd
  have X0 : Stand p l e ({ frames := 1, cells := 1, slots := 4, locals := 15 } : Room) s m #[(.ref a5), (.ref a6), (.long q7)] below meth c s₁ [] 0 0 := Stand.of_body Bd
  have e0 : s₁.heap = h0 := by rw [← hh, Bd.state]; rfl
  have N0 := Fr.nil n0
  show GG p e below s ({ frames := 1, cells := 1, slots := 4, locals := 15 } : Room).cells ({ frames := 1, cells := 1, slots := 4, locals := 15 } : Room).slots (Q1 Z a5 a6 q7 vs h0 n0) s₁ (entryFrame m #[(.ref a5), (.ref a6), (.long q7)] 4)
  refine own_in (ef_1 m a5 a6 q7) ?_
  have ne65 : a6 ≠ a5 := ne_exa E_a6 E_a5 (by decide)
  show GG _ _ _ _ _ _ _ s₁ (mkF m 0 #[.val (.ref a5), .val (.ref a6), .val (.long q7), .second] [])
  refine own_go (fun _ => XS.aloadN X0.here hx rfl (hb hby d1_0) rfl rfl) ?_
  show GG _ _ _ _ _ _ _ s₁ (mkF m 1 #[.val (.ref a5), .val (.ref a6), .val (.long q7), .second] [(.ref a5)])
  obtain ⟨T1, X1, e1, st1⟩ := initO X0 hx hZ hown (hw _ (List.mem_of_getElem? (i := 8) rfl)) (hw _ (List.mem_of_getElem? (i := 9) rfl)) (hw _ (List.mem_of_getElem? (i := 10) rfl)) e0 (g := (mkF m 1 #[.val (.ref a5), .val (.ref a6), .val (.long q7), .second] [(.ref a5)])) rfl (by rw [hml]; rfl) rfl (hb hby d1_1) (by decide) (W := 0) (by show 2 * 0 + _ ≤ _; exact Nat.le_of_eq rfl) (by decide)
  refine own_go (fun _ => st1 _) ?_
  show GG _ _ _ _ _ _ _ T1 (mkF m 4 #[.val (.ref a5), .val (.ref a6), .val (.long q7), .second] [])
  refine own_go (fun _ => XS.aloadN X1.here hx rfl (hb hby d1_4) rfl rfl) ?_
  show GG _ _ _ _ _ _ _ T1 (mkF m 5 #[.val (.ref a5), .val (.ref a6), .val (.long q7), .second] [(.ref a5)])
  refine own_go (fun _ => XS.aloadN X1.here hx rfl (hb hby d1_5) rfl rfl) ?_
  show GG _ _ _ _ _ _ _ T1 (mkF m 6 #[.val (.ref a5), .val (.ref a6), .val (.long q7), .second] [(.ref a6), (.ref a5)])
  have K0 := Keep.refl h0 [a5]
  obtain ⟨T2, h2, ob2, g2, X2, e2, E2, V_ob2, E_ob2, st2⟩ := own_clone X1 hx hZ hown (hw _ (List.mem_of_getElem? (i := 11) rfl)) (hw _ (List.mem_of_getElem? (i := 12) rfl)) (hw _ (List.mem_of_getElem? (i := 16) rfl)) (hw _ (List.mem_of_getElem? (i := 14) rfl)) (hw _ (List.mem_of_getElem? (i := 15) rfl)) (hw _ (List.mem_of_getElem? (i := 17) rfl)) e1 V_a6 E_a6 (g := (mkF m 6 #[.val (.ref a5), .val (.ref a6), .val (.long q7), .second] [(.ref a6), (.ref a5)])) rfl (by rw [hml]; rfl) rfl (hb hby d1_6) (by decide) (W := 1) (cap := 4) (by show 2 * 0 + _ ≤ _; exact Nat.le_of_eq rfl) (by decide) hlen (by decide) (by decide)
  have ne_a5_ob2 : a5 ≠ ob2 := Nat.ne_of_lt (Nat.lt_of_lt_of_le E_a5.lt (Nat.le_of_eq g2.symm))
  have ne_a6_ob2 : a6 ≠ ob2 := Nat.ne_of_lt (Nat.lt_of_lt_of_le V_a6.lt (Nat.le_of_eq g2.symm))
  have sz_ob2 : h0.size ≤ ob2 := Nat.le_trans K0.1 (Nat.le_of_eq g2.symm)
  have g_ob2 : n0 ≤ ob2 := Nat.le_trans Z0 sz_ob2
  have E_a5 := E_a5.ext E2
  have F_sd := F_sd.ext E2
  have F_sk := F_sk.ext E2
  have V_a6 := V_a6.ext E2
  have E_a6 := E_a6.ext E2
  have K0 := K0.ext E2
  refine own_go (fun _ => st2 _) ?_
  show GG _ _ _ _ _ _ _ T2 (mkF m 9 #[.val (.ref a5), .val (.ref a6), .val (.long q7), .second] [(.ref ob2), (.ref a5)])
  obtain ⟨T3, X3, e3, st3⟩ := castY X2 hx hZ hown (hw _ (List.mem_of_getElem? (i := 18) rfl)) e2 (Ins.self E_ob2) (g := (mkF m 9 #[.val (.ref a5), .val (.ref a6), .val (.long q7), .second] [(.ref ob2), (.ref a5)])) rfl rfl (hb hby d1_9)
  refine own_go (fun _ => st3 _) ?_
  show GG _ _ _ _ _ _ _ T3 (mkF m 12 #[.val (.ref a5), .val (.ref a6), .val (.long q7), .second] [(.ref ob2), (.ref a5)])
  obtain ⟨T4, h4, X4, e4, W4, st4⟩ := putF X3 hx hZ hown (host := "") (Or.inl (hw _ (List.mem_of_getElem? (i := 20) rfl))) Via.refl e3 F_sd E_a5 (Or.inr ⟨(hw _ (List.mem_of_getElem? (i := 21) rfl)), rfl, hnm⟩) (hw _ (List.mem_of_getElem? (i := 3) rfl)) (ty := (.array .int)) (by decide) rfl rfl (g := (mkF m 12 #[.val (.ref a5), .val (.ref a6), .val (.long q7), .second] [(.ref ob2), (.ref a5)])) rfl rfl (hb hby d1_12)
  have E_a5 := E_a5.wr W4
  have F_sk := F_sk.other W4 (Or.inr (slot_ne (Or.inr (hw _ (List.mem_of_getElem? (i := 23) rfl))) (Or.inr (hw _ (List.mem_of_getElem? (i := 21) rfl))) (by decide) (t := .long) (t' := (.array .int)) (by decide) (by decide)))
  have V_a6 := V_a6.other W4 ne65
  have E_a6 := E_a6.wr W4
  have K0 := K0.wr W4 (Or.inl (List.mem_of_getElem? (i := 0) rfl))
  have V_ob2 := V_ob2.other W4 (Ne.symm ne_a5_ob2)
  have E_ob2 := E_ob2.wr W4
  have F_sd := F_sd.same W4
  have N4 := Fr.snoc X4 N0 g_a5
  refine own_go (fun _ => st4 _) ?_
  show GG _ _ _ _ _ _ _ T4 (mkF m 15 #[.val (.ref a5), .val (.ref a6), .val (.long q7), .second] [])
  refine own_go (fun _ => XS.aloadN X4.here hx rfl (hb hby d1_15) rfl rfl) ?_
  show GG _ _ _ _ _ _ _ T4 (mkF m 16 #[.val (.ref a5), .val (.ref a6), .val (.long q7), .second] [(.ref a5)])
  refine own_go (fun _ => XS.lloadN X4.here hx rfl (hb hby d1_16) rfl) ?_
  show GG _ _ _ _ _ _ _ T4 (mkF m 17 #[.val (.ref a5), .val (.ref a6), .val (.long q7), .second] [(.long q7), (.ref a5)])
  obtain ⟨T5, h5, X5, e5, W5, st5⟩ := putF X4 hx hZ hown (host := "") (Or.inl (hw _ (List.mem_of_getElem? (i := 22) rfl))) Via.refl e4 F_sk E_a5 (Or.inr ⟨(hw _ (List.mem_of_getElem? (i := 23) rfl)), rfl, hnm⟩) (hw _ (List.mem_of_getElem? (i := 3) rfl)) (ty := .long) (by decide) rfl rfl (g := (mkF m 17 #[.val (.ref a5), .val (.ref a6), .val (.long q7), .second] [(.long q7), (.ref a5)])) rfl rfl (hb hby d1_17)
  have E_a5 := E_a5.wr W5
  have F_sd := F_sd.other W5 (Or.inr (slot_ne (Or.inr (hw _ (List.mem_of_getElem? (i := 21) rfl))) (Or.inr (hw _ (List.mem_of_getElem? (i := 23) rfl))) (by decide) (t := (.array .int)) (t' := .long) (by decide) (by decide)))
  have V_a6 := V_a6.other W5 ne65
  have E_a6 := E_a6.wr W5
  have K0 := K0.wr W5 (Or.inl (List.mem_of_getElem? (i := 0) rfl))
  have V_ob2 := V_ob2.other W5 (Ne.symm ne_a5_ob2)
  have E_ob2 := E_ob2.wr W5
  have F_sk := F_sk.same W5
  have N5 := Fr.snoc X5 N4 g_a5
  refine own_go (fun _ => st5 _) ?_
  show GG _ _ _ _ _ _ _ T5 (mkF m 20 #[.val (.ref a5), .val (.ref a6), .val (.long q7), .second] [])
  refine own_retV X5 hx hlk Bd.returns (hb hby d1_20) (by decide) (by decide) ?_
  show Q1 Z a5 a6 q7 vs h0 n0 (none) T5.heap _
  rw [e5]
  exact ⟨rfl, N5, K0, E_a5, ob2, g_ob2, F_sd, V_ob2⟩
theorem d3_0 : decode prog_16_method_4_code 0 = .ok (.lconst 0, 1) := by decide +kernel
theorem d3_1 : decode prog_16_method_4_code 1 = .ok (.lstore_n 1, 1) := by decide +kernel
theorem d3_2 : decode prog_16_method_4_code 2 = .ok (.aload_n 0, 1) := by decide +kernel
theorem d3_3 : decode prog_16_method_4_code 3 = .ok (.getfield 13, 3) := by decide +kernel
theorem d3_6 : decode prog_16_method_4_code 6 = .ok (.astore_n 3, 1) := by decide +kernel
theorem d3_7 : decode prog_16_method_4_code 7 = .ok (.aload_n 3, 1) := by decide +kernel
theorem d3_8 : decode prog_16_method_4_code 8 = .ok (.arraylength, 1) := by decide +kernel
theorem d3_9 : decode prog_16_method_4_code 9 = .ok (.istore 4, 2) := by decide +kernel
theorem d3_11 : decode prog_16_method_4_code 11 = .ok (.iconst 0, 1) := by decide +kernel
theorem d3_12 : decode prog_16_method_4_code 12 = .ok (.istore 5, 2) := by decide +kernel
theorem d3_14 : decode prog_16_method_4_code 14 = .ok (.iload 5, 2) := by decide +kernel
theorem d3_16 : decode prog_16_method_4_code 16 = .ok (.iload 4, 2) := by decide +kernel
theorem d3_18 : decode prog_16_method_4_code 18 = .ok (.if_icmp .ge 21, 3) := by decide +kernel
theorem d3_21 : decode prog_16_method_4_code 21 = .ok (.aload_n 3, 1) := by decide +kernel
theorem d3_22 : decode prog_16_method_4_code 22 = .ok (.iload 5, 2) := by decide +kernel
theorem d3_24 : decode prog_16_method_4_code 24 = .ok (.iaload, 1) := by decide +kernel
theorem d3_25 : decode prog_16_method_4_code 25 = .ok (.istore 6, 2) := by decide +kernel
theorem d3_27 : decode prog_16_method_4_code 27 = .ok (.lload_n 1, 1) := by decide +kernel
theorem d3_28 : decode prog_16_method_4_code 28 = .ok (.iload 6, 2) := by decide +kernel
theorem d3_30 : decode prog_16_method_4_code 30 = .ok (.i2l, 1) := by decide +kernel
theorem d3_31 : decode prog_16_method_4_code 31 = .ok (.ladd, 1) := by decide +kernel
theorem d3_32 : decode prog_16_method_4_code 32 = .ok (.lstore_n 1, 1) := by decide +kernel
theorem d3_33 : decode prog_16_method_4_code 33 = .ok (.iinc 5 1, 3) := by decide +kernel
theorem d3_36 : decode prog_16_method_4_code 36 = .ok (.goto (-22), 3) := by decide +kernel
theorem d3_39 : decode prog_16_method_4_code 39 = .ok (.lload_n 1, 1) := by decide +kernel
theorem d3_40 : decode prog_16_method_4_code 40 = .ok (.lreturn, 1) := by decide +kernel
theorem ef_3 (m : MethodId) (x0 : Addr) : entryFrame m #[(.ref x0)] 7 = mkF m 0 #[.val (.ref x0), .unset, .unset, .unset, .unset, .unset, .unset] [] := by first | (simp [entryFrame, mkF, argsToLocals, Value.category]; done) | rfl
def Q3 (Z : State) (a8 : Addr) (b9 : Addr) (Li : List Int32) (h0 : Heap) (n0 : Nat) (v : Option Value) (h : Heap) (L : List Loc) : Prop := v = some (.long (sumL Li)) ∧ Fr n0 L ∧ h = h0
set_option maxRecDepth 65536 in
set_option maxHeartbeats 40000000 in
theorem rm3 (l : Launch) (Z : State) (a0 : Array Value) (hw : ∀ d ∈ tables_1, d.before a0 Z = true) (ws : List Jvm.Cond) (a8 : Addr) (b9 : Addr) (Li : List Int32) (h0 : Heap) (n0 : Nat) (Z0 : n0 ≤ h0.size) (F_sd : Fld Z h0 a8 "com/example/deft_shards/deftshards/index/IndexSummary" "shardDocuments" "[I" (.ref b9)) (V_b9 : Arx Z h0 b9 .int (Li.map Value.int)) :
    own_CT l Z (⟨"com/example/deft_shards/deftshards/index/IndexSummary", "documents", "()J"⟩ : MethodName) prog_16_method_4_code 7 (some .long) ws ({ frames := 0, cells := 0, slots := 0, locals := 0 } : Room) #[(.ref a8)] h0 (Q3 Z a8 b9 Li h0 n0) := by
  refine MetFree.of_bodySF (plainFor_of_name pn_com_example_deft_shards_deftshards_index_IndexSummary) hisR ?_
  intro p e s m args below meth c s₁ Bd hml0 hP hK
  obtain ⟨rfl, hZ, hh⟩ := hP
  have hx := Bd.exec
  have hby := Bd.bytes
  have hml : c.maxLocals = 7 := hml0
  have hown : s.vm.findClass "com/example/deft_shards/deftshards/index/IndexSummary" = some m.cls := findClass_of_methodNamed Bd.named
  have hnm := (name_of_methodNamed Bd.named Bd.method).1
  have hlk : meth.locks = false := BodyLoose.notSynchronized Bd
  have X0 : Stand p l e ({ frames := 0, cells := 0, slots := 0, locals := 0 } : Room) s m #[(.ref a8)] below meth c s₁ [] 0 0 := Stand.of_body Bd
  have e0 : s₁.heap = h0 := by rw [← hh, Bd.state]; rfl
  have N0 := Fr.nil n0
  show GG p e below s ({ frames := 0, cells := 0, slots := 0, locals := 0 } : Room).cells ({ frames := 0, cells := 0, slots := 0, locals := 0 } : Room).slots (Q3 Z a8 b9 Li h0 n0) s₁ (entryFrame m #[(.ref a8)] 7)
  refine own_in (ef_3 m a8) ?_
  show GG _ _ _ _ _ _ _ s₁ (mkF m 0 #[.val (.ref a8), .unset, .unset, .unset, .unset, .unset, .unset] [])
  refine own_go (fun _ => XS.lconst X0.here hx rfl (hb hby d3_0)) ?_
  show GG _ _ _ _ _ _ _ s₁ (mkF m 1 #[.val (.ref a8), .unset, .unset, .unset, .unset, .unset, .unset] [(.long (0 : Int64))])
  refine own_go (fun _ => XS.lstoreN X0.here hx rfl (hb hby d3_1) rfl (l' := #[.val (.ref a8), .val (.long (0 : Int64)), .second, .unset, .unset, .unset, .unset]) rfl) ?_
  show GG _ _ _ _ _ _ _ s₁ (mkF m 2 #[.val (.ref a8), .val (.long (0 : Int64)), .second, .unset, .unset, .unset, .unset] [])
  refine own_go (fun _ => XS.aloadN X0.here hx rfl (hb hby d3_2) rfl rfl) ?_
  show GG _ _ _ _ _ _ _ s₁ (mkF m 3 #[.val (.ref a8), .val (.long (0 : Int64)), .second, .unset, .unset, .unset, .unset] [(.ref a8)])
  obtain ⟨T1, X1, e1, st1⟩ := getF X0 hx hZ hown (host := "") (Or.inl (hw _ (List.mem_of_getElem? (i := 20) rfl))) Via.refl e0 F_sd (g := (mkF m 3 #[.val (.ref a8), .val (.long (0 : Int64)), .second, .unset, .unset, .unset, .unset] [(.ref a8)])) rfl rfl (hb hby d3_3)
  refine own_go (fun _ => st1 _) ?_
  show GG _ _ _ _ _ _ _ T1 (mkF m 6 #[.val (.ref a8), .val (.long (0 : Int64)), .second, .unset, .unset, .unset, .unset] [(.ref b9)])
  refine own_go (fun _ => XS.astoreN X1.here hx rfl (hb hby d3_6) rfl rfl (l' := #[.val (.ref a8), .val (.long (0 : Int64)), .second, .val (.ref b9), .unset, .unset, .unset]) rfl) ?_
  show GG _ _ _ _ _ _ _ T1 (mkF m 7 #[.val (.ref a8), .val (.long (0 : Int64)), .second, .val (.ref b9), .unset, .unset, .unset] [])
  refine own_go (fun _ => XS.aloadN X1.here hx rfl (hb hby d3_7) rfl rfl) ?_
  show GG _ _ _ _ _ _ _ T1 (mkF m 8 #[.val (.ref a8), .val (.long (0 : Int64)), .second, .val (.ref b9), .unset, .unset, .unset] [(.ref b9)])
  refine own_go (fun _ => own_len X1 hx hZ e1 V_b9 (g := (mkF m 8 #[.val (.ref a8), .val (.long (0 : Int64)), .second, .val (.ref b9), .unset, .unset, .unset] [(.ref b9)])) rfl rfl (hb hby d3_8) _) ?_
  show GG _ _ _ _ _ _ _ T1 (mkF m 9 #[.val (.ref a8), .val (.long (0 : Int64)), .second, .val (.ref b9), .unset, .unset, .unset] [(.int (Int32.ofNat (Li.map Value.int).length))])
  refine own_go (fun _ => XS.istore X1.here hx rfl (hb hby d3_9) rfl (l' := #[.val (.ref a8), .val (.long (0 : Int64)), .second, .val (.ref b9), .val (.int (Int32.ofNat (Li.map Value.int).length)), .unset, .unset]) rfl) ?_
  show GG _ _ _ _ _ _ _ T1 (mkF m 11 #[.val (.ref a8), .val (.long (0 : Int64)), .second, .val (.ref b9), .val (.int (Int32.ofNat (Li.map Value.int).length)), .unset, .unset] [])
  generalize hx2 : (Int32.ofNat (Li.map Value.int).length) = x2
  refine own_go (fun _ => XS.iconst X1.here hx rfl (hb hby d3_11)) ?_
  show GG _ _ _ _ _ _ _ T1 (mkF m 12 #[.val (.ref a8), .val (.long (0 : Int64)), .second, .val (.ref b9), .val (.int x2), .unset, .unset] [(.int (0 : Int32))])
  refine own_go (fun _ => XS.istore X1.here hx rfl (hb hby d3_12) rfl (l' := #[.val (.ref a8), .val (.long (0 : Int64)), .second, .val (.ref b9), .val (.int x2), .val (.int (0 : Int32)), .unset]) rfl) ?_
  show GG _ _ _ _ _ _ _ T1 (mkF m 14 #[.val (.ref a8), .val (.long (0 : Int64)), .second, .val (.ref b9), .val (.int x2), .val (.int (0 : Int32)), .unset] [])
  have hlt : (Li.map Value.int).length < 2 ^ 31 := V_b9.1
  rw [List.length_map] at hlt
  have hlen : x2.toInt = Li.length := by rw [← hx2, own_ofNat V_b9.1, List.length_map]
  have loop3 : ∀ (k : Nat) (k0 : Nat) (i : Int32) (acc : Int64) (o6 : Slot) (ho6 : o6 = .unset ∨ ∃ w, o6 = .val w ∧ w.category = 1) (hi : i.toInt = k0) (hk : k0 + k = Li.length) (hacc : acc = sumL (Li.take k0)), GG p e below s 0 0 (Q3 Z a8 b9 Li h0 n0) T1 (mkF m 14 #[.val (.ref a8), .val (.long acc), .second, .val (.ref b9), .val (.int x2), .val (.int i), o6] []) := by
    intro k
    induction k with
    | zero =>
      intro k0 i acc o6 ho6 hi hk hacc
      have ri := rng32 i
      show GG _ _ _ _ _ _ _ T1 (mkF m 14 #[.val (.ref a8), .val (.long acc), .second, .val (.ref b9), .val (.int x2), .val (.int i), o6] [])
      refine own_go (fun _ => XS.iload X1.here hx rfl (hb hby d3_14) rfl) ?_
      show GG _ _ _ _ _ _ _ T1 (mkF m 16 #[.val (.ref a8), .val (.long acc), .second, .val (.ref b9), .val (.int x2), .val (.int i), o6] [(.int i)])
      refine own_go (fun _ => XS.iload X1.here hx rfl (hb hby d3_16) rfl) ?_
      show GG _ _ _ _ _ _ _ T1 (mkF m 18 #[.val (.ref a8), .val (.long acc), .second, .val (.ref b9), .val (.int x2), .val (.int i), o6] [(.int x2), (.int i)])
      have hc18 : ¬ (i < x2) := (fun q => absurd (Int32.lt_iff_toInt_lt.mp q) ((by show ¬ (i.toInt < x2.toInt); omega : ¬ (i.toInt < x2.toInt))))
      refine own_go (fun _ => XS.icmpYes X1.here hx rfl (pc0 := 18) (pc' := 39) rfl (hb hby d3_18) rfl (flt hc18).2.1 (by decide) (by decide)) ?_
      show GG _ _ _ _ _ _ _ T1 (mkF m 39 #[.val (.ref a8), .val (.long acc), .second, .val (.ref b9), .val (.int x2), .val (.int i), o6] [])
      refine own_go (fun _ => XS.lloadN X1.here hx rfl (hb hby d3_39) rfl) ?_
      show GG _ _ _ _ _ _ _ T1 (mkF m 40 #[.val (.ref a8), .val (.long acc), .second, .val (.ref b9), .val (.int x2), .val (.int i), o6] [(.long acc)])
      refine own_ret X1 hx hlk (t := .long) (w := (.long acc)) Bd.returns rfl (Or.inr (Or.inl ⟨rfl, rfl, _, rfl⟩)) (hb hby d3_40) (by decide) (by decide) ?_
      show Q3 Z a8 b9 Li h0 n0 (some (.long acc)) T1.heap _
      rw [e1]
      have hk : k0 = Li.length := by omega
      exact ⟨by rw [hacc, hk, List.take_length], N0, rfl⟩
    | succ k ih =>
      intro k0 i acc o6 ho6 hi hk hacc
      have ri := rng32 i
      have hlt2 : k0 < Li.length := by omega
      obtain ⟨x, hx0⟩ : ∃ x, Li[k0]? = some x := ⟨_, List.getElem?_eq_getElem hlt2⟩
      show GG _ _ _ _ _ _ _ T1 (mkF m 14 #[.val (.ref a8), .val (.long acc), .second, .val (.ref b9), .val (.int x2), .val (.int i), o6] [])
      refine own_go (fun _ => XS.iload X1.here hx rfl (hb hby d3_14) rfl) ?_
      show GG _ _ _ _ _ _ _ T1 (mkF m 16 #[.val (.ref a8), .val (.long acc), .second, .val (.ref b9), .val (.int x2), .val (.int i), o6] [(.int i)])
      refine own_go (fun _ => XS.iload X1.here hx rfl (hb hby d3_16) rfl) ?_
      show GG _ _ _ _ _ _ _ T1 (mkF m 18 #[.val (.ref a8), .val (.long acc), .second, .val (.ref b9), .val (.int x2), .val (.int i), o6] [(.int x2), (.int i)])
      have hc18 : i < x2 := (Int32.lt_iff_toInt_lt.mpr ((by show (i.toInt < x2.toInt); omega : (i.toInt < x2.toInt))))
      refine own_go (fun _ => XS.icmpNo X1.here hx rfl (hb hby d3_18) rfl (tlt hc18).2.1) ?_
      show GG _ _ _ _ _ _ _ T1 (mkF m 21 #[.val (.ref a8), .val (.long acc), .second, .val (.ref b9), .val (.int x2), .val (.int i), o6] [])
      refine own_go (fun _ => XS.aloadN X1.here hx rfl (hb hby d3_21) rfl rfl) ?_
      show GG _ _ _ _ _ _ _ T1 (mkF m 22 #[.val (.ref a8), .val (.long acc), .second, .val (.ref b9), .val (.int x2), .val (.int i), o6] [(.ref b9)])
      refine own_go (fun _ => XS.iload X1.here hx rfl (hb hby d3_22) rfl) ?_
      show GG _ _ _ _ _ _ _ T1 (mkF m 24 #[.val (.ref a8), .val (.long acc), .second, .val (.ref b9), .val (.int x2), .val (.int i), o6] [(.int i), (.ref b9)])
      refine own_go (fun _ => own_iaload X1 hx hZ e1 V_b9 (j := i) (v := (.int x)) (own_nn (by omega)) (by rw [own_nat hi, List.getElem?_map, hx0]; rfl) (g := (mkF m 24 #[.val (.ref a8), .val (.long acc), .second, .val (.ref b9), .val (.int x2), .val (.int i), o6] [(.int i), (.ref b9)])) rfl rfl (hb hby d3_24) _) ?_
      show GG _ _ _ _ _ _ _ T1 (mkF m 25 #[.val (.ref a8), .val (.long acc), .second, .val (.ref b9), .val (.int x2), .val (.int i), o6] [(.int x)])
      refine own_go (fun _ => XS.istore X1.here hx rfl (hb hby d3_25) rfl (l' := #[.val (.ref a8), .val (.long acc), .second, .val (.ref b9), .val (.int x2), .val (.int i), .val (.int x)]) (XS.store1 (o := o6) rfl ho6 rfl)) ?_
      show GG _ _ _ _ _ _ _ T1 (mkF m 27 #[.val (.ref a8), .val (.long acc), .second, .val (.ref b9), .val (.int x2), .val (.int i), .val (.int x)] [])
      refine own_go (fun _ => XS.lloadN X1.here hx rfl (hb hby d3_27) rfl) ?_
      show GG _ _ _ _ _ _ _ T1 (mkF m 28 #[.val (.ref a8), .val (.long acc), .second, .val (.ref b9), .val (.int x2), .val (.int i), .val (.int x)] [(.long acc)])
      refine own_go (fun _ => XS.iload X1.here hx rfl (hb hby d3_28) rfl) ?_
      show GG _ _ _ _ _ _ _ T1 (mkF m 30 #[.val (.ref a8), .val (.long acc), .second, .val (.ref b9), .val (.int x2), .val (.int i), .val (.int x)] [(.int x), (.long acc)])
      refine own_go (fun _ => XS.i2l X1.here hx rfl (hb hby d3_30) rfl) ?_
      show GG _ _ _ _ _ _ _ T1 (mkF m 31 #[.val (.ref a8), .val (.long acc), .second, .val (.ref b9), .val (.int x2), .val (.int i), .val (.int x)] [(.long (x.toInt64)), (.long acc)])
      have cx4 := c_i2l x
      generalize hx4 : (x.toInt64) = x4 at cx4 ⊢
      have rx4 := rng64 x4
      refine own_go (fun _ => XS.ladd X1.here hx rfl (hb hby d3_31) rfl) ?_
      show GG _ _ _ _ _ _ _ T1 (mkF m 32 #[.val (.ref a8), .val (.long acc), .second, .val (.ref b9), .val (.int x2), .val (.int i), .val (.int x)] [(.long (acc + x4))])
      have cx5 := c_ladd acc x4
      generalize hx5 : (acc + x4) = x5 at cx5 ⊢
      have rx5 := rng64 x5
      refine own_go (fun _ => XS.lstoreN X1.here hx rfl (hb hby d3_32) rfl (l' := #[.val (.ref a8), .val (.long x5), .second, .val (.ref b9), .val (.int x2), .val (.int i), .val (.int x)]) rfl) ?_
      show GG _ _ _ _ _ _ _ T1 (mkF m 33 #[.val (.ref a8), .val (.long x5), .second, .val (.ref b9), .val (.int x2), .val (.int i), .val (.int x)] [])
      refine own_go (fun _ => XS.iinc X1.here hx rfl (hb hby d3_33) rfl (l' := #[.val (.ref a8), .val (.long x5), .second, .val (.ref b9), .val (.int x2), .val (.int (i + (1 : Int32))), .val (.int x)]) rfl) ?_
      show GG _ _ _ _ _ _ _ T1 (mkF m 36 #[.val (.ref a8), .val (.long x5), .second, .val (.ref b9), .val (.int x2), .val (.int (i + (1 : Int32))), .val (.int x)] [])
      have cx6 := c_iadd i (1 : Int32)
      simp only [show ((1 : Int32)).toInt = 1 from by decide] at cx6
      generalize hx6 : (i + (1 : Int32)) = x6 at cx6 ⊢
      have rx6 := rng32 x6
      refine own_go (fun _ => XS.goto X1.here hx rfl (pc0 := 36) (pc' := 14) rfl (hb hby d3_36) (by decide) (by decide)) ?_
      show GG _ _ _ _ _ _ _ T1 (mkF m 14 #[.val (.ref a8), .val (.long x5), .second, .val (.ref b9), .val (.int x2), .val (.int x6), .val (.int x)] [])
      exact ih (k0 + 1) x6 x5 _ (Or.inr ⟨_, rfl, rfl⟩) (by omega) (by omega) (by rw [← own_sum Li k0 x hx0, ← hacc, ← hx5, ← hx4])
  exact loop3 Li.length 0 (0 : Int32) (0 : Int64) .unset (Or.inl rfl) (by decide) (by omega) rfl
theorem pd___IJ_V_405 : parseMethodDescriptor "([IJ)V" = some ⟨[(.array .int), .long], none⟩ := by decide +kernel
theorem pd___J_155 : parseMethodDescriptor "()J" = some ⟨[], some .long⟩ := by decide +kernel
theorem pn_com_example_deft_shards_deftshards_index_IndexSummaryDocumentsPinLaw : plainName "com/example/deft_shards/deftshards/index/IndexSummaryDocumentsPinLaw" = true := by first | (simp [plainName, overriddenIn]; done) | decide +kernel
theorem ef_0 (m : MethodId) (x0 : Int32) (x1 : Int32) (x2 : Int32) (x3 : Int32) (x4 : Int32) (x5 : Int64) : entryFrame m #[(.int x0), (.int x1), (.int x2), (.int x3), (.int x4), (.long x5)] maxLocals = mkF m 0 #[.val (.int x0), .val (.int x1), .val (.int x2), .val (.int x3), .val (.int x4), .val (.long x5), .second, .unset, .unset, .unset, .unset, .unset] [] := by first | (simp [entryFrame, mkF, argsToLocals, Value.category, maxLocals]; done) | rfl
def Q0 (Z : State) (p0 : Int32) (p1 : Int32) (p2 : Int32) (p3 : Int32) (p4 : Int32) (q5 : Int64) (h0 : Heap) (n0 : Nat) (v : Option Value) (h : Heap) (L : List Loc) : Prop := v = some (.int 1) ∧ Fr n0 L
set_option maxRecDepth 65536 in
set_option maxHeartbeats 40000000 in
theorem rm0 (l : Launch) (Z : State) (a0 : Array Value) (hw : ∀ d ∈ tables_1, d.before a0 Z = true) (ws : List Jvm.Cond) (p0 : Int32) (p1 : Int32) (p2 : Int32) (p3 : Int32) (p4 : Int32) (q5 : Int64) (h0 : Heap) (n0 : Nat) (Z0 : n0 ≤ h0.size)  :
    own_CT l Z x code maxLocals ret ws room_1 #[(.int p0), (.int p1), (.int p2), (.int p3), (.int p4), (.long q5)] h0 (Q0 Z p0 p1 p2 p3 p4 q5 h0 n0) := by
  refine MetFree.of_bodySF (plainFor_of_name pn_com_example_deft_shards_deftshards_index_IndexSummaryDocumentsPinLaw) hisR ?_
  intro p e s m args below meth c s₁ Bd hml0 hP hK
  obtain ⟨rfl, hZ, hh⟩ := hP
  have hx := Bd.exec
  have hby := Bd.bytes
  have hml : c.maxLocals = 12 := hml0
  have hown : s.vm.findClass "com/example/deft_shards/deftshards/index/IndexSummaryDocumentsPinLaw" = some m.cls := findClass_of_methodNamed Bd.named
  have hnm := (name_of_methodNamed Bd.named Bd.method).1
  have hlk : meth.locks = false := BodyLoose.notSynchronized Bd
  have X0 : Stand p l e room_1 s m #[(.int p0), (.int p1), (.int p2), (.int p3), (.int p4), (.long q5)] below meth c s₁ [] 0 0 := Stand.of_body Bd
  have e0 : s₁.heap = h0 := by rw [← hh, Bd.state]; rfl
  have N0 := Fr.nil n0
  show GG p e below s room_1.cells room_1.slots (Q0 Z p0 p1 p2 p3 p4 q5 h0 n0) s₁ (entryFrame m #[(.int p0), (.int p1), (.int p2), (.int p3), (.int p4), (.long q5)] maxLocals)
  refine own_in (ef_0 m p0 p1 p2 p3 p4 q5) ?_
  show GG _ _ _ _ _ _ _ s₁ (mkF m 0 #[.val (.int p0), .val (.int p1), .val (.int p2), .val (.int p3), .val (.int p4), .val (.long q5), .second, .unset, .unset, .unset, .unset, .unset] [])
  refine own_go (fun _ => XS.iloadN X0.here hx rfl (hb hby at_0) rfl) ?_
  show GG _ _ _ _ _ _ _ s₁ (mkF m 1 #[.val (.int p0), .val (.int p1), .val (.int p2), .val (.int p3), .val (.int p4), .val (.long q5), .second, .unset, .unset, .unset, .unset, .unset] [(.int p0)])
  refine own_go (fun _ => X0.ldcInt hx hown (mvT hZ (hw _ (List.mem_of_getElem? (i := 0) rfl))) (g := (mkF m 1 #[.val (.int p0), .val (.int p1), .val (.int p2), .val (.int p3), .val (.int p4), .val (.long q5), .second, .unset, .unset, .unset, .unset, .unset] [(.int p0)])) rfl (hb hby at_1) _) ?_
  show GG _ _ _ _ _ _ _ s₁ (mkF m 3 #[.val (.int p0), .val (.int p1), .val (.int p2), .val (.int p3), .val (.int p4), .val (.long q5), .second, .unset, .unset, .unset, .unset, .unset] [(.int (2147483647 : Int32)), (.int p0)])
  refine own_go (fun _ => XS.iand X0.here hx rfl (hb hby at_3) rfl) ?_
  show GG _ _ _ _ _ _ _ s₁ (mkF m 4 #[.val (.int p0), .val (.int p1), .val (.int p2), .val (.int p3), .val (.int p4), .val (.long q5), .second, .unset, .unset, .unset, .unset, .unset] [(.int (p0 &&& (2147483647 : Int32)))])
  have cx1 := c_mask p0 (2147483647 : Int32) 31 (by decide) (by decide)
  generalize hx1 : (p0 &&& (2147483647 : Int32)) = x1 at cx1 ⊢
  have rx1 := rng32 x1
  refine own_go (fun _ => XS.iconst X0.here hx rfl (hb hby at_4)) ?_
  show GG _ _ _ _ _ _ _ s₁ (mkF m 5 #[.val (.int p0), .val (.int p1), .val (.int p2), .val (.int p3), .val (.int p4), .val (.long q5), .second, .unset, .unset, .unset, .unset, .unset] [(.int (5 : Int32)), (.int x1)])
  refine own_go (fun _ => iremM X0 hx rfl (hb hby at_5) rfl (by decide)) ?_
  show GG _ _ _ _ _ _ _ s₁ (mkF m 6 #[.val (.int p0), .val (.int p1), .val (.int p2), .val (.int p3), .val (.int p4), .val (.long q5), .second, .unset, .unset, .unset, .unset, .unset] [(.int (x1 % (5 : Int32)))])
  have cx2 := c_irem x1 (5 : Int32) 5 (by decide)
  generalize hx2 : (x1 % (5 : Int32)) = x2 at cx2 ⊢
  have rx2 := rng32 x2
  refine own_go (fun _ => XS.istore X0.here hx rfl (hb hby at_6) rfl (l' := #[.val (.int p0), .val (.int p1), .val (.int p2), .val (.int p3), .val (.int p4), .val (.long q5), .second, .val (.int x2), .unset, .unset, .unset, .unset]) rfl) ?_
  show GG _ _ _ _ _ _ _ s₁ (mkF m 8 #[.val (.int p0), .val (.int p1), .val (.int p2), .val (.int p3), .val (.int p4), .val (.long q5), .second, .val (.int x2), .unset, .unset, .unset, .unset] [])
  refine own_go (fun _ => XS.iload X0.here hx rfl (hb hby at_8) rfl) ?_
  show GG _ _ _ _ _ _ _ s₁ (mkF m 10 #[.val (.int p0), .val (.int p1), .val (.int p2), .val (.int p3), .val (.int p4), .val (.long q5), .second, .val (.int x2), .unset, .unset, .unset, .unset] [(.int x2)])
  by_cases hc10 : x2 = (0 : Int32)
  · skip
    have ihc10 : (x2.toInt = 0) := Int32.toInt_inj.mpr hc10
    refine own_go (fun _ => XS.ifNo X0.here hx rfl (hb hby at_10) rfl ((if0 _ _).trans (teq hc10).2)) ?_
    show GG _ _ _ _ _ _ _ s₁ (mkF m 13 #[.val (.int p0), .val (.int p1), .val (.int p2), .val (.int p3), .val (.int p4), .val (.long q5), .second, .val (.int x2), .unset, .unset, .unset, .unset] [])
    refine own_go (fun _ => XS.iconst X0.here hx rfl (hb hby at_13)) ?_
    show GG _ _ _ _ _ _ _ s₁ (mkF m 14 #[.val (.int p0), .val (.int p1), .val (.int p2), .val (.int p3), .val (.int p4), .val (.long q5), .second, .val (.int x2), .unset, .unset, .unset, .unset] [(.int (0 : Int32))])
    have K0 := Keep.refl h0 []
    obtain ⟨T3, h3, ob3, g3, X3, e3, E3, V_ob3, E_ob3, st3⟩ := own_newarr X0 hx hZ (hw _ (List.mem_of_getElem? (i := 1) rfl)) e0 (g := (mkF m 14 #[.val (.int p0), .val (.int p1), .val (.int p2), .val (.int p3), .val (.int p4), .val (.long q5), .second, .val (.int x2), .unset, .unset, .unset, .unset] [(.int (0 : Int32))])) rfl (hb hby at_14) rfl (by decide) (cap := 0) (by decide) (by decide) (by decide) (by decide) (ad := "[I") (by decide)
    have sz_ob3 : h0.size ≤ ob3 := Nat.le_trans K0.1 (Nat.le_of_eq g3.symm)
    have g_ob3 : n0 ≤ ob3 := Nat.le_trans Z0 sz_ob3
    have K0 := K0.ext E3
    have V_ob3 : Arx Z h3 ob3 .int [] := V_ob3
    refine own_go (fun _ => st3 _) ?_
    show GG _ _ _ _ _ _ _ T3 (mkF m 16 #[.val (.int p0), .val (.int p1), .val (.int p2), .val (.int p3), .val (.int p4), .val (.long q5), .second, .val (.int x2), .unset, .unset, .unset, .unset] [(.ref ob3)])
    refine own_go (fun _ => XS.astore X3.here hx rfl (hb hby at_16) rfl rfl (l' := #[.val (.int p0), .val (.int p1), .val (.int p2), .val (.int p3), .val (.int p4), .val (.long q5), .second, .val (.int x2), .val (.ref ob3), .unset, .unset, .unset]) rfl) ?_
    show GG _ _ _ _ _ _ _ T3 (mkF m 18 #[.val (.int p0), .val (.int p1), .val (.int p2), .val (.int p3), .val (.int p4), .val (.long q5), .second, .val (.int x2), .val (.ref ob3), .unset, .unset, .unset] [])
    refine own_go (fun _ => XS.goto X3.here hx rfl (pc0 := 18) (pc' := 109) rfl (hb hby at_18) (by decide) (by decide)) ?_
    show GG _ _ _ _ _ _ _ T3 (mkF m 109 #[.val (.int p0), .val (.int p1), .val (.int p2), .val (.int p3), .val (.int p4), .val (.long q5), .second, .val (.int x2), .val (.ref ob3), .unset, .unset, .unset] [])
    refine own_go (fun _ => XS.lconst X3.here hx rfl (hb hby at_109)) ?_
    show GG _ _ _ _ _ _ _ T3 (mkF m 110 #[.val (.int p0), .val (.int p1), .val (.int p2), .val (.int p3), .val (.int p4), .val (.long q5), .second, .val (.int x2), .val (.ref ob3), .unset, .unset, .unset] [(.long (0 : Int64))])
    refine own_go (fun _ => XS.lstore X3.here hx rfl (hb hby at_110) rfl (l' := #[.val (.int p0), .val (.int p1), .val (.int p2), .val (.int p3), .val (.int p4), .val (.long q5), .second, .val (.int x2), .val (.ref ob3), .val (.long (0 : Int64)), .second, .unset]) rfl) ?_
    show GG _ _ _ _ _ _ _ T3 (mkF m 112 #[.val (.int p0), .val (.int p1), .val (.int p2), .val (.int p3), .val (.int p4), .val (.long q5), .second, .val (.int x2), .val (.ref ob3), .val (.long (0 : Int64)), .second, .unset] [])
    refine own_go (fun _ => XS.iload X3.here hx rfl (hb hby at_112) rfl) ?_
    show GG _ _ _ _ _ _ _ T3 (mkF m 114 #[.val (.int p0), .val (.int p1), .val (.int p2), .val (.int p3), .val (.int p4), .val (.long q5), .second, .val (.int x2), .val (.ref ob3), .val (.long (0 : Int64)), .second, .unset] [(.int x2)])
    refine own_go (fun _ => XS.iconst X3.here hx rfl (hb hby at_114)) ?_
    show GG _ _ _ _ _ _ _ T3 (mkF m 115 #[.val (.int p0), .val (.int p1), .val (.int p2), .val (.int p3), .val (.int p4), .val (.long q5), .second, .val (.int x2), .val (.ref ob3), .val (.long (0 : Int64)), .second, .unset] [(.int (1 : Int32)), (.int x2)])
    have hc115 : x2 < (1 : Int32) := (Int32.lt_iff_toInt_lt.mpr ((by show (x2.toInt < 1); omega : (x2.toInt < 1))))
    refine own_go (fun _ => XS.icmpYes X3.here hx rfl (pc0 := 115) (pc' := 125) rfl (hb hby at_115) rfl (tlt hc115).1 (by decide) (by decide)) ?_
    show GG _ _ _ _ _ _ _ T3 (mkF m 125 #[.val (.int p0), .val (.int p1), .val (.int p2), .val (.int p3), .val (.int p4), .val (.long q5), .second, .val (.int x2), .val (.ref ob3), .val (.long (0 : Int64)), .second, .unset] [])
    refine own_go (fun _ => XS.iload X3.here hx rfl (hb hby at_125) rfl) ?_
    show GG _ _ _ _ _ _ _ T3 (mkF m 127 #[.val (.int p0), .val (.int p1), .val (.int p2), .val (.int p3), .val (.int p4), .val (.long q5), .second, .val (.int x2), .val (.ref ob3), .val (.long (0 : Int64)), .second, .unset] [(.int x2)])
    refine own_go (fun _ => XS.iconst X3.here hx rfl (hb hby at_127)) ?_
    show GG _ _ _ _ _ _ _ T3 (mkF m 128 #[.val (.int p0), .val (.int p1), .val (.int p2), .val (.int p3), .val (.int p4), .val (.long q5), .second, .val (.int x2), .val (.ref ob3), .val (.long (0 : Int64)), .second, .unset] [(.int (2 : Int32)), (.int x2)])
    have hc128 : x2 < (2 : Int32) := (Int32.lt_iff_toInt_lt.mpr ((by show (x2.toInt < 2); omega : (x2.toInt < 2))))
    refine own_go (fun _ => XS.icmpYes X3.here hx rfl (pc0 := 128) (pc' := 138) rfl (hb hby at_128) rfl (tlt hc128).1 (by decide) (by decide)) ?_
    show GG _ _ _ _ _ _ _ T3 (mkF m 138 #[.val (.int p0), .val (.int p1), .val (.int p2), .val (.int p3), .val (.int p4), .val (.long q5), .second, .val (.int x2), .val (.ref ob3), .val (.long (0 : Int64)), .second, .unset] [])
    refine own_go (fun _ => XS.iload X3.here hx rfl (hb hby at_138) rfl) ?_
    show GG _ _ _ _ _ _ _ T3 (mkF m 140 #[.val (.int p0), .val (.int p1), .val (.int p2), .val (.int p3), .val (.int p4), .val (.long q5), .second, .val (.int x2), .val (.ref ob3), .val (.long (0 : Int64)), .second, .unset] [(.int x2)])
    refine own_go (fun _ => XS.iconst X3.here hx rfl (hb hby at_140)) ?_
    show GG _ _ _ _ _ _ _ T3 (mkF m 141 #[.val (.int p0), .val (.int p1), .val (.int p2), .val (.int p3), .val (.int p4), .val (.long q5), .second, .val (.int x2), .val (.ref ob3), .val (.long (0 : Int64)), .second, .unset] [(.int (3 : Int32)), (.int x2)])
    have hc141 : x2 < (3 : Int32) := (Int32.lt_iff_toInt_lt.mpr ((by show (x2.toInt < 3); omega : (x2.toInt < 3))))
    refine own_go (fun _ => XS.icmpYes X3.here hx rfl (pc0 := 141) (pc' := 151) rfl (hb hby at_141) rfl (tlt hc141).1 (by decide) (by decide)) ?_
    show GG _ _ _ _ _ _ _ T3 (mkF m 151 #[.val (.int p0), .val (.int p1), .val (.int p2), .val (.int p3), .val (.int p4), .val (.long q5), .second, .val (.int x2), .val (.ref ob3), .val (.long (0 : Int64)), .second, .unset] [])
    refine own_go (fun _ => XS.iload X3.here hx rfl (hb hby at_151) rfl) ?_
    show GG _ _ _ _ _ _ _ T3 (mkF m 153 #[.val (.int p0), .val (.int p1), .val (.int p2), .val (.int p3), .val (.int p4), .val (.long q5), .second, .val (.int x2), .val (.ref ob3), .val (.long (0 : Int64)), .second, .unset] [(.int x2)])
    refine own_go (fun _ => XS.iconst X3.here hx rfl (hb hby at_153)) ?_
    show GG _ _ _ _ _ _ _ T3 (mkF m 154 #[.val (.int p0), .val (.int p1), .val (.int p2), .val (.int p3), .val (.int p4), .val (.long q5), .second, .val (.int x2), .val (.ref ob3), .val (.long (0 : Int64)), .second, .unset] [(.int (4 : Int32)), (.int x2)])
    have hc154 : x2 < (4 : Int32) := (Int32.lt_iff_toInt_lt.mpr ((by show (x2.toInt < 4); omega : (x2.toInt < 4))))
    refine own_go (fun _ => XS.icmpYes X3.here hx rfl (pc0 := 154) (pc' := 165) rfl (hb hby at_154) rfl (tlt hc154).1 (by decide) (by decide)) ?_
    show GG _ _ _ _ _ _ _ T3 (mkF m 165 #[.val (.int p0), .val (.int p1), .val (.int p2), .val (.int p3), .val (.int p4), .val (.long q5), .second, .val (.int x2), .val (.ref ob3), .val (.long (0 : Int64)), .second, .unset] [])
    obtain ⟨T4, h4, X4, e4, E4, A4, D4, -, st4⟩ := newO X3 hx hZ hown (hw _ (List.mem_of_getElem? (i := 2) rfl)) (hw _ (List.mem_of_getElem? (i := 3) rfl)) (hw _ (List.mem_of_getElem? (i := 4) rfl)) e3 (g := (mkF m 165 #[.val (.int p0), .val (.int p1), .val (.int p2), .val (.int p3), .val (.int p4), .val (.long q5), .second, .val (.int x2), .val (.ref ob3), .val (.long (0 : Int64)), .second, .unset] [])) rfl (hb hby at_165) (by decide) (by decide)
    obtain ⟨ob4, g4⟩ : ∃ z, z = h3.size := ⟨_, rfl⟩
    rw [← g4] at A4 D4 st4
    have ne_ob3_ob4 : ob3 ≠ ob4 := Nat.ne_of_lt (Nat.lt_of_lt_of_le V_ob3.lt (Nat.le_of_eq g4.symm))
    have sz_ob4 : h0.size ≤ ob4 := Nat.le_trans K0.1 (Nat.le_of_eq g4.symm)
    have g_ob4 : n0 ≤ ob4 := Nat.le_trans Z0 sz_ob4
    have K0 := K0.ext E4
    have V_ob3 := V_ob3.ext E4
    have E_ob3 := E_ob3.ext E4
    have E_ob4 := A4
    have F_shardDocuments_ob4 : Fld Z h4 ob4 "com/example/deft_shards/deftshards/index/IndexSummary" "shardDocuments" "[I" .null := D4 (Or.inr (hw _ (List.mem_of_getElem? (i := 21) rfl))) (ty := (.array .int)) (by decide)
    have F_skipped_ob4 : Fld Z h4 ob4 "com/example/deft_shards/deftshards/index/IndexSummary" "skipped" "J" (.long (0 : Int64)) := D4 (Or.inr (hw _ (List.mem_of_getElem? (i := 23) rfl))) (ty := .long) (by decide)
    refine own_go (fun _ => st4 _) ?_
    show GG _ _ _ _ _ _ _ T4 (mkF m 168 #[.val (.int p0), .val (.int p1), .val (.int p2), .val (.int p3), .val (.int p4), .val (.long q5), .second, .val (.int x2), .val (.ref ob3), .val (.long (0 : Int64)), .second, .unset] [(.ref ob4)])
    refine own_go (fun _ => XS.dup X4.here hx rfl (hb hby at_168) rfl rfl) ?_
    show GG _ _ _ _ _ _ _ T4 (mkF m 169 #[.val (.int p0), .val (.int p1), .val (.int p2), .val (.int p3), .val (.int p4), .val (.long q5), .second, .val (.int x2), .val (.ref ob3), .val (.long (0 : Int64)), .second, .unset] [(.ref ob4), (.ref ob4)])
    refine own_go (fun _ => XS.aload X4.here hx rfl (hb hby at_169) rfl rfl) ?_
    show GG _ _ _ _ _ _ _ T4 (mkF m 171 #[.val (.int p0), .val (.int p1), .val (.int p2), .val (.int p3), .val (.int p4), .val (.long q5), .second, .val (.int x2), .val (.ref ob3), .val (.long (0 : Int64)), .second, .unset] [(.ref ob3), (.ref ob4), (.ref ob4)])
    refine own_go (fun _ => XS.lload X4.here hx rfl (hb hby at_171) rfl) ?_
    show GG _ _ _ _ _ _ _ T4 (mkF m 173 #[.val (.int p0), .val (.int p1), .val (.int p2), .val (.int p3), .val (.int p4), .val (.long q5), .second, .val (.int x2), .val (.ref ob3), .val (.long (0 : Int64)), .second, .unset] [(.long q5), (.ref ob3), (.ref ob4), (.ref ob4)])
    refine own_callI X4 hx hZ (y := (⟨"com/example/deft_shards/deftshards/index/IndexSummary", "<init>", "([IJ)V"⟩ : MethodName)) 1 rfl hown (hw _ (List.mem_of_getElem? (i := 5) rfl)) (hw _ (List.mem_of_getElem? (i := 6) rfl)) (hw _ (List.mem_of_getElem? (i := 4) rfl)) (hw _ (List.mem_of_getElem? (i := 7) rfl)) (by decide) (a := ob4) (argsL := [(.ref ob3), (.long q5)]) (rest := [(.ref ob4)]) (rm1 l Z a0 hw [] ob4 ob3 q5 [] h4 n0 (Nat.le_trans Z0 K0.1) E_ob4 F_shardDocuments_ob4 F_skipped_ob4 V_ob3 E_ob3 g_ob4 (Nat.le_of_ble_eq_true rfl)) (by decide) (by decide) (by decide) (by decide) (g := (mkF m 173 #[.val (.int p0), .val (.int p1), .val (.int p2), .val (.int p3), .val (.int p4), .val (.long q5), .second, .val (.int x2), .val (.ref ob3), .val (.long (0 : Int64)), .second, .unset] [(.long q5), (.ref ob3), (.ref ob4), (.ref ob4)])) rfl (by rw [hml]; rfl) (lenOf pd___IJ_V_405 rfl) rfl (by show 2 * 0 + _ ≤ _; exact Nat.le_of_eq rfl) (hb hby at_173) e4 ?_
    rintro v5 T5 L5 X5 ⟨rfl, N5q, Kq5, Eq5, bq5, gq5, Fq5, Vq5⟩
    have N5 := Fr.app N0 N5q
    have K0 := K0.trans Kq5 (allS (Or.inr sz_ob4) all0)
    have V_ob3 := V_ob3.keep Kq5 (ninS ne_ob3_ob4 nin0)
    have E_ob3 := E_ob3.keep Kq5
    show GG _ _ _ _ _ _ _ T5 (mkF m 176 #[.val (.int p0), .val (.int p1), .val (.int p2), .val (.int p3), .val (.int p4), .val (.long q5), .second, .val (.int x2), .val (.ref ob3), .val (.long (0 : Int64)), .second, .unset] [(.ref ob4)])
    refine own_go (fun _ => XS.astore X5.here hx rfl (hb hby at_176) rfl rfl (l' := #[.val (.int p0), .val (.int p1), .val (.int p2), .val (.int p3), .val (.int p4), .val (.long q5), .second, .val (.int x2), .val (.ref ob3), .val (.long (0 : Int64)), .second, .val (.ref ob4)]) rfl) ?_
    show GG _ _ _ _ _ _ _ T5 (mkF m 178 #[.val (.int p0), .val (.int p1), .val (.int p2), .val (.int p3), .val (.int p4), .val (.long q5), .second, .val (.int x2), .val (.ref ob3), .val (.long (0 : Int64)), .second, .val (.ref ob4)] [])
    refine own_go (fun _ => XS.aload X5.here hx rfl (hb hby at_178) rfl rfl) ?_
    show GG _ _ _ _ _ _ _ T5 (mkF m 180 #[.val (.int p0), .val (.int p1), .val (.int p2), .val (.int p3), .val (.int p4), .val (.long q5), .second, .val (.int x2), .val (.ref ob3), .val (.long (0 : Int64)), .second, .val (.ref ob4)] [(.ref ob4)])
    refine own_callV X5 hx hZ (y := (⟨"com/example/deft_shards/deftshards/index/IndexSummary", "documents", "()J"⟩ : MethodName)) (z := (⟨"com/example/deft_shards/deftshards/index/IndexSummary", "documents", "()J"⟩ : MethodName)) 0 hown (hw _ (List.mem_of_getElem? (i := 24) rfl)) (hw _ (List.mem_of_getElem? (i := 25) rfl)) (notFace_of_selects (args := #[]) (mvT hZ (hw _ (List.mem_of_getElem? (i := 27) rfl)))) (hw _ (List.mem_of_getElem? (i := 27) rfl)) (hw _ (List.mem_of_getElem? (i := 26) rfl)) (hw _ (List.mem_of_getElem? (i := 4) rfl)) (hw _ (List.mem_of_getElem? (i := 28) rfl)) (by decide) (a := ob4) (argsL := []) (rest := []) (rm3 l Z a0 hw [] ob4 bq5 [] T5.heap n0 (Nat.le_trans Z0 K0.1) Fq5 Vq5) (by decide) (by decide) (by decide) (by decide) Eq5 (g := (mkF m 180 #[.val (.int p0), .val (.int p1), .val (.int p2), .val (.int p3), .val (.int p4), .val (.long q5), .second, .val (.int x2), .val (.ref ob3), .val (.long (0 : Int64)), .second, .val (.ref ob4)] [(.ref ob4)])) rfl (by rw [hml]; rfl) (lenOf pd___J_155 rfl) rfl (by show 2 * 0 + _ ≤ _; exact Nat.le_of_eq rfl) (hb hby at_180) rfl ?_
    rintro v6 T6 L6 X6 ⟨rfl, N6q, hh6⟩
    have N6 := Fr.app N5 N6q
    show GG _ _ _ _ _ _ _ T6 (mkF m 183 #[.val (.int p0), .val (.int p1), .val (.int p2), .val (.int p3), .val (.int p4), .val (.long q5), .second, .val (.int x2), .val (.ref ob3), .val (.long (0 : Int64)), .second, .val (.ref ob4)] [(.long (sumL []))])
    refine own_go (fun _ => XS.lload X6.here hx rfl (hb hby at_183) rfl) ?_
    show GG _ _ _ _ _ _ _ T6 (mkF m 185 #[.val (.int p0), .val (.int p1), .val (.int p2), .val (.int p3), .val (.int p4), .val (.long q5), .second, .val (.int x2), .val (.ref ob3), .val (.long (0 : Int64)), .second, .val (.ref ob4)] [(.long (0 : Int64)), (.long (sumL []))])
    refine own_go (fun _ => XS.lcmp X6.here hx rfl (hb hby at_185) rfl) ?_
    show GG _ _ _ _ _ _ _ T6 (mkF m 186 #[.val (.int p0), .val (.int p1), .val (.int p2), .val (.int p3), .val (.int p4), .val (.long q5), .second, .val (.int x2), .val (.ref ob3), .val (.long (0 : Int64)), .second, .val (.ref ob4)] [(.int (lcmpW (sumL []) (0 : Int64)))])
    have hc186 : (sumL []) = (0 : Int64) := rfl
    refine own_go (fun _ => XS.ifNo X6.here hx rfl (hb hby at_186) rfl ((if0 _ _).trans (teq ((lw_eq _ _).mpr hc186)).2)) ?_
    show GG _ _ _ _ _ _ _ T6 (mkF m 189 #[.val (.int p0), .val (.int p1), .val (.int p2), .val (.int p3), .val (.int p4), .val (.long q5), .second, .val (.int x2), .val (.ref ob3), .val (.long (0 : Int64)), .second, .val (.ref ob4)] [])
    refine own_go (fun _ => XS.iconst X6.here hx rfl (hb hby at_189)) ?_
    show GG _ _ _ _ _ _ _ T6 (mkF m 190 #[.val (.int p0), .val (.int p1), .val (.int p2), .val (.int p3), .val (.int p4), .val (.long q5), .second, .val (.int x2), .val (.ref ob3), .val (.long (0 : Int64)), .second, .val (.ref ob4)] [(.int (1 : Int32))])
    refine own_go (fun _ => XS.goto X6.here hx rfl (pc0 := 190) (pc' := 194) rfl (hb hby at_190) (by decide) (by decide)) ?_
    show GG _ _ _ _ _ _ _ T6 (mkF m 194 #[.val (.int p0), .val (.int p1), .val (.int p2), .val (.int p3), .val (.int p4), .val (.long q5), .second, .val (.int x2), .val (.ref ob3), .val (.long (0 : Int64)), .second, .val (.ref ob4)] [(.int (1 : Int32))])
    refine own_ret X6 hx hlk (t := .boolean) (w := (.int (1 : Int32))) Bd.returns rfl (Or.inl ⟨rfl, by simp, _, rfl⟩) (hb hby at_194) (by decide) (by decide) ?_
    show Q0 Z p0 p1 p2 p3 p4 q5 h0 n0 (some (.int (1 : Int32))) T6.heap _
    rw [hh6]
    exact ⟨rfl, N6⟩
  · skip
    have ihc10 : ¬ (x2.toInt = 0) := fun q => hc10 (Int32.toInt_inj.mp q)
    refine own_go (fun _ => XS.ifYes X0.here hx rfl (pc0 := 10) (pc' := 21) rfl (hb hby at_10) rfl ((if0 _ _).trans (feq hc10).2) (by decide) (by decide)) ?_
    show GG _ _ _ _ _ _ _ s₁ (mkF m 21 #[.val (.int p0), .val (.int p1), .val (.int p2), .val (.int p3), .val (.int p4), .val (.long q5), .second, .val (.int x2), .unset, .unset, .unset, .unset] [])
    refine own_go (fun _ => XS.iload X0.here hx rfl (hb hby at_21) rfl) ?_
    show GG _ _ _ _ _ _ _ s₁ (mkF m 23 #[.val (.int p0), .val (.int p1), .val (.int p2), .val (.int p3), .val (.int p4), .val (.long q5), .second, .val (.int x2), .unset, .unset, .unset, .unset] [(.int x2)])
    refine own_go (fun _ => XS.iconst X0.here hx rfl (hb hby at_23)) ?_
    show GG _ _ _ _ _ _ _ s₁ (mkF m 24 #[.val (.int p0), .val (.int p1), .val (.int p2), .val (.int p3), .val (.int p4), .val (.long q5), .second, .val (.int x2), .unset, .unset, .unset, .unset] [(.int (1 : Int32)), (.int x2)])
    by_cases hc24 : x2 = (1 : Int32)
    · skip
      have ihc24 : (x2.toInt = 1) := Int32.toInt_inj.mpr hc24
      refine own_go (fun _ => XS.icmpNo X0.here hx rfl (hb hby at_24) rfl (teq hc24).2) ?_
      show GG _ _ _ _ _ _ _ s₁ (mkF m 27 #[.val (.int p0), .val (.int p1), .val (.int p2), .val (.int p3), .val (.int p4), .val (.long q5), .second, .val (.int x2), .unset, .unset, .unset, .unset] [])
      refine own_go (fun _ => XS.iconst X0.here hx rfl (hb hby at_27)) ?_
      show GG _ _ _ _ _ _ _ s₁ (mkF m 28 #[.val (.int p0), .val (.int p1), .val (.int p2), .val (.int p3), .val (.int p4), .val (.long q5), .second, .val (.int x2), .unset, .unset, .unset, .unset] [(.int (1 : Int32))])
      have K0 := Keep.refl h0 []
      obtain ⟨T7, h7, ob7, g7, X7, e7, E7, V_ob7, E_ob7, st7⟩ := own_newarr X0 hx hZ (hw _ (List.mem_of_getElem? (i := 1) rfl)) e0 (g := (mkF m 28 #[.val (.int p0), .val (.int p1), .val (.int p2), .val (.int p3), .val (.int p4), .val (.long q5), .second, .val (.int x2), .unset, .unset, .unset, .unset] [(.int (1 : Int32))])) rfl (hb hby at_28) rfl (by decide) (cap := 1) (by decide) (by decide) (by decide) (by decide) (ad := "[I") (by decide)
      have sz_ob7 : h0.size ≤ ob7 := Nat.le_trans K0.1 (Nat.le_of_eq g7.symm)
      have g_ob7 : n0 ≤ ob7 := Nat.le_trans Z0 sz_ob7
      have K0 := K0.ext E7
      have V_ob7 : Arx Z h7 ob7 .int [(.int (0 : Int32))] := V_ob7
      refine own_go (fun _ => st7 _) ?_
      show GG _ _ _ _ _ _ _ T7 (mkF m 30 #[.val (.int p0), .val (.int p1), .val (.int p2), .val (.int p3), .val (.int p4), .val (.long q5), .second, .val (.int x2), .unset, .unset, .unset, .unset] [(.ref ob7)])
      refine own_go (fun _ => XS.dup X7.here hx rfl (hb hby at_30) rfl rfl) ?_
      show GG _ _ _ _ _ _ _ T7 (mkF m 31 #[.val (.int p0), .val (.int p1), .val (.int p2), .val (.int p3), .val (.int p4), .val (.long q5), .second, .val (.int x2), .unset, .unset, .unset, .unset] [(.ref ob7), (.ref ob7)])
      refine own_go (fun _ => XS.iconst X7.here hx rfl (hb hby at_31)) ?_
      show GG _ _ _ _ _ _ _ T7 (mkF m 32 #[.val (.int p0), .val (.int p1), .val (.int p2), .val (.int p3), .val (.int p4), .val (.long q5), .second, .val (.int x2), .unset, .unset, .unset, .unset] [(.int (0 : Int32)), (.ref ob7), (.ref ob7)])
      refine own_go (fun _ => XS.iloadN X7.here hx rfl (hb hby at_32) rfl) ?_
      show GG _ _ _ _ _ _ _ T7 (mkF m 33 #[.val (.int p0), .val (.int p1), .val (.int p2), .val (.int p3), .val (.int p4), .val (.long q5), .second, .val (.int x2), .unset, .unset, .unset, .unset] [(.int p1), (.int (0 : Int32)), (.ref ob7), (.ref ob7)])
      obtain ⟨T8, h8, X8, e8, W8, V8, st8⟩ := own_iastore X7 hx hZ e7 V_ob7 (by decide) (Nat.le_of_ble_eq_true rfl) (g := (mkF m 33 #[.val (.int p0), .val (.int p1), .val (.int p2), .val (.int p3), .val (.int p4), .val (.long q5), .second, .val (.int x2), .unset, .unset, .unset, .unset] [(.int p1), (.int (0 : Int32)), (.ref ob7), (.ref ob7)])) rfl rfl (hb hby at_33)
      have K0 := K0.wr W8 (Or.inr sz_ob7)
      have E_ob7 := E_ob7.wr W8
      have V_ob7 : Arx Z h8 ob7 .int [(.int p1)] := V8
      have N8 := Fr.snoc X8 N0 g_ob7
      refine own_go (fun _ => st8 _) ?_
      show GG _ _ _ _ _ _ _ T8 (mkF m 34 #[.val (.int p0), .val (.int p1), .val (.int p2), .val (.int p3), .val (.int p4), .val (.long q5), .second, .val (.int x2), .unset, .unset, .unset, .unset] [(.ref ob7)])
      refine own_go (fun _ => XS.astore X8.here hx rfl (hb hby at_34) rfl rfl (l' := #[.val (.int p0), .val (.int p1), .val (.int p2), .val (.int p3), .val (.int p4), .val (.long q5), .second, .val (.int x2), .val (.ref ob7), .unset, .unset, .unset]) rfl) ?_
      show GG _ _ _ _ _ _ _ T8 (mkF m 36 #[.val (.int p0), .val (.int p1), .val (.int p2), .val (.int p3), .val (.int p4), .val (.long q5), .second, .val (.int x2), .val (.ref ob7), .unset, .unset, .unset] [])
      refine own_go (fun _ => XS.goto X8.here hx rfl (pc0 := 36) (pc' := 109) rfl (hb hby at_36) (by decide) (by decide)) ?_
      show GG _ _ _ _ _ _ _ T8 (mkF m 109 #[.val (.int p0), .val (.int p1), .val (.int p2), .val (.int p3), .val (.int p4), .val (.long q5), .second, .val (.int x2), .val (.ref ob7), .unset, .unset, .unset] [])
      refine own_go (fun _ => XS.lconst X8.here hx rfl (hb hby at_109)) ?_
      show GG _ _ _ _ _ _ _ T8 (mkF m 110 #[.val (.int p0), .val (.int p1), .val (.int p2), .val (.int p3), .val (.int p4), .val (.long q5), .second, .val (.int x2), .val (.ref ob7), .unset, .unset, .unset] [(.long (0 : Int64))])
      refine own_go (fun _ => XS.lstore X8.here hx rfl (hb hby at_110) rfl (l' := #[.val (.int p0), .val (.int p1), .val (.int p2), .val (.int p3), .val (.int p4), .val (.long q5), .second, .val (.int x2), .val (.ref ob7), .val (.long (0 : Int64)), .second, .unset]) rfl) ?_
      show GG _ _ _ _ _ _ _ T8 (mkF m 112 #[.val (.int p0), .val (.int p1), .val (.int p2), .val (.int p3), .val (.int p4), .val (.long q5), .second, .val (.int x2), .val (.ref ob7), .val (.long (0 : Int64)), .second, .unset] [])
      refine own_go (fun _ => XS.iload X8.here hx rfl (hb hby at_112) rfl) ?_
      show GG _ _ _ _ _ _ _ T8 (mkF m 114 #[.val (.int p0), .val (.int p1), .val (.int p2), .val (.int p3), .val (.int p4), .val (.long q5), .second, .val (.int x2), .val (.ref ob7), .val (.long (0 : Int64)), .second, .unset] [(.int x2)])
      refine own_go (fun _ => XS.iconst X8.here hx rfl (hb hby at_114)) ?_
      show GG _ _ _ _ _ _ _ T8 (mkF m 115 #[.val (.int p0), .val (.int p1), .val (.int p2), .val (.int p3), .val (.int p4), .val (.long q5), .second, .val (.int x2), .val (.ref ob7), .val (.long (0 : Int64)), .second, .unset] [(.int (1 : Int32)), (.int x2)])
      have hc115 : ¬ (x2 < (1 : Int32)) := (fun q => absurd (Int32.lt_iff_toInt_lt.mp q) ((by show ¬ (x2.toInt < 1); omega : ¬ (x2.toInt < 1))))
      refine own_go (fun _ => XS.icmpNo X8.here hx rfl (hb hby at_115) rfl (flt hc115).1) ?_
      show GG _ _ _ _ _ _ _ T8 (mkF m 118 #[.val (.int p0), .val (.int p1), .val (.int p2), .val (.int p3), .val (.int p4), .val (.long q5), .second, .val (.int x2), .val (.ref ob7), .val (.long (0 : Int64)), .second, .unset] [])
      refine own_go (fun _ => XS.lload X8.here hx rfl (hb hby at_118) rfl) ?_
      show GG _ _ _ _ _ _ _ T8 (mkF m 120 #[.val (.int p0), .val (.int p1), .val (.int p2), .val (.int p3), .val (.int p4), .val (.long q5), .second, .val (.int x2), .val (.ref ob7), .val (.long (0 : Int64)), .second, .unset] [(.long (0 : Int64))])
      refine own_go (fun _ => XS.iloadN X8.here hx rfl (hb hby at_120) rfl) ?_
      show GG _ _ _ _ _ _ _ T8 (mkF m 121 #[.val (.int p0), .val (.int p1), .val (.int p2), .val (.int p3), .val (.int p4), .val (.long q5), .second, .val (.int x2), .val (.ref ob7), .val (.long (0 : Int64)), .second, .unset] [(.int p1), (.long (0 : Int64))])
      refine own_go (fun _ => XS.i2l X8.here hx rfl (hb hby at_121) rfl) ?_
      show GG _ _ _ _ _ _ _ T8 (mkF m 122 #[.val (.int p0), .val (.int p1), .val (.int p2), .val (.int p3), .val (.int p4), .val (.long q5), .second, .val (.int x2), .val (.ref ob7), .val (.long (0 : Int64)), .second, .unset] [(.long (p1.toInt64)), (.long (0 : Int64))])
      refine own_go (fun _ => XS.ladd X8.here hx rfl (hb hby at_122) rfl) ?_
      show GG _ _ _ _ _ _ _ T8 (mkF m 123 #[.val (.int p0), .val (.int p1), .val (.int p2), .val (.int p3), .val (.int p4), .val (.long q5), .second, .val (.int x2), .val (.ref ob7), .val (.long (0 : Int64)), .second, .unset] [(.long ((0 : Int64) + (p1.toInt64)))])
      refine own_go (fun _ => XS.lstore X8.here hx rfl (hb hby at_123) rfl (l' := #[.val (.int p0), .val (.int p1), .val (.int p2), .val (.int p3), .val (.int p4), .val (.long q5), .second, .val (.int x2), .val (.ref ob7), .val (.long ((0 : Int64) + (p1.toInt64))), .second, .unset]) rfl) ?_
      show GG _ _ _ _ _ _ _ T8 (mkF m 125 #[.val (.int p0), .val (.int p1), .val (.int p2), .val (.int p3), .val (.int p4), .val (.long q5), .second, .val (.int x2), .val (.ref ob7), .val (.long ((0 : Int64) + (p1.toInt64))), .second, .unset] [])
      refine own_go (fun _ => XS.iload X8.here hx rfl (hb hby at_125) rfl) ?_
      show GG _ _ _ _ _ _ _ T8 (mkF m 127 #[.val (.int p0), .val (.int p1), .val (.int p2), .val (.int p3), .val (.int p4), .val (.long q5), .second, .val (.int x2), .val (.ref ob7), .val (.long ((0 : Int64) + (p1.toInt64))), .second, .unset] [(.int x2)])
      refine own_go (fun _ => XS.iconst X8.here hx rfl (hb hby at_127)) ?_
      show GG _ _ _ _ _ _ _ T8 (mkF m 128 #[.val (.int p0), .val (.int p1), .val (.int p2), .val (.int p3), .val (.int p4), .val (.long q5), .second, .val (.int x2), .val (.ref ob7), .val (.long ((0 : Int64) + (p1.toInt64))), .second, .unset] [(.int (2 : Int32)), (.int x2)])
      have hc128 : x2 < (2 : Int32) := (Int32.lt_iff_toInt_lt.mpr ((by show (x2.toInt < 2); omega : (x2.toInt < 2))))
      refine own_go (fun _ => XS.icmpYes X8.here hx rfl (pc0 := 128) (pc' := 138) rfl (hb hby at_128) rfl (tlt hc128).1 (by decide) (by decide)) ?_
      show GG _ _ _ _ _ _ _ T8 (mkF m 138 #[.val (.int p0), .val (.int p1), .val (.int p2), .val (.int p3), .val (.int p4), .val (.long q5), .second, .val (.int x2), .val (.ref ob7), .val (.long ((0 : Int64) + (p1.toInt64))), .second, .unset] [])
      refine own_go (fun _ => XS.iload X8.here hx rfl (hb hby at_138) rfl) ?_
      show GG _ _ _ _ _ _ _ T8 (mkF m 140 #[.val (.int p0), .val (.int p1), .val (.int p2), .val (.int p3), .val (.int p4), .val (.long q5), .second, .val (.int x2), .val (.ref ob7), .val (.long ((0 : Int64) + (p1.toInt64))), .second, .unset] [(.int x2)])
      refine own_go (fun _ => XS.iconst X8.here hx rfl (hb hby at_140)) ?_
      show GG _ _ _ _ _ _ _ T8 (mkF m 141 #[.val (.int p0), .val (.int p1), .val (.int p2), .val (.int p3), .val (.int p4), .val (.long q5), .second, .val (.int x2), .val (.ref ob7), .val (.long ((0 : Int64) + (p1.toInt64))), .second, .unset] [(.int (3 : Int32)), (.int x2)])
      have hc141 : x2 < (3 : Int32) := (Int32.lt_iff_toInt_lt.mpr ((by show (x2.toInt < 3); omega : (x2.toInt < 3))))
      refine own_go (fun _ => XS.icmpYes X8.here hx rfl (pc0 := 141) (pc' := 151) rfl (hb hby at_141) rfl (tlt hc141).1 (by decide) (by decide)) ?_
      show GG _ _ _ _ _ _ _ T8 (mkF m 151 #[.val (.int p0), .val (.int p1), .val (.int p2), .val (.int p3), .val (.int p4), .val (.long q5), .second, .val (.int x2), .val (.ref ob7), .val (.long ((0 : Int64) + (p1.toInt64))), .second, .unset] [])
      refine own_go (fun _ => XS.iload X8.here hx rfl (hb hby at_151) rfl) ?_
      show GG _ _ _ _ _ _ _ T8 (mkF m 153 #[.val (.int p0), .val (.int p1), .val (.int p2), .val (.int p3), .val (.int p4), .val (.long q5), .second, .val (.int x2), .val (.ref ob7), .val (.long ((0 : Int64) + (p1.toInt64))), .second, .unset] [(.int x2)])
      refine own_go (fun _ => XS.iconst X8.here hx rfl (hb hby at_153)) ?_
      show GG _ _ _ _ _ _ _ T8 (mkF m 154 #[.val (.int p0), .val (.int p1), .val (.int p2), .val (.int p3), .val (.int p4), .val (.long q5), .second, .val (.int x2), .val (.ref ob7), .val (.long ((0 : Int64) + (p1.toInt64))), .second, .unset] [(.int (4 : Int32)), (.int x2)])
      have hc154 : x2 < (4 : Int32) := (Int32.lt_iff_toInt_lt.mpr ((by show (x2.toInt < 4); omega : (x2.toInt < 4))))
      refine own_go (fun _ => XS.icmpYes X8.here hx rfl (pc0 := 154) (pc' := 165) rfl (hb hby at_154) rfl (tlt hc154).1 (by decide) (by decide)) ?_
      show GG _ _ _ _ _ _ _ T8 (mkF m 165 #[.val (.int p0), .val (.int p1), .val (.int p2), .val (.int p3), .val (.int p4), .val (.long q5), .second, .val (.int x2), .val (.ref ob7), .val (.long ((0 : Int64) + (p1.toInt64))), .second, .unset] [])
      obtain ⟨T9, h9, X9, e9, E9, A9, D9, -, st9⟩ := newO X8 hx hZ hown (hw _ (List.mem_of_getElem? (i := 2) rfl)) (hw _ (List.mem_of_getElem? (i := 3) rfl)) (hw _ (List.mem_of_getElem? (i := 4) rfl)) e8 (g := (mkF m 165 #[.val (.int p0), .val (.int p1), .val (.int p2), .val (.int p3), .val (.int p4), .val (.long q5), .second, .val (.int x2), .val (.ref ob7), .val (.long ((0 : Int64) + (p1.toInt64))), .second, .unset] [])) rfl (hb hby at_165) (by decide) (by decide)
      obtain ⟨ob9, g9⟩ : ∃ z, z = h8.size := ⟨_, rfl⟩
      rw [← g9] at A9 D9 st9
      have ne_ob7_ob9 : ob7 ≠ ob9 := Nat.ne_of_lt (Nat.lt_of_lt_of_le V_ob7.lt (Nat.le_of_eq g9.symm))
      have sz_ob9 : h0.size ≤ ob9 := Nat.le_trans K0.1 (Nat.le_of_eq g9.symm)
      have g_ob9 : n0 ≤ ob9 := Nat.le_trans Z0 sz_ob9
      have K0 := K0.ext E9
      have V_ob7 := V_ob7.ext E9
      have E_ob7 := E_ob7.ext E9
      have E_ob9 := A9
      have F_shardDocuments_ob9 : Fld Z h9 ob9 "com/example/deft_shards/deftshards/index/IndexSummary" "shardDocuments" "[I" .null := D9 (Or.inr (hw _ (List.mem_of_getElem? (i := 21) rfl))) (ty := (.array .int)) (by decide)
      have F_skipped_ob9 : Fld Z h9 ob9 "com/example/deft_shards/deftshards/index/IndexSummary" "skipped" "J" (.long (0 : Int64)) := D9 (Or.inr (hw _ (List.mem_of_getElem? (i := 23) rfl))) (ty := .long) (by decide)
      refine own_go (fun _ => st9 _) ?_
      show GG _ _ _ _ _ _ _ T9 (mkF m 168 #[.val (.int p0), .val (.int p1), .val (.int p2), .val (.int p3), .val (.int p4), .val (.long q5), .second, .val (.int x2), .val (.ref ob7), .val (.long ((0 : Int64) + (p1.toInt64))), .second, .unset] [(.ref ob9)])
      refine own_go (fun _ => XS.dup X9.here hx rfl (hb hby at_168) rfl rfl) ?_
      show GG _ _ _ _ _ _ _ T9 (mkF m 169 #[.val (.int p0), .val (.int p1), .val (.int p2), .val (.int p3), .val (.int p4), .val (.long q5), .second, .val (.int x2), .val (.ref ob7), .val (.long ((0 : Int64) + (p1.toInt64))), .second, .unset] [(.ref ob9), (.ref ob9)])
      refine own_go (fun _ => XS.aload X9.here hx rfl (hb hby at_169) rfl rfl) ?_
      show GG _ _ _ _ _ _ _ T9 (mkF m 171 #[.val (.int p0), .val (.int p1), .val (.int p2), .val (.int p3), .val (.int p4), .val (.long q5), .second, .val (.int x2), .val (.ref ob7), .val (.long ((0 : Int64) + (p1.toInt64))), .second, .unset] [(.ref ob7), (.ref ob9), (.ref ob9)])
      refine own_go (fun _ => XS.lload X9.here hx rfl (hb hby at_171) rfl) ?_
      show GG _ _ _ _ _ _ _ T9 (mkF m 173 #[.val (.int p0), .val (.int p1), .val (.int p2), .val (.int p3), .val (.int p4), .val (.long q5), .second, .val (.int x2), .val (.ref ob7), .val (.long ((0 : Int64) + (p1.toInt64))), .second, .unset] [(.long q5), (.ref ob7), (.ref ob9), (.ref ob9)])
      refine own_callI X9 hx hZ (y := (⟨"com/example/deft_shards/deftshards/index/IndexSummary", "<init>", "([IJ)V"⟩ : MethodName)) 1 rfl hown (hw _ (List.mem_of_getElem? (i := 5) rfl)) (hw _ (List.mem_of_getElem? (i := 6) rfl)) (hw _ (List.mem_of_getElem? (i := 4) rfl)) (hw _ (List.mem_of_getElem? (i := 7) rfl)) (by decide) (a := ob9) (argsL := [(.ref ob7), (.long q5)]) (rest := [(.ref ob9)]) (rm1 l Z a0 hw [] ob9 ob7 q5 [(.int p1)] h9 n0 (Nat.le_trans Z0 K0.1) E_ob9 F_shardDocuments_ob9 F_skipped_ob9 V_ob7 E_ob7 g_ob9 (Nat.le_of_ble_eq_true rfl)) (by decide) (by decide) (by decide) (by decide) (g := (mkF m 173 #[.val (.int p0), .val (.int p1), .val (.int p2), .val (.int p3), .val (.int p4), .val (.long q5), .second, .val (.int x2), .val (.ref ob7), .val (.long ((0 : Int64) + (p1.toInt64))), .second, .unset] [(.long q5), (.ref ob7), (.ref ob9), (.ref ob9)])) rfl (by rw [hml]; rfl) (lenOf pd___IJ_V_405 rfl) rfl (by show 2 * 0 + _ ≤ _; exact Nat.le_of_eq rfl) (hb hby at_173) e9 ?_
      rintro v10 T10 L10 X10 ⟨rfl, N10q, Kq10, Eq10, bq10, gq10, Fq10, Vq10⟩
      have N10 := Fr.app N8 N10q
      have K0 := K0.trans Kq10 (allS (Or.inr sz_ob9) all0)
      have V_ob7 := V_ob7.keep Kq10 (ninS ne_ob7_ob9 nin0)
      have E_ob7 := E_ob7.keep Kq10
      show GG _ _ _ _ _ _ _ T10 (mkF m 176 #[.val (.int p0), .val (.int p1), .val (.int p2), .val (.int p3), .val (.int p4), .val (.long q5), .second, .val (.int x2), .val (.ref ob7), .val (.long ((0 : Int64) + (p1.toInt64))), .second, .unset] [(.ref ob9)])
      refine own_go (fun _ => XS.astore X10.here hx rfl (hb hby at_176) rfl rfl (l' := #[.val (.int p0), .val (.int p1), .val (.int p2), .val (.int p3), .val (.int p4), .val (.long q5), .second, .val (.int x2), .val (.ref ob7), .val (.long ((0 : Int64) + (p1.toInt64))), .second, .val (.ref ob9)]) rfl) ?_
      show GG _ _ _ _ _ _ _ T10 (mkF m 178 #[.val (.int p0), .val (.int p1), .val (.int p2), .val (.int p3), .val (.int p4), .val (.long q5), .second, .val (.int x2), .val (.ref ob7), .val (.long ((0 : Int64) + (p1.toInt64))), .second, .val (.ref ob9)] [])
      refine own_go (fun _ => XS.aload X10.here hx rfl (hb hby at_178) rfl rfl) ?_
      show GG _ _ _ _ _ _ _ T10 (mkF m 180 #[.val (.int p0), .val (.int p1), .val (.int p2), .val (.int p3), .val (.int p4), .val (.long q5), .second, .val (.int x2), .val (.ref ob7), .val (.long ((0 : Int64) + (p1.toInt64))), .second, .val (.ref ob9)] [(.ref ob9)])
      refine own_callV X10 hx hZ (y := (⟨"com/example/deft_shards/deftshards/index/IndexSummary", "documents", "()J"⟩ : MethodName)) (z := (⟨"com/example/deft_shards/deftshards/index/IndexSummary", "documents", "()J"⟩ : MethodName)) 0 hown (hw _ (List.mem_of_getElem? (i := 24) rfl)) (hw _ (List.mem_of_getElem? (i := 25) rfl)) (notFace_of_selects (args := #[]) (mvT hZ (hw _ (List.mem_of_getElem? (i := 27) rfl)))) (hw _ (List.mem_of_getElem? (i := 27) rfl)) (hw _ (List.mem_of_getElem? (i := 26) rfl)) (hw _ (List.mem_of_getElem? (i := 4) rfl)) (hw _ (List.mem_of_getElem? (i := 28) rfl)) (by decide) (a := ob9) (argsL := []) (rest := []) (rm3 l Z a0 hw [] ob9 bq10 [p1] T10.heap n0 (Nat.le_trans Z0 K0.1) Fq10 Vq10) (by decide) (by decide) (by decide) (by decide) Eq10 (g := (mkF m 180 #[.val (.int p0), .val (.int p1), .val (.int p2), .val (.int p3), .val (.int p4), .val (.long q5), .second, .val (.int x2), .val (.ref ob7), .val (.long ((0 : Int64) + (p1.toInt64))), .second, .val (.ref ob9)] [(.ref ob9)])) rfl (by rw [hml]; rfl) (lenOf pd___J_155 rfl) rfl (by show 2 * 0 + _ ≤ _; exact Nat.le_of_eq rfl) (hb hby at_180) rfl ?_
      rintro v11 T11 L11 X11 ⟨rfl, N11q, hh11⟩
      have N11 := Fr.app N10 N11q
      show GG _ _ _ _ _ _ _ T11 (mkF m 183 #[.val (.int p0), .val (.int p1), .val (.int p2), .val (.int p3), .val (.int p4), .val (.long q5), .second, .val (.int x2), .val (.ref ob7), .val (.long ((0 : Int64) + (p1.toInt64))), .second, .val (.ref ob9)] [(.long (sumL [p1]))])
      refine own_go (fun _ => XS.lload X11.here hx rfl (hb hby at_183) rfl) ?_
      show GG _ _ _ _ _ _ _ T11 (mkF m 185 #[.val (.int p0), .val (.int p1), .val (.int p2), .val (.int p3), .val (.int p4), .val (.long q5), .second, .val (.int x2), .val (.ref ob7), .val (.long ((0 : Int64) + (p1.toInt64))), .second, .val (.ref ob9)] [(.long ((0 : Int64) + (p1.toInt64))), (.long (sumL [p1]))])
      refine own_go (fun _ => XS.lcmp X11.here hx rfl (hb hby at_185) rfl) ?_
      show GG _ _ _ _ _ _ _ T11 (mkF m 186 #[.val (.int p0), .val (.int p1), .val (.int p2), .val (.int p3), .val (.int p4), .val (.long q5), .second, .val (.int x2), .val (.ref ob7), .val (.long ((0 : Int64) + (p1.toInt64))), .second, .val (.ref ob9)] [(.int (lcmpW (sumL [p1]) ((0 : Int64) + (p1.toInt64))))])
      have hc186 : (sumL [p1]) = ((0 : Int64) + (p1.toInt64)) := rfl
      refine own_go (fun _ => XS.ifNo X11.here hx rfl (hb hby at_186) rfl ((if0 _ _).trans (teq ((lw_eq _ _).mpr hc186)).2)) ?_
      show GG _ _ _ _ _ _ _ T11 (mkF m 189 #[.val (.int p0), .val (.int p1), .val (.int p2), .val (.int p3), .val (.int p4), .val (.long q5), .second, .val (.int x2), .val (.ref ob7), .val (.long ((0 : Int64) + (p1.toInt64))), .second, .val (.ref ob9)] [])
      refine own_go (fun _ => XS.iconst X11.here hx rfl (hb hby at_189)) ?_
      show GG _ _ _ _ _ _ _ T11 (mkF m 190 #[.val (.int p0), .val (.int p1), .val (.int p2), .val (.int p3), .val (.int p4), .val (.long q5), .second, .val (.int x2), .val (.ref ob7), .val (.long ((0 : Int64) + (p1.toInt64))), .second, .val (.ref ob9)] [(.int (1 : Int32))])
      refine own_go (fun _ => XS.goto X11.here hx rfl (pc0 := 190) (pc' := 194) rfl (hb hby at_190) (by decide) (by decide)) ?_
      show GG _ _ _ _ _ _ _ T11 (mkF m 194 #[.val (.int p0), .val (.int p1), .val (.int p2), .val (.int p3), .val (.int p4), .val (.long q5), .second, .val (.int x2), .val (.ref ob7), .val (.long ((0 : Int64) + (p1.toInt64))), .second, .val (.ref ob9)] [(.int (1 : Int32))])
      refine own_ret X11 hx hlk (t := .boolean) (w := (.int (1 : Int32))) Bd.returns rfl (Or.inl ⟨rfl, by simp, _, rfl⟩) (hb hby at_194) (by decide) (by decide) ?_
      show Q0 Z p0 p1 p2 p3 p4 q5 h0 n0 (some (.int (1 : Int32))) T11.heap _
      rw [hh11]
      exact ⟨rfl, N11⟩
    · skip
      have ihc24 : ¬ (x2.toInt = 1) := fun q => hc24 (Int32.toInt_inj.mp q)
      refine own_go (fun _ => XS.icmpYes X0.here hx rfl (pc0 := 24) (pc' := 39) rfl (hb hby at_24) rfl (feq hc24).2 (by decide) (by decide)) ?_
      show GG _ _ _ _ _ _ _ s₁ (mkF m 39 #[.val (.int p0), .val (.int p1), .val (.int p2), .val (.int p3), .val (.int p4), .val (.long q5), .second, .val (.int x2), .unset, .unset, .unset, .unset] [])
      refine own_go (fun _ => XS.iload X0.here hx rfl (hb hby at_39) rfl) ?_
      show GG _ _ _ _ _ _ _ s₁ (mkF m 41 #[.val (.int p0), .val (.int p1), .val (.int p2), .val (.int p3), .val (.int p4), .val (.long q5), .second, .val (.int x2), .unset, .unset, .unset, .unset] [(.int x2)])
      refine own_go (fun _ => XS.iconst X0.here hx rfl (hb hby at_41)) ?_
      show GG _ _ _ _ _ _ _ s₁ (mkF m 42 #[.val (.int p0), .val (.int p1), .val (.int p2), .val (.int p3), .val (.int p4), .val (.long q5), .second, .val (.int x2), .unset, .unset, .unset, .unset] [(.int (2 : Int32)), (.int x2)])
      by_cases hc42 : x2 = (2 : Int32)
      · skip
        have ihc42 : (x2.toInt = 2) := Int32.toInt_inj.mpr hc42
        refine own_go (fun _ => XS.icmpNo X0.here hx rfl (hb hby at_42) rfl (teq hc42).2) ?_
        show GG _ _ _ _ _ _ _ s₁ (mkF m 45 #[.val (.int p0), .val (.int p1), .val (.int p2), .val (.int p3), .val (.int p4), .val (.long q5), .second, .val (.int x2), .unset, .unset, .unset, .unset] [])
        refine own_go (fun _ => XS.iconst X0.here hx rfl (hb hby at_45)) ?_
        show GG _ _ _ _ _ _ _ s₁ (mkF m 46 #[.val (.int p0), .val (.int p1), .val (.int p2), .val (.int p3), .val (.int p4), .val (.long q5), .second, .val (.int x2), .unset, .unset, .unset, .unset] [(.int (2 : Int32))])
        have K0 := Keep.refl h0 []
        obtain ⟨T12, h12, ob12, g12, X12, e12, E12, V_ob12, E_ob12, st12⟩ := own_newarr X0 hx hZ (hw _ (List.mem_of_getElem? (i := 1) rfl)) e0 (g := (mkF m 46 #[.val (.int p0), .val (.int p1), .val (.int p2), .val (.int p3), .val (.int p4), .val (.long q5), .second, .val (.int x2), .unset, .unset, .unset, .unset] [(.int (2 : Int32))])) rfl (hb hby at_46) rfl (by decide) (cap := 2) (by decide) (by decide) (by decide) (by decide) (ad := "[I") (by decide)
        have sz_ob12 : h0.size ≤ ob12 := Nat.le_trans K0.1 (Nat.le_of_eq g12.symm)
        have g_ob12 : n0 ≤ ob12 := Nat.le_trans Z0 sz_ob12
        have K0 := K0.ext E12
        have V_ob12 : Arx Z h12 ob12 .int [(.int (0 : Int32)), (.int (0 : Int32))] := V_ob12
        refine own_go (fun _ => st12 _) ?_
        show GG _ _ _ _ _ _ _ T12 (mkF m 48 #[.val (.int p0), .val (.int p1), .val (.int p2), .val (.int p3), .val (.int p4), .val (.long q5), .second, .val (.int x2), .unset, .unset, .unset, .unset] [(.ref ob12)])
        refine own_go (fun _ => XS.dup X12.here hx rfl (hb hby at_48) rfl rfl) ?_
        show GG _ _ _ _ _ _ _ T12 (mkF m 49 #[.val (.int p0), .val (.int p1), .val (.int p2), .val (.int p3), .val (.int p4), .val (.long q5), .second, .val (.int x2), .unset, .unset, .unset, .unset] [(.ref ob12), (.ref ob12)])
        refine own_go (fun _ => XS.iconst X12.here hx rfl (hb hby at_49)) ?_
        show GG _ _ _ _ _ _ _ T12 (mkF m 50 #[.val (.int p0), .val (.int p1), .val (.int p2), .val (.int p3), .val (.int p4), .val (.long q5), .second, .val (.int x2), .unset, .unset, .unset, .unset] [(.int (0 : Int32)), (.ref ob12), (.ref ob12)])
        refine own_go (fun _ => XS.iloadN X12.here hx rfl (hb hby at_50) rfl) ?_
        show GG _ _ _ _ _ _ _ T12 (mkF m 51 #[.val (.int p0), .val (.int p1), .val (.int p2), .val (.int p3), .val (.int p4), .val (.long q5), .second, .val (.int x2), .unset, .unset, .unset, .unset] [(.int p1), (.int (0 : Int32)), (.ref ob12), (.ref ob12)])
        obtain ⟨T13, h13, X13, e13, W13, V13, st13⟩ := own_iastore X12 hx hZ e12 V_ob12 (by decide) (Nat.le_of_ble_eq_true rfl) (g := (mkF m 51 #[.val (.int p0), .val (.int p1), .val (.int p2), .val (.int p3), .val (.int p4), .val (.long q5), .second, .val (.int x2), .unset, .unset, .unset, .unset] [(.int p1), (.int (0 : Int32)), (.ref ob12), (.ref ob12)])) rfl rfl (hb hby at_51)
        have K0 := K0.wr W13 (Or.inr sz_ob12)
        have E_ob12 := E_ob12.wr W13
        have V_ob12 : Arx Z h13 ob12 .int [(.int p1), (.int (0 : Int32))] := V13
        have N13 := Fr.snoc X13 N0 g_ob12
        refine own_go (fun _ => st13 _) ?_
        show GG _ _ _ _ _ _ _ T13 (mkF m 52 #[.val (.int p0), .val (.int p1), .val (.int p2), .val (.int p3), .val (.int p4), .val (.long q5), .second, .val (.int x2), .unset, .unset, .unset, .unset] [(.ref ob12)])
        refine own_go (fun _ => XS.dup X13.here hx rfl (hb hby at_52) rfl rfl) ?_
        show GG _ _ _ _ _ _ _ T13 (mkF m 53 #[.val (.int p0), .val (.int p1), .val (.int p2), .val (.int p3), .val (.int p4), .val (.long q5), .second, .val (.int x2), .unset, .unset, .unset, .unset] [(.ref ob12), (.ref ob12)])
        refine own_go (fun _ => XS.iconst X13.here hx rfl (hb hby at_53)) ?_
        show GG _ _ _ _ _ _ _ T13 (mkF m 54 #[.val (.int p0), .val (.int p1), .val (.int p2), .val (.int p3), .val (.int p4), .val (.long q5), .second, .val (.int x2), .unset, .unset, .unset, .unset] [(.int (1 : Int32)), (.ref ob12), (.ref ob12)])
        refine own_go (fun _ => XS.iloadN X13.here hx rfl (hb hby at_54) rfl) ?_
        show GG _ _ _ _ _ _ _ T13 (mkF m 55 #[.val (.int p0), .val (.int p1), .val (.int p2), .val (.int p3), .val (.int p4), .val (.long q5), .second, .val (.int x2), .unset, .unset, .unset, .unset] [(.int p2), (.int (1 : Int32)), (.ref ob12), (.ref ob12)])
        obtain ⟨T14, h14, X14, e14, W14, V14, st14⟩ := own_iastore X13 hx hZ e13 V_ob12 (by decide) (Nat.le_of_ble_eq_true rfl) (g := (mkF m 55 #[.val (.int p0), .val (.int p1), .val (.int p2), .val (.int p3), .val (.int p4), .val (.long q5), .second, .val (.int x2), .unset, .unset, .unset, .unset] [(.int p2), (.int (1 : Int32)), (.ref ob12), (.ref ob12)])) rfl rfl (hb hby at_55)
        have K0 := K0.wr W14 (Or.inr sz_ob12)
        have E_ob12 := E_ob12.wr W14
        have V_ob12 : Arx Z h14 ob12 .int [(.int p1), (.int p2)] := V14
        have N14 := Fr.snoc X14 N13 g_ob12
        refine own_go (fun _ => st14 _) ?_
        show GG _ _ _ _ _ _ _ T14 (mkF m 56 #[.val (.int p0), .val (.int p1), .val (.int p2), .val (.int p3), .val (.int p4), .val (.long q5), .second, .val (.int x2), .unset, .unset, .unset, .unset] [(.ref ob12)])
        refine own_go (fun _ => XS.astore X14.here hx rfl (hb hby at_56) rfl rfl (l' := #[.val (.int p0), .val (.int p1), .val (.int p2), .val (.int p3), .val (.int p4), .val (.long q5), .second, .val (.int x2), .val (.ref ob12), .unset, .unset, .unset]) rfl) ?_
        show GG _ _ _ _ _ _ _ T14 (mkF m 58 #[.val (.int p0), .val (.int p1), .val (.int p2), .val (.int p3), .val (.int p4), .val (.long q5), .second, .val (.int x2), .val (.ref ob12), .unset, .unset, .unset] [])
        refine own_go (fun _ => XS.goto X14.here hx rfl (pc0 := 58) (pc' := 109) rfl (hb hby at_58) (by decide) (by decide)) ?_
        show GG _ _ _ _ _ _ _ T14 (mkF m 109 #[.val (.int p0), .val (.int p1), .val (.int p2), .val (.int p3), .val (.int p4), .val (.long q5), .second, .val (.int x2), .val (.ref ob12), .unset, .unset, .unset] [])
        refine own_go (fun _ => XS.lconst X14.here hx rfl (hb hby at_109)) ?_
        show GG _ _ _ _ _ _ _ T14 (mkF m 110 #[.val (.int p0), .val (.int p1), .val (.int p2), .val (.int p3), .val (.int p4), .val (.long q5), .second, .val (.int x2), .val (.ref ob12), .unset, .unset, .unset] [(.long (0 : Int64))])
        refine own_go (fun _ => XS.lstore X14.here hx rfl (hb hby at_110) rfl (l' := #[.val (.int p0), .val (.int p1), .val (.int p2), .val (.int p3), .val (.int p4), .val (.long q5), .second, .val (.int x2), .val (.ref ob12), .val (.long (0 : Int64)), .second, .unset]) rfl) ?_
        show GG _ _ _ _ _ _ _ T14 (mkF m 112 #[.val (.int p0), .val (.int p1), .val (.int p2), .val (.int p3), .val (.int p4), .val (.long q5), .second, .val (.int x2), .val (.ref ob12), .val (.long (0 : Int64)), .second, .unset] [])
        refine own_go (fun _ => XS.iload X14.here hx rfl (hb hby at_112) rfl) ?_
        show GG _ _ _ _ _ _ _ T14 (mkF m 114 #[.val (.int p0), .val (.int p1), .val (.int p2), .val (.int p3), .val (.int p4), .val (.long q5), .second, .val (.int x2), .val (.ref ob12), .val (.long (0 : Int64)), .second, .unset] [(.int x2)])
        refine own_go (fun _ => XS.iconst X14.here hx rfl (hb hby at_114)) ?_
        show GG _ _ _ _ _ _ _ T14 (mkF m 115 #[.val (.int p0), .val (.int p1), .val (.int p2), .val (.int p3), .val (.int p4), .val (.long q5), .second, .val (.int x2), .val (.ref ob12), .val (.long (0 : Int64)), .second, .unset] [(.int (1 : Int32)), (.int x2)])
        have hc115 : ¬ (x2 < (1 : Int32)) := (fun q => absurd (Int32.lt_iff_toInt_lt.mp q) ((by show ¬ (x2.toInt < 1); omega : ¬ (x2.toInt < 1))))
        refine own_go (fun _ => XS.icmpNo X14.here hx rfl (hb hby at_115) rfl (flt hc115).1) ?_
        show GG _ _ _ _ _ _ _ T14 (mkF m 118 #[.val (.int p0), .val (.int p1), .val (.int p2), .val (.int p3), .val (.int p4), .val (.long q5), .second, .val (.int x2), .val (.ref ob12), .val (.long (0 : Int64)), .second, .unset] [])
        refine own_go (fun _ => XS.lload X14.here hx rfl (hb hby at_118) rfl) ?_
        show GG _ _ _ _ _ _ _ T14 (mkF m 120 #[.val (.int p0), .val (.int p1), .val (.int p2), .val (.int p3), .val (.int p4), .val (.long q5), .second, .val (.int x2), .val (.ref ob12), .val (.long (0 : Int64)), .second, .unset] [(.long (0 : Int64))])
        refine own_go (fun _ => XS.iloadN X14.here hx rfl (hb hby at_120) rfl) ?_
        show GG _ _ _ _ _ _ _ T14 (mkF m 121 #[.val (.int p0), .val (.int p1), .val (.int p2), .val (.int p3), .val (.int p4), .val (.long q5), .second, .val (.int x2), .val (.ref ob12), .val (.long (0 : Int64)), .second, .unset] [(.int p1), (.long (0 : Int64))])
        refine own_go (fun _ => XS.i2l X14.here hx rfl (hb hby at_121) rfl) ?_
        show GG _ _ _ _ _ _ _ T14 (mkF m 122 #[.val (.int p0), .val (.int p1), .val (.int p2), .val (.int p3), .val (.int p4), .val (.long q5), .second, .val (.int x2), .val (.ref ob12), .val (.long (0 : Int64)), .second, .unset] [(.long (p1.toInt64)), (.long (0 : Int64))])
        refine own_go (fun _ => XS.ladd X14.here hx rfl (hb hby at_122) rfl) ?_
        show GG _ _ _ _ _ _ _ T14 (mkF m 123 #[.val (.int p0), .val (.int p1), .val (.int p2), .val (.int p3), .val (.int p4), .val (.long q5), .second, .val (.int x2), .val (.ref ob12), .val (.long (0 : Int64)), .second, .unset] [(.long ((0 : Int64) + (p1.toInt64)))])
        refine own_go (fun _ => XS.lstore X14.here hx rfl (hb hby at_123) rfl (l' := #[.val (.int p0), .val (.int p1), .val (.int p2), .val (.int p3), .val (.int p4), .val (.long q5), .second, .val (.int x2), .val (.ref ob12), .val (.long ((0 : Int64) + (p1.toInt64))), .second, .unset]) rfl) ?_
        show GG _ _ _ _ _ _ _ T14 (mkF m 125 #[.val (.int p0), .val (.int p1), .val (.int p2), .val (.int p3), .val (.int p4), .val (.long q5), .second, .val (.int x2), .val (.ref ob12), .val (.long ((0 : Int64) + (p1.toInt64))), .second, .unset] [])
        refine own_go (fun _ => XS.iload X14.here hx rfl (hb hby at_125) rfl) ?_
        show GG _ _ _ _ _ _ _ T14 (mkF m 127 #[.val (.int p0), .val (.int p1), .val (.int p2), .val (.int p3), .val (.int p4), .val (.long q5), .second, .val (.int x2), .val (.ref ob12), .val (.long ((0 : Int64) + (p1.toInt64))), .second, .unset] [(.int x2)])
        refine own_go (fun _ => XS.iconst X14.here hx rfl (hb hby at_127)) ?_
        show GG _ _ _ _ _ _ _ T14 (mkF m 128 #[.val (.int p0), .val (.int p1), .val (.int p2), .val (.int p3), .val (.int p4), .val (.long q5), .second, .val (.int x2), .val (.ref ob12), .val (.long ((0 : Int64) + (p1.toInt64))), .second, .unset] [(.int (2 : Int32)), (.int x2)])
        have hc128 : ¬ (x2 < (2 : Int32)) := (fun q => absurd (Int32.lt_iff_toInt_lt.mp q) ((by show ¬ (x2.toInt < 2); omega : ¬ (x2.toInt < 2))))
        refine own_go (fun _ => XS.icmpNo X14.here hx rfl (hb hby at_128) rfl (flt hc128).1) ?_
        show GG _ _ _ _ _ _ _ T14 (mkF m 131 #[.val (.int p0), .val (.int p1), .val (.int p2), .val (.int p3), .val (.int p4), .val (.long q5), .second, .val (.int x2), .val (.ref ob12), .val (.long ((0 : Int64) + (p1.toInt64))), .second, .unset] [])
        refine own_go (fun _ => XS.lload X14.here hx rfl (hb hby at_131) rfl) ?_
        show GG _ _ _ _ _ _ _ T14 (mkF m 133 #[.val (.int p0), .val (.int p1), .val (.int p2), .val (.int p3), .val (.int p4), .val (.long q5), .second, .val (.int x2), .val (.ref ob12), .val (.long ((0 : Int64) + (p1.toInt64))), .second, .unset] [(.long ((0 : Int64) + (p1.toInt64)))])
        refine own_go (fun _ => XS.iloadN X14.here hx rfl (hb hby at_133) rfl) ?_
        show GG _ _ _ _ _ _ _ T14 (mkF m 134 #[.val (.int p0), .val (.int p1), .val (.int p2), .val (.int p3), .val (.int p4), .val (.long q5), .second, .val (.int x2), .val (.ref ob12), .val (.long ((0 : Int64) + (p1.toInt64))), .second, .unset] [(.int p2), (.long ((0 : Int64) + (p1.toInt64)))])
        refine own_go (fun _ => XS.i2l X14.here hx rfl (hb hby at_134) rfl) ?_
        show GG _ _ _ _ _ _ _ T14 (mkF m 135 #[.val (.int p0), .val (.int p1), .val (.int p2), .val (.int p3), .val (.int p4), .val (.long q5), .second, .val (.int x2), .val (.ref ob12), .val (.long ((0 : Int64) + (p1.toInt64))), .second, .unset] [(.long (p2.toInt64)), (.long ((0 : Int64) + (p1.toInt64)))])
        refine own_go (fun _ => XS.ladd X14.here hx rfl (hb hby at_135) rfl) ?_
        show GG _ _ _ _ _ _ _ T14 (mkF m 136 #[.val (.int p0), .val (.int p1), .val (.int p2), .val (.int p3), .val (.int p4), .val (.long q5), .second, .val (.int x2), .val (.ref ob12), .val (.long ((0 : Int64) + (p1.toInt64))), .second, .unset] [(.long (((0 : Int64) + (p1.toInt64)) + (p2.toInt64)))])
        refine own_go (fun _ => XS.lstore X14.here hx rfl (hb hby at_136) rfl (l' := #[.val (.int p0), .val (.int p1), .val (.int p2), .val (.int p3), .val (.int p4), .val (.long q5), .second, .val (.int x2), .val (.ref ob12), .val (.long (((0 : Int64) + (p1.toInt64)) + (p2.toInt64))), .second, .unset]) rfl) ?_
        show GG _ _ _ _ _ _ _ T14 (mkF m 138 #[.val (.int p0), .val (.int p1), .val (.int p2), .val (.int p3), .val (.int p4), .val (.long q5), .second, .val (.int x2), .val (.ref ob12), .val (.long (((0 : Int64) + (p1.toInt64)) + (p2.toInt64))), .second, .unset] [])
        refine own_go (fun _ => XS.iload X14.here hx rfl (hb hby at_138) rfl) ?_
        show GG _ _ _ _ _ _ _ T14 (mkF m 140 #[.val (.int p0), .val (.int p1), .val (.int p2), .val (.int p3), .val (.int p4), .val (.long q5), .second, .val (.int x2), .val (.ref ob12), .val (.long (((0 : Int64) + (p1.toInt64)) + (p2.toInt64))), .second, .unset] [(.int x2)])
        refine own_go (fun _ => XS.iconst X14.here hx rfl (hb hby at_140)) ?_
        show GG _ _ _ _ _ _ _ T14 (mkF m 141 #[.val (.int p0), .val (.int p1), .val (.int p2), .val (.int p3), .val (.int p4), .val (.long q5), .second, .val (.int x2), .val (.ref ob12), .val (.long (((0 : Int64) + (p1.toInt64)) + (p2.toInt64))), .second, .unset] [(.int (3 : Int32)), (.int x2)])
        have hc141 : x2 < (3 : Int32) := (Int32.lt_iff_toInt_lt.mpr ((by show (x2.toInt < 3); omega : (x2.toInt < 3))))
        refine own_go (fun _ => XS.icmpYes X14.here hx rfl (pc0 := 141) (pc' := 151) rfl (hb hby at_141) rfl (tlt hc141).1 (by decide) (by decide)) ?_
        show GG _ _ _ _ _ _ _ T14 (mkF m 151 #[.val (.int p0), .val (.int p1), .val (.int p2), .val (.int p3), .val (.int p4), .val (.long q5), .second, .val (.int x2), .val (.ref ob12), .val (.long (((0 : Int64) + (p1.toInt64)) + (p2.toInt64))), .second, .unset] [])
        refine own_go (fun _ => XS.iload X14.here hx rfl (hb hby at_151) rfl) ?_
        show GG _ _ _ _ _ _ _ T14 (mkF m 153 #[.val (.int p0), .val (.int p1), .val (.int p2), .val (.int p3), .val (.int p4), .val (.long q5), .second, .val (.int x2), .val (.ref ob12), .val (.long (((0 : Int64) + (p1.toInt64)) + (p2.toInt64))), .second, .unset] [(.int x2)])
        refine own_go (fun _ => XS.iconst X14.here hx rfl (hb hby at_153)) ?_
        show GG _ _ _ _ _ _ _ T14 (mkF m 154 #[.val (.int p0), .val (.int p1), .val (.int p2), .val (.int p3), .val (.int p4), .val (.long q5), .second, .val (.int x2), .val (.ref ob12), .val (.long (((0 : Int64) + (p1.toInt64)) + (p2.toInt64))), .second, .unset] [(.int (4 : Int32)), (.int x2)])
        have hc154 : x2 < (4 : Int32) := (Int32.lt_iff_toInt_lt.mpr ((by show (x2.toInt < 4); omega : (x2.toInt < 4))))
        refine own_go (fun _ => XS.icmpYes X14.here hx rfl (pc0 := 154) (pc' := 165) rfl (hb hby at_154) rfl (tlt hc154).1 (by decide) (by decide)) ?_
        show GG _ _ _ _ _ _ _ T14 (mkF m 165 #[.val (.int p0), .val (.int p1), .val (.int p2), .val (.int p3), .val (.int p4), .val (.long q5), .second, .val (.int x2), .val (.ref ob12), .val (.long (((0 : Int64) + (p1.toInt64)) + (p2.toInt64))), .second, .unset] [])
        obtain ⟨T15, h15, X15, e15, E15, A15, D15, -, st15⟩ := newO X14 hx hZ hown (hw _ (List.mem_of_getElem? (i := 2) rfl)) (hw _ (List.mem_of_getElem? (i := 3) rfl)) (hw _ (List.mem_of_getElem? (i := 4) rfl)) e14 (g := (mkF m 165 #[.val (.int p0), .val (.int p1), .val (.int p2), .val (.int p3), .val (.int p4), .val (.long q5), .second, .val (.int x2), .val (.ref ob12), .val (.long (((0 : Int64) + (p1.toInt64)) + (p2.toInt64))), .second, .unset] [])) rfl (hb hby at_165) (by decide) (by decide)
        obtain ⟨ob15, g15⟩ : ∃ z, z = h14.size := ⟨_, rfl⟩
        rw [← g15] at A15 D15 st15
        have ne_ob12_ob15 : ob12 ≠ ob15 := Nat.ne_of_lt (Nat.lt_of_lt_of_le V_ob12.lt (Nat.le_of_eq g15.symm))
        have sz_ob15 : h0.size ≤ ob15 := Nat.le_trans K0.1 (Nat.le_of_eq g15.symm)
        have g_ob15 : n0 ≤ ob15 := Nat.le_trans Z0 sz_ob15
        have K0 := K0.ext E15
        have V_ob12 := V_ob12.ext E15
        have E_ob12 := E_ob12.ext E15
        have E_ob15 := A15
        have F_shardDocuments_ob15 : Fld Z h15 ob15 "com/example/deft_shards/deftshards/index/IndexSummary" "shardDocuments" "[I" .null := D15 (Or.inr (hw _ (List.mem_of_getElem? (i := 21) rfl))) (ty := (.array .int)) (by decide)
        have F_skipped_ob15 : Fld Z h15 ob15 "com/example/deft_shards/deftshards/index/IndexSummary" "skipped" "J" (.long (0 : Int64)) := D15 (Or.inr (hw _ (List.mem_of_getElem? (i := 23) rfl))) (ty := .long) (by decide)
        refine own_go (fun _ => st15 _) ?_
        show GG _ _ _ _ _ _ _ T15 (mkF m 168 #[.val (.int p0), .val (.int p1), .val (.int p2), .val (.int p3), .val (.int p4), .val (.long q5), .second, .val (.int x2), .val (.ref ob12), .val (.long (((0 : Int64) + (p1.toInt64)) + (p2.toInt64))), .second, .unset] [(.ref ob15)])
        refine own_go (fun _ => XS.dup X15.here hx rfl (hb hby at_168) rfl rfl) ?_
        show GG _ _ _ _ _ _ _ T15 (mkF m 169 #[.val (.int p0), .val (.int p1), .val (.int p2), .val (.int p3), .val (.int p4), .val (.long q5), .second, .val (.int x2), .val (.ref ob12), .val (.long (((0 : Int64) + (p1.toInt64)) + (p2.toInt64))), .second, .unset] [(.ref ob15), (.ref ob15)])
        refine own_go (fun _ => XS.aload X15.here hx rfl (hb hby at_169) rfl rfl) ?_
        show GG _ _ _ _ _ _ _ T15 (mkF m 171 #[.val (.int p0), .val (.int p1), .val (.int p2), .val (.int p3), .val (.int p4), .val (.long q5), .second, .val (.int x2), .val (.ref ob12), .val (.long (((0 : Int64) + (p1.toInt64)) + (p2.toInt64))), .second, .unset] [(.ref ob12), (.ref ob15), (.ref ob15)])
        refine own_go (fun _ => XS.lload X15.here hx rfl (hb hby at_171) rfl) ?_
        show GG _ _ _ _ _ _ _ T15 (mkF m 173 #[.val (.int p0), .val (.int p1), .val (.int p2), .val (.int p3), .val (.int p4), .val (.long q5), .second, .val (.int x2), .val (.ref ob12), .val (.long (((0 : Int64) + (p1.toInt64)) + (p2.toInt64))), .second, .unset] [(.long q5), (.ref ob12), (.ref ob15), (.ref ob15)])
        refine own_callI X15 hx hZ (y := (⟨"com/example/deft_shards/deftshards/index/IndexSummary", "<init>", "([IJ)V"⟩ : MethodName)) 1 rfl hown (hw _ (List.mem_of_getElem? (i := 5) rfl)) (hw _ (List.mem_of_getElem? (i := 6) rfl)) (hw _ (List.mem_of_getElem? (i := 4) rfl)) (hw _ (List.mem_of_getElem? (i := 7) rfl)) (by decide) (a := ob15) (argsL := [(.ref ob12), (.long q5)]) (rest := [(.ref ob15)]) (rm1 l Z a0 hw [] ob15 ob12 q5 [(.int p1), (.int p2)] h15 n0 (Nat.le_trans Z0 K0.1) E_ob15 F_shardDocuments_ob15 F_skipped_ob15 V_ob12 E_ob12 g_ob15 (Nat.le_of_ble_eq_true rfl)) (by decide) (by decide) (by decide) (by decide) (g := (mkF m 173 #[.val (.int p0), .val (.int p1), .val (.int p2), .val (.int p3), .val (.int p4), .val (.long q5), .second, .val (.int x2), .val (.ref ob12), .val (.long (((0 : Int64) + (p1.toInt64)) + (p2.toInt64))), .second, .unset] [(.long q5), (.ref ob12), (.ref ob15), (.ref ob15)])) rfl (by rw [hml]; rfl) (lenOf pd___IJ_V_405 rfl) rfl (by show 2 * 0 + _ ≤ _; exact Nat.le_of_eq rfl) (hb hby at_173) e15 ?_
        rintro v16 T16 L16 X16 ⟨rfl, N16q, Kq16, Eq16, bq16, gq16, Fq16, Vq16⟩
        have N16 := Fr.app N14 N16q
        have K0 := K0.trans Kq16 (allS (Or.inr sz_ob15) all0)
        have V_ob12 := V_ob12.keep Kq16 (ninS ne_ob12_ob15 nin0)
        have E_ob12 := E_ob12.keep Kq16
        show GG _ _ _ _ _ _ _ T16 (mkF m 176 #[.val (.int p0), .val (.int p1), .val (.int p2), .val (.int p3), .val (.int p4), .val (.long q5), .second, .val (.int x2), .val (.ref ob12), .val (.long (((0 : Int64) + (p1.toInt64)) + (p2.toInt64))), .second, .unset] [(.ref ob15)])
        refine own_go (fun _ => XS.astore X16.here hx rfl (hb hby at_176) rfl rfl (l' := #[.val (.int p0), .val (.int p1), .val (.int p2), .val (.int p3), .val (.int p4), .val (.long q5), .second, .val (.int x2), .val (.ref ob12), .val (.long (((0 : Int64) + (p1.toInt64)) + (p2.toInt64))), .second, .val (.ref ob15)]) rfl) ?_
        show GG _ _ _ _ _ _ _ T16 (mkF m 178 #[.val (.int p0), .val (.int p1), .val (.int p2), .val (.int p3), .val (.int p4), .val (.long q5), .second, .val (.int x2), .val (.ref ob12), .val (.long (((0 : Int64) + (p1.toInt64)) + (p2.toInt64))), .second, .val (.ref ob15)] [])
        refine own_go (fun _ => XS.aload X16.here hx rfl (hb hby at_178) rfl rfl) ?_
        show GG _ _ _ _ _ _ _ T16 (mkF m 180 #[.val (.int p0), .val (.int p1), .val (.int p2), .val (.int p3), .val (.int p4), .val (.long q5), .second, .val (.int x2), .val (.ref ob12), .val (.long (((0 : Int64) + (p1.toInt64)) + (p2.toInt64))), .second, .val (.ref ob15)] [(.ref ob15)])
        refine own_callV X16 hx hZ (y := (⟨"com/example/deft_shards/deftshards/index/IndexSummary", "documents", "()J"⟩ : MethodName)) (z := (⟨"com/example/deft_shards/deftshards/index/IndexSummary", "documents", "()J"⟩ : MethodName)) 0 hown (hw _ (List.mem_of_getElem? (i := 24) rfl)) (hw _ (List.mem_of_getElem? (i := 25) rfl)) (notFace_of_selects (args := #[]) (mvT hZ (hw _ (List.mem_of_getElem? (i := 27) rfl)))) (hw _ (List.mem_of_getElem? (i := 27) rfl)) (hw _ (List.mem_of_getElem? (i := 26) rfl)) (hw _ (List.mem_of_getElem? (i := 4) rfl)) (hw _ (List.mem_of_getElem? (i := 28) rfl)) (by decide) (a := ob15) (argsL := []) (rest := []) (rm3 l Z a0 hw [] ob15 bq16 [p1, p2] T16.heap n0 (Nat.le_trans Z0 K0.1) Fq16 Vq16) (by decide) (by decide) (by decide) (by decide) Eq16 (g := (mkF m 180 #[.val (.int p0), .val (.int p1), .val (.int p2), .val (.int p3), .val (.int p4), .val (.long q5), .second, .val (.int x2), .val (.ref ob12), .val (.long (((0 : Int64) + (p1.toInt64)) + (p2.toInt64))), .second, .val (.ref ob15)] [(.ref ob15)])) rfl (by rw [hml]; rfl) (lenOf pd___J_155 rfl) rfl (by show 2 * 0 + _ ≤ _; exact Nat.le_of_eq rfl) (hb hby at_180) rfl ?_
        rintro v17 T17 L17 X17 ⟨rfl, N17q, hh17⟩
        have N17 := Fr.app N16 N17q
        show GG _ _ _ _ _ _ _ T17 (mkF m 183 #[.val (.int p0), .val (.int p1), .val (.int p2), .val (.int p3), .val (.int p4), .val (.long q5), .second, .val (.int x2), .val (.ref ob12), .val (.long (((0 : Int64) + (p1.toInt64)) + (p2.toInt64))), .second, .val (.ref ob15)] [(.long (sumL [p1, p2]))])
        refine own_go (fun _ => XS.lload X17.here hx rfl (hb hby at_183) rfl) ?_
        show GG _ _ _ _ _ _ _ T17 (mkF m 185 #[.val (.int p0), .val (.int p1), .val (.int p2), .val (.int p3), .val (.int p4), .val (.long q5), .second, .val (.int x2), .val (.ref ob12), .val (.long (((0 : Int64) + (p1.toInt64)) + (p2.toInt64))), .second, .val (.ref ob15)] [(.long (((0 : Int64) + (p1.toInt64)) + (p2.toInt64))), (.long (sumL [p1, p2]))])
        refine own_go (fun _ => XS.lcmp X17.here hx rfl (hb hby at_185) rfl) ?_
        show GG _ _ _ _ _ _ _ T17 (mkF m 186 #[.val (.int p0), .val (.int p1), .val (.int p2), .val (.int p3), .val (.int p4), .val (.long q5), .second, .val (.int x2), .val (.ref ob12), .val (.long (((0 : Int64) + (p1.toInt64)) + (p2.toInt64))), .second, .val (.ref ob15)] [(.int (lcmpW (sumL [p1, p2]) (((0 : Int64) + (p1.toInt64)) + (p2.toInt64))))])
        have hc186 : (sumL [p1, p2]) = (((0 : Int64) + (p1.toInt64)) + (p2.toInt64)) := rfl
        refine own_go (fun _ => XS.ifNo X17.here hx rfl (hb hby at_186) rfl ((if0 _ _).trans (teq ((lw_eq _ _).mpr hc186)).2)) ?_
        show GG _ _ _ _ _ _ _ T17 (mkF m 189 #[.val (.int p0), .val (.int p1), .val (.int p2), .val (.int p3), .val (.int p4), .val (.long q5), .second, .val (.int x2), .val (.ref ob12), .val (.long (((0 : Int64) + (p1.toInt64)) + (p2.toInt64))), .second, .val (.ref ob15)] [])
        refine own_go (fun _ => XS.iconst X17.here hx rfl (hb hby at_189)) ?_
        show GG _ _ _ _ _ _ _ T17 (mkF m 190 #[.val (.int p0), .val (.int p1), .val (.int p2), .val (.int p3), .val (.int p4), .val (.long q5), .second, .val (.int x2), .val (.ref ob12), .val (.long (((0 : Int64) + (p1.toInt64)) + (p2.toInt64))), .second, .val (.ref ob15)] [(.int (1 : Int32))])
        refine own_go (fun _ => XS.goto X17.here hx rfl (pc0 := 190) (pc' := 194) rfl (hb hby at_190) (by decide) (by decide)) ?_
        show GG _ _ _ _ _ _ _ T17 (mkF m 194 #[.val (.int p0), .val (.int p1), .val (.int p2), .val (.int p3), .val (.int p4), .val (.long q5), .second, .val (.int x2), .val (.ref ob12), .val (.long (((0 : Int64) + (p1.toInt64)) + (p2.toInt64))), .second, .val (.ref ob15)] [(.int (1 : Int32))])
        refine own_ret X17 hx hlk (t := .boolean) (w := (.int (1 : Int32))) Bd.returns rfl (Or.inl ⟨rfl, by simp, _, rfl⟩) (hb hby at_194) (by decide) (by decide) ?_
        show Q0 Z p0 p1 p2 p3 p4 q5 h0 n0 (some (.int (1 : Int32))) T17.heap _
        rw [hh17]
        exact ⟨rfl, N17⟩
      · skip
        have ihc42 : ¬ (x2.toInt = 2) := fun q => hc42 (Int32.toInt_inj.mp q)
        refine own_go (fun _ => XS.icmpYes X0.here hx rfl (pc0 := 42) (pc' := 61) rfl (hb hby at_42) rfl (feq hc42).2 (by decide) (by decide)) ?_
        show GG _ _ _ _ _ _ _ s₁ (mkF m 61 #[.val (.int p0), .val (.int p1), .val (.int p2), .val (.int p3), .val (.int p4), .val (.long q5), .second, .val (.int x2), .unset, .unset, .unset, .unset] [])
        refine own_go (fun _ => XS.iload X0.here hx rfl (hb hby at_61) rfl) ?_
        show GG _ _ _ _ _ _ _ s₁ (mkF m 63 #[.val (.int p0), .val (.int p1), .val (.int p2), .val (.int p3), .val (.int p4), .val (.long q5), .second, .val (.int x2), .unset, .unset, .unset, .unset] [(.int x2)])
        refine own_go (fun _ => XS.iconst X0.here hx rfl (hb hby at_63)) ?_
        show GG _ _ _ _ _ _ _ s₁ (mkF m 64 #[.val (.int p0), .val (.int p1), .val (.int p2), .val (.int p3), .val (.int p4), .val (.long q5), .second, .val (.int x2), .unset, .unset, .unset, .unset] [(.int (3 : Int32)), (.int x2)])
        by_cases hc64 : x2 = (3 : Int32)
        · skip
          have ihc64 : (x2.toInt = 3) := Int32.toInt_inj.mpr hc64
          refine own_go (fun _ => XS.icmpNo X0.here hx rfl (hb hby at_64) rfl (teq hc64).2) ?_
          show GG _ _ _ _ _ _ _ s₁ (mkF m 67 #[.val (.int p0), .val (.int p1), .val (.int p2), .val (.int p3), .val (.int p4), .val (.long q5), .second, .val (.int x2), .unset, .unset, .unset, .unset] [])
          refine own_go (fun _ => XS.iconst X0.here hx rfl (hb hby at_67)) ?_
          show GG _ _ _ _ _ _ _ s₁ (mkF m 68 #[.val (.int p0), .val (.int p1), .val (.int p2), .val (.int p3), .val (.int p4), .val (.long q5), .second, .val (.int x2), .unset, .unset, .unset, .unset] [(.int (3 : Int32))])
          have K0 := Keep.refl h0 []
          obtain ⟨T18, h18, ob18, g18, X18, e18, E18, V_ob18, E_ob18, st18⟩ := own_newarr X0 hx hZ (hw _ (List.mem_of_getElem? (i := 1) rfl)) e0 (g := (mkF m 68 #[.val (.int p0), .val (.int p1), .val (.int p2), .val (.int p3), .val (.int p4), .val (.long q5), .second, .val (.int x2), .unset, .unset, .unset, .unset] [(.int (3 : Int32))])) rfl (hb hby at_68) rfl (by decide) (cap := 3) (by decide) (by decide) (by decide) (by decide) (ad := "[I") (by decide)
          have sz_ob18 : h0.size ≤ ob18 := Nat.le_trans K0.1 (Nat.le_of_eq g18.symm)
          have g_ob18 : n0 ≤ ob18 := Nat.le_trans Z0 sz_ob18
          have K0 := K0.ext E18
          have V_ob18 : Arx Z h18 ob18 .int [(.int (0 : Int32)), (.int (0 : Int32)), (.int (0 : Int32))] := V_ob18
          refine own_go (fun _ => st18 _) ?_
          show GG _ _ _ _ _ _ _ T18 (mkF m 70 #[.val (.int p0), .val (.int p1), .val (.int p2), .val (.int p3), .val (.int p4), .val (.long q5), .second, .val (.int x2), .unset, .unset, .unset, .unset] [(.ref ob18)])
          refine own_go (fun _ => XS.dup X18.here hx rfl (hb hby at_70) rfl rfl) ?_
          show GG _ _ _ _ _ _ _ T18 (mkF m 71 #[.val (.int p0), .val (.int p1), .val (.int p2), .val (.int p3), .val (.int p4), .val (.long q5), .second, .val (.int x2), .unset, .unset, .unset, .unset] [(.ref ob18), (.ref ob18)])
          refine own_go (fun _ => XS.iconst X18.here hx rfl (hb hby at_71)) ?_
          show GG _ _ _ _ _ _ _ T18 (mkF m 72 #[.val (.int p0), .val (.int p1), .val (.int p2), .val (.int p3), .val (.int p4), .val (.long q5), .second, .val (.int x2), .unset, .unset, .unset, .unset] [(.int (0 : Int32)), (.ref ob18), (.ref ob18)])
          refine own_go (fun _ => XS.iloadN X18.here hx rfl (hb hby at_72) rfl) ?_
          show GG _ _ _ _ _ _ _ T18 (mkF m 73 #[.val (.int p0), .val (.int p1), .val (.int p2), .val (.int p3), .val (.int p4), .val (.long q5), .second, .val (.int x2), .unset, .unset, .unset, .unset] [(.int p1), (.int (0 : Int32)), (.ref ob18), (.ref ob18)])
          obtain ⟨T19, h19, X19, e19, W19, V19, st19⟩ := own_iastore X18 hx hZ e18 V_ob18 (by decide) (Nat.le_of_ble_eq_true rfl) (g := (mkF m 73 #[.val (.int p0), .val (.int p1), .val (.int p2), .val (.int p3), .val (.int p4), .val (.long q5), .second, .val (.int x2), .unset, .unset, .unset, .unset] [(.int p1), (.int (0 : Int32)), (.ref ob18), (.ref ob18)])) rfl rfl (hb hby at_73)
          have K0 := K0.wr W19 (Or.inr sz_ob18)
          have E_ob18 := E_ob18.wr W19
          have V_ob18 : Arx Z h19 ob18 .int [(.int p1), (.int (0 : Int32)), (.int (0 : Int32))] := V19
          have N19 := Fr.snoc X19 N0 g_ob18
          refine own_go (fun _ => st19 _) ?_
          show GG _ _ _ _ _ _ _ T19 (mkF m 74 #[.val (.int p0), .val (.int p1), .val (.int p2), .val (.int p3), .val (.int p4), .val (.long q5), .second, .val (.int x2), .unset, .unset, .unset, .unset] [(.ref ob18)])
          refine own_go (fun _ => XS.dup X19.here hx rfl (hb hby at_74) rfl rfl) ?_
          show GG _ _ _ _ _ _ _ T19 (mkF m 75 #[.val (.int p0), .val (.int p1), .val (.int p2), .val (.int p3), .val (.int p4), .val (.long q5), .second, .val (.int x2), .unset, .unset, .unset, .unset] [(.ref ob18), (.ref ob18)])
          refine own_go (fun _ => XS.iconst X19.here hx rfl (hb hby at_75)) ?_
          show GG _ _ _ _ _ _ _ T19 (mkF m 76 #[.val (.int p0), .val (.int p1), .val (.int p2), .val (.int p3), .val (.int p4), .val (.long q5), .second, .val (.int x2), .unset, .unset, .unset, .unset] [(.int (1 : Int32)), (.ref ob18), (.ref ob18)])
          refine own_go (fun _ => XS.iloadN X19.here hx rfl (hb hby at_76) rfl) ?_
          show GG _ _ _ _ _ _ _ T19 (mkF m 77 #[.val (.int p0), .val (.int p1), .val (.int p2), .val (.int p3), .val (.int p4), .val (.long q5), .second, .val (.int x2), .unset, .unset, .unset, .unset] [(.int p2), (.int (1 : Int32)), (.ref ob18), (.ref ob18)])
          obtain ⟨T20, h20, X20, e20, W20, V20, st20⟩ := own_iastore X19 hx hZ e19 V_ob18 (by decide) (Nat.le_of_ble_eq_true rfl) (g := (mkF m 77 #[.val (.int p0), .val (.int p1), .val (.int p2), .val (.int p3), .val (.int p4), .val (.long q5), .second, .val (.int x2), .unset, .unset, .unset, .unset] [(.int p2), (.int (1 : Int32)), (.ref ob18), (.ref ob18)])) rfl rfl (hb hby at_77)
          have K0 := K0.wr W20 (Or.inr sz_ob18)
          have E_ob18 := E_ob18.wr W20
          have V_ob18 : Arx Z h20 ob18 .int [(.int p1), (.int p2), (.int (0 : Int32))] := V20
          have N20 := Fr.snoc X20 N19 g_ob18
          refine own_go (fun _ => st20 _) ?_
          show GG _ _ _ _ _ _ _ T20 (mkF m 78 #[.val (.int p0), .val (.int p1), .val (.int p2), .val (.int p3), .val (.int p4), .val (.long q5), .second, .val (.int x2), .unset, .unset, .unset, .unset] [(.ref ob18)])
          refine own_go (fun _ => XS.dup X20.here hx rfl (hb hby at_78) rfl rfl) ?_
          show GG _ _ _ _ _ _ _ T20 (mkF m 79 #[.val (.int p0), .val (.int p1), .val (.int p2), .val (.int p3), .val (.int p4), .val (.long q5), .second, .val (.int x2), .unset, .unset, .unset, .unset] [(.ref ob18), (.ref ob18)])
          refine own_go (fun _ => XS.iconst X20.here hx rfl (hb hby at_79)) ?_
          show GG _ _ _ _ _ _ _ T20 (mkF m 80 #[.val (.int p0), .val (.int p1), .val (.int p2), .val (.int p3), .val (.int p4), .val (.long q5), .second, .val (.int x2), .unset, .unset, .unset, .unset] [(.int (2 : Int32)), (.ref ob18), (.ref ob18)])
          refine own_go (fun _ => XS.iloadN X20.here hx rfl (hb hby at_80) rfl) ?_
          show GG _ _ _ _ _ _ _ T20 (mkF m 81 #[.val (.int p0), .val (.int p1), .val (.int p2), .val (.int p3), .val (.int p4), .val (.long q5), .second, .val (.int x2), .unset, .unset, .unset, .unset] [(.int p3), (.int (2 : Int32)), (.ref ob18), (.ref ob18)])
          obtain ⟨T21, h21, X21, e21, W21, V21, st21⟩ := own_iastore X20 hx hZ e20 V_ob18 (by decide) (Nat.le_of_ble_eq_true rfl) (g := (mkF m 81 #[.val (.int p0), .val (.int p1), .val (.int p2), .val (.int p3), .val (.int p4), .val (.long q5), .second, .val (.int x2), .unset, .unset, .unset, .unset] [(.int p3), (.int (2 : Int32)), (.ref ob18), (.ref ob18)])) rfl rfl (hb hby at_81)
          have K0 := K0.wr W21 (Or.inr sz_ob18)
          have E_ob18 := E_ob18.wr W21
          have V_ob18 : Arx Z h21 ob18 .int [(.int p1), (.int p2), (.int p3)] := V21
          have N21 := Fr.snoc X21 N20 g_ob18
          refine own_go (fun _ => st21 _) ?_
          show GG _ _ _ _ _ _ _ T21 (mkF m 82 #[.val (.int p0), .val (.int p1), .val (.int p2), .val (.int p3), .val (.int p4), .val (.long q5), .second, .val (.int x2), .unset, .unset, .unset, .unset] [(.ref ob18)])
          refine own_go (fun _ => XS.astore X21.here hx rfl (hb hby at_82) rfl rfl (l' := #[.val (.int p0), .val (.int p1), .val (.int p2), .val (.int p3), .val (.int p4), .val (.long q5), .second, .val (.int x2), .val (.ref ob18), .unset, .unset, .unset]) rfl) ?_
          show GG _ _ _ _ _ _ _ T21 (mkF m 84 #[.val (.int p0), .val (.int p1), .val (.int p2), .val (.int p3), .val (.int p4), .val (.long q5), .second, .val (.int x2), .val (.ref ob18), .unset, .unset, .unset] [])
          refine own_go (fun _ => XS.goto X21.here hx rfl (pc0 := 84) (pc' := 109) rfl (hb hby at_84) (by decide) (by decide)) ?_
          show GG _ _ _ _ _ _ _ T21 (mkF m 109 #[.val (.int p0), .val (.int p1), .val (.int p2), .val (.int p3), .val (.int p4), .val (.long q5), .second, .val (.int x2), .val (.ref ob18), .unset, .unset, .unset] [])
          refine own_go (fun _ => XS.lconst X21.here hx rfl (hb hby at_109)) ?_
          show GG _ _ _ _ _ _ _ T21 (mkF m 110 #[.val (.int p0), .val (.int p1), .val (.int p2), .val (.int p3), .val (.int p4), .val (.long q5), .second, .val (.int x2), .val (.ref ob18), .unset, .unset, .unset] [(.long (0 : Int64))])
          refine own_go (fun _ => XS.lstore X21.here hx rfl (hb hby at_110) rfl (l' := #[.val (.int p0), .val (.int p1), .val (.int p2), .val (.int p3), .val (.int p4), .val (.long q5), .second, .val (.int x2), .val (.ref ob18), .val (.long (0 : Int64)), .second, .unset]) rfl) ?_
          show GG _ _ _ _ _ _ _ T21 (mkF m 112 #[.val (.int p0), .val (.int p1), .val (.int p2), .val (.int p3), .val (.int p4), .val (.long q5), .second, .val (.int x2), .val (.ref ob18), .val (.long (0 : Int64)), .second, .unset] [])
          refine own_go (fun _ => XS.iload X21.here hx rfl (hb hby at_112) rfl) ?_
          show GG _ _ _ _ _ _ _ T21 (mkF m 114 #[.val (.int p0), .val (.int p1), .val (.int p2), .val (.int p3), .val (.int p4), .val (.long q5), .second, .val (.int x2), .val (.ref ob18), .val (.long (0 : Int64)), .second, .unset] [(.int x2)])
          refine own_go (fun _ => XS.iconst X21.here hx rfl (hb hby at_114)) ?_
          show GG _ _ _ _ _ _ _ T21 (mkF m 115 #[.val (.int p0), .val (.int p1), .val (.int p2), .val (.int p3), .val (.int p4), .val (.long q5), .second, .val (.int x2), .val (.ref ob18), .val (.long (0 : Int64)), .second, .unset] [(.int (1 : Int32)), (.int x2)])
          have hc115 : ¬ (x2 < (1 : Int32)) := (fun q => absurd (Int32.lt_iff_toInt_lt.mp q) ((by show ¬ (x2.toInt < 1); omega : ¬ (x2.toInt < 1))))
          refine own_go (fun _ => XS.icmpNo X21.here hx rfl (hb hby at_115) rfl (flt hc115).1) ?_
          show GG _ _ _ _ _ _ _ T21 (mkF m 118 #[.val (.int p0), .val (.int p1), .val (.int p2), .val (.int p3), .val (.int p4), .val (.long q5), .second, .val (.int x2), .val (.ref ob18), .val (.long (0 : Int64)), .second, .unset] [])
          refine own_go (fun _ => XS.lload X21.here hx rfl (hb hby at_118) rfl) ?_
          show GG _ _ _ _ _ _ _ T21 (mkF m 120 #[.val (.int p0), .val (.int p1), .val (.int p2), .val (.int p3), .val (.int p4), .val (.long q5), .second, .val (.int x2), .val (.ref ob18), .val (.long (0 : Int64)), .second, .unset] [(.long (0 : Int64))])
          refine own_go (fun _ => XS.iloadN X21.here hx rfl (hb hby at_120) rfl) ?_
          show GG _ _ _ _ _ _ _ T21 (mkF m 121 #[.val (.int p0), .val (.int p1), .val (.int p2), .val (.int p3), .val (.int p4), .val (.long q5), .second, .val (.int x2), .val (.ref ob18), .val (.long (0 : Int64)), .second, .unset] [(.int p1), (.long (0 : Int64))])
          refine own_go (fun _ => XS.i2l X21.here hx rfl (hb hby at_121) rfl) ?_
          show GG _ _ _ _ _ _ _ T21 (mkF m 122 #[.val (.int p0), .val (.int p1), .val (.int p2), .val (.int p3), .val (.int p4), .val (.long q5), .second, .val (.int x2), .val (.ref ob18), .val (.long (0 : Int64)), .second, .unset] [(.long (p1.toInt64)), (.long (0 : Int64))])
          refine own_go (fun _ => XS.ladd X21.here hx rfl (hb hby at_122) rfl) ?_
          show GG _ _ _ _ _ _ _ T21 (mkF m 123 #[.val (.int p0), .val (.int p1), .val (.int p2), .val (.int p3), .val (.int p4), .val (.long q5), .second, .val (.int x2), .val (.ref ob18), .val (.long (0 : Int64)), .second, .unset] [(.long ((0 : Int64) + (p1.toInt64)))])
          refine own_go (fun _ => XS.lstore X21.here hx rfl (hb hby at_123) rfl (l' := #[.val (.int p0), .val (.int p1), .val (.int p2), .val (.int p3), .val (.int p4), .val (.long q5), .second, .val (.int x2), .val (.ref ob18), .val (.long ((0 : Int64) + (p1.toInt64))), .second, .unset]) rfl) ?_
          show GG _ _ _ _ _ _ _ T21 (mkF m 125 #[.val (.int p0), .val (.int p1), .val (.int p2), .val (.int p3), .val (.int p4), .val (.long q5), .second, .val (.int x2), .val (.ref ob18), .val (.long ((0 : Int64) + (p1.toInt64))), .second, .unset] [])
          refine own_go (fun _ => XS.iload X21.here hx rfl (hb hby at_125) rfl) ?_
          show GG _ _ _ _ _ _ _ T21 (mkF m 127 #[.val (.int p0), .val (.int p1), .val (.int p2), .val (.int p3), .val (.int p4), .val (.long q5), .second, .val (.int x2), .val (.ref ob18), .val (.long ((0 : Int64) + (p1.toInt64))), .second, .unset] [(.int x2)])
          refine own_go (fun _ => XS.iconst X21.here hx rfl (hb hby at_127)) ?_
          show GG _ _ _ _ _ _ _ T21 (mkF m 128 #[.val (.int p0), .val (.int p1), .val (.int p2), .val (.int p3), .val (.int p4), .val (.long q5), .second, .val (.int x2), .val (.ref ob18), .val (.long ((0 : Int64) + (p1.toInt64))), .second, .unset] [(.int (2 : Int32)), (.int x2)])
          have hc128 : ¬ (x2 < (2 : Int32)) := (fun q => absurd (Int32.lt_iff_toInt_lt.mp q) ((by show ¬ (x2.toInt < 2); omega : ¬ (x2.toInt < 2))))
          refine own_go (fun _ => XS.icmpNo X21.here hx rfl (hb hby at_128) rfl (flt hc128).1) ?_
          show GG _ _ _ _ _ _ _ T21 (mkF m 131 #[.val (.int p0), .val (.int p1), .val (.int p2), .val (.int p3), .val (.int p4), .val (.long q5), .second, .val (.int x2), .val (.ref ob18), .val (.long ((0 : Int64) + (p1.toInt64))), .second, .unset] [])
          refine own_go (fun _ => XS.lload X21.here hx rfl (hb hby at_131) rfl) ?_
          show GG _ _ _ _ _ _ _ T21 (mkF m 133 #[.val (.int p0), .val (.int p1), .val (.int p2), .val (.int p3), .val (.int p4), .val (.long q5), .second, .val (.int x2), .val (.ref ob18), .val (.long ((0 : Int64) + (p1.toInt64))), .second, .unset] [(.long ((0 : Int64) + (p1.toInt64)))])
          refine own_go (fun _ => XS.iloadN X21.here hx rfl (hb hby at_133) rfl) ?_
          show GG _ _ _ _ _ _ _ T21 (mkF m 134 #[.val (.int p0), .val (.int p1), .val (.int p2), .val (.int p3), .val (.int p4), .val (.long q5), .second, .val (.int x2), .val (.ref ob18), .val (.long ((0 : Int64) + (p1.toInt64))), .second, .unset] [(.int p2), (.long ((0 : Int64) + (p1.toInt64)))])
          refine own_go (fun _ => XS.i2l X21.here hx rfl (hb hby at_134) rfl) ?_
          show GG _ _ _ _ _ _ _ T21 (mkF m 135 #[.val (.int p0), .val (.int p1), .val (.int p2), .val (.int p3), .val (.int p4), .val (.long q5), .second, .val (.int x2), .val (.ref ob18), .val (.long ((0 : Int64) + (p1.toInt64))), .second, .unset] [(.long (p2.toInt64)), (.long ((0 : Int64) + (p1.toInt64)))])
          refine own_go (fun _ => XS.ladd X21.here hx rfl (hb hby at_135) rfl) ?_
          show GG _ _ _ _ _ _ _ T21 (mkF m 136 #[.val (.int p0), .val (.int p1), .val (.int p2), .val (.int p3), .val (.int p4), .val (.long q5), .second, .val (.int x2), .val (.ref ob18), .val (.long ((0 : Int64) + (p1.toInt64))), .second, .unset] [(.long (((0 : Int64) + (p1.toInt64)) + (p2.toInt64)))])
          refine own_go (fun _ => XS.lstore X21.here hx rfl (hb hby at_136) rfl (l' := #[.val (.int p0), .val (.int p1), .val (.int p2), .val (.int p3), .val (.int p4), .val (.long q5), .second, .val (.int x2), .val (.ref ob18), .val (.long (((0 : Int64) + (p1.toInt64)) + (p2.toInt64))), .second, .unset]) rfl) ?_
          show GG _ _ _ _ _ _ _ T21 (mkF m 138 #[.val (.int p0), .val (.int p1), .val (.int p2), .val (.int p3), .val (.int p4), .val (.long q5), .second, .val (.int x2), .val (.ref ob18), .val (.long (((0 : Int64) + (p1.toInt64)) + (p2.toInt64))), .second, .unset] [])
          refine own_go (fun _ => XS.iload X21.here hx rfl (hb hby at_138) rfl) ?_
          show GG _ _ _ _ _ _ _ T21 (mkF m 140 #[.val (.int p0), .val (.int p1), .val (.int p2), .val (.int p3), .val (.int p4), .val (.long q5), .second, .val (.int x2), .val (.ref ob18), .val (.long (((0 : Int64) + (p1.toInt64)) + (p2.toInt64))), .second, .unset] [(.int x2)])
          refine own_go (fun _ => XS.iconst X21.here hx rfl (hb hby at_140)) ?_
          show GG _ _ _ _ _ _ _ T21 (mkF m 141 #[.val (.int p0), .val (.int p1), .val (.int p2), .val (.int p3), .val (.int p4), .val (.long q5), .second, .val (.int x2), .val (.ref ob18), .val (.long (((0 : Int64) + (p1.toInt64)) + (p2.toInt64))), .second, .unset] [(.int (3 : Int32)), (.int x2)])
          have hc141 : ¬ (x2 < (3 : Int32)) := (fun q => absurd (Int32.lt_iff_toInt_lt.mp q) ((by show ¬ (x2.toInt < 3); omega : ¬ (x2.toInt < 3))))
          refine own_go (fun _ => XS.icmpNo X21.here hx rfl (hb hby at_141) rfl (flt hc141).1) ?_
          show GG _ _ _ _ _ _ _ T21 (mkF m 144 #[.val (.int p0), .val (.int p1), .val (.int p2), .val (.int p3), .val (.int p4), .val (.long q5), .second, .val (.int x2), .val (.ref ob18), .val (.long (((0 : Int64) + (p1.toInt64)) + (p2.toInt64))), .second, .unset] [])
          refine own_go (fun _ => XS.lload X21.here hx rfl (hb hby at_144) rfl) ?_
          show GG _ _ _ _ _ _ _ T21 (mkF m 146 #[.val (.int p0), .val (.int p1), .val (.int p2), .val (.int p3), .val (.int p4), .val (.long q5), .second, .val (.int x2), .val (.ref ob18), .val (.long (((0 : Int64) + (p1.toInt64)) + (p2.toInt64))), .second, .unset] [(.long (((0 : Int64) + (p1.toInt64)) + (p2.toInt64)))])
          refine own_go (fun _ => XS.iloadN X21.here hx rfl (hb hby at_146) rfl) ?_
          show GG _ _ _ _ _ _ _ T21 (mkF m 147 #[.val (.int p0), .val (.int p1), .val (.int p2), .val (.int p3), .val (.int p4), .val (.long q5), .second, .val (.int x2), .val (.ref ob18), .val (.long (((0 : Int64) + (p1.toInt64)) + (p2.toInt64))), .second, .unset] [(.int p3), (.long (((0 : Int64) + (p1.toInt64)) + (p2.toInt64)))])
          refine own_go (fun _ => XS.i2l X21.here hx rfl (hb hby at_147) rfl) ?_
          show GG _ _ _ _ _ _ _ T21 (mkF m 148 #[.val (.int p0), .val (.int p1), .val (.int p2), .val (.int p3), .val (.int p4), .val (.long q5), .second, .val (.int x2), .val (.ref ob18), .val (.long (((0 : Int64) + (p1.toInt64)) + (p2.toInt64))), .second, .unset] [(.long (p3.toInt64)), (.long (((0 : Int64) + (p1.toInt64)) + (p2.toInt64)))])
          refine own_go (fun _ => XS.ladd X21.here hx rfl (hb hby at_148) rfl) ?_
          show GG _ _ _ _ _ _ _ T21 (mkF m 149 #[.val (.int p0), .val (.int p1), .val (.int p2), .val (.int p3), .val (.int p4), .val (.long q5), .second, .val (.int x2), .val (.ref ob18), .val (.long (((0 : Int64) + (p1.toInt64)) + (p2.toInt64))), .second, .unset] [(.long ((((0 : Int64) + (p1.toInt64)) + (p2.toInt64)) + (p3.toInt64)))])
          refine own_go (fun _ => XS.lstore X21.here hx rfl (hb hby at_149) rfl (l' := #[.val (.int p0), .val (.int p1), .val (.int p2), .val (.int p3), .val (.int p4), .val (.long q5), .second, .val (.int x2), .val (.ref ob18), .val (.long ((((0 : Int64) + (p1.toInt64)) + (p2.toInt64)) + (p3.toInt64))), .second, .unset]) rfl) ?_
          show GG _ _ _ _ _ _ _ T21 (mkF m 151 #[.val (.int p0), .val (.int p1), .val (.int p2), .val (.int p3), .val (.int p4), .val (.long q5), .second, .val (.int x2), .val (.ref ob18), .val (.long ((((0 : Int64) + (p1.toInt64)) + (p2.toInt64)) + (p3.toInt64))), .second, .unset] [])
          refine own_go (fun _ => XS.iload X21.here hx rfl (hb hby at_151) rfl) ?_
          show GG _ _ _ _ _ _ _ T21 (mkF m 153 #[.val (.int p0), .val (.int p1), .val (.int p2), .val (.int p3), .val (.int p4), .val (.long q5), .second, .val (.int x2), .val (.ref ob18), .val (.long ((((0 : Int64) + (p1.toInt64)) + (p2.toInt64)) + (p3.toInt64))), .second, .unset] [(.int x2)])
          refine own_go (fun _ => XS.iconst X21.here hx rfl (hb hby at_153)) ?_
          show GG _ _ _ _ _ _ _ T21 (mkF m 154 #[.val (.int p0), .val (.int p1), .val (.int p2), .val (.int p3), .val (.int p4), .val (.long q5), .second, .val (.int x2), .val (.ref ob18), .val (.long ((((0 : Int64) + (p1.toInt64)) + (p2.toInt64)) + (p3.toInt64))), .second, .unset] [(.int (4 : Int32)), (.int x2)])
          have hc154 : x2 < (4 : Int32) := (Int32.lt_iff_toInt_lt.mpr ((by show (x2.toInt < 4); omega : (x2.toInt < 4))))
          refine own_go (fun _ => XS.icmpYes X21.here hx rfl (pc0 := 154) (pc' := 165) rfl (hb hby at_154) rfl (tlt hc154).1 (by decide) (by decide)) ?_
          show GG _ _ _ _ _ _ _ T21 (mkF m 165 #[.val (.int p0), .val (.int p1), .val (.int p2), .val (.int p3), .val (.int p4), .val (.long q5), .second, .val (.int x2), .val (.ref ob18), .val (.long ((((0 : Int64) + (p1.toInt64)) + (p2.toInt64)) + (p3.toInt64))), .second, .unset] [])
          obtain ⟨T22, h22, X22, e22, E22, A22, D22, -, st22⟩ := newO X21 hx hZ hown (hw _ (List.mem_of_getElem? (i := 2) rfl)) (hw _ (List.mem_of_getElem? (i := 3) rfl)) (hw _ (List.mem_of_getElem? (i := 4) rfl)) e21 (g := (mkF m 165 #[.val (.int p0), .val (.int p1), .val (.int p2), .val (.int p3), .val (.int p4), .val (.long q5), .second, .val (.int x2), .val (.ref ob18), .val (.long ((((0 : Int64) + (p1.toInt64)) + (p2.toInt64)) + (p3.toInt64))), .second, .unset] [])) rfl (hb hby at_165) (by decide) (by decide)
          obtain ⟨ob22, g22⟩ : ∃ z, z = h21.size := ⟨_, rfl⟩
          rw [← g22] at A22 D22 st22
          have ne_ob18_ob22 : ob18 ≠ ob22 := Nat.ne_of_lt (Nat.lt_of_lt_of_le V_ob18.lt (Nat.le_of_eq g22.symm))
          have sz_ob22 : h0.size ≤ ob22 := Nat.le_trans K0.1 (Nat.le_of_eq g22.symm)
          have g_ob22 : n0 ≤ ob22 := Nat.le_trans Z0 sz_ob22
          have K0 := K0.ext E22
          have V_ob18 := V_ob18.ext E22
          have E_ob18 := E_ob18.ext E22
          have E_ob22 := A22
          have F_shardDocuments_ob22 : Fld Z h22 ob22 "com/example/deft_shards/deftshards/index/IndexSummary" "shardDocuments" "[I" .null := D22 (Or.inr (hw _ (List.mem_of_getElem? (i := 21) rfl))) (ty := (.array .int)) (by decide)
          have F_skipped_ob22 : Fld Z h22 ob22 "com/example/deft_shards/deftshards/index/IndexSummary" "skipped" "J" (.long (0 : Int64)) := D22 (Or.inr (hw _ (List.mem_of_getElem? (i := 23) rfl))) (ty := .long) (by decide)
          refine own_go (fun _ => st22 _) ?_
          show GG _ _ _ _ _ _ _ T22 (mkF m 168 #[.val (.int p0), .val (.int p1), .val (.int p2), .val (.int p3), .val (.int p4), .val (.long q5), .second, .val (.int x2), .val (.ref ob18), .val (.long ((((0 : Int64) + (p1.toInt64)) + (p2.toInt64)) + (p3.toInt64))), .second, .unset] [(.ref ob22)])
          refine own_go (fun _ => XS.dup X22.here hx rfl (hb hby at_168) rfl rfl) ?_
          show GG _ _ _ _ _ _ _ T22 (mkF m 169 #[.val (.int p0), .val (.int p1), .val (.int p2), .val (.int p3), .val (.int p4), .val (.long q5), .second, .val (.int x2), .val (.ref ob18), .val (.long ((((0 : Int64) + (p1.toInt64)) + (p2.toInt64)) + (p3.toInt64))), .second, .unset] [(.ref ob22), (.ref ob22)])
          refine own_go (fun _ => XS.aload X22.here hx rfl (hb hby at_169) rfl rfl) ?_
          show GG _ _ _ _ _ _ _ T22 (mkF m 171 #[.val (.int p0), .val (.int p1), .val (.int p2), .val (.int p3), .val (.int p4), .val (.long q5), .second, .val (.int x2), .val (.ref ob18), .val (.long ((((0 : Int64) + (p1.toInt64)) + (p2.toInt64)) + (p3.toInt64))), .second, .unset] [(.ref ob18), (.ref ob22), (.ref ob22)])
          refine own_go (fun _ => XS.lload X22.here hx rfl (hb hby at_171) rfl) ?_
          show GG _ _ _ _ _ _ _ T22 (mkF m 173 #[.val (.int p0), .val (.int p1), .val (.int p2), .val (.int p3), .val (.int p4), .val (.long q5), .second, .val (.int x2), .val (.ref ob18), .val (.long ((((0 : Int64) + (p1.toInt64)) + (p2.toInt64)) + (p3.toInt64))), .second, .unset] [(.long q5), (.ref ob18), (.ref ob22), (.ref ob22)])
          refine own_callI X22 hx hZ (y := (⟨"com/example/deft_shards/deftshards/index/IndexSummary", "<init>", "([IJ)V"⟩ : MethodName)) 1 rfl hown (hw _ (List.mem_of_getElem? (i := 5) rfl)) (hw _ (List.mem_of_getElem? (i := 6) rfl)) (hw _ (List.mem_of_getElem? (i := 4) rfl)) (hw _ (List.mem_of_getElem? (i := 7) rfl)) (by decide) (a := ob22) (argsL := [(.ref ob18), (.long q5)]) (rest := [(.ref ob22)]) (rm1 l Z a0 hw [] ob22 ob18 q5 [(.int p1), (.int p2), (.int p3)] h22 n0 (Nat.le_trans Z0 K0.1) E_ob22 F_shardDocuments_ob22 F_skipped_ob22 V_ob18 E_ob18 g_ob22 (Nat.le_of_ble_eq_true rfl)) (by decide) (by decide) (by decide) (by decide) (g := (mkF m 173 #[.val (.int p0), .val (.int p1), .val (.int p2), .val (.int p3), .val (.int p4), .val (.long q5), .second, .val (.int x2), .val (.ref ob18), .val (.long ((((0 : Int64) + (p1.toInt64)) + (p2.toInt64)) + (p3.toInt64))), .second, .unset] [(.long q5), (.ref ob18), (.ref ob22), (.ref ob22)])) rfl (by rw [hml]; rfl) (lenOf pd___IJ_V_405 rfl) rfl (by show 2 * 0 + _ ≤ _; exact Nat.le_of_eq rfl) (hb hby at_173) e22 ?_
          rintro v23 T23 L23 X23 ⟨rfl, N23q, Kq23, Eq23, bq23, gq23, Fq23, Vq23⟩
          have N23 := Fr.app N21 N23q
          have K0 := K0.trans Kq23 (allS (Or.inr sz_ob22) all0)
          have V_ob18 := V_ob18.keep Kq23 (ninS ne_ob18_ob22 nin0)
          have E_ob18 := E_ob18.keep Kq23
          show GG _ _ _ _ _ _ _ T23 (mkF m 176 #[.val (.int p0), .val (.int p1), .val (.int p2), .val (.int p3), .val (.int p4), .val (.long q5), .second, .val (.int x2), .val (.ref ob18), .val (.long ((((0 : Int64) + (p1.toInt64)) + (p2.toInt64)) + (p3.toInt64))), .second, .unset] [(.ref ob22)])
          refine own_go (fun _ => XS.astore X23.here hx rfl (hb hby at_176) rfl rfl (l' := #[.val (.int p0), .val (.int p1), .val (.int p2), .val (.int p3), .val (.int p4), .val (.long q5), .second, .val (.int x2), .val (.ref ob18), .val (.long ((((0 : Int64) + (p1.toInt64)) + (p2.toInt64)) + (p3.toInt64))), .second, .val (.ref ob22)]) rfl) ?_
          show GG _ _ _ _ _ _ _ T23 (mkF m 178 #[.val (.int p0), .val (.int p1), .val (.int p2), .val (.int p3), .val (.int p4), .val (.long q5), .second, .val (.int x2), .val (.ref ob18), .val (.long ((((0 : Int64) + (p1.toInt64)) + (p2.toInt64)) + (p3.toInt64))), .second, .val (.ref ob22)] [])
          refine own_go (fun _ => XS.aload X23.here hx rfl (hb hby at_178) rfl rfl) ?_
          show GG _ _ _ _ _ _ _ T23 (mkF m 180 #[.val (.int p0), .val (.int p1), .val (.int p2), .val (.int p3), .val (.int p4), .val (.long q5), .second, .val (.int x2), .val (.ref ob18), .val (.long ((((0 : Int64) + (p1.toInt64)) + (p2.toInt64)) + (p3.toInt64))), .second, .val (.ref ob22)] [(.ref ob22)])
          refine own_callV X23 hx hZ (y := (⟨"com/example/deft_shards/deftshards/index/IndexSummary", "documents", "()J"⟩ : MethodName)) (z := (⟨"com/example/deft_shards/deftshards/index/IndexSummary", "documents", "()J"⟩ : MethodName)) 0 hown (hw _ (List.mem_of_getElem? (i := 24) rfl)) (hw _ (List.mem_of_getElem? (i := 25) rfl)) (notFace_of_selects (args := #[]) (mvT hZ (hw _ (List.mem_of_getElem? (i := 27) rfl)))) (hw _ (List.mem_of_getElem? (i := 27) rfl)) (hw _ (List.mem_of_getElem? (i := 26) rfl)) (hw _ (List.mem_of_getElem? (i := 4) rfl)) (hw _ (List.mem_of_getElem? (i := 28) rfl)) (by decide) (a := ob22) (argsL := []) (rest := []) (rm3 l Z a0 hw [] ob22 bq23 [p1, p2, p3] T23.heap n0 (Nat.le_trans Z0 K0.1) Fq23 Vq23) (by decide) (by decide) (by decide) (by decide) Eq23 (g := (mkF m 180 #[.val (.int p0), .val (.int p1), .val (.int p2), .val (.int p3), .val (.int p4), .val (.long q5), .second, .val (.int x2), .val (.ref ob18), .val (.long ((((0 : Int64) + (p1.toInt64)) + (p2.toInt64)) + (p3.toInt64))), .second, .val (.ref ob22)] [(.ref ob22)])) rfl (by rw [hml]; rfl) (lenOf pd___J_155 rfl) rfl (by show 2 * 0 + _ ≤ _; exact Nat.le_of_eq rfl) (hb hby at_180) rfl ?_
          rintro v24 T24 L24 X24 ⟨rfl, N24q, hh24⟩
          have N24 := Fr.app N23 N24q
          show GG _ _ _ _ _ _ _ T24 (mkF m 183 #[.val (.int p0), .val (.int p1), .val (.int p2), .val (.int p3), .val (.int p4), .val (.long q5), .second, .val (.int x2), .val (.ref ob18), .val (.long ((((0 : Int64) + (p1.toInt64)) + (p2.toInt64)) + (p3.toInt64))), .second, .val (.ref ob22)] [(.long (sumL [p1, p2, p3]))])
          refine own_go (fun _ => XS.lload X24.here hx rfl (hb hby at_183) rfl) ?_
          show GG _ _ _ _ _ _ _ T24 (mkF m 185 #[.val (.int p0), .val (.int p1), .val (.int p2), .val (.int p3), .val (.int p4), .val (.long q5), .second, .val (.int x2), .val (.ref ob18), .val (.long ((((0 : Int64) + (p1.toInt64)) + (p2.toInt64)) + (p3.toInt64))), .second, .val (.ref ob22)] [(.long ((((0 : Int64) + (p1.toInt64)) + (p2.toInt64)) + (p3.toInt64))), (.long (sumL [p1, p2, p3]))])
          refine own_go (fun _ => XS.lcmp X24.here hx rfl (hb hby at_185) rfl) ?_
          show GG _ _ _ _ _ _ _ T24 (mkF m 186 #[.val (.int p0), .val (.int p1), .val (.int p2), .val (.int p3), .val (.int p4), .val (.long q5), .second, .val (.int x2), .val (.ref ob18), .val (.long ((((0 : Int64) + (p1.toInt64)) + (p2.toInt64)) + (p3.toInt64))), .second, .val (.ref ob22)] [(.int (lcmpW (sumL [p1, p2, p3]) ((((0 : Int64) + (p1.toInt64)) + (p2.toInt64)) + (p3.toInt64))))])
          have hc186 : (sumL [p1, p2, p3]) = ((((0 : Int64) + (p1.toInt64)) + (p2.toInt64)) + (p3.toInt64)) := rfl
          refine own_go (fun _ => XS.ifNo X24.here hx rfl (hb hby at_186) rfl ((if0 _ _).trans (teq ((lw_eq _ _).mpr hc186)).2)) ?_
          show GG _ _ _ _ _ _ _ T24 (mkF m 189 #[.val (.int p0), .val (.int p1), .val (.int p2), .val (.int p3), .val (.int p4), .val (.long q5), .second, .val (.int x2), .val (.ref ob18), .val (.long ((((0 : Int64) + (p1.toInt64)) + (p2.toInt64)) + (p3.toInt64))), .second, .val (.ref ob22)] [])
          refine own_go (fun _ => XS.iconst X24.here hx rfl (hb hby at_189)) ?_
          show GG _ _ _ _ _ _ _ T24 (mkF m 190 #[.val (.int p0), .val (.int p1), .val (.int p2), .val (.int p3), .val (.int p4), .val (.long q5), .second, .val (.int x2), .val (.ref ob18), .val (.long ((((0 : Int64) + (p1.toInt64)) + (p2.toInt64)) + (p3.toInt64))), .second, .val (.ref ob22)] [(.int (1 : Int32))])
          refine own_go (fun _ => XS.goto X24.here hx rfl (pc0 := 190) (pc' := 194) rfl (hb hby at_190) (by decide) (by decide)) ?_
          show GG _ _ _ _ _ _ _ T24 (mkF m 194 #[.val (.int p0), .val (.int p1), .val (.int p2), .val (.int p3), .val (.int p4), .val (.long q5), .second, .val (.int x2), .val (.ref ob18), .val (.long ((((0 : Int64) + (p1.toInt64)) + (p2.toInt64)) + (p3.toInt64))), .second, .val (.ref ob22)] [(.int (1 : Int32))])
          refine own_ret X24 hx hlk (t := .boolean) (w := (.int (1 : Int32))) Bd.returns rfl (Or.inl ⟨rfl, by simp, _, rfl⟩) (hb hby at_194) (by decide) (by decide) ?_
          show Q0 Z p0 p1 p2 p3 p4 q5 h0 n0 (some (.int (1 : Int32))) T24.heap _
          rw [hh24]
          exact ⟨rfl, N24⟩
        · skip
          have ihc64 : ¬ (x2.toInt = 3) := fun q => hc64 (Int32.toInt_inj.mp q)
          refine own_go (fun _ => XS.icmpYes X0.here hx rfl (pc0 := 64) (pc' := 87) rfl (hb hby at_64) rfl (feq hc64).2 (by decide) (by decide)) ?_
          show GG _ _ _ _ _ _ _ s₁ (mkF m 87 #[.val (.int p0), .val (.int p1), .val (.int p2), .val (.int p3), .val (.int p4), .val (.long q5), .second, .val (.int x2), .unset, .unset, .unset, .unset] [])
          refine own_go (fun _ => XS.iconst X0.here hx rfl (hb hby at_87)) ?_
          show GG _ _ _ _ _ _ _ s₁ (mkF m 88 #[.val (.int p0), .val (.int p1), .val (.int p2), .val (.int p3), .val (.int p4), .val (.long q5), .second, .val (.int x2), .unset, .unset, .unset, .unset] [(.int (4 : Int32))])
          have K0 := Keep.refl h0 []
          obtain ⟨T25, h25, ob25, g25, X25, e25, E25, V_ob25, E_ob25, st25⟩ := own_newarr X0 hx hZ (hw _ (List.mem_of_getElem? (i := 1) rfl)) e0 (g := (mkF m 88 #[.val (.int p0), .val (.int p1), .val (.int p2), .val (.int p3), .val (.int p4), .val (.long q5), .second, .val (.int x2), .unset, .unset, .unset, .unset] [(.int (4 : Int32))])) rfl (hb hby at_88) rfl (by decide) (cap := 4) (by decide) (by decide) (by decide) (by decide) (ad := "[I") (by decide)
          have sz_ob25 : h0.size ≤ ob25 := Nat.le_trans K0.1 (Nat.le_of_eq g25.symm)
          have g_ob25 : n0 ≤ ob25 := Nat.le_trans Z0 sz_ob25
          have K0 := K0.ext E25
          have V_ob25 : Arx Z h25 ob25 .int [(.int (0 : Int32)), (.int (0 : Int32)), (.int (0 : Int32)), (.int (0 : Int32))] := V_ob25
          refine own_go (fun _ => st25 _) ?_
          show GG _ _ _ _ _ _ _ T25 (mkF m 90 #[.val (.int p0), .val (.int p1), .val (.int p2), .val (.int p3), .val (.int p4), .val (.long q5), .second, .val (.int x2), .unset, .unset, .unset, .unset] [(.ref ob25)])
          refine own_go (fun _ => XS.dup X25.here hx rfl (hb hby at_90) rfl rfl) ?_
          show GG _ _ _ _ _ _ _ T25 (mkF m 91 #[.val (.int p0), .val (.int p1), .val (.int p2), .val (.int p3), .val (.int p4), .val (.long q5), .second, .val (.int x2), .unset, .unset, .unset, .unset] [(.ref ob25), (.ref ob25)])
          refine own_go (fun _ => XS.iconst X25.here hx rfl (hb hby at_91)) ?_
          show GG _ _ _ _ _ _ _ T25 (mkF m 92 #[.val (.int p0), .val (.int p1), .val (.int p2), .val (.int p3), .val (.int p4), .val (.long q5), .second, .val (.int x2), .unset, .unset, .unset, .unset] [(.int (0 : Int32)), (.ref ob25), (.ref ob25)])
          refine own_go (fun _ => XS.iloadN X25.here hx rfl (hb hby at_92) rfl) ?_
          show GG _ _ _ _ _ _ _ T25 (mkF m 93 #[.val (.int p0), .val (.int p1), .val (.int p2), .val (.int p3), .val (.int p4), .val (.long q5), .second, .val (.int x2), .unset, .unset, .unset, .unset] [(.int p1), (.int (0 : Int32)), (.ref ob25), (.ref ob25)])
          obtain ⟨T26, h26, X26, e26, W26, V26, st26⟩ := own_iastore X25 hx hZ e25 V_ob25 (by decide) (Nat.le_of_ble_eq_true rfl) (g := (mkF m 93 #[.val (.int p0), .val (.int p1), .val (.int p2), .val (.int p3), .val (.int p4), .val (.long q5), .second, .val (.int x2), .unset, .unset, .unset, .unset] [(.int p1), (.int (0 : Int32)), (.ref ob25), (.ref ob25)])) rfl rfl (hb hby at_93)
          have K0 := K0.wr W26 (Or.inr sz_ob25)
          have E_ob25 := E_ob25.wr W26
          have V_ob25 : Arx Z h26 ob25 .int [(.int p1), (.int (0 : Int32)), (.int (0 : Int32)), (.int (0 : Int32))] := V26
          have N26 := Fr.snoc X26 N0 g_ob25
          refine own_go (fun _ => st26 _) ?_
          show GG _ _ _ _ _ _ _ T26 (mkF m 94 #[.val (.int p0), .val (.int p1), .val (.int p2), .val (.int p3), .val (.int p4), .val (.long q5), .second, .val (.int x2), .unset, .unset, .unset, .unset] [(.ref ob25)])
          refine own_go (fun _ => XS.dup X26.here hx rfl (hb hby at_94) rfl rfl) ?_
          show GG _ _ _ _ _ _ _ T26 (mkF m 95 #[.val (.int p0), .val (.int p1), .val (.int p2), .val (.int p3), .val (.int p4), .val (.long q5), .second, .val (.int x2), .unset, .unset, .unset, .unset] [(.ref ob25), (.ref ob25)])
          refine own_go (fun _ => XS.iconst X26.here hx rfl (hb hby at_95)) ?_
          show GG _ _ _ _ _ _ _ T26 (mkF m 96 #[.val (.int p0), .val (.int p1), .val (.int p2), .val (.int p3), .val (.int p4), .val (.long q5), .second, .val (.int x2), .unset, .unset, .unset, .unset] [(.int (1 : Int32)), (.ref ob25), (.ref ob25)])
          refine own_go (fun _ => XS.iloadN X26.here hx rfl (hb hby at_96) rfl) ?_
          show GG _ _ _ _ _ _ _ T26 (mkF m 97 #[.val (.int p0), .val (.int p1), .val (.int p2), .val (.int p3), .val (.int p4), .val (.long q5), .second, .val (.int x2), .unset, .unset, .unset, .unset] [(.int p2), (.int (1 : Int32)), (.ref ob25), (.ref ob25)])
          obtain ⟨T27, h27, X27, e27, W27, V27, st27⟩ := own_iastore X26 hx hZ e26 V_ob25 (by decide) (Nat.le_of_ble_eq_true rfl) (g := (mkF m 97 #[.val (.int p0), .val (.int p1), .val (.int p2), .val (.int p3), .val (.int p4), .val (.long q5), .second, .val (.int x2), .unset, .unset, .unset, .unset] [(.int p2), (.int (1 : Int32)), (.ref ob25), (.ref ob25)])) rfl rfl (hb hby at_97)
          have K0 := K0.wr W27 (Or.inr sz_ob25)
          have E_ob25 := E_ob25.wr W27
          have V_ob25 : Arx Z h27 ob25 .int [(.int p1), (.int p2), (.int (0 : Int32)), (.int (0 : Int32))] := V27
          have N27 := Fr.snoc X27 N26 g_ob25
          refine own_go (fun _ => st27 _) ?_
          show GG _ _ _ _ _ _ _ T27 (mkF m 98 #[.val (.int p0), .val (.int p1), .val (.int p2), .val (.int p3), .val (.int p4), .val (.long q5), .second, .val (.int x2), .unset, .unset, .unset, .unset] [(.ref ob25)])
          refine own_go (fun _ => XS.dup X27.here hx rfl (hb hby at_98) rfl rfl) ?_
          show GG _ _ _ _ _ _ _ T27 (mkF m 99 #[.val (.int p0), .val (.int p1), .val (.int p2), .val (.int p3), .val (.int p4), .val (.long q5), .second, .val (.int x2), .unset, .unset, .unset, .unset] [(.ref ob25), (.ref ob25)])
          refine own_go (fun _ => XS.iconst X27.here hx rfl (hb hby at_99)) ?_
          show GG _ _ _ _ _ _ _ T27 (mkF m 100 #[.val (.int p0), .val (.int p1), .val (.int p2), .val (.int p3), .val (.int p4), .val (.long q5), .second, .val (.int x2), .unset, .unset, .unset, .unset] [(.int (2 : Int32)), (.ref ob25), (.ref ob25)])
          refine own_go (fun _ => XS.iloadN X27.here hx rfl (hb hby at_100) rfl) ?_
          show GG _ _ _ _ _ _ _ T27 (mkF m 101 #[.val (.int p0), .val (.int p1), .val (.int p2), .val (.int p3), .val (.int p4), .val (.long q5), .second, .val (.int x2), .unset, .unset, .unset, .unset] [(.int p3), (.int (2 : Int32)), (.ref ob25), (.ref ob25)])
          obtain ⟨T28, h28, X28, e28, W28, V28, st28⟩ := own_iastore X27 hx hZ e27 V_ob25 (by decide) (Nat.le_of_ble_eq_true rfl) (g := (mkF m 101 #[.val (.int p0), .val (.int p1), .val (.int p2), .val (.int p3), .val (.int p4), .val (.long q5), .second, .val (.int x2), .unset, .unset, .unset, .unset] [(.int p3), (.int (2 : Int32)), (.ref ob25), (.ref ob25)])) rfl rfl (hb hby at_101)
          have K0 := K0.wr W28 (Or.inr sz_ob25)
          have E_ob25 := E_ob25.wr W28
          have V_ob25 : Arx Z h28 ob25 .int [(.int p1), (.int p2), (.int p3), (.int (0 : Int32))] := V28
          have N28 := Fr.snoc X28 N27 g_ob25
          refine own_go (fun _ => st28 _) ?_
          show GG _ _ _ _ _ _ _ T28 (mkF m 102 #[.val (.int p0), .val (.int p1), .val (.int p2), .val (.int p3), .val (.int p4), .val (.long q5), .second, .val (.int x2), .unset, .unset, .unset, .unset] [(.ref ob25)])
          refine own_go (fun _ => XS.dup X28.here hx rfl (hb hby at_102) rfl rfl) ?_
          show GG _ _ _ _ _ _ _ T28 (mkF m 103 #[.val (.int p0), .val (.int p1), .val (.int p2), .val (.int p3), .val (.int p4), .val (.long q5), .second, .val (.int x2), .unset, .unset, .unset, .unset] [(.ref ob25), (.ref ob25)])
          refine own_go (fun _ => XS.iconst X28.here hx rfl (hb hby at_103)) ?_
          show GG _ _ _ _ _ _ _ T28 (mkF m 104 #[.val (.int p0), .val (.int p1), .val (.int p2), .val (.int p3), .val (.int p4), .val (.long q5), .second, .val (.int x2), .unset, .unset, .unset, .unset] [(.int (3 : Int32)), (.ref ob25), (.ref ob25)])
          refine own_go (fun _ => XS.iload X28.here hx rfl (hb hby at_104) rfl) ?_
          show GG _ _ _ _ _ _ _ T28 (mkF m 106 #[.val (.int p0), .val (.int p1), .val (.int p2), .val (.int p3), .val (.int p4), .val (.long q5), .second, .val (.int x2), .unset, .unset, .unset, .unset] [(.int p4), (.int (3 : Int32)), (.ref ob25), (.ref ob25)])
          obtain ⟨T29, h29, X29, e29, W29, V29, st29⟩ := own_iastore X28 hx hZ e28 V_ob25 (by decide) (Nat.le_of_ble_eq_true rfl) (g := (mkF m 106 #[.val (.int p0), .val (.int p1), .val (.int p2), .val (.int p3), .val (.int p4), .val (.long q5), .second, .val (.int x2), .unset, .unset, .unset, .unset] [(.int p4), (.int (3 : Int32)), (.ref ob25), (.ref ob25)])) rfl rfl (hb hby at_106)
          have K0 := K0.wr W29 (Or.inr sz_ob25)
          have E_ob25 := E_ob25.wr W29
          have V_ob25 : Arx Z h29 ob25 .int [(.int p1), (.int p2), (.int p3), (.int p4)] := V29
          have N29 := Fr.snoc X29 N28 g_ob25
          refine own_go (fun _ => st29 _) ?_
          show GG _ _ _ _ _ _ _ T29 (mkF m 107 #[.val (.int p0), .val (.int p1), .val (.int p2), .val (.int p3), .val (.int p4), .val (.long q5), .second, .val (.int x2), .unset, .unset, .unset, .unset] [(.ref ob25)])
          refine own_go (fun _ => XS.astore X29.here hx rfl (hb hby at_107) rfl rfl (l' := #[.val (.int p0), .val (.int p1), .val (.int p2), .val (.int p3), .val (.int p4), .val (.long q5), .second, .val (.int x2), .val (.ref ob25), .unset, .unset, .unset]) rfl) ?_
          show GG _ _ _ _ _ _ _ T29 (mkF m 109 #[.val (.int p0), .val (.int p1), .val (.int p2), .val (.int p3), .val (.int p4), .val (.long q5), .second, .val (.int x2), .val (.ref ob25), .unset, .unset, .unset] [])
          refine own_go (fun _ => XS.lconst X29.here hx rfl (hb hby at_109)) ?_
          show GG _ _ _ _ _ _ _ T29 (mkF m 110 #[.val (.int p0), .val (.int p1), .val (.int p2), .val (.int p3), .val (.int p4), .val (.long q5), .second, .val (.int x2), .val (.ref ob25), .unset, .unset, .unset] [(.long (0 : Int64))])
          refine own_go (fun _ => XS.lstore X29.here hx rfl (hb hby at_110) rfl (l' := #[.val (.int p0), .val (.int p1), .val (.int p2), .val (.int p3), .val (.int p4), .val (.long q5), .second, .val (.int x2), .val (.ref ob25), .val (.long (0 : Int64)), .second, .unset]) rfl) ?_
          show GG _ _ _ _ _ _ _ T29 (mkF m 112 #[.val (.int p0), .val (.int p1), .val (.int p2), .val (.int p3), .val (.int p4), .val (.long q5), .second, .val (.int x2), .val (.ref ob25), .val (.long (0 : Int64)), .second, .unset] [])
          refine own_go (fun _ => XS.iload X29.here hx rfl (hb hby at_112) rfl) ?_
          show GG _ _ _ _ _ _ _ T29 (mkF m 114 #[.val (.int p0), .val (.int p1), .val (.int p2), .val (.int p3), .val (.int p4), .val (.long q5), .second, .val (.int x2), .val (.ref ob25), .val (.long (0 : Int64)), .second, .unset] [(.int x2)])
          refine own_go (fun _ => XS.iconst X29.here hx rfl (hb hby at_114)) ?_
          show GG _ _ _ _ _ _ _ T29 (mkF m 115 #[.val (.int p0), .val (.int p1), .val (.int p2), .val (.int p3), .val (.int p4), .val (.long q5), .second, .val (.int x2), .val (.ref ob25), .val (.long (0 : Int64)), .second, .unset] [(.int (1 : Int32)), (.int x2)])
          have hc115 : ¬ (x2 < (1 : Int32)) := (fun q => absurd (Int32.lt_iff_toInt_lt.mp q) ((by show ¬ (x2.toInt < 1); omega : ¬ (x2.toInt < 1))))
          refine own_go (fun _ => XS.icmpNo X29.here hx rfl (hb hby at_115) rfl (flt hc115).1) ?_
          show GG _ _ _ _ _ _ _ T29 (mkF m 118 #[.val (.int p0), .val (.int p1), .val (.int p2), .val (.int p3), .val (.int p4), .val (.long q5), .second, .val (.int x2), .val (.ref ob25), .val (.long (0 : Int64)), .second, .unset] [])
          refine own_go (fun _ => XS.lload X29.here hx rfl (hb hby at_118) rfl) ?_
          show GG _ _ _ _ _ _ _ T29 (mkF m 120 #[.val (.int p0), .val (.int p1), .val (.int p2), .val (.int p3), .val (.int p4), .val (.long q5), .second, .val (.int x2), .val (.ref ob25), .val (.long (0 : Int64)), .second, .unset] [(.long (0 : Int64))])
          refine own_go (fun _ => XS.iloadN X29.here hx rfl (hb hby at_120) rfl) ?_
          show GG _ _ _ _ _ _ _ T29 (mkF m 121 #[.val (.int p0), .val (.int p1), .val (.int p2), .val (.int p3), .val (.int p4), .val (.long q5), .second, .val (.int x2), .val (.ref ob25), .val (.long (0 : Int64)), .second, .unset] [(.int p1), (.long (0 : Int64))])
          refine own_go (fun _ => XS.i2l X29.here hx rfl (hb hby at_121) rfl) ?_
          show GG _ _ _ _ _ _ _ T29 (mkF m 122 #[.val (.int p0), .val (.int p1), .val (.int p2), .val (.int p3), .val (.int p4), .val (.long q5), .second, .val (.int x2), .val (.ref ob25), .val (.long (0 : Int64)), .second, .unset] [(.long (p1.toInt64)), (.long (0 : Int64))])
          refine own_go (fun _ => XS.ladd X29.here hx rfl (hb hby at_122) rfl) ?_
          show GG _ _ _ _ _ _ _ T29 (mkF m 123 #[.val (.int p0), .val (.int p1), .val (.int p2), .val (.int p3), .val (.int p4), .val (.long q5), .second, .val (.int x2), .val (.ref ob25), .val (.long (0 : Int64)), .second, .unset] [(.long ((0 : Int64) + (p1.toInt64)))])
          refine own_go (fun _ => XS.lstore X29.here hx rfl (hb hby at_123) rfl (l' := #[.val (.int p0), .val (.int p1), .val (.int p2), .val (.int p3), .val (.int p4), .val (.long q5), .second, .val (.int x2), .val (.ref ob25), .val (.long ((0 : Int64) + (p1.toInt64))), .second, .unset]) rfl) ?_
          show GG _ _ _ _ _ _ _ T29 (mkF m 125 #[.val (.int p0), .val (.int p1), .val (.int p2), .val (.int p3), .val (.int p4), .val (.long q5), .second, .val (.int x2), .val (.ref ob25), .val (.long ((0 : Int64) + (p1.toInt64))), .second, .unset] [])
          refine own_go (fun _ => XS.iload X29.here hx rfl (hb hby at_125) rfl) ?_
          show GG _ _ _ _ _ _ _ T29 (mkF m 127 #[.val (.int p0), .val (.int p1), .val (.int p2), .val (.int p3), .val (.int p4), .val (.long q5), .second, .val (.int x2), .val (.ref ob25), .val (.long ((0 : Int64) + (p1.toInt64))), .second, .unset] [(.int x2)])
          refine own_go (fun _ => XS.iconst X29.here hx rfl (hb hby at_127)) ?_
          show GG _ _ _ _ _ _ _ T29 (mkF m 128 #[.val (.int p0), .val (.int p1), .val (.int p2), .val (.int p3), .val (.int p4), .val (.long q5), .second, .val (.int x2), .val (.ref ob25), .val (.long ((0 : Int64) + (p1.toInt64))), .second, .unset] [(.int (2 : Int32)), (.int x2)])
          have hc128 : ¬ (x2 < (2 : Int32)) := (fun q => absurd (Int32.lt_iff_toInt_lt.mp q) ((by show ¬ (x2.toInt < 2); omega : ¬ (x2.toInt < 2))))
          refine own_go (fun _ => XS.icmpNo X29.here hx rfl (hb hby at_128) rfl (flt hc128).1) ?_
          show GG _ _ _ _ _ _ _ T29 (mkF m 131 #[.val (.int p0), .val (.int p1), .val (.int p2), .val (.int p3), .val (.int p4), .val (.long q5), .second, .val (.int x2), .val (.ref ob25), .val (.long ((0 : Int64) + (p1.toInt64))), .second, .unset] [])
          refine own_go (fun _ => XS.lload X29.here hx rfl (hb hby at_131) rfl) ?_
          show GG _ _ _ _ _ _ _ T29 (mkF m 133 #[.val (.int p0), .val (.int p1), .val (.int p2), .val (.int p3), .val (.int p4), .val (.long q5), .second, .val (.int x2), .val (.ref ob25), .val (.long ((0 : Int64) + (p1.toInt64))), .second, .unset] [(.long ((0 : Int64) + (p1.toInt64)))])
          refine own_go (fun _ => XS.iloadN X29.here hx rfl (hb hby at_133) rfl) ?_
          show GG _ _ _ _ _ _ _ T29 (mkF m 134 #[.val (.int p0), .val (.int p1), .val (.int p2), .val (.int p3), .val (.int p4), .val (.long q5), .second, .val (.int x2), .val (.ref ob25), .val (.long ((0 : Int64) + (p1.toInt64))), .second, .unset] [(.int p2), (.long ((0 : Int64) + (p1.toInt64)))])
          refine own_go (fun _ => XS.i2l X29.here hx rfl (hb hby at_134) rfl) ?_
          show GG _ _ _ _ _ _ _ T29 (mkF m 135 #[.val (.int p0), .val (.int p1), .val (.int p2), .val (.int p3), .val (.int p4), .val (.long q5), .second, .val (.int x2), .val (.ref ob25), .val (.long ((0 : Int64) + (p1.toInt64))), .second, .unset] [(.long (p2.toInt64)), (.long ((0 : Int64) + (p1.toInt64)))])
          refine own_go (fun _ => XS.ladd X29.here hx rfl (hb hby at_135) rfl) ?_
          show GG _ _ _ _ _ _ _ T29 (mkF m 136 #[.val (.int p0), .val (.int p1), .val (.int p2), .val (.int p3), .val (.int p4), .val (.long q5), .second, .val (.int x2), .val (.ref ob25), .val (.long ((0 : Int64) + (p1.toInt64))), .second, .unset] [(.long (((0 : Int64) + (p1.toInt64)) + (p2.toInt64)))])
          refine own_go (fun _ => XS.lstore X29.here hx rfl (hb hby at_136) rfl (l' := #[.val (.int p0), .val (.int p1), .val (.int p2), .val (.int p3), .val (.int p4), .val (.long q5), .second, .val (.int x2), .val (.ref ob25), .val (.long (((0 : Int64) + (p1.toInt64)) + (p2.toInt64))), .second, .unset]) rfl) ?_
          show GG _ _ _ _ _ _ _ T29 (mkF m 138 #[.val (.int p0), .val (.int p1), .val (.int p2), .val (.int p3), .val (.int p4), .val (.long q5), .second, .val (.int x2), .val (.ref ob25), .val (.long (((0 : Int64) + (p1.toInt64)) + (p2.toInt64))), .second, .unset] [])
          refine own_go (fun _ => XS.iload X29.here hx rfl (hb hby at_138) rfl) ?_
          show GG _ _ _ _ _ _ _ T29 (mkF m 140 #[.val (.int p0), .val (.int p1), .val (.int p2), .val (.int p3), .val (.int p4), .val (.long q5), .second, .val (.int x2), .val (.ref ob25), .val (.long (((0 : Int64) + (p1.toInt64)) + (p2.toInt64))), .second, .unset] [(.int x2)])
          refine own_go (fun _ => XS.iconst X29.here hx rfl (hb hby at_140)) ?_
          show GG _ _ _ _ _ _ _ T29 (mkF m 141 #[.val (.int p0), .val (.int p1), .val (.int p2), .val (.int p3), .val (.int p4), .val (.long q5), .second, .val (.int x2), .val (.ref ob25), .val (.long (((0 : Int64) + (p1.toInt64)) + (p2.toInt64))), .second, .unset] [(.int (3 : Int32)), (.int x2)])
          have hc141 : ¬ (x2 < (3 : Int32)) := (fun q => absurd (Int32.lt_iff_toInt_lt.mp q) ((by show ¬ (x2.toInt < 3); omega : ¬ (x2.toInt < 3))))
          refine own_go (fun _ => XS.icmpNo X29.here hx rfl (hb hby at_141) rfl (flt hc141).1) ?_
          show GG _ _ _ _ _ _ _ T29 (mkF m 144 #[.val (.int p0), .val (.int p1), .val (.int p2), .val (.int p3), .val (.int p4), .val (.long q5), .second, .val (.int x2), .val (.ref ob25), .val (.long (((0 : Int64) + (p1.toInt64)) + (p2.toInt64))), .second, .unset] [])
          refine own_go (fun _ => XS.lload X29.here hx rfl (hb hby at_144) rfl) ?_
          show GG _ _ _ _ _ _ _ T29 (mkF m 146 #[.val (.int p0), .val (.int p1), .val (.int p2), .val (.int p3), .val (.int p4), .val (.long q5), .second, .val (.int x2), .val (.ref ob25), .val (.long (((0 : Int64) + (p1.toInt64)) + (p2.toInt64))), .second, .unset] [(.long (((0 : Int64) + (p1.toInt64)) + (p2.toInt64)))])
          refine own_go (fun _ => XS.iloadN X29.here hx rfl (hb hby at_146) rfl) ?_
          show GG _ _ _ _ _ _ _ T29 (mkF m 147 #[.val (.int p0), .val (.int p1), .val (.int p2), .val (.int p3), .val (.int p4), .val (.long q5), .second, .val (.int x2), .val (.ref ob25), .val (.long (((0 : Int64) + (p1.toInt64)) + (p2.toInt64))), .second, .unset] [(.int p3), (.long (((0 : Int64) + (p1.toInt64)) + (p2.toInt64)))])
          refine own_go (fun _ => XS.i2l X29.here hx rfl (hb hby at_147) rfl) ?_
          show GG _ _ _ _ _ _ _ T29 (mkF m 148 #[.val (.int p0), .val (.int p1), .val (.int p2), .val (.int p3), .val (.int p4), .val (.long q5), .second, .val (.int x2), .val (.ref ob25), .val (.long (((0 : Int64) + (p1.toInt64)) + (p2.toInt64))), .second, .unset] [(.long (p3.toInt64)), (.long (((0 : Int64) + (p1.toInt64)) + (p2.toInt64)))])
          refine own_go (fun _ => XS.ladd X29.here hx rfl (hb hby at_148) rfl) ?_
          show GG _ _ _ _ _ _ _ T29 (mkF m 149 #[.val (.int p0), .val (.int p1), .val (.int p2), .val (.int p3), .val (.int p4), .val (.long q5), .second, .val (.int x2), .val (.ref ob25), .val (.long (((0 : Int64) + (p1.toInt64)) + (p2.toInt64))), .second, .unset] [(.long ((((0 : Int64) + (p1.toInt64)) + (p2.toInt64)) + (p3.toInt64)))])
          refine own_go (fun _ => XS.lstore X29.here hx rfl (hb hby at_149) rfl (l' := #[.val (.int p0), .val (.int p1), .val (.int p2), .val (.int p3), .val (.int p4), .val (.long q5), .second, .val (.int x2), .val (.ref ob25), .val (.long ((((0 : Int64) + (p1.toInt64)) + (p2.toInt64)) + (p3.toInt64))), .second, .unset]) rfl) ?_
          show GG _ _ _ _ _ _ _ T29 (mkF m 151 #[.val (.int p0), .val (.int p1), .val (.int p2), .val (.int p3), .val (.int p4), .val (.long q5), .second, .val (.int x2), .val (.ref ob25), .val (.long ((((0 : Int64) + (p1.toInt64)) + (p2.toInt64)) + (p3.toInt64))), .second, .unset] [])
          refine own_go (fun _ => XS.iload X29.here hx rfl (hb hby at_151) rfl) ?_
          show GG _ _ _ _ _ _ _ T29 (mkF m 153 #[.val (.int p0), .val (.int p1), .val (.int p2), .val (.int p3), .val (.int p4), .val (.long q5), .second, .val (.int x2), .val (.ref ob25), .val (.long ((((0 : Int64) + (p1.toInt64)) + (p2.toInt64)) + (p3.toInt64))), .second, .unset] [(.int x2)])
          refine own_go (fun _ => XS.iconst X29.here hx rfl (hb hby at_153)) ?_
          show GG _ _ _ _ _ _ _ T29 (mkF m 154 #[.val (.int p0), .val (.int p1), .val (.int p2), .val (.int p3), .val (.int p4), .val (.long q5), .second, .val (.int x2), .val (.ref ob25), .val (.long ((((0 : Int64) + (p1.toInt64)) + (p2.toInt64)) + (p3.toInt64))), .second, .unset] [(.int (4 : Int32)), (.int x2)])
          have hc154 : ¬ (x2 < (4 : Int32)) := (fun q => absurd (Int32.lt_iff_toInt_lt.mp q) ((by show ¬ (x2.toInt < 4); omega : ¬ (x2.toInt < 4))))
          refine own_go (fun _ => XS.icmpNo X29.here hx rfl (hb hby at_154) rfl (flt hc154).1) ?_
          show GG _ _ _ _ _ _ _ T29 (mkF m 157 #[.val (.int p0), .val (.int p1), .val (.int p2), .val (.int p3), .val (.int p4), .val (.long q5), .second, .val (.int x2), .val (.ref ob25), .val (.long ((((0 : Int64) + (p1.toInt64)) + (p2.toInt64)) + (p3.toInt64))), .second, .unset] [])
          refine own_go (fun _ => XS.lload X29.here hx rfl (hb hby at_157) rfl) ?_
          show GG _ _ _ _ _ _ _ T29 (mkF m 159 #[.val (.int p0), .val (.int p1), .val (.int p2), .val (.int p3), .val (.int p4), .val (.long q5), .second, .val (.int x2), .val (.ref ob25), .val (.long ((((0 : Int64) + (p1.toInt64)) + (p2.toInt64)) + (p3.toInt64))), .second, .unset] [(.long ((((0 : Int64) + (p1.toInt64)) + (p2.toInt64)) + (p3.toInt64)))])
          refine own_go (fun _ => XS.iload X29.here hx rfl (hb hby at_159) rfl) ?_
          show GG _ _ _ _ _ _ _ T29 (mkF m 161 #[.val (.int p0), .val (.int p1), .val (.int p2), .val (.int p3), .val (.int p4), .val (.long q5), .second, .val (.int x2), .val (.ref ob25), .val (.long ((((0 : Int64) + (p1.toInt64)) + (p2.toInt64)) + (p3.toInt64))), .second, .unset] [(.int p4), (.long ((((0 : Int64) + (p1.toInt64)) + (p2.toInt64)) + (p3.toInt64)))])
          refine own_go (fun _ => XS.i2l X29.here hx rfl (hb hby at_161) rfl) ?_
          show GG _ _ _ _ _ _ _ T29 (mkF m 162 #[.val (.int p0), .val (.int p1), .val (.int p2), .val (.int p3), .val (.int p4), .val (.long q5), .second, .val (.int x2), .val (.ref ob25), .val (.long ((((0 : Int64) + (p1.toInt64)) + (p2.toInt64)) + (p3.toInt64))), .second, .unset] [(.long (p4.toInt64)), (.long ((((0 : Int64) + (p1.toInt64)) + (p2.toInt64)) + (p3.toInt64)))])
          refine own_go (fun _ => XS.ladd X29.here hx rfl (hb hby at_162) rfl) ?_
          show GG _ _ _ _ _ _ _ T29 (mkF m 163 #[.val (.int p0), .val (.int p1), .val (.int p2), .val (.int p3), .val (.int p4), .val (.long q5), .second, .val (.int x2), .val (.ref ob25), .val (.long ((((0 : Int64) + (p1.toInt64)) + (p2.toInt64)) + (p3.toInt64))), .second, .unset] [(.long (((((0 : Int64) + (p1.toInt64)) + (p2.toInt64)) + (p3.toInt64)) + (p4.toInt64)))])
          refine own_go (fun _ => XS.lstore X29.here hx rfl (hb hby at_163) rfl (l' := #[.val (.int p0), .val (.int p1), .val (.int p2), .val (.int p3), .val (.int p4), .val (.long q5), .second, .val (.int x2), .val (.ref ob25), .val (.long (((((0 : Int64) + (p1.toInt64)) + (p2.toInt64)) + (p3.toInt64)) + (p4.toInt64))), .second, .unset]) rfl) ?_
          show GG _ _ _ _ _ _ _ T29 (mkF m 165 #[.val (.int p0), .val (.int p1), .val (.int p2), .val (.int p3), .val (.int p4), .val (.long q5), .second, .val (.int x2), .val (.ref ob25), .val (.long (((((0 : Int64) + (p1.toInt64)) + (p2.toInt64)) + (p3.toInt64)) + (p4.toInt64))), .second, .unset] [])
          obtain ⟨T30, h30, X30, e30, E30, A30, D30, -, st30⟩ := newO X29 hx hZ hown (hw _ (List.mem_of_getElem? (i := 2) rfl)) (hw _ (List.mem_of_getElem? (i := 3) rfl)) (hw _ (List.mem_of_getElem? (i := 4) rfl)) e29 (g := (mkF m 165 #[.val (.int p0), .val (.int p1), .val (.int p2), .val (.int p3), .val (.int p4), .val (.long q5), .second, .val (.int x2), .val (.ref ob25), .val (.long (((((0 : Int64) + (p1.toInt64)) + (p2.toInt64)) + (p3.toInt64)) + (p4.toInt64))), .second, .unset] [])) rfl (hb hby at_165) (by decide) (by decide)
          obtain ⟨ob30, g30⟩ : ∃ z, z = h29.size := ⟨_, rfl⟩
          rw [← g30] at A30 D30 st30
          have ne_ob25_ob30 : ob25 ≠ ob30 := Nat.ne_of_lt (Nat.lt_of_lt_of_le V_ob25.lt (Nat.le_of_eq g30.symm))
          have sz_ob30 : h0.size ≤ ob30 := Nat.le_trans K0.1 (Nat.le_of_eq g30.symm)
          have g_ob30 : n0 ≤ ob30 := Nat.le_trans Z0 sz_ob30
          have K0 := K0.ext E30
          have V_ob25 := V_ob25.ext E30
          have E_ob25 := E_ob25.ext E30
          have E_ob30 := A30
          have F_shardDocuments_ob30 : Fld Z h30 ob30 "com/example/deft_shards/deftshards/index/IndexSummary" "shardDocuments" "[I" .null := D30 (Or.inr (hw _ (List.mem_of_getElem? (i := 21) rfl))) (ty := (.array .int)) (by decide)
          have F_skipped_ob30 : Fld Z h30 ob30 "com/example/deft_shards/deftshards/index/IndexSummary" "skipped" "J" (.long (0 : Int64)) := D30 (Or.inr (hw _ (List.mem_of_getElem? (i := 23) rfl))) (ty := .long) (by decide)
          refine own_go (fun _ => st30 _) ?_
          show GG _ _ _ _ _ _ _ T30 (mkF m 168 #[.val (.int p0), .val (.int p1), .val (.int p2), .val (.int p3), .val (.int p4), .val (.long q5), .second, .val (.int x2), .val (.ref ob25), .val (.long (((((0 : Int64) + (p1.toInt64)) + (p2.toInt64)) + (p3.toInt64)) + (p4.toInt64))), .second, .unset] [(.ref ob30)])
          refine own_go (fun _ => XS.dup X30.here hx rfl (hb hby at_168) rfl rfl) ?_
          show GG _ _ _ _ _ _ _ T30 (mkF m 169 #[.val (.int p0), .val (.int p1), .val (.int p2), .val (.int p3), .val (.int p4), .val (.long q5), .second, .val (.int x2), .val (.ref ob25), .val (.long (((((0 : Int64) + (p1.toInt64)) + (p2.toInt64)) + (p3.toInt64)) + (p4.toInt64))), .second, .unset] [(.ref ob30), (.ref ob30)])
          refine own_go (fun _ => XS.aload X30.here hx rfl (hb hby at_169) rfl rfl) ?_
          show GG _ _ _ _ _ _ _ T30 (mkF m 171 #[.val (.int p0), .val (.int p1), .val (.int p2), .val (.int p3), .val (.int p4), .val (.long q5), .second, .val (.int x2), .val (.ref ob25), .val (.long (((((0 : Int64) + (p1.toInt64)) + (p2.toInt64)) + (p3.toInt64)) + (p4.toInt64))), .second, .unset] [(.ref ob25), (.ref ob30), (.ref ob30)])
          refine own_go (fun _ => XS.lload X30.here hx rfl (hb hby at_171) rfl) ?_
          show GG _ _ _ _ _ _ _ T30 (mkF m 173 #[.val (.int p0), .val (.int p1), .val (.int p2), .val (.int p3), .val (.int p4), .val (.long q5), .second, .val (.int x2), .val (.ref ob25), .val (.long (((((0 : Int64) + (p1.toInt64)) + (p2.toInt64)) + (p3.toInt64)) + (p4.toInt64))), .second, .unset] [(.long q5), (.ref ob25), (.ref ob30), (.ref ob30)])
          refine own_callI X30 hx hZ (y := (⟨"com/example/deft_shards/deftshards/index/IndexSummary", "<init>", "([IJ)V"⟩ : MethodName)) 1 rfl hown (hw _ (List.mem_of_getElem? (i := 5) rfl)) (hw _ (List.mem_of_getElem? (i := 6) rfl)) (hw _ (List.mem_of_getElem? (i := 4) rfl)) (hw _ (List.mem_of_getElem? (i := 7) rfl)) (by decide) (a := ob30) (argsL := [(.ref ob25), (.long q5)]) (rest := [(.ref ob30)]) (rm1 l Z a0 hw [] ob30 ob25 q5 [(.int p1), (.int p2), (.int p3), (.int p4)] h30 n0 (Nat.le_trans Z0 K0.1) E_ob30 F_shardDocuments_ob30 F_skipped_ob30 V_ob25 E_ob25 g_ob30 (Nat.le_of_ble_eq_true rfl)) (by decide) (by decide) (by decide) (by decide) (g := (mkF m 173 #[.val (.int p0), .val (.int p1), .val (.int p2), .val (.int p3), .val (.int p4), .val (.long q5), .second, .val (.int x2), .val (.ref ob25), .val (.long (((((0 : Int64) + (p1.toInt64)) + (p2.toInt64)) + (p3.toInt64)) + (p4.toInt64))), .second, .unset] [(.long q5), (.ref ob25), (.ref ob30), (.ref ob30)])) rfl (by rw [hml]; rfl) (lenOf pd___IJ_V_405 rfl) rfl (by show 2 * 0 + _ ≤ _; exact Nat.le_of_eq rfl) (hb hby at_173) e30 ?_
          rintro v31 T31 L31 X31 ⟨rfl, N31q, Kq31, Eq31, bq31, gq31, Fq31, Vq31⟩
          have N31 := Fr.app N29 N31q
          have K0 := K0.trans Kq31 (allS (Or.inr sz_ob30) all0)
          have V_ob25 := V_ob25.keep Kq31 (ninS ne_ob25_ob30 nin0)
          have E_ob25 := E_ob25.keep Kq31
          show GG _ _ _ _ _ _ _ T31 (mkF m 176 #[.val (.int p0), .val (.int p1), .val (.int p2), .val (.int p3), .val (.int p4), .val (.long q5), .second, .val (.int x2), .val (.ref ob25), .val (.long (((((0 : Int64) + (p1.toInt64)) + (p2.toInt64)) + (p3.toInt64)) + (p4.toInt64))), .second, .unset] [(.ref ob30)])
          refine own_go (fun _ => XS.astore X31.here hx rfl (hb hby at_176) rfl rfl (l' := #[.val (.int p0), .val (.int p1), .val (.int p2), .val (.int p3), .val (.int p4), .val (.long q5), .second, .val (.int x2), .val (.ref ob25), .val (.long (((((0 : Int64) + (p1.toInt64)) + (p2.toInt64)) + (p3.toInt64)) + (p4.toInt64))), .second, .val (.ref ob30)]) rfl) ?_
          show GG _ _ _ _ _ _ _ T31 (mkF m 178 #[.val (.int p0), .val (.int p1), .val (.int p2), .val (.int p3), .val (.int p4), .val (.long q5), .second, .val (.int x2), .val (.ref ob25), .val (.long (((((0 : Int64) + (p1.toInt64)) + (p2.toInt64)) + (p3.toInt64)) + (p4.toInt64))), .second, .val (.ref ob30)] [])
          refine own_go (fun _ => XS.aload X31.here hx rfl (hb hby at_178) rfl rfl) ?_
          show GG _ _ _ _ _ _ _ T31 (mkF m 180 #[.val (.int p0), .val (.int p1), .val (.int p2), .val (.int p3), .val (.int p4), .val (.long q5), .second, .val (.int x2), .val (.ref ob25), .val (.long (((((0 : Int64) + (p1.toInt64)) + (p2.toInt64)) + (p3.toInt64)) + (p4.toInt64))), .second, .val (.ref ob30)] [(.ref ob30)])
          refine own_callV X31 hx hZ (y := (⟨"com/example/deft_shards/deftshards/index/IndexSummary", "documents", "()J"⟩ : MethodName)) (z := (⟨"com/example/deft_shards/deftshards/index/IndexSummary", "documents", "()J"⟩ : MethodName)) 0 hown (hw _ (List.mem_of_getElem? (i := 24) rfl)) (hw _ (List.mem_of_getElem? (i := 25) rfl)) (notFace_of_selects (args := #[]) (mvT hZ (hw _ (List.mem_of_getElem? (i := 27) rfl)))) (hw _ (List.mem_of_getElem? (i := 27) rfl)) (hw _ (List.mem_of_getElem? (i := 26) rfl)) (hw _ (List.mem_of_getElem? (i := 4) rfl)) (hw _ (List.mem_of_getElem? (i := 28) rfl)) (by decide) (a := ob30) (argsL := []) (rest := []) (rm3 l Z a0 hw [] ob30 bq31 [p1, p2, p3, p4] T31.heap n0 (Nat.le_trans Z0 K0.1) Fq31 Vq31) (by decide) (by decide) (by decide) (by decide) Eq31 (g := (mkF m 180 #[.val (.int p0), .val (.int p1), .val (.int p2), .val (.int p3), .val (.int p4), .val (.long q5), .second, .val (.int x2), .val (.ref ob25), .val (.long (((((0 : Int64) + (p1.toInt64)) + (p2.toInt64)) + (p3.toInt64)) + (p4.toInt64))), .second, .val (.ref ob30)] [(.ref ob30)])) rfl (by rw [hml]; rfl) (lenOf pd___J_155 rfl) rfl (by show 2 * 0 + _ ≤ _; exact Nat.le_of_eq rfl) (hb hby at_180) rfl ?_
          rintro v32 T32 L32 X32 ⟨rfl, N32q, hh32⟩
          have N32 := Fr.app N31 N32q
          show GG _ _ _ _ _ _ _ T32 (mkF m 183 #[.val (.int p0), .val (.int p1), .val (.int p2), .val (.int p3), .val (.int p4), .val (.long q5), .second, .val (.int x2), .val (.ref ob25), .val (.long (((((0 : Int64) + (p1.toInt64)) + (p2.toInt64)) + (p3.toInt64)) + (p4.toInt64))), .second, .val (.ref ob30)] [(.long (sumL [p1, p2, p3, p4]))])
          refine own_go (fun _ => XS.lload X32.here hx rfl (hb hby at_183) rfl) ?_
          show GG _ _ _ _ _ _ _ T32 (mkF m 185 #[.val (.int p0), .val (.int p1), .val (.int p2), .val (.int p3), .val (.int p4), .val (.long q5), .second, .val (.int x2), .val (.ref ob25), .val (.long (((((0 : Int64) + (p1.toInt64)) + (p2.toInt64)) + (p3.toInt64)) + (p4.toInt64))), .second, .val (.ref ob30)] [(.long (((((0 : Int64) + (p1.toInt64)) + (p2.toInt64)) + (p3.toInt64)) + (p4.toInt64))), (.long (sumL [p1, p2, p3, p4]))])
          refine own_go (fun _ => XS.lcmp X32.here hx rfl (hb hby at_185) rfl) ?_
          show GG _ _ _ _ _ _ _ T32 (mkF m 186 #[.val (.int p0), .val (.int p1), .val (.int p2), .val (.int p3), .val (.int p4), .val (.long q5), .second, .val (.int x2), .val (.ref ob25), .val (.long (((((0 : Int64) + (p1.toInt64)) + (p2.toInt64)) + (p3.toInt64)) + (p4.toInt64))), .second, .val (.ref ob30)] [(.int (lcmpW (sumL [p1, p2, p3, p4]) (((((0 : Int64) + (p1.toInt64)) + (p2.toInt64)) + (p3.toInt64)) + (p4.toInt64))))])
          have hc186 : (sumL [p1, p2, p3, p4]) = (((((0 : Int64) + (p1.toInt64)) + (p2.toInt64)) + (p3.toInt64)) + (p4.toInt64)) := rfl
          refine own_go (fun _ => XS.ifNo X32.here hx rfl (hb hby at_186) rfl ((if0 _ _).trans (teq ((lw_eq _ _).mpr hc186)).2)) ?_
          show GG _ _ _ _ _ _ _ T32 (mkF m 189 #[.val (.int p0), .val (.int p1), .val (.int p2), .val (.int p3), .val (.int p4), .val (.long q5), .second, .val (.int x2), .val (.ref ob25), .val (.long (((((0 : Int64) + (p1.toInt64)) + (p2.toInt64)) + (p3.toInt64)) + (p4.toInt64))), .second, .val (.ref ob30)] [])
          refine own_go (fun _ => XS.iconst X32.here hx rfl (hb hby at_189)) ?_
          show GG _ _ _ _ _ _ _ T32 (mkF m 190 #[.val (.int p0), .val (.int p1), .val (.int p2), .val (.int p3), .val (.int p4), .val (.long q5), .second, .val (.int x2), .val (.ref ob25), .val (.long (((((0 : Int64) + (p1.toInt64)) + (p2.toInt64)) + (p3.toInt64)) + (p4.toInt64))), .second, .val (.ref ob30)] [(.int (1 : Int32))])
          refine own_go (fun _ => XS.goto X32.here hx rfl (pc0 := 190) (pc' := 194) rfl (hb hby at_190) (by decide) (by decide)) ?_
          show GG _ _ _ _ _ _ _ T32 (mkF m 194 #[.val (.int p0), .val (.int p1), .val (.int p2), .val (.int p3), .val (.int p4), .val (.long q5), .second, .val (.int x2), .val (.ref ob25), .val (.long (((((0 : Int64) + (p1.toInt64)) + (p2.toInt64)) + (p3.toInt64)) + (p4.toInt64))), .second, .val (.ref ob30)] [(.int (1 : Int32))])
          refine own_ret X32 hx hlk (t := .boolean) (w := (.int (1 : Int32))) Bd.returns rfl (Or.inl ⟨rfl, by simp, _, rfl⟩) (hb hby at_194) (by decide) (by decide) ?_
          show Q0 Z p0 p1 p2 p3 p4 q5 h0 n0 (some (.int (1 : Int32))) T32.heap _
          rw [hh32]
          exact ⟨rfl, N32⟩
set_option maxRecDepth 65536 in
set_option maxHeartbeats 40000000 in
theorem comes_1 {Post : Tables → Env → Array Value → State → Outcome → State → Prop} (hpost : ∀ tb e args s v u, (limb_1_1.after args s (.returned v) u = true ∧ limb_1_2.after args s (.returned v) u = true ∧ True) → FrameEnd s (.returned v) u (Jvm.fieldLocs frame_1_writes args s ++ Jvm.arrayLocs frame_1_arrays args s ++ Jvm.staticLocs frame_1_statics s) 16 128 → Post tb e args s (.returned v) u) :
    ArmFor flags0 classFile x code maxLocals ret World_1 tables_1 room_1 Calls_1 rest_1 Pre_1 Post := by
  intro l hfl _ _ p e ha hc hk s m args below hf hA hF happ hP
  obtain ⟨hcalls, hrest, hpre⟩ := hP
  obtain ⟨-, -, -, hnamed, -, -, -, hat⟩ := (Spec.applies_iff hf).mp happ
  obtain ⟨hg, hn⟩ := and_e (Cond.before_iff.mp (show (Jvm.Cond.and given_1 narrow_1).before args s = true from hpre))
  obtain ⟨g1, g2⟩ := and_e hg
  obtain ⟨g3, g4⟩ := and_e g2
  obtain ⟨g5, g6⟩ := and_e g4
  obtain ⟨g7, g8⟩ := and_e g6
  obtain ⟨g9, g10⟩ := and_e g8
  obtain ⟨g11, g12⟩ := and_e g10
  obtain ⟨w0, w1, w2, w3, w4, w5, rfl⟩ : ∃ w0 w1 w2 w3 w4 w5 : Value, args = #[w0, w1, w2, w3, w4, w5] := by
    have hs : args.size = 6 := by simpa [Cond.value, given_1] using g1
    obtain ⟨L⟩ := args
    match L, hs with
    | [w0, w1, w2, w3, w4, w5], _ => exact ⟨w0, w1, w2, w3, w4, w5, rfl⟩
  have hw := fun d (hd : d ∈ tables_1) => atoms_spec (ws := Jvm.Cond.code x code maxLocals ret :: tables_1) hat d (List.mem_cons_of_mem _ hd)
  have hfit : Fit s := fun {y c} hc i hi => by
    obtain ⟨ha, rfl⟩ := Array.getElem?_eq_some_iff.mp hc
    have q := List.all_eq_true.mp ((Array.all_eq_true_iff_forall_mem.mp hF) _ (Array.getElem_mem ha)) i (List.mem_range.mpr hi)
    simpa [Array.getElem?_eq_getElem hi] using q
  obtain ⟨i0, ei0⟩ := is_v g3
  obtain rfl : w0 = (.int i0) := Option.some.inj ei0
  obtain ⟨i1, ei1⟩ := is_v g5
  obtain rfl : w1 = (.int i1) := Option.some.inj ei1
  obtain ⟨i2, ei2⟩ := is_v g7
  obtain rfl : w2 = (.int i2) := Option.some.inj ei2
  obtain ⟨i3, ei3⟩ := is_v g9
  obtain rfl : w3 = (.int i3) := Option.some.inj ei3
  obtain ⟨i4, ei4⟩ := is_v g11
  obtain rfl : w4 = (.int i4) := Option.some.inj ei4
  obtain ⟨i5, ei5⟩ := isL_v g12
  obtain rfl : w5 = (.long i5) := Option.some.inj ei5
  obtain ⟨n, o, h1, h2, h3, _, L, rfl, ⟨rfl, N⟩, hq⟩ := rm0 l s _ hw tables_1 i0 i1 i2 i3 i4 i5 s.heap s.heap.size (Nat.le_refl _)  p e ha hc hk s m _ below hf ((Spec.applies_iff_loose hf).mp happ).1 ⟨rfl, State.Warmed39.refl s, rfl⟩ trivial
  refine ⟨n, _, h1, h2, h3, hpost _ _ _ _ _ _ ⟨Cond.after_iff.mpr rfl, Cond.after_iff.mpr (eq_i res_at (Term.int_eval (1)) rfl), trivial⟩ ⟨hq.1, hq.2.1, (hq.2.2.sift fun y hy => Or.inr (N y hy)).mono (by decide) (by decide)⟩⟩
theorem main_1_1 : Claimed_1_1 := comes_1 fun _ _ _ _ _ _ h hF => ⟨h.1, hF⟩
theorem main_1_2 : Claimed_1_2 := comes_1 fun _ _ _ _ _ _ h hF => ⟨h.2.1, hF⟩
end Jvm.Pilot.@@N@@
namespace Jvm.Pilot.@@N@@
open Jvm Jvm.ClassFile Sem Op Lib Jvm.Free Jvm.Stand Jvm.Pilot.@@N@@.Jvm.D
/-! MADE BY PROGRAM (witnessworld.py) out of the Statement's table words and the real class files: 9 classes; the members and pool entries that the words name. The judged class is class 1, her method 1. -/
namespace start1
open Jvm.ClassFile
def u (s : String) : CpInfo := .utf8 (stringToUtf16 s)
/-- a pool by its gaps: so many unusable entries, then the entry; so many at the end -/
def gap : Nat → List CpInfo → List CpInfo
  | 0, r => r
  | n + 1, r => .unusable :: gap n r
def poolList (es : List (Nat × CpInfo)) (last : Nat) : List CpInfo := es.foldr (fun e r => gap e.1 (e.2 :: r)) (gap last [])
def pool (es : List (Nat × CpInfo)) (last : Nat) : Array CpInfo := ⟨poolList es last⟩
def fileOf (pool : Array CpInfo) (this : Nat) (attrs : Array Attribute := #[]) (ms : Array MethodInfo := #[]) (fl : Nat := 33) (sup : Nat := 0) (ifs : Array Nat := #[]) (fds : Array FieldInfo := #[]) : ClassFile where
  minorVersion := 0
  majorVersion := 65
  constantPool := pool
  accessFlags := fl
  thisClass := this
  superClass := sup
  interfaces := ifs
  fields := fds
  methods := ms
  attributes := attrs
def plain (name : String) (sup : Option ClassId) : Class where
  name := name
  kind := .ordinary
  loader := none
  accessFlags := 33
  super := sup
  interfaces := #[]
  cf := none
  fields := #[]
  methods := #[]
  instanceTypes := #[]
  staticTypes := #[]
  resolved := #[]
  callSites := []
  init := .initialized
  statics := none
  mirror := none

def pool0 : Array CpInfo := pool [(5, u "<init>"), (0, u "()V"), (1, .class_ 10), (1, u "java/lang/Object"), (85, u "clone"), (0, u "()Ljava/lang/Object;")] 26

def k0c0 : Code := { maxStack := 0, maxLocals := 1, code := object_method_1_code, exceptionTable := #[], attributes := #[] }
def k0m0 : Method := { name := "<init>", desc := "()V", sig := { parameters := [], returnType := none }, accessFlags := 1, code := some k0c0 }
def k0m1 : Method := { name := "clone", desc := "()Ljava/lang/Object;", sig := { parameters := [], returnType := some (.object "java/lang/Object") }, accessFlags := 260, code := none }
/-- java/lang/Object -/
def k0 : Class := { plain "java/lang/Object" none with
  accessFlags := 33
  interfaces := #[]
  cf := some (fileOf pool0 8 #[] #[{ accessFlags := 1, nameIndex := 5, descriptorIndex := 6, attributes := #[] }, { accessFlags := 260, nameIndex := 96, descriptorIndex := 97, attributes := #[] }] 33 0 #[] #[])
  fields := #[]
  methods := #[k0m0, k0m1]
  instanceTypes := #[]
  staticTypes := #[]
  resolved := Array.replicate 124 none
  statics := none }

def pool1 : Array CpInfo := pool [(2, .class_ 4), (1, u "java/lang/Object"), (0, u "<init>"), (0, u "()V"), (0, .integer 2147483647), (0, .class_ 9), (0, u "com/example/deft_shards/deftshards/index/IndexSummary"), (0, .methodref 8 11), (0, .nameAndType 5 12), (0, u "([IJ)V"), (0, .methodref 8 14), (0, .nameAndType 15 16), (0, u "documents"), (0, u "()J"), (0, .class_ 18), (0, u "com/example/deft_shards/deftshards/index/IndexSummaryDocumentsPinLaw"), (2, u "law"), (0, u "(IIIIIJ)Z")] 5

def k1m0 : Method := { name := "<init>", desc := "()V", sig := { parameters := [], returnType := none }, accessFlags := 1, code := none }
def k1c1 : Code := { maxStack := 5, maxLocals := 12, code := code, exceptionTable := #[], attributes := #[] }
def k1m1 : Method := { name := "law", desc := "(IIIIIJ)Z", sig := { parameters := [.int, .int, .int, .int, .int, .long], returnType := some .boolean }, accessFlags := 9, code := some k1c1 }
/-- com/example/deft_shards/deftshards/index/IndexSummaryDocumentsPinLaw -/
def k1 : Class := { plain "com/example/deft_shards/deftshards/index/IndexSummaryDocumentsPinLaw" (some 0) with
  accessFlags := 49
  interfaces := #[]
  cf := some (fileOf pool1 17 #[] #[{ accessFlags := 1, nameIndex := 5, descriptorIndex := 6, attributes := #[] }, { accessFlags := 9, nameIndex := 21, descriptorIndex := 22, attributes := #[] }] 49 2 #[] #[])
  fields := #[]
  methods := #[k1m0, k1m1]
  instanceTypes := #[]
  staticTypes := #[]
  resolved := Array.replicate 28 none
  statics := none }

def pool2 : Array CpInfo := pool [(1, .methodref 2 3), (0, .class_ 4), (0, .nameAndType 5 6), (0, u "java/lang/Object"), (0, u "<init>"), (0, u "()V"), (0, .methodref 8 9), (0, .class_ 10), (0, .nameAndType 11 12), (0, u "[I"), (0, u "clone"), (0, u "()Ljava/lang/Object;"), (0, .fieldref 14 15), (0, .class_ 16), (0, .nameAndType 17 10), (0, u "com/example/deft_shards/deftshards/index/IndexSummary"), (0, u "shardDocuments"), (0, .fieldref 14 19), (0, .nameAndType 20 21), (0, u "skipped"), (0, u "J"), (0, u "([IJ)V"), (4, u "documents"), (1, u "()J")] 3

def k2c0 : Code := { maxStack := 3, maxLocals := 4, code := prog_16_method_1_code, exceptionTable := #[], attributes := #[] }
def k2m0 : Method := { name := "<init>", desc := "([IJ)V", sig := { parameters := [(.array .int), .long], returnType := none }, accessFlags := 0, code := some k2c0 }
def k2c1 : Code := { maxStack := 4, maxLocals := 7, code := prog_16_method_4_code, exceptionTable := #[], attributes := #[] }
def k2m1 : Method := { name := "documents", desc := "()J", sig := { parameters := [], returnType := some .long }, accessFlags := 1, code := some k2c1 }
/-- com/example/deft_shards/deftshards/index/IndexSummary -/
def k2 : Class := { plain "com/example/deft_shards/deftshards/index/IndexSummary" (some 0) with
  accessFlags := 49
  interfaces := #[]
  cf := some (fileOf pool2 14 #[] #[{ accessFlags := 0, nameIndex := 5, descriptorIndex := 22, attributes := #[] }, { accessFlags := 1, nameIndex := 27, descriptorIndex := 29, attributes := #[] }] 49 2 #[] #[{ accessFlags := 18, nameIndex := 17, descriptorIndex := 10, attributes := #[] }, { accessFlags := 18, nameIndex := 20, descriptorIndex := 21, attributes := #[] }])
  fields := #[{ name := "shardDocuments", type := (.array .int), accessFlags := 18, slot := 0, constantValue := 0 }, { name := "skipped", type := .long, accessFlags := 18, slot := 1, constantValue := 0 }]
  methods := #[k2m0, k2m1]
  instanceTypes := #[(.array .int), .long]
  staticTypes := #[]
  resolved := Array.replicate 33 none
  statics := none }

def pool3 : Array CpInfo := pool [(1, .class_ 2), (0, u "java/lang/Cloneable"), (0, .class_ 4), (0, u "java/lang/Object")] 2

/-- java/lang/Cloneable -/
def k3 : Class := { plain "java/lang/Cloneable" (some 0) with
  accessFlags := 1537
  interfaces := #[]
  cf := some (fileOf pool3 1 #[] #[] 1537 3 #[] #[])
  fields := #[]
  methods := #[]
  instanceTypes := #[]
  staticTypes := #[]
  resolved := Array.replicate 7 none
  statics := none }

def pool4 : Array CpInfo := pool [(1, u "java/io/Serializable"), (0, .class_ 1), (0, u "java/lang/Object"), (0, .class_ 3)] 3

/-- java/io/Serializable -/
def k4 : Class := { plain "java/io/Serializable" (some 0) with
  accessFlags := 1537
  interfaces := #[]
  cf := some (fileOf pool4 2 #[] #[] 1537 4 #[] #[])
  fields := #[]
  methods := #[]
  instanceTypes := #[]
  staticTypes := #[]
  resolved := Array.replicate 8 none
  statics := none }

/-- the primitive byte -/
def k5 : Class := { plain "byte" none with kind := .primitive 'B', accessFlags := 0x411 }
/-- [B -/
def k6 : Class := { plain "[B" (some 0) with kind := .array 5 .byte, interfaces := #[3, 4], accessFlags := 1041 }

/-- the primitive int -/
def k7 : Class := { plain "int" none with kind := .primitive 'I', accessFlags := 0x411 }
/-- [I -/
def k8 : Class := { plain "[I" (some 0) with kind := .array 7 .int, interfaces := #[3, 4], accessFlags := 1041 }

def heap : Heap := #[]
def classes : Array Class := #[k0, k1, k2, k3, k4, k5, k6, k7, k8]
def interned : List (Array UInt16 × Addr) := []
def slotsUsed : Nat := 0
def theMethod : MethodId := ⟨1, 1⟩
def args0 : Array Value := #[.int 3, .int 7, .int 8, .int 9, .int 10, .long 2]
def aboutOver (below : List Frame) : State where
  vm := { classes := classes, interned := interned.toArray }
  heap := heap
  slotsUsed := slotsUsed
  threads := #[{ frames := .invoking theMethod args0 :: below }]
def below0 : List Frame := [.native { method := ⟨0, 0⟩, args := #[] }]
def about1 : State := aboutOver below0
def p0 : Program := .bare "" "" ""
def e0 : Env := launch0.env 0 0 0
theorem w_frames : about1.frames = Frame.invoking theMethod args0 :: below0 := rfl
set_option maxRecDepth 65536 in
theorem w_args : argsFit about1.vm theMethod args0 = true := by decide +kernel
set_option maxRecDepth 65536 in
theorem w_heap : heapFits about1 = true := by decide +kernel
set_option maxRecDepth 65536 in
theorem w_runnable : about1.curStatus? = some .runnable := by decide +kernel
set_option maxRecDepth 65536 in
theorem w_alone : about1.alone = true := by decide +kernel
set_option maxRecDepth 65536 in
theorem w_named : about1.methodNamed? x = some theMethod := by decide +kernel
set_option maxRecDepth 65536 in
theorem w_hears : about1.hears theMethod below0 = true := by decide +kernel
set_option maxRecDepth 65536 in
theorem w_ripe : about1.ripe theMethod args0 below0 = true := by decide +kernel
theorem w_running : about1.status = .running := rfl
set_option maxRecDepth 65536 in
theorem w_room : about1.hasRoom e0.platform room_1 = true :=
  launch0.hasRoom_least _ room_1 (by decide +kernel) (by decide +kernel) (by decide +kernel) (by decide +kernel) (by decide +kernel) (by decide +kernel)
theorem allAtoms_all (ts : List Jvm.Cond) (a : Array Jvm.Value) (st : Jvm.State) : (allAtoms ts).before a st = ts.all (fun c => c.before a st) := by
  induction ts with
  | nil => rfl
  | cons c t ih =>
    show (Jvm.Cond.and c (allAtoms t)).before a st = _
    rw [Jvm.Cond.before_and, ih, List.all_cons]
def words1 : List Jvm.Cond := Jvm.Cond.code x code maxLocals ret :: tables_1
/-- a 'code' word, met by the world's own term for the bytes: nothing is compared byte by byte -/
theorem code_word {y : MethodName} {bytes : ByteArray} {mx : Nat} {rt : Option FieldType} {a : Array Value} {s : State} {m : MethodId} {meth : Method} {c : Code} (h1 : s.methodNamed? y = some m) (h2 : s.vm.method? m = some meth) (h3 : meth.code = some c) (h4 : c.code = bytes)
    (h5 : (c.maxLocals == mx && c.exceptionTable.isEmpty && decide (c.maxStack ≤ mostOperands) && decide (meth.sig.returnType = rt) && !meth.locks && decide (parseMethodDescriptor y.desc = some meth.sig)) = true) : (Jvm.Cond.code y bytes mx rt).before a s = true := by
  simp only [Bool.and_eq_true, beq_iff_eq, Bool.not_eq_true', decide_eq_true_eq] at h5
  obtain ⟨⟨⟨⟨⟨g1, g2⟩, g3⟩, g4⟩, g5⟩, g6⟩ := h5
  simp [Cond.before, Cond.holds, Cond.value, h1, h2, h3, h4, g1, g2, g3, g4, g5, g6]
def isCode : Jvm.Cond → Bool
  | .code _ _ _ _ => true
  | _ => false
theorem all_split {L : List Jvm.Cond} {P : Jvm.Cond → Bool} (h1 : L.all (fun c => isCode c || P c) = true) (h2 : ∀ c ∈ L.filter isCode, P c = true) : L.all P = true := by
  refine List.all_eq_true.mpr fun c hc => ?_
  have h := List.all_eq_true.mp h1 c hc
  rcases Bool.eq_false_or_eq_true (isCode c) with hi | hi
  · exact h2 c (List.mem_filter.mpr ⟨hc, hi⟩)
  · simpa [hi] using h
set_option maxRecDepth 65536 in
theorem w_c0 : (Jvm.Cond.code x code maxLocals ret).before args0 about1 = true := code_word (m := ⟨1, 1⟩) (meth := k1m1) (c := k1c1) (by decide +kernel) rfl rfl rfl (by decide +kernel)
set_option maxRecDepth 65536 in
theorem w_c1 : (Jvm.Cond.code ({ cls := "com/example/deft_shards/deftshards/index/IndexSummary", name := "<init>", desc := "([IJ)V" } : Jvm.MethodName) prog_16_method_1_code (4 : Nat) (Option.none : Option Jvm.ClassFile.FieldType)).before args0 about1 = true := code_word (m := ⟨2, 0⟩) (meth := k2m0) (c := k2c0) (by decide +kernel) rfl rfl rfl (by decide +kernel)
set_option maxRecDepth 65536 in
theorem w_c2 : (Jvm.Cond.code ({ cls := "java/lang/Object", name := "<init>", desc := "()V" } : Jvm.MethodName) object_method_1_code (1 : Nat) (Option.none : Option Jvm.ClassFile.FieldType)).before args0 about1 = true := code_word (m := ⟨0, 0⟩) (meth := k0m0) (c := k0c0) (by decide +kernel) rfl rfl rfl (by decide +kernel)
set_option maxRecDepth 65536 in
theorem w_c3 : (Jvm.Cond.code ({ cls := "com/example/deft_shards/deftshards/index/IndexSummary", name := "documents", desc := "()J" } : Jvm.MethodName) prog_16_method_4_code (7 : Nat) (Option.some Jvm.ClassFile.FieldType.long)).before args0 about1 = true := code_word (m := ⟨2, 1⟩) (meth := k2m1) (c := k2c1) (by decide +kernel) rfl rfl rfl (by decide +kernel)
def codes1 : List Jvm.Cond := [Jvm.Cond.code x code maxLocals ret, Jvm.Cond.code ({ cls := "com/example/deft_shards/deftshards/index/IndexSummary", name := "<init>", desc := "([IJ)V" } : Jvm.MethodName) prog_16_method_1_code (4 : Nat) (Option.none : Option Jvm.ClassFile.FieldType), Jvm.Cond.code ({ cls := "java/lang/Object", name := "<init>", desc := "()V" } : Jvm.MethodName) object_method_1_code (1 : Nat) (Option.none : Option Jvm.ClassFile.FieldType), Jvm.Cond.code ({ cls := "com/example/deft_shards/deftshards/index/IndexSummary", name := "documents", desc := "()J" } : Jvm.MethodName) prog_16_method_4_code (7 : Nat) (Option.some Jvm.ClassFile.FieldType.long)]
set_option maxRecDepth 65536 in
theorem codes_eq : words1.filter isCode = codes1 := rfl
theorem w_codes : ∀ c ∈ words1.filter isCode, c.before args0 about1 = true := by
  rw [codes_eq]
  intro c hc
  simp only [codes1, List.mem_cons, List.not_mem_nil, or_false] at hc
  rcases hc with rfl | rfl | rfl | rfl
  · exact w_c0
  · exact w_c1
  · exact w_c2
  · exact w_c3
set_option maxRecDepth 65536 in
theorem w_t1 : (words1.take 24).all (fun c => isCode c || c.before args0 about1) = true := by decide +kernel
set_option maxRecDepth 65536 in
theorem w_t2 : (words1.drop 24).all (fun c => isCode c || c.before args0 about1) = true := by decide +kernel
theorem w_tables : (allAtoms (Jvm.Cond.code x code maxLocals ret :: tables_1)).before args0 about1 = true := by
  rw [allAtoms_all]
  show words1.all (fun c => c.before args0 about1) = true
  refine all_split ?_ w_codes
  rw [← List.take_append_drop 24 words1, List.all_append, w_t1, w_t2]
  rfl
set_option maxRecDepth 65536 in
theorem w_case : (Jvm.Cond.and given_1 narrow_1).before args0 about1 = true := by decide +kernel
theorem w_applies : (headSpec (Jvm.Cond.code x code maxLocals ret :: tables_1) room_1).applies x e0.platform about1 = true :=
  (Spec.applies_iff w_frames).mpr ⟨w_running, w_runnable, w_alone, w_named, w_hears, w_ripe, w_room, w_tables⟩
theorem atStart : AtStart classFile x code maxLocals ret World_1 tables_1 room_1 Calls_1 rest_1 Pre_1 launch0 p0 e0 about1 theMethod args0 below0 :=
  ⟨lists_1, trivial, launch0.admits_env _ _ _, launch0.least_env, fairChoices_fair.cas, fairChoices_fair.clock, w_frames, w_args, w_heap, w_applies, trivial, trivial, w_case⟩
end start1
theorem witness_1 : WitnessClaimed_1 := ⟨start1.p0, start1.e0, start1.about1, start1.theMethod, start1.args0, start1.below0, start1.atStart⟩
end Jvm.Pilot.@@N@@
