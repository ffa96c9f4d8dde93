import JvmDerived
import JvmDerived.Pilot.@@N@@Statement
import JvmDerived.Pilot.@@N@@Code
set_option linter.unusedVariables false
set_option linter.unusedSimpArgs false
namespace Jvm.Pilot.@@N@@
open Jvm Jvm.ClassFile Sem Op Lib Jvm.Free Jvm.Stand Jvm.LawKit Jvm.RoadKit Bundle Jvm.Pilot.@@N@@.Jvm.D
section Own
variable {p : Program} {l : Launch} {e : Env} {R : Room} {s : State} {m : MethodId} {args : Array Value} {below : List Frame} {meth : Method} {c : Code} {T : State} {locs : List Loc} {cells slots : Nat} {Z : State} {a0 : Array Value} {h h' : Heap} {rc rs : Nat} {Q Qc : Option Value → Heap → List Loc → Prop}
/-- from here the run comes to its end, and leaves what Q says -/
def GG (p : Program) (e : Env) (below : List Frame) (s : State) (rc rs : Nat) (Q : Option Value → Heap → List Loc → Prop) (T : State) (g : JFrame) : Prop :=
  ∃ s₂ o, Steps p.tables e below (T.setTop g) s₂ ∧ s₂.status = .running ∧ Ended s₂ below o ∧ ∃ v L, o = .returned v ∧ Q v s₂.heap L ∧ FrameEnd s o s₂ L rc rs
theorem own_go {T' : State} {g g' : JFrame} (st : ∀ t, Steps p.tables e below (T'.setTop g') t → Steps p.tables e below (T.setTop g) t) (k : GG p e below s rc rs Q T' g') : GG p e below s rc rs Q T g := by
  obtain ⟨s₂, o, h1, h2⟩ := k
  exact ⟨s₂, o, st _ h1, h2⟩
theorem own_in {g g' : JFrame} (q : g = g') (k : GG p e below s rc rs Q T g') : GG p e below s rc rs Q T g := q ▸ k
theorem own_if {g1 g2 : JFrame} {P : Prop} [Decidable P] (k1 : P → GG p e below s rc rs Q T g1) (k2 : ¬ P → GG p e below s rc rs Q T g2) : GG p e below s rc rs Q T (if P then g1 else g2) := by
  by_cases q : P
  · rw [if_pos q]; exact k1 q
  · rw [if_neg q]; exact k2 q
theorem own_join {g g' : JFrame} (k1 : GG p e below s rc rs Q T g' → GG p e below s rc rs Q T g) (k2 : GG p e below s rc rs Q T g') : GG p e below s rc rs Q T g := k1 k2
abbrev own_CT (l : Launch) (Z : State) (y : MethodName) (bytes : ByteArray) (maxL : Nat) (ret : Option FieldType) (ws : List Jvm.Cond) (rm : Room) (as : Array Value) (h : Heap) (Qc : Option Value → Heap → List Loc → Prop) : Prop :=
  MetFree l y (head1 (Jvm.Cond.code y bytes maxL ret :: ws) rm) (fun a U => a = as ∧ Z.Warmed39 U.vm ∧ U.heap = h) (fun _ _ _ _ _ => True) (fun _ U o U' => ∃ v L, o = .returned v ∧ Qc v U'.heap L ∧ FrameEnd U o U' L rm.cells rm.slots)
theorem own_callS (X : Stand p l e R s m args below meth c T locs cells slots) (hx : p.tables.exec = Jvm.exec) (hZ : Z.Warmed39 s.vm) {own : String} {index : Nat} {y : MethodName} {bytes : ByteArray} {maxL : Nat} {ret : Option FieldType} {rm : Room} (W : Nat)
    (hown : s.vm.findClass own = some m.cls) (w1 : (Jvm.Cond.methodLink own index y).before a0 Z = true) (w2 : (Jvm.Cond.static y).before a0 Z = true) (w3 : (Jvm.Cond.initialized y.cls).before a0 Z = true) (w4 : (Jvm.Cond.code y bytes maxL ret).before a0 Z = true)
    (hy : y.cls ≠ "java/lang/invoke/MethodHandle" ∧ y.cls ≠ "java/lang/invoke/VarHandle") {argsL rest : List Value} (hM : own_CT l Z y bytes maxL ret [] rm argsL.toArray h Qc)
    (hf : rm.frames + 1 ≤ R.frames) (hl : W + (maxL + 11) + rm.locals ≤ R.locals) (hc : cells + rm.cells ≤ R.cells) (hs : slots + rm.slots ≤ R.slots)
    {g : JFrame} (hg : g.method = m) (hsize : g.locals.size = c.maxLocals) (hlen : ∀ sig, parseMethodDescriptor y.desc = some sig → argsL.length = sig.parameters.length) (hstack : g.stack = argsL.reverse ++ rest) (hW : 2 * g.monitorRoom + (rest.map fun v => v.category).sum ≤ W)
    (hdg : decode c.code g.pc = .ok (.invokestatic index, 3)) (eT : T.heap = h)
    (k : ∀ (v : Option Value) (T' : State) (L : List Loc), Stand p l e R s m args below meth c T' (locs ++ L) (cells + rm.cells) (slots + rm.slots) → Qc v T'.heap L → GG p e below s rc rs Q T' { g with pc := g.pc + 3, stack := v.toList ++ rest }) : GG p e below s rc rs Q T g := by
  obtain ⟨v, vm₁, ⟨T', L', k', n'⟩, -, X', ⟨L, hQ, q1, q2, q3⟩, st⟩ := Jvm.LawKit.callS X hx hown (mvT hZ w1) (mvT hZ w2) (mvT hZ w3) (mvT hZ w4) hy (backOf (W := W) hM hZ w4 w3 hf hl) hg hsize hlen hstack hW hdg (fun _ _ => ⟨rfl, eT, hc, hs⟩)
  dsimp only [Pt.U, Pt.locs, Pt.cells, Pt.slots] at X' q1 q2 q3 st hQ
  subst q1 q2 q3
  exact own_go st (k v T' L X' hQ)
theorem own_callI (X : Stand p l e R s m args below meth c T locs cells slots) (hx : p.tables.exec = Jvm.exec) (hZ : Z.Warmed39 s.vm) {own : String} {index : Nat} {y : MethodName} {bytes : ByteArray} {maxL : Nat} {rm : Room} (W : Nat) (hy1 : y.name = "<init>")
    (hown : s.vm.findClass own = some m.cls) (w1 : (Jvm.Cond.methodLink own index y).before a0 Z = true) (w2 : (Jvm.Cond.instanceMethod y).before a0 Z = true) (w3 : (Jvm.Cond.initialized y.cls).before a0 Z = true) (w4 : (Jvm.Cond.code y bytes maxL none).before a0 Z = true)
    (hy : y.cls ≠ "java/lang/invoke/MethodHandle" ∧ y.cls ≠ "java/lang/invoke/VarHandle") {a : Addr} {argsL rest : List Value} (hM : own_CT l Z y bytes maxL none [] rm (.ref a :: argsL).toArray h Qc)
    (hf : rm.frames + 1 ≤ R.frames) (hl : W + (maxL + 11) + rm.locals ≤ R.locals) (hc : cells + rm.cells ≤ R.cells) (hs : slots + rm.slots ≤ R.slots)
    {g : JFrame} (hg : g.method = m) (hsize : g.locals.size = c.maxLocals) (hlen : ∀ sig, parseMethodDescriptor y.desc = some sig → argsL.length = sig.parameters.length) (hstack : g.stack = argsL.reverse ++ .ref a :: rest) (hW : 2 * g.monitorRoom + (rest.map fun v => v.category).sum ≤ W)
    (hdg : decode c.code g.pc = .ok (.invokespecial index, 3)) (eT : T.heap = h)
    (k : ∀ (v : Option Value) (T' : State) (L : List Loc), Stand p l e R s m args below meth c T' (locs ++ L) (cells + rm.cells) (slots + rm.slots) → Qc v T'.heap L → GG p e below s rc rs Q T' { g with pc := g.pc + 3, stack := v.toList ++ rest }) : GG p e below s rc rs Q T g := by
  obtain ⟨v, vm₁, ⟨T', L', k', n'⟩, -, X', ⟨L, hQ, q1, q2, q3⟩, st⟩ := X.specialBack hx hy1 hown (mvT hZ w1) (mvT hZ w2) (mvT hZ w4) hy (backOf (W := W) hM hZ w4 w3 hf hl) hg hsize (Steps.refl _) hlen hstack hW hdg (fun _ _ => ⟨rfl, eT, hc, hs⟩)
  dsimp only [Pt.U, Pt.locs, Pt.cells, Pt.slots] at X' q1 q2 q3 st hQ
  subst q1 q2 q3
  exact own_go (fun _ => st.trans) (k v T' L X' hQ)
theorem own_callV (X : Stand p l e R s m args below meth c T locs cells slots) (hx : p.tables.exec = Jvm.exec) (hZ : Z.Warmed39 s.vm) {own C : String} {index : Nat} {y z : MethodName} {bytes : ByteArray} {maxL : Nat} {ret : Option FieldType} {rm : Room} (W : Nat)
    (hown : s.vm.findClass own = some m.cls) (w1 : (Jvm.Cond.methodLink own index y).before a0 Z = true) (w2 : (Jvm.Cond.declares y).before a0 Z = true) (hnf : NotFace s y) (w5 : (Jvm.Cond.selects C y z).before a0 Z = true) (w6 : (Jvm.Cond.instanceMethod z).before a0 Z = true) (w3 : (Jvm.Cond.initialized z.cls).before a0 Z = true) (w4 : (Jvm.Cond.code z bytes maxL ret).before a0 Z = true)
    (hy : y.cls ≠ "java/lang/invoke/MethodHandle" ∧ y.cls ≠ "java/lang/invoke/VarHandle") {a : Addr} {argsL rest : List Value} (hM : own_CT l Z z bytes maxL ret [] rm (.ref a :: argsL).toArray h Qc)
    (hf : rm.frames + 1 ≤ R.frames) (hl : W + (maxL + 11) + rm.locals ≤ R.locals) (hc : cells + rm.cells ≤ R.cells) (hs : slots + rm.slots ≤ R.slots) (E : Exa Z h a C)
    {g : JFrame} (hg : g.method = m) (hsize : g.locals.size = c.maxLocals) (hlen : ∀ sig, parseMethodDescriptor y.desc = some sig → argsL.length = sig.parameters.length) (hstack : g.stack = argsL.reverse ++ .ref a :: rest) (hW : 2 * g.monitorRoom + (rest.map fun v => v.category).sum ≤ W)
    (hdg : decode c.code g.pc = .ok (.invokevirtual index, 3)) (eT : T.heap = h)
    (k : ∀ (v : Option Value) (T' : State) (L : List Loc), Stand p l e R s m args below meth c T' (locs ++ L) (cells + rm.cells) (slots + rm.slots) → Qc v T'.heap L → GG p e below s rc rs Q T' { g with pc := g.pc + 3, stack := v.toList ++ rest }) : GG p e below s rc rs Q T g := by
  obtain ⟨cq, kq, qa, qb, qc⟩ := isOf hZ eT E
  obtain ⟨v, vm₁, ⟨T', L', k', n'⟩, -, X', ⟨L, hQ, q1, q2, q3⟩, st⟩ := X.virtualBack hx hown (mvT hZ w1) (mvT hZ w2) hnf (mvT hZ w5) (mvT hZ w6) hy (backOf (W := W) hM hZ w4 w3 hf hl) qa qc hg hsize (Steps.refl _) hlen hstack hW hdg (fun _ _ => ⟨rfl, eT, hc, hs⟩)
  dsimp only [Pt.U, Pt.locs, Pt.cells, Pt.slots] at X' q1 q2 q3 st hQ
  subst q1 q2 q3
  exact own_go (fun _ => st.trans) (k v T' L X' hQ)
theorem own_callP (X : Stand p l e R s m args below meth c T locs cells slots) (hx : p.tables.exec = Jvm.exec) (hZ : Z.Warmed39 s.vm) {own C : String} {index : Nat} {y : MethodName} {bytes : ByteArray} {maxL : Nat} {ret : Option FieldType} {rm : Room} (W : Nat)
    (hown : s.vm.findClass own = some m.cls) (w1 : (Jvm.Cond.methodLink own index y).before a0 Z = true) (w2 : (Jvm.Cond.instanceMethod y).before a0 Z = true) {kk : Nat} (w5 : (Jvm.Cond.instantiable y.cls kk).before a0 Z = true) (w6 : (Jvm.Cond.privateMethod y).before a0 Z = true) (w3 : (Jvm.Cond.initialized y.cls).before a0 Z = true) (w4 : (Jvm.Cond.code y bytes maxL ret).before a0 Z = true)
    (hy : y.cls ≠ "java/lang/invoke/MethodHandle" ∧ y.cls ≠ "java/lang/invoke/VarHandle") {a : Addr} {argsL rest : List Value} (hM : own_CT l Z y bytes maxL ret [] rm (.ref a :: argsL).toArray h Qc)
    (hf : rm.frames + 1 ≤ R.frames) (hl : W + (maxL + 11) + rm.locals ≤ R.locals) (hc : cells + rm.cells ≤ R.cells) (hs : slots + rm.slots ≤ R.slots) (E : Exa Z h a C)
    {g : JFrame} (hg : g.method = m) (hsize : g.locals.size = c.maxLocals) (hlen : ∀ sig, parseMethodDescriptor y.desc = some sig → argsL.length = sig.parameters.length) (hstack : g.stack = argsL.reverse ++ .ref a :: rest) (hW : 2 * g.monitorRoom + (rest.map fun v => v.category).sum ≤ W)
    (hdg : decode c.code g.pc = .ok (.invokevirtual index, 3)) (eT : T.heap = h)
    (k : ∀ (v : Option Value) (T' : State) (L : List Loc), Stand p l e R s m args below meth c T' (locs ++ L) (cells + rm.cells) (slots + rm.slots) → Qc v T'.heap L → GG p e below s rc rs Q T' { g with pc := g.pc + 3, stack := v.toList ++ rest }) : GG p e below s rc rs Q T g := by
  obtain ⟨cq, q, q'⟩ := E.cell
  have hpr : s.PrivateAt y := Cond.privateMethod_at (mvP hZ w6 (args := #[]))
  obtain ⟨c1, k1, i1, i2, -, i4, -⟩ := Cond.instantiable_spec (show (Jvm.Cond.instantiable y.cls kk).before args s = true from mv hZ w5)
  have hsel : (Jvm.Cond.selects y.cls y y).before args s = true := selects_self_of_private i1 i2 (Bool.or_eq_false_iff.mp i4).1 hpr (mvT hZ w2) hy
  obtain ⟨v, vm₁, ⟨T', L', k', n'⟩, -, X', ⟨L, hQ, q1, q2, q3⟩, st⟩ := X.privateBack hx hown (mvT hZ w1) (mvT hZ w2) hsel hpr (mvT hZ w4) hy (backOf (W := W) hM hZ w4 w3 hf hl) hg hsize (Steps.refl _) (by rw [eT]; exact q) q' hlen hstack hW hdg (fun _ _ => ⟨rfl, eT, hc, hs⟩)
  dsimp only [Pt.U, Pt.locs, Pt.cells, Pt.slots] at X' q1 q2 q3 st hQ
  subst q1 q2 q3
  exact own_go (fun _ => st.trans) (k v T' L X' hQ)
theorem own_ret (X : Stand p l e R s m args below meth c T locs cells slots) (hx : p.tables.exec = Jvm.exec) (hlk : meth.locks = false) {t : FieldType} {w : Value} {i : Instr} {pc : Nat} {Ls : Array Slot} {rest : List Value} (hret : meth.sig.returnType = some t) (hn : narrow t w = w)
    (hi : (i = .ireturn ∧ (t = .int ∨ t = .boolean ∨ t = .byte ∨ t = .char ∨ t = .short) ∧ ∃ z, w = .int z) ∨ (i = .lreturn ∧ t = .long ∧ ∃ z, w = .long z) ∨ (i = .dreturn ∧ t = .double ∧ ∃ z, w = .double z) ∨ (i = .freturn ∧ t = .float ∧ ∃ z, w = .float z) ∨ (i = .areturn ∧ t.isReference = true ∧ w.isRef = true))
    (hd : decode c.code pc = .ok (i, 1)) (hc : cells ≤ rc) (hs : slots ≤ rs) (hQ : Q (some w) T.heap locs) : GG p e below s rc rs Q T (mkF m pc Ls (w :: rest)) := by
  obtain ⟨fs, hr, hrun, hended, hW, hsame⟩ := X.leave (v := some w) (fun h => by rw [hret] at h; cases h) hlk
  exact ⟨_, _, retOut X hx hret hn hi hd hr, hrun, hended, _, _, rfl, hQ, ⟨_, rfl⟩, hW, hsame.mono hc hs⟩
theorem own_retV (X : Stand p l e R s m args below meth c T locs cells slots) (hx : p.tables.exec = Jvm.exec) (hlk : meth.locks = false) {pc : Nat} {Ls : Array Slot} (hret : meth.sig.returnType = none)
    (hd : decode c.code pc = .ok (.return_, 1)) (hc : cells ≤ rc) (hs : slots ≤ rs) (hQ : Q none T.heap locs) : GG p e below s rc rs Q T (mkF m pc Ls []) := by
  obtain ⟨fs, hr, hrun, hended, hW, hsame⟩ := X.leave (v := none) (fun _ => rfl) hlk
  exact ⟨_, _, X.returnOut hx hret hd hr, hrun, hended, _, _, rfl, hQ, ⟨_, rfl⟩, hW, hsame.mono hc hs⟩
theorem own_nZ {P : Prop} [Decidable P] : narrow .boolean (.int (if P then 1 else 0)) = .int (if P then 1 else 0) := by split <;> rfl
/-- an array of values, all of them named -/
def Arx (Z : State) (h : Heap) (a : Addr) (ty : FieldType) (vs : List Value) : Prop := vs.length < 2 ^ 31 ∧ ∃ k dv, Arv Z h a k ty (Int32.ofNat vs.length) vs dv
variable {a b : Addr} {ty : FieldType} {vs : List Value}
theorem own_ofNat {n : Nat} (q : n < 2 ^ 31) : (Int32.ofNat n).toInt = n := Int32.toInt_ofNat_of_lt q
theorem own_clamp {n : Nat} (q : n < 2 ^ 31) : (Int32.ofNat n).toNatClampNeg = n := by simp only [Int32.toNatClampNeg, own_ofNat q]; rfl
theorem Arx.lt (V : Arx Z h a ty vs) : a < h.size := by obtain ⟨_, k, dv, V⟩ := V; exact V.lt
theorem Arx.ext (V : Arx Z h a ty vs) (E : Ext h h') : Arx Z h' a ty vs := by obtain ⟨q, k, dv, V⟩ := V; exact ⟨q, k, dv, V.ext E⟩
theorem Arx.other {sl : Nat} {v : Value} (V : Arx Z h b ty vs) (W : Wr h h' a sl v) (n : b ≠ a) : Arx Z h' b ty vs := by obtain ⟨q, k, dv, V⟩ := V; exact ⟨q, k, dv, V.other W n⟩
theorem Arx.keep {ws : List Addr} (V : Arx Z h a ty vs) (K : Keep h h' ws) (n : a ∉ ws) : Arx Z h' a ty vs := by obtain ⟨q, k, dv, V⟩ := V; exact ⟨q, k, dv, V.keep K n⟩
theorem Arx.open {j : Int32} {v : Value} (V : Arx Z h a ty vs) (h0 : ¬ j < 0) (hv : vs[j.toNatClampNeg]? = some v) : ∃ cl, Arr Z h a cl ty ∧ ¬ (j < 0 ∨ cl.slots.size ≤ j.toNatClampNeg) ∧ cl.slots[j.toNatClampNeg]? = some v := by
  obtain ⟨q, k, dv, cl, A, -, S, -, H, -⟩ := V
  rw [own_clamp q] at S
  have hl := (List.getElem?_eq_some_iff.mp hv).1
  have e := H j.toNatClampNeg (by rw [S]; exact hl)
  rw [List.getD_eq_getElem?_getD, hv] at e
  exact ⟨cl, A, fun q' => q'.elim h0 (by rw [S]; exact Nat.not_le.mpr hl), e⟩
theorem own_len (X : Stand p l e R s m args below meth c T locs cells slots) (hx : p.tables.exec = Jvm.exec) (hZ : Z.Warmed39 s.vm) (eT : T.heap = h) (V : Arx Z h a ty vs) {g : JFrame} (hg : g.method = m) {rest : List Value} (hs : g.stack = .ref a :: rest) (hd : decode c.code g.pc = .ok (.arraylength, 1)) :
    ∀ t, Steps p.tables e below (T.setTop { g with pc := g.pc + 1, stack := .int (Int32.ofNat vs.length) :: rest }) t → Steps p.tables e below (T.setTop g) t := fun t k => by
  obtain ⟨q, k', dv, cl, A, -, S, N, -⟩ := V
  refine X.arraylength hx (by rw [eT]; exact A.1) (State.isArrayOf_alike hZ.alike A.2.1) hg hs hd _ ?_
  rw [len_of S N]; exact k
theorem own_iaload (X : Stand p l e R s m args below meth c T locs cells slots) (hx : p.tables.exec = Jvm.exec) (hZ : Z.Warmed39 s.vm) (eT : T.heap = h) (V : Arx Z h a .int vs) {j : Int32} {v : Value} (h0 : ¬ j < 0) (hv : vs[j.toNatClampNeg]? = some v) {g : JFrame} (hg : g.method = m) {rest : List Value} (hs : g.stack = .int j :: .ref a :: rest) (hd : decode c.code g.pc = .ok (.iaload, 1)) :
    ∀ t, Steps p.tables e below (T.setTop { g with pc := g.pc + 1, stack := v :: rest }) t → Steps p.tables e below (T.setTop g) t := fun t k => by
  obtain ⟨cl, A, h1, h2⟩ := V.open h0 hv
  exact X.iaload hx (by rw [eT]; exact A.1) (State.isArrayOf_alike hZ.alike A.2.1) A.2.2 h1 h2 hg hs hd _ k
theorem own_laload (X : Stand p l e R s m args below meth c T locs cells slots) (hx : p.tables.exec = Jvm.exec) (hZ : Z.Warmed39 s.vm) (eT : T.heap = h) (V : Arx Z h a .long vs) {j : Int32} {v : Value} (h0 : ¬ j < 0) (hv : vs[j.toNatClampNeg]? = some v) {g : JFrame} (hg : g.method = m) {rest : List Value} (hs : g.stack = .int j :: .ref a :: rest) (hd : decode c.code g.pc = .ok (.laload, 1)) :
    ∀ t, Steps p.tables e below (T.setTop { g with pc := g.pc + 1, stack := v :: rest }) t → Steps p.tables e below (T.setTop g) t := fun t k => by
  obtain ⟨cl, A, h1, h2⟩ := V.open h0 hv
  exact X.laload hx (by rw [eT]; exact A.1) (State.isArrayOf_alike hZ.alike A.2.1) A.2.2 h1 h2 hg hs hd _ k
theorem own_caload (X : Stand p l e R s m args below meth c T locs cells slots) (hx : p.tables.exec = Jvm.exec) (hZ : Z.Warmed39 s.vm) (eT : T.heap = h) (V : Arx Z h a .char vs) {j : Int32} {v : Value} (h0 : ¬ j < 0) (hv : vs[j.toNatClampNeg]? = some v) {g : JFrame} (hg : g.method = m) {rest : List Value} (hs : g.stack = .int j :: .ref a :: rest) (hd : decode c.code g.pc = .ok (.caload, 1)) :
    ∀ t, Steps p.tables e below (T.setTop { g with pc := g.pc + 1, stack := v :: rest }) t → Steps p.tables e below (T.setTop g) t := fun t k => by
  obtain ⟨cl, A, h1, h2⟩ := V.open h0 hv
  exact X.caload hx (by rw [eT]; exact A.1) (State.isArrayOf_alike hZ.alike A.2.1) A.2.2 h1 h2 hg hs hd _ k
theorem own_baload (X : Stand p l e R s m args below meth c T locs cells slots) (hx : p.tables.exec = Jvm.exec) (hZ : Z.Warmed39 s.vm) (eT : T.heap = h) (V : Arx Z h a .byte vs) {j : Int32} {v : Value} (h0 : ¬ j < 0) (hv : vs[j.toNatClampNeg]? = some v) {g : JFrame} (hg : g.method = m) {rest : List Value} (hs : g.stack = .int j :: .ref a :: rest) (hd : decode c.code g.pc = .ok (.baload, 1)) :
    ∀ t, Steps p.tables e below (T.setTop { g with pc := g.pc + 1, stack := v :: rest }) t → Steps p.tables e below (T.setTop g) t := fun t k => by
  obtain ⟨cl, A, h1, h2⟩ := V.open h0 hv
  exact X.baloadBytes hx (by rw [eT]; exact A.1) (State.isArrayOf_alike hZ.alike A.2.1) A.2.2 h1 h2 hg hs hd _ k
theorem own_aaload (X : Stand p l e R s m args below meth c T locs cells slots) (hx : p.tables.exec = Jvm.exec) (hZ : Z.Warmed39 s.vm) (eT : T.heap = h) (V : Arx Z h a ty vs) (ht : ty.isReference = true) {j : Int32} {v : Value} (h0 : ¬ j < 0) (hv : vs[j.toNatClampNeg]? = some v) {g : JFrame} (hg : g.method = m) {rest : List Value} (hs : g.stack = .int j :: .ref a :: rest) (hd : decode c.code g.pc = .ok (.aaload, 1)) :
    ∀ t, Steps p.tables e below (T.setTop { g with pc := g.pc + 1, stack := v :: rest }) t → Steps p.tables e below (T.setTop g) t := fun t k => by
  obtain ⟨cl, A, h1, h2⟩ := V.open h0 hv
  exact X.aaload hx (by rw [eT]; exact A.1) (State.isArrayOf_alike hZ.alike A.2.1) ht A.2.2 h1 h2 hg hs hd _ k
theorem Arx.put {j : Int32} {v : Value} (V : Arx Z h a ty vs) (h0 : ¬ j < 0) (hj : j.toNatClampNeg < vs.length) (hv : fits ty v = true) : ∃ cl, Arr Z h a cl ty ∧ ¬ (j < 0 ∨ cl.slots.size ≤ j.toNatClampNeg) ∧ ∀ {h' : Heap}, Wr h h' a j.toNatClampNeg v → Arx Z h' a ty (vs.set j.toNatClampNeg v) := by
  obtain ⟨q, k, dv, cl, A, q1, S, N, H, G⟩ := V
  refine ⟨cl, A, fun q' => q'.elim h0 ?_, fun W => ⟨by rw [List.length_set]; exact q, k, dv, ?_⟩⟩
  · rw [S, own_clamp q]; exact Nat.not_le.mpr hj
  · rw [List.length_set]; exact Arv.set A q1 S N H G hv W _ rfl hj
theorem own_iastore (X : Stand p l e R s m args below meth c T locs cells slots) (hx : p.tables.exec = Jvm.exec) (hZ : Z.Warmed39 s.vm) (eT : T.heap = h) (V : Arx Z h a .int vs) {j x : Int32} (h0 : ¬ j < 0) (hj : j.toNatClampNeg < vs.length) {g : JFrame} (hg : g.method = m) {rest : List Value} (hs : g.stack = .int x :: .int j :: .ref a :: rest) (hd : decode c.code g.pc = .ok (.iastore, 1)) :
    ∃ T' h', Stand p l e R s m args below meth c T' (locs ++ [⟨a, j.toNatClampNeg⟩]) cells slots ∧ T'.heap = h' ∧ Wr h h' a j.toNatClampNeg (.int x) ∧ Arx Z h' a .int (vs.set j.toNatClampNeg (.int x)) ∧ ∀ t, Steps p.tables e below (T'.setTop { g with pc := g.pc + 1, stack := rest }) t → Steps p.tables e below (T.setTop g) t := by
  obtain ⟨cl, A, h1, h2⟩ := V.put (v := .int x) h0 hj rfl
  obtain ⟨T', h', X', e', W, st⟩ := stI X hx hZ eT A h1 hg hs hd
  exact ⟨T', h', X', e', W, h2 W, st⟩
theorem own_lastore (X : Stand p l e R s m args below meth c T locs cells slots) (hx : p.tables.exec = Jvm.exec) (hZ : Z.Warmed39 s.vm) (eT : T.heap = h) (V : Arx Z h a .long vs) {j : Int32} {x : Int64} (h0 : ¬ j < 0) (hj : j.toNatClampNeg < vs.length) {g : JFrame} (hg : g.method = m) {rest : List Value} (hs : g.stack = .long x :: .int j :: .ref a :: rest) (hd : decode c.code g.pc = .ok (.lastore, 1)) :
    ∃ T' h', Stand p l e R s m args below meth c T' (locs ++ [⟨a, j.toNatClampNeg⟩]) cells slots ∧ T'.heap = h' ∧ Wr h h' a j.toNatClampNeg (.long x) ∧ Arx Z h' a .long (vs.set j.toNatClampNeg (.long x)) ∧ ∀ t, Steps p.tables e below (T'.setTop { g with pc := g.pc + 1, stack := rest }) t → Steps p.tables e below (T.setTop g) t := by
  obtain ⟨cl, A, h1, h2⟩ := V.put (v := .long x) h0 hj rfl
  obtain ⟨T', h', X', e', W, st⟩ := stJ X hx hZ eT A h1 hg hs hd
  exact ⟨T', h', X', e', W, h2 W, st⟩
theorem own_castore (X : Stand p l e R s m args below meth c T locs cells slots) (hx : p.tables.exec = Jvm.exec) (hZ : Z.Warmed39 s.vm) (eT : T.heap = h) (V : Arx Z h a .char vs) {j x : Int32} (h0 : ¬ j < 0) (hj : j.toNatClampNeg < vs.length) {g : JFrame} (hg : g.method = m) {rest : List Value} (hs : g.stack = .int x :: .int j :: .ref a :: rest) (hd : decode c.code g.pc = .ok (.castore, 1)) :
    ∃ T' h', Stand p l e R s m args below meth c T' (locs ++ [⟨a, j.toNatClampNeg⟩]) cells slots ∧ T'.heap = h' ∧ Wr h h' a j.toNatClampNeg (.int (nar .char x)) ∧ Arx Z h' a .char (vs.set j.toNatClampNeg (.int (nar .char x))) ∧ ∀ t, Steps p.tables e below (T'.setTop { g with pc := g.pc + 1, stack := rest }) t → Steps p.tables e below (T.setTop g) t := by
  obtain ⟨cl, A, h1, h2⟩ := V.put (v := .int (nar .char x)) h0 hj (fits_nar_char _)
  obtain ⟨T', h', X', e', W, st⟩ := stC X hx hZ eT A h1 hg hs hd
  exact ⟨T', h', X', e', W, h2 W, st⟩
theorem own_bastore (X : Stand p l e R s m args below meth c T locs cells slots) (hx : p.tables.exec = Jvm.exec) (hZ : Z.Warmed39 s.vm) (eT : T.heap = h) (V : Arx Z h a .byte vs) {j x : Int32} (h0 : ¬ j < 0) (hj : j.toNatClampNeg < vs.length) {g : JFrame} (hg : g.method = m) {rest : List Value} (hs : g.stack = .int x :: .int j :: .ref a :: rest) (hd : decode c.code g.pc = .ok (.bastore, 1)) :
    ∃ T' h', Stand p l e R s m args below meth c T' (locs ++ [⟨a, j.toNatClampNeg⟩]) cells slots ∧ T'.heap = h' ∧ Wr h h' a j.toNatClampNeg (.int (nar .byte x)) ∧ Arx Z h' a .byte (vs.set j.toNatClampNeg (.int (nar .byte x))) ∧ ∀ t, Steps p.tables e below (T'.setTop { g with pc := g.pc + 1, stack := rest }) t → Steps p.tables e below (T.setTop g) t := by
  obtain ⟨cl, A, h1, h2⟩ := V.put (v := .int (nar .byte x)) h0 hj (fits_nar_byte _)
  obtain ⟨T', h', X', e', W, st⟩ := stB X hx hZ eT A h1 hg hs hd
  exact ⟨T', h', X', e', W, h2 W, st⟩
theorem own_newarr (X : Stand p l e R s m args below meth c T locs cells slots) (hx : p.tables.exec = Jvm.exec) (hZ : Z.Warmed39 s.vm) {aty : ArrayType} (w : (Jvm.Cond.arrayClass (newarray.typeOf aty)).before a0 Z = true) (eT : T.heap = h) {g : JFrame} (hg : g.method = m) (hd : decode c.code g.pc = .ok (.newarray aty, 2)) {n : Int32} {rest : List Value} (hs : g.stack = .int n :: rest)
    (hn : ¬ n < 0) {cap : Nat} (hcap : n.toNatClampNeg ≤ cap) (hb : cap * 8 ≤ 536870912) (hc : cells + 1 ≤ R.cells) (hl : slots + cap ≤ R.slots) {ad : String} (had : "[" ++ (newarray.typeOf aty).toString = ad) :
    ∃ T' h' a, a = h.size ∧ Stand p l e R s m args below meth c T' locs (cells + 1) (slots + cap) ∧ T'.heap = h' ∧ Ext h h' ∧ Arx Z h' a (newarray.typeOf aty) (List.replicate n.toNatClampNeg (defaultValue (newarray.typeOf aty))) ∧ Exa Z h' a ad ∧
      ∀ t, Steps p.tables e below (T'.setTop { g with pc := g.pc + 2, stack := .ref a :: rest }) t → Steps p.tables e below (T.setTop g) t := by
  obtain ⟨T', h', cA, X', e', E, A, Ex, st⟩ := newPE X hx hZ w eT hg hd hs hn hcap hb hc hl had
  have b := back32 hn
  refine ⟨T', h', _, rfl, X', e', E, ⟨by rw [List.length_replicate]; exact b.2, cA, defaultValue (newarray.typeOf aty), ?_⟩, Ex, st⟩
  rw [List.length_replicate, show Int32.ofNat n.toNatClampNeg = n from b.1]
  exact (Arv.new A hn).pad (pad_rep [] _ _)
theorem own_clone (X : Stand p l e R s m args below meth c T locs cells slots) (hx : p.tables.exec = Jvm.exec) (hZ : Z.Warmed39 s.vm) {own ad : String} {index : Nat} (hown : s.vm.findClass own = some m.cls)
    (w1 : (Jvm.Cond.methodLink own index ⟨ad, "clone", "()Ljava/lang/Object;"⟩).before a0 Z = true) (w2 : (Jvm.Cond.sameMethod ad "java/lang/Object" "clone" "()Ljava/lang/Object;").before a0 Z = true) (w3 : (Jvm.Cond.native ⟨"java/lang/Object", "clone", "()Ljava/lang/Object;"⟩).before a0 Z = true)
    (w4 : (Jvm.Cond.instanceMethod ⟨"java/lang/Object", "clone", "()Ljava/lang/Object;"⟩).before a0 Z = true) (w5 : (Jvm.Cond.selects ad ⟨ad, "clone", "()Ljava/lang/Object;"⟩ ⟨"java/lang/Object", "clone", "()Ljava/lang/Object;"⟩).before a0 Z = true) (w6 : (Jvm.Cond.castable ad "java/lang/Cloneable").before a0 Z = true)
    (eT : T.heap = h) (V : Arx Z h a ty vs) (E : Exa Z h a ad) {g : JFrame} (hg : g.method = m) (hsize : g.locals.size = c.maxLocals) {rest : List Value} (hst : g.stack = .ref a :: rest) (hd : decode c.code g.pc = .ok (.invokevirtual index, 3))
    (hf : 1 ≤ R.frames) {W cap : Nat} (hW : 2 * g.monitorRoom + (rest.map fun v => v.category).sum ≤ W) (hl : W + 14 ≤ R.locals) (hcap : vs.length ≤ cap) (hc : cells + 1 ≤ R.cells) (hsl : slots + cap ≤ R.slots) :
    ∃ T' h' b, b = h.size ∧ Stand p l e R s m args below meth c T' locs (cells + 1) (slots + cap) ∧ T'.heap = h' ∧ Ext h h' ∧ Arx Z h' b ty vs ∧ Exa Z h' b ad ∧
      ∀ t, Steps p.tables e below (T'.setTop { g with pc := g.pc + 3, stack := .ref b :: rest }) t → Steps p.tables e below (T.setTop g) t := by
  obtain ⟨q, k, dv, V⟩ := V
  obtain ⟨T', h', X', e', ex, V', E', st⟩ := cloneH X hx hZ hown w1 w2 w3 w4 w5 w6 eT V.arh E hg hsize hst hd hf hW hl (by rw [own_clamp q]; exact hcap) hc hsl
  exact ⟨T', h', _, rfl, X', e', ex, ⟨q, k, dv, V'⟩, E', st⟩
end Own
section OwnF
variable {p : Program} {l : Launch} {e : Env} {R : Room} {s : State} {m : MethodId} {args : Array Value} {below : List Frame} {meth : Method} {c : Code} {T : State} {locs : List Loc} {cells slots : Nat} {Z : State} {a0 : Array Value} {h h' : Heap} {a b : Addr} {ty : FieldType} {vs : List Value}
theorem own_daload (X : Stand p l e R s m args below meth c T locs cells slots) (hx : p.tables.exec = Jvm.exec) (hZ : Z.Warmed39 s.vm) (eT : T.heap = h) (V : Arx Z h a .double vs) {j : Int32} {v : Value} (h0 : ¬ j < 0) (hv : vs[j.toNatClampNeg]? = some v) {g : JFrame} (hg : g.method = m) {rest : List Value} (hs : g.stack = .int j :: .ref a :: rest) (hd : decode c.code g.pc = .ok (.daload, 1)) :
    ∀ t, Steps p.tables e below (T.setTop { g with pc := g.pc + 1, stack := v :: rest }) t → Steps p.tables e below (T.setTop g) t := fun t k => by
  obtain ⟨cl, A, h1, h2⟩ := V.open h0 hv
  exact X.daload hx (by rw [eT]; exact A.1) (State.isArrayOf_alike hZ.alike A.2.1) A.2.2 h1 h2 hg hs hd _ k
theorem own_faload (X : Stand p l e R s m args below meth c T locs cells slots) (hx : p.tables.exec = Jvm.exec) (hZ : Z.Warmed39 s.vm) (eT : T.heap = h) (V : Arx Z h a .float vs) {j : Int32} {v : Value} (h0 : ¬ j < 0) (hv : vs[j.toNatClampNeg]? = some v) {g : JFrame} (hg : g.method = m) {rest : List Value} (hs : g.stack = .int j :: .ref a :: rest) (hd : decode c.code g.pc = .ok (.faload, 1)) :
    ∀ t, Steps p.tables e below (T.setTop { g with pc := g.pc + 1, stack := v :: rest }) t → Steps p.tables e below (T.setTop g) t := fun t k => by
  obtain ⟨cl, A, h1, h2⟩ := V.open h0 hv
  exact X.faload hx (by rw [eT]; exact A.1) (State.isArrayOf_alike hZ.alike A.2.1) A.2.2 h1 h2 hg hs hd _ k
theorem own_dastore (X : Stand p l e R s m args below meth c T locs cells slots) (hx : p.tables.exec = Jvm.exec) (hZ : Z.Warmed39 s.vm) (eT : T.heap = h) (V : Arx Z h a .double vs) {j : Int32} {x : UInt64} (h0 : ¬ j < 0) (hj : j.toNatClampNeg < vs.length) {g : JFrame} (hg : g.method = m) {rest : List Value} (hs : g.stack = .double x :: .int j :: .ref a :: rest) (hd : decode c.code g.pc = .ok (.dastore, 1)) :
    ∃ T' h', Stand p l e R s m args below meth c T' (locs ++ [⟨a, j.toNatClampNeg⟩]) cells slots ∧ T'.heap = h' ∧ Wr h h' a j.toNatClampNeg (.double x) ∧ Arx Z h' a .double (vs.set j.toNatClampNeg (.double x)) ∧ ∀ t, Steps p.tables e below (T'.setTop { g with pc := g.pc + 1, stack := rest }) t → Steps p.tables e below (T.setTop g) t := by
  obtain ⟨cl, A, h1, h2⟩ := V.put (v := .double x) h0 hj rfl
  obtain ⟨T', h', X', e', W, st⟩ := stD X hx hZ eT A h1 hg hs hd
  exact ⟨T', h', X', e', W, h2 W, st⟩
theorem own_fastore (X : Stand p l e R s m args below meth c T locs cells slots) (hx : p.tables.exec = Jvm.exec) (hZ : Z.Warmed39 s.vm) (eT : T.heap = h) (V : Arx Z h a .float vs) {j : Int32} {x : UInt32} (h0 : ¬ j < 0) (hj : j.toNatClampNeg < vs.length) {g : JFrame} (hg : g.method = m) {rest : List Value} (hs : g.stack = .float x :: .int j :: .ref a :: rest) (hd : decode c.code g.pc = .ok (.fastore, 1)) :
    ∃ T' h', Stand p l e R s m args below meth c T' (locs ++ [⟨a, j.toNatClampNeg⟩]) cells slots ∧ T'.heap = h' ∧ Wr h h' a j.toNatClampNeg (.float x) ∧ Arx Z h' a .float (vs.set j.toNatClampNeg (.float x)) ∧ ∀ t, Steps p.tables e below (T'.setTop { g with pc := g.pc + 1, stack := rest }) t → Steps p.tables e below (T.setTop g) t := by
  obtain ⟨cl, A, h1, h2⟩ := V.put (v := .float x) h0 hj rfl
  obtain ⟨T', h', X', e', W, st⟩ := stF X hx hZ eT A h1 hg hs hd
  exact ⟨T', h', X', e', W, h2 W, st⟩
theorem own_i2dn (x : Int32) : Jvm.Free.Fl.NoNaN64 (FP.i2d x) := nn_w (i2d_w x)
theorem own_i2fn (x : Int32) : Jvm.Free.Fl.NoNaN32 (FP.i2f x) := nn_w32 (i2f_w x)
end OwnF
theorem d4_0 : decode prog_19_method_1_code 0 = .ok (.aload_n 0, 1) := by decide +kernel
theorem d4_1 : decode prog_19_method_1_code 1 = .ok (.invokespecial 1, 3) := by decide +kernel
theorem d4_4 : decode prog_19_method_1_code 4 = .ok (.aload_n 0, 1) := by decide +kernel
theorem d4_5 : decode prog_19_method_1_code 5 = .ok (.lload_n 1, 1) := by decide +kernel
theorem d4_6 : decode prog_19_method_1_code 6 = .ok (.putfield 7, 3) := by decide +kernel
theorem d4_9 : decode prog_19_method_1_code 9 = .ok (.aload_n 0, 1) := by decide +kernel
theorem d4_10 : decode prog_19_method_1_code 10 = .ok (.dload_n 3, 1) := by decide +kernel
theorem d4_11 : decode prog_19_method_1_code 11 = .ok (.putfield 13, 3) := by decide +kernel
theorem d4_14 : decode prog_19_method_1_code 14 = .ok (.aload_n 0, 1) := by decide +kernel
theorem d4_15 : decode prog_19_method_1_code 15 = .ok (.dload 5, 2) := by decide +kernel
theorem d4_17 : decode prog_19_method_1_code 17 = .ok (.putfield 17, 3) := by decide +kernel
theorem d4_20 : decode prog_19_method_1_code 20 = .ok (.return_, 1) := by decide +kernel
theorem pn_com_example_deft_shards_deftshards_index_WeightStatistics : plainName "com/example/deft_shards/deftshards/index/WeightStatistics" = true := by first | (simp [plainName, overriddenIn]; done) | decide +kernel
theorem ef_4 (m : MethodId) (x0 : Addr) (x1 : Int64) (x2 : UInt64) (x3 : UInt64) : entryFrame m #[(.ref x0), (.long x1), (.double x2), (.double x3)] 7 = mkF m 0 #[.val (.ref x0), .val (.long x1), .second, .val (.double x2), .second, .val (.double x3), .second] [] := by first | (simp [entryFrame, mkF, argsToLocals, Value.category]; done) | rfl
def Q4 (Z : State) (a1 : Addr) (q2 : Int64) (d3 : UInt64) (d4 : UInt64) (h0 : Heap) (n0 : Nat) (v : Option Value) (h : Heap) (L : List Loc) : Prop := v = none ∧ Fr n0 L ∧ Keep h0 h [a1] ∧ Exa Z h a1 "com/example/deft_shards/deftshards/index/WeightStatistics" ∧ Fld Z h a1 "com/example/deft_shards/deftshards/index/WeightStatistics" "documentFrequency" "J" (.long q2) ∧ Fld Z h a1 "com/example/deft_shards/deftshards/index/WeightStatistics" "mean" "D" (.double d3) ∧ Fld Z h a1 "com/example/deft_shards/deftshards/index/WeightStatistics" "variance" "D" (.double d4)
set_option maxRecDepth 65536 in
set_option maxHeartbeats 40000000 in
theorem rm4 (l : Launch) (Z : State) (a0 : Array Value) (hw : ∀ d ∈ tables_1, d.before a0 Z = true) (ws : List Jvm.Cond) (a1 : Addr) (q2 : Int64) (d3 : UInt64) (d4 : UInt64) (h0 : Heap) (n0 : Nat) (Z0 : n0 ≤ h0.size) (E_1 : Exa Z h0 a1 "com/example/deft_shards/deftshards/index/WeightStatistics") (F_d : Fld Z h0 a1 "com/example/deft_shards/deftshards/index/WeightStatistics" "documentFrequency" "J" (.long (0 : Int64))) (F_m : Fld Z h0 a1 "com/example/deft_shards/deftshards/index/WeightStatistics" "mean" "D" (.double (0 : UInt64))) (F_v : Fld Z h0 a1 "com/example/deft_shards/deftshards/index/WeightStatistics" "variance" "D" (.double (0 : UInt64))) (g_1 : n0 ≤ a1) :
    own_CT l Z (⟨"com/example/deft_shards/deftshards/index/WeightStatistics", "<init>", "(JDD)V"⟩ : MethodName) prog_19_method_1_code 7 none ws ({ frames := 1, cells := 0, slots := 0, locals := 12 } : Room) #[(.ref a1), (.long q2), (.double d3), (.double d4)] h0 (Q4 Z a1 q2 d3 d4 h0 n0) := by
  refine MetFree.of_bodySF (plainFor_of_name pn_com_example_deft_shards_deftshards_index_WeightStatistics) hisR ?_
  intro p e s m args below meth c s₁ Bd hml0 hP hK
  obtain ⟨rfl, hZ, hh⟩ := hP
  have hx := Bd.exec
  have hby := Bd.bytes
  have hml : c.maxLocals = 7 := hml0
  have hown : s.vm.findClass "com/example/deft_shards/deftshards/index/WeightStatistics" = some m.cls := findClass_of_methodNamed Bd.named
  have hnm := (name_of_methodNamed Bd.named Bd.method).1
  have hlk : meth.locks = false := BodyLoose.notSynchronized Bd
  have X0 : Stand p l e ({ frames := 1, cells := 0, slots := 0, locals := 12 } : Room) s m #[(.ref a1), (.long q2), (.double d3), (.double d4)] below meth c s₁ [] 0 0 := Stand.of_body Bd
  have e0 : s₁.heap = h0 := by rw [← hh, Bd.state]; rfl
  have N0 := Fr.nil n0
  show GG p e below s ({ frames := 1, cells := 0, slots := 0, locals := 12 } : Room).cells ({ frames := 1, cells := 0, slots := 0, locals := 12 } : Room).slots (Q4 Z a1 q2 d3 d4 h0 n0) s₁ (entryFrame m #[(.ref a1), (.long q2), (.double d3), (.double d4)] 7)
  refine own_in (ef_4 m a1 q2 d3 d4) ?_
  show GG _ _ _ _ _ _ _ s₁ (mkF m 0 #[.val (.ref a1), .val (.long q2), .second, .val (.double d3), .second, .val (.double d4), .second] [])
  refine own_go (fun _ => XS.aloadN X0.here hx rfl (hb hby d4_0) rfl rfl) ?_
  show GG _ _ _ _ _ _ _ s₁ (mkF m 1 #[.val (.ref a1), .val (.long q2), .second, .val (.double d3), .second, .val (.double d4), .second] [(.ref a1)])
  obtain ⟨T1, X1, e1, st1⟩ := initO X0 hx hZ hown (hw _ (List.mem_of_getElem? (i := 38) rfl)) (hw _ (List.mem_of_getElem? (i := 14) rfl)) (hw _ (List.mem_of_getElem? (i := 15) rfl)) e0 (g := (mkF m 1 #[.val (.ref a1), .val (.long q2), .second, .val (.double d3), .second, .val (.double d4), .second] [(.ref a1)])) rfl (by rw [hml]; rfl) rfl (hb hby d4_1) (by decide) (W := 0) (by show 2 * 0 + _ ≤ _; exact Nat.le_of_eq rfl) (by decide)
  refine own_go (fun _ => st1 _) ?_
  show GG _ _ _ _ _ _ _ T1 (mkF m 4 #[.val (.ref a1), .val (.long q2), .second, .val (.double d3), .second, .val (.double d4), .second] [])
  refine own_go (fun _ => XS.aloadN X1.here hx rfl (hb hby d4_4) rfl rfl) ?_
  show GG _ _ _ _ _ _ _ T1 (mkF m 5 #[.val (.ref a1), .val (.long q2), .second, .val (.double d3), .second, .val (.double d4), .second] [(.ref a1)])
  refine own_go (fun _ => XS.lloadN X1.here hx rfl (hb hby d4_5) rfl) ?_
  show GG _ _ _ _ _ _ _ T1 (mkF m 6 #[.val (.ref a1), .val (.long q2), .second, .val (.double d3), .second, .val (.double d4), .second] [(.long q2), (.ref a1)])
  have K0 := Keep.refl h0 [a1]
  obtain ⟨T2, h2, X2, e2, W2, st2⟩ := putF X1 hx hZ hown (host := "") (Or.inl (hw _ (List.mem_of_getElem? (i := 39) rfl))) Via.refl e1 F_d E_1 (Or.inr ⟨(hw _ (List.mem_of_getElem? (i := 40) rfl)), rfl, hnm⟩) (hw _ (List.mem_of_getElem? (i := 34) rfl)) (ty := .long) (by decide) rfl rfl (g := (mkF m 6 #[.val (.ref a1), .val (.long q2), .second, .val (.double d3), .second, .val (.double d4), .second] [(.long q2), (.ref a1)])) rfl rfl (hb hby d4_6)
  have E_1 := E_1.wr W2
  have F_m := F_m.other W2 (Or.inr (slot_ne (Or.inr (hw _ (List.mem_of_getElem? (i := 42) rfl))) (Or.inr (hw _ (List.mem_of_getElem? (i := 40) rfl))) (by decide) (t := .double) (t' := .long) (by decide) (by decide)))
  have F_v := F_v.other W2 (Or.inr (slot_ne (Or.inr (hw _ (List.mem_of_getElem? (i := 44) rfl))) (Or.inr (hw _ (List.mem_of_getElem? (i := 40) rfl))) (by decide) (t := .double) (t' := .long) (by decide) (by decide)))
  have K0 := K0.wr W2 (Or.inl (List.mem_of_getElem? (i := 0) rfl))
  have F_d := F_d.same W2
  have N2 := Fr.snoc X2 N0 g_1
  refine own_go (fun _ => st2 _) ?_
  show GG _ _ _ _ _ _ _ T2 (mkF m 9 #[.val (.ref a1), .val (.long q2), .second, .val (.double d3), .second, .val (.double d4), .second] [])
  refine own_go (fun _ => XS.aloadN X2.here hx rfl (hb hby d4_9) rfl rfl) ?_
  show GG _ _ _ _ _ _ _ T2 (mkF m 10 #[.val (.ref a1), .val (.long q2), .second, .val (.double d3), .second, .val (.double d4), .second] [(.ref a1)])
  refine own_go (fun _ => XS.dloadN X2.here hx rfl (hb hby d4_10) rfl) ?_
  show GG _ _ _ _ _ _ _ T2 (mkF m 11 #[.val (.ref a1), .val (.long q2), .second, .val (.double d3), .second, .val (.double d4), .second] [(.double d3), (.ref a1)])
  obtain ⟨T3, h3, X3, e3, W3, st3⟩ := putF X2 hx hZ hown (host := "") (Or.inl (hw _ (List.mem_of_getElem? (i := 41) rfl))) Via.refl e2 F_m E_1 (Or.inr ⟨(hw _ (List.mem_of_getElem? (i := 42) rfl)), rfl, hnm⟩) (hw _ (List.mem_of_getElem? (i := 34) rfl)) (ty := .double) (by decide) rfl rfl (g := (mkF m 11 #[.val (.ref a1), .val (.long q2), .second, .val (.double d3), .second, .val (.double d4), .second] [(.double d3), (.ref a1)])) rfl rfl (hb hby d4_11)
  have E_1 := E_1.wr W3
  have F_d := F_d.other W3 (Or.inr (slot_ne (Or.inr (hw _ (List.mem_of_getElem? (i := 40) rfl))) (Or.inr (hw _ (List.mem_of_getElem? (i := 42) rfl))) (by decide) (t := .long) (t' := .double) (by decide) (by decide)))
  have F_v := F_v.other W3 (Or.inr (slot_ne (Or.inr (hw _ (List.mem_of_getElem? (i := 44) rfl))) (Or.inr (hw _ (List.mem_of_getElem? (i := 42) rfl))) (by decide) (t := .double) (t' := .double) (by decide) (by decide)))
  have K0 := K0.wr W3 (Or.inl (List.mem_of_getElem? (i := 0) rfl))
  have F_m := F_m.same W3
  have N3 := Fr.snoc X3 N2 g_1
  refine own_go (fun _ => st3 _) ?_
  show GG _ _ _ _ _ _ _ T3 (mkF m 14 #[.val (.ref a1), .val (.long q2), .second, .val (.double d3), .second, .val (.double d4), .second] [])
  refine own_go (fun _ => XS.aloadN X3.here hx rfl (hb hby d4_14) rfl rfl) ?_
  show GG _ _ _ _ _ _ _ T3 (mkF m 15 #[.val (.ref a1), .val (.long q2), .second, .val (.double d3), .second, .val (.double d4), .second] [(.ref a1)])
  refine own_go (fun _ => XS.dload X3.here hx rfl (hb hby d4_15) rfl) ?_
  show GG _ _ _ _ _ _ _ T3 (mkF m 17 #[.val (.ref a1), .val (.long q2), .second, .val (.double d3), .second, .val (.double d4), .second] [(.double d4), (.ref a1)])
  obtain ⟨T4, h4, X4, e4, W4, st4⟩ := putF X3 hx hZ hown (host := "") (Or.inl (hw _ (List.mem_of_getElem? (i := 43) rfl))) Via.refl e3 F_v E_1 (Or.inr ⟨(hw _ (List.mem_of_getElem? (i := 44) rfl)), rfl, hnm⟩) (hw _ (List.mem_of_getElem? (i := 34) rfl)) (ty := .double) (by decide) rfl rfl (g := (mkF m 17 #[.val (.ref a1), .val (.long q2), .second, .val (.double d3), .second, .val (.double d4), .second] [(.double d4), (.ref a1)])) rfl rfl (hb hby d4_17)
  have E_1 := E_1.wr W4
  have F_d := F_d.other W4 (Or.inr (slot_ne (Or.inr (hw _ (List.mem_of_getElem? (i := 40) rfl))) (Or.inr (hw _ (List.mem_of_getElem? (i := 44) rfl))) (by decide) (t := .long) (t' := .double) (by decide) (by decide)))
  have F_m := F_m.other W4 (Or.inr (slot_ne (Or.inr (hw _ (List.mem_of_getElem? (i := 42) rfl))) (Or.inr (hw _ (List.mem_of_getElem? (i := 44) rfl))) (by decide) (t := .double) (t' := .double) (by decide) (by decide)))
  have K0 := K0.wr W4 (Or.inl (List.mem_of_getElem? (i := 0) rfl))
  have F_v := F_v.same W4
  have N4 := Fr.snoc X4 N3 g_1
  refine own_go (fun _ => st4 _) ?_
  show GG _ _ _ _ _ _ _ T4 (mkF m 20 #[.val (.ref a1), .val (.long q2), .second, .val (.double d3), .second, .val (.double d4), .second] [])
  refine own_retV X4 hx hlk Bd.returns (hb hby d4_20) (by decide) (by decide) ?_
  show Q4 Z a1 q2 d3 d4 h0 n0 (none) T4.heap _
  rw [e4]
  exact ⟨rfl, N4, K0, E_1, F_d, F_m, F_v⟩
theorem d5_0 : decode prog_19_method_2_code 0 = .ok (.aload_n 0, 1) := by decide +kernel
theorem d5_1 : decode prog_19_method_2_code 1 = .ok (.getfield 7, 3) := by decide +kernel
theorem d5_4 : decode prog_19_method_2_code 4 = .ok (.lreturn, 1) := by decide +kernel
theorem ef_5 (m : MethodId) (x0 : Addr) : entryFrame m #[(.ref x0)] 1 = mkF m 0 #[.val (.ref x0)] [] := by first | (simp [entryFrame, mkF, argsToLocals, Value.category]; done) | rfl
def Q5 (Z : State) (a1 : Addr) (z : Int64) (h0 : Heap) (n0 : Nat) (v : Option Value) (h : Heap) (L : List Loc) : Prop := v = some (.long z) ∧ Fr n0 L ∧ h = h0
set_option maxRecDepth 65536 in
set_option maxHeartbeats 40000000 in
theorem rm5 (l : Launch) (Z : State) (a0 : Array Value) (hw : ∀ d ∈ tables_1, d.before a0 Z = true) (ws : List Jvm.Cond) (a1 : Addr) (z : Int64) (h0 : Heap) (n0 : Nat) (Z0 : n0 ≤ h0.size) (F_1 : Fld Z h0 a1 "com/example/deft_shards/deftshards/index/WeightStatistics" "documentFrequency" "J" (.long z)) :
    own_CT l Z (⟨"com/example/deft_shards/deftshards/index/WeightStatistics", "documentFrequency", "()J"⟩ : MethodName) prog_19_method_2_code 1 (some .long) ws ({ frames := 0, cells := 0, slots := 0, locals := 0 } : Room) #[(.ref a1)] h0 (Q5 Z a1 z h0 n0) := by
  refine MetFree.of_bodySF (plainFor_of_name pn_com_example_deft_shards_deftshards_index_WeightStatistics) hisR ?_
  intro p e s m args below meth c s₁ Bd hml0 hP hK
  obtain ⟨rfl, hZ, hh⟩ := hP
  have hx := Bd.exec
  have hby := Bd.bytes
  have hml : c.maxLocals = 1 := hml0
  have hown : s.vm.findClass "com/example/deft_shards/deftshards/index/WeightStatistics" = some m.cls := findClass_of_methodNamed Bd.named
  have hnm := (name_of_methodNamed Bd.named Bd.method).1
  have hlk : meth.locks = false := BodyLoose.notSynchronized Bd
  have X0 : Stand p l e ({ frames := 0, cells := 0, slots := 0, locals := 0 } : Room) s m #[(.ref a1)] below meth c s₁ [] 0 0 := Stand.of_body Bd
  have e0 : s₁.heap = h0 := by rw [← hh, Bd.state]; rfl
  have N0 := Fr.nil n0
  show GG p e below s ({ frames := 0, cells := 0, slots := 0, locals := 0 } : Room).cells ({ frames := 0, cells := 0, slots := 0, locals := 0 } : Room).slots (Q5 Z a1 z h0 n0) s₁ (entryFrame m #[(.ref a1)] 1)
  refine own_in (ef_5 m a1) ?_
  show GG _ _ _ _ _ _ _ s₁ (mkF m 0 #[.val (.ref a1)] [])
  refine own_go (fun _ => XS.aloadN X0.here hx rfl (hb hby d5_0) rfl rfl) ?_
  show GG _ _ _ _ _ _ _ s₁ (mkF m 1 #[.val (.ref a1)] [(.ref a1)])
  obtain ⟨T1, X1, e1, st1⟩ := getF X0 hx hZ hown (host := "") (Or.inl (hw _ (List.mem_of_getElem? (i := 39) rfl))) Via.refl e0 F_1 (g := (mkF m 1 #[.val (.ref a1)] [(.ref a1)])) rfl rfl (hb hby d5_1)
  refine own_go (fun _ => st1 _) ?_
  show GG _ _ _ _ _ _ _ T1 (mkF m 4 #[.val (.ref a1)] [(.long z)])
  refine own_ret X1 hx hlk (t := .long) (w := (.long z)) Bd.returns rfl (Or.inr (Or.inl ⟨rfl, rfl, _, rfl⟩)) (hb hby d5_4) (by decide) (by decide) ?_
  show Q5 Z a1 z h0 n0 (some (.long z)) T1.heap _
  rw [e1]
  exact ⟨rfl, N0, rfl⟩
theorem d6_0 : decode prog_19_method_3_code 0 = .ok (.aload_n 0, 1) := by decide +kernel
theorem d6_1 : decode prog_19_method_3_code 1 = .ok (.getfield 13, 3) := by decide +kernel
theorem d6_4 : decode prog_19_method_3_code 4 = .ok (.dreturn, 1) := by decide +kernel
theorem ef_6 (m : MethodId) (x0 : Addr) : entryFrame m #[(.ref x0)] 1 = mkF m 0 #[.val (.ref x0)] [] := by first | (simp [entryFrame, mkF, argsToLocals, Value.category]; done) | rfl
def Q6 (Z : State) (a1 : Addr) (z : UInt64) (h0 : Heap) (n0 : Nat) (v : Option Value) (h : Heap) (L : List Loc) : Prop := v = some (.double z) ∧ Fr n0 L ∧ h = h0
set_option maxRecDepth 65536 in
set_option maxHeartbeats 40000000 in
theorem rm6 (l : Launch) (Z : State) (a0 : Array Value) (hw : ∀ d ∈ tables_1, d.before a0 Z = true) (ws : List Jvm.Cond) (a1 : Addr) (z : UInt64) (h0 : Heap) (n0 : Nat) (Z0 : n0 ≤ h0.size) (F_1 : Fld Z h0 a1 "com/example/deft_shards/deftshards/index/WeightStatistics" "mean" "D" (.double z)) :
    own_CT l Z (⟨"com/example/deft_shards/deftshards/index/WeightStatistics", "mean", "()D"⟩ : MethodName) prog_19_method_3_code 1 (some .double) ws ({ frames := 0, cells := 0, slots := 0, locals := 0 } : Room) #[(.ref a1)] h0 (Q6 Z a1 z h0 n0) := by
  refine MetFree.of_bodySF (plainFor_of_name pn_com_example_deft_shards_deftshards_index_WeightStatistics) hisR ?_
  intro p e s m args below meth c s₁ Bd hml0 hP hK
  obtain ⟨rfl, hZ, hh⟩ := hP
  have hx := Bd.exec
  have hby := Bd.bytes
  have hml : c.maxLocals = 1 := hml0
  have hown : s.vm.findClass "com/example/deft_shards/deftshards/index/WeightStatistics" = some m.cls := findClass_of_methodNamed Bd.named
  have hnm := (name_of_methodNamed Bd.named Bd.method).1
  have hlk : meth.locks = false := BodyLoose.notSynchronized Bd
  have X0 : Stand p l e ({ frames := 0, cells := 0, slots := 0, locals := 0 } : Room) s m #[(.ref a1)] below meth c s₁ [] 0 0 := Stand.of_body Bd
  have e0 : s₁.heap = h0 := by rw [← hh, Bd.state]; rfl
  have N0 := Fr.nil n0
  show GG p e below s ({ frames := 0, cells := 0, slots := 0, locals := 0 } : Room).cells ({ frames := 0, cells := 0, slots := 0, locals := 0 } : Room).slots (Q6 Z a1 z h0 n0) s₁ (entryFrame m #[(.ref a1)] 1)
  refine own_in (ef_6 m a1) ?_
  show GG _ _ _ _ _ _ _ s₁ (mkF m 0 #[.val (.ref a1)] [])
  refine own_go (fun _ => XS.aloadN X0.here hx rfl (hb hby d6_0) rfl rfl) ?_
  show GG _ _ _ _ _ _ _ s₁ (mkF m 1 #[.val (.ref a1)] [(.ref a1)])
  obtain ⟨T1, X1, e1, st1⟩ := getF X0 hx hZ hown (host := "") (Or.inl (hw _ (List.mem_of_getElem? (i := 41) rfl))) Via.refl e0 F_1 (g := (mkF m 1 #[.val (.ref a1)] [(.ref a1)])) rfl rfl (hb hby d6_1)
  refine own_go (fun _ => st1 _) ?_
  show GG _ _ _ _ _ _ _ T1 (mkF m 4 #[.val (.ref a1)] [(.double z)])
  refine own_ret X1 hx hlk (t := .double) (w := (.double z)) Bd.returns rfl (Or.inr (Or.inr (Or.inl ⟨rfl, rfl, _, rfl⟩))) (hb hby d6_4) (by decide) (by decide) ?_
  show Q6 Z a1 z h0 n0 (some (.double z)) T1.heap _
  rw [e1]
  exact ⟨rfl, N0, rfl⟩
theorem d7_0 : decode prog_19_method_4_code 0 = .ok (.aload_n 0, 1) := by decide +kernel
theorem d7_1 : decode prog_19_method_4_code 1 = .ok (.getfield 17, 3) := by decide +kernel
theorem d7_4 : decode prog_19_method_4_code 4 = .ok (.dreturn, 1) := by decide +kernel
theorem ef_7 (m : MethodId) (x0 : Addr) : entryFrame m #[(.ref x0)] 1 = mkF m 0 #[.val (.ref x0)] [] := by first | (simp [entryFrame, mkF, argsToLocals, Value.category]; done) | rfl
def Q7 (Z : State) (a1 : Addr) (z : UInt64) (h0 : Heap) (n0 : Nat) (v : Option Value) (h : Heap) (L : List Loc) : Prop := v = some (.double z) ∧ Fr n0 L ∧ h = h0
set_option maxRecDepth 65536 in
set_option maxHeartbeats 40000000 in
theorem rm7 (l : Launch) (Z : State) (a0 : Array Value) (hw : ∀ d ∈ tables_1, d.before a0 Z = true) (ws : List Jvm.Cond) (a1 : Addr) (z : UInt64) (h0 : Heap) (n0 : Nat) (Z0 : n0 ≤ h0.size) (F_1 : Fld Z h0 a1 "com/example/deft_shards/deftshards/index/WeightStatistics" "variance" "D" (.double z)) :
    own_CT l Z (⟨"com/example/deft_shards/deftshards/index/WeightStatistics", "variance", "()D"⟩ : MethodName) prog_19_method_4_code 1 (some .double) ws ({ frames := 0, cells := 0, slots := 0, locals := 0 } : Room) #[(.ref a1)] h0 (Q7 Z a1 z h0 n0) := by
  refine MetFree.of_bodySF (plainFor_of_name pn_com_example_deft_shards_deftshards_index_WeightStatistics) hisR ?_
  intro p e s m args below meth c s₁ Bd hml0 hP hK
  obtain ⟨rfl, hZ, hh⟩ := hP
  have hx := Bd.exec
  have hby := Bd.bytes
  have hml : c.maxLocals = 1 := hml0
  have hown : s.vm.findClass "com/example/deft_shards/deftshards/index/WeightStatistics" = some m.cls := findClass_of_methodNamed Bd.named
  have hnm := (name_of_methodNamed Bd.named Bd.method).1
  have hlk : meth.locks = false := BodyLoose.notSynchronized Bd
  have X0 : Stand p l e ({ frames := 0, cells := 0, slots := 0, locals := 0 } : Room) s m #[(.ref a1)] below meth c s₁ [] 0 0 := Stand.of_body Bd
  have e0 : s₁.heap = h0 := by rw [← hh, Bd.state]; rfl
  have N0 := Fr.nil n0
  show GG p e below s ({ frames := 0, cells := 0, slots := 0, locals := 0 } : Room).cells ({ frames := 0, cells := 0, slots := 0, locals := 0 } : Room).slots (Q7 Z a1 z h0 n0) s₁ (entryFrame m #[(.ref a1)] 1)
  refine own_in (ef_7 m a1) ?_
  show GG _ _ _ _ _ _ _ s₁ (mkF m 0 #[.val (.ref a1)] [])
  refine own_go (fun _ => XS.aloadN X0.here hx rfl (hb hby d7_0) rfl rfl) ?_
  show GG _ _ _ _ _ _ _ s₁ (mkF m 1 #[.val (.ref a1)] [(.ref a1)])
  obtain ⟨T1, X1, e1, st1⟩ := getF X0 hx hZ hown (host := "") (Or.inl (hw _ (List.mem_of_getElem? (i := 43) rfl))) Via.refl e0 F_1 (g := (mkF m 1 #[.val (.ref a1)] [(.ref a1)])) rfl rfl (hb hby d7_1)
  refine own_go (fun _ => st1 _) ?_
  show GG _ _ _ _ _ _ _ T1 (mkF m 4 #[.val (.ref a1)] [(.double z)])
  refine own_ret X1 hx hlk (t := .double) (w := (.double z)) Bd.returns rfl (Or.inr (Or.inr (Or.inl ⟨rfl, rfl, _, rfl⟩))) (hb hby d7_4) (by decide) (by decide) ?_
  show Q7 Z a1 z h0 n0 (some (.double z)) T1.heap _
  rw [e1]
  exact ⟨rfl, N0, rfl⟩
theorem d1_0 : decode prog_17_method_1_code 0 = .ok (.aload_n 0, 1) := by decide +kernel
theorem d1_1 : decode prog_17_method_1_code 1 = .ok (.invokespecial 1, 3) := by decide +kernel
theorem d1_4 : decode prog_17_method_1_code 4 = .ok (.aload_n 0, 1) := by decide +kernel
theorem d1_5 : decode prog_17_method_1_code 5 = .ok (.aload_n 1, 1) := by decide +kernel
theorem d1_6 : decode prog_17_method_1_code 6 = .ok (.putfield 7, 3) := by decide +kernel
theorem d1_9 : decode prog_17_method_1_code 9 = .ok (.aload_n 0, 1) := by decide +kernel
theorem d1_10 : decode prog_17_method_1_code 10 = .ok (.iload_n 2, 1) := by decide +kernel
theorem d1_11 : decode prog_17_method_1_code 11 = .ok (.putfield 13, 3) := by decide +kernel
theorem d1_14 : decode prog_17_method_1_code 14 = .ok (.aload_n 0, 1) := by decide +kernel
theorem d1_15 : decode prog_17_method_1_code 15 = .ok (.aload_n 3, 1) := by decide +kernel
theorem d1_16 : decode prog_17_method_1_code 16 = .ok (.putfield 17, 3) := by decide +kernel
theorem d1_19 : decode prog_17_method_1_code 19 = .ok (.aload_n 0, 1) := by decide +kernel
theorem d1_20 : decode prog_17_method_1_code 20 = .ok (.aload 4, 2) := by decide +kernel
theorem d1_22 : decode prog_17_method_1_code 22 = .ok (.putfield 21, 3) := by decide +kernel
theorem d1_25 : decode prog_17_method_1_code 25 = .ok (.aload_n 0, 1) := by decide +kernel
theorem d1_26 : decode prog_17_method_1_code 26 = .ok (.aload 5, 2) := by decide +kernel
theorem d1_28 : decode prog_17_method_1_code 28 = .ok (.putfield 25, 3) := by decide +kernel
theorem d1_31 : decode prog_17_method_1_code 31 = .ok (.aload_n 0, 1) := by decide +kernel
theorem d1_32 : decode prog_17_method_1_code 32 = .ok (.aload 6, 2) := by decide +kernel
theorem d1_34 : decode prog_17_method_1_code 34 = .ok (.putfield 29, 3) := by decide +kernel
theorem d1_37 : decode prog_17_method_1_code 37 = .ok (.return_, 1) := by decide +kernel
theorem pn_com_example_deft_shards_deftshards_index_TermWeights : plainName "com/example/deft_shards/deftshards/index/TermWeights" = true := by first | (simp [plainName, overriddenIn]; done) | decide +kernel
theorem ef_1 (m : MethodId) (x0 : Addr) (x1 : Addr) (x2 : Int32) (x3 : Addr) (x4 : Addr) (x5 : Addr) (x6 : Addr) : entryFrame m #[(.ref x0), (.ref x1), (.int x2), (.ref x3), (.ref x4), (.ref x5), (.ref x6)] 7 = mkF m 0 #[.val (.ref x0), .val (.ref x1), .val (.int x2), .val (.ref x3), .val (.ref x4), .val (.ref x5), .val (.ref x6)] [] := by first | (simp [entryFrame, mkF, argsToLocals, Value.category]; done) | rfl
def Q1 (Z : State) (a1 : Addr) (a2 : Addr) (p3 : Int32) (a4 : Addr) (a5 : Addr) (a6 : Addr) (a7 : Addr) (h0 : Heap) (n0 : Nat) (v : Option Value) (h : Heap) (L : List Loc) : Prop := v = none ∧ Fr n0 L ∧ Keep h0 h [a1] ∧ Exa Z h a1 "com/example/deft_shards/deftshards/index/TermWeights" ∧ Fld Z h a1 "com/example/deft_shards/deftshards/index/TermWeights" "frequencies" "[J" (.ref a5) ∧ Fld Z h a1 "com/example/deft_shards/deftshards/index/TermWeights" "means" "[D" (.ref a6) ∧ Fld Z h a1 "com/example/deft_shards/deftshards/index/TermWeights" "variances" "[D" (.ref a7)
set_option maxRecDepth 65536 in
set_option maxHeartbeats 40000000 in
theorem rm1 (l : Launch) (Z : State) (a0 : Array Value) (hw : ∀ d ∈ tables_1, d.before a0 Z = true) (ws : List Jvm.Cond) (a1 : Addr) (a2 : Addr) (p3 : Int32) (a4 : Addr) (a5 : Addr) (a6 : Addr) (a7 : Addr) (h0 : Heap) (n0 : Nat) (Z0 : n0 ≤ h0.size) (E_1 : Exa Z h0 a1 "com/example/deft_shards/deftshards/index/TermWeights") (g_1 : n0 ≤ a1) (F_collection : Fld Z h0 a1 "com/example/deft_shards/deftshards/index/TermWeights" "collection" "Lcom/example/deft_shards/deftshards/index/WeightStatistics;" .null) (F_shardCount : Fld Z h0 a1 "com/example/deft_shards/deftshards/index/TermWeights" "shardCount" "I" (.int (0 : Int32))) (F_holders : Fld Z h0 a1 "com/example/deft_shards/deftshards/index/TermWeights" "holders" "[I" .null) (F_frequencies : Fld Z h0 a1 "com/example/deft_shards/deftshards/index/TermWeights" "frequencies" "[J" .null) (F_means : Fld Z h0 a1 "com/example/deft_shards/deftshards/index/TermWeights" "means" "[D" .null) (F_variances : Fld Z h0 a1 "com/example/deft_shards/deftshards/index/TermWeights" "variances" "[D" .null) :
    own_CT l Z (⟨"com/example/deft_shards/deftshards/index/TermWeights", "<init>", "(Lcom/example/deft_shards/deftshards/index/WeightStatistics;I[I[J[D[D)V"⟩ : MethodName) prog_17_method_1_code 7 none ws ({ frames := 1, cells := 0, slots := 0, locals := 12 } : Room) #[(.ref a1), (.ref a2), (.int p3), (.ref a4), (.ref a5), (.ref a6), (.ref a7)] h0 (Q1 Z a1 a2 p3 a4 a5 a6 a7 h0 n0) := by
  refine MetFree.of_bodySF (plainFor_of_name pn_com_example_deft_shards_deftshards_index_TermWeights) hisR ?_
  intro p e s m args below meth c s₁ Bd hml0 hP hK
  obtain ⟨rfl, hZ, hh⟩ := hP
  have hx := Bd.exec
  have hby := Bd.bytes
  have hml : c.maxLocals = 7 := hml0
  have hown : s.vm.findClass "com/example/deft_shards/deftshards/index/TermWeights" = some m.cls := findClass_of_methodNamed Bd.named
  have hnm := (name_of_methodNamed Bd.named Bd.method).1
  have hlk : meth.locks = false := BodyLoose.notSynchronized Bd
  have X0 : Stand p l e ({ frames := 1, cells := 0, slots := 0, locals := 12 } : Room) s m #[(.ref a1), (.ref a2), (.int p3), (.ref a4), (.ref a5), (.ref a6), (.ref a7)] below meth c s₁ [] 0 0 := Stand.of_body Bd
  have e0 : s₁.heap = h0 := by rw [← hh, Bd.state]; rfl
  have N0 := Fr.nil n0
  show GG p e below s ({ frames := 1, cells := 0, slots := 0, locals := 12 } : Room).cells ({ frames := 1, cells := 0, slots := 0, locals := 12 } : Room).slots (Q1 Z a1 a2 p3 a4 a5 a6 a7 h0 n0) s₁ (entryFrame m #[(.ref a1), (.ref a2), (.int p3), (.ref a4), (.ref a5), (.ref a6), (.ref a7)] 7)
  refine own_in (ef_1 m a1 a2 p3 a4 a5 a6 a7) ?_
  show GG _ _ _ _ _ _ _ s₁ (mkF m 0 #[.val (.ref a1), .val (.ref a2), .val (.int p3), .val (.ref a4), .val (.ref a5), .val (.ref a6), .val (.ref a7)] [])
  refine own_go (fun _ => XS.aloadN X0.here hx rfl (hb hby d1_0) rfl rfl) ?_
  show GG _ _ _ _ _ _ _ s₁ (mkF m 1 #[.val (.ref a1), .val (.ref a2), .val (.int p3), .val (.ref a4), .val (.ref a5), .val (.ref a6), .val (.ref a7)] [(.ref a1)])
  obtain ⟨T1, X1, e1, st1⟩ := initO X0 hx hZ hown (hw _ (List.mem_of_getElem? (i := 13) rfl)) (hw _ (List.mem_of_getElem? (i := 14) rfl)) (hw _ (List.mem_of_getElem? (i := 15) rfl)) e0 (g := (mkF m 1 #[.val (.ref a1), .val (.ref a2), .val (.int p3), .val (.ref a4), .val (.ref a5), .val (.ref a6), .val (.ref a7)] [(.ref a1)])) rfl (by rw [hml]; rfl) rfl (hb hby d1_1) (by decide) (W := 0) (by show 2 * 0 + _ ≤ _; exact Nat.le_of_eq rfl) (by decide)
  refine own_go (fun _ => st1 _) ?_
  show GG _ _ _ _ _ _ _ T1 (mkF m 4 #[.val (.ref a1), .val (.ref a2), .val (.int p3), .val (.ref a4), .val (.ref a5), .val (.ref a6), .val (.ref a7)] [])
  refine own_go (fun _ => XS.aloadN X1.here hx rfl (hb hby d1_4) rfl rfl) ?_
  show GG _ _ _ _ _ _ _ T1 (mkF m 5 #[.val (.ref a1), .val (.ref a2), .val (.int p3), .val (.ref a4), .val (.ref a5), .val (.ref a6), .val (.ref a7)] [(.ref a1)])
  refine own_go (fun _ => XS.aloadN X1.here hx rfl (hb hby d1_5) rfl rfl) ?_
  show GG _ _ _ _ _ _ _ T1 (mkF m 6 #[.val (.ref a1), .val (.ref a2), .val (.int p3), .val (.ref a4), .val (.ref a5), .val (.ref a6), .val (.ref a7)] [(.ref a2), (.ref a1)])
  have K0 := Keep.refl h0 [a1]
  obtain ⟨T2, h2, X2, e2, W2, st2⟩ := putF X1 hx hZ hown (host := "") (Or.inl (hw _ (List.mem_of_getElem? (i := 16) rfl))) Via.refl e1 F_collection E_1 (Or.inr ⟨(hw _ (List.mem_of_getElem? (i := 17) rfl)), rfl, hnm⟩) (hw _ (List.mem_of_getElem? (i := 5) rfl)) (ty := (.object "com/example/deft_shards/deftshards/index/WeightStatistics")) (by decide) rfl rfl (g := (mkF m 6 #[.val (.ref a1), .val (.ref a2), .val (.int p3), .val (.ref a4), .val (.ref a5), .val (.ref a6), .val (.ref a7)] [(.ref a2), (.ref a1)])) rfl rfl (hb hby d1_6)
  have E_1 := E_1.wr W2
  have F_shardCount := F_shardCount.other W2 (Or.inr (slot_ne (Or.inr (hw _ (List.mem_of_getElem? (i := 19) rfl))) (Or.inr (hw _ (List.mem_of_getElem? (i := 17) rfl))) (by decide) (t := .int) (t' := (.object "com/example/deft_shards/deftshards/index/WeightStatistics")) (by decide) (by decide)))
  have F_holders := F_holders.other W2 (Or.inr (slot_ne (Or.inr (hw _ (List.mem_of_getElem? (i := 21) rfl))) (Or.inr (hw _ (List.mem_of_getElem? (i := 17) rfl))) (by decide) (t := (.array .int)) (t' := (.object "com/example/deft_shards/deftshards/index/WeightStatistics")) (by decide) (by decide)))
  have F_frequencies := F_frequencies.other W2 (Or.inr (slot_ne (Or.inr (hw _ (List.mem_of_getElem? (i := 23) rfl))) (Or.inr (hw _ (List.mem_of_getElem? (i := 17) rfl))) (by decide) (t := (.array .long)) (t' := (.object "com/example/deft_shards/deftshards/index/WeightStatistics")) (by decide) (by decide)))
  have F_means := F_means.other W2 (Or.inr (slot_ne (Or.inr (hw _ (List.mem_of_getElem? (i := 25) rfl))) (Or.inr (hw _ (List.mem_of_getElem? (i := 17) rfl))) (by decide) (t := (.array .double)) (t' := (.object "com/example/deft_shards/deftshards/index/WeightStatistics")) (by decide) (by decide)))
  have F_variances := F_variances.other W2 (Or.inr (slot_ne (Or.inr (hw _ (List.mem_of_getElem? (i := 27) rfl))) (Or.inr (hw _ (List.mem_of_getElem? (i := 17) rfl))) (by decide) (t := (.array .double)) (t' := (.object "com/example/deft_shards/deftshards/index/WeightStatistics")) (by decide) (by decide)))
  have K0 := K0.wr W2 (Or.inl (List.mem_of_getElem? (i := 0) rfl))
  have F_collection := F_collection.same W2
  have N2 := Fr.snoc X2 N0 g_1
  refine own_go (fun _ => st2 _) ?_
  show GG _ _ _ _ _ _ _ T2 (mkF m 9 #[.val (.ref a1), .val (.ref a2), .val (.int p3), .val (.ref a4), .val (.ref a5), .val (.ref a6), .val (.ref a7)] [])
  refine own_go (fun _ => XS.aloadN X2.here hx rfl (hb hby d1_9) rfl rfl) ?_
  show GG _ _ _ _ _ _ _ T2 (mkF m 10 #[.val (.ref a1), .val (.ref a2), .val (.int p3), .val (.ref a4), .val (.ref a5), .val (.ref a6), .val (.ref a7)] [(.ref a1)])
  refine own_go (fun _ => XS.iloadN X2.here hx rfl (hb hby d1_10) rfl) ?_
  show GG _ _ _ _ _ _ _ T2 (mkF m 11 #[.val (.ref a1), .val (.ref a2), .val (.int p3), .val (.ref a4), .val (.ref a5), .val (.ref a6), .val (.ref a7)] [(.int p3), (.ref a1)])
  obtain ⟨T3, h3, X3, e3, W3, st3⟩ := putF X2 hx hZ hown (host := "") (Or.inl (hw _ (List.mem_of_getElem? (i := 18) rfl))) Via.refl e2 F_shardCount E_1 (Or.inr ⟨(hw _ (List.mem_of_getElem? (i := 19) rfl)), rfl, hnm⟩) (hw _ (List.mem_of_getElem? (i := 5) rfl)) (ty := .int) (by decide) rfl rfl (g := (mkF m 11 #[.val (.ref a1), .val (.ref a2), .val (.int p3), .val (.ref a4), .val (.ref a5), .val (.ref a6), .val (.ref a7)] [(.int p3), (.ref a1)])) rfl rfl (hb hby d1_11)
  have E_1 := E_1.wr W3
  have F_collection := F_collection.other W3 (Or.inr (slot_ne (Or.inr (hw _ (List.mem_of_getElem? (i := 17) rfl))) (Or.inr (hw _ (List.mem_of_getElem? (i := 19) rfl))) (by decide) (t := (.object "com/example/deft_shards/deftshards/index/WeightStatistics")) (t' := .int) (by decide) (by decide)))
  have F_holders := F_holders.other W3 (Or.inr (slot_ne (Or.inr (hw _ (List.mem_of_getElem? (i := 21) rfl))) (Or.inr (hw _ (List.mem_of_getElem? (i := 19) rfl))) (by decide) (t := (.array .int)) (t' := .int) (by decide) (by decide)))
  have F_frequencies := F_frequencies.other W3 (Or.inr (slot_ne (Or.inr (hw _ (List.mem_of_getElem? (i := 23) rfl))) (Or.inr (hw _ (List.mem_of_getElem? (i := 19) rfl))) (by decide) (t := (.array .long)) (t' := .int) (by decide) (by decide)))
  have F_means := F_means.other W3 (Or.inr (slot_ne (Or.inr (hw _ (List.mem_of_getElem? (i := 25) rfl))) (Or.inr (hw _ (List.mem_of_getElem? (i := 19) rfl))) (by decide) (t := (.array .double)) (t' := .int) (by decide) (by decide)))
  have F_variances := F_variances.other W3 (Or.inr (slot_ne (Or.inr (hw _ (List.mem_of_getElem? (i := 27) rfl))) (Or.inr (hw _ (List.mem_of_getElem? (i := 19) rfl))) (by decide) (t := (.array .double)) (t' := .int) (by decide) (by decide)))
  have K0 := K0.wr W3 (Or.inl (List.mem_of_getElem? (i := 0) rfl))
  have F_shardCount := F_shardCount.same W3
  have N3 := Fr.snoc X3 N2 g_1
  refine own_go (fun _ => st3 _) ?_
  show GG _ _ _ _ _ _ _ T3 (mkF m 14 #[.val (.ref a1), .val (.ref a2), .val (.int p3), .val (.ref a4), .val (.ref a5), .val (.ref a6), .val (.ref a7)] [])
  refine own_go (fun _ => XS.aloadN X3.here hx rfl (hb hby d1_14) rfl rfl) ?_
  show GG _ _ _ _ _ _ _ T3 (mkF m 15 #[.val (.ref a1), .val (.ref a2), .val (.int p3), .val (.ref a4), .val (.ref a5), .val (.ref a6), .val (.ref a7)] [(.ref a1)])
  refine own_go (fun _ => XS.aloadN X3.here hx rfl (hb hby d1_15) rfl rfl) ?_
  show GG _ _ _ _ _ _ _ T3 (mkF m 16 #[.val (.ref a1), .val (.ref a2), .val (.int p3), .val (.ref a4), .val (.ref a5), .val (.ref a6), .val (.ref a7)] [(.ref a4), (.ref a1)])
  obtain ⟨T4, h4, X4, e4, W4, st4⟩ := putF X3 hx hZ hown (host := "") (Or.inl (hw _ (List.mem_of_getElem? (i := 20) rfl))) Via.refl e3 F_holders E_1 (Or.inr ⟨(hw _ (List.mem_of_getElem? (i := 21) rfl)), rfl, hnm⟩) (hw _ (List.mem_of_getElem? (i := 5) rfl)) (ty := (.array .int)) (by decide) rfl rfl (g := (mkF m 16 #[.val (.ref a1), .val (.ref a2), .val (.int p3), .val (.ref a4), .val (.ref a5), .val (.ref a6), .val (.ref a7)] [(.ref a4), (.ref a1)])) rfl rfl (hb hby d1_16)
  have E_1 := E_1.wr W4
  have F_collection := F_collection.other W4 (Or.inr (slot_ne (Or.inr (hw _ (List.mem_of_getElem? (i := 17) rfl))) (Or.inr (hw _ (List.mem_of_getElem? (i := 21) rfl))) (by decide) (t := (.object "com/example/deft_shards/deftshards/index/WeightStatistics")) (t' := (.array .int)) (by decide) (by decide)))
  have F_shardCount := F_shardCount.other W4 (Or.inr (slot_ne (Or.inr (hw _ (List.mem_of_getElem? (i := 19) rfl))) (Or.inr (hw _ (List.mem_of_getElem? (i := 21) rfl))) (by decide) (t := .int) (t' := (.array .int)) (by decide) (by decide)))
  have F_frequencies := F_frequencies.other W4 (Or.inr (slot_ne (Or.inr (hw _ (List.mem_of_getElem? (i := 23) rfl))) (Or.inr (hw _ (List.mem_of_getElem? (i := 21) rfl))) (by decide) (t := (.array .long)) (t' := (.array .int)) (by decide) (by decide)))
  have F_means := F_means.other W4 (Or.inr (slot_ne (Or.inr (hw _ (List.mem_of_getElem? (i := 25) rfl))) (Or.inr (hw _ (List.mem_of_getElem? (i := 21) rfl))) (by decide) (t := (.array .double)) (t' := (.array .int)) (by decide) (by decide)))
  have F_variances := F_variances.other W4 (Or.inr (slot_ne (Or.inr (hw _ (List.mem_of_getElem? (i := 27) rfl))) (Or.inr (hw _ (List.mem_of_getElem? (i := 21) rfl))) (by decide) (t := (.array .double)) (t' := (.array .int)) (by decide) (by decide)))
  have K0 := K0.wr W4 (Or.inl (List.mem_of_getElem? (i := 0) rfl))
  have F_holders := F_holders.same W4
  have N4 := Fr.snoc X4 N3 g_1
  refine own_go (fun _ => st4 _) ?_
  show GG _ _ _ _ _ _ _ T4 (mkF m 19 #[.val (.ref a1), .val (.ref a2), .val (.int p3), .val (.ref a4), .val (.ref a5), .val (.ref a6), .val (.ref a7)] [])
  refine own_go (fun _ => XS.aloadN X4.here hx rfl (hb hby d1_19) rfl rfl) ?_
  show GG _ _ _ _ _ _ _ T4 (mkF m 20 #[.val (.ref a1), .val (.ref a2), .val (.int p3), .val (.ref a4), .val (.ref a5), .val (.ref a6), .val (.ref a7)] [(.ref a1)])
  refine own_go (fun _ => XS.aload X4.here hx rfl (hb hby d1_20) rfl rfl) ?_
  show GG _ _ _ _ _ _ _ T4 (mkF m 22 #[.val (.ref a1), .val (.ref a2), .val (.int p3), .val (.ref a4), .val (.ref a5), .val (.ref a6), .val (.ref a7)] [(.ref a5), (.ref a1)])
  obtain ⟨T5, h5, X5, e5, W5, st5⟩ := putF X4 hx hZ hown (host := "") (Or.inl (hw _ (List.mem_of_getElem? (i := 22) rfl))) Via.refl e4 F_frequencies E_1 (Or.inr ⟨(hw _ (List.mem_of_getElem? (i := 23) rfl)), rfl, hnm⟩) (hw _ (List.mem_of_getElem? (i := 5) rfl)) (ty := (.array .long)) (by decide) rfl rfl (g := (mkF m 22 #[.val (.ref a1), .val (.ref a2), .val (.int p3), .val (.ref a4), .val (.ref a5), .val (.ref a6), .val (.ref a7)] [(.ref a5), (.ref a1)])) rfl rfl (hb hby d1_22)
  have E_1 := E_1.wr W5
  have F_collection := F_collection.other W5 (Or.inr (slot_ne (Or.inr (hw _ (List.mem_of_getElem? (i := 17) rfl))) (Or.inr (hw _ (List.mem_of_getElem? (i := 23) rfl))) (by decide) (t := (.object "com/example/deft_shards/deftshards/index/WeightStatistics")) (t' := (.array .long)) (by decide) (by decide)))
  have F_shardCount := F_shardCount.other W5 (Or.inr (slot_ne (Or.inr (hw _ (List.mem_of_getElem? (i := 19) rfl))) (Or.inr (hw _ (List.mem_of_getElem? (i := 23) rfl))) (by decide) (t := .int) (t' := (.array .long)) (by decide) (by decide)))
  have F_holders := F_holders.other W5 (Or.inr (slot_ne (Or.inr (hw _ (List.mem_of_getElem? (i := 21) rfl))) (Or.inr (hw _ (List.mem_of_getElem? (i := 23) rfl))) (by decide) (t := (.array .int)) (t' := (.array .long)) (by decide) (by decide)))
  have F_means := F_means.other W5 (Or.inr (slot_ne (Or.inr (hw _ (List.mem_of_getElem? (i := 25) rfl))) (Or.inr (hw _ (List.mem_of_getElem? (i := 23) rfl))) (by decide) (t := (.array .double)) (t' := (.array .long)) (by decide) (by decide)))
  have F_variances := F_variances.other W5 (Or.inr (slot_ne (Or.inr (hw _ (List.mem_of_getElem? (i := 27) rfl))) (Or.inr (hw _ (List.mem_of_getElem? (i := 23) rfl))) (by decide) (t := (.array .double)) (t' := (.array .long)) (by decide) (by decide)))
  have K0 := K0.wr W5 (Or.inl (List.mem_of_getElem? (i := 0) rfl))
  have F_frequencies := F_frequencies.same W5
  have N5 := Fr.snoc X5 N4 g_1
  refine own_go (fun _ => st5 _) ?_
  show GG _ _ _ _ _ _ _ T5 (mkF m 25 #[.val (.ref a1), .val (.ref a2), .val (.int p3), .val (.ref a4), .val (.ref a5), .val (.ref a6), .val (.ref a7)] [])
  refine own_go (fun _ => XS.aloadN X5.here hx rfl (hb hby d1_25) rfl rfl) ?_
  show GG _ _ _ _ _ _ _ T5 (mkF m 26 #[.val (.ref a1), .val (.ref a2), .val (.int p3), .val (.ref a4), .val (.ref a5), .val (.ref a6), .val (.ref a7)] [(.ref a1)])
  refine own_go (fun _ => XS.aload X5.here hx rfl (hb hby d1_26) rfl rfl) ?_
  show GG _ _ _ _ _ _ _ T5 (mkF m 28 #[.val (.ref a1), .val (.ref a2), .val (.int p3), .val (.ref a4), .val (.ref a5), .val (.ref a6), .val (.ref a7)] [(.ref a6), (.ref a1)])
  obtain ⟨T6, h6, X6, e6, W6, st6⟩ := putF X5 hx hZ hown (host := "") (Or.inl (hw _ (List.mem_of_getElem? (i := 24) rfl))) Via.refl e5 F_means E_1 (Or.inr ⟨(hw _ (List.mem_of_getElem? (i := 25) rfl)), rfl, hnm⟩) (hw _ (List.mem_of_getElem? (i := 5) rfl)) (ty := (.array .double)) (by decide) rfl rfl (g := (mkF m 28 #[.val (.ref a1), .val (.ref a2), .val (.int p3), .val (.ref a4), .val (.ref a5), .val (.ref a6), .val (.ref a7)] [(.ref a6), (.ref a1)])) rfl rfl (hb hby d1_28)
  have E_1 := E_1.wr W6
  have F_collection := F_collection.other W6 (Or.inr (slot_ne (Or.inr (hw _ (List.mem_of_getElem? (i := 17) rfl))) (Or.inr (hw _ (List.mem_of_getElem? (i := 25) rfl))) (by decide) (t := (.object "com/example/deft_shards/deftshards/index/WeightStatistics")) (t' := (.array .double)) (by decide) (by decide)))
  have F_shardCount := F_shardCount.other W6 (Or.inr (slot_ne (Or.inr (hw _ (List.mem_of_getElem? (i := 19) rfl))) (Or.inr (hw _ (List.mem_of_getElem? (i := 25) rfl))) (by decide) (t := .int) (t' := (.array .double)) (by decide) (by decide)))
  have F_holders := F_holders.other W6 (Or.inr (slot_ne (Or.inr (hw _ (List.mem_of_getElem? (i := 21) rfl))) (Or.inr (hw _ (List.mem_of_getElem? (i := 25) rfl))) (by decide) (t := (.array .int)) (t' := (.array .double)) (by decide) (by decide)))
  have F_frequencies := F_frequencies.other W6 (Or.inr (slot_ne (Or.inr (hw _ (List.mem_of_getElem? (i := 23) rfl))) (Or.inr (hw _ (List.mem_of_getElem? (i := 25) rfl))) (by decide) (t := (.array .long)) (t' := (.array .double)) (by decide) (by decide)))
  have F_variances := F_variances.other W6 (Or.inr (slot_ne (Or.inr (hw _ (List.mem_of_getElem? (i := 27) rfl))) (Or.inr (hw _ (List.mem_of_getElem? (i := 25) rfl))) (by decide) (t := (.array .double)) (t' := (.array .double)) (by decide) (by decide)))
  have K0 := K0.wr W6 (Or.inl (List.mem_of_getElem? (i := 0) rfl))
  have F_means := F_means.same W6
  have N6 := Fr.snoc X6 N5 g_1
  refine own_go (fun _ => st6 _) ?_
  show GG _ _ _ _ _ _ _ T6 (mkF m 31 #[.val (.ref a1), .val (.ref a2), .val (.int p3), .val (.ref a4), .val (.ref a5), .val (.ref a6), .val (.ref a7)] [])
  refine own_go (fun _ => XS.aloadN X6.here hx rfl (hb hby d1_31) rfl rfl) ?_
  show GG _ _ _ _ _ _ _ T6 (mkF m 32 #[.val (.ref a1), .val (.ref a2), .val (.int p3), .val (.ref a4), .val (.ref a5), .val (.ref a6), .val (.ref a7)] [(.ref a1)])
  refine own_go (fun _ => XS.aload X6.here hx rfl (hb hby d1_32) rfl rfl) ?_
  show GG _ _ _ _ _ _ _ T6 (mkF m 34 #[.val (.ref a1), .val (.ref a2), .val (.int p3), .val (.ref a4), .val (.ref a5), .val (.ref a6), .val (.ref a7)] [(.ref a7), (.ref a1)])
  obtain ⟨T7, h7, X7, e7, W7, st7⟩ := putF X6 hx hZ hown (host := "") (Or.inl (hw _ (List.mem_of_getElem? (i := 26) rfl))) Via.refl e6 F_variances E_1 (Or.inr ⟨(hw _ (List.mem_of_getElem? (i := 27) rfl)), rfl, hnm⟩) (hw _ (List.mem_of_getElem? (i := 5) rfl)) (ty := (.array .double)) (by decide) rfl rfl (g := (mkF m 34 #[.val (.ref a1), .val (.ref a2), .val (.int p3), .val (.ref a4), .val (.ref a5), .val (.ref a6), .val (.ref a7)] [(.ref a7), (.ref a1)])) rfl rfl (hb hby d1_34)
  have E_1 := E_1.wr W7
  have F_collection := F_collection.other W7 (Or.inr (slot_ne (Or.inr (hw _ (List.mem_of_getElem? (i := 17) rfl))) (Or.inr (hw _ (List.mem_of_getElem? (i := 27) rfl))) (by decide) (t := (.object "com/example/deft_shards/deftshards/index/WeightStatistics")) (t' := (.array .double)) (by decide) (by decide)))
  have F_shardCount := F_shardCount.other W7 (Or.inr (slot_ne (Or.inr (hw _ (List.mem_of_getElem? (i := 19) rfl))) (Or.inr (hw _ (List.mem_of_getElem? (i := 27) rfl))) (by decide) (t := .int) (t' := (.array .double)) (by decide) (by decide)))
  have F_holders := F_holders.other W7 (Or.inr (slot_ne (Or.inr (hw _ (List.mem_of_getElem? (i := 21) rfl))) (Or.inr (hw _ (List.mem_of_getElem? (i := 27) rfl))) (by decide) (t := (.array .int)) (t' := (.array .double)) (by decide) (by decide)))
  have F_frequencies := F_frequencies.other W7 (Or.inr (slot_ne (Or.inr (hw _ (List.mem_of_getElem? (i := 23) rfl))) (Or.inr (hw _ (List.mem_of_getElem? (i := 27) rfl))) (by decide) (t := (.array .long)) (t' := (.array .double)) (by decide) (by decide)))
  have F_means := F_means.other W7 (Or.inr (slot_ne (Or.inr (hw _ (List.mem_of_getElem? (i := 25) rfl))) (Or.inr (hw _ (List.mem_of_getElem? (i := 27) rfl))) (by decide) (t := (.array .double)) (t' := (.array .double)) (by decide) (by decide)))
  have K0 := K0.wr W7 (Or.inl (List.mem_of_getElem? (i := 0) rfl))
  have F_variances := F_variances.same W7
  have N7 := Fr.snoc X7 N6 g_1
  refine own_go (fun _ => st7 _) ?_
  show GG _ _ _ _ _ _ _ T7 (mkF m 37 #[.val (.ref a1), .val (.ref a2), .val (.int p3), .val (.ref a4), .val (.ref a5), .val (.ref a6), .val (.ref a7)] [])
  refine own_retV X7 hx hlk Bd.returns (hb hby d1_37) (by decide) (by decide) ?_
  show Q1 Z a1 a2 p3 a4 a5 a6 a7 h0 n0 (none) T7.heap _
  rw [e7]
  exact ⟨rfl, N7, K0, E_1, F_frequencies, F_means, F_variances⟩
theorem pd__JDD_V_377 : parseMethodDescriptor "(JDD)V" = some ⟨[.long, .double, .double], none⟩ := by decide +kernel
theorem d3_0 : decode prog_17_method_6_code 0 = .ok (.new 45, 3) := by decide +kernel
theorem d3_3 : decode prog_17_method_6_code 3 = .ok (.dup, 1) := by decide +kernel
theorem d3_4 : decode prog_17_method_6_code 4 = .ok (.aload_n 0, 1) := by decide +kernel
theorem d3_5 : decode prog_17_method_6_code 5 = .ok (.getfield 21, 3) := by decide +kernel
theorem d3_8 : decode prog_17_method_6_code 8 = .ok (.iload_n 1, 1) := by decide +kernel
theorem d3_9 : decode prog_17_method_6_code 9 = .ok (.laload, 1) := by decide +kernel
theorem d3_10 : decode prog_17_method_6_code 10 = .ok (.aload_n 0, 1) := by decide +kernel
theorem d3_11 : decode prog_17_method_6_code 11 = .ok (.getfield 25, 3) := by decide +kernel
theorem d3_14 : decode prog_17_method_6_code 14 = .ok (.iload_n 1, 1) := by decide +kernel
theorem d3_15 : decode prog_17_method_6_code 15 = .ok (.daload, 1) := by decide +kernel
theorem d3_16 : decode prog_17_method_6_code 16 = .ok (.aload_n 0, 1) := by decide +kernel
theorem d3_17 : decode prog_17_method_6_code 17 = .ok (.getfield 29, 3) := by decide +kernel
theorem d3_20 : decode prog_17_method_6_code 20 = .ok (.iload_n 1, 1) := by decide +kernel
theorem d3_21 : decode prog_17_method_6_code 21 = .ok (.daload, 1) := by decide +kernel
theorem d3_22 : decode prog_17_method_6_code 22 = .ok (.invokespecial 53, 3) := by decide +kernel
theorem d3_25 : decode prog_17_method_6_code 25 = .ok (.areturn, 1) := by decide +kernel
theorem ef_3 (m : MethodId) (x0 : Addr) (x1 : Int32) : entryFrame m #[(.ref x0), (.int x1)] 2 = mkF m 0 #[.val (.ref x0), .val (.int x1)] [] := by first | (simp [entryFrame, mkF, argsToLocals, Value.category]; done) | rfl
def Q3_0 (Z : State) (a1 : Addr) (b1 b2 b3 : Addr) (x0 x1 x2 : Int64) (y0 y1 y2 z0 z1 z2 : UInt64) (h0 : Heap) (n0 : Nat) (v : Option Value) (h : Heap) (L : List Loc) : Prop := ∃ b, v = some (.ref b) ∧ Fr n0 L ∧ h0.size ≤ b ∧ Keep h0 h [] ∧ Exa Z h b "com/example/deft_shards/deftshards/index/WeightStatistics" ∧ Fld Z h b "com/example/deft_shards/deftshards/index/WeightStatistics" "documentFrequency" "J" (.long x0) ∧ Fld Z h b "com/example/deft_shards/deftshards/index/WeightStatistics" "mean" "D" (.double y0) ∧ Fld Z h b "com/example/deft_shards/deftshards/index/WeightStatistics" "variance" "D" (.double z0)
set_option maxRecDepth 65536 in
set_option maxHeartbeats 40000000 in
theorem rm3_0 (l : Launch) (Z : State) (a0 : Array Value) (hw : ∀ d ∈ tables_1, d.before a0 Z = true) (ws : List Jvm.Cond) (a1 : Addr) (b1 b2 b3 : Addr) (x0 x1 x2 : Int64) (y0 y1 y2 z0 z1 z2 : UInt64) (h0 : Heap) (n0 : Nat) (Z0 : n0 ≤ h0.size) (F_f : Fld Z h0 a1 "com/example/deft_shards/deftshards/index/TermWeights" "frequencies" "[J" (.ref b1)) (F_m : Fld Z h0 a1 "com/example/deft_shards/deftshards/index/TermWeights" "means" "[D" (.ref b2)) (F_v : Fld Z h0 a1 "com/example/deft_shards/deftshards/index/TermWeights" "variances" "[D" (.ref b3)) (V_1 : Arx Z h0 b1 .long [(.long x0), (.long x1), (.long x2)]) (V_2 : Arx Z h0 b2 .double [(.double y0), (.double y1), (.double y2)]) (V_3 : Arx Z h0 b3 .double [(.double z0), (.double z1), (.double z2)]) :
    own_CT l Z (⟨"com/example/deft_shards/deftshards/index/TermWeights", "inHolder", "(I)Lcom/example/deft_shards/deftshards/index/WeightStatistics;"⟩ : MethodName) prog_17_method_6_code 2 (some (.object "com/example/deft_shards/deftshards/index/WeightStatistics")) ws ({ frames := 2, cells := 1, slots := 3, locals := 31 } : Room) #[(.ref a1), (.int (0 : Int32))] h0 (Q3_0 Z a1 b1 b2 b3 x0 x1 x2 y0 y1 y2 z0 z1 z2 h0 n0) := by
  refine MetFree.of_bodySF (plainFor_of_name pn_com_example_deft_shards_deftshards_index_TermWeights) hisR ?_
  intro p e s m args below meth c s₁ Bd hml0 hP hK
  obtain ⟨rfl, hZ, hh⟩ := hP
  have hx := Bd.exec
  have hby := Bd.bytes
  have hml : c.maxLocals = 2 := hml0
  have hown : s.vm.findClass "com/example/deft_shards/deftshards/index/TermWeights" = some m.cls := findClass_of_methodNamed Bd.named
  have hnm := (name_of_methodNamed Bd.named Bd.method).1
  have hlk : meth.locks = false := BodyLoose.notSynchronized Bd
  have X0 : Stand p l e ({ frames := 2, cells := 1, slots := 3, locals := 31 } : Room) s m #[(.ref a1), (.int (0 : Int32))] below meth c s₁ [] 0 0 := Stand.of_body Bd
  have e0 : s₁.heap = h0 := by rw [← hh, Bd.state]; rfl
  have N0 := Fr.nil n0
  show GG p e below s ({ frames := 2, cells := 1, slots := 3, locals := 31 } : Room).cells ({ frames := 2, cells := 1, slots := 3, locals := 31 } : Room).slots (Q3_0 Z a1 b1 b2 b3 x0 x1 x2 y0 y1 y2 z0 z1 z2 h0 n0) s₁ (entryFrame m #[(.ref a1), (.int (0 : Int32))] 2)
  refine own_in (ef_3 m a1 (0 : Int32)) ?_
  show GG _ _ _ _ _ _ _ s₁ (mkF m 0 #[.val (.ref a1), .val (.int (0 : Int32))] [])
  have K0 := Keep.refl h0 []
  obtain ⟨T1, h1, X1, e1, E1, A1, D1, -, st1⟩ := newO X0 hx hZ hown (hw _ (List.mem_of_getElem? (i := 33) rfl)) (hw _ (List.mem_of_getElem? (i := 34) rfl)) (hw _ (List.mem_of_getElem? (i := 8) rfl)) e0 (g := (mkF m 0 #[.val (.ref a1), .val (.int (0 : Int32))] [])) rfl (hb hby d3_0) (by decide) (by decide)
  obtain ⟨ob1, g1⟩ : ∃ z, z = h0.size := ⟨_, rfl⟩
  rw [← g1] at A1 D1 st1
  have ne_a1_ob1 : a1 ≠ ob1 := Nat.ne_of_lt (Nat.lt_of_lt_of_le F_f.lt (Nat.le_of_eq g1.symm))
  have ne_b1_ob1 : b1 ≠ ob1 := Nat.ne_of_lt (Nat.lt_of_lt_of_le V_1.lt (Nat.le_of_eq g1.symm))
  have ne_b2_ob1 : b2 ≠ ob1 := Nat.ne_of_lt (Nat.lt_of_lt_of_le V_2.lt (Nat.le_of_eq g1.symm))
  have ne_b3_ob1 : b3 ≠ ob1 := Nat.ne_of_lt (Nat.lt_of_lt_of_le V_3.lt (Nat.le_of_eq g1.symm))
  have sz_ob1 : h0.size ≤ ob1 := Nat.le_trans K0.1 (Nat.le_of_eq g1.symm)
  have g_ob1 : n0 ≤ ob1 := Nat.le_trans Z0 sz_ob1
  have F_f := F_f.ext E1
  have F_m := F_m.ext E1
  have F_v := F_v.ext E1
  have V_1 := V_1.ext E1
  have V_2 := V_2.ext E1
  have V_3 := V_3.ext E1
  have K0 := K0.ext E1
  have E_ob1 := A1
  have F_documentFrequency_ob1 : Fld Z h1 ob1 "com/example/deft_shards/deftshards/index/WeightStatistics" "documentFrequency" "J" (.long (0 : Int64)) := D1 (Or.inr (hw _ (List.mem_of_getElem? (i := 40) rfl))) (ty := .long) (by decide)
  have F_mean_ob1 : Fld Z h1 ob1 "com/example/deft_shards/deftshards/index/WeightStatistics" "mean" "D" (.double (0 : UInt64)) := D1 (Or.inr (hw _ (List.mem_of_getElem? (i := 42) rfl))) (ty := .double) (by decide)
  have F_variance_ob1 : Fld Z h1 ob1 "com/example/deft_shards/deftshards/index/WeightStatistics" "variance" "D" (.double (0 : UInt64)) := D1 (Or.inr (hw _ (List.mem_of_getElem? (i := 44) rfl))) (ty := .double) (by decide)
  refine own_go (fun _ => st1 _) ?_
  show GG _ _ _ _ _ _ _ T1 (mkF m 3 #[.val (.ref a1), .val (.int (0 : Int32))] [(.ref ob1)])
  refine own_go (fun _ => XS.dup X1.here hx rfl (hb hby d3_3) rfl rfl) ?_
  show GG _ _ _ _ _ _ _ T1 (mkF m 4 #[.val (.ref a1), .val (.int (0 : Int32))] [(.ref ob1), (.ref ob1)])
  refine own_go (fun _ => XS.aloadN X1.here hx rfl (hb hby d3_4) rfl rfl) ?_
  show GG _ _ _ _ _ _ _ T1 (mkF m 5 #[.val (.ref a1), .val (.int (0 : Int32))] [(.ref a1), (.ref ob1), (.ref ob1)])
  obtain ⟨T2, X2, e2, st2⟩ := getF X1 hx hZ hown (host := "") (Or.inl (hw _ (List.mem_of_getElem? (i := 22) rfl))) Via.refl e1 F_f (g := (mkF m 5 #[.val (.ref a1), .val (.int (0 : Int32))] [(.ref a1), (.ref ob1), (.ref ob1)])) rfl rfl (hb hby d3_5)
  refine own_go (fun _ => st2 _) ?_
  show GG _ _ _ _ _ _ _ T2 (mkF m 8 #[.val (.ref a1), .val (.int (0 : Int32))] [(.ref b1), (.ref ob1), (.ref ob1)])
  refine own_go (fun _ => XS.iloadN X2.here hx rfl (hb hby d3_8) rfl) ?_
  show GG _ _ _ _ _ _ _ T2 (mkF m 9 #[.val (.ref a1), .val (.int (0 : Int32))] [(.int (0 : Int32)), (.ref b1), (.ref ob1), (.ref ob1)])
  refine own_go (fun _ => own_laload X2 hx hZ e2 V_1 (j := (0 : Int32)) (v := (.long x0)) (by decide) rfl (g := (mkF m 9 #[.val (.ref a1), .val (.int (0 : Int32))] [(.int (0 : Int32)), (.ref b1), (.ref ob1), (.ref ob1)])) rfl rfl (hb hby d3_9) _) ?_
  show GG _ _ _ _ _ _ _ T2 (mkF m 10 #[.val (.ref a1), .val (.int (0 : Int32))] [(.long x0), (.ref ob1), (.ref ob1)])
  refine own_go (fun _ => XS.aloadN X2.here hx rfl (hb hby d3_10) rfl rfl) ?_
  show GG _ _ _ _ _ _ _ T2 (mkF m 11 #[.val (.ref a1), .val (.int (0 : Int32))] [(.ref a1), (.long x0), (.ref ob1), (.ref ob1)])
  obtain ⟨T3, X3, e3, st3⟩ := getF X2 hx hZ hown (host := "") (Or.inl (hw _ (List.mem_of_getElem? (i := 24) rfl))) Via.refl e2 F_m (g := (mkF m 11 #[.val (.ref a1), .val (.int (0 : Int32))] [(.ref a1), (.long x0), (.ref ob1), (.ref ob1)])) rfl rfl (hb hby d3_11)
  refine own_go (fun _ => st3 _) ?_
  show GG _ _ _ _ _ _ _ T3 (mkF m 14 #[.val (.ref a1), .val (.int (0 : Int32))] [(.ref b2), (.long x0), (.ref ob1), (.ref ob1)])
  refine own_go (fun _ => XS.iloadN X3.here hx rfl (hb hby d3_14) rfl) ?_
  show GG _ _ _ _ _ _ _ T3 (mkF m 15 #[.val (.ref a1), .val (.int (0 : Int32))] [(.int (0 : Int32)), (.ref b2), (.long x0), (.ref ob1), (.ref ob1)])
  refine own_go (fun _ => own_daload X3 hx hZ e3 V_2 (j := (0 : Int32)) (v := (.double y0)) (by decide) rfl (g := (mkF m 15 #[.val (.ref a1), .val (.int (0 : Int32))] [(.int (0 : Int32)), (.ref b2), (.long x0), (.ref ob1), (.ref ob1)])) rfl rfl (hb hby d3_15) _) ?_
  show GG _ _ _ _ _ _ _ T3 (mkF m 16 #[.val (.ref a1), .val (.int (0 : Int32))] [(.double y0), (.long x0), (.ref ob1), (.ref ob1)])
  refine own_go (fun _ => XS.aloadN X3.here hx rfl (hb hby d3_16) rfl rfl) ?_
  show GG _ _ _ _ _ _ _ T3 (mkF m 17 #[.val (.ref a1), .val (.int (0 : Int32))] [(.ref a1), (.double y0), (.long x0), (.ref ob1), (.ref ob1)])
  obtain ⟨T4, X4, e4, st4⟩ := getF X3 hx hZ hown (host := "") (Or.inl (hw _ (List.mem_of_getElem? (i := 26) rfl))) Via.refl e3 F_v (g := (mkF m 17 #[.val (.ref a1), .val (.int (0 : Int32))] [(.ref a1), (.double y0), (.long x0), (.ref ob1), (.ref ob1)])) rfl rfl (hb hby d3_17)
  refine own_go (fun _ => st4 _) ?_
  show GG _ _ _ _ _ _ _ T4 (mkF m 20 #[.val (.ref a1), .val (.int (0 : Int32))] [(.ref b3), (.double y0), (.long x0), (.ref ob1), (.ref ob1)])
  refine own_go (fun _ => XS.iloadN X4.here hx rfl (hb hby d3_20) rfl) ?_
  show GG _ _ _ _ _ _ _ T4 (mkF m 21 #[.val (.ref a1), .val (.int (0 : Int32))] [(.int (0 : Int32)), (.ref b3), (.double y0), (.long x0), (.ref ob1), (.ref ob1)])
  refine own_go (fun _ => own_daload X4 hx hZ e4 V_3 (j := (0 : Int32)) (v := (.double z0)) (by decide) rfl (g := (mkF m 21 #[.val (.ref a1), .val (.int (0 : Int32))] [(.int (0 : Int32)), (.ref b3), (.double y0), (.long x0), (.ref ob1), (.ref ob1)])) rfl rfl (hb hby d3_21) _) ?_
  show GG _ _ _ _ _ _ _ T4 (mkF m 22 #[.val (.ref a1), .val (.int (0 : Int32))] [(.double z0), (.double y0), (.long x0), (.ref ob1), (.ref ob1)])
  refine own_callI X4 hx hZ (y := (⟨"com/example/deft_shards/deftshards/index/WeightStatistics", "<init>", "(JDD)V"⟩ : MethodName)) 1 rfl hown (hw _ (List.mem_of_getElem? (i := 35) rfl)) (hw _ (List.mem_of_getElem? (i := 36) rfl)) (hw _ (List.mem_of_getElem? (i := 8) rfl)) (hw _ (List.mem_of_getElem? (i := 37) rfl)) (by decide) (a := ob1) (argsL := [(.long x0), (.double y0), (.double z0)]) (rest := [(.ref ob1)]) (rm4 l Z a0 hw [] ob1 x0 y0 z0 h1 n0 (Nat.le_trans Z0 K0.1) E_ob1 F_documentFrequency_ob1 F_mean_ob1 F_variance_ob1 g_ob1) (by decide) (by decide) (by decide) (by decide) (g := (mkF m 22 #[.val (.ref a1), .val (.int (0 : Int32))] [(.double z0), (.double y0), (.long x0), (.ref ob1), (.ref ob1)])) rfl (by rw [hml]; rfl) (lenOf pd__JDD_V_377 rfl) rfl (by show 2 * 0 + _ ≤ _; exact Nat.le_of_eq rfl) (hb hby d3_22) e4 ?_
  rintro v5 T5 L5 X5 ⟨rfl, N5q, Kq5, Eq5, Fd5, Fm5, Fv5⟩
  have N5 := Fr.app N0 N5q
  have F_f := F_f.keep Kq5 (ninS ne_a1_ob1 nin0)
  have F_m := F_m.keep Kq5 (ninS ne_a1_ob1 nin0)
  have F_v := F_v.keep Kq5 (ninS ne_a1_ob1 nin0)
  have V_1 := V_1.keep Kq5 (ninS ne_b1_ob1 nin0)
  have V_2 := V_2.keep Kq5 (ninS ne_b2_ob1 nin0)
  have V_3 := V_3.keep Kq5 (ninS ne_b3_ob1 nin0)
  have K0 := K0.trans Kq5 (allS (Or.inr sz_ob1) all0)
  show GG _ _ _ _ _ _ _ T5 (mkF m 25 #[.val (.ref a1), .val (.int (0 : Int32))] [(.ref ob1)])
  refine own_ret X5 hx hlk (t := (.object "com/example/deft_shards/deftshards/index/WeightStatistics")) (w := (.ref ob1)) Bd.returns rfl (Or.inr (Or.inr (Or.inr (Or.inr ⟨rfl, rfl, rfl⟩)))) (hb hby d3_25) (by decide) (by decide) ?_
  show Q3_0 Z a1 b1 b2 b3 x0 x1 x2 y0 y1 y2 z0 z1 z2 h0 n0 (some (.ref ob1)) T5.heap _
  exact ⟨_, rfl, N5, sz_ob1, K0, Eq5, Fd5, Fm5, Fv5⟩
def Q3_1 (Z : State) (a1 : Addr) (b1 b2 b3 : Addr) (x0 x1 x2 : Int64) (y0 y1 y2 z0 z1 z2 : UInt64) (h0 : Heap) (n0 : Nat) (v : Option Value) (h : Heap) (L : List Loc) : Prop := ∃ b, v = some (.ref b) ∧ Fr n0 L ∧ h0.size ≤ b ∧ Keep h0 h [] ∧ Exa Z h b "com/example/deft_shards/deftshards/index/WeightStatistics" ∧ Fld Z h b "com/example/deft_shards/deftshards/index/WeightStatistics" "documentFrequency" "J" (.long x1) ∧ Fld Z h b "com/example/deft_shards/deftshards/index/WeightStatistics" "mean" "D" (.double y1) ∧ Fld Z h b "com/example/deft_shards/deftshards/index/WeightStatistics" "variance" "D" (.double z1)
set_option maxRecDepth 65536 in
set_option maxHeartbeats 40000000 in
theorem rm3_1 (l : Launch) (Z : State) (a0 : Array Value) (hw : ∀ d ∈ tables_1, d.before a0 Z = true) (ws : List Jvm.Cond) (a1 : Addr) (b1 b2 b3 : Addr) (x0 x1 x2 : Int64) (y0 y1 y2 z0 z1 z2 : UInt64) (h0 : Heap) (n0 : Nat) (Z0 : n0 ≤ h0.size) (F_f : Fld Z h0 a1 "com/example/deft_shards/deftshards/index/TermWeights" "frequencies" "[J" (.ref b1)) (F_m : Fld Z h0 a1 "com/example/deft_shards/deftshards/index/TermWeights" "means" "[D" (.ref b2)) (F_v : Fld Z h0 a1 "com/example/deft_shards/deftshards/index/TermWeights" "variances" "[D" (.ref b3)) (V_1 : Arx Z h0 b1 .long [(.long x0), (.long x1), (.long x2)]) (V_2 : Arx Z h0 b2 .double [(.double y0), (.double y1), (.double y2)]) (V_3 : Arx Z h0 b3 .double [(.double z0), (.double z1), (.double z2)]) :
    own_CT l Z (⟨"com/example/deft_shards/deftshards/index/TermWeights", "inHolder", "(I)Lcom/example/deft_shards/deftshards/index/WeightStatistics;"⟩ : MethodName) prog_17_method_6_code 2 (some (.object "com/example/deft_shards/deftshards/index/WeightStatistics")) ws ({ frames := 2, cells := 1, slots := 3, locals := 31 } : Room) #[(.ref a1), (.int (1 : Int32))] h0 (Q3_1 Z a1 b1 b2 b3 x0 x1 x2 y0 y1 y2 z0 z1 z2 h0 n0) := by
  refine MetFree.of_bodySF (plainFor_of_name pn_com_example_deft_shards_deftshards_index_TermWeights) hisR ?_
  intro p e s m args below meth c s₁ Bd hml0 hP hK
  obtain ⟨rfl, hZ, hh⟩ := hP
  have hx := Bd.exec
  have hby := Bd.bytes
  have hml : c.maxLocals = 2 := hml0
  have hown : s.vm.findClass "com/example/deft_shards/deftshards/index/TermWeights" = some m.cls := findClass_of_methodNamed Bd.named
  have hnm := (name_of_methodNamed Bd.named Bd.method).1
  have hlk : meth.locks = false := BodyLoose.notSynchronized Bd
  have X0 : Stand p l e ({ frames := 2, cells := 1, slots := 3, locals := 31 } : Room) s m #[(.ref a1), (.int (1 : Int32))] below meth c s₁ [] 0 0 := Stand.of_body Bd
  have e0 : s₁.heap = h0 := by rw [← hh, Bd.state]; rfl
  have N0 := Fr.nil n0
  show GG p e below s ({ frames := 2, cells := 1, slots := 3, locals := 31 } : Room).cells ({ frames := 2, cells := 1, slots := 3, locals := 31 } : Room).slots (Q3_1 Z a1 b1 b2 b3 x0 x1 x2 y0 y1 y2 z0 z1 z2 h0 n0) s₁ (entryFrame m #[(.ref a1), (.int (1 : Int32))] 2)
  refine own_in (ef_3 m a1 (1 : Int32)) ?_
  show GG _ _ _ _ _ _ _ s₁ (mkF m 0 #[.val (.ref a1), .val (.int (1 : Int32))] [])
  have K0 := Keep.refl h0 []
  obtain ⟨T1, h1, X1, e1, E1, A1, D1, -, st1⟩ := newO X0 hx hZ hown (hw _ (List.mem_of_getElem? (i := 33) rfl)) (hw _ (List.mem_of_getElem? (i := 34) rfl)) (hw _ (List.mem_of_getElem? (i := 8) rfl)) e0 (g := (mkF m 0 #[.val (.ref a1), .val (.int (1 : Int32))] [])) rfl (hb hby d3_0) (by decide) (by decide)
  obtain ⟨ob1, g1⟩ : ∃ z, z = h0.size := ⟨_, rfl⟩
  rw [← g1] at A1 D1 st1
  have ne_a1_ob1 : a1 ≠ ob1 := Nat.ne_of_lt (Nat.lt_of_lt_of_le F_f.lt (Nat.le_of_eq g1.symm))
  have ne_b1_ob1 : b1 ≠ ob1 := Nat.ne_of_lt (Nat.lt_of_lt_of_le V_1.lt (Nat.le_of_eq g1.symm))
  have ne_b2_ob1 : b2 ≠ ob1 := Nat.ne_of_lt (Nat.lt_of_lt_of_le V_2.lt (Nat.le_of_eq g1.symm))
  have ne_b3_ob1 : b3 ≠ ob1 := Nat.ne_of_lt (Nat.lt_of_lt_of_le V_3.lt (Nat.le_of_eq g1.symm))
  have sz_ob1 : h0.size ≤ ob1 := Nat.le_trans K0.1 (Nat.le_of_eq g1.symm)
  have g_ob1 : n0 ≤ ob1 := Nat.le_trans Z0 sz_ob1
  have F_f := F_f.ext E1
  have F_m := F_m.ext E1
  have F_v := F_v.ext E1
  have V_1 := V_1.ext E1
  have V_2 := V_2.ext E1
  have V_3 := V_3.ext E1
  have K0 := K0.ext E1
  have E_ob1 := A1
  have F_documentFrequency_ob1 : Fld Z h1 ob1 "com/example/deft_shards/deftshards/index/WeightStatistics" "documentFrequency" "J" (.long (0 : Int64)) := D1 (Or.inr (hw _ (List.mem_of_getElem? (i := 40) rfl))) (ty := .long) (by decide)
  have F_mean_ob1 : Fld Z h1 ob1 "com/example/deft_shards/deftshards/index/WeightStatistics" "mean" "D" (.double (0 : UInt64)) := D1 (Or.inr (hw _ (List.mem_of_getElem? (i := 42) rfl))) (ty := .double) (by decide)
  have F_variance_ob1 : Fld Z h1 ob1 "com/example/deft_shards/deftshards/index/WeightStatistics" "variance" "D" (.double (0 : UInt64)) := D1 (Or.inr (hw _ (List.mem_of_getElem? (i := 44) rfl))) (ty := .double) (by decide)
  refine own_go (fun _ => st1 _) ?_
  show GG _ _ _ _ _ _ _ T1 (mkF m 3 #[.val (.ref a1), .val (.int (1 : Int32))] [(.ref ob1)])
  refine own_go (fun _ => XS.dup X1.here hx rfl (hb hby d3_3) rfl rfl) ?_
  show GG _ _ _ _ _ _ _ T1 (mkF m 4 #[.val (.ref a1), .val (.int (1 : Int32))] [(.ref ob1), (.ref ob1)])
  refine own_go (fun _ => XS.aloadN X1.here hx rfl (hb hby d3_4) rfl rfl) ?_
  show GG _ _ _ _ _ _ _ T1 (mkF m 5 #[.val (.ref a1), .val (.int (1 : Int32))] [(.ref a1), (.ref ob1), (.ref ob1)])
  obtain ⟨T2, X2, e2, st2⟩ := getF X1 hx hZ hown (host := "") (Or.inl (hw _ (List.mem_of_getElem? (i := 22) rfl))) Via.refl e1 F_f (g := (mkF m 5 #[.val (.ref a1), .val (.int (1 : Int32))] [(.ref a1), (.ref ob1), (.ref ob1)])) rfl rfl (hb hby d3_5)
  refine own_go (fun _ => st2 _) ?_
  show GG _ _ _ _ _ _ _ T2 (mkF m 8 #[.val (.ref a1), .val (.int (1 : Int32))] [(.ref b1), (.ref ob1), (.ref ob1)])
  refine own_go (fun _ => XS.iloadN X2.here hx rfl (hb hby d3_8) rfl) ?_
  show GG _ _ _ _ _ _ _ T2 (mkF m 9 #[.val (.ref a1), .val (.int (1 : Int32))] [(.int (1 : Int32)), (.ref b1), (.ref ob1), (.ref ob1)])
  refine own_go (fun _ => own_laload X2 hx hZ e2 V_1 (j := (1 : Int32)) (v := (.long x1)) (by decide) rfl (g := (mkF m 9 #[.val (.ref a1), .val (.int (1 : Int32))] [(.int (1 : Int32)), (.ref b1), (.ref ob1), (.ref ob1)])) rfl rfl (hb hby d3_9) _) ?_
  show GG _ _ _ _ _ _ _ T2 (mkF m 10 #[.val (.ref a1), .val (.int (1 : Int32))] [(.long x1), (.ref ob1), (.ref ob1)])
  refine own_go (fun _ => XS.aloadN X2.here hx rfl (hb hby d3_10) rfl rfl) ?_
  show GG _ _ _ _ _ _ _ T2 (mkF m 11 #[.val (.ref a1), .val (.int (1 : Int32))] [(.ref a1), (.long x1), (.ref ob1), (.ref ob1)])
  obtain ⟨T3, X3, e3, st3⟩ := getF X2 hx hZ hown (host := "") (Or.inl (hw _ (List.mem_of_getElem? (i := 24) rfl))) Via.refl e2 F_m (g := (mkF m 11 #[.val (.ref a1), .val (.int (1 : Int32))] [(.ref a1), (.long x1), (.ref ob1), (.ref ob1)])) rfl rfl (hb hby d3_11)
  refine own_go (fun _ => st3 _) ?_
  show GG _ _ _ _ _ _ _ T3 (mkF m 14 #[.val (.ref a1), .val (.int (1 : Int32))] [(.ref b2), (.long x1), (.ref ob1), (.ref ob1)])
  refine own_go (fun _ => XS.iloadN X3.here hx rfl (hb hby d3_14) rfl) ?_
  show GG _ _ _ _ _ _ _ T3 (mkF m 15 #[.val (.ref a1), .val (.int (1 : Int32))] [(.int (1 : Int32)), (.ref b2), (.long x1), (.ref ob1), (.ref ob1)])
  refine own_go (fun _ => own_daload X3 hx hZ e3 V_2 (j := (1 : Int32)) (v := (.double y1)) (by decide) rfl (g := (mkF m 15 #[.val (.ref a1), .val (.int (1 : Int32))] [(.int (1 : Int32)), (.ref b2), (.long x1), (.ref ob1), (.ref ob1)])) rfl rfl (hb hby d3_15) _) ?_
  show GG _ _ _ _ _ _ _ T3 (mkF m 16 #[.val (.ref a1), .val (.int (1 : Int32))] [(.double y1), (.long x1), (.ref ob1), (.ref ob1)])
  refine own_go (fun _ => XS.aloadN X3.here hx rfl (hb hby d3_16) rfl rfl) ?_
  show GG _ _ _ _ _ _ _ T3 (mkF m 17 #[.val (.ref a1), .val (.int (1 : Int32))] [(.ref a1), (.double y1), (.long x1), (.ref ob1), (.ref ob1)])
  obtain ⟨T4, X4, e4, st4⟩ := getF X3 hx hZ hown (host := "") (Or.inl (hw _ (List.mem_of_getElem? (i := 26) rfl))) Via.refl e3 F_v (g := (mkF m 17 #[.val (.ref a1), .val (.int (1 : Int32))] [(.ref a1), (.double y1), (.long x1), (.ref ob1), (.ref ob1)])) rfl rfl (hb hby d3_17)
  refine own_go (fun _ => st4 _) ?_
  show GG _ _ _ _ _ _ _ T4 (mkF m 20 #[.val (.ref a1), .val (.int (1 : Int32))] [(.ref b3), (.double y1), (.long x1), (.ref ob1), (.ref ob1)])
  refine own_go (fun _ => XS.iloadN X4.here hx rfl (hb hby d3_20) rfl) ?_
  show GG _ _ _ _ _ _ _ T4 (mkF m 21 #[.val (.ref a1), .val (.int (1 : Int32))] [(.int (1 : Int32)), (.ref b3), (.double y1), (.long x1), (.ref ob1), (.ref ob1)])
  refine own_go (fun _ => own_daload X4 hx hZ e4 V_3 (j := (1 : Int32)) (v := (.double z1)) (by decide) rfl (g := (mkF m 21 #[.val (.ref a1), .val (.int (1 : Int32))] [(.int (1 : Int32)), (.ref b3), (.double y1), (.long x1), (.ref ob1), (.ref ob1)])) rfl rfl (hb hby d3_21) _) ?_
  show GG _ _ _ _ _ _ _ T4 (mkF m 22 #[.val (.ref a1), .val (.int (1 : Int32))] [(.double z1), (.double y1), (.long x1), (.ref ob1), (.ref ob1)])
  refine own_callI X4 hx hZ (y := (⟨"com/example/deft_shards/deftshards/index/WeightStatistics", "<init>", "(JDD)V"⟩ : MethodName)) 1 rfl hown (hw _ (List.mem_of_getElem? (i := 35) rfl)) (hw _ (List.mem_of_getElem? (i := 36) rfl)) (hw _ (List.mem_of_getElem? (i := 8) rfl)) (hw _ (List.mem_of_getElem? (i := 37) rfl)) (by decide) (a := ob1) (argsL := [(.long x1), (.double y1), (.double z1)]) (rest := [(.ref ob1)]) (rm4 l Z a0 hw [] ob1 x1 y1 z1 h1 n0 (Nat.le_trans Z0 K0.1) E_ob1 F_documentFrequency_ob1 F_mean_ob1 F_variance_ob1 g_ob1) (by decide) (by decide) (by decide) (by decide) (g := (mkF m 22 #[.val (.ref a1), .val (.int (1 : Int32))] [(.double z1), (.double y1), (.long x1), (.ref ob1), (.ref ob1)])) rfl (by rw [hml]; rfl) (lenOf pd__JDD_V_377 rfl) rfl (by show 2 * 0 + _ ≤ _; exact Nat.le_of_eq rfl) (hb hby d3_22) e4 ?_
  rintro v5 T5 L5 X5 ⟨rfl, N5q, Kq5, Eq5, Fd5, Fm5, Fv5⟩
  have N5 := Fr.app N0 N5q
  have F_f := F_f.keep Kq5 (ninS ne_a1_ob1 nin0)
  have F_m := F_m.keep Kq5 (ninS ne_a1_ob1 nin0)
  have F_v := F_v.keep Kq5 (ninS ne_a1_ob1 nin0)
  have V_1 := V_1.keep Kq5 (ninS ne_b1_ob1 nin0)
  have V_2 := V_2.keep Kq5 (ninS ne_b2_ob1 nin0)
  have V_3 := V_3.keep Kq5 (ninS ne_b3_ob1 nin0)
  have K0 := K0.trans Kq5 (allS (Or.inr sz_ob1) all0)
  show GG _ _ _ _ _ _ _ T5 (mkF m 25 #[.val (.ref a1), .val (.int (1 : Int32))] [(.ref ob1)])
  refine own_ret X5 hx hlk (t := (.object "com/example/deft_shards/deftshards/index/WeightStatistics")) (w := (.ref ob1)) Bd.returns rfl (Or.inr (Or.inr (Or.inr (Or.inr ⟨rfl, rfl, rfl⟩)))) (hb hby d3_25) (by decide) (by decide) ?_
  show Q3_1 Z a1 b1 b2 b3 x0 x1 x2 y0 y1 y2 z0 z1 z2 h0 n0 (some (.ref ob1)) T5.heap _
  exact ⟨_, rfl, N5, sz_ob1, K0, Eq5, Fd5, Fm5, Fv5⟩
def Q3_2 (Z : State) (a1 : Addr) (b1 b2 b3 : Addr) (x0 x1 x2 : Int64) (y0 y1 y2 z0 z1 z2 : UInt64) (h0 : Heap) (n0 : Nat) (v : Option Value) (h : Heap) (L : List Loc) : Prop := ∃ b, v = some (.ref b) ∧ Fr n0 L ∧ h0.size ≤ b ∧ Keep h0 h [] ∧ Exa Z h b "com/example/deft_shards/deftshards/index/WeightStatistics" ∧ Fld Z h b "com/example/deft_shards/deftshards/index/WeightStatistics" "documentFrequency" "J" (.long x2) ∧ Fld Z h b "com/example/deft_shards/deftshards/index/WeightStatistics" "mean" "D" (.double y2) ∧ Fld Z h b "com/example/deft_shards/deftshards/index/WeightStatistics" "variance" "D" (.double z2)
set_option maxRecDepth 65536 in
set_option maxHeartbeats 40000000 in
theorem rm3_2 (l : Launch) (Z : State) (a0 : Array Value) (hw : ∀ d ∈ tables_1, d.before a0 Z = true) (ws : List Jvm.Cond) (a1 : Addr) (b1 b2 b3 : Addr) (x0 x1 x2 : Int64) (y0 y1 y2 z0 z1 z2 : UInt64) (h0 : Heap) (n0 : Nat) (Z0 : n0 ≤ h0.size) (F_f : Fld Z h0 a1 "com/example/deft_shards/deftshards/index/TermWeights" "frequencies" "[J" (.ref b1)) (F_m : Fld Z h0 a1 "com/example/deft_shards/deftshards/index/TermWeights" "means" "[D" (.ref b2)) (F_v : Fld Z h0 a1 "com/example/deft_shards/deftshards/index/TermWeights" "variances" "[D" (.ref b3)) (V_1 : Arx Z h0 b1 .long [(.long x0), (.long x1), (.long x2)]) (V_2 : Arx Z h0 b2 .double [(.double y0), (.double y1), (.double y2)]) (V_3 : Arx Z h0 b3 .double [(.double z0), (.double z1), (.double z2)]) :
    own_CT l Z (⟨"com/example/deft_shards/deftshards/index/TermWeights", "inHolder", "(I)Lcom/example/deft_shards/deftshards/index/WeightStatistics;"⟩ : MethodName) prog_17_method_6_code 2 (some (.object "com/example/deft_shards/deftshards/index/WeightStatistics")) ws ({ frames := 2, cells := 1, slots := 3, locals := 31 } : Room) #[(.ref a1), (.int (2 : Int32))] h0 (Q3_2 Z a1 b1 b2 b3 x0 x1 x2 y0 y1 y2 z0 z1 z2 h0 n0) := by
  refine MetFree.of_bodySF (plainFor_of_name pn_com_example_deft_shards_deftshards_index_TermWeights) hisR ?_
  intro p e s m args below meth c s₁ Bd hml0 hP hK
  obtain ⟨rfl, hZ, hh⟩ := hP
  have hx := Bd.exec
  have hby := Bd.bytes
  have hml : c.maxLocals = 2 := hml0
  have hown : s.vm.findClass "com/example/deft_shards/deftshards/index/TermWeights" = some m.cls := findClass_of_methodNamed Bd.named
  have hnm := (name_of_methodNamed Bd.named Bd.method).1
  have hlk : meth.locks = false := BodyLoose.notSynchronized Bd
  have X0 : Stand p l e ({ frames := 2, cells := 1, slots := 3, locals := 31 } : Room) s m #[(.ref a1), (.int (2 : Int32))] below meth c s₁ [] 0 0 := Stand.of_body Bd
  have e0 : s₁.heap = h0 := by rw [← hh, Bd.state]; rfl
  have N0 := Fr.nil n0
  show GG p e below s ({ frames := 2, cells := 1, slots := 3, locals := 31 } : Room).cells ({ frames := 2, cells := 1, slots := 3, locals := 31 } : Room).slots (Q3_2 Z a1 b1 b2 b3 x0 x1 x2 y0 y1 y2 z0 z1 z2 h0 n0) s₁ (entryFrame m #[(.ref a1), (.int (2 : Int32))] 2)
  refine own_in (ef_3 m a1 (2 : Int32)) ?_
  show GG _ _ _ _ _ _ _ s₁ (mkF m 0 #[.val (.ref a1), .val (.int (2 : Int32))] [])
  have K0 := Keep.refl h0 []
  obtain ⟨T1, h1, X1, e1, E1, A1, D1, -, st1⟩ := newO X0 hx hZ hown (hw _ (List.mem_of_getElem? (i := 33) rfl)) (hw _ (List.mem_of_getElem? (i := 34) rfl)) (hw _ (List.mem_of_getElem? (i := 8) rfl)) e0 (g := (mkF m 0 #[.val (.ref a1), .val (.int (2 : Int32))] [])) rfl (hb hby d3_0) (by decide) (by decide)
  obtain ⟨ob1, g1⟩ : ∃ z, z = h0.size := ⟨_, rfl⟩
  rw [← g1] at A1 D1 st1
  have ne_a1_ob1 : a1 ≠ ob1 := Nat.ne_of_lt (Nat.lt_of_lt_of_le F_f.lt (Nat.le_of_eq g1.symm))
  have ne_b1_ob1 : b1 ≠ ob1 := Nat.ne_of_lt (Nat.lt_of_lt_of_le V_1.lt (Nat.le_of_eq g1.symm))
  have ne_b2_ob1 : b2 ≠ ob1 := Nat.ne_of_lt (Nat.lt_of_lt_of_le V_2.lt (Nat.le_of_eq g1.symm))
  have ne_b3_ob1 : b3 ≠ ob1 := Nat.ne_of_lt (Nat.lt_of_lt_of_le V_3.lt (Nat.le_of_eq g1.symm))
  have sz_ob1 : h0.size ≤ ob1 := Nat.le_trans K0.1 (Nat.le_of_eq g1.symm)
  have g_ob1 : n0 ≤ ob1 := Nat.le_trans Z0 sz_ob1
  have F_f := F_f.ext E1
  have F_m := F_m.ext E1
  have F_v := F_v.ext E1
  have V_1 := V_1.ext E1
  have V_2 := V_2.ext E1
  have V_3 := V_3.ext E1
  have K0 := K0.ext E1
  have E_ob1 := A1
  have F_documentFrequency_ob1 : Fld Z h1 ob1 "com/example/deft_shards/deftshards/index/WeightStatistics" "documentFrequency" "J" (.long (0 : Int64)) := D1 (Or.inr (hw _ (List.mem_of_getElem? (i := 40) rfl))) (ty := .long) (by decide)
  have F_mean_ob1 : Fld Z h1 ob1 "com/example/deft_shards/deftshards/index/WeightStatistics" "mean" "D" (.double (0 : UInt64)) := D1 (Or.inr (hw _ (List.mem_of_getElem? (i := 42) rfl))) (ty := .double) (by decide)
  have F_variance_ob1 : Fld Z h1 ob1 "com/example/deft_shards/deftshards/index/WeightStatistics" "variance" "D" (.double (0 : UInt64)) := D1 (Or.inr (hw _ (List.mem_of_getElem? (i := 44) rfl))) (ty := .double) (by decide)
  refine own_go (fun _ => st1 _) ?_
  show GG _ _ _ _ _ _ _ T1 (mkF m 3 #[.val (.ref a1), .val (.int (2 : Int32))] [(.ref ob1)])
  refine own_go (fun _ => XS.dup X1.here hx rfl (hb hby d3_3) rfl rfl) ?_
  show GG _ _ _ _ _ _ _ T1 (mkF m 4 #[.val (.ref a1), .val (.int (2 : Int32))] [(.ref ob1), (.ref ob1)])
  refine own_go (fun _ => XS.aloadN X1.here hx rfl (hb hby d3_4) rfl rfl) ?_
  show GG _ _ _ _ _ _ _ T1 (mkF m 5 #[.val (.ref a1), .val (.int (2 : Int32))] [(.ref a1), (.ref ob1), (.ref ob1)])
  obtain ⟨T2, X2, e2, st2⟩ := getF X1 hx hZ hown (host := "") (Or.inl (hw _ (List.mem_of_getElem? (i := 22) rfl))) Via.refl e1 F_f (g := (mkF m 5 #[.val (.ref a1), .val (.int (2 : Int32))] [(.ref a1), (.ref ob1), (.ref ob1)])) rfl rfl (hb hby d3_5)
  refine own_go (fun _ => st2 _) ?_
  show GG _ _ _ _ _ _ _ T2 (mkF m 8 #[.val (.ref a1), .val (.int (2 : Int32))] [(.ref b1), (.ref ob1), (.ref ob1)])
  refine own_go (fun _ => XS.iloadN X2.here hx rfl (hb hby d3_8) rfl) ?_
  show GG _ _ _ _ _ _ _ T2 (mkF m 9 #[.val (.ref a1), .val (.int (2 : Int32))] [(.int (2 : Int32)), (.ref b1), (.ref ob1), (.ref ob1)])
  refine own_go (fun _ => own_laload X2 hx hZ e2 V_1 (j := (2 : Int32)) (v := (.long x2)) (by decide) rfl (g := (mkF m 9 #[.val (.ref a1), .val (.int (2 : Int32))] [(.int (2 : Int32)), (.ref b1), (.ref ob1), (.ref ob1)])) rfl rfl (hb hby d3_9) _) ?_
  show GG _ _ _ _ _ _ _ T2 (mkF m 10 #[.val (.ref a1), .val (.int (2 : Int32))] [(.long x2), (.ref ob1), (.ref ob1)])
  refine own_go (fun _ => XS.aloadN X2.here hx rfl (hb hby d3_10) rfl rfl) ?_
  show GG _ _ _ _ _ _ _ T2 (mkF m 11 #[.val (.ref a1), .val (.int (2 : Int32))] [(.ref a1), (.long x2), (.ref ob1), (.ref ob1)])
  obtain ⟨T3, X3, e3, st3⟩ := getF X2 hx hZ hown (host := "") (Or.inl (hw _ (List.mem_of_getElem? (i := 24) rfl))) Via.refl e2 F_m (g := (mkF m 11 #[.val (.ref a1), .val (.int (2 : Int32))] [(.ref a1), (.long x2), (.ref ob1), (.ref ob1)])) rfl rfl (hb hby d3_11)
  refine own_go (fun _ => st3 _) ?_
  show GG _ _ _ _ _ _ _ T3 (mkF m 14 #[.val (.ref a1), .val (.int (2 : Int32))] [(.ref b2), (.long x2), (.ref ob1), (.ref ob1)])
  refine own_go (fun _ => XS.iloadN X3.here hx rfl (hb hby d3_14) rfl) ?_
  show GG _ _ _ _ _ _ _ T3 (mkF m 15 #[.val (.ref a1), .val (.int (2 : Int32))] [(.int (2 : Int32)), (.ref b2), (.long x2), (.ref ob1), (.ref ob1)])
  refine own_go (fun _ => own_daload X3 hx hZ e3 V_2 (j := (2 : Int32)) (v := (.double y2)) (by decide) rfl (g := (mkF m 15 #[.val (.ref a1), .val (.int (2 : Int32))] [(.int (2 : Int32)), (.ref b2), (.long x2), (.ref ob1), (.ref ob1)])) rfl rfl (hb hby d3_15) _) ?_
  show GG _ _ _ _ _ _ _ T3 (mkF m 16 #[.val (.ref a1), .val (.int (2 : Int32))] [(.double y2), (.long x2), (.ref ob1), (.ref ob1)])
  refine own_go (fun _ => XS.aloadN X3.here hx rfl (hb hby d3_16) rfl rfl) ?_
  show GG _ _ _ _ _ _ _ T3 (mkF m 17 #[.val (.ref a1), .val (.int (2 : Int32))] [(.ref a1), (.double y2), (.long x2), (.ref ob1), (.ref ob1)])
  obtain ⟨T4, X4, e4, st4⟩ := getF X3 hx hZ hown (host := "") (Or.inl (hw _ (List.mem_of_getElem? (i := 26) rfl))) Via.refl e3 F_v (g := (mkF m 17 #[.val (.ref a1), .val (.int (2 : Int32))] [(.ref a1), (.double y2), (.long x2), (.ref ob1), (.ref ob1)])) rfl rfl (hb hby d3_17)
  refine own_go (fun _ => st4 _) ?_
  show GG _ _ _ _ _ _ _ T4 (mkF m 20 #[.val (.ref a1), .val (.int (2 : Int32))] [(.ref b3), (.double y2), (.long x2), (.ref ob1), (.ref ob1)])
  refine own_go (fun _ => XS.iloadN X4.here hx rfl (hb hby d3_20) rfl) ?_
  show GG _ _ _ _ _ _ _ T4 (mkF m 21 #[.val (.ref a1), .val (.int (2 : Int32))] [(.int (2 : Int32)), (.ref b3), (.double y2), (.long x2), (.ref ob1), (.ref ob1)])
  refine own_go (fun _ => own_daload X4 hx hZ e4 V_3 (j := (2 : Int32)) (v := (.double z2)) (by decide) rfl (g := (mkF m 21 #[.val (.ref a1), .val (.int (2 : Int32))] [(.int (2 : Int32)), (.ref b3), (.double y2), (.long x2), (.ref ob1), (.ref ob1)])) rfl rfl (hb hby d3_21) _) ?_
  show GG _ _ _ _ _ _ _ T4 (mkF m 22 #[.val (.ref a1), .val (.int (2 : Int32))] [(.double z2), (.double y2), (.long x2), (.ref ob1), (.ref ob1)])
  refine own_callI X4 hx hZ (y := (⟨"com/example/deft_shards/deftshards/index/WeightStatistics", "<init>", "(JDD)V"⟩ : MethodName)) 1 rfl hown (hw _ (List.mem_of_getElem? (i := 35) rfl)) (hw _ (List.mem_of_getElem? (i := 36) rfl)) (hw _ (List.mem_of_getElem? (i := 8) rfl)) (hw _ (List.mem_of_getElem? (i := 37) rfl)) (by decide) (a := ob1) (argsL := [(.long x2), (.double y2), (.double z2)]) (rest := [(.ref ob1)]) (rm4 l Z a0 hw [] ob1 x2 y2 z2 h1 n0 (Nat.le_trans Z0 K0.1) E_ob1 F_documentFrequency_ob1 F_mean_ob1 F_variance_ob1 g_ob1) (by decide) (by decide) (by decide) (by decide) (g := (mkF m 22 #[.val (.ref a1), .val (.int (2 : Int32))] [(.double z2), (.double y2), (.long x2), (.ref ob1), (.ref ob1)])) rfl (by rw [hml]; rfl) (lenOf pd__JDD_V_377 rfl) rfl (by show 2 * 0 + _ ≤ _; exact Nat.le_of_eq rfl) (hb hby d3_22) e4 ?_
  rintro v5 T5 L5 X5 ⟨rfl, N5q, Kq5, Eq5, Fd5, Fm5, Fv5⟩
  have N5 := Fr.app N0 N5q
  have F_f := F_f.keep Kq5 (ninS ne_a1_ob1 nin0)
  have F_m := F_m.keep Kq5 (ninS ne_a1_ob1 nin0)
  have F_v := F_v.keep Kq5 (ninS ne_a1_ob1 nin0)
  have V_1 := V_1.keep Kq5 (ninS ne_b1_ob1 nin0)
  have V_2 := V_2.keep Kq5 (ninS ne_b2_ob1 nin0)
  have V_3 := V_3.keep Kq5 (ninS ne_b3_ob1 nin0)
  have K0 := K0.trans Kq5 (allS (Or.inr sz_ob1) all0)
  show GG _ _ _ _ _ _ _ T5 (mkF m 25 #[.val (.ref a1), .val (.int (2 : Int32))] [(.ref ob1)])
  refine own_ret X5 hx hlk (t := (.object "com/example/deft_shards/deftshards/index/WeightStatistics")) (w := (.ref ob1)) Bd.returns rfl (Or.inr (Or.inr (Or.inr (Or.inr ⟨rfl, rfl, rfl⟩)))) (hb hby d3_25) (by decide) (by decide) ?_
  show Q3_2 Z a1 b1 b2 b3 x0 x1 x2 y0 y1 y2 z0 z1 z2 h0 n0 (some (.ref ob1)) T5.heap _
  exact ⟨_, rfl, N5, sz_ob1, K0, Eq5, Fd5, Fm5, Fv5⟩
theorem pd__Lcom_example_deft_shards_deftshards_ind_784 : parseMethodDescriptor "(Lcom/example/deft_shards/deftshards/index/WeightStatistics;I[I[J[D[D)V" = some ⟨[(.object "com/example/deft_shards/deftshards/index/WeightStatistics"), .int, (.array .int), (.array .long), (.array .double), (.array .double)], none⟩ := by decide +kernel
theorem pd__I_Lcom_example_deft_shards_deftshards_i_51 : parseMethodDescriptor "(I)Lcom/example/deft_shards/deftshards/index/WeightStatistics;" = some ⟨[.int], some (.object "com/example/deft_shards/deftshards/index/WeightStatistics")⟩ := by decide +kernel
theorem pd___J_155 : parseMethodDescriptor "()J" = some ⟨[], some .long⟩ := by decide +kernel
theorem pd___D_149 : parseMethodDescriptor "()D" = some ⟨[], some .double⟩ := by decide +kernel
theorem pn_com_example_deft_shards_deftshards_index_TermWeightsInHolderPinLaw : plainName "com/example/deft_shards/deftshards/index/TermWeightsInHolderPinLaw" = true := by first | (simp [plainName, overriddenIn]; done) | decide +kernel
theorem ef_0 (m : MethodId) (x0 : Int32) (x1 : Int64) (x2 : Int64) (x3 : Int64) (x4 : Int32) (x5 : Int32) : entryFrame m #[(.int x0), (.long x1), (.long x2), (.long x3), (.int x4), (.int x5)] maxLocals = mkF m 0 #[.val (.int x0), .val (.long x1), .second, .val (.long x2), .second, .val (.long x3), .second, .val (.int x4), .val (.int x5), .unset, .unset, .unset, .unset, .unset, .unset, .unset, .unset, .unset, .unset, .unset, .unset, .unset, .unset, .unset, .unset, .unset, .unset, .unset] [] := by first | (simp [entryFrame, mkF, argsToLocals, Value.category, maxLocals]; done) | rfl
def Q0 (Z : State) (p0 : Int32) (q1 : Int64) (q2 : Int64) (q3 : Int64) (p4 : Int32) (p5 : Int32) (wN : Addr) (h0 : Heap) (n0 : Nat) (v : Option Value) (h : Heap) (L : List Loc) : Prop := v = some (.int 1) ∧ Fr n0 L
set_option maxRecDepth 65536 in
set_option maxHeartbeats 40000000 in
theorem rm0 (l : Launch) (Z : State) (a0 : Array Value) (hw : ∀ d ∈ tables_1, d.before a0 Z = true) (ws : List Jvm.Cond) (p0 : Int32) (q1 : Int64) (q2 : Int64) (q3 : Int64) (p4 : Int32) (p5 : Int32) (wN : Addr) (h0 : Heap) (n0 : Nat) (Z0 : n0 ≤ h0.size) (O0 : Old Z n0 h0) (S_N : Sta Z Z.heap "com/example/deft_shards/deftshards/index/WeightStatistics" "NONE" "Lcom/example/deft_shards/deftshards/index/WeightStatistics;" (.ref wN)) :
    own_CT l Z x code maxLocals ret ws room_1 #[(.int p0), (.long q1), (.long q2), (.long q3), (.int p4), (.int p5)] h0 (Q0 Z p0 q1 q2 q3 p4 p5 wN h0 n0) := by
  refine MetFree.of_bodySF (plainFor_of_name pn_com_example_deft_shards_deftshards_index_TermWeightsInHolderPinLaw) hisR ?_
  intro p e s m args below meth c s₁ Bd hml0 hP hK
  obtain ⟨rfl, hZ, hh⟩ := hP
  have hx := Bd.exec
  have hby := Bd.bytes
  have hml : c.maxLocals = 28 := hml0
  have hown : s.vm.findClass "com/example/deft_shards/deftshards/index/TermWeightsInHolderPinLaw" = some m.cls := findClass_of_methodNamed Bd.named
  have hnm := (name_of_methodNamed Bd.named Bd.method).1
  have hlk : meth.locks = false := BodyLoose.notSynchronized Bd
  have X0 : Stand p l e room_1 s m #[(.int p0), (.long q1), (.long q2), (.long q3), (.int p4), (.int p5)] below meth c s₁ [] 0 0 := Stand.of_body Bd
  have e0 : s₁.heap = h0 := by rw [← hh, Bd.state]; rfl
  have N0 := Fr.nil n0
  show GG p e below s room_1.cells room_1.slots (Q0 Z p0 q1 q2 q3 p4 p5 wN h0 n0) s₁ (entryFrame m #[(.int p0), (.long q1), (.long q2), (.long q3), (.int p4), (.int p5)] maxLocals)
  refine own_in (ef_0 m p0 q1 q2 q3 p4 p5) ?_
  have K0 := Keep.refl h0 []
  show GG _ _ _ _ _ _ _ s₁ (mkF m 0 #[.val (.int p0), .val (.long q1), .second, .val (.long q2), .second, .val (.long q3), .second, .val (.int p4), .val (.int p5), .unset, .unset, .unset, .unset, .unset, .unset, .unset, .unset, .unset, .unset, .unset, .unset, .unset, .unset, .unset, .unset, .unset, .unset, .unset] [])
  refine own_go (fun _ => XS.iloadN X0.here hx rfl (hb hby at_0) rfl) ?_
  show GG _ _ _ _ _ _ _ s₁ (mkF m 1 #[.val (.int p0), .val (.long q1), .second, .val (.long q2), .second, .val (.long q3), .second, .val (.int p4), .val (.int p5), .unset, .unset, .unset, .unset, .unset, .unset, .unset, .unset, .unset, .unset, .unset, .unset, .unset, .unset, .unset, .unset, .unset, .unset, .unset] [(.int p0)])
  refine own_go (fun _ => X0.ldcInt hx hown (mvT hZ (hw _ (List.mem_of_getElem? (i := 0) rfl))) (g := (mkF m 1 #[.val (.int p0), .val (.long q1), .second, .val (.long q2), .second, .val (.long q3), .second, .val (.int p4), .val (.int p5), .unset, .unset, .unset, .unset, .unset, .unset, .unset, .unset, .unset, .unset, .unset, .unset, .unset, .unset, .unset, .unset, .unset, .unset, .unset] [(.int p0)])) rfl (hb hby at_1) _) ?_
  show GG _ _ _ _ _ _ _ s₁ (mkF m 3 #[.val (.int p0), .val (.long q1), .second, .val (.long q2), .second, .val (.long q3), .second, .val (.int p4), .val (.int p5), .unset, .unset, .unset, .unset, .unset, .unset, .unset, .unset, .unset, .unset, .unset, .unset, .unset, .unset, .unset, .unset, .unset, .unset, .unset] [(.int (2147483647 : Int32)), (.int p0)])
  refine own_go (fun _ => XS.iand X0.here hx rfl (hb hby at_3) rfl) ?_
  show GG _ _ _ _ _ _ _ s₁ (mkF m 4 #[.val (.int p0), .val (.long q1), .second, .val (.long q2), .second, .val (.long q3), .second, .val (.int p4), .val (.int p5), .unset, .unset, .unset, .unset, .unset, .unset, .unset, .unset, .unset, .unset, .unset, .unset, .unset, .unset, .unset, .unset, .unset, .unset, .unset] [(.int (p0 &&& (2147483647 : Int32)))])
  have cx1 := c_mask p0 (2147483647 : Int32) 31 (by decide) (by decide)
  generalize hx1 : (p0 &&& (2147483647 : Int32)) = x1 at cx1 ⊢
  have rx1 := rng32 x1
  refine own_go (fun _ => XS.iconst X0.here hx rfl (hb hby at_4)) ?_
  show GG _ _ _ _ _ _ _ s₁ (mkF m 5 #[.val (.int p0), .val (.long q1), .second, .val (.long q2), .second, .val (.long q3), .second, .val (.int p4), .val (.int p5), .unset, .unset, .unset, .unset, .unset, .unset, .unset, .unset, .unset, .unset, .unset, .unset, .unset, .unset, .unset, .unset, .unset, .unset, .unset] [(.int (3 : Int32)), (.int x1)])
  refine own_go (fun _ => iremM X0 hx rfl (hb hby at_5) rfl (by decide)) ?_
  show GG _ _ _ _ _ _ _ s₁ (mkF m 6 #[.val (.int p0), .val (.long q1), .second, .val (.long q2), .second, .val (.long q3), .second, .val (.int p4), .val (.int p5), .unset, .unset, .unset, .unset, .unset, .unset, .unset, .unset, .unset, .unset, .unset, .unset, .unset, .unset, .unset, .unset, .unset, .unset, .unset] [(.int (x1 % (3 : Int32)))])
  have cx2 := c_irem x1 (3 : Int32) 3 (by decide)
  generalize hx2 : (x1 % (3 : Int32)) = x2 at cx2 ⊢
  have rx2 := rng32 x2
  refine own_go (fun _ => XS.istore X0.here hx rfl (hb hby at_6) rfl (l' := #[.val (.int p0), .val (.long q1), .second, .val (.long q2), .second, .val (.long q3), .second, .val (.int p4), .val (.int p5), .val (.int x2), .unset, .unset, .unset, .unset, .unset, .unset, .unset, .unset, .unset, .unset, .unset, .unset, .unset, .unset, .unset, .unset, .unset, .unset]) rfl) ?_
  show GG _ _ _ _ _ _ _ s₁ (mkF m 8 #[.val (.int p0), .val (.long q1), .second, .val (.long q2), .second, .val (.long q3), .second, .val (.int p4), .val (.int p5), .val (.int x2), .unset, .unset, .unset, .unset, .unset, .unset, .unset, .unset, .unset, .unset, .unset, .unset, .unset, .unset, .unset, .unset, .unset, .unset] [])
  have hsel : x2 = 0 ∨ x2 = 1 ∨ x2 = 2 := by simp only [← Int32.toInt_inj, show (0 : Int32).toInt = 0 from by decide, show (1 : Int32).toInt = 1 from by decide, show (2 : Int32).toInt = 2 from by decide]; omega
  refine own_go (fun _ => XS.iconst X0.here hx rfl (hb hby at_8)) ?_
  show GG _ _ _ _ _ _ _ s₁ (mkF m 9 #[.val (.int p0), .val (.long q1), .second, .val (.long q2), .second, .val (.long q3), .second, .val (.int p4), .val (.int p5), .val (.int x2), .unset, .unset, .unset, .unset, .unset, .unset, .unset, .unset, .unset, .unset, .unset, .unset, .unset, .unset, .unset, .unset, .unset, .unset] [(.int (3 : Int32))])
  obtain ⟨T3, h3, ob3, g3, X3, e3, E3, V_ob3, E_ob3, st3⟩ := own_newarr X0 hx hZ (hw _ (List.mem_of_getElem? (i := 1) rfl)) e0 (g := (mkF m 9 #[.val (.int p0), .val (.long q1), .second, .val (.long q2), .second, .val (.long q3), .second, .val (.int p4), .val (.int p5), .val (.int x2), .unset, .unset, .unset, .unset, .unset, .unset, .unset, .unset, .unset, .unset, .unset, .unset, .unset, .unset, .unset, .unset, .unset, .unset] [(.int (3 : Int32))])) rfl (hb hby at_9) rfl (by decide) (cap := 3) (by decide) (by decide) (by decide) (by decide) (ad := "[J") (by decide)
  have sz_ob3 : h0.size ≤ ob3 := Nat.le_trans K0.1 (Nat.le_of_eq g3.symm)
  have g_ob3 : n0 ≤ ob3 := Nat.le_trans Z0 sz_ob3
  have K0 := K0.ext E3
  have O0 := O0.ext E3
  have V_ob3 : Arx Z h3 ob3 .long [(.long (0 : Int64)), (.long (0 : Int64)), (.long (0 : Int64))] := V_ob3
  refine own_go (fun _ => st3 _) ?_
  show GG _ _ _ _ _ _ _ T3 (mkF m 11 #[.val (.int p0), .val (.long q1), .second, .val (.long q2), .second, .val (.long q3), .second, .val (.int p4), .val (.int p5), .val (.int x2), .unset, .unset, .unset, .unset, .unset, .unset, .unset, .unset, .unset, .unset, .unset, .unset, .unset, .unset, .unset, .unset, .unset, .unset] [(.ref ob3)])
  refine own_go (fun _ => XS.astore X3.here hx rfl (hb hby at_11) rfl rfl (l' := #[.val (.int p0), .val (.long q1), .second, .val (.long q2), .second, .val (.long q3), .second, .val (.int p4), .val (.int p5), .val (.int x2), .val (.ref ob3), .unset, .unset, .unset, .unset, .unset, .unset, .unset, .unset, .unset, .unset, .unset, .unset, .unset, .unset, .unset, .unset, .unset]) rfl) ?_
  show GG _ _ _ _ _ _ _ T3 (mkF m 13 #[.val (.int p0), .val (.long q1), .second, .val (.long q2), .second, .val (.long q3), .second, .val (.int p4), .val (.int p5), .val (.int x2), .val (.ref ob3), .unset, .unset, .unset, .unset, .unset, .unset, .unset, .unset, .unset, .unset, .unset, .unset, .unset, .unset, .unset, .unset, .unset] [])
  refine own_go (fun _ => XS.aload X3.here hx rfl (hb hby at_13) rfl rfl) ?_
  show GG _ _ _ _ _ _ _ T3 (mkF m 15 #[.val (.int p0), .val (.long q1), .second, .val (.long q2), .second, .val (.long q3), .second, .val (.int p4), .val (.int p5), .val (.int x2), .val (.ref ob3), .unset, .unset, .unset, .unset, .unset, .unset, .unset, .unset, .unset, .unset, .unset, .unset, .unset, .unset, .unset, .unset, .unset] [(.ref ob3)])
  refine own_go (fun _ => XS.iconst X3.here hx rfl (hb hby at_15)) ?_
  show GG _ _ _ _ _ _ _ T3 (mkF m 16 #[.val (.int p0), .val (.long q1), .second, .val (.long q2), .second, .val (.long q3), .second, .val (.int p4), .val (.int p5), .val (.int x2), .val (.ref ob3), .unset, .unset, .unset, .unset, .unset, .unset, .unset, .unset, .unset, .unset, .unset, .unset, .unset, .unset, .unset, .unset, .unset] [(.int (0 : Int32)), (.ref ob3)])
  refine own_go (fun _ => XS.lloadN X3.here hx rfl (hb hby at_16) rfl) ?_
  show GG _ _ _ _ _ _ _ T3 (mkF m 17 #[.val (.int p0), .val (.long q1), .second, .val (.long q2), .second, .val (.long q3), .second, .val (.int p4), .val (.int p5), .val (.int x2), .val (.ref ob3), .unset, .unset, .unset, .unset, .unset, .unset, .unset, .unset, .unset, .unset, .unset, .unset, .unset, .unset, .unset, .unset, .unset] [(.long q1), (.int (0 : Int32)), (.ref ob3)])
  obtain ⟨T4, h4, X4, e4, W4, V4, st4⟩ := own_lastore X3 hx hZ e3 V_ob3 (by decide) (Nat.le_of_ble_eq_true rfl) (g := (mkF m 17 #[.val (.int p0), .val (.long q1), .second, .val (.long q2), .second, .val (.long q3), .second, .val (.int p4), .val (.int p5), .val (.int x2), .val (.ref ob3), .unset, .unset, .unset, .unset, .unset, .unset, .unset, .unset, .unset, .unset, .unset, .unset, .unset, .unset, .unset, .unset, .unset] [(.long q1), (.int (0 : Int32)), (.ref ob3)])) rfl rfl (hb hby at_17)
  have K0 := K0.wr W4 (Or.inr sz_ob3)
  have O0 := O0.wr W4 g_ob3
  have E_ob3 := E_ob3.wr W4
  have V_ob3 : Arx Z h4 ob3 .long [(.long q1), (.long (0 : Int64)), (.long (0 : Int64))] := V4
  have N4 := Fr.snoc X4 N0 g_ob3
  refine own_go (fun _ => st4 _) ?_
  show GG _ _ _ _ _ _ _ T4 (mkF m 18 #[.val (.int p0), .val (.long q1), .second, .val (.long q2), .second, .val (.long q3), .second, .val (.int p4), .val (.int p5), .val (.int x2), .val (.ref ob3), .unset, .unset, .unset, .unset, .unset, .unset, .unset, .unset, .unset, .unset, .unset, .unset, .unset, .unset, .unset, .unset, .unset] [])
  refine own_go (fun _ => XS.aload X4.here hx rfl (hb hby at_18) rfl rfl) ?_
  show GG _ _ _ _ _ _ _ T4 (mkF m 20 #[.val (.int p0), .val (.long q1), .second, .val (.long q2), .second, .val (.long q3), .second, .val (.int p4), .val (.int p5), .val (.int x2), .val (.ref ob3), .unset, .unset, .unset, .unset, .unset, .unset, .unset, .unset, .unset, .unset, .unset, .unset, .unset, .unset, .unset, .unset, .unset] [(.ref ob3)])
  refine own_go (fun _ => XS.iconst X4.here hx rfl (hb hby at_20)) ?_
  show GG _ _ _ _ _ _ _ T4 (mkF m 21 #[.val (.int p0), .val (.long q1), .second, .val (.long q2), .second, .val (.long q3), .second, .val (.int p4), .val (.int p5), .val (.int x2), .val (.ref ob3), .unset, .unset, .unset, .unset, .unset, .unset, .unset, .unset, .unset, .unset, .unset, .unset, .unset, .unset, .unset, .unset, .unset] [(.int (1 : Int32)), (.ref ob3)])
  refine own_go (fun _ => XS.lloadN X4.here hx rfl (hb hby at_21) rfl) ?_
  show GG _ _ _ _ _ _ _ T4 (mkF m 22 #[.val (.int p0), .val (.long q1), .second, .val (.long q2), .second, .val (.long q3), .second, .val (.int p4), .val (.int p5), .val (.int x2), .val (.ref ob3), .unset, .unset, .unset, .unset, .unset, .unset, .unset, .unset, .unset, .unset, .unset, .unset, .unset, .unset, .unset, .unset, .unset] [(.long q2), (.int (1 : Int32)), (.ref ob3)])
  obtain ⟨T5, h5, X5, e5, W5, V5, st5⟩ := own_lastore X4 hx hZ e4 V_ob3 (by decide) (Nat.le_of_ble_eq_true rfl) (g := (mkF m 22 #[.val (.int p0), .val (.long q1), .second, .val (.long q2), .second, .val (.long q3), .second, .val (.int p4), .val (.int p5), .val (.int x2), .val (.ref ob3), .unset, .unset, .unset, .unset, .unset, .unset, .unset, .unset, .unset, .unset, .unset, .unset, .unset, .unset, .unset, .unset, .unset] [(.long q2), (.int (1 : Int32)), (.ref ob3)])) rfl rfl (hb hby at_22)
  have K0 := K0.wr W5 (Or.inr sz_ob3)
  have O0 := O0.wr W5 g_ob3
  have E_ob3 := E_ob3.wr W5
  have V_ob3 : Arx Z h5 ob3 .long [(.long q1), (.long q2), (.long (0 : Int64))] := V5
  have N5 := Fr.snoc X5 N4 g_ob3
  refine own_go (fun _ => st5 _) ?_
  show GG _ _ _ _ _ _ _ T5 (mkF m 23 #[.val (.int p0), .val (.long q1), .second, .val (.long q2), .second, .val (.long q3), .second, .val (.int p4), .val (.int p5), .val (.int x2), .val (.ref ob3), .unset, .unset, .unset, .unset, .unset, .unset, .unset, .unset, .unset, .unset, .unset, .unset, .unset, .unset, .unset, .unset, .unset] [])
  refine own_go (fun _ => XS.aload X5.here hx rfl (hb hby at_23) rfl rfl) ?_
  show GG _ _ _ _ _ _ _ T5 (mkF m 25 #[.val (.int p0), .val (.long q1), .second, .val (.long q2), .second, .val (.long q3), .second, .val (.int p4), .val (.int p5), .val (.int x2), .val (.ref ob3), .unset, .unset, .unset, .unset, .unset, .unset, .unset, .unset, .unset, .unset, .unset, .unset, .unset, .unset, .unset, .unset, .unset] [(.ref ob3)])
  refine own_go (fun _ => XS.iconst X5.here hx rfl (hb hby at_25)) ?_
  show GG _ _ _ _ _ _ _ T5 (mkF m 26 #[.val (.int p0), .val (.long q1), .second, .val (.long q2), .second, .val (.long q3), .second, .val (.int p4), .val (.int p5), .val (.int x2), .val (.ref ob3), .unset, .unset, .unset, .unset, .unset, .unset, .unset, .unset, .unset, .unset, .unset, .unset, .unset, .unset, .unset, .unset, .unset] [(.int (2 : Int32)), (.ref ob3)])
  refine own_go (fun _ => XS.lload X5.here hx rfl (hb hby at_26) rfl) ?_
  show GG _ _ _ _ _ _ _ T5 (mkF m 28 #[.val (.int p0), .val (.long q1), .second, .val (.long q2), .second, .val (.long q3), .second, .val (.int p4), .val (.int p5), .val (.int x2), .val (.ref ob3), .unset, .unset, .unset, .unset, .unset, .unset, .unset, .unset, .unset, .unset, .unset, .unset, .unset, .unset, .unset, .unset, .unset] [(.long q3), (.int (2 : Int32)), (.ref ob3)])
  obtain ⟨T6, h6, X6, e6, W6, V6, st6⟩ := own_lastore X5 hx hZ e5 V_ob3 (by decide) (Nat.le_of_ble_eq_true rfl) (g := (mkF m 28 #[.val (.int p0), .val (.long q1), .second, .val (.long q2), .second, .val (.long q3), .second, .val (.int p4), .val (.int p5), .val (.int x2), .val (.ref ob3), .unset, .unset, .unset, .unset, .unset, .unset, .unset, .unset, .unset, .unset, .unset, .unset, .unset, .unset, .unset, .unset, .unset] [(.long q3), (.int (2 : Int32)), (.ref ob3)])) rfl rfl (hb hby at_28)
  have K0 := K0.wr W6 (Or.inr sz_ob3)
  have O0 := O0.wr W6 g_ob3
  have E_ob3 := E_ob3.wr W6
  have V_ob3 : Arx Z h6 ob3 .long [(.long q1), (.long q2), (.long q3)] := V6
  have N6 := Fr.snoc X6 N5 g_ob3
  refine own_go (fun _ => st6 _) ?_
  show GG _ _ _ _ _ _ _ T6 (mkF m 29 #[.val (.int p0), .val (.long q1), .second, .val (.long q2), .second, .val (.long q3), .second, .val (.int p4), .val (.int p5), .val (.int x2), .val (.ref ob3), .unset, .unset, .unset, .unset, .unset, .unset, .unset, .unset, .unset, .unset, .unset, .unset, .unset, .unset, .unset, .unset, .unset] [])
  refine own_go (fun _ => XS.iconst X6.here hx rfl (hb hby at_29)) ?_
  show GG _ _ _ _ _ _ _ T6 (mkF m 30 #[.val (.int p0), .val (.long q1), .second, .val (.long q2), .second, .val (.long q3), .second, .val (.int p4), .val (.int p5), .val (.int x2), .val (.ref ob3), .unset, .unset, .unset, .unset, .unset, .unset, .unset, .unset, .unset, .unset, .unset, .unset, .unset, .unset, .unset, .unset, .unset] [(.int (1 : Int32))])
  refine own_go (fun _ => XS.iload X6.here hx rfl (hb hby at_30) rfl) ?_
  show GG _ _ _ _ _ _ _ T6 (mkF m 32 #[.val (.int p0), .val (.long q1), .second, .val (.long q2), .second, .val (.long q3), .second, .val (.int p4), .val (.int p5), .val (.int x2), .val (.ref ob3), .unset, .unset, .unset, .unset, .unset, .unset, .unset, .unset, .unset, .unset, .unset, .unset, .unset, .unset, .unset, .unset, .unset] [(.int p4), (.int (1 : Int32))])
  refine own_go (fun _ => XS.sipush X6.here hx rfl (hb hby at_32)) ?_
  show GG _ _ _ _ _ _ _ T6 (mkF m 35 #[.val (.int p0), .val (.long q1), .second, .val (.long q2), .second, .val (.long q3), .second, .val (.int p4), .val (.int p5), .val (.int x2), .val (.ref ob3), .unset, .unset, .unset, .unset, .unset, .unset, .unset, .unset, .unset, .unset, .unset, .unset, .unset, .unset, .unset, .unset, .unset] [(.int (255 : Int32)), (.int p4), (.int (1 : Int32))])
  refine own_go (fun _ => XS.iand X6.here hx rfl (hb hby at_35) rfl) ?_
  show GG _ _ _ _ _ _ _ T6 (mkF m 36 #[.val (.int p0), .val (.long q1), .second, .val (.long q2), .second, .val (.long q3), .second, .val (.int p4), .val (.int p5), .val (.int x2), .val (.ref ob3), .unset, .unset, .unset, .unset, .unset, .unset, .unset, .unset, .unset, .unset, .unset, .unset, .unset, .unset, .unset, .unset, .unset] [(.int (p4 &&& (255 : Int32))), (.int (1 : Int32))])
  refine own_go (fun _ => XS.iadd X6.here hx rfl (hb hby at_36) rfl) ?_
  show GG _ _ _ _ _ _ _ T6 (mkF m 37 #[.val (.int p0), .val (.long q1), .second, .val (.long q2), .second, .val (.long q3), .second, .val (.int p4), .val (.int p5), .val (.int x2), .val (.ref ob3), .unset, .unset, .unset, .unset, .unset, .unset, .unset, .unset, .unset, .unset, .unset, .unset, .unset, .unset, .unset, .unset, .unset] [(.int ((1 : Int32) + (p4 &&& (255 : Int32))))])
  refine own_go (fun _ => XS.istore X6.here hx rfl (hb hby at_37) rfl (l' := #[.val (.int p0), .val (.long q1), .second, .val (.long q2), .second, .val (.long q3), .second, .val (.int p4), .val (.int p5), .val (.int x2), .val (.ref ob3), .val (.int ((1 : Int32) + (p4 &&& (255 : Int32)))), .unset, .unset, .unset, .unset, .unset, .unset, .unset, .unset, .unset, .unset, .unset, .unset, .unset, .unset, .unset, .unset]) rfl) ?_
  show GG _ _ _ _ _ _ _ T6 (mkF m 39 #[.val (.int p0), .val (.long q1), .second, .val (.long q2), .second, .val (.long q3), .second, .val (.int p4), .val (.int p5), .val (.int x2), .val (.ref ob3), .val (.int ((1 : Int32) + (p4 &&& (255 : Int32)))), .unset, .unset, .unset, .unset, .unset, .unset, .unset, .unset, .unset, .unset, .unset, .unset, .unset, .unset, .unset, .unset] [])
  generalize hx7 : ((1 : Int32) + (p4 &&& (255 : Int32))) = x7
  refine own_go (fun _ => XS.sipush X6.here hx rfl (hb hby at_39)) ?_
  show GG _ _ _ _ _ _ _ T6 (mkF m 42 #[.val (.int p0), .val (.long q1), .second, .val (.long q2), .second, .val (.long q3), .second, .val (.int p4), .val (.int p5), .val (.int x2), .val (.ref ob3), .val (.int x7), .unset, .unset, .unset, .unset, .unset, .unset, .unset, .unset, .unset, .unset, .unset, .unset, .unset, .unset, .unset, .unset] [(.int (257 : Int32))])
  refine own_go (fun _ => XS.iload X6.here hx rfl (hb hby at_42) rfl) ?_
  show GG _ _ _ _ _ _ _ T6 (mkF m 44 #[.val (.int p0), .val (.long q1), .second, .val (.long q2), .second, .val (.long q3), .second, .val (.int p4), .val (.int p5), .val (.int x2), .val (.ref ob3), .val (.int x7), .unset, .unset, .unset, .unset, .unset, .unset, .unset, .unset, .unset, .unset, .unset, .unset, .unset, .unset, .unset, .unset] [(.int p4), (.int (257 : Int32))])
  refine own_go (fun _ => XS.bipush X6.here hx rfl (hb hby at_44)) ?_
  show GG _ _ _ _ _ _ _ T6 (mkF m 46 #[.val (.int p0), .val (.long q1), .second, .val (.long q2), .second, .val (.long q3), .second, .val (.int p4), .val (.int p5), .val (.int x2), .val (.ref ob3), .val (.int x7), .unset, .unset, .unset, .unset, .unset, .unset, .unset, .unset, .unset, .unset, .unset, .unset, .unset, .unset, .unset, .unset] [(.int (8 : Int32)), (.int p4), (.int (257 : Int32))])
  refine own_go (fun _ => XS.iushr X6.here hx rfl (hb hby at_46) rfl) ?_
  show GG _ _ _ _ _ _ _ T6 (mkF m 47 #[.val (.int p0), .val (.long q1), .second, .val (.long q2), .second, .val (.long q3), .second, .val (.int p4), .val (.int p5), .val (.int x2), .val (.ref ob3), .val (.int x7), .unset, .unset, .unset, .unset, .unset, .unset, .unset, .unset, .unset, .unset, .unset, .unset, .unset, .unset, .unset, .unset] [(.int ((p4.toUInt32 >>> ((8 : Int32) &&& 31).toUInt32).toInt32)), (.int (257 : Int32))])
  refine own_go (fun _ => XS.sipush X6.here hx rfl (hb hby at_47)) ?_
  show GG _ _ _ _ _ _ _ T6 (mkF m 50 #[.val (.int p0), .val (.long q1), .second, .val (.long q2), .second, .val (.long q3), .second, .val (.int p4), .val (.int p5), .val (.int x2), .val (.ref ob3), .val (.int x7), .unset, .unset, .unset, .unset, .unset, .unset, .unset, .unset, .unset, .unset, .unset, .unset, .unset, .unset, .unset, .unset] [(.int (255 : Int32)), (.int ((p4.toUInt32 >>> ((8 : Int32) &&& 31).toUInt32).toInt32)), (.int (257 : Int32))])
  refine own_go (fun _ => XS.iand X6.here hx rfl (hb hby at_50) rfl) ?_
  show GG _ _ _ _ _ _ _ T6 (mkF m 51 #[.val (.int p0), .val (.long q1), .second, .val (.long q2), .second, .val (.long q3), .second, .val (.int p4), .val (.int p5), .val (.int x2), .val (.ref ob3), .val (.int x7), .unset, .unset, .unset, .unset, .unset, .unset, .unset, .unset, .unset, .unset, .unset, .unset, .unset, .unset, .unset, .unset] [(.int (((p4.toUInt32 >>> ((8 : Int32) &&& 31).toUInt32).toInt32) &&& (255 : Int32))), (.int (257 : Int32))])
  refine own_go (fun _ => XS.iadd X6.here hx rfl (hb hby at_51) rfl) ?_
  show GG _ _ _ _ _ _ _ T6 (mkF m 52 #[.val (.int p0), .val (.long q1), .second, .val (.long q2), .second, .val (.long q3), .second, .val (.int p4), .val (.int p5), .val (.int x2), .val (.ref ob3), .val (.int x7), .unset, .unset, .unset, .unset, .unset, .unset, .unset, .unset, .unset, .unset, .unset, .unset, .unset, .unset, .unset, .unset] [(.int ((257 : Int32) + (((p4.toUInt32 >>> ((8 : Int32) &&& 31).toUInt32).toInt32) &&& (255 : Int32))))])
  refine own_go (fun _ => XS.istore X6.here hx rfl (hb hby at_52) rfl (l' := #[.val (.int p0), .val (.long q1), .second, .val (.long q2), .second, .val (.long q3), .second, .val (.int p4), .val (.int p5), .val (.int x2), .val (.ref ob3), .val (.int x7), .val (.int ((257 : Int32) + (((p4.toUInt32 >>> ((8 : Int32) &&& 31).toUInt32).toInt32) &&& (255 : Int32)))), .unset, .unset, .unset, .unset, .unset, .unset, .unset, .unset, .unset, .unset, .unset, .unset, .unset, .unset, .unset]) rfl) ?_
  show GG _ _ _ _ _ _ _ T6 (mkF m 54 #[.val (.int p0), .val (.long q1), .second, .val (.long q2), .second, .val (.long q3), .second, .val (.int p4), .val (.int p5), .val (.int x2), .val (.ref ob3), .val (.int x7), .val (.int ((257 : Int32) + (((p4.toUInt32 >>> ((8 : Int32) &&& 31).toUInt32).toInt32) &&& (255 : Int32)))), .unset, .unset, .unset, .unset, .unset, .unset, .unset, .unset, .unset, .unset, .unset, .unset, .unset, .unset, .unset] [])
  generalize hx8 : ((257 : Int32) + (((p4.toUInt32 >>> ((8 : Int32) &&& 31).toUInt32).toInt32) &&& (255 : Int32))) = x8
  refine own_go (fun _ => XS.sipush X6.here hx rfl (hb hby at_54)) ?_
  show GG _ _ _ _ _ _ _ T6 (mkF m 57 #[.val (.int p0), .val (.long q1), .second, .val (.long q2), .second, .val (.long q3), .second, .val (.int p4), .val (.int p5), .val (.int x2), .val (.ref ob3), .val (.int x7), .val (.int x8), .unset, .unset, .unset, .unset, .unset, .unset, .unset, .unset, .unset, .unset, .unset, .unset, .unset, .unset, .unset] [(.int (513 : Int32))])
  refine own_go (fun _ => XS.iload X6.here hx rfl (hb hby at_57) rfl) ?_
  show GG _ _ _ _ _ _ _ T6 (mkF m 59 #[.val (.int p0), .val (.long q1), .second, .val (.long q2), .second, .val (.long q3), .second, .val (.int p4), .val (.int p5), .val (.int x2), .val (.ref ob3), .val (.int x7), .val (.int x8), .unset, .unset, .unset, .unset, .unset, .unset, .unset, .unset, .unset, .unset, .unset, .unset, .unset, .unset, .unset] [(.int p4), (.int (513 : Int32))])
  refine own_go (fun _ => XS.bipush X6.here hx rfl (hb hby at_59)) ?_
  show GG _ _ _ _ _ _ _ T6 (mkF m 61 #[.val (.int p0), .val (.long q1), .second, .val (.long q2), .second, .val (.long q3), .second, .val (.int p4), .val (.int p5), .val (.int x2), .val (.ref ob3), .val (.int x7), .val (.int x8), .unset, .unset, .unset, .unset, .unset, .unset, .unset, .unset, .unset, .unset, .unset, .unset, .unset, .unset, .unset] [(.int (16 : Int32)), (.int p4), (.int (513 : Int32))])
  refine own_go (fun _ => XS.iushr X6.here hx rfl (hb hby at_61) rfl) ?_
  show GG _ _ _ _ _ _ _ T6 (mkF m 62 #[.val (.int p0), .val (.long q1), .second, .val (.long q2), .second, .val (.long q3), .second, .val (.int p4), .val (.int p5), .val (.int x2), .val (.ref ob3), .val (.int x7), .val (.int x8), .unset, .unset, .unset, .unset, .unset, .unset, .unset, .unset, .unset, .unset, .unset, .unset, .unset, .unset, .unset] [(.int ((p4.toUInt32 >>> ((16 : Int32) &&& 31).toUInt32).toInt32)), (.int (513 : Int32))])
  refine own_go (fun _ => XS.sipush X6.here hx rfl (hb hby at_62)) ?_
  show GG _ _ _ _ _ _ _ T6 (mkF m 65 #[.val (.int p0), .val (.long q1), .second, .val (.long q2), .second, .val (.long q3), .second, .val (.int p4), .val (.int p5), .val (.int x2), .val (.ref ob3), .val (.int x7), .val (.int x8), .unset, .unset, .unset, .unset, .unset, .unset, .unset, .unset, .unset, .unset, .unset, .unset, .unset, .unset, .unset] [(.int (255 : Int32)), (.int ((p4.toUInt32 >>> ((16 : Int32) &&& 31).toUInt32).toInt32)), (.int (513 : Int32))])
  refine own_go (fun _ => XS.iand X6.here hx rfl (hb hby at_65) rfl) ?_
  show GG _ _ _ _ _ _ _ T6 (mkF m 66 #[.val (.int p0), .val (.long q1), .second, .val (.long q2), .second, .val (.long q3), .second, .val (.int p4), .val (.int p5), .val (.int x2), .val (.ref ob3), .val (.int x7), .val (.int x8), .unset, .unset, .unset, .unset, .unset, .unset, .unset, .unset, .unset, .unset, .unset, .unset, .unset, .unset, .unset] [(.int (((p4.toUInt32 >>> ((16 : Int32) &&& 31).toUInt32).toInt32) &&& (255 : Int32))), (.int (513 : Int32))])
  refine own_go (fun _ => XS.iadd X6.here hx rfl (hb hby at_66) rfl) ?_
  show GG _ _ _ _ _ _ _ T6 (mkF m 67 #[.val (.int p0), .val (.long q1), .second, .val (.long q2), .second, .val (.long q3), .second, .val (.int p4), .val (.int p5), .val (.int x2), .val (.ref ob3), .val (.int x7), .val (.int x8), .unset, .unset, .unset, .unset, .unset, .unset, .unset, .unset, .unset, .unset, .unset, .unset, .unset, .unset, .unset] [(.int ((513 : Int32) + (((p4.toUInt32 >>> ((16 : Int32) &&& 31).toUInt32).toInt32) &&& (255 : Int32))))])
  refine own_go (fun _ => XS.istore X6.here hx rfl (hb hby at_67) rfl (l' := #[.val (.int p0), .val (.long q1), .second, .val (.long q2), .second, .val (.long q3), .second, .val (.int p4), .val (.int p5), .val (.int x2), .val (.ref ob3), .val (.int x7), .val (.int x8), .val (.int ((513 : Int32) + (((p4.toUInt32 >>> ((16 : Int32) &&& 31).toUInt32).toInt32) &&& (255 : Int32)))), .unset, .unset, .unset, .unset, .unset, .unset, .unset, .unset, .unset, .unset, .unset, .unset, .unset, .unset]) rfl) ?_
  show GG _ _ _ _ _ _ _ T6 (mkF m 69 #[.val (.int p0), .val (.long q1), .second, .val (.long q2), .second, .val (.long q3), .second, .val (.int p4), .val (.int p5), .val (.int x2), .val (.ref ob3), .val (.int x7), .val (.int x8), .val (.int ((513 : Int32) + (((p4.toUInt32 >>> ((16 : Int32) &&& 31).toUInt32).toInt32) &&& (255 : Int32)))), .unset, .unset, .unset, .unset, .unset, .unset, .unset, .unset, .unset, .unset, .unset, .unset, .unset, .unset] [])
  generalize hx9 : ((513 : Int32) + (((p4.toUInt32 >>> ((16 : Int32) &&& 31).toUInt32).toInt32) &&& (255 : Int32))) = x9
  refine own_go (fun _ => XS.sipush X6.here hx rfl (hb hby at_69)) ?_
  show GG _ _ _ _ _ _ _ T6 (mkF m 72 #[.val (.int p0), .val (.long q1), .second, .val (.long q2), .second, .val (.long q3), .second, .val (.int p4), .val (.int p5), .val (.int x2), .val (.ref ob3), .val (.int x7), .val (.int x8), .val (.int x9), .unset, .unset, .unset, .unset, .unset, .unset, .unset, .unset, .unset, .unset, .unset, .unset, .unset, .unset] [(.int (1000 : Int32))])
  refine own_go (fun _ => XS.iload X6.here hx rfl (hb hby at_72) rfl) ?_
  show GG _ _ _ _ _ _ _ T6 (mkF m 74 #[.val (.int p0), .val (.long q1), .second, .val (.long q2), .second, .val (.long q3), .second, .val (.int p4), .val (.int p5), .val (.int x2), .val (.ref ob3), .val (.int x7), .val (.int x8), .val (.int x9), .unset, .unset, .unset, .unset, .unset, .unset, .unset, .unset, .unset, .unset, .unset, .unset, .unset, .unset] [(.int p5), (.int (1000 : Int32))])
  refine own_go (fun _ => XS.sipush X6.here hx rfl (hb hby at_74)) ?_
  show GG _ _ _ _ _ _ _ T6 (mkF m 77 #[.val (.int p0), .val (.long q1), .second, .val (.long q2), .second, .val (.long q3), .second, .val (.int p4), .val (.int p5), .val (.int x2), .val (.ref ob3), .val (.int x7), .val (.int x8), .val (.int x9), .unset, .unset, .unset, .unset, .unset, .unset, .unset, .unset, .unset, .unset, .unset, .unset, .unset, .unset] [(.int (255 : Int32)), (.int p5), (.int (1000 : Int32))])
  refine own_go (fun _ => XS.iand X6.here hx rfl (hb hby at_77) rfl) ?_
  show GG _ _ _ _ _ _ _ T6 (mkF m 78 #[.val (.int p0), .val (.long q1), .second, .val (.long q2), .second, .val (.long q3), .second, .val (.int p4), .val (.int p5), .val (.int x2), .val (.ref ob3), .val (.int x7), .val (.int x8), .val (.int x9), .unset, .unset, .unset, .unset, .unset, .unset, .unset, .unset, .unset, .unset, .unset, .unset, .unset, .unset] [(.int (p5 &&& (255 : Int32))), (.int (1000 : Int32))])
  refine own_go (fun _ => XS.iadd X6.here hx rfl (hb hby at_78) rfl) ?_
  show GG _ _ _ _ _ _ _ T6 (mkF m 79 #[.val (.int p0), .val (.long q1), .second, .val (.long q2), .second, .val (.long q3), .second, .val (.int p4), .val (.int p5), .val (.int x2), .val (.ref ob3), .val (.int x7), .val (.int x8), .val (.int x9), .unset, .unset, .unset, .unset, .unset, .unset, .unset, .unset, .unset, .unset, .unset, .unset, .unset, .unset] [(.int ((1000 : Int32) + (p5 &&& (255 : Int32))))])
  refine own_go (fun _ => XS.istore X6.here hx rfl (hb hby at_79) rfl (l' := #[.val (.int p0), .val (.long q1), .second, .val (.long q2), .second, .val (.long q3), .second, .val (.int p4), .val (.int p5), .val (.int x2), .val (.ref ob3), .val (.int x7), .val (.int x8), .val (.int x9), .val (.int ((1000 : Int32) + (p5 &&& (255 : Int32)))), .unset, .unset, .unset, .unset, .unset, .unset, .unset, .unset, .unset, .unset, .unset, .unset, .unset]) rfl) ?_
  show GG _ _ _ _ _ _ _ T6 (mkF m 81 #[.val (.int p0), .val (.long q1), .second, .val (.long q2), .second, .val (.long q3), .second, .val (.int p4), .val (.int p5), .val (.int x2), .val (.ref ob3), .val (.int x7), .val (.int x8), .val (.int x9), .val (.int ((1000 : Int32) + (p5 &&& (255 : Int32)))), .unset, .unset, .unset, .unset, .unset, .unset, .unset, .unset, .unset, .unset, .unset, .unset, .unset] [])
  generalize hx10 : ((1000 : Int32) + (p5 &&& (255 : Int32))) = x10
  refine own_go (fun _ => XS.sipush X6.here hx rfl (hb hby at_81)) ?_
  show GG _ _ _ _ _ _ _ T6 (mkF m 84 #[.val (.int p0), .val (.long q1), .second, .val (.long q2), .second, .val (.long q3), .second, .val (.int p4), .val (.int p5), .val (.int x2), .val (.ref ob3), .val (.int x7), .val (.int x8), .val (.int x9), .val (.int x10), .unset, .unset, .unset, .unset, .unset, .unset, .unset, .unset, .unset, .unset, .unset, .unset, .unset] [(.int (2000 : Int32))])
  refine own_go (fun _ => XS.iload X6.here hx rfl (hb hby at_84) rfl) ?_
  show GG _ _ _ _ _ _ _ T6 (mkF m 86 #[.val (.int p0), .val (.long q1), .second, .val (.long q2), .second, .val (.long q3), .second, .val (.int p4), .val (.int p5), .val (.int x2), .val (.ref ob3), .val (.int x7), .val (.int x8), .val (.int x9), .val (.int x10), .unset, .unset, .unset, .unset, .unset, .unset, .unset, .unset, .unset, .unset, .unset, .unset, .unset] [(.int p5), (.int (2000 : Int32))])
  refine own_go (fun _ => XS.bipush X6.here hx rfl (hb hby at_86)) ?_
  show GG _ _ _ _ _ _ _ T6 (mkF m 88 #[.val (.int p0), .val (.long q1), .second, .val (.long q2), .second, .val (.long q3), .second, .val (.int p4), .val (.int p5), .val (.int x2), .val (.ref ob3), .val (.int x7), .val (.int x8), .val (.int x9), .val (.int x10), .unset, .unset, .unset, .unset, .unset, .unset, .unset, .unset, .unset, .unset, .unset, .unset, .unset] [(.int (8 : Int32)), (.int p5), (.int (2000 : Int32))])
  refine own_go (fun _ => XS.iushr X6.here hx rfl (hb hby at_88) rfl) ?_
  show GG _ _ _ _ _ _ _ T6 (mkF m 89 #[.val (.int p0), .val (.long q1), .second, .val (.long q2), .second, .val (.long q3), .second, .val (.int p4), .val (.int p5), .val (.int x2), .val (.ref ob3), .val (.int x7), .val (.int x8), .val (.int x9), .val (.int x10), .unset, .unset, .unset, .unset, .unset, .unset, .unset, .unset, .unset, .unset, .unset, .unset, .unset] [(.int ((p5.toUInt32 >>> ((8 : Int32) &&& 31).toUInt32).toInt32)), (.int (2000 : Int32))])
  refine own_go (fun _ => XS.sipush X6.here hx rfl (hb hby at_89)) ?_
  show GG _ _ _ _ _ _ _ T6 (mkF m 92 #[.val (.int p0), .val (.long q1), .second, .val (.long q2), .second, .val (.long q3), .second, .val (.int p4), .val (.int p5), .val (.int x2), .val (.ref ob3), .val (.int x7), .val (.int x8), .val (.int x9), .val (.int x10), .unset, .unset, .unset, .unset, .unset, .unset, .unset, .unset, .unset, .unset, .unset, .unset, .unset] [(.int (255 : Int32)), (.int ((p5.toUInt32 >>> ((8 : Int32) &&& 31).toUInt32).toInt32)), (.int (2000 : Int32))])
  refine own_go (fun _ => XS.iand X6.here hx rfl (hb hby at_92) rfl) ?_
  show GG _ _ _ _ _ _ _ T6 (mkF m 93 #[.val (.int p0), .val (.long q1), .second, .val (.long q2), .second, .val (.long q3), .second, .val (.int p4), .val (.int p5), .val (.int x2), .val (.ref ob3), .val (.int x7), .val (.int x8), .val (.int x9), .val (.int x10), .unset, .unset, .unset, .unset, .unset, .unset, .unset, .unset, .unset, .unset, .unset, .unset, .unset] [(.int (((p5.toUInt32 >>> ((8 : Int32) &&& 31).toUInt32).toInt32) &&& (255 : Int32))), (.int (2000 : Int32))])
  refine own_go (fun _ => XS.iadd X6.here hx rfl (hb hby at_93) rfl) ?_
  show GG _ _ _ _ _ _ _ T6 (mkF m 94 #[.val (.int p0), .val (.long q1), .second, .val (.long q2), .second, .val (.long q3), .second, .val (.int p4), .val (.int p5), .val (.int x2), .val (.ref ob3), .val (.int x7), .val (.int x8), .val (.int x9), .val (.int x10), .unset, .unset, .unset, .unset, .unset, .unset, .unset, .unset, .unset, .unset, .unset, .unset, .unset] [(.int ((2000 : Int32) + (((p5.toUInt32 >>> ((8 : Int32) &&& 31).toUInt32).toInt32) &&& (255 : Int32))))])
  refine own_go (fun _ => XS.istore X6.here hx rfl (hb hby at_94) rfl (l' := #[.val (.int p0), .val (.long q1), .second, .val (.long q2), .second, .val (.long q3), .second, .val (.int p4), .val (.int p5), .val (.int x2), .val (.ref ob3), .val (.int x7), .val (.int x8), .val (.int x9), .val (.int x10), .val (.int ((2000 : Int32) + (((p5.toUInt32 >>> ((8 : Int32) &&& 31).toUInt32).toInt32) &&& (255 : Int32)))), .unset, .unset, .unset, .unset, .unset, .unset, .unset, .unset, .unset, .unset, .unset, .unset]) rfl) ?_
  show GG _ _ _ _ _ _ _ T6 (mkF m 96 #[.val (.int p0), .val (.long q1), .second, .val (.long q2), .second, .val (.long q3), .second, .val (.int p4), .val (.int p5), .val (.int x2), .val (.ref ob3), .val (.int x7), .val (.int x8), .val (.int x9), .val (.int x10), .val (.int ((2000 : Int32) + (((p5.toUInt32 >>> ((8 : Int32) &&& 31).toUInt32).toInt32) &&& (255 : Int32)))), .unset, .unset, .unset, .unset, .unset, .unset, .unset, .unset, .unset, .unset, .unset, .unset] [])
  generalize hx11 : ((2000 : Int32) + (((p5.toUInt32 >>> ((8 : Int32) &&& 31).toUInt32).toInt32) &&& (255 : Int32))) = x11
  refine own_go (fun _ => XS.sipush X6.here hx rfl (hb hby at_96)) ?_
  show GG _ _ _ _ _ _ _ T6 (mkF m 99 #[.val (.int p0), .val (.long q1), .second, .val (.long q2), .second, .val (.long q3), .second, .val (.int p4), .val (.int p5), .val (.int x2), .val (.ref ob3), .val (.int x7), .val (.int x8), .val (.int x9), .val (.int x10), .val (.int x11), .unset, .unset, .unset, .unset, .unset, .unset, .unset, .unset, .unset, .unset, .unset, .unset] [(.int (3000 : Int32))])
  refine own_go (fun _ => XS.iload X6.here hx rfl (hb hby at_99) rfl) ?_
  show GG _ _ _ _ _ _ _ T6 (mkF m 101 #[.val (.int p0), .val (.long q1), .second, .val (.long q2), .second, .val (.long q3), .second, .val (.int p4), .val (.int p5), .val (.int x2), .val (.ref ob3), .val (.int x7), .val (.int x8), .val (.int x9), .val (.int x10), .val (.int x11), .unset, .unset, .unset, .unset, .unset, .unset, .unset, .unset, .unset, .unset, .unset, .unset] [(.int p5), (.int (3000 : Int32))])
  refine own_go (fun _ => XS.bipush X6.here hx rfl (hb hby at_101)) ?_
  show GG _ _ _ _ _ _ _ T6 (mkF m 103 #[.val (.int p0), .val (.long q1), .second, .val (.long q2), .second, .val (.long q3), .second, .val (.int p4), .val (.int p5), .val (.int x2), .val (.ref ob3), .val (.int x7), .val (.int x8), .val (.int x9), .val (.int x10), .val (.int x11), .unset, .unset, .unset, .unset, .unset, .unset, .unset, .unset, .unset, .unset, .unset, .unset] [(.int (16 : Int32)), (.int p5), (.int (3000 : Int32))])
  refine own_go (fun _ => XS.iushr X6.here hx rfl (hb hby at_103) rfl) ?_
  show GG _ _ _ _ _ _ _ T6 (mkF m 104 #[.val (.int p0), .val (.long q1), .second, .val (.long q2), .second, .val (.long q3), .second, .val (.int p4), .val (.int p5), .val (.int x2), .val (.ref ob3), .val (.int x7), .val (.int x8), .val (.int x9), .val (.int x10), .val (.int x11), .unset, .unset, .unset, .unset, .unset, .unset, .unset, .unset, .unset, .unset, .unset, .unset] [(.int ((p5.toUInt32 >>> ((16 : Int32) &&& 31).toUInt32).toInt32)), (.int (3000 : Int32))])
  refine own_go (fun _ => XS.sipush X6.here hx rfl (hb hby at_104)) ?_
  show GG _ _ _ _ _ _ _ T6 (mkF m 107 #[.val (.int p0), .val (.long q1), .second, .val (.long q2), .second, .val (.long q3), .second, .val (.int p4), .val (.int p5), .val (.int x2), .val (.ref ob3), .val (.int x7), .val (.int x8), .val (.int x9), .val (.int x10), .val (.int x11), .unset, .unset, .unset, .unset, .unset, .unset, .unset, .unset, .unset, .unset, .unset, .unset] [(.int (255 : Int32)), (.int ((p5.toUInt32 >>> ((16 : Int32) &&& 31).toUInt32).toInt32)), (.int (3000 : Int32))])
  refine own_go (fun _ => XS.iand X6.here hx rfl (hb hby at_107) rfl) ?_
  show GG _ _ _ _ _ _ _ T6 (mkF m 108 #[.val (.int p0), .val (.long q1), .second, .val (.long q2), .second, .val (.long q3), .second, .val (.int p4), .val (.int p5), .val (.int x2), .val (.ref ob3), .val (.int x7), .val (.int x8), .val (.int x9), .val (.int x10), .val (.int x11), .unset, .unset, .unset, .unset, .unset, .unset, .unset, .unset, .unset, .unset, .unset, .unset] [(.int (((p5.toUInt32 >>> ((16 : Int32) &&& 31).toUInt32).toInt32) &&& (255 : Int32))), (.int (3000 : Int32))])
  refine own_go (fun _ => XS.iadd X6.here hx rfl (hb hby at_108) rfl) ?_
  show GG _ _ _ _ _ _ _ T6 (mkF m 109 #[.val (.int p0), .val (.long q1), .second, .val (.long q2), .second, .val (.long q3), .second, .val (.int p4), .val (.int p5), .val (.int x2), .val (.ref ob3), .val (.int x7), .val (.int x8), .val (.int x9), .val (.int x10), .val (.int x11), .unset, .unset, .unset, .unset, .unset, .unset, .unset, .unset, .unset, .unset, .unset, .unset] [(.int ((3000 : Int32) + (((p5.toUInt32 >>> ((16 : Int32) &&& 31).toUInt32).toInt32) &&& (255 : Int32))))])
  refine own_go (fun _ => XS.istore X6.here hx rfl (hb hby at_109) rfl (l' := #[.val (.int p0), .val (.long q1), .second, .val (.long q2), .second, .val (.long q3), .second, .val (.int p4), .val (.int p5), .val (.int x2), .val (.ref ob3), .val (.int x7), .val (.int x8), .val (.int x9), .val (.int x10), .val (.int x11), .val (.int ((3000 : Int32) + (((p5.toUInt32 >>> ((16 : Int32) &&& 31).toUInt32).toInt32) &&& (255 : Int32)))), .unset, .unset, .unset, .unset, .unset, .unset, .unset, .unset, .unset, .unset, .unset]) rfl) ?_
  show GG _ _ _ _ _ _ _ T6 (mkF m 111 #[.val (.int p0), .val (.long q1), .second, .val (.long q2), .second, .val (.long q3), .second, .val (.int p4), .val (.int p5), .val (.int x2), .val (.ref ob3), .val (.int x7), .val (.int x8), .val (.int x9), .val (.int x10), .val (.int x11), .val (.int ((3000 : Int32) + (((p5.toUInt32 >>> ((16 : Int32) &&& 31).toUInt32).toInt32) &&& (255 : Int32)))), .unset, .unset, .unset, .unset, .unset, .unset, .unset, .unset, .unset, .unset, .unset] [])
  generalize hx12 : ((3000 : Int32) + (((p5.toUInt32 >>> ((16 : Int32) &&& 31).toUInt32).toInt32) &&& (255 : Int32))) = x12
  refine own_go (fun _ => XS.iconst X6.here hx rfl (hb hby at_111)) ?_
  show GG _ _ _ _ _ _ _ T6 (mkF m 112 #[.val (.int p0), .val (.long q1), .second, .val (.long q2), .second, .val (.long q3), .second, .val (.int p4), .val (.int p5), .val (.int x2), .val (.ref ob3), .val (.int x7), .val (.int x8), .val (.int x9), .val (.int x10), .val (.int x11), .val (.int x12), .unset, .unset, .unset, .unset, .unset, .unset, .unset, .unset, .unset, .unset, .unset] [(.int (3 : Int32))])
  obtain ⟨T13, h13, ob13, g13, X13, e13, E13, V_ob13, E_ob13, st13⟩ := own_newarr X6 hx hZ (hw _ (List.mem_of_getElem? (i := 2) rfl)) e6 (g := (mkF m 112 #[.val (.int p0), .val (.long q1), .second, .val (.long q2), .second, .val (.long q3), .second, .val (.int p4), .val (.int p5), .val (.int x2), .val (.ref ob3), .val (.int x7), .val (.int x8), .val (.int x9), .val (.int x10), .val (.int x11), .val (.int x12), .unset, .unset, .unset, .unset, .unset, .unset, .unset, .unset, .unset, .unset, .unset] [(.int (3 : Int32))])) rfl (hb hby at_112) rfl (by decide) (cap := 3) (by decide) (by decide) (by decide) (by decide) (ad := "[D") (by decide)
  have ne_ob3_ob13 : ob3 ≠ ob13 := Nat.ne_of_lt (Nat.lt_of_lt_of_le V_ob3.lt (Nat.le_of_eq g13.symm))
  have sz_ob13 : h0.size ≤ ob13 := Nat.le_trans K0.1 (Nat.le_of_eq g13.symm)
  have g_ob13 : n0 ≤ ob13 := Nat.le_trans Z0 sz_ob13
  have K0 := K0.ext E13
  have O0 := O0.ext E13
  have V_ob3 := V_ob3.ext E13
  have E_ob3 := E_ob3.ext E13
  have V_ob13 : Arx Z h13 ob13 .double [(.double (0 : UInt64)), (.double (0 : UInt64)), (.double (0 : UInt64))] := V_ob13
  refine own_go (fun _ => st13 _) ?_
  show GG _ _ _ _ _ _ _ T13 (mkF m 114 #[.val (.int p0), .val (.long q1), .second, .val (.long q2), .second, .val (.long q3), .second, .val (.int p4), .val (.int p5), .val (.int x2), .val (.ref ob3), .val (.int x7), .val (.int x8), .val (.int x9), .val (.int x10), .val (.int x11), .val (.int x12), .unset, .unset, .unset, .unset, .unset, .unset, .unset, .unset, .unset, .unset, .unset] [(.ref ob13)])
  refine own_go (fun _ => XS.astore X13.here hx rfl (hb hby at_114) rfl rfl (l' := #[.val (.int p0), .val (.long q1), .second, .val (.long q2), .second, .val (.long q3), .second, .val (.int p4), .val (.int p5), .val (.int x2), .val (.ref ob3), .val (.int x7), .val (.int x8), .val (.int x9), .val (.int x10), .val (.int x11), .val (.int x12), .val (.ref ob13), .unset, .unset, .unset, .unset, .unset, .unset, .unset, .unset, .unset, .unset]) rfl) ?_
  show GG _ _ _ _ _ _ _ T13 (mkF m 116 #[.val (.int p0), .val (.long q1), .second, .val (.long q2), .second, .val (.long q3), .second, .val (.int p4), .val (.int p5), .val (.int x2), .val (.ref ob3), .val (.int x7), .val (.int x8), .val (.int x9), .val (.int x10), .val (.int x11), .val (.int x12), .val (.ref ob13), .unset, .unset, .unset, .unset, .unset, .unset, .unset, .unset, .unset, .unset] [])
  refine own_go (fun _ => XS.aload X13.here hx rfl (hb hby at_116) rfl rfl) ?_
  show GG _ _ _ _ _ _ _ T13 (mkF m 118 #[.val (.int p0), .val (.long q1), .second, .val (.long q2), .second, .val (.long q3), .second, .val (.int p4), .val (.int p5), .val (.int x2), .val (.ref ob3), .val (.int x7), .val (.int x8), .val (.int x9), .val (.int x10), .val (.int x11), .val (.int x12), .val (.ref ob13), .unset, .unset, .unset, .unset, .unset, .unset, .unset, .unset, .unset, .unset] [(.ref ob13)])
  refine own_go (fun _ => XS.iconst X13.here hx rfl (hb hby at_118)) ?_
  show GG _ _ _ _ _ _ _ T13 (mkF m 119 #[.val (.int p0), .val (.long q1), .second, .val (.long q2), .second, .val (.long q3), .second, .val (.int p4), .val (.int p5), .val (.int x2), .val (.ref ob3), .val (.int x7), .val (.int x8), .val (.int x9), .val (.int x10), .val (.int x11), .val (.int x12), .val (.ref ob13), .unset, .unset, .unset, .unset, .unset, .unset, .unset, .unset, .unset, .unset] [(.int (0 : Int32)), (.ref ob13)])
  refine own_go (fun _ => XS.iload X13.here hx rfl (hb hby at_119) rfl) ?_
  show GG _ _ _ _ _ _ _ T13 (mkF m 121 #[.val (.int p0), .val (.long q1), .second, .val (.long q2), .second, .val (.long q3), .second, .val (.int p4), .val (.int p5), .val (.int x2), .val (.ref ob3), .val (.int x7), .val (.int x8), .val (.int x9), .val (.int x10), .val (.int x11), .val (.int x12), .val (.ref ob13), .unset, .unset, .unset, .unset, .unset, .unset, .unset, .unset, .unset, .unset] [(.int x7), (.int (0 : Int32)), (.ref ob13)])
  refine own_go (fun _ => XS.i2dS X13.here hx rfl (hb hby at_121) rfl rfl) ?_
  show GG _ _ _ _ _ _ _ T13 (mkF m 122 #[.val (.int p0), .val (.long q1), .second, .val (.long q2), .second, .val (.long q3), .second, .val (.int p4), .val (.int p5), .val (.int x2), .val (.ref ob3), .val (.int x7), .val (.int x8), .val (.int x9), .val (.int x10), .val (.int x11), .val (.int x12), .val (.ref ob13), .unset, .unset, .unset, .unset, .unset, .unset, .unset, .unset, .unset, .unset] [(.double (FP.i2d x7)), (.int (0 : Int32)), (.ref ob13)])
  obtain ⟨T14, h14, X14, e14, W14, V14, st14⟩ := own_dastore X13 hx hZ e13 V_ob13 (by decide) (Nat.le_of_ble_eq_true rfl) (g := (mkF m 122 #[.val (.int p0), .val (.long q1), .second, .val (.long q2), .second, .val (.long q3), .second, .val (.int p4), .val (.int p5), .val (.int x2), .val (.ref ob3), .val (.int x7), .val (.int x8), .val (.int x9), .val (.int x10), .val (.int x11), .val (.int x12), .val (.ref ob13), .unset, .unset, .unset, .unset, .unset, .unset, .unset, .unset, .unset, .unset] [(.double (FP.i2d x7)), (.int (0 : Int32)), (.ref ob13)])) rfl rfl (hb hby at_122)
  have K0 := K0.wr W14 (Or.inr sz_ob13)
  have O0 := O0.wr W14 g_ob13
  have V_ob3 := V_ob3.other W14 ne_ob3_ob13
  have E_ob3 := E_ob3.wr W14
  have E_ob13 := E_ob13.wr W14
  have V_ob13 : Arx Z h14 ob13 .double [(.double (FP.i2d x7)), (.double (0 : UInt64)), (.double (0 : UInt64))] := V14
  have N14 := Fr.snoc X14 N6 g_ob13
  refine own_go (fun _ => st14 _) ?_
  show GG _ _ _ _ _ _ _ T14 (mkF m 123 #[.val (.int p0), .val (.long q1), .second, .val (.long q2), .second, .val (.long q3), .second, .val (.int p4), .val (.int p5), .val (.int x2), .val (.ref ob3), .val (.int x7), .val (.int x8), .val (.int x9), .val (.int x10), .val (.int x11), .val (.int x12), .val (.ref ob13), .unset, .unset, .unset, .unset, .unset, .unset, .unset, .unset, .unset, .unset] [])
  refine own_go (fun _ => XS.aload X14.here hx rfl (hb hby at_123) rfl rfl) ?_
  show GG _ _ _ _ _ _ _ T14 (mkF m 125 #[.val (.int p0), .val (.long q1), .second, .val (.long q2), .second, .val (.long q3), .second, .val (.int p4), .val (.int p5), .val (.int x2), .val (.ref ob3), .val (.int x7), .val (.int x8), .val (.int x9), .val (.int x10), .val (.int x11), .val (.int x12), .val (.ref ob13), .unset, .unset, .unset, .unset, .unset, .unset, .unset, .unset, .unset, .unset] [(.ref ob13)])
  refine own_go (fun _ => XS.iconst X14.here hx rfl (hb hby at_125)) ?_
  show GG _ _ _ _ _ _ _ T14 (mkF m 126 #[.val (.int p0), .val (.long q1), .second, .val (.long q2), .second, .val (.long q3), .second, .val (.int p4), .val (.int p5), .val (.int x2), .val (.ref ob3), .val (.int x7), .val (.int x8), .val (.int x9), .val (.int x10), .val (.int x11), .val (.int x12), .val (.ref ob13), .unset, .unset, .unset, .unset, .unset, .unset, .unset, .unset, .unset, .unset] [(.int (1 : Int32)), (.ref ob13)])
  refine own_go (fun _ => XS.iload X14.here hx rfl (hb hby at_126) rfl) ?_
  show GG _ _ _ _ _ _ _ T14 (mkF m 128 #[.val (.int p0), .val (.long q1), .second, .val (.long q2), .second, .val (.long q3), .second, .val (.int p4), .val (.int p5), .val (.int x2), .val (.ref ob3), .val (.int x7), .val (.int x8), .val (.int x9), .val (.int x10), .val (.int x11), .val (.int x12), .val (.ref ob13), .unset, .unset, .unset, .unset, .unset, .unset, .unset, .unset, .unset, .unset] [(.int x8), (.int (1 : Int32)), (.ref ob13)])
  refine own_go (fun _ => XS.i2dS X14.here hx rfl (hb hby at_128) rfl rfl) ?_
  show GG _ _ _ _ _ _ _ T14 (mkF m 129 #[.val (.int p0), .val (.long q1), .second, .val (.long q2), .second, .val (.long q3), .second, .val (.int p4), .val (.int p5), .val (.int x2), .val (.ref ob3), .val (.int x7), .val (.int x8), .val (.int x9), .val (.int x10), .val (.int x11), .val (.int x12), .val (.ref ob13), .unset, .unset, .unset, .unset, .unset, .unset, .unset, .unset, .unset, .unset] [(.double (FP.i2d x8)), (.int (1 : Int32)), (.ref ob13)])
  obtain ⟨T15, h15, X15, e15, W15, V15, st15⟩ := own_dastore X14 hx hZ e14 V_ob13 (by decide) (Nat.le_of_ble_eq_true rfl) (g := (mkF m 129 #[.val (.int p0), .val (.long q1), .second, .val (.long q2), .second, .val (.long q3), .second, .val (.int p4), .val (.int p5), .val (.int x2), .val (.ref ob3), .val (.int x7), .val (.int x8), .val (.int x9), .val (.int x10), .val (.int x11), .val (.int x12), .val (.ref ob13), .unset, .unset, .unset, .unset, .unset, .unset, .unset, .unset, .unset, .unset] [(.double (FP.i2d x8)), (.int (1 : Int32)), (.ref ob13)])) rfl rfl (hb hby at_129)
  have K0 := K0.wr W15 (Or.inr sz_ob13)
  have O0 := O0.wr W15 g_ob13
  have V_ob3 := V_ob3.other W15 ne_ob3_ob13
  have E_ob3 := E_ob3.wr W15
  have E_ob13 := E_ob13.wr W15
  have V_ob13 : Arx Z h15 ob13 .double [(.double (FP.i2d x7)), (.double (FP.i2d x8)), (.double (0 : UInt64))] := V15
  have N15 := Fr.snoc X15 N14 g_ob13
  refine own_go (fun _ => st15 _) ?_
  show GG _ _ _ _ _ _ _ T15 (mkF m 130 #[.val (.int p0), .val (.long q1), .second, .val (.long q2), .second, .val (.long q3), .second, .val (.int p4), .val (.int p5), .val (.int x2), .val (.ref ob3), .val (.int x7), .val (.int x8), .val (.int x9), .val (.int x10), .val (.int x11), .val (.int x12), .val (.ref ob13), .unset, .unset, .unset, .unset, .unset, .unset, .unset, .unset, .unset, .unset] [])
  refine own_go (fun _ => XS.aload X15.here hx rfl (hb hby at_130) rfl rfl) ?_
  show GG _ _ _ _ _ _ _ T15 (mkF m 132 #[.val (.int p0), .val (.long q1), .second, .val (.long q2), .second, .val (.long q3), .second, .val (.int p4), .val (.int p5), .val (.int x2), .val (.ref ob3), .val (.int x7), .val (.int x8), .val (.int x9), .val (.int x10), .val (.int x11), .val (.int x12), .val (.ref ob13), .unset, .unset, .unset, .unset, .unset, .unset, .unset, .unset, .unset, .unset] [(.ref ob13)])
  refine own_go (fun _ => XS.iconst X15.here hx rfl (hb hby at_132)) ?_
  show GG _ _ _ _ _ _ _ T15 (mkF m 133 #[.val (.int p0), .val (.long q1), .second, .val (.long q2), .second, .val (.long q3), .second, .val (.int p4), .val (.int p5), .val (.int x2), .val (.ref ob3), .val (.int x7), .val (.int x8), .val (.int x9), .val (.int x10), .val (.int x11), .val (.int x12), .val (.ref ob13), .unset, .unset, .unset, .unset, .unset, .unset, .unset, .unset, .unset, .unset] [(.int (2 : Int32)), (.ref ob13)])
  refine own_go (fun _ => XS.iload X15.here hx rfl (hb hby at_133) rfl) ?_
  show GG _ _ _ _ _ _ _ T15 (mkF m 135 #[.val (.int p0), .val (.long q1), .second, .val (.long q2), .second, .val (.long q3), .second, .val (.int p4), .val (.int p5), .val (.int x2), .val (.ref ob3), .val (.int x7), .val (.int x8), .val (.int x9), .val (.int x10), .val (.int x11), .val (.int x12), .val (.ref ob13), .unset, .unset, .unset, .unset, .unset, .unset, .unset, .unset, .unset, .unset] [(.int x9), (.int (2 : Int32)), (.ref ob13)])
  refine own_go (fun _ => XS.i2dS X15.here hx rfl (hb hby at_135) rfl rfl) ?_
  show GG _ _ _ _ _ _ _ T15 (mkF m 136 #[.val (.int p0), .val (.long q1), .second, .val (.long q2), .second, .val (.long q3), .second, .val (.int p4), .val (.int p5), .val (.int x2), .val (.ref ob3), .val (.int x7), .val (.int x8), .val (.int x9), .val (.int x10), .val (.int x11), .val (.int x12), .val (.ref ob13), .unset, .unset, .unset, .unset, .unset, .unset, .unset, .unset, .unset, .unset] [(.double (FP.i2d x9)), (.int (2 : Int32)), (.ref ob13)])
  obtain ⟨T16, h16, X16, e16, W16, V16, st16⟩ := own_dastore X15 hx hZ e15 V_ob13 (by decide) (Nat.le_of_ble_eq_true rfl) (g := (mkF m 136 #[.val (.int p0), .val (.long q1), .second, .val (.long q2), .second, .val (.long q3), .second, .val (.int p4), .val (.int p5), .val (.int x2), .val (.ref ob3), .val (.int x7), .val (.int x8), .val (.int x9), .val (.int x10), .val (.int x11), .val (.int x12), .val (.ref ob13), .unset, .unset, .unset, .unset, .unset, .unset, .unset, .unset, .unset, .unset] [(.double (FP.i2d x9)), (.int (2 : Int32)), (.ref ob13)])) rfl rfl (hb hby at_136)
  have K0 := K0.wr W16 (Or.inr sz_ob13)
  have O0 := O0.wr W16 g_ob13
  have V_ob3 := V_ob3.other W16 ne_ob3_ob13
  have E_ob3 := E_ob3.wr W16
  have E_ob13 := E_ob13.wr W16
  have V_ob13 : Arx Z h16 ob13 .double [(.double (FP.i2d x7)), (.double (FP.i2d x8)), (.double (FP.i2d x9))] := V16
  have N16 := Fr.snoc X16 N15 g_ob13
  refine own_go (fun _ => st16 _) ?_
  show GG _ _ _ _ _ _ _ T16 (mkF m 137 #[.val (.int p0), .val (.long q1), .second, .val (.long q2), .second, .val (.long q3), .second, .val (.int p4), .val (.int p5), .val (.int x2), .val (.ref ob3), .val (.int x7), .val (.int x8), .val (.int x9), .val (.int x10), .val (.int x11), .val (.int x12), .val (.ref ob13), .unset, .unset, .unset, .unset, .unset, .unset, .unset, .unset, .unset, .unset] [])
  refine own_go (fun _ => XS.iconst X16.here hx rfl (hb hby at_137)) ?_
  show GG _ _ _ _ _ _ _ T16 (mkF m 138 #[.val (.int p0), .val (.long q1), .second, .val (.long q2), .second, .val (.long q3), .second, .val (.int p4), .val (.int p5), .val (.int x2), .val (.ref ob3), .val (.int x7), .val (.int x8), .val (.int x9), .val (.int x10), .val (.int x11), .val (.int x12), .val (.ref ob13), .unset, .unset, .unset, .unset, .unset, .unset, .unset, .unset, .unset, .unset] [(.int (3 : Int32))])
  obtain ⟨T17, h17, ob17, g17, X17, e17, E17, V_ob17, E_ob17, st17⟩ := own_newarr X16 hx hZ (hw _ (List.mem_of_getElem? (i := 2) rfl)) e16 (g := (mkF m 138 #[.val (.int p0), .val (.long q1), .second, .val (.long q2), .second, .val (.long q3), .second, .val (.int p4), .val (.int p5), .val (.int x2), .val (.ref ob3), .val (.int x7), .val (.int x8), .val (.int x9), .val (.int x10), .val (.int x11), .val (.int x12), .val (.ref ob13), .unset, .unset, .unset, .unset, .unset, .unset, .unset, .unset, .unset, .unset] [(.int (3 : Int32))])) rfl (hb hby at_138) rfl (by decide) (cap := 3) (by decide) (by decide) (by decide) (by decide) (ad := "[D") (by decide)
  have ne_ob3_ob17 : ob3 ≠ ob17 := Nat.ne_of_lt (Nat.lt_of_lt_of_le V_ob3.lt (Nat.le_of_eq g17.symm))
  have ne_ob13_ob17 : ob13 ≠ ob17 := Nat.ne_of_lt (Nat.lt_of_lt_of_le V_ob13.lt (Nat.le_of_eq g17.symm))
  have sz_ob17 : h0.size ≤ ob17 := Nat.le_trans K0.1 (Nat.le_of_eq g17.symm)
  have g_ob17 : n0 ≤ ob17 := Nat.le_trans Z0 sz_ob17
  have K0 := K0.ext E17
  have O0 := O0.ext E17
  have V_ob3 := V_ob3.ext E17
  have E_ob3 := E_ob3.ext E17
  have V_ob13 := V_ob13.ext E17
  have E_ob13 := E_ob13.ext E17
  have V_ob17 : Arx Z h17 ob17 .double [(.double (0 : UInt64)), (.double (0 : UInt64)), (.double (0 : UInt64))] := V_ob17
  refine own_go (fun _ => st17 _) ?_
  show GG _ _ _ _ _ _ _ T17 (mkF m 140 #[.val (.int p0), .val (.long q1), .second, .val (.long q2), .second, .val (.long q3), .second, .val (.int p4), .val (.int p5), .val (.int x2), .val (.ref ob3), .val (.int x7), .val (.int x8), .val (.int x9), .val (.int x10), .val (.int x11), .val (.int x12), .val (.ref ob13), .unset, .unset, .unset, .unset, .unset, .unset, .unset, .unset, .unset, .unset] [(.ref ob17)])
  refine own_go (fun _ => XS.astore X17.here hx rfl (hb hby at_140) rfl rfl (l' := #[.val (.int p0), .val (.long q1), .second, .val (.long q2), .second, .val (.long q3), .second, .val (.int p4), .val (.int p5), .val (.int x2), .val (.ref ob3), .val (.int x7), .val (.int x8), .val (.int x9), .val (.int x10), .val (.int x11), .val (.int x12), .val (.ref ob13), .val (.ref ob17), .unset, .unset, .unset, .unset, .unset, .unset, .unset, .unset, .unset]) rfl) ?_
  show GG _ _ _ _ _ _ _ T17 (mkF m 142 #[.val (.int p0), .val (.long q1), .second, .val (.long q2), .second, .val (.long q3), .second, .val (.int p4), .val (.int p5), .val (.int x2), .val (.ref ob3), .val (.int x7), .val (.int x8), .val (.int x9), .val (.int x10), .val (.int x11), .val (.int x12), .val (.ref ob13), .val (.ref ob17), .unset, .unset, .unset, .unset, .unset, .unset, .unset, .unset, .unset] [])
  refine own_go (fun _ => XS.aload X17.here hx rfl (hb hby at_142) rfl rfl) ?_
  show GG _ _ _ _ _ _ _ T17 (mkF m 144 #[.val (.int p0), .val (.long q1), .second, .val (.long q2), .second, .val (.long q3), .second, .val (.int p4), .val (.int p5), .val (.int x2), .val (.ref ob3), .val (.int x7), .val (.int x8), .val (.int x9), .val (.int x10), .val (.int x11), .val (.int x12), .val (.ref ob13), .val (.ref ob17), .unset, .unset, .unset, .unset, .unset, .unset, .unset, .unset, .unset] [(.ref ob17)])
  refine own_go (fun _ => XS.iconst X17.here hx rfl (hb hby at_144)) ?_
  show GG _ _ _ _ _ _ _ T17 (mkF m 145 #[.val (.int p0), .val (.long q1), .second, .val (.long q2), .second, .val (.long q3), .second, .val (.int p4), .val (.int p5), .val (.int x2), .val (.ref ob3), .val (.int x7), .val (.int x8), .val (.int x9), .val (.int x10), .val (.int x11), .val (.int x12), .val (.ref ob13), .val (.ref ob17), .unset, .unset, .unset, .unset, .unset, .unset, .unset, .unset, .unset] [(.int (0 : Int32)), (.ref ob17)])
  refine own_go (fun _ => XS.iload X17.here hx rfl (hb hby at_145) rfl) ?_
  show GG _ _ _ _ _ _ _ T17 (mkF m 147 #[.val (.int p0), .val (.long q1), .second, .val (.long q2), .second, .val (.long q3), .second, .val (.int p4), .val (.int p5), .val (.int x2), .val (.ref ob3), .val (.int x7), .val (.int x8), .val (.int x9), .val (.int x10), .val (.int x11), .val (.int x12), .val (.ref ob13), .val (.ref ob17), .unset, .unset, .unset, .unset, .unset, .unset, .unset, .unset, .unset] [(.int x10), (.int (0 : Int32)), (.ref ob17)])
  refine own_go (fun _ => XS.i2dS X17.here hx rfl (hb hby at_147) rfl rfl) ?_
  show GG _ _ _ _ _ _ _ T17 (mkF m 148 #[.val (.int p0), .val (.long q1), .second, .val (.long q2), .second, .val (.long q3), .second, .val (.int p4), .val (.int p5), .val (.int x2), .val (.ref ob3), .val (.int x7), .val (.int x8), .val (.int x9), .val (.int x10), .val (.int x11), .val (.int x12), .val (.ref ob13), .val (.ref ob17), .unset, .unset, .unset, .unset, .unset, .unset, .unset, .unset, .unset] [(.double (FP.i2d x10)), (.int (0 : Int32)), (.ref ob17)])
  obtain ⟨T18, h18, X18, e18, W18, V18, st18⟩ := own_dastore X17 hx hZ e17 V_ob17 (by decide) (Nat.le_of_ble_eq_true rfl) (g := (mkF m 148 #[.val (.int p0), .val (.long q1), .second, .val (.long q2), .second, .val (.long q3), .second, .val (.int p4), .val (.int p5), .val (.int x2), .val (.ref ob3), .val (.int x7), .val (.int x8), .val (.int x9), .val (.int x10), .val (.int x11), .val (.int x12), .val (.ref ob13), .val (.ref ob17), .unset, .unset, .unset, .unset, .unset, .unset, .unset, .unset, .unset] [(.double (FP.i2d x10)), (.int (0 : Int32)), (.ref ob17)])) rfl rfl (hb hby at_148)
  have K0 := K0.wr W18 (Or.inr sz_ob17)
  have O0 := O0.wr W18 g_ob17
  have V_ob3 := V_ob3.other W18 ne_ob3_ob17
  have E_ob3 := E_ob3.wr W18
  have V_ob13 := V_ob13.other W18 ne_ob13_ob17
  have E_ob13 := E_ob13.wr W18
  have E_ob17 := E_ob17.wr W18
  have V_ob17 : Arx Z h18 ob17 .double [(.double (FP.i2d x10)), (.double (0 : UInt64)), (.double (0 : UInt64))] := V18
  have N18 := Fr.snoc X18 N16 g_ob17
  refine own_go (fun _ => st18 _) ?_
  show GG _ _ _ _ _ _ _ T18 (mkF m 149 #[.val (.int p0), .val (.long q1), .second, .val (.long q2), .second, .val (.long q3), .second, .val (.int p4), .val (.int p5), .val (.int x2), .val (.ref ob3), .val (.int x7), .val (.int x8), .val (.int x9), .val (.int x10), .val (.int x11), .val (.int x12), .val (.ref ob13), .val (.ref ob17), .unset, .unset, .unset, .unset, .unset, .unset, .unset, .unset, .unset] [])
  refine own_go (fun _ => XS.aload X18.here hx rfl (hb hby at_149) rfl rfl) ?_
  show GG _ _ _ _ _ _ _ T18 (mkF m 151 #[.val (.int p0), .val (.long q1), .second, .val (.long q2), .second, .val (.long q3), .second, .val (.int p4), .val (.int p5), .val (.int x2), .val (.ref ob3), .val (.int x7), .val (.int x8), .val (.int x9), .val (.int x10), .val (.int x11), .val (.int x12), .val (.ref ob13), .val (.ref ob17), .unset, .unset, .unset, .unset, .unset, .unset, .unset, .unset, .unset] [(.ref ob17)])
  refine own_go (fun _ => XS.iconst X18.here hx rfl (hb hby at_151)) ?_
  show GG _ _ _ _ _ _ _ T18 (mkF m 152 #[.val (.int p0), .val (.long q1), .second, .val (.long q2), .second, .val (.long q3), .second, .val (.int p4), .val (.int p5), .val (.int x2), .val (.ref ob3), .val (.int x7), .val (.int x8), .val (.int x9), .val (.int x10), .val (.int x11), .val (.int x12), .val (.ref ob13), .val (.ref ob17), .unset, .unset, .unset, .unset, .unset, .unset, .unset, .unset, .unset] [(.int (1 : Int32)), (.ref ob17)])
  refine own_go (fun _ => XS.iload X18.here hx rfl (hb hby at_152) rfl) ?_
  show GG _ _ _ _ _ _ _ T18 (mkF m 154 #[.val (.int p0), .val (.long q1), .second, .val (.long q2), .second, .val (.long q3), .second, .val (.int p4), .val (.int p5), .val (.int x2), .val (.ref ob3), .val (.int x7), .val (.int x8), .val (.int x9), .val (.int x10), .val (.int x11), .val (.int x12), .val (.ref ob13), .val (.ref ob17), .unset, .unset, .unset, .unset, .unset, .unset, .unset, .unset, .unset] [(.int x11), (.int (1 : Int32)), (.ref ob17)])
  refine own_go (fun _ => XS.i2dS X18.here hx rfl (hb hby at_154) rfl rfl) ?_
  show GG _ _ _ _ _ _ _ T18 (mkF m 155 #[.val (.int p0), .val (.long q1), .second, .val (.long q2), .second, .val (.long q3), .second, .val (.int p4), .val (.int p5), .val (.int x2), .val (.ref ob3), .val (.int x7), .val (.int x8), .val (.int x9), .val (.int x10), .val (.int x11), .val (.int x12), .val (.ref ob13), .val (.ref ob17), .unset, .unset, .unset, .unset, .unset, .unset, .unset, .unset, .unset] [(.double (FP.i2d x11)), (.int (1 : Int32)), (.ref ob17)])
  obtain ⟨T19, h19, X19, e19, W19, V19, st19⟩ := own_dastore X18 hx hZ e18 V_ob17 (by decide) (Nat.le_of_ble_eq_true rfl) (g := (mkF m 155 #[.val (.int p0), .val (.long q1), .second, .val (.long q2), .second, .val (.long q3), .second, .val (.int p4), .val (.int p5), .val (.int x2), .val (.ref ob3), .val (.int x7), .val (.int x8), .val (.int x9), .val (.int x10), .val (.int x11), .val (.int x12), .val (.ref ob13), .val (.ref ob17), .unset, .unset, .unset, .unset, .unset, .unset, .unset, .unset, .unset] [(.double (FP.i2d x11)), (.int (1 : Int32)), (.ref ob17)])) rfl rfl (hb hby at_155)
  have K0 := K0.wr W19 (Or.inr sz_ob17)
  have O0 := O0.wr W19 g_ob17
  have V_ob3 := V_ob3.other W19 ne_ob3_ob17
  have E_ob3 := E_ob3.wr W19
  have V_ob13 := V_ob13.other W19 ne_ob13_ob17
  have E_ob13 := E_ob13.wr W19
  have E_ob17 := E_ob17.wr W19
  have V_ob17 : Arx Z h19 ob17 .double [(.double (FP.i2d x10)), (.double (FP.i2d x11)), (.double (0 : UInt64))] := V19
  have N19 := Fr.snoc X19 N18 g_ob17
  refine own_go (fun _ => st19 _) ?_
  show GG _ _ _ _ _ _ _ T19 (mkF m 156 #[.val (.int p0), .val (.long q1), .second, .val (.long q2), .second, .val (.long q3), .second, .val (.int p4), .val (.int p5), .val (.int x2), .val (.ref ob3), .val (.int x7), .val (.int x8), .val (.int x9), .val (.int x10), .val (.int x11), .val (.int x12), .val (.ref ob13), .val (.ref ob17), .unset, .unset, .unset, .unset, .unset, .unset, .unset, .unset, .unset] [])
  refine own_go (fun _ => XS.aload X19.here hx rfl (hb hby at_156) rfl rfl) ?_
  show GG _ _ _ _ _ _ _ T19 (mkF m 158 #[.val (.int p0), .val (.long q1), .second, .val (.long q2), .second, .val (.long q3), .second, .val (.int p4), .val (.int p5), .val (.int x2), .val (.ref ob3), .val (.int x7), .val (.int x8), .val (.int x9), .val (.int x10), .val (.int x11), .val (.int x12), .val (.ref ob13), .val (.ref ob17), .unset, .unset, .unset, .unset, .unset, .unset, .unset, .unset, .unset] [(.ref ob17)])
  refine own_go (fun _ => XS.iconst X19.here hx rfl (hb hby at_158)) ?_
  show GG _ _ _ _ _ _ _ T19 (mkF m 159 #[.val (.int p0), .val (.long q1), .second, .val (.long q2), .second, .val (.long q3), .second, .val (.int p4), .val (.int p5), .val (.int x2), .val (.ref ob3), .val (.int x7), .val (.int x8), .val (.int x9), .val (.int x10), .val (.int x11), .val (.int x12), .val (.ref ob13), .val (.ref ob17), .unset, .unset, .unset, .unset, .unset, .unset, .unset, .unset, .unset] [(.int (2 : Int32)), (.ref ob17)])
  refine own_go (fun _ => XS.iload X19.here hx rfl (hb hby at_159) rfl) ?_
  show GG _ _ _ _ _ _ _ T19 (mkF m 161 #[.val (.int p0), .val (.long q1), .second, .val (.long q2), .second, .val (.long q3), .second, .val (.int p4), .val (.int p5), .val (.int x2), .val (.ref ob3), .val (.int x7), .val (.int x8), .val (.int x9), .val (.int x10), .val (.int x11), .val (.int x12), .val (.ref ob13), .val (.ref ob17), .unset, .unset, .unset, .unset, .unset, .unset, .unset, .unset, .unset] [(.int x12), (.int (2 : Int32)), (.ref ob17)])
  refine own_go (fun _ => XS.i2dS X19.here hx rfl (hb hby at_161) rfl rfl) ?_
  show GG _ _ _ _ _ _ _ T19 (mkF m 162 #[.val (.int p0), .val (.long q1), .second, .val (.long q2), .second, .val (.long q3), .second, .val (.int p4), .val (.int p5), .val (.int x2), .val (.ref ob3), .val (.int x7), .val (.int x8), .val (.int x9), .val (.int x10), .val (.int x11), .val (.int x12), .val (.ref ob13), .val (.ref ob17), .unset, .unset, .unset, .unset, .unset, .unset, .unset, .unset, .unset] [(.double (FP.i2d x12)), (.int (2 : Int32)), (.ref ob17)])
  obtain ⟨T20, h20, X20, e20, W20, V20, st20⟩ := own_dastore X19 hx hZ e19 V_ob17 (by decide) (Nat.le_of_ble_eq_true rfl) (g := (mkF m 162 #[.val (.int p0), .val (.long q1), .second, .val (.long q2), .second, .val (.long q3), .second, .val (.int p4), .val (.int p5), .val (.int x2), .val (.ref ob3), .val (.int x7), .val (.int x8), .val (.int x9), .val (.int x10), .val (.int x11), .val (.int x12), .val (.ref ob13), .val (.ref ob17), .unset, .unset, .unset, .unset, .unset, .unset, .unset, .unset, .unset] [(.double (FP.i2d x12)), (.int (2 : Int32)), (.ref ob17)])) rfl rfl (hb hby at_162)
  have K0 := K0.wr W20 (Or.inr sz_ob17)
  have O0 := O0.wr W20 g_ob17
  have V_ob3 := V_ob3.other W20 ne_ob3_ob17
  have E_ob3 := E_ob3.wr W20
  have V_ob13 := V_ob13.other W20 ne_ob13_ob17
  have E_ob13 := E_ob13.wr W20
  have E_ob17 := E_ob17.wr W20
  have V_ob17 : Arx Z h20 ob17 .double [(.double (FP.i2d x10)), (.double (FP.i2d x11)), (.double (FP.i2d x12))] := V20
  have N20 := Fr.snoc X20 N19 g_ob17
  refine own_go (fun _ => st20 _) ?_
  show GG _ _ _ _ _ _ _ T20 (mkF m 163 #[.val (.int p0), .val (.long q1), .second, .val (.long q2), .second, .val (.long q3), .second, .val (.int p4), .val (.int p5), .val (.int x2), .val (.ref ob3), .val (.int x7), .val (.int x8), .val (.int x9), .val (.int x10), .val (.int x11), .val (.int x12), .val (.ref ob13), .val (.ref ob17), .unset, .unset, .unset, .unset, .unset, .unset, .unset, .unset, .unset] [])
  refine own_go (fun _ => XS.iconst X20.here hx rfl (hb hby at_163)) ?_
  show GG _ _ _ _ _ _ _ T20 (mkF m 164 #[.val (.int p0), .val (.long q1), .second, .val (.long q2), .second, .val (.long q3), .second, .val (.int p4), .val (.int p5), .val (.int x2), .val (.ref ob3), .val (.int x7), .val (.int x8), .val (.int x9), .val (.int x10), .val (.int x11), .val (.int x12), .val (.ref ob13), .val (.ref ob17), .unset, .unset, .unset, .unset, .unset, .unset, .unset, .unset, .unset] [(.int (3 : Int32))])
  obtain ⟨T21, h21, ob21, g21, X21, e21, E21, V_ob21, E_ob21, st21⟩ := own_newarr X20 hx hZ (hw _ (List.mem_of_getElem? (i := 3) rfl)) e20 (g := (mkF m 164 #[.val (.int p0), .val (.long q1), .second, .val (.long q2), .second, .val (.long q3), .second, .val (.int p4), .val (.int p5), .val (.int x2), .val (.ref ob3), .val (.int x7), .val (.int x8), .val (.int x9), .val (.int x10), .val (.int x11), .val (.int x12), .val (.ref ob13), .val (.ref ob17), .unset, .unset, .unset, .unset, .unset, .unset, .unset, .unset, .unset] [(.int (3 : Int32))])) rfl (hb hby at_164) rfl (by decide) (cap := 3) (by decide) (by decide) (by decide) (by decide) (ad := "[I") (by decide)
  have ne_ob3_ob21 : ob3 ≠ ob21 := Nat.ne_of_lt (Nat.lt_of_lt_of_le V_ob3.lt (Nat.le_of_eq g21.symm))
  have ne_ob13_ob21 : ob13 ≠ ob21 := Nat.ne_of_lt (Nat.lt_of_lt_of_le V_ob13.lt (Nat.le_of_eq g21.symm))
  have ne_ob17_ob21 : ob17 ≠ ob21 := Nat.ne_of_lt (Nat.lt_of_lt_of_le V_ob17.lt (Nat.le_of_eq g21.symm))
  have sz_ob21 : h0.size ≤ ob21 := Nat.le_trans K0.1 (Nat.le_of_eq g21.symm)
  have g_ob21 : n0 ≤ ob21 := Nat.le_trans Z0 sz_ob21
  have K0 := K0.ext E21
  have O0 := O0.ext E21
  have V_ob3 := V_ob3.ext E21
  have E_ob3 := E_ob3.ext E21
  have V_ob13 := V_ob13.ext E21
  have E_ob13 := E_ob13.ext E21
  have V_ob17 := V_ob17.ext E21
  have E_ob17 := E_ob17.ext E21
  have V_ob21 : Arx Z h21 ob21 .int [(.int (0 : Int32)), (.int (0 : Int32)), (.int (0 : Int32))] := V_ob21
  refine own_go (fun _ => st21 _) ?_
  show GG _ _ _ _ _ _ _ T21 (mkF m 166 #[.val (.int p0), .val (.long q1), .second, .val (.long q2), .second, .val (.long q3), .second, .val (.int p4), .val (.int p5), .val (.int x2), .val (.ref ob3), .val (.int x7), .val (.int x8), .val (.int x9), .val (.int x10), .val (.int x11), .val (.int x12), .val (.ref ob13), .val (.ref ob17), .unset, .unset, .unset, .unset, .unset, .unset, .unset, .unset, .unset] [(.ref ob21)])
  refine own_go (fun _ => XS.astore X21.here hx rfl (hb hby at_166) rfl rfl (l' := #[.val (.int p0), .val (.long q1), .second, .val (.long q2), .second, .val (.long q3), .second, .val (.int p4), .val (.int p5), .val (.int x2), .val (.ref ob3), .val (.int x7), .val (.int x8), .val (.int x9), .val (.int x10), .val (.int x11), .val (.int x12), .val (.ref ob13), .val (.ref ob17), .val (.ref ob21), .unset, .unset, .unset, .unset, .unset, .unset, .unset, .unset]) rfl) ?_
  show GG _ _ _ _ _ _ _ T21 (mkF m 168 #[.val (.int p0), .val (.long q1), .second, .val (.long q2), .second, .val (.long q3), .second, .val (.int p4), .val (.int p5), .val (.int x2), .val (.ref ob3), .val (.int x7), .val (.int x8), .val (.int x9), .val (.int x10), .val (.int x11), .val (.int x12), .val (.ref ob13), .val (.ref ob17), .val (.ref ob21), .unset, .unset, .unset, .unset, .unset, .unset, .unset, .unset] [])
  refine own_go (fun _ => XS.aload X21.here hx rfl (hb hby at_168) rfl rfl) ?_
  show GG _ _ _ _ _ _ _ T21 (mkF m 170 #[.val (.int p0), .val (.long q1), .second, .val (.long q2), .second, .val (.long q3), .second, .val (.int p4), .val (.int p5), .val (.int x2), .val (.ref ob3), .val (.int x7), .val (.int x8), .val (.int x9), .val (.int x10), .val (.int x11), .val (.int x12), .val (.ref ob13), .val (.ref ob17), .val (.ref ob21), .unset, .unset, .unset, .unset, .unset, .unset, .unset, .unset] [(.ref ob21)])
  refine own_go (fun _ => XS.iconst X21.here hx rfl (hb hby at_170)) ?_
  show GG _ _ _ _ _ _ _ T21 (mkF m 171 #[.val (.int p0), .val (.long q1), .second, .val (.long q2), .second, .val (.long q3), .second, .val (.int p4), .val (.int p5), .val (.int x2), .val (.ref ob3), .val (.int x7), .val (.int x8), .val (.int x9), .val (.int x10), .val (.int x11), .val (.int x12), .val (.ref ob13), .val (.ref ob17), .val (.ref ob21), .unset, .unset, .unset, .unset, .unset, .unset, .unset, .unset] [(.int (0 : Int32)), (.ref ob21)])
  refine own_go (fun _ => XS.iconst X21.here hx rfl (hb hby at_171)) ?_
  show GG _ _ _ _ _ _ _ T21 (mkF m 172 #[.val (.int p0), .val (.long q1), .second, .val (.long q2), .second, .val (.long q3), .second, .val (.int p4), .val (.int p5), .val (.int x2), .val (.ref ob3), .val (.int x7), .val (.int x8), .val (.int x9), .val (.int x10), .val (.int x11), .val (.int x12), .val (.ref ob13), .val (.ref ob17), .val (.ref ob21), .unset, .unset, .unset, .unset, .unset, .unset, .unset, .unset] [(.int (1 : Int32)), (.int (0 : Int32)), (.ref ob21)])
  obtain ⟨T22, h22, X22, e22, W22, V22, st22⟩ := own_iastore X21 hx hZ e21 V_ob21 (by decide) (Nat.le_of_ble_eq_true rfl) (g := (mkF m 172 #[.val (.int p0), .val (.long q1), .second, .val (.long q2), .second, .val (.long q3), .second, .val (.int p4), .val (.int p5), .val (.int x2), .val (.ref ob3), .val (.int x7), .val (.int x8), .val (.int x9), .val (.int x10), .val (.int x11), .val (.int x12), .val (.ref ob13), .val (.ref ob17), .val (.ref ob21), .unset, .unset, .unset, .unset, .unset, .unset, .unset, .unset] [(.int (1 : Int32)), (.int (0 : Int32)), (.ref ob21)])) rfl rfl (hb hby at_172)
  have K0 := K0.wr W22 (Or.inr sz_ob21)
  have O0 := O0.wr W22 g_ob21
  have V_ob3 := V_ob3.other W22 ne_ob3_ob21
  have E_ob3 := E_ob3.wr W22
  have V_ob13 := V_ob13.other W22 ne_ob13_ob21
  have E_ob13 := E_ob13.wr W22
  have V_ob17 := V_ob17.other W22 ne_ob17_ob21
  have E_ob17 := E_ob17.wr W22
  have E_ob21 := E_ob21.wr W22
  have V_ob21 : Arx Z h22 ob21 .int [(.int (1 : Int32)), (.int (0 : Int32)), (.int (0 : Int32))] := V22
  have N22 := Fr.snoc X22 N20 g_ob21
  refine own_go (fun _ => st22 _) ?_
  show GG _ _ _ _ _ _ _ T22 (mkF m 173 #[.val (.int p0), .val (.long q1), .second, .val (.long q2), .second, .val (.long q3), .second, .val (.int p4), .val (.int p5), .val (.int x2), .val (.ref ob3), .val (.int x7), .val (.int x8), .val (.int x9), .val (.int x10), .val (.int x11), .val (.int x12), .val (.ref ob13), .val (.ref ob17), .val (.ref ob21), .unset, .unset, .unset, .unset, .unset, .unset, .unset, .unset] [])
  refine own_go (fun _ => XS.aload X22.here hx rfl (hb hby at_173) rfl rfl) ?_
  show GG _ _ _ _ _ _ _ T22 (mkF m 175 #[.val (.int p0), .val (.long q1), .second, .val (.long q2), .second, .val (.long q3), .second, .val (.int p4), .val (.int p5), .val (.int x2), .val (.ref ob3), .val (.int x7), .val (.int x8), .val (.int x9), .val (.int x10), .val (.int x11), .val (.int x12), .val (.ref ob13), .val (.ref ob17), .val (.ref ob21), .unset, .unset, .unset, .unset, .unset, .unset, .unset, .unset] [(.ref ob21)])
  refine own_go (fun _ => XS.iconst X22.here hx rfl (hb hby at_175)) ?_
  show GG _ _ _ _ _ _ _ T22 (mkF m 176 #[.val (.int p0), .val (.long q1), .second, .val (.long q2), .second, .val (.long q3), .second, .val (.int p4), .val (.int p5), .val (.int x2), .val (.ref ob3), .val (.int x7), .val (.int x8), .val (.int x9), .val (.int x10), .val (.int x11), .val (.int x12), .val (.ref ob13), .val (.ref ob17), .val (.ref ob21), .unset, .unset, .unset, .unset, .unset, .unset, .unset, .unset] [(.int (1 : Int32)), (.ref ob21)])
  refine own_go (fun _ => XS.iconst X22.here hx rfl (hb hby at_176)) ?_
  show GG _ _ _ _ _ _ _ T22 (mkF m 177 #[.val (.int p0), .val (.long q1), .second, .val (.long q2), .second, .val (.long q3), .second, .val (.int p4), .val (.int p5), .val (.int x2), .val (.ref ob3), .val (.int x7), .val (.int x8), .val (.int x9), .val (.int x10), .val (.int x11), .val (.int x12), .val (.ref ob13), .val (.ref ob17), .val (.ref ob21), .unset, .unset, .unset, .unset, .unset, .unset, .unset, .unset] [(.int (4 : Int32)), (.int (1 : Int32)), (.ref ob21)])
  obtain ⟨T23, h23, X23, e23, W23, V23, st23⟩ := own_iastore X22 hx hZ e22 V_ob21 (by decide) (Nat.le_of_ble_eq_true rfl) (g := (mkF m 177 #[.val (.int p0), .val (.long q1), .second, .val (.long q2), .second, .val (.long q3), .second, .val (.int p4), .val (.int p5), .val (.int x2), .val (.ref ob3), .val (.int x7), .val (.int x8), .val (.int x9), .val (.int x10), .val (.int x11), .val (.int x12), .val (.ref ob13), .val (.ref ob17), .val (.ref ob21), .unset, .unset, .unset, .unset, .unset, .unset, .unset, .unset] [(.int (4 : Int32)), (.int (1 : Int32)), (.ref ob21)])) rfl rfl (hb hby at_177)
  have K0 := K0.wr W23 (Or.inr sz_ob21)
  have O0 := O0.wr W23 g_ob21
  have V_ob3 := V_ob3.other W23 ne_ob3_ob21
  have E_ob3 := E_ob3.wr W23
  have V_ob13 := V_ob13.other W23 ne_ob13_ob21
  have E_ob13 := E_ob13.wr W23
  have V_ob17 := V_ob17.other W23 ne_ob17_ob21
  have E_ob17 := E_ob17.wr W23
  have E_ob21 := E_ob21.wr W23
  have V_ob21 : Arx Z h23 ob21 .int [(.int (1 : Int32)), (.int (4 : Int32)), (.int (0 : Int32))] := V23
  have N23 := Fr.snoc X23 N22 g_ob21
  refine own_go (fun _ => st23 _) ?_
  show GG _ _ _ _ _ _ _ T23 (mkF m 178 #[.val (.int p0), .val (.long q1), .second, .val (.long q2), .second, .val (.long q3), .second, .val (.int p4), .val (.int p5), .val (.int x2), .val (.ref ob3), .val (.int x7), .val (.int x8), .val (.int x9), .val (.int x10), .val (.int x11), .val (.int x12), .val (.ref ob13), .val (.ref ob17), .val (.ref ob21), .unset, .unset, .unset, .unset, .unset, .unset, .unset, .unset] [])
  refine own_go (fun _ => XS.aload X23.here hx rfl (hb hby at_178) rfl rfl) ?_
  show GG _ _ _ _ _ _ _ T23 (mkF m 180 #[.val (.int p0), .val (.long q1), .second, .val (.long q2), .second, .val (.long q3), .second, .val (.int p4), .val (.int p5), .val (.int x2), .val (.ref ob3), .val (.int x7), .val (.int x8), .val (.int x9), .val (.int x10), .val (.int x11), .val (.int x12), .val (.ref ob13), .val (.ref ob17), .val (.ref ob21), .unset, .unset, .unset, .unset, .unset, .unset, .unset, .unset] [(.ref ob21)])
  refine own_go (fun _ => XS.iconst X23.here hx rfl (hb hby at_180)) ?_
  show GG _ _ _ _ _ _ _ T23 (mkF m 181 #[.val (.int p0), .val (.long q1), .second, .val (.long q2), .second, .val (.long q3), .second, .val (.int p4), .val (.int p5), .val (.int x2), .val (.ref ob3), .val (.int x7), .val (.int x8), .val (.int x9), .val (.int x10), .val (.int x11), .val (.int x12), .val (.ref ob13), .val (.ref ob17), .val (.ref ob21), .unset, .unset, .unset, .unset, .unset, .unset, .unset, .unset] [(.int (2 : Int32)), (.ref ob21)])
  refine own_go (fun _ => XS.bipush X23.here hx rfl (hb hby at_181)) ?_
  show GG _ _ _ _ _ _ _ T23 (mkF m 183 #[.val (.int p0), .val (.long q1), .second, .val (.long q2), .second, .val (.long q3), .second, .val (.int p4), .val (.int p5), .val (.int x2), .val (.ref ob3), .val (.int x7), .val (.int x8), .val (.int x9), .val (.int x10), .val (.int x11), .val (.int x12), .val (.ref ob13), .val (.ref ob17), .val (.ref ob21), .unset, .unset, .unset, .unset, .unset, .unset, .unset, .unset] [(.int (7 : Int32)), (.int (2 : Int32)), (.ref ob21)])
  obtain ⟨T24, h24, X24, e24, W24, V24, st24⟩ := own_iastore X23 hx hZ e23 V_ob21 (by decide) (Nat.le_of_ble_eq_true rfl) (g := (mkF m 183 #[.val (.int p0), .val (.long q1), .second, .val (.long q2), .second, .val (.long q3), .second, .val (.int p4), .val (.int p5), .val (.int x2), .val (.ref ob3), .val (.int x7), .val (.int x8), .val (.int x9), .val (.int x10), .val (.int x11), .val (.int x12), .val (.ref ob13), .val (.ref ob17), .val (.ref ob21), .unset, .unset, .unset, .unset, .unset, .unset, .unset, .unset] [(.int (7 : Int32)), (.int (2 : Int32)), (.ref ob21)])) rfl rfl (hb hby at_183)
  have K0 := K0.wr W24 (Or.inr sz_ob21)
  have O0 := O0.wr W24 g_ob21
  have V_ob3 := V_ob3.other W24 ne_ob3_ob21
  have E_ob3 := E_ob3.wr W24
  have V_ob13 := V_ob13.other W24 ne_ob13_ob21
  have E_ob13 := E_ob13.wr W24
  have V_ob17 := V_ob17.other W24 ne_ob17_ob21
  have E_ob17 := E_ob17.wr W24
  have E_ob21 := E_ob21.wr W24
  have V_ob21 : Arx Z h24 ob21 .int [(.int (1 : Int32)), (.int (4 : Int32)), (.int (7 : Int32))] := V24
  have N24 := Fr.snoc X24 N23 g_ob21
  refine own_go (fun _ => st24 _) ?_
  show GG _ _ _ _ _ _ _ T24 (mkF m 184 #[.val (.int p0), .val (.long q1), .second, .val (.long q2), .second, .val (.long q3), .second, .val (.int p4), .val (.int p5), .val (.int x2), .val (.ref ob3), .val (.int x7), .val (.int x8), .val (.int x9), .val (.int x10), .val (.int x11), .val (.int x12), .val (.ref ob13), .val (.ref ob17), .val (.ref ob21), .unset, .unset, .unset, .unset, .unset, .unset, .unset, .unset] [])
  obtain ⟨T25, h25, X25, e25, E25, A25, D25, -, st25⟩ := newO X24 hx hZ hown (hw _ (List.mem_of_getElem? (i := 4) rfl)) (hw _ (List.mem_of_getElem? (i := 5) rfl)) (hw _ (List.mem_of_getElem? (i := 6) rfl)) e24 (g := (mkF m 184 #[.val (.int p0), .val (.long q1), .second, .val (.long q2), .second, .val (.long q3), .second, .val (.int p4), .val (.int p5), .val (.int x2), .val (.ref ob3), .val (.int x7), .val (.int x8), .val (.int x9), .val (.int x10), .val (.int x11), .val (.int x12), .val (.ref ob13), .val (.ref ob17), .val (.ref ob21), .unset, .unset, .unset, .unset, .unset, .unset, .unset, .unset] [])) rfl (hb hby at_184) (by decide) (by decide)
  obtain ⟨ob25, g25⟩ : ∃ z, z = h24.size := ⟨_, rfl⟩
  rw [← g25] at A25 D25 st25
  have ne_ob3_ob25 : ob3 ≠ ob25 := Nat.ne_of_lt (Nat.lt_of_lt_of_le V_ob3.lt (Nat.le_of_eq g25.symm))
  have ne_ob13_ob25 : ob13 ≠ ob25 := Nat.ne_of_lt (Nat.lt_of_lt_of_le V_ob13.lt (Nat.le_of_eq g25.symm))
  have ne_ob17_ob25 : ob17 ≠ ob25 := Nat.ne_of_lt (Nat.lt_of_lt_of_le V_ob17.lt (Nat.le_of_eq g25.symm))
  have ne_ob21_ob25 : ob21 ≠ ob25 := Nat.ne_of_lt (Nat.lt_of_lt_of_le V_ob21.lt (Nat.le_of_eq g25.symm))
  have sz_ob25 : h0.size ≤ ob25 := Nat.le_trans K0.1 (Nat.le_of_eq g25.symm)
  have g_ob25 : n0 ≤ ob25 := Nat.le_trans Z0 sz_ob25
  have K0 := K0.ext E25
  have O0 := O0.ext E25
  have V_ob3 := V_ob3.ext E25
  have E_ob3 := E_ob3.ext E25
  have V_ob13 := V_ob13.ext E25
  have E_ob13 := E_ob13.ext E25
  have V_ob17 := V_ob17.ext E25
  have E_ob17 := E_ob17.ext E25
  have V_ob21 := V_ob21.ext E25
  have E_ob21 := E_ob21.ext E25
  have E_ob25 := A25
  have F_collection_ob25 : Fld Z h25 ob25 "com/example/deft_shards/deftshards/index/TermWeights" "collection" "Lcom/example/deft_shards/deftshards/index/WeightStatistics;" .null := D25 (Or.inr (hw _ (List.mem_of_getElem? (i := 17) rfl))) (ty := (.object "com/example/deft_shards/deftshards/index/WeightStatistics")) (by decide)
  have F_shardCount_ob25 : Fld Z h25 ob25 "com/example/deft_shards/deftshards/index/TermWeights" "shardCount" "I" (.int (0 : Int32)) := D25 (Or.inr (hw _ (List.mem_of_getElem? (i := 19) rfl))) (ty := .int) (by decide)
  have F_holders_ob25 : Fld Z h25 ob25 "com/example/deft_shards/deftshards/index/TermWeights" "holders" "[I" .null := D25 (Or.inr (hw _ (List.mem_of_getElem? (i := 21) rfl))) (ty := (.array .int)) (by decide)
  have F_frequencies_ob25 : Fld Z h25 ob25 "com/example/deft_shards/deftshards/index/TermWeights" "frequencies" "[J" .null := D25 (Or.inr (hw _ (List.mem_of_getElem? (i := 23) rfl))) (ty := (.array .long)) (by decide)
  have F_means_ob25 : Fld Z h25 ob25 "com/example/deft_shards/deftshards/index/TermWeights" "means" "[D" .null := D25 (Or.inr (hw _ (List.mem_of_getElem? (i := 25) rfl))) (ty := (.array .double)) (by decide)
  have F_variances_ob25 : Fld Z h25 ob25 "com/example/deft_shards/deftshards/index/TermWeights" "variances" "[D" .null := D25 (Or.inr (hw _ (List.mem_of_getElem? (i := 27) rfl))) (ty := (.array .double)) (by decide)
  refine own_go (fun _ => st25 _) ?_
  show GG _ _ _ _ _ _ _ T25 (mkF m 187 #[.val (.int p0), .val (.long q1), .second, .val (.long q2), .second, .val (.long q3), .second, .val (.int p4), .val (.int p5), .val (.int x2), .val (.ref ob3), .val (.int x7), .val (.int x8), .val (.int x9), .val (.int x10), .val (.int x11), .val (.int x12), .val (.ref ob13), .val (.ref ob17), .val (.ref ob21), .unset, .unset, .unset, .unset, .unset, .unset, .unset, .unset] [(.ref ob25)])
  refine own_go (fun _ => XS.dup X25.here hx rfl (hb hby at_187) rfl rfl) ?_
  show GG _ _ _ _ _ _ _ T25 (mkF m 188 #[.val (.int p0), .val (.long q1), .second, .val (.long q2), .second, .val (.long q3), .second, .val (.int p4), .val (.int p5), .val (.int x2), .val (.ref ob3), .val (.int x7), .val (.int x8), .val (.int x9), .val (.int x10), .val (.int x11), .val (.int x12), .val (.ref ob13), .val (.ref ob17), .val (.ref ob21), .unset, .unset, .unset, .unset, .unset, .unset, .unset, .unset] [(.ref ob25), (.ref ob25)])
  have S_N' := S_N.ext O0.2
  obtain ⟨T26, X26, e26, st26⟩ := getS2 X25 hx hZ hown (host := "") (Or.inl (hw _ (List.mem_of_getElem? (i := 7) rfl))) Via.refl e25 S_N' (g := (mkF m 188 #[.val (.int p0), .val (.long q1), .second, .val (.long q2), .second, .val (.long q3), .second, .val (.int p4), .val (.int p5), .val (.int x2), .val (.ref ob3), .val (.int x7), .val (.int x8), .val (.int x9), .val (.int x10), .val (.int x11), .val (.int x12), .val (.ref ob13), .val (.ref ob17), .val (.ref ob21), .unset, .unset, .unset, .unset, .unset, .unset, .unset, .unset] [(.ref ob25), (.ref ob25)])) rfl (hb hby at_188)
  refine own_go (fun _ => st26 _) ?_
  show GG _ _ _ _ _ _ _ T26 (mkF m 191 #[.val (.int p0), .val (.long q1), .second, .val (.long q2), .second, .val (.long q3), .second, .val (.int p4), .val (.int p5), .val (.int x2), .val (.ref ob3), .val (.int x7), .val (.int x8), .val (.int x9), .val (.int x10), .val (.int x11), .val (.int x12), .val (.ref ob13), .val (.ref ob17), .val (.ref ob21), .unset, .unset, .unset, .unset, .unset, .unset, .unset, .unset] [(.ref wN), (.ref ob25), (.ref ob25)])
  refine own_go (fun _ => XS.bipush X26.here hx rfl (hb hby at_191)) ?_
  show GG _ _ _ _ _ _ _ T26 (mkF m 193 #[.val (.int p0), .val (.long q1), .second, .val (.long q2), .second, .val (.long q3), .second, .val (.int p4), .val (.int p5), .val (.int x2), .val (.ref ob3), .val (.int x7), .val (.int x8), .val (.int x9), .val (.int x10), .val (.int x11), .val (.int x12), .val (.ref ob13), .val (.ref ob17), .val (.ref ob21), .unset, .unset, .unset, .unset, .unset, .unset, .unset, .unset] [(.int (10 : Int32)), (.ref wN), (.ref ob25), (.ref ob25)])
  refine own_go (fun _ => XS.aload X26.here hx rfl (hb hby at_193) rfl rfl) ?_
  show GG _ _ _ _ _ _ _ T26 (mkF m 195 #[.val (.int p0), .val (.long q1), .second, .val (.long q2), .second, .val (.long q3), .second, .val (.int p4), .val (.int p5), .val (.int x2), .val (.ref ob3), .val (.int x7), .val (.int x8), .val (.int x9), .val (.int x10), .val (.int x11), .val (.int x12), .val (.ref ob13), .val (.ref ob17), .val (.ref ob21), .unset, .unset, .unset, .unset, .unset, .unset, .unset, .unset] [(.ref ob21), (.int (10 : Int32)), (.ref wN), (.ref ob25), (.ref ob25)])
  refine own_go (fun _ => XS.aload X26.here hx rfl (hb hby at_195) rfl rfl) ?_
  show GG _ _ _ _ _ _ _ T26 (mkF m 197 #[.val (.int p0), .val (.long q1), .second, .val (.long q2), .second, .val (.long q3), .second, .val (.int p4), .val (.int p5), .val (.int x2), .val (.ref ob3), .val (.int x7), .val (.int x8), .val (.int x9), .val (.int x10), .val (.int x11), .val (.int x12), .val (.ref ob13), .val (.ref ob17), .val (.ref ob21), .unset, .unset, .unset, .unset, .unset, .unset, .unset, .unset] [(.ref ob3), (.ref ob21), (.int (10 : Int32)), (.ref wN), (.ref ob25), (.ref ob25)])
  refine own_go (fun _ => XS.aload X26.here hx rfl (hb hby at_197) rfl rfl) ?_
  show GG _ _ _ _ _ _ _ T26 (mkF m 199 #[.val (.int p0), .val (.long q1), .second, .val (.long q2), .second, .val (.long q3), .second, .val (.int p4), .val (.int p5), .val (.int x2), .val (.ref ob3), .val (.int x7), .val (.int x8), .val (.int x9), .val (.int x10), .val (.int x11), .val (.int x12), .val (.ref ob13), .val (.ref ob17), .val (.ref ob21), .unset, .unset, .unset, .unset, .unset, .unset, .unset, .unset] [(.ref ob13), (.ref ob3), (.ref ob21), (.int (10 : Int32)), (.ref wN), (.ref ob25), (.ref ob25)])
  refine own_go (fun _ => XS.aload X26.here hx rfl (hb hby at_199) rfl rfl) ?_
  show GG _ _ _ _ _ _ _ T26 (mkF m 201 #[.val (.int p0), .val (.long q1), .second, .val (.long q2), .second, .val (.long q3), .second, .val (.int p4), .val (.int p5), .val (.int x2), .val (.ref ob3), .val (.int x7), .val (.int x8), .val (.int x9), .val (.int x10), .val (.int x11), .val (.int x12), .val (.ref ob13), .val (.ref ob17), .val (.ref ob21), .unset, .unset, .unset, .unset, .unset, .unset, .unset, .unset] [(.ref ob17), (.ref ob13), (.ref ob3), (.ref ob21), (.int (10 : Int32)), (.ref wN), (.ref ob25), (.ref ob25)])
  refine own_callI X26 hx hZ (y := (⟨"com/example/deft_shards/deftshards/index/TermWeights", "<init>", "(Lcom/example/deft_shards/deftshards/index/WeightStatistics;I[I[J[D[D)V"⟩ : MethodName)) 1 rfl hown (hw _ (List.mem_of_getElem? (i := 10) rfl)) (hw _ (List.mem_of_getElem? (i := 11) rfl)) (hw _ (List.mem_of_getElem? (i := 6) rfl)) (hw _ (List.mem_of_getElem? (i := 12) rfl)) (by decide) (a := ob25) (argsL := [(.ref wN), (.int (10 : Int32)), (.ref ob21), (.ref ob3), (.ref ob13), (.ref ob17)]) (rest := [(.ref ob25)]) (rm1 l Z a0 hw [] ob25 wN (10 : Int32) ob21 ob3 ob13 ob17 h25 n0 (Nat.le_trans Z0 K0.1) E_ob25 g_ob25 F_collection_ob25 F_shardCount_ob25 F_holders_ob25 F_frequencies_ob25 F_means_ob25 F_variances_ob25) (by decide) (by decide) (by decide) (by decide) (g := (mkF m 201 #[.val (.int p0), .val (.long q1), .second, .val (.long q2), .second, .val (.long q3), .second, .val (.int p4), .val (.int p5), .val (.int x2), .val (.ref ob3), .val (.int x7), .val (.int x8), .val (.int x9), .val (.int x10), .val (.int x11), .val (.int x12), .val (.ref ob13), .val (.ref ob17), .val (.ref ob21), .unset, .unset, .unset, .unset, .unset, .unset, .unset, .unset] [(.ref ob17), (.ref ob13), (.ref ob3), (.ref ob21), (.int (10 : Int32)), (.ref wN), (.ref ob25), (.ref ob25)])) rfl (by rw [hml]; rfl) (lenOf pd__Lcom_example_deft_shards_deftshards_ind_784 rfl) rfl (by show 2 * 0 + _ ≤ _; exact Nat.le_of_eq rfl) (hb hby at_201) e26 ?_
  rintro v27 T27 L27 X27 ⟨rfl, N27q, Kq27, Eq27, Ff27, Fm27, Fv27⟩
  have N27 := Fr.app N24 N27q
  have K0 := K0.trans Kq27 (allS (Or.inr sz_ob25) all0)
  have O0 := O0.keep Kq27 (allS g_ob25 all0)
  have V_ob3 := V_ob3.keep Kq27 (ninS ne_ob3_ob25 nin0)
  have E_ob3 := E_ob3.keep Kq27
  have V_ob13 := V_ob13.keep Kq27 (ninS ne_ob13_ob25 nin0)
  have E_ob13 := E_ob13.keep Kq27
  have V_ob17 := V_ob17.keep Kq27 (ninS ne_ob17_ob25 nin0)
  have E_ob17 := E_ob17.keep Kq27
  have V_ob21 := V_ob21.keep Kq27 (ninS ne_ob21_ob25 nin0)
  have E_ob21 := E_ob21.keep Kq27
  show GG _ _ _ _ _ _ _ T27 (mkF m 204 #[.val (.int p0), .val (.long q1), .second, .val (.long q2), .second, .val (.long q3), .second, .val (.int p4), .val (.int p5), .val (.int x2), .val (.ref ob3), .val (.int x7), .val (.int x8), .val (.int x9), .val (.int x10), .val (.int x11), .val (.int x12), .val (.ref ob13), .val (.ref ob17), .val (.ref ob21), .unset, .unset, .unset, .unset, .unset, .unset, .unset, .unset] [(.ref ob25)])
  refine own_go (fun _ => XS.astore X27.here hx rfl (hb hby at_204) rfl rfl (l' := #[.val (.int p0), .val (.long q1), .second, .val (.long q2), .second, .val (.long q3), .second, .val (.int p4), .val (.int p5), .val (.int x2), .val (.ref ob3), .val (.int x7), .val (.int x8), .val (.int x9), .val (.int x10), .val (.int x11), .val (.int x12), .val (.ref ob13), .val (.ref ob17), .val (.ref ob21), .val (.ref ob25), .unset, .unset, .unset, .unset, .unset, .unset, .unset]) rfl) ?_
  show GG _ _ _ _ _ _ _ T27 (mkF m 206 #[.val (.int p0), .val (.long q1), .second, .val (.long q2), .second, .val (.long q3), .second, .val (.int p4), .val (.int p5), .val (.int x2), .val (.ref ob3), .val (.int x7), .val (.int x8), .val (.int x9), .val (.int x10), .val (.int x11), .val (.int x12), .val (.ref ob13), .val (.ref ob17), .val (.ref ob21), .val (.ref ob25), .unset, .unset, .unset, .unset, .unset, .unset, .unset] [])
  rcases hsel with hsel | hsel | hsel
  · skip
    subst hsel
    show GG _ _ _ _ _ _ _ T27 (mkF m 206 #[.val (.int p0), .val (.long q1), .second, .val (.long q2), .second, .val (.long q3), .second, .val (.int p4), .val (.int p5), .val (.int (0 : Int32)), .val (.ref ob3), .val (.int x7), .val (.int x8), .val (.int x9), .val (.int x10), .val (.int x11), .val (.int x12), .val (.ref ob13), .val (.ref ob17), .val (.ref ob21), .val (.ref ob25), .unset, .unset, .unset, .unset, .unset, .unset, .unset] [])
    refine own_go (fun _ => XS.aload X27.here hx rfl (hb hby at_206) rfl rfl) ?_
    show GG _ _ _ _ _ _ _ T27 (mkF m 208 #[.val (.int p0), .val (.long q1), .second, .val (.long q2), .second, .val (.long q3), .second, .val (.int p4), .val (.int p5), .val (.int (0 : Int32)), .val (.ref ob3), .val (.int x7), .val (.int x8), .val (.int x9), .val (.int x10), .val (.int x11), .val (.int x12), .val (.ref ob13), .val (.ref ob17), .val (.ref ob21), .val (.ref ob25), .unset, .unset, .unset, .unset, .unset, .unset, .unset] [(.ref ob25)])
    refine own_go (fun _ => XS.iload X27.here hx rfl (hb hby at_208) rfl) ?_
    show GG _ _ _ _ _ _ _ T27 (mkF m 210 #[.val (.int p0), .val (.long q1), .second, .val (.long q2), .second, .val (.long q3), .second, .val (.int p4), .val (.int p5), .val (.int (0 : Int32)), .val (.ref ob3), .val (.int x7), .val (.int x8), .val (.int x9), .val (.int x10), .val (.int x11), .val (.int x12), .val (.ref ob13), .val (.ref ob17), .val (.ref ob21), .val (.ref ob25), .unset, .unset, .unset, .unset, .unset, .unset, .unset] [(.int (0 : Int32)), (.ref ob25)])
    refine own_callV X27 hx hZ (y := (⟨"com/example/deft_shards/deftshards/index/TermWeights", "inHolder", "(I)Lcom/example/deft_shards/deftshards/index/WeightStatistics;"⟩ : MethodName)) (z := (⟨"com/example/deft_shards/deftshards/index/TermWeights", "inHolder", "(I)Lcom/example/deft_shards/deftshards/index/WeightStatistics;"⟩ : MethodName)) 0 hown (hw _ (List.mem_of_getElem? (i := 28) rfl)) (hw _ (List.mem_of_getElem? (i := 29) rfl)) (notFace_of_selects (args := #[]) (mvT hZ (hw _ (List.mem_of_getElem? (i := 31) rfl)))) (hw _ (List.mem_of_getElem? (i := 31) rfl)) (hw _ (List.mem_of_getElem? (i := 30) rfl)) (hw _ (List.mem_of_getElem? (i := 6) rfl)) (hw _ (List.mem_of_getElem? (i := 32) rfl)) (by decide) (a := ob25) (argsL := [(.int (0 : Int32))]) (rest := []) (rm3_0 l Z a0 hw [] ob25 ob3 ob13 ob17 q1 q2 q3 (FP.i2d x7) (FP.i2d x8) (FP.i2d x9) (FP.i2d x10) (FP.i2d x11) (FP.i2d x12) T27.heap n0 (Nat.le_trans Z0 K0.1) Ff27 Fm27 Fv27 V_ob3 V_ob13 V_ob17) (by decide) (by decide) (by decide) (by decide) Eq27 (g := (mkF m 210 #[.val (.int p0), .val (.long q1), .second, .val (.long q2), .second, .val (.long q3), .second, .val (.int p4), .val (.int p5), .val (.int (0 : Int32)), .val (.ref ob3), .val (.int x7), .val (.int x8), .val (.int x9), .val (.int x10), .val (.int x11), .val (.int x12), .val (.ref ob13), .val (.ref ob17), .val (.ref ob21), .val (.ref ob25), .unset, .unset, .unset, .unset, .unset, .unset, .unset] [(.int (0 : Int32)), (.ref ob25)])) rfl (by rw [hml]; rfl) (lenOf pd__I_Lcom_example_deft_shards_deftshards_i_51 rfl) rfl (by show 2 * 0 + _ ≤ _; exact Nat.le_of_eq rfl) (hb hby at_210) rfl ?_
    rintro v28 T28 L28 X28 ⟨bq28, rfl, N28q, szq28, Kq28, Eq28, Fd28, Fm28, Fv28⟩
    have N28 := Fr.app N27 N28q
    have K0 := K0.trans Kq28 all0
    have O0 := O0.keep Kq28 all0
    have V_ob3 := V_ob3.keep Kq28 nin0
    have E_ob3 := E_ob3.keep Kq28
    have V_ob13 := V_ob13.keep Kq28 nin0
    have E_ob13 := E_ob13.keep Kq28
    have V_ob17 := V_ob17.keep Kq28 nin0
    have E_ob17 := E_ob17.keep Kq28
    have V_ob21 := V_ob21.keep Kq28 nin0
    have E_ob21 := E_ob21.keep Kq28
    have Eq27 := Eq27.keep Kq28
    have Ff27 := Ff27.keep Kq28 nin0
    have Fm27 := Fm27.keep Kq28 nin0
    have Fv27 := Fv27.keep Kq28 nin0
    show GG _ _ _ _ _ _ _ T28 (mkF m 213 #[.val (.int p0), .val (.long q1), .second, .val (.long q2), .second, .val (.long q3), .second, .val (.int p4), .val (.int p5), .val (.int (0 : Int32)), .val (.ref ob3), .val (.int x7), .val (.int x8), .val (.int x9), .val (.int x10), .val (.int x11), .val (.int x12), .val (.ref ob13), .val (.ref ob17), .val (.ref ob21), .val (.ref ob25), .unset, .unset, .unset, .unset, .unset, .unset, .unset] [(.ref bq28)])
    refine own_go (fun _ => XS.astore X28.here hx rfl (hb hby at_213) rfl rfl (l' := #[.val (.int p0), .val (.long q1), .second, .val (.long q2), .second, .val (.long q3), .second, .val (.int p4), .val (.int p5), .val (.int (0 : Int32)), .val (.ref ob3), .val (.int x7), .val (.int x8), .val (.int x9), .val (.int x10), .val (.int x11), .val (.int x12), .val (.ref ob13), .val (.ref ob17), .val (.ref ob21), .val (.ref ob25), .val (.ref bq28), .unset, .unset, .unset, .unset, .unset, .unset]) rfl) ?_
    show GG _ _ _ _ _ _ _ T28 (mkF m 215 #[.val (.int p0), .val (.long q1), .second, .val (.long q2), .second, .val (.long q3), .second, .val (.int p4), .val (.int p5), .val (.int (0 : Int32)), .val (.ref ob3), .val (.int x7), .val (.int x8), .val (.int x9), .val (.int x10), .val (.int x11), .val (.int x12), .val (.ref ob13), .val (.ref ob17), .val (.ref ob21), .val (.ref ob25), .val (.ref bq28), .unset, .unset, .unset, .unset, .unset, .unset] [])
    refine own_go (fun _ => XS.iload X28.here hx rfl (hb hby at_215) rfl) ?_
    show GG _ _ _ _ _ _ _ T28 (mkF m 217 #[.val (.int p0), .val (.long q1), .second, .val (.long q2), .second, .val (.long q3), .second, .val (.int p4), .val (.int p5), .val (.int (0 : Int32)), .val (.ref ob3), .val (.int x7), .val (.int x8), .val (.int x9), .val (.int x10), .val (.int x11), .val (.int x12), .val (.ref ob13), .val (.ref ob17), .val (.ref ob21), .val (.ref ob25), .val (.ref bq28), .unset, .unset, .unset, .unset, .unset, .unset] [(.int (0 : Int32))])
    have hc217 : (0 : Int32) = (0 : Int32) := by decide
    refine own_go (fun _ => XS.ifNo X28.here hx rfl (hb hby at_217) rfl ((if0 _ _).trans (teq hc217).2)) ?_
    show GG _ _ _ _ _ _ _ T28 (mkF m 220 #[.val (.int p0), .val (.long q1), .second, .val (.long q2), .second, .val (.long q3), .second, .val (.int p4), .val (.int p5), .val (.int (0 : Int32)), .val (.ref ob3), .val (.int x7), .val (.int x8), .val (.int x9), .val (.int x10), .val (.int x11), .val (.int x12), .val (.ref ob13), .val (.ref ob17), .val (.ref ob21), .val (.ref ob25), .val (.ref bq28), .unset, .unset, .unset, .unset, .unset, .unset] [])
    refine own_go (fun _ => XS.lloadN X28.here hx rfl (hb hby at_220) rfl) ?_
    show GG _ _ _ _ _ _ _ T28 (mkF m 221 #[.val (.int p0), .val (.long q1), .second, .val (.long q2), .second, .val (.long q3), .second, .val (.int p4), .val (.int p5), .val (.int (0 : Int32)), .val (.ref ob3), .val (.int x7), .val (.int x8), .val (.int x9), .val (.int x10), .val (.int x11), .val (.int x12), .val (.ref ob13), .val (.ref ob17), .val (.ref ob21), .val (.ref ob25), .val (.ref bq28), .unset, .unset, .unset, .unset, .unset, .unset] [(.long q1)])
    refine own_go (fun _ => XS.lstore X28.here hx rfl (hb hby at_221) rfl (l' := #[.val (.int p0), .val (.long q1), .second, .val (.long q2), .second, .val (.long q3), .second, .val (.int p4), .val (.int p5), .val (.int (0 : Int32)), .val (.ref ob3), .val (.int x7), .val (.int x8), .val (.int x9), .val (.int x10), .val (.int x11), .val (.int x12), .val (.ref ob13), .val (.ref ob17), .val (.ref ob21), .val (.ref ob25), .val (.ref bq28), .val (.long q1), .second, .unset, .unset, .unset, .unset]) rfl) ?_
    show GG _ _ _ _ _ _ _ T28 (mkF m 223 #[.val (.int p0), .val (.long q1), .second, .val (.long q2), .second, .val (.long q3), .second, .val (.int p4), .val (.int p5), .val (.int (0 : Int32)), .val (.ref ob3), .val (.int x7), .val (.int x8), .val (.int x9), .val (.int x10), .val (.int x11), .val (.int x12), .val (.ref ob13), .val (.ref ob17), .val (.ref ob21), .val (.ref ob25), .val (.ref bq28), .val (.long q1), .second, .unset, .unset, .unset, .unset] [])
    refine own_go (fun _ => XS.iload X28.here hx rfl (hb hby at_223) rfl) ?_
    show GG _ _ _ _ _ _ _ T28 (mkF m 225 #[.val (.int p0), .val (.long q1), .second, .val (.long q2), .second, .val (.long q3), .second, .val (.int p4), .val (.int p5), .val (.int (0 : Int32)), .val (.ref ob3), .val (.int x7), .val (.int x8), .val (.int x9), .val (.int x10), .val (.int x11), .val (.int x12), .val (.ref ob13), .val (.ref ob17), .val (.ref ob21), .val (.ref ob25), .val (.ref bq28), .val (.long q1), .second, .unset, .unset, .unset, .unset] [(.int x7)])
    refine own_go (fun _ => XS.i2dS X28.here hx rfl (hb hby at_225) rfl rfl) ?_
    show GG _ _ _ _ _ _ _ T28 (mkF m 226 #[.val (.int p0), .val (.long q1), .second, .val (.long q2), .second, .val (.long q3), .second, .val (.int p4), .val (.int p5), .val (.int (0 : Int32)), .val (.ref ob3), .val (.int x7), .val (.int x8), .val (.int x9), .val (.int x10), .val (.int x11), .val (.int x12), .val (.ref ob13), .val (.ref ob17), .val (.ref ob21), .val (.ref ob25), .val (.ref bq28), .val (.long q1), .second, .unset, .unset, .unset, .unset] [(.double (FP.i2d x7))])
    refine own_go (fun _ => XS.dstore X28.here hx rfl (hb hby at_226) rfl (l' := #[.val (.int p0), .val (.long q1), .second, .val (.long q2), .second, .val (.long q3), .second, .val (.int p4), .val (.int p5), .val (.int (0 : Int32)), .val (.ref ob3), .val (.int x7), .val (.int x8), .val (.int x9), .val (.int x10), .val (.int x11), .val (.int x12), .val (.ref ob13), .val (.ref ob17), .val (.ref ob21), .val (.ref ob25), .val (.ref bq28), .val (.long q1), .second, .val (.double (FP.i2d x7)), .second, .unset, .unset]) rfl) ?_
    show GG _ _ _ _ _ _ _ T28 (mkF m 228 #[.val (.int p0), .val (.long q1), .second, .val (.long q2), .second, .val (.long q3), .second, .val (.int p4), .val (.int p5), .val (.int (0 : Int32)), .val (.ref ob3), .val (.int x7), .val (.int x8), .val (.int x9), .val (.int x10), .val (.int x11), .val (.int x12), .val (.ref ob13), .val (.ref ob17), .val (.ref ob21), .val (.ref ob25), .val (.ref bq28), .val (.long q1), .second, .val (.double (FP.i2d x7)), .second, .unset, .unset] [])
    refine own_go (fun _ => XS.iload X28.here hx rfl (hb hby at_228) rfl) ?_
    show GG _ _ _ _ _ _ _ T28 (mkF m 230 #[.val (.int p0), .val (.long q1), .second, .val (.long q2), .second, .val (.long q3), .second, .val (.int p4), .val (.int p5), .val (.int (0 : Int32)), .val (.ref ob3), .val (.int x7), .val (.int x8), .val (.int x9), .val (.int x10), .val (.int x11), .val (.int x12), .val (.ref ob13), .val (.ref ob17), .val (.ref ob21), .val (.ref ob25), .val (.ref bq28), .val (.long q1), .second, .val (.double (FP.i2d x7)), .second, .unset, .unset] [(.int x10)])
    refine own_go (fun _ => XS.i2dS X28.here hx rfl (hb hby at_230) rfl rfl) ?_
    show GG _ _ _ _ _ _ _ T28 (mkF m 231 #[.val (.int p0), .val (.long q1), .second, .val (.long q2), .second, .val (.long q3), .second, .val (.int p4), .val (.int p5), .val (.int (0 : Int32)), .val (.ref ob3), .val (.int x7), .val (.int x8), .val (.int x9), .val (.int x10), .val (.int x11), .val (.int x12), .val (.ref ob13), .val (.ref ob17), .val (.ref ob21), .val (.ref ob25), .val (.ref bq28), .val (.long q1), .second, .val (.double (FP.i2d x7)), .second, .unset, .unset] [(.double (FP.i2d x10))])
    refine own_go (fun _ => XS.dstore X28.here hx rfl (hb hby at_231) rfl (l' := #[.val (.int p0), .val (.long q1), .second, .val (.long q2), .second, .val (.long q3), .second, .val (.int p4), .val (.int p5), .val (.int (0 : Int32)), .val (.ref ob3), .val (.int x7), .val (.int x8), .val (.int x9), .val (.int x10), .val (.int x11), .val (.int x12), .val (.ref ob13), .val (.ref ob17), .val (.ref ob21), .val (.ref ob25), .val (.ref bq28), .val (.long q1), .second, .val (.double (FP.i2d x7)), .second, .val (.double (FP.i2d x10)), .second]) rfl) ?_
    show GG _ _ _ _ _ _ _ T28 (mkF m 233 #[.val (.int p0), .val (.long q1), .second, .val (.long q2), .second, .val (.long q3), .second, .val (.int p4), .val (.int p5), .val (.int (0 : Int32)), .val (.ref ob3), .val (.int x7), .val (.int x8), .val (.int x9), .val (.int x10), .val (.int x11), .val (.int x12), .val (.ref ob13), .val (.ref ob17), .val (.ref ob21), .val (.ref ob25), .val (.ref bq28), .val (.long q1), .second, .val (.double (FP.i2d x7)), .second, .val (.double (FP.i2d x10)), .second] [])
    refine own_go (fun _ => XS.goto X28.here hx rfl (pc0 := 233) (pc' := 272) rfl (hb hby at_233) (by decide) (by decide)) ?_
    show GG _ _ _ _ _ _ _ T28 (mkF m 272 #[.val (.int p0), .val (.long q1), .second, .val (.long q2), .second, .val (.long q3), .second, .val (.int p4), .val (.int p5), .val (.int (0 : Int32)), .val (.ref ob3), .val (.int x7), .val (.int x8), .val (.int x9), .val (.int x10), .val (.int x11), .val (.int x12), .val (.ref ob13), .val (.ref ob17), .val (.ref ob21), .val (.ref ob25), .val (.ref bq28), .val (.long q1), .second, .val (.double (FP.i2d x7)), .second, .val (.double (FP.i2d x10)), .second] [])
    refine own_go (fun _ => XS.aload X28.here hx rfl (hb hby at_272) rfl rfl) ?_
    show GG _ _ _ _ _ _ _ T28 (mkF m 274 #[.val (.int p0), .val (.long q1), .second, .val (.long q2), .second, .val (.long q3), .second, .val (.int p4), .val (.int p5), .val (.int (0 : Int32)), .val (.ref ob3), .val (.int x7), .val (.int x8), .val (.int x9), .val (.int x10), .val (.int x11), .val (.int x12), .val (.ref ob13), .val (.ref ob17), .val (.ref ob21), .val (.ref ob25), .val (.ref bq28), .val (.long q1), .second, .val (.double (FP.i2d x7)), .second, .val (.double (FP.i2d x10)), .second] [(.ref bq28)])
    refine own_callV X28 hx hZ (y := (⟨"com/example/deft_shards/deftshards/index/WeightStatistics", "documentFrequency", "()J"⟩ : MethodName)) (z := (⟨"com/example/deft_shards/deftshards/index/WeightStatistics", "documentFrequency", "()J"⟩ : MethodName)) 0 hown (hw _ (List.mem_of_getElem? (i := 45) rfl)) (hw _ (List.mem_of_getElem? (i := 46) rfl)) (notFace_of_selects (args := #[]) (mvT hZ (hw _ (List.mem_of_getElem? (i := 48) rfl)))) (hw _ (List.mem_of_getElem? (i := 48) rfl)) (hw _ (List.mem_of_getElem? (i := 47) rfl)) (hw _ (List.mem_of_getElem? (i := 8) rfl)) (hw _ (List.mem_of_getElem? (i := 49) rfl)) (by decide) (a := bq28) (argsL := []) (rest := []) (rm5 l Z a0 hw [] bq28 q1 T28.heap n0 (Nat.le_trans Z0 K0.1) Fd28) (by decide) (by decide) (by decide) (by decide) Eq28 (g := (mkF m 274 #[.val (.int p0), .val (.long q1), .second, .val (.long q2), .second, .val (.long q3), .second, .val (.int p4), .val (.int p5), .val (.int (0 : Int32)), .val (.ref ob3), .val (.int x7), .val (.int x8), .val (.int x9), .val (.int x10), .val (.int x11), .val (.int x12), .val (.ref ob13), .val (.ref ob17), .val (.ref ob21), .val (.ref ob25), .val (.ref bq28), .val (.long q1), .second, .val (.double (FP.i2d x7)), .second, .val (.double (FP.i2d x10)), .second] [(.ref bq28)])) rfl (by rw [hml]; rfl) (lenOf pd___J_155 rfl) rfl (by show 2 * 0 + _ ≤ _; exact Nat.le_of_eq rfl) (hb hby at_274) rfl ?_
    rintro v29 T29 L29 X29 ⟨rfl, N29q, hh29⟩
    have N29 := Fr.app N28 N29q
    show GG _ _ _ _ _ _ _ T29 (mkF m 277 #[.val (.int p0), .val (.long q1), .second, .val (.long q2), .second, .val (.long q3), .second, .val (.int p4), .val (.int p5), .val (.int (0 : Int32)), .val (.ref ob3), .val (.int x7), .val (.int x8), .val (.int x9), .val (.int x10), .val (.int x11), .val (.int x12), .val (.ref ob13), .val (.ref ob17), .val (.ref ob21), .val (.ref ob25), .val (.ref bq28), .val (.long q1), .second, .val (.double (FP.i2d x7)), .second, .val (.double (FP.i2d x10)), .second] [(.long q1)])
    refine own_go (fun _ => XS.lload X29.here hx rfl (hb hby at_277) rfl) ?_
    show GG _ _ _ _ _ _ _ T29 (mkF m 279 #[.val (.int p0), .val (.long q1), .second, .val (.long q2), .second, .val (.long q3), .second, .val (.int p4), .val (.int p5), .val (.int (0 : Int32)), .val (.ref ob3), .val (.int x7), .val (.int x8), .val (.int x9), .val (.int x10), .val (.int x11), .val (.int x12), .val (.ref ob13), .val (.ref ob17), .val (.ref ob21), .val (.ref ob25), .val (.ref bq28), .val (.long q1), .second, .val (.double (FP.i2d x7)), .second, .val (.double (FP.i2d x10)), .second] [(.long q1), (.long q1)])
    refine own_go (fun _ => XS.lcmp X29.here hx rfl (hb hby at_279) rfl) ?_
    show GG _ _ _ _ _ _ _ T29 (mkF m 280 #[.val (.int p0), .val (.long q1), .second, .val (.long q2), .second, .val (.long q3), .second, .val (.int p4), .val (.int p5), .val (.int (0 : Int32)), .val (.ref ob3), .val (.int x7), .val (.int x8), .val (.int x9), .val (.int x10), .val (.int x11), .val (.int x12), .val (.ref ob13), .val (.ref ob17), .val (.ref ob21), .val (.ref ob25), .val (.ref bq28), .val (.long q1), .second, .val (.double (FP.i2d x7)), .second, .val (.double (FP.i2d x10)), .second] [(.int (lcmpW q1 q1))])
    have hc280 : q1 = q1 := rfl
    refine own_go (fun _ => XS.ifNo X29.here hx rfl (hb hby at_280) rfl ((if0 _ _).trans (teq ((lw_eq _ _).mpr hc280)).2)) ?_
    show GG _ _ _ _ _ _ _ T29 (mkF m 283 #[.val (.int p0), .val (.long q1), .second, .val (.long q2), .second, .val (.long q3), .second, .val (.int p4), .val (.int p5), .val (.int (0 : Int32)), .val (.ref ob3), .val (.int x7), .val (.int x8), .val (.int x9), .val (.int x10), .val (.int x11), .val (.int x12), .val (.ref ob13), .val (.ref ob17), .val (.ref ob21), .val (.ref ob25), .val (.ref bq28), .val (.long q1), .second, .val (.double (FP.i2d x7)), .second, .val (.double (FP.i2d x10)), .second] [])
    refine own_go (fun _ => XS.aload X29.here hx rfl (hb hby at_283) rfl rfl) ?_
    show GG _ _ _ _ _ _ _ T29 (mkF m 285 #[.val (.int p0), .val (.long q1), .second, .val (.long q2), .second, .val (.long q3), .second, .val (.int p4), .val (.int p5), .val (.int (0 : Int32)), .val (.ref ob3), .val (.int x7), .val (.int x8), .val (.int x9), .val (.int x10), .val (.int x11), .val (.int x12), .val (.ref ob13), .val (.ref ob17), .val (.ref ob21), .val (.ref ob25), .val (.ref bq28), .val (.long q1), .second, .val (.double (FP.i2d x7)), .second, .val (.double (FP.i2d x10)), .second] [(.ref bq28)])
    refine own_callV X29 hx hZ (y := (⟨"com/example/deft_shards/deftshards/index/WeightStatistics", "mean", "()D"⟩ : MethodName)) (z := (⟨"com/example/deft_shards/deftshards/index/WeightStatistics", "mean", "()D"⟩ : MethodName)) 0 hown (hw _ (List.mem_of_getElem? (i := 50) rfl)) (hw _ (List.mem_of_getElem? (i := 51) rfl)) (notFace_of_selects (args := #[]) (mvT hZ (hw _ (List.mem_of_getElem? (i := 53) rfl)))) (hw _ (List.mem_of_getElem? (i := 53) rfl)) (hw _ (List.mem_of_getElem? (i := 52) rfl)) (hw _ (List.mem_of_getElem? (i := 8) rfl)) (hw _ (List.mem_of_getElem? (i := 54) rfl)) (by decide) (a := bq28) (argsL := []) (rest := []) (rm6 l Z a0 hw [] bq28 (FP.i2d x7) T28.heap n0 (Nat.le_trans Z0 K0.1) Fm28) (by decide) (by decide) (by decide) (by decide) Eq28 (g := (mkF m 285 #[.val (.int p0), .val (.long q1), .second, .val (.long q2), .second, .val (.long q3), .second, .val (.int p4), .val (.int p5), .val (.int (0 : Int32)), .val (.ref ob3), .val (.int x7), .val (.int x8), .val (.int x9), .val (.int x10), .val (.int x11), .val (.int x12), .val (.ref ob13), .val (.ref ob17), .val (.ref ob21), .val (.ref ob25), .val (.ref bq28), .val (.long q1), .second, .val (.double (FP.i2d x7)), .second, .val (.double (FP.i2d x10)), .second] [(.ref bq28)])) rfl (by rw [hml]; rfl) (lenOf pd___D_149 rfl) rfl (by show 2 * 0 + _ ≤ _; exact Nat.le_of_eq rfl) (hb hby at_285) hh29 ?_
    rintro v30 T30 L30 X30 ⟨rfl, N30q, hh30⟩
    have N30 := Fr.app N29 N30q
    show GG _ _ _ _ _ _ _ T30 (mkF m 288 #[.val (.int p0), .val (.long q1), .second, .val (.long q2), .second, .val (.long q3), .second, .val (.int p4), .val (.int p5), .val (.int (0 : Int32)), .val (.ref ob3), .val (.int x7), .val (.int x8), .val (.int x9), .val (.int x10), .val (.int x11), .val (.int x12), .val (.ref ob13), .val (.ref ob17), .val (.ref ob21), .val (.ref ob25), .val (.ref bq28), .val (.long q1), .second, .val (.double (FP.i2d x7)), .second, .val (.double (FP.i2d x10)), .second] [(.double (FP.i2d x7))])
    refine own_go (fun _ => XS.dload X30.here hx rfl (hb hby at_288) rfl) ?_
    show GG _ _ _ _ _ _ _ T30 (mkF m 290 #[.val (.int p0), .val (.long q1), .second, .val (.long q2), .second, .val (.long q3), .second, .val (.int p4), .val (.int p5), .val (.int (0 : Int32)), .val (.ref ob3), .val (.int x7), .val (.int x8), .val (.int x9), .val (.int x10), .val (.int x11), .val (.int x12), .val (.ref ob13), .val (.ref ob17), .val (.ref ob21), .val (.ref ob25), .val (.ref bq28), .val (.long q1), .second, .val (.double (FP.i2d x7)), .second, .val (.double (FP.i2d x10)), .second] [(.double (FP.i2d x7)), (.double (FP.i2d x7))])
    refine own_go (fun _ => XS.dcmpS X30.here hx rfl (hb hby at_290) rfl (dcmpV_self (own_i2dn _) _)) ?_
    show GG _ _ _ _ _ _ _ T30 (mkF m 291 #[.val (.int p0), .val (.long q1), .second, .val (.long q2), .second, .val (.long q3), .second, .val (.int p4), .val (.int p5), .val (.int (0 : Int32)), .val (.ref ob3), .val (.int x7), .val (.int x8), .val (.int x9), .val (.int x10), .val (.int x11), .val (.int x12), .val (.ref ob13), .val (.ref ob17), .val (.ref ob21), .val (.ref ob25), .val (.ref bq28), .val (.long q1), .second, .val (.double (FP.i2d x7)), .second, .val (.double (FP.i2d x10)), .second] [(.int (0 : Int32))])
    have hc291 : (0 : Int32) = (0 : Int32) := by decide
    refine own_go (fun _ => XS.ifNo X30.here hx rfl (hb hby at_291) rfl ((if0 _ _).trans (teq hc291).2)) ?_
    show GG _ _ _ _ _ _ _ T30 (mkF m 294 #[.val (.int p0), .val (.long q1), .second, .val (.long q2), .second, .val (.long q3), .second, .val (.int p4), .val (.int p5), .val (.int (0 : Int32)), .val (.ref ob3), .val (.int x7), .val (.int x8), .val (.int x9), .val (.int x10), .val (.int x11), .val (.int x12), .val (.ref ob13), .val (.ref ob17), .val (.ref ob21), .val (.ref ob25), .val (.ref bq28), .val (.long q1), .second, .val (.double (FP.i2d x7)), .second, .val (.double (FP.i2d x10)), .second] [])
    refine own_go (fun _ => XS.aload X30.here hx rfl (hb hby at_294) rfl rfl) ?_
    show GG _ _ _ _ _ _ _ T30 (mkF m 296 #[.val (.int p0), .val (.long q1), .second, .val (.long q2), .second, .val (.long q3), .second, .val (.int p4), .val (.int p5), .val (.int (0 : Int32)), .val (.ref ob3), .val (.int x7), .val (.int x8), .val (.int x9), .val (.int x10), .val (.int x11), .val (.int x12), .val (.ref ob13), .val (.ref ob17), .val (.ref ob21), .val (.ref ob25), .val (.ref bq28), .val (.long q1), .second, .val (.double (FP.i2d x7)), .second, .val (.double (FP.i2d x10)), .second] [(.ref bq28)])
    refine own_callV X30 hx hZ (y := (⟨"com/example/deft_shards/deftshards/index/WeightStatistics", "variance", "()D"⟩ : MethodName)) (z := (⟨"com/example/deft_shards/deftshards/index/WeightStatistics", "variance", "()D"⟩ : MethodName)) 0 hown (hw _ (List.mem_of_getElem? (i := 55) rfl)) (hw _ (List.mem_of_getElem? (i := 56) rfl)) (notFace_of_selects (args := #[]) (mvT hZ (hw _ (List.mem_of_getElem? (i := 58) rfl)))) (hw _ (List.mem_of_getElem? (i := 58) rfl)) (hw _ (List.mem_of_getElem? (i := 57) rfl)) (hw _ (List.mem_of_getElem? (i := 8) rfl)) (hw _ (List.mem_of_getElem? (i := 59) rfl)) (by decide) (a := bq28) (argsL := []) (rest := []) (rm7 l Z a0 hw [] bq28 (FP.i2d x10) T28.heap n0 (Nat.le_trans Z0 K0.1) Fv28) (by decide) (by decide) (by decide) (by decide) Eq28 (g := (mkF m 296 #[.val (.int p0), .val (.long q1), .second, .val (.long q2), .second, .val (.long q3), .second, .val (.int p4), .val (.int p5), .val (.int (0 : Int32)), .val (.ref ob3), .val (.int x7), .val (.int x8), .val (.int x9), .val (.int x10), .val (.int x11), .val (.int x12), .val (.ref ob13), .val (.ref ob17), .val (.ref ob21), .val (.ref ob25), .val (.ref bq28), .val (.long q1), .second, .val (.double (FP.i2d x7)), .second, .val (.double (FP.i2d x10)), .second] [(.ref bq28)])) rfl (by rw [hml]; rfl) (lenOf pd___D_149 rfl) rfl (by show 2 * 0 + _ ≤ _; exact Nat.le_of_eq rfl) (hb hby at_296) hh30 ?_
    rintro v31 T31 L31 X31 ⟨rfl, N31q, hh31⟩
    have N31 := Fr.app N30 N31q
    show GG _ _ _ _ _ _ _ T31 (mkF m 299 #[.val (.int p0), .val (.long q1), .second, .val (.long q2), .second, .val (.long q3), .second, .val (.int p4), .val (.int p5), .val (.int (0 : Int32)), .val (.ref ob3), .val (.int x7), .val (.int x8), .val (.int x9), .val (.int x10), .val (.int x11), .val (.int x12), .val (.ref ob13), .val (.ref ob17), .val (.ref ob21), .val (.ref ob25), .val (.ref bq28), .val (.long q1), .second, .val (.double (FP.i2d x7)), .second, .val (.double (FP.i2d x10)), .second] [(.double (FP.i2d x10))])
    refine own_go (fun _ => XS.dload X31.here hx rfl (hb hby at_299) rfl) ?_
    show GG _ _ _ _ _ _ _ T31 (mkF m 301 #[.val (.int p0), .val (.long q1), .second, .val (.long q2), .second, .val (.long q3), .second, .val (.int p4), .val (.int p5), .val (.int (0 : Int32)), .val (.ref ob3), .val (.int x7), .val (.int x8), .val (.int x9), .val (.int x10), .val (.int x11), .val (.int x12), .val (.ref ob13), .val (.ref ob17), .val (.ref ob21), .val (.ref ob25), .val (.ref bq28), .val (.long q1), .second, .val (.double (FP.i2d x7)), .second, .val (.double (FP.i2d x10)), .second] [(.double (FP.i2d x10)), (.double (FP.i2d x10))])
    refine own_go (fun _ => XS.dcmpS X31.here hx rfl (hb hby at_301) rfl (dcmpV_self (own_i2dn _) _)) ?_
    show GG _ _ _ _ _ _ _ T31 (mkF m 302 #[.val (.int p0), .val (.long q1), .second, .val (.long q2), .second, .val (.long q3), .second, .val (.int p4), .val (.int p5), .val (.int (0 : Int32)), .val (.ref ob3), .val (.int x7), .val (.int x8), .val (.int x9), .val (.int x10), .val (.int x11), .val (.int x12), .val (.ref ob13), .val (.ref ob17), .val (.ref ob21), .val (.ref ob25), .val (.ref bq28), .val (.long q1), .second, .val (.double (FP.i2d x7)), .second, .val (.double (FP.i2d x10)), .second] [(.int (0 : Int32))])
    have hc302 : (0 : Int32) = (0 : Int32) := by decide
    refine own_go (fun _ => XS.ifNo X31.here hx rfl (hb hby at_302) rfl ((if0 _ _).trans (teq hc302).2)) ?_
    show GG _ _ _ _ _ _ _ T31 (mkF m 305 #[.val (.int p0), .val (.long q1), .second, .val (.long q2), .second, .val (.long q3), .second, .val (.int p4), .val (.int p5), .val (.int (0 : Int32)), .val (.ref ob3), .val (.int x7), .val (.int x8), .val (.int x9), .val (.int x10), .val (.int x11), .val (.int x12), .val (.ref ob13), .val (.ref ob17), .val (.ref ob21), .val (.ref ob25), .val (.ref bq28), .val (.long q1), .second, .val (.double (FP.i2d x7)), .second, .val (.double (FP.i2d x10)), .second] [])
    refine own_go (fun _ => XS.iconst X31.here hx rfl (hb hby at_305)) ?_
    show GG _ _ _ _ _ _ _ T31 (mkF m 306 #[.val (.int p0), .val (.long q1), .second, .val (.long q2), .second, .val (.long q3), .second, .val (.int p4), .val (.int p5), .val (.int (0 : Int32)), .val (.ref ob3), .val (.int x7), .val (.int x8), .val (.int x9), .val (.int x10), .val (.int x11), .val (.int x12), .val (.ref ob13), .val (.ref ob17), .val (.ref ob21), .val (.ref ob25), .val (.ref bq28), .val (.long q1), .second, .val (.double (FP.i2d x7)), .second, .val (.double (FP.i2d x10)), .second] [(.int (1 : Int32))])
    refine own_go (fun _ => XS.goto X31.here hx rfl (pc0 := 306) (pc' := 310) rfl (hb hby at_306) (by decide) (by decide)) ?_
    show GG _ _ _ _ _ _ _ T31 (mkF m 310 #[.val (.int p0), .val (.long q1), .second, .val (.long q2), .second, .val (.long q3), .second, .val (.int p4), .val (.int p5), .val (.int (0 : Int32)), .val (.ref ob3), .val (.int x7), .val (.int x8), .val (.int x9), .val (.int x10), .val (.int x11), .val (.int x12), .val (.ref ob13), .val (.ref ob17), .val (.ref ob21), .val (.ref ob25), .val (.ref bq28), .val (.long q1), .second, .val (.double (FP.i2d x7)), .second, .val (.double (FP.i2d x10)), .second] [(.int (1 : Int32))])
    refine own_ret X31 hx hlk (t := .boolean) (w := (.int (1 : Int32))) Bd.returns rfl (Or.inl ⟨rfl, by simp, _, rfl⟩) (hb hby at_310) (by decide) (by decide) ?_
    show Q0 Z p0 q1 q2 q3 p4 p5 wN h0 n0 (some (.int (1 : Int32))) T31.heap _
    rw [hh31]
    exact ⟨rfl, N31⟩
  · skip
    subst hsel
    show GG _ _ _ _ _ _ _ T27 (mkF m 206 #[.val (.int p0), .val (.long q1), .second, .val (.long q2), .second, .val (.long q3), .second, .val (.int p4), .val (.int p5), .val (.int (1 : Int32)), .val (.ref ob3), .val (.int x7), .val (.int x8), .val (.int x9), .val (.int x10), .val (.int x11), .val (.int x12), .val (.ref ob13), .val (.ref ob17), .val (.ref ob21), .val (.ref ob25), .unset, .unset, .unset, .unset, .unset, .unset, .unset] [])
    refine own_go (fun _ => XS.aload X27.here hx rfl (hb hby at_206) rfl rfl) ?_
    show GG _ _ _ _ _ _ _ T27 (mkF m 208 #[.val (.int p0), .val (.long q1), .second, .val (.long q2), .second, .val (.long q3), .second, .val (.int p4), .val (.int p5), .val (.int (1 : Int32)), .val (.ref ob3), .val (.int x7), .val (.int x8), .val (.int x9), .val (.int x10), .val (.int x11), .val (.int x12), .val (.ref ob13), .val (.ref ob17), .val (.ref ob21), .val (.ref ob25), .unset, .unset, .unset, .unset, .unset, .unset, .unset] [(.ref ob25)])
    refine own_go (fun _ => XS.iload X27.here hx rfl (hb hby at_208) rfl) ?_
    show GG _ _ _ _ _ _ _ T27 (mkF m 210 #[.val (.int p0), .val (.long q1), .second, .val (.long q2), .second, .val (.long q3), .second, .val (.int p4), .val (.int p5), .val (.int (1 : Int32)), .val (.ref ob3), .val (.int x7), .val (.int x8), .val (.int x9), .val (.int x10), .val (.int x11), .val (.int x12), .val (.ref ob13), .val (.ref ob17), .val (.ref ob21), .val (.ref ob25), .unset, .unset, .unset, .unset, .unset, .unset, .unset] [(.int (1 : Int32)), (.ref ob25)])
    refine own_callV X27 hx hZ (y := (⟨"com/example/deft_shards/deftshards/index/TermWeights", "inHolder", "(I)Lcom/example/deft_shards/deftshards/index/WeightStatistics;"⟩ : MethodName)) (z := (⟨"com/example/deft_shards/deftshards/index/TermWeights", "inHolder", "(I)Lcom/example/deft_shards/deftshards/index/WeightStatistics;"⟩ : MethodName)) 0 hown (hw _ (List.mem_of_getElem? (i := 28) rfl)) (hw _ (List.mem_of_getElem? (i := 29) rfl)) (notFace_of_selects (args := #[]) (mvT hZ (hw _ (List.mem_of_getElem? (i := 31) rfl)))) (hw _ (List.mem_of_getElem? (i := 31) rfl)) (hw _ (List.mem_of_getElem? (i := 30) rfl)) (hw _ (List.mem_of_getElem? (i := 6) rfl)) (hw _ (List.mem_of_getElem? (i := 32) rfl)) (by decide) (a := ob25) (argsL := [(.int (1 : Int32))]) (rest := []) (rm3_1 l Z a0 hw [] ob25 ob3 ob13 ob17 q1 q2 q3 (FP.i2d x7) (FP.i2d x8) (FP.i2d x9) (FP.i2d x10) (FP.i2d x11) (FP.i2d x12) T27.heap n0 (Nat.le_trans Z0 K0.1) Ff27 Fm27 Fv27 V_ob3 V_ob13 V_ob17) (by decide) (by decide) (by decide) (by decide) Eq27 (g := (mkF m 210 #[.val (.int p0), .val (.long q1), .second, .val (.long q2), .second, .val (.long q3), .second, .val (.int p4), .val (.int p5), .val (.int (1 : Int32)), .val (.ref ob3), .val (.int x7), .val (.int x8), .val (.int x9), .val (.int x10), .val (.int x11), .val (.int x12), .val (.ref ob13), .val (.ref ob17), .val (.ref ob21), .val (.ref ob25), .unset, .unset, .unset, .unset, .unset, .unset, .unset] [(.int (1 : Int32)), (.ref ob25)])) rfl (by rw [hml]; rfl) (lenOf pd__I_Lcom_example_deft_shards_deftshards_i_51 rfl) rfl (by show 2 * 0 + _ ≤ _; exact Nat.le_of_eq rfl) (hb hby at_210) rfl ?_
    rintro v32 T32 L32 X32 ⟨bq32, rfl, N32q, szq32, Kq32, Eq32, Fd32, Fm32, Fv32⟩
    have N32 := Fr.app N27 N32q
    have K0 := K0.trans Kq32 all0
    have O0 := O0.keep Kq32 all0
    have V_ob3 := V_ob3.keep Kq32 nin0
    have E_ob3 := E_ob3.keep Kq32
    have V_ob13 := V_ob13.keep Kq32 nin0
    have E_ob13 := E_ob13.keep Kq32
    have V_ob17 := V_ob17.keep Kq32 nin0
    have E_ob17 := E_ob17.keep Kq32
    have V_ob21 := V_ob21.keep Kq32 nin0
    have E_ob21 := E_ob21.keep Kq32
    have Eq27 := Eq27.keep Kq32
    have Ff27 := Ff27.keep Kq32 nin0
    have Fm27 := Fm27.keep Kq32 nin0
    have Fv27 := Fv27.keep Kq32 nin0
    show GG _ _ _ _ _ _ _ T32 (mkF m 213 #[.val (.int p0), .val (.long q1), .second, .val (.long q2), .second, .val (.long q3), .second, .val (.int p4), .val (.int p5), .val (.int (1 : Int32)), .val (.ref ob3), .val (.int x7), .val (.int x8), .val (.int x9), .val (.int x10), .val (.int x11), .val (.int x12), .val (.ref ob13), .val (.ref ob17), .val (.ref ob21), .val (.ref ob25), .unset, .unset, .unset, .unset, .unset, .unset, .unset] [(.ref bq32)])
    refine own_go (fun _ => XS.astore X32.here hx rfl (hb hby at_213) rfl rfl (l' := #[.val (.int p0), .val (.long q1), .second, .val (.long q2), .second, .val (.long q3), .second, .val (.int p4), .val (.int p5), .val (.int (1 : Int32)), .val (.ref ob3), .val (.int x7), .val (.int x8), .val (.int x9), .val (.int x10), .val (.int x11), .val (.int x12), .val (.ref ob13), .val (.ref ob17), .val (.ref ob21), .val (.ref ob25), .val (.ref bq32), .unset, .unset, .unset, .unset, .unset, .unset]) rfl) ?_
    show GG _ _ _ _ _ _ _ T32 (mkF m 215 #[.val (.int p0), .val (.long q1), .second, .val (.long q2), .second, .val (.long q3), .second, .val (.int p4), .val (.int p5), .val (.int (1 : Int32)), .val (.ref ob3), .val (.int x7), .val (.int x8), .val (.int x9), .val (.int x10), .val (.int x11), .val (.int x12), .val (.ref ob13), .val (.ref ob17), .val (.ref ob21), .val (.ref ob25), .val (.ref bq32), .unset, .unset, .unset, .unset, .unset, .unset] [])
    refine own_go (fun _ => XS.iload X32.here hx rfl (hb hby at_215) rfl) ?_
    show GG _ _ _ _ _ _ _ T32 (mkF m 217 #[.val (.int p0), .val (.long q1), .second, .val (.long q2), .second, .val (.long q3), .second, .val (.int p4), .val (.int p5), .val (.int (1 : Int32)), .val (.ref ob3), .val (.int x7), .val (.int x8), .val (.int x9), .val (.int x10), .val (.int x11), .val (.int x12), .val (.ref ob13), .val (.ref ob17), .val (.ref ob21), .val (.ref ob25), .val (.ref bq32), .unset, .unset, .unset, .unset, .unset, .unset] [(.int (1 : Int32))])
    have hc217 : ¬ ((1 : Int32) = (0 : Int32)) := by decide
    refine own_go (fun _ => XS.ifYes X32.here hx rfl (pc0 := 217) (pc' := 236) rfl (hb hby at_217) rfl ((if0 _ _).trans (feq hc217).2) (by decide) (by decide)) ?_
    show GG _ _ _ _ _ _ _ T32 (mkF m 236 #[.val (.int p0), .val (.long q1), .second, .val (.long q2), .second, .val (.long q3), .second, .val (.int p4), .val (.int p5), .val (.int (1 : Int32)), .val (.ref ob3), .val (.int x7), .val (.int x8), .val (.int x9), .val (.int x10), .val (.int x11), .val (.int x12), .val (.ref ob13), .val (.ref ob17), .val (.ref ob21), .val (.ref ob25), .val (.ref bq32), .unset, .unset, .unset, .unset, .unset, .unset] [])
    refine own_go (fun _ => XS.iload X32.here hx rfl (hb hby at_236) rfl) ?_
    show GG _ _ _ _ _ _ _ T32 (mkF m 238 #[.val (.int p0), .val (.long q1), .second, .val (.long q2), .second, .val (.long q3), .second, .val (.int p4), .val (.int p5), .val (.int (1 : Int32)), .val (.ref ob3), .val (.int x7), .val (.int x8), .val (.int x9), .val (.int x10), .val (.int x11), .val (.int x12), .val (.ref ob13), .val (.ref ob17), .val (.ref ob21), .val (.ref ob25), .val (.ref bq32), .unset, .unset, .unset, .unset, .unset, .unset] [(.int (1 : Int32))])
    refine own_go (fun _ => XS.iconst X32.here hx rfl (hb hby at_238)) ?_
    show GG _ _ _ _ _ _ _ T32 (mkF m 239 #[.val (.int p0), .val (.long q1), .second, .val (.long q2), .second, .val (.long q3), .second, .val (.int p4), .val (.int p5), .val (.int (1 : Int32)), .val (.ref ob3), .val (.int x7), .val (.int x8), .val (.int x9), .val (.int x10), .val (.int x11), .val (.int x12), .val (.ref ob13), .val (.ref ob17), .val (.ref ob21), .val (.ref ob25), .val (.ref bq32), .unset, .unset, .unset, .unset, .unset, .unset] [(.int (1 : Int32)), (.int (1 : Int32))])
    have hc239 : (1 : Int32) = (1 : Int32) := by decide
    refine own_go (fun _ => XS.icmpNo X32.here hx rfl (hb hby at_239) rfl (teq hc239).2) ?_
    show GG _ _ _ _ _ _ _ T32 (mkF m 242 #[.val (.int p0), .val (.long q1), .second, .val (.long q2), .second, .val (.long q3), .second, .val (.int p4), .val (.int p5), .val (.int (1 : Int32)), .val (.ref ob3), .val (.int x7), .val (.int x8), .val (.int x9), .val (.int x10), .val (.int x11), .val (.int x12), .val (.ref ob13), .val (.ref ob17), .val (.ref ob21), .val (.ref ob25), .val (.ref bq32), .unset, .unset, .unset, .unset, .unset, .unset] [])
    refine own_go (fun _ => XS.lloadN X32.here hx rfl (hb hby at_242) rfl) ?_
    show GG _ _ _ _ _ _ _ T32 (mkF m 243 #[.val (.int p0), .val (.long q1), .second, .val (.long q2), .second, .val (.long q3), .second, .val (.int p4), .val (.int p5), .val (.int (1 : Int32)), .val (.ref ob3), .val (.int x7), .val (.int x8), .val (.int x9), .val (.int x10), .val (.int x11), .val (.int x12), .val (.ref ob13), .val (.ref ob17), .val (.ref ob21), .val (.ref ob25), .val (.ref bq32), .unset, .unset, .unset, .unset, .unset, .unset] [(.long q2)])
    refine own_go (fun _ => XS.lstore X32.here hx rfl (hb hby at_243) rfl (l' := #[.val (.int p0), .val (.long q1), .second, .val (.long q2), .second, .val (.long q3), .second, .val (.int p4), .val (.int p5), .val (.int (1 : Int32)), .val (.ref ob3), .val (.int x7), .val (.int x8), .val (.int x9), .val (.int x10), .val (.int x11), .val (.int x12), .val (.ref ob13), .val (.ref ob17), .val (.ref ob21), .val (.ref ob25), .val (.ref bq32), .val (.long q2), .second, .unset, .unset, .unset, .unset]) rfl) ?_
    show GG _ _ _ _ _ _ _ T32 (mkF m 245 #[.val (.int p0), .val (.long q1), .second, .val (.long q2), .second, .val (.long q3), .second, .val (.int p4), .val (.int p5), .val (.int (1 : Int32)), .val (.ref ob3), .val (.int x7), .val (.int x8), .val (.int x9), .val (.int x10), .val (.int x11), .val (.int x12), .val (.ref ob13), .val (.ref ob17), .val (.ref ob21), .val (.ref ob25), .val (.ref bq32), .val (.long q2), .second, .unset, .unset, .unset, .unset] [])
    refine own_go (fun _ => XS.iload X32.here hx rfl (hb hby at_245) rfl) ?_
    show GG _ _ _ _ _ _ _ T32 (mkF m 247 #[.val (.int p0), .val (.long q1), .second, .val (.long q2), .second, .val (.long q3), .second, .val (.int p4), .val (.int p5), .val (.int (1 : Int32)), .val (.ref ob3), .val (.int x7), .val (.int x8), .val (.int x9), .val (.int x10), .val (.int x11), .val (.int x12), .val (.ref ob13), .val (.ref ob17), .val (.ref ob21), .val (.ref ob25), .val (.ref bq32), .val (.long q2), .second, .unset, .unset, .unset, .unset] [(.int x8)])
    refine own_go (fun _ => XS.i2dS X32.here hx rfl (hb hby at_247) rfl rfl) ?_
    show GG _ _ _ _ _ _ _ T32 (mkF m 248 #[.val (.int p0), .val (.long q1), .second, .val (.long q2), .second, .val (.long q3), .second, .val (.int p4), .val (.int p5), .val (.int (1 : Int32)), .val (.ref ob3), .val (.int x7), .val (.int x8), .val (.int x9), .val (.int x10), .val (.int x11), .val (.int x12), .val (.ref ob13), .val (.ref ob17), .val (.ref ob21), .val (.ref ob25), .val (.ref bq32), .val (.long q2), .second, .unset, .unset, .unset, .unset] [(.double (FP.i2d x8))])
    refine own_go (fun _ => XS.dstore X32.here hx rfl (hb hby at_248) rfl (l' := #[.val (.int p0), .val (.long q1), .second, .val (.long q2), .second, .val (.long q3), .second, .val (.int p4), .val (.int p5), .val (.int (1 : Int32)), .val (.ref ob3), .val (.int x7), .val (.int x8), .val (.int x9), .val (.int x10), .val (.int x11), .val (.int x12), .val (.ref ob13), .val (.ref ob17), .val (.ref ob21), .val (.ref ob25), .val (.ref bq32), .val (.long q2), .second, .val (.double (FP.i2d x8)), .second, .unset, .unset]) rfl) ?_
    show GG _ _ _ _ _ _ _ T32 (mkF m 250 #[.val (.int p0), .val (.long q1), .second, .val (.long q2), .second, .val (.long q3), .second, .val (.int p4), .val (.int p5), .val (.int (1 : Int32)), .val (.ref ob3), .val (.int x7), .val (.int x8), .val (.int x9), .val (.int x10), .val (.int x11), .val (.int x12), .val (.ref ob13), .val (.ref ob17), .val (.ref ob21), .val (.ref ob25), .val (.ref bq32), .val (.long q2), .second, .val (.double (FP.i2d x8)), .second, .unset, .unset] [])
    refine own_go (fun _ => XS.iload X32.here hx rfl (hb hby at_250) rfl) ?_
    show GG _ _ _ _ _ _ _ T32 (mkF m 252 #[.val (.int p0), .val (.long q1), .second, .val (.long q2), .second, .val (.long q3), .second, .val (.int p4), .val (.int p5), .val (.int (1 : Int32)), .val (.ref ob3), .val (.int x7), .val (.int x8), .val (.int x9), .val (.int x10), .val (.int x11), .val (.int x12), .val (.ref ob13), .val (.ref ob17), .val (.ref ob21), .val (.ref ob25), .val (.ref bq32), .val (.long q2), .second, .val (.double (FP.i2d x8)), .second, .unset, .unset] [(.int x11)])
    refine own_go (fun _ => XS.i2dS X32.here hx rfl (hb hby at_252) rfl rfl) ?_
    show GG _ _ _ _ _ _ _ T32 (mkF m 253 #[.val (.int p0), .val (.long q1), .second, .val (.long q2), .second, .val (.long q3), .second, .val (.int p4), .val (.int p5), .val (.int (1 : Int32)), .val (.ref ob3), .val (.int x7), .val (.int x8), .val (.int x9), .val (.int x10), .val (.int x11), .val (.int x12), .val (.ref ob13), .val (.ref ob17), .val (.ref ob21), .val (.ref ob25), .val (.ref bq32), .val (.long q2), .second, .val (.double (FP.i2d x8)), .second, .unset, .unset] [(.double (FP.i2d x11))])
    refine own_go (fun _ => XS.dstore X32.here hx rfl (hb hby at_253) rfl (l' := #[.val (.int p0), .val (.long q1), .second, .val (.long q2), .second, .val (.long q3), .second, .val (.int p4), .val (.int p5), .val (.int (1 : Int32)), .val (.ref ob3), .val (.int x7), .val (.int x8), .val (.int x9), .val (.int x10), .val (.int x11), .val (.int x12), .val (.ref ob13), .val (.ref ob17), .val (.ref ob21), .val (.ref ob25), .val (.ref bq32), .val (.long q2), .second, .val (.double (FP.i2d x8)), .second, .val (.double (FP.i2d x11)), .second]) rfl) ?_
    show GG _ _ _ _ _ _ _ T32 (mkF m 255 #[.val (.int p0), .val (.long q1), .second, .val (.long q2), .second, .val (.long q3), .second, .val (.int p4), .val (.int p5), .val (.int (1 : Int32)), .val (.ref ob3), .val (.int x7), .val (.int x8), .val (.int x9), .val (.int x10), .val (.int x11), .val (.int x12), .val (.ref ob13), .val (.ref ob17), .val (.ref ob21), .val (.ref ob25), .val (.ref bq32), .val (.long q2), .second, .val (.double (FP.i2d x8)), .second, .val (.double (FP.i2d x11)), .second] [])
    refine own_go (fun _ => XS.goto X32.here hx rfl (pc0 := 255) (pc' := 272) rfl (hb hby at_255) (by decide) (by decide)) ?_
    show GG _ _ _ _ _ _ _ T32 (mkF m 272 #[.val (.int p0), .val (.long q1), .second, .val (.long q2), .second, .val (.long q3), .second, .val (.int p4), .val (.int p5), .val (.int (1 : Int32)), .val (.ref ob3), .val (.int x7), .val (.int x8), .val (.int x9), .val (.int x10), .val (.int x11), .val (.int x12), .val (.ref ob13), .val (.ref ob17), .val (.ref ob21), .val (.ref ob25), .val (.ref bq32), .val (.long q2), .second, .val (.double (FP.i2d x8)), .second, .val (.double (FP.i2d x11)), .second] [])
    refine own_go (fun _ => XS.aload X32.here hx rfl (hb hby at_272) rfl rfl) ?_
    show GG _ _ _ _ _ _ _ T32 (mkF m 274 #[.val (.int p0), .val (.long q1), .second, .val (.long q2), .second, .val (.long q3), .second, .val (.int p4), .val (.int p5), .val (.int (1 : Int32)), .val (.ref ob3), .val (.int x7), .val (.int x8), .val (.int x9), .val (.int x10), .val (.int x11), .val (.int x12), .val (.ref ob13), .val (.ref ob17), .val (.ref ob21), .val (.ref ob25), .val (.ref bq32), .val (.long q2), .second, .val (.double (FP.i2d x8)), .second, .val (.double (FP.i2d x11)), .second] [(.ref bq32)])
    refine own_callV X32 hx hZ (y := (⟨"com/example/deft_shards/deftshards/index/WeightStatistics", "documentFrequency", "()J"⟩ : MethodName)) (z := (⟨"com/example/deft_shards/deftshards/index/WeightStatistics", "documentFrequency", "()J"⟩ : MethodName)) 0 hown (hw _ (List.mem_of_getElem? (i := 45) rfl)) (hw _ (List.mem_of_getElem? (i := 46) rfl)) (notFace_of_selects (args := #[]) (mvT hZ (hw _ (List.mem_of_getElem? (i := 48) rfl)))) (hw _ (List.mem_of_getElem? (i := 48) rfl)) (hw _ (List.mem_of_getElem? (i := 47) rfl)) (hw _ (List.mem_of_getElem? (i := 8) rfl)) (hw _ (List.mem_of_getElem? (i := 49) rfl)) (by decide) (a := bq32) (argsL := []) (rest := []) (rm5 l Z a0 hw [] bq32 q2 T32.heap n0 (Nat.le_trans Z0 K0.1) Fd32) (by decide) (by decide) (by decide) (by decide) Eq32 (g := (mkF m 274 #[.val (.int p0), .val (.long q1), .second, .val (.long q2), .second, .val (.long q3), .second, .val (.int p4), .val (.int p5), .val (.int (1 : Int32)), .val (.ref ob3), .val (.int x7), .val (.int x8), .val (.int x9), .val (.int x10), .val (.int x11), .val (.int x12), .val (.ref ob13), .val (.ref ob17), .val (.ref ob21), .val (.ref ob25), .val (.ref bq32), .val (.long q2), .second, .val (.double (FP.i2d x8)), .second, .val (.double (FP.i2d x11)), .second] [(.ref bq32)])) rfl (by rw [hml]; rfl) (lenOf pd___J_155 rfl) rfl (by show 2 * 0 + _ ≤ _; exact Nat.le_of_eq rfl) (hb hby at_274) rfl ?_
    rintro v33 T33 L33 X33 ⟨rfl, N33q, hh33⟩
    have N33 := Fr.app N32 N33q
    show GG _ _ _ _ _ _ _ T33 (mkF m 277 #[.val (.int p0), .val (.long q1), .second, .val (.long q2), .second, .val (.long q3), .second, .val (.int p4), .val (.int p5), .val (.int (1 : Int32)), .val (.ref ob3), .val (.int x7), .val (.int x8), .val (.int x9), .val (.int x10), .val (.int x11), .val (.int x12), .val (.ref ob13), .val (.ref ob17), .val (.ref ob21), .val (.ref ob25), .val (.ref bq32), .val (.long q2), .second, .val (.double (FP.i2d x8)), .second, .val (.double (FP.i2d x11)), .second] [(.long q2)])
    refine own_go (fun _ => XS.lload X33.here hx rfl (hb hby at_277) rfl) ?_
    show GG _ _ _ _ _ _ _ T33 (mkF m 279 #[.val (.int p0), .val (.long q1), .second, .val (.long q2), .second, .val (.long q3), .second, .val (.int p4), .val (.int p5), .val (.int (1 : Int32)), .val (.ref ob3), .val (.int x7), .val (.int x8), .val (.int x9), .val (.int x10), .val (.int x11), .val (.int x12), .val (.ref ob13), .val (.ref ob17), .val (.ref ob21), .val (.ref ob25), .val (.ref bq32), .val (.long q2), .second, .val (.double (FP.i2d x8)), .second, .val (.double (FP.i2d x11)), .second] [(.long q2), (.long q2)])
    refine own_go (fun _ => XS.lcmp X33.here hx rfl (hb hby at_279) rfl) ?_
    show GG _ _ _ _ _ _ _ T33 (mkF m 280 #[.val (.int p0), .val (.long q1), .second, .val (.long q2), .second, .val (.long q3), .second, .val (.int p4), .val (.int p5), .val (.int (1 : Int32)), .val (.ref ob3), .val (.int x7), .val (.int x8), .val (.int x9), .val (.int x10), .val (.int x11), .val (.int x12), .val (.ref ob13), .val (.ref ob17), .val (.ref ob21), .val (.ref ob25), .val (.ref bq32), .val (.long q2), .second, .val (.double (FP.i2d x8)), .second, .val (.double (FP.i2d x11)), .second] [(.int (lcmpW q2 q2))])
    have hc280 : q2 = q2 := rfl
    refine own_go (fun _ => XS.ifNo X33.here hx rfl (hb hby at_280) rfl ((if0 _ _).trans (teq ((lw_eq _ _).mpr hc280)).2)) ?_
    show GG _ _ _ _ _ _ _ T33 (mkF m 283 #[.val (.int p0), .val (.long q1), .second, .val (.long q2), .second, .val (.long q3), .second, .val (.int p4), .val (.int p5), .val (.int (1 : Int32)), .val (.ref ob3), .val (.int x7), .val (.int x8), .val (.int x9), .val (.int x10), .val (.int x11), .val (.int x12), .val (.ref ob13), .val (.ref ob17), .val (.ref ob21), .val (.ref ob25), .val (.ref bq32), .val (.long q2), .second, .val (.double (FP.i2d x8)), .second, .val (.double (FP.i2d x11)), .second] [])
    refine own_go (fun _ => XS.aload X33.here hx rfl (hb hby at_283) rfl rfl) ?_
    show GG _ _ _ _ _ _ _ T33 (mkF m 285 #[.val (.int p0), .val (.long q1), .second, .val (.long q2), .second, .val (.long q3), .second, .val (.int p4), .val (.int p5), .val (.int (1 : Int32)), .val (.ref ob3), .val (.int x7), .val (.int x8), .val (.int x9), .val (.int x10), .val (.int x11), .val (.int x12), .val (.ref ob13), .val (.ref ob17), .val (.ref ob21), .val (.ref ob25), .val (.ref bq32), .val (.long q2), .second, .val (.double (FP.i2d x8)), .second, .val (.double (FP.i2d x11)), .second] [(.ref bq32)])
    refine own_callV X33 hx hZ (y := (⟨"com/example/deft_shards/deftshards/index/WeightStatistics", "mean", "()D"⟩ : MethodName)) (z := (⟨"com/example/deft_shards/deftshards/index/WeightStatistics", "mean", "()D"⟩ : MethodName)) 0 hown (hw _ (List.mem_of_getElem? (i := 50) rfl)) (hw _ (List.mem_of_getElem? (i := 51) rfl)) (notFace_of_selects (args := #[]) (mvT hZ (hw _ (List.mem_of_getElem? (i := 53) rfl)))) (hw _ (List.mem_of_getElem? (i := 53) rfl)) (hw _ (List.mem_of_getElem? (i := 52) rfl)) (hw _ (List.mem_of_getElem? (i := 8) rfl)) (hw _ (List.mem_of_getElem? (i := 54) rfl)) (by decide) (a := bq32) (argsL := []) (rest := []) (rm6 l Z a0 hw [] bq32 (FP.i2d x8) T32.heap n0 (Nat.le_trans Z0 K0.1) Fm32) (by decide) (by decide) (by decide) (by decide) Eq32 (g := (mkF m 285 #[.val (.int p0), .val (.long q1), .second, .val (.long q2), .second, .val (.long q3), .second, .val (.int p4), .val (.int p5), .val (.int (1 : Int32)), .val (.ref ob3), .val (.int x7), .val (.int x8), .val (.int x9), .val (.int x10), .val (.int x11), .val (.int x12), .val (.ref ob13), .val (.ref ob17), .val (.ref ob21), .val (.ref ob25), .val (.ref bq32), .val (.long q2), .second, .val (.double (FP.i2d x8)), .second, .val (.double (FP.i2d x11)), .second] [(.ref bq32)])) rfl (by rw [hml]; rfl) (lenOf pd___D_149 rfl) rfl (by show 2 * 0 + _ ≤ _; exact Nat.le_of_eq rfl) (hb hby at_285) hh33 ?_
    rintro v34 T34 L34 X34 ⟨rfl, N34q, hh34⟩
    have N34 := Fr.app N33 N34q
    show GG _ _ _ _ _ _ _ T34 (mkF m 288 #[.val (.int p0), .val (.long q1), .second, .val (.long q2), .second, .val (.long q3), .second, .val (.int p4), .val (.int p5), .val (.int (1 : Int32)), .val (.ref ob3), .val (.int x7), .val (.int x8), .val (.int x9), .val (.int x10), .val (.int x11), .val (.int x12), .val (.ref ob13), .val (.ref ob17), .val (.ref ob21), .val (.ref ob25), .val (.ref bq32), .val (.long q2), .second, .val (.double (FP.i2d x8)), .second, .val (.double (FP.i2d x11)), .second] [(.double (FP.i2d x8))])
    refine own_go (fun _ => XS.dload X34.here hx rfl (hb hby at_288) rfl) ?_
    show GG _ _ _ _ _ _ _ T34 (mkF m 290 #[.val (.int p0), .val (.long q1), .second, .val (.long q2), .second, .val (.long q3), .second, .val (.int p4), .val (.int p5), .val (.int (1 : Int32)), .val (.ref ob3), .val (.int x7), .val (.int x8), .val (.int x9), .val (.int x10), .val (.int x11), .val (.int x12), .val (.ref ob13), .val (.ref ob17), .val (.ref ob21), .val (.ref ob25), .val (.ref bq32), .val (.long q2), .second, .val (.double (FP.i2d x8)), .second, .val (.double (FP.i2d x11)), .second] [(.double (FP.i2d x8)), (.double (FP.i2d x8))])
    refine own_go (fun _ => XS.dcmpS X34.here hx rfl (hb hby at_290) rfl (dcmpV_self (own_i2dn _) _)) ?_
    show GG _ _ _ _ _ _ _ T34 (mkF m 291 #[.val (.int p0), .val (.long q1), .second, .val (.long q2), .second, .val (.long q3), .second, .val (.int p4), .val (.int p5), .val (.int (1 : Int32)), .val (.ref ob3), .val (.int x7), .val (.int x8), .val (.int x9), .val (.int x10), .val (.int x11), .val (.int x12), .val (.ref ob13), .val (.ref ob17), .val (.ref ob21), .val (.ref ob25), .val (.ref bq32), .val (.long q2), .second, .val (.double (FP.i2d x8)), .second, .val (.double (FP.i2d x11)), .second] [(.int (0 : Int32))])
    have hc291 : (0 : Int32) = (0 : Int32) := by decide
    refine own_go (fun _ => XS.ifNo X34.here hx rfl (hb hby at_291) rfl ((if0 _ _).trans (teq hc291).2)) ?_
    show GG _ _ _ _ _ _ _ T34 (mkF m 294 #[.val (.int p0), .val (.long q1), .second, .val (.long q2), .second, .val (.long q3), .second, .val (.int p4), .val (.int p5), .val (.int (1 : Int32)), .val (.ref ob3), .val (.int x7), .val (.int x8), .val (.int x9), .val (.int x10), .val (.int x11), .val (.int x12), .val (.ref ob13), .val (.ref ob17), .val (.ref ob21), .val (.ref ob25), .val (.ref bq32), .val (.long q2), .second, .val (.double (FP.i2d x8)), .second, .val (.double (FP.i2d x11)), .second] [])
    refine own_go (fun _ => XS.aload X34.here hx rfl (hb hby at_294) rfl rfl) ?_
    show GG _ _ _ _ _ _ _ T34 (mkF m 296 #[.val (.int p0), .val (.long q1), .second, .val (.long q2), .second, .val (.long q3), .second, .val (.int p4), .val (.int p5), .val (.int (1 : Int32)), .val (.ref ob3), .val (.int x7), .val (.int x8), .val (.int x9), .val (.int x10), .val (.int x11), .val (.int x12), .val (.ref ob13), .val (.ref ob17), .val (.ref ob21), .val (.ref ob25), .val (.ref bq32), .val (.long q2), .second, .val (.double (FP.i2d x8)), .second, .val (.double (FP.i2d x11)), .second] [(.ref bq32)])
    refine own_callV X34 hx hZ (y := (⟨"com/example/deft_shards/deftshards/index/WeightStatistics", "variance", "()D"⟩ : MethodName)) (z := (⟨"com/example/deft_shards/deftshards/index/WeightStatistics", "variance", "()D"⟩ : MethodName)) 0 hown (hw _ (List.mem_of_getElem? (i := 55) rfl)) (hw _ (List.mem_of_getElem? (i := 56) rfl)) (notFace_of_selects (args := #[]) (mvT hZ (hw _ (List.mem_of_getElem? (i := 58) rfl)))) (hw _ (List.mem_of_getElem? (i := 58) rfl)) (hw _ (List.mem_of_getElem? (i := 57) rfl)) (hw _ (List.mem_of_getElem? (i := 8) rfl)) (hw _ (List.mem_of_getElem? (i := 59) rfl)) (by decide) (a := bq32) (argsL := []) (rest := []) (rm7 l Z a0 hw [] bq32 (FP.i2d x11) T32.heap n0 (Nat.le_trans Z0 K0.1) Fv32) (by decide) (by decide) (by decide) (by decide) Eq32 (g := (mkF m 296 #[.val (.int p0), .val (.long q1), .second, .val (.long q2), .second, .val (.long q3), .second, .val (.int p4), .val (.int p5), .val (.int (1 : Int32)), .val (.ref ob3), .val (.int x7), .val (.int x8), .val (.int x9), .val (.int x10), .val (.int x11), .val (.int x12), .val (.ref ob13), .val (.ref ob17), .val (.ref ob21), .val (.ref ob25), .val (.ref bq32), .val (.long q2), .second, .val (.double (FP.i2d x8)), .second, .val (.double (FP.i2d x11)), .second] [(.ref bq32)])) rfl (by rw [hml]; rfl) (lenOf pd___D_149 rfl) rfl (by show 2 * 0 + _ ≤ _; exact Nat.le_of_eq rfl) (hb hby at_296) hh34 ?_
    rintro v35 T35 L35 X35 ⟨rfl, N35q, hh35⟩
    have N35 := Fr.app N34 N35q
    show GG _ _ _ _ _ _ _ T35 (mkF m 299 #[.val (.int p0), .val (.long q1), .second, .val (.long q2), .second, .val (.long q3), .second, .val (.int p4), .val (.int p5), .val (.int (1 : Int32)), .val (.ref ob3), .val (.int x7), .val (.int x8), .val (.int x9), .val (.int x10), .val (.int x11), .val (.int x12), .val (.ref ob13), .val (.ref ob17), .val (.ref ob21), .val (.ref ob25), .val (.ref bq32), .val (.long q2), .second, .val (.double (FP.i2d x8)), .second, .val (.double (FP.i2d x11)), .second] [(.double (FP.i2d x11))])
    refine own_go (fun _ => XS.dload X35.here hx rfl (hb hby at_299) rfl) ?_
    show GG _ _ _ _ _ _ _ T35 (mkF m 301 #[.val (.int p0), .val (.long q1), .second, .val (.long q2), .second, .val (.long q3), .second, .val (.int p4), .val (.int p5), .val (.int (1 : Int32)), .val (.ref ob3), .val (.int x7), .val (.int x8), .val (.int x9), .val (.int x10), .val (.int x11), .val (.int x12), .val (.ref ob13), .val (.ref ob17), .val (.ref ob21), .val (.ref ob25), .val (.ref bq32), .val (.long q2), .second, .val (.double (FP.i2d x8)), .second, .val (.double (FP.i2d x11)), .second] [(.double (FP.i2d x11)), (.double (FP.i2d x11))])
    refine own_go (fun _ => XS.dcmpS X35.here hx rfl (hb hby at_301) rfl (dcmpV_self (own_i2dn _) _)) ?_
    show GG _ _ _ _ _ _ _ T35 (mkF m 302 #[.val (.int p0), .val (.long q1), .second, .val (.long q2), .second, .val (.long q3), .second, .val (.int p4), .val (.int p5), .val (.int (1 : Int32)), .val (.ref ob3), .val (.int x7), .val (.int x8), .val (.int x9), .val (.int x10), .val (.int x11), .val (.int x12), .val (.ref ob13), .val (.ref ob17), .val (.ref ob21), .val (.ref ob25), .val (.ref bq32), .val (.long q2), .second, .val (.double (FP.i2d x8)), .second, .val (.double (FP.i2d x11)), .second] [(.int (0 : Int32))])
    have hc302 : (0 : Int32) = (0 : Int32) := by decide
    refine own_go (fun _ => XS.ifNo X35.here hx rfl (hb hby at_302) rfl ((if0 _ _).trans (teq hc302).2)) ?_
    show GG _ _ _ _ _ _ _ T35 (mkF m 305 #[.val (.int p0), .val (.long q1), .second, .val (.long q2), .second, .val (.long q3), .second, .val (.int p4), .val (.int p5), .val (.int (1 : Int32)), .val (.ref ob3), .val (.int x7), .val (.int x8), .val (.int x9), .val (.int x10), .val (.int x11), .val (.int x12), .val (.ref ob13), .val (.ref ob17), .val (.ref ob21), .val (.ref ob25), .val (.ref bq32), .val (.long q2), .second, .val (.double (FP.i2d x8)), .second, .val (.double (FP.i2d x11)), .second] [])
    refine own_go (fun _ => XS.iconst X35.here hx rfl (hb hby at_305)) ?_
    show GG _ _ _ _ _ _ _ T35 (mkF m 306 #[.val (.int p0), .val (.long q1), .second, .val (.long q2), .second, .val (.long q3), .second, .val (.int p4), .val (.int p5), .val (.int (1 : Int32)), .val (.ref ob3), .val (.int x7), .val (.int x8), .val (.int x9), .val (.int x10), .val (.int x11), .val (.int x12), .val (.ref ob13), .val (.ref ob17), .val (.ref ob21), .val (.ref ob25), .val (.ref bq32), .val (.long q2), .second, .val (.double (FP.i2d x8)), .second, .val (.double (FP.i2d x11)), .second] [(.int (1 : Int32))])
    refine own_go (fun _ => XS.goto X35.here hx rfl (pc0 := 306) (pc' := 310) rfl (hb hby at_306) (by decide) (by decide)) ?_
    show GG _ _ _ _ _ _ _ T35 (mkF m 310 #[.val (.int p0), .val (.long q1), .second, .val (.long q2), .second, .val (.long q3), .second, .val (.int p4), .val (.int p5), .val (.int (1 : Int32)), .val (.ref ob3), .val (.int x7), .val (.int x8), .val (.int x9), .val (.int x10), .val (.int x11), .val (.int x12), .val (.ref ob13), .val (.ref ob17), .val (.ref ob21), .val (.ref ob25), .val (.ref bq32), .val (.long q2), .second, .val (.double (FP.i2d x8)), .second, .val (.double (FP.i2d x11)), .second] [(.int (1 : Int32))])
    refine own_ret X35 hx hlk (t := .boolean) (w := (.int (1 : Int32))) Bd.returns rfl (Or.inl ⟨rfl, by simp, _, rfl⟩) (hb hby at_310) (by decide) (by decide) ?_
    show Q0 Z p0 q1 q2 q3 p4 p5 wN h0 n0 (some (.int (1 : Int32))) T35.heap _
    rw [hh35]
    exact ⟨rfl, N35⟩
  · skip
    subst hsel
    show GG _ _ _ _ _ _ _ T27 (mkF m 206 #[.val (.int p0), .val (.long q1), .second, .val (.long q2), .second, .val (.long q3), .second, .val (.int p4), .val (.int p5), .val (.int (2 : Int32)), .val (.ref ob3), .val (.int x7), .val (.int x8), .val (.int x9), .val (.int x10), .val (.int x11), .val (.int x12), .val (.ref ob13), .val (.ref ob17), .val (.ref ob21), .val (.ref ob25), .unset, .unset, .unset, .unset, .unset, .unset, .unset] [])
    refine own_go (fun _ => XS.aload X27.here hx rfl (hb hby at_206) rfl rfl) ?_
    show GG _ _ _ _ _ _ _ T27 (mkF m 208 #[.val (.int p0), .val (.long q1), .second, .val (.long q2), .second, .val (.long q3), .second, .val (.int p4), .val (.int p5), .val (.int (2 : Int32)), .val (.ref ob3), .val (.int x7), .val (.int x8), .val (.int x9), .val (.int x10), .val (.int x11), .val (.int x12), .val (.ref ob13), .val (.ref ob17), .val (.ref ob21), .val (.ref ob25), .unset, .unset, .unset, .unset, .unset, .unset, .unset] [(.ref ob25)])
    refine own_go (fun _ => XS.iload X27.here hx rfl (hb hby at_208) rfl) ?_
    show GG _ _ _ _ _ _ _ T27 (mkF m 210 #[.val (.int p0), .val (.long q1), .second, .val (.long q2), .second, .val (.long q3), .second, .val (.int p4), .val (.int p5), .val (.int (2 : Int32)), .val (.ref ob3), .val (.int x7), .val (.int x8), .val (.int x9), .val (.int x10), .val (.int x11), .val (.int x12), .val (.ref ob13), .val (.ref ob17), .val (.ref ob21), .val (.ref ob25), .unset, .unset, .unset, .unset, .unset, .unset, .unset] [(.int (2 : Int32)), (.ref ob25)])
    refine own_callV X27 hx hZ (y := (⟨"com/example/deft_shards/deftshards/index/TermWeights", "inHolder", "(I)Lcom/example/deft_shards/deftshards/index/WeightStatistics;"⟩ : MethodName)) (z := (⟨"com/example/deft_shards/deftshards/index/TermWeights", "inHolder", "(I)Lcom/example/deft_shards/deftshards/index/WeightStatistics;"⟩ : MethodName)) 0 hown (hw _ (List.mem_of_getElem? (i := 28) rfl)) (hw _ (List.mem_of_getElem? (i := 29) rfl)) (notFace_of_selects (args := #[]) (mvT hZ (hw _ (List.mem_of_getElem? (i := 31) rfl)))) (hw _ (List.mem_of_getElem? (i := 31) rfl)) (hw _ (List.mem_of_getElem? (i := 30) rfl)) (hw _ (List.mem_of_getElem? (i := 6) rfl)) (hw _ (List.mem_of_getElem? (i := 32) rfl)) (by decide) (a := ob25) (argsL := [(.int (2 : Int32))]) (rest := []) (rm3_2 l Z a0 hw [] ob25 ob3 ob13 ob17 q1 q2 q3 (FP.i2d x7) (FP.i2d x8) (FP.i2d x9) (FP.i2d x10) (FP.i2d x11) (FP.i2d x12) T27.heap n0 (Nat.le_trans Z0 K0.1) Ff27 Fm27 Fv27 V_ob3 V_ob13 V_ob17) (by decide) (by decide) (by decide) (by decide) Eq27 (g := (mkF m 210 #[.val (.int p0), .val (.long q1), .second, .val (.long q2), .second, .val (.long q3), .second, .val (.int p4), .val (.int p5), .val (.int (2 : Int32)), .val (.ref ob3), .val (.int x7), .val (.int x8), .val (.int x9), .val (.int x10), .val (.int x11), .val (.int x12), .val (.ref ob13), .val (.ref ob17), .val (.ref ob21), .val (.ref ob25), .unset, .unset, .unset, .unset, .unset, .unset, .unset] [(.int (2 : Int32)), (.ref ob25)])) rfl (by rw [hml]; rfl) (lenOf pd__I_Lcom_example_deft_shards_deftshards_i_51 rfl) rfl (by show 2 * 0 + _ ≤ _; exact Nat.le_of_eq rfl) (hb hby at_210) rfl ?_
    rintro v36 T36 L36 X36 ⟨bq36, rfl, N36q, szq36, Kq36, Eq36, Fd36, Fm36, Fv36⟩
    have N36 := Fr.app N27 N36q
    have K0 := K0.trans Kq36 all0
    have O0 := O0.keep Kq36 all0
    have V_ob3 := V_ob3.keep Kq36 nin0
    have E_ob3 := E_ob3.keep Kq36
    have V_ob13 := V_ob13.keep Kq36 nin0
    have E_ob13 := E_ob13.keep Kq36
    have V_ob17 := V_ob17.keep Kq36 nin0
    have E_ob17 := E_ob17.keep Kq36
    have V_ob21 := V_ob21.keep Kq36 nin0
    have E_ob21 := E_ob21.keep Kq36
    have Eq27 := Eq27.keep Kq36
    have Ff27 := Ff27.keep Kq36 nin0
    have Fm27 := Fm27.keep Kq36 nin0
    have Fv27 := Fv27.keep Kq36 nin0
    show GG _ _ _ _ _ _ _ T36 (mkF m 213 #[.val (.int p0), .val (.long q1), .second, .val (.long q2), .second, .val (.long q3), .second, .val (.int p4), .val (.int p5), .val (.int (2 : Int32)), .val (.ref ob3), .val (.int x7), .val (.int x8), .val (.int x9), .val (.int x10), .val (.int x11), .val (.int x12), .val (.ref ob13), .val (.ref ob17), .val (.ref ob21), .val (.ref ob25), .unset, .unset, .unset, .unset, .unset, .unset, .unset] [(.ref bq36)])
    refine own_go (fun _ => XS.astore X36.here hx rfl (hb hby at_213) rfl rfl (l' := #[.val (.int p0), .val (.long q1), .second, .val (.long q2), .second, .val (.long q3), .second, .val (.int p4), .val (.int p5), .val (.int (2 : Int32)), .val (.ref ob3), .val (.int x7), .val (.int x8), .val (.int x9), .val (.int x10), .val (.int x11), .val (.int x12), .val (.ref ob13), .val (.ref ob17), .val (.ref ob21), .val (.ref ob25), .val (.ref bq36), .unset, .unset, .unset, .unset, .unset, .unset]) rfl) ?_
    show GG _ _ _ _ _ _ _ T36 (mkF m 215 #[.val (.int p0), .val (.long q1), .second, .val (.long q2), .second, .val (.long q3), .second, .val (.int p4), .val (.int p5), .val (.int (2 : Int32)), .val (.ref ob3), .val (.int x7), .val (.int x8), .val (.int x9), .val (.int x10), .val (.int x11), .val (.int x12), .val (.ref ob13), .val (.ref ob17), .val (.ref ob21), .val (.ref ob25), .val (.ref bq36), .unset, .unset, .unset, .unset, .unset, .unset] [])
    refine own_go (fun _ => XS.iload X36.here hx rfl (hb hby at_215) rfl) ?_
    show GG _ _ _ _ _ _ _ T36 (mkF m 217 #[.val (.int p0), .val (.long q1), .second, .val (.long q2), .second, .val (.long q3), .second, .val (.int p4), .val (.int p5), .val (.int (2 : Int32)), .val (.ref ob3), .val (.int x7), .val (.int x8), .val (.int x9), .val (.int x10), .val (.int x11), .val (.int x12), .val (.ref ob13), .val (.ref ob17), .val (.ref ob21), .val (.ref ob25), .val (.ref bq36), .unset, .unset, .unset, .unset, .unset, .unset] [(.int (2 : Int32))])
    have hc217 : ¬ ((2 : Int32) = (0 : Int32)) := by decide
    refine own_go (fun _ => XS.ifYes X36.here hx rfl (pc0 := 217) (pc' := 236) rfl (hb hby at_217) rfl ((if0 _ _).trans (feq hc217).2) (by decide) (by decide)) ?_
    show GG _ _ _ _ _ _ _ T36 (mkF m 236 #[.val (.int p0), .val (.long q1), .second, .val (.long q2), .second, .val (.long q3), .second, .val (.int p4), .val (.int p5), .val (.int (2 : Int32)), .val (.ref ob3), .val (.int x7), .val (.int x8), .val (.int x9), .val (.int x10), .val (.int x11), .val (.int x12), .val (.ref ob13), .val (.ref ob17), .val (.ref ob21), .val (.ref ob25), .val (.ref bq36), .unset, .unset, .unset, .unset, .unset, .unset] [])
    refine own_go (fun _ => XS.iload X36.here hx rfl (hb hby at_236) rfl) ?_
    show GG _ _ _ _ _ _ _ T36 (mkF m 238 #[.val (.int p0), .val (.long q1), .second, .val (.long q2), .second, .val (.long q3), .second, .val (.int p4), .val (.int p5), .val (.int (2 : Int32)), .val (.ref ob3), .val (.int x7), .val (.int x8), .val (.int x9), .val (.int x10), .val (.int x11), .val (.int x12), .val (.ref ob13), .val (.ref ob17), .val (.ref ob21), .val (.ref ob25), .val (.ref bq36), .unset, .unset, .unset, .unset, .unset, .unset] [(.int (2 : Int32))])
    refine own_go (fun _ => XS.iconst X36.here hx rfl (hb hby at_238)) ?_
    show GG _ _ _ _ _ _ _ T36 (mkF m 239 #[.val (.int p0), .val (.long q1), .second, .val (.long q2), .second, .val (.long q3), .second, .val (.int p4), .val (.int p5), .val (.int (2 : Int32)), .val (.ref ob3), .val (.int x7), .val (.int x8), .val (.int x9), .val (.int x10), .val (.int x11), .val (.int x12), .val (.ref ob13), .val (.ref ob17), .val (.ref ob21), .val (.ref ob25), .val (.ref bq36), .unset, .unset, .unset, .unset, .unset, .unset] [(.int (1 : Int32)), (.int (2 : Int32))])
    have hc239 : ¬ ((2 : Int32) = (1 : Int32)) := by decide
    refine own_go (fun _ => XS.icmpYes X36.here hx rfl (pc0 := 239) (pc' := 258) rfl (hb hby at_239) rfl (feq hc239).2 (by decide) (by decide)) ?_
    show GG _ _ _ _ _ _ _ T36 (mkF m 258 #[.val (.int p0), .val (.long q1), .second, .val (.long q2), .second, .val (.long q3), .second, .val (.int p4), .val (.int p5), .val (.int (2 : Int32)), .val (.ref ob3), .val (.int x7), .val (.int x8), .val (.int x9), .val (.int x10), .val (.int x11), .val (.int x12), .val (.ref ob13), .val (.ref ob17), .val (.ref ob21), .val (.ref ob25), .val (.ref bq36), .unset, .unset, .unset, .unset, .unset, .unset] [])
    refine own_go (fun _ => XS.lload X36.here hx rfl (hb hby at_258) rfl) ?_
    show GG _ _ _ _ _ _ _ T36 (mkF m 260 #[.val (.int p0), .val (.long q1), .second, .val (.long q2), .second, .val (.long q3), .second, .val (.int p4), .val (.int p5), .val (.int (2 : Int32)), .val (.ref ob3), .val (.int x7), .val (.int x8), .val (.int x9), .val (.int x10), .val (.int x11), .val (.int x12), .val (.ref ob13), .val (.ref ob17), .val (.ref ob21), .val (.ref ob25), .val (.ref bq36), .unset, .unset, .unset, .unset, .unset, .unset] [(.long q3)])
    refine own_go (fun _ => XS.lstore X36.here hx rfl (hb hby at_260) rfl (l' := #[.val (.int p0), .val (.long q1), .second, .val (.long q2), .second, .val (.long q3), .second, .val (.int p4), .val (.int p5), .val (.int (2 : Int32)), .val (.ref ob3), .val (.int x7), .val (.int x8), .val (.int x9), .val (.int x10), .val (.int x11), .val (.int x12), .val (.ref ob13), .val (.ref ob17), .val (.ref ob21), .val (.ref ob25), .val (.ref bq36), .val (.long q3), .second, .unset, .unset, .unset, .unset]) rfl) ?_
    show GG _ _ _ _ _ _ _ T36 (mkF m 262 #[.val (.int p0), .val (.long q1), .second, .val (.long q2), .second, .val (.long q3), .second, .val (.int p4), .val (.int p5), .val (.int (2 : Int32)), .val (.ref ob3), .val (.int x7), .val (.int x8), .val (.int x9), .val (.int x10), .val (.int x11), .val (.int x12), .val (.ref ob13), .val (.ref ob17), .val (.ref ob21), .val (.ref ob25), .val (.ref bq36), .val (.long q3), .second, .unset, .unset, .unset, .unset] [])
    refine own_go (fun _ => XS.iload X36.here hx rfl (hb hby at_262) rfl) ?_
    show GG _ _ _ _ _ _ _ T36 (mkF m 264 #[.val (.int p0), .val (.long q1), .second, .val (.long q2), .second, .val (.long q3), .second, .val (.int p4), .val (.int p5), .val (.int (2 : Int32)), .val (.ref ob3), .val (.int x7), .val (.int x8), .val (.int x9), .val (.int x10), .val (.int x11), .val (.int x12), .val (.ref ob13), .val (.ref ob17), .val (.ref ob21), .val (.ref ob25), .val (.ref bq36), .val (.long q3), .second, .unset, .unset, .unset, .unset] [(.int x9)])
    refine own_go (fun _ => XS.i2dS X36.here hx rfl (hb hby at_264) rfl rfl) ?_
    show GG _ _ _ _ _ _ _ T36 (mkF m 265 #[.val (.int p0), .val (.long q1), .second, .val (.long q2), .second, .val (.long q3), .second, .val (.int p4), .val (.int p5), .val (.int (2 : Int32)), .val (.ref ob3), .val (.int x7), .val (.int x8), .val (.int x9), .val (.int x10), .val (.int x11), .val (.int x12), .val (.ref ob13), .val (.ref ob17), .val (.ref ob21), .val (.ref ob25), .val (.ref bq36), .val (.long q3), .second, .unset, .unset, .unset, .unset] [(.double (FP.i2d x9))])
    refine own_go (fun _ => XS.dstore X36.here hx rfl (hb hby at_265) rfl (l' := #[.val (.int p0), .val (.long q1), .second, .val (.long q2), .second, .val (.long q3), .second, .val (.int p4), .val (.int p5), .val (.int (2 : Int32)), .val (.ref ob3), .val (.int x7), .val (.int x8), .val (.int x9), .val (.int x10), .val (.int x11), .val (.int x12), .val (.ref ob13), .val (.ref ob17), .val (.ref ob21), .val (.ref ob25), .val (.ref bq36), .val (.long q3), .second, .val (.double (FP.i2d x9)), .second, .unset, .unset]) rfl) ?_
    show GG _ _ _ _ _ _ _ T36 (mkF m 267 #[.val (.int p0), .val (.long q1), .second, .val (.long q2), .second, .val (.long q3), .second, .val (.int p4), .val (.int p5), .val (.int (2 : Int32)), .val (.ref ob3), .val (.int x7), .val (.int x8), .val (.int x9), .val (.int x10), .val (.int x11), .val (.int x12), .val (.ref ob13), .val (.ref ob17), .val (.ref ob21), .val (.ref ob25), .val (.ref bq36), .val (.long q3), .second, .val (.double (FP.i2d x9)), .second, .unset, .unset] [])
    refine own_go (fun _ => XS.iload X36.here hx rfl (hb hby at_267) rfl) ?_
    show GG _ _ _ _ _ _ _ T36 (mkF m 269 #[.val (.int p0), .val (.long q1), .second, .val (.long q2), .second, .val (.long q3), .second, .val (.int p4), .val (.int p5), .val (.int (2 : Int32)), .val (.ref ob3), .val (.int x7), .val (.int x8), .val (.int x9), .val (.int x10), .val (.int x11), .val (.int x12), .val (.ref ob13), .val (.ref ob17), .val (.ref ob21), .val (.ref ob25), .val (.ref bq36), .val (.long q3), .second, .val (.double (FP.i2d x9)), .second, .unset, .unset] [(.int x12)])
    refine own_go (fun _ => XS.i2dS X36.here hx rfl (hb hby at_269) rfl rfl) ?_
    show GG _ _ _ _ _ _ _ T36 (mkF m 270 #[.val (.int p0), .val (.long q1), .second, .val (.long q2), .second, .val (.long q3), .second, .val (.int p4), .val (.int p5), .val (.int (2 : Int32)), .val (.ref ob3), .val (.int x7), .val (.int x8), .val (.int x9), .val (.int x10), .val (.int x11), .val (.int x12), .val (.ref ob13), .val (.ref ob17), .val (.ref ob21), .val (.ref ob25), .val (.ref bq36), .val (.long q3), .second, .val (.double (FP.i2d x9)), .second, .unset, .unset] [(.double (FP.i2d x12))])
    refine own_go (fun _ => XS.dstore X36.here hx rfl (hb hby at_270) rfl (l' := #[.val (.int p0), .val (.long q1), .second, .val (.long q2), .second, .val (.long q3), .second, .val (.int p4), .val (.int p5), .val (.int (2 : Int32)), .val (.ref ob3), .val (.int x7), .val (.int x8), .val (.int x9), .val (.int x10), .val (.int x11), .val (.int x12), .val (.ref ob13), .val (.ref ob17), .val (.ref ob21), .val (.ref ob25), .val (.ref bq36), .val (.long q3), .second, .val (.double (FP.i2d x9)), .second, .val (.double (FP.i2d x12)), .second]) rfl) ?_
    show GG _ _ _ _ _ _ _ T36 (mkF m 272 #[.val (.int p0), .val (.long q1), .second, .val (.long q2), .second, .val (.long q3), .second, .val (.int p4), .val (.int p5), .val (.int (2 : Int32)), .val (.ref ob3), .val (.int x7), .val (.int x8), .val (.int x9), .val (.int x10), .val (.int x11), .val (.int x12), .val (.ref ob13), .val (.ref ob17), .val (.ref ob21), .val (.ref ob25), .val (.ref bq36), .val (.long q3), .second, .val (.double (FP.i2d x9)), .second, .val (.double (FP.i2d x12)), .second] [])
    refine own_go (fun _ => XS.aload X36.here hx rfl (hb hby at_272) rfl rfl) ?_
    show GG _ _ _ _ _ _ _ T36 (mkF m 274 #[.val (.int p0), .val (.long q1), .second, .val (.long q2), .second, .val (.long q3), .second, .val (.int p4), .val (.int p5), .val (.int (2 : Int32)), .val (.ref ob3), .val (.int x7), .val (.int x8), .val (.int x9), .val (.int x10), .val (.int x11), .val (.int x12), .val (.ref ob13), .val (.ref ob17), .val (.ref ob21), .val (.ref ob25), .val (.ref bq36), .val (.long q3), .second, .val (.double (FP.i2d x9)), .second, .val (.double (FP.i2d x12)), .second] [(.ref bq36)])
    refine own_callV X36 hx hZ (y := (⟨"com/example/deft_shards/deftshards/index/WeightStatistics", "documentFrequency", "()J"⟩ : MethodName)) (z := (⟨"com/example/deft_shards/deftshards/index/WeightStatistics", "documentFrequency", "()J"⟩ : MethodName)) 0 hown (hw _ (List.mem_of_getElem? (i := 45) rfl)) (hw _ (List.mem_of_getElem? (i := 46) rfl)) (notFace_of_selects (args := #[]) (mvT hZ (hw _ (List.mem_of_getElem? (i := 48) rfl)))) (hw _ (List.mem_of_getElem? (i := 48) rfl)) (hw _ (List.mem_of_getElem? (i := 47) rfl)) (hw _ (List.mem_of_getElem? (i := 8) rfl)) (hw _ (List.mem_of_getElem? (i := 49) rfl)) (by decide) (a := bq36) (argsL := []) (rest := []) (rm5 l Z a0 hw [] bq36 q3 T36.heap n0 (Nat.le_trans Z0 K0.1) Fd36) (by decide) (by decide) (by decide) (by decide) Eq36 (g := (mkF m 274 #[.val (.int p0), .val (.long q1), .second, .val (.long q2), .second, .val (.long q3), .second, .val (.int p4), .val (.int p5), .val (.int (2 : Int32)), .val (.ref ob3), .val (.int x7), .val (.int x8), .val (.int x9), .val (.int x10), .val (.int x11), .val (.int x12), .val (.ref ob13), .val (.ref ob17), .val (.ref ob21), .val (.ref ob25), .val (.ref bq36), .val (.long q3), .second, .val (.double (FP.i2d x9)), .second, .val (.double (FP.i2d x12)), .second] [(.ref bq36)])) rfl (by rw [hml]; rfl) (lenOf pd___J_155 rfl) rfl (by show 2 * 0 + _ ≤ _; exact Nat.le_of_eq rfl) (hb hby at_274) rfl ?_
    rintro v37 T37 L37 X37 ⟨rfl, N37q, hh37⟩
    have N37 := Fr.app N36 N37q
    show GG _ _ _ _ _ _ _ T37 (mkF m 277 #[.val (.int p0), .val (.long q1), .second, .val (.long q2), .second, .val (.long q3), .second, .val (.int p4), .val (.int p5), .val (.int (2 : Int32)), .val (.ref ob3), .val (.int x7), .val (.int x8), .val (.int x9), .val (.int x10), .val (.int x11), .val (.int x12), .val (.ref ob13), .val (.ref ob17), .val (.ref ob21), .val (.ref ob25), .val (.ref bq36), .val (.long q3), .second, .val (.double (FP.i2d x9)), .second, .val (.double (FP.i2d x12)), .second] [(.long q3)])
    refine own_go (fun _ => XS.lload X37.here hx rfl (hb hby at_277) rfl) ?_
    show GG _ _ _ _ _ _ _ T37 (mkF m 279 #[.val (.int p0), .val (.long q1), .second, .val (.long q2), .second, .val (.long q3), .second, .val (.int p4), .val (.int p5), .val (.int (2 : Int32)), .val (.ref ob3), .val (.int x7), .val (.int x8), .val (.int x9), .val (.int x10), .val (.int x11), .val (.int x12), .val (.ref ob13), .val (.ref ob17), .val (.ref ob21), .val (.ref ob25), .val (.ref bq36), .val (.long q3), .second, .val (.double (FP.i2d x9)), .second, .val (.double (FP.i2d x12)), .second] [(.long q3), (.long q3)])
    refine own_go (fun _ => XS.lcmp X37.here hx rfl (hb hby at_279) rfl) ?_
    show GG _ _ _ _ _ _ _ T37 (mkF m 280 #[.val (.int p0), .val (.long q1), .second, .val (.long q2), .second, .val (.long q3), .second, .val (.int p4), .val (.int p5), .val (.int (2 : Int32)), .val (.ref ob3), .val (.int x7), .val (.int x8), .val (.int x9), .val (.int x10), .val (.int x11), .val (.int x12), .val (.ref ob13), .val (.ref ob17), .val (.ref ob21), .val (.ref ob25), .val (.ref bq36), .val (.long q3), .second, .val (.double (FP.i2d x9)), .second, .val (.double (FP.i2d x12)), .second] [(.int (lcmpW q3 q3))])
    have hc280 : q3 = q3 := rfl
    refine own_go (fun _ => XS.ifNo X37.here hx rfl (hb hby at_280) rfl ((if0 _ _).trans (teq ((lw_eq _ _).mpr hc280)).2)) ?_
    show GG _ _ _ _ _ _ _ T37 (mkF m 283 #[.val (.int p0), .val (.long q1), .second, .val (.long q2), .second, .val (.long q3), .second, .val (.int p4), .val (.int p5), .val (.int (2 : Int32)), .val (.ref ob3), .val (.int x7), .val (.int x8), .val (.int x9), .val (.int x10), .val (.int x11), .val (.int x12), .val (.ref ob13), .val (.ref ob17), .val (.ref ob21), .val (.ref ob25), .val (.ref bq36), .val (.long q3), .second, .val (.double (FP.i2d x9)), .second, .val (.double (FP.i2d x12)), .second] [])
    refine own_go (fun _ => XS.aload X37.here hx rfl (hb hby at_283) rfl rfl) ?_
    show GG _ _ _ _ _ _ _ T37 (mkF m 285 #[.val (.int p0), .val (.long q1), .second, .val (.long q2), .second, .val (.long q3), .second, .val (.int p4), .val (.int p5), .val (.int (2 : Int32)), .val (.ref ob3), .val (.int x7), .val (.int x8), .val (.int x9), .val (.int x10), .val (.int x11), .val (.int x12), .val (.ref ob13), .val (.ref ob17), .val (.ref ob21), .val (.ref ob25), .val (.ref bq36), .val (.long q3), .second, .val (.double (FP.i2d x9)), .second, .val (.double (FP.i2d x12)), .second] [(.ref bq36)])
    refine own_callV X37 hx hZ (y := (⟨"com/example/deft_shards/deftshards/index/WeightStatistics", "mean", "()D"⟩ : MethodName)) (z := (⟨"com/example/deft_shards/deftshards/index/WeightStatistics", "mean", "()D"⟩ : MethodName)) 0 hown (hw _ (List.mem_of_getElem? (i := 50) rfl)) (hw _ (List.mem_of_getElem? (i := 51) rfl)) (notFace_of_selects (args := #[]) (mvT hZ (hw _ (List.mem_of_getElem? (i := 53) rfl)))) (hw _ (List.mem_of_getElem? (i := 53) rfl)) (hw _ (List.mem_of_getElem? (i := 52) rfl)) (hw _ (List.mem_of_getElem? (i := 8) rfl)) (hw _ (List.mem_of_getElem? (i := 54) rfl)) (by decide) (a := bq36) (argsL := []) (rest := []) (rm6 l Z a0 hw [] bq36 (FP.i2d x9) T36.heap n0 (Nat.le_trans Z0 K0.1) Fm36) (by decide) (by decide) (by decide) (by decide) Eq36 (g := (mkF m 285 #[.val (.int p0), .val (.long q1), .second, .val (.long q2), .second, .val (.long q3), .second, .val (.int p4), .val (.int p5), .val (.int (2 : Int32)), .val (.ref ob3), .val (.int x7), .val (.int x8), .val (.int x9), .val (.int x10), .val (.int x11), .val (.int x12), .val (.ref ob13), .val (.ref ob17), .val (.ref ob21), .val (.ref ob25), .val (.ref bq36), .val (.long q3), .second, .val (.double (FP.i2d x9)), .second, .val (.double (FP.i2d x12)), .second] [(.ref bq36)])) rfl (by rw [hml]; rfl) (lenOf pd___D_149 rfl) rfl (by show 2 * 0 + _ ≤ _; exact Nat.le_of_eq rfl) (hb hby at_285) hh37 ?_
    rintro v38 T38 L38 X38 ⟨rfl, N38q, hh38⟩
    have N38 := Fr.app N37 N38q
    show GG _ _ _ _ _ _ _ T38 (mkF m 288 #[.val (.int p0), .val (.long q1), .second, .val (.long q2), .second, .val (.long q3), .second, .val (.int p4), .val (.int p5), .val (.int (2 : Int32)), .val (.ref ob3), .val (.int x7), .val (.int x8), .val (.int x9), .val (.int x10), .val (.int x11), .val (.int x12), .val (.ref ob13), .val (.ref ob17), .val (.ref ob21), .val (.ref ob25), .val (.ref bq36), .val (.long q3), .second, .val (.double (FP.i2d x9)), .second, .val (.double (FP.i2d x12)), .second] [(.double (FP.i2d x9))])
    refine own_go (fun _ => XS.dload X38.here hx rfl (hb hby at_288) rfl) ?_
    show GG _ _ _ _ _ _ _ T38 (mkF m 290 #[.val (.int p0), .val (.long q1), .second, .val (.long q2), .second, .val (.long q3), .second, .val (.int p4), .val (.int p5), .val (.int (2 : Int32)), .val (.ref ob3), .val (.int x7), .val (.int x8), .val (.int x9), .val (.int x10), .val (.int x11), .val (.int x12), .val (.ref ob13), .val (.ref ob17), .val (.ref ob21), .val (.ref ob25), .val (.ref bq36), .val (.long q3), .second, .val (.double (FP.i2d x9)), .second, .val (.double (FP.i2d x12)), .second] [(.double (FP.i2d x9)), (.double (FP.i2d x9))])
    refine own_go (fun _ => XS.dcmpS X38.here hx rfl (hb hby at_290) rfl (dcmpV_self (own_i2dn _) _)) ?_
    show GG _ _ _ _ _ _ _ T38 (mkF m 291 #[.val (.int p0), .val (.long q1), .second, .val (.long q2), .second, .val (.long q3), .second, .val (.int p4), .val (.int p5), .val (.int (2 : Int32)), .val (.ref ob3), .val (.int x7), .val (.int x8), .val (.int x9), .val (.int x10), .val (.int x11), .val (.int x12), .val (.ref ob13), .val (.ref ob17), .val (.ref ob21), .val (.ref ob25), .val (.ref bq36), .val (.long q3), .second, .val (.double (FP.i2d x9)), .second, .val (.double (FP.i2d x12)), .second] [(.int (0 : Int32))])
    have hc291 : (0 : Int32) = (0 : Int32) := by decide
    refine own_go (fun _ => XS.ifNo X38.here hx rfl (hb hby at_291) rfl ((if0 _ _).trans (teq hc291).2)) ?_
    show GG _ _ _ _ _ _ _ T38 (mkF m 294 #[.val (.int p0), .val (.long q1), .second, .val (.long q2), .second, .val (.long q3), .second, .val (.int p4), .val (.int p5), .val (.int (2 : Int32)), .val (.ref ob3), .val (.int x7), .val (.int x8), .val (.int x9), .val (.int x10), .val (.int x11), .val (.int x12), .val (.ref ob13), .val (.ref ob17), .val (.ref ob21), .val (.ref ob25), .val (.ref bq36), .val (.long q3), .second, .val (.double (FP.i2d x9)), .second, .val (.double (FP.i2d x12)), .second] [])
    refine own_go (fun _ => XS.aload X38.here hx rfl (hb hby at_294) rfl rfl) ?_
    show GG _ _ _ _ _ _ _ T38 (mkF m 296 #[.val (.int p0), .val (.long q1), .second, .val (.long q2), .second, .val (.long q3), .second, .val (.int p4), .val (.int p5), .val (.int (2 : Int32)), .val (.ref ob3), .val (.int x7), .val (.int x8), .val (.int x9), .val (.int x10), .val (.int x11), .val (.int x12), .val (.ref ob13), .val (.ref ob17), .val (.ref ob21), .val (.ref ob25), .val (.ref bq36), .val (.long q3), .second, .val (.double (FP.i2d x9)), .second, .val (.double (FP.i2d x12)), .second] [(.ref bq36)])
    refine own_callV X38 hx hZ (y := (⟨"com/example/deft_shards/deftshards/index/WeightStatistics", "variance", "()D"⟩ : MethodName)) (z := (⟨"com/example/deft_shards/deftshards/index/WeightStatistics", "variance", "()D"⟩ : MethodName)) 0 hown (hw _ (List.mem_of_getElem? (i := 55) rfl)) (hw _ (List.mem_of_getElem? (i := 56) rfl)) (notFace_of_selects (args := #[]) (mvT hZ (hw _ (List.mem_of_getElem? (i := 58) rfl)))) (hw _ (List.mem_of_getElem? (i := 58) rfl)) (hw _ (List.mem_of_getElem? (i := 57) rfl)) (hw _ (List.mem_of_getElem? (i := 8) rfl)) (hw _ (List.mem_of_getElem? (i := 59) rfl)) (by decide) (a := bq36) (argsL := []) (rest := []) (rm7 l Z a0 hw [] bq36 (FP.i2d x12) T36.heap n0 (Nat.le_trans Z0 K0.1) Fv36) (by decide) (by decide) (by decide) (by decide) Eq36 (g := (mkF m 296 #[.val (.int p0), .val (.long q1), .second, .val (.long q2), .second, .val (.long q3), .second, .val (.int p4), .val (.int p5), .val (.int (2 : Int32)), .val (.ref ob3), .val (.int x7), .val (.int x8), .val (.int x9), .val (.int x10), .val (.int x11), .val (.int x12), .val (.ref ob13), .val (.ref ob17), .val (.ref ob21), .val (.ref ob25), .val (.ref bq36), .val (.long q3), .second, .val (.double (FP.i2d x9)), .second, .val (.double (FP.i2d x12)), .second] [(.ref bq36)])) rfl (by rw [hml]; rfl) (lenOf pd___D_149 rfl) rfl (by show 2 * 0 + _ ≤ _; exact Nat.le_of_eq rfl) (hb hby at_296) hh38 ?_
    rintro v39 T39 L39 X39 ⟨rfl, N39q, hh39⟩
    have N39 := Fr.app N38 N39q
    show GG _ _ _ _ _ _ _ T39 (mkF m 299 #[.val (.int p0), .val (.long q1), .second, .val (.long q2), .second, .val (.long q3), .second, .val (.int p4), .val (.int p5), .val (.int (2 : Int32)), .val (.ref ob3), .val (.int x7), .val (.int x8), .val (.int x9), .val (.int x10), .val (.int x11), .val (.int x12), .val (.ref ob13), .val (.ref ob17), .val (.ref ob21), .val (.ref ob25), .val (.ref bq36), .val (.long q3), .second, .val (.double (FP.i2d x9)), .second, .val (.double (FP.i2d x12)), .second] [(.double (FP.i2d x12))])
    refine own_go (fun _ => XS.dload X39.here hx rfl (hb hby at_299) rfl) ?_
    show GG _ _ _ _ _ _ _ T39 (mkF m 301 #[.val (.int p0), .val (.long q1), .second, .val (.long q2), .second, .val (.long q3), .second, .val (.int p4), .val (.int p5), .val (.int (2 : Int32)), .val (.ref ob3), .val (.int x7), .val (.int x8), .val (.int x9), .val (.int x10), .val (.int x11), .val (.int x12), .val (.ref ob13), .val (.ref ob17), .val (.ref ob21), .val (.ref ob25), .val (.ref bq36), .val (.long q3), .second, .val (.double (FP.i2d x9)), .second, .val (.double (FP.i2d x12)), .second] [(.double (FP.i2d x12)), (.double (FP.i2d x12))])
    refine own_go (fun _ => XS.dcmpS X39.here hx rfl (hb hby at_301) rfl (dcmpV_self (own_i2dn _) _)) ?_
    show GG _ _ _ _ _ _ _ T39 (mkF m 302 #[.val (.int p0), .val (.long q1), .second, .val (.long q2), .second, .val (.long q3), .second, .val (.int p4), .val (.int p5), .val (.int (2 : Int32)), .val (.ref ob3), .val (.int x7), .val (.int x8), .val (.int x9), .val (.int x10), .val (.int x11), .val (.int x12), .val (.ref ob13), .val (.ref ob17), .val (.ref ob21), .val (.ref ob25), .val (.ref bq36), .val (.long q3), .second, .val (.double (FP.i2d x9)), .second, .val (.double (FP.i2d x12)), .second] [(.int (0 : Int32))])
    have hc302 : (0 : Int32) = (0 : Int32) := by decide
    refine own_go (fun _ => XS.ifNo X39.here hx rfl (hb hby at_302) rfl ((if0 _ _).trans (teq hc302).2)) ?_
    show GG _ _ _ _ _ _ _ T39 (mkF m 305 #[.val (.int p0), .val (.long q1), .second, .val (.long q2), .second, .val (.long q3), .second, .val (.int p4), .val (.int p5), .val (.int (2 : Int32)), .val (.ref ob3), .val (.int x7), .val (.int x8), .val (.int x9), .val (.int x10), .val (.int x11), .val (.int x12), .val (.ref ob13), .val (.ref ob17), .val (.ref ob21), .val (.ref ob25), .val (.ref bq36), .val (.long q3), .second, .val (.double (FP.i2d x9)), .second, .val (.double (FP.i2d x12)), .second] [])
    refine own_go (fun _ => XS.iconst X39.here hx rfl (hb hby at_305)) ?_
    show GG _ _ _ _ _ _ _ T39 (mkF m 306 #[.val (.int p0), .val (.long q1), .second, .val (.long q2), .second, .val (.long q3), .second, .val (.int p4), .val (.int p5), .val (.int (2 : Int32)), .val (.ref ob3), .val (.int x7), .val (.int x8), .val (.int x9), .val (.int x10), .val (.int x11), .val (.int x12), .val (.ref ob13), .val (.ref ob17), .val (.ref ob21), .val (.ref ob25), .val (.ref bq36), .val (.long q3), .second, .val (.double (FP.i2d x9)), .second, .val (.double (FP.i2d x12)), .second] [(.int (1 : Int32))])
    refine own_go (fun _ => XS.goto X39.here hx rfl (pc0 := 306) (pc' := 310) rfl (hb hby at_306) (by decide) (by decide)) ?_
    show GG _ _ _ _ _ _ _ T39 (mkF m 310 #[.val (.int p0), .val (.long q1), .second, .val (.long q2), .second, .val (.long q3), .second, .val (.int p4), .val (.int p5), .val (.int (2 : Int32)), .val (.ref ob3), .val (.int x7), .val (.int x8), .val (.int x9), .val (.int x10), .val (.int x11), .val (.int x12), .val (.ref ob13), .val (.ref ob17), .val (.ref ob21), .val (.ref ob25), .val (.ref bq36), .val (.long q3), .second, .val (.double (FP.i2d x9)), .second, .val (.double (FP.i2d x12)), .second] [(.int (1 : Int32))])
    refine own_ret X39 hx hlk (t := .boolean) (w := (.int (1 : Int32))) Bd.returns rfl (Or.inl ⟨rfl, by simp, _, rfl⟩) (hb hby at_310) (by decide) (by decide) ?_
    show Q0 Z p0 q1 q2 q3 p4 p5 wN h0 n0 (some (.int (1 : Int32))) T39.heap _
    rw [hh39]
    exact ⟨rfl, N39⟩
set_option maxRecDepth 65536 in
set_option maxHeartbeats 40000000 in
theorem comes_1 {Post : Tables → Env → Array Value → State → Outcome → State → Prop} (hpost : ∀ tb e args s v u, (limb_1_1.after args s (.returned v) u = true ∧ limb_1_2.after args s (.returned v) u = true ∧ True) → FrameEnd s (.returned v) u (Jvm.fieldLocs frame_1_writes args s ++ Jvm.arrayLocs frame_1_arrays args s ++ Jvm.staticLocs frame_1_statics s) 24 128 → Post tb e args s (.returned v) u) :
    ArmFor flags0 classFile x code maxLocals ret World_1 tables_1 room_1 Calls_1 rest_1 Pre_1 Post := by
  intro l hfl _ _ p e ha hc hk s m args below hf hA hF happ hP
  obtain ⟨hcalls, hrest, hpre⟩ := hP
  obtain ⟨-, -, -, hnamed, -, -, -, hat⟩ := (Spec.applies_iff hf).mp happ
  obtain ⟨hg, hn⟩ := and_e (Cond.before_iff.mp (show (Jvm.Cond.and given_1 narrow_1).before args s = true from hpre))
  obtain ⟨g1, g2⟩ := and_e hg
  obtain ⟨g3, g4⟩ := and_e g2
  obtain ⟨g5, g6⟩ := and_e g4
  obtain ⟨g7, g8⟩ := and_e g6
  obtain ⟨g9, g10⟩ := and_e g8
  obtain ⟨g11, g12⟩ := and_e g10
  obtain ⟨w0, w1, w2, w3, w4, w5, rfl⟩ : ∃ w0 w1 w2 w3 w4 w5 : Value, args = #[w0, w1, w2, w3, w4, w5] := by
    have hs : args.size = 6 := by simpa [Cond.value, given_1] using g1
    obtain ⟨L⟩ := args
    match L, hs with
    | [w0, w1, w2, w3, w4, w5], _ => exact ⟨w0, w1, w2, w3, w4, w5, rfl⟩
  have hw := fun d (hd : d ∈ tables_1) => atoms_spec (ws := Jvm.Cond.code x code maxLocals ret :: tables_1) hat d (List.mem_cons_of_mem _ hd)
  have hfit : Fit s := fun {y c} hc i hi => by
    obtain ⟨ha, rfl⟩ := Array.getElem?_eq_some_iff.mp hc
    have q := List.all_eq_true.mp ((Array.all_eq_true_iff_forall_mem.mp hF) _ (Array.getElem_mem ha)) i (List.mem_range.mpr hi)
    simpa [Array.getElem?_eq_getElem hi] using q
  obtain ⟨i0, ei0⟩ := is_v g3
  obtain rfl : w0 = (.int i0) := Option.some.inj ei0
  obtain ⟨i1, ei1⟩ := isL_v g5
  obtain rfl : w1 = (.long i1) := Option.some.inj ei1
  obtain ⟨i2, ei2⟩ := isL_v g7
  obtain rfl : w2 = (.long i2) := Option.some.inj ei2
  obtain ⟨i3, ei3⟩ := isL_v g9
  obtain rfl : w3 = (.long i3) := Option.some.inj ei3
  obtain ⟨i4, ei4⟩ := is_v g11
  obtain rfl : w4 = (.int i4) := Option.some.inj ei4
  obtain ⟨i5, ei5⟩ := is_v g12
  obtain rfl : w5 = (.int i5) := Option.some.inj ei5
  obtain ⟨wNx, evN⟩ := exa_v hn
  have S_N := Sta.start evN (Or.inr ⟨(hw _ (List.mem_of_getElem? (i := 8) rfl)), (hw _ (List.mem_of_getElem? (i := 9) rfl))⟩)
  obtain ⟨n, o, h1, h2, h3, _, L, rfl, ⟨rfl, N⟩, hq⟩ := rm0 l s _ hw tables_1 i0 i1 i2 i3 i4 i5 wNx s.heap s.heap.size (Nat.le_refl _) (Old.start s) S_N p e ha hc hk s m _ below hf ((Spec.applies_iff_loose hf).mp happ).1 ⟨rfl, State.Warmed39.refl s, rfl⟩ trivial
  refine ⟨n, _, h1, h2, h3, hpost _ _ _ _ _ _ ⟨Cond.after_iff.mpr rfl, Cond.after_iff.mpr (eq_i res_at (Term.int_eval (1)) rfl), trivial⟩ ⟨hq.1, hq.2.1, (hq.2.2.sift fun y hy => Or.inr (N y hy)).mono (by decide) (by decide)⟩⟩
theorem main_1_1 : Claimed_1_1 := comes_1 fun _ _ _ _ _ _ h hF => ⟨h.1, hF⟩
theorem main_1_2 : Claimed_1_2 := comes_1 fun _ _ _ _ _ _ h hF => ⟨h.2.1, hF⟩
end Jvm.Pilot.@@N@@
namespace Jvm.Pilot.@@N@@
open Jvm Jvm.ClassFile Sem Op Lib Jvm.Free Jvm.Stand Jvm.Pilot.@@N@@.Jvm.D
/-! MADE BY PROGRAM (witnessworld.py) out of the Statement's table words and the real class files: 12 classes; the members and pool entries that the words name. The judged class is class 1, her method 1. -/
namespace start1
open Jvm.ClassFile
def u (s : String) : CpInfo := .utf8 (stringToUtf16 s)
/-- a pool by its gaps: so many unusable entries, then the entry; so many at the end -/
def gap : Nat → List CpInfo → List CpInfo
  | 0, r => r
  | n + 1, r => .unusable :: gap n r
def poolList (es : List (Nat × CpInfo)) (last : Nat) : List CpInfo := es.foldr (fun e r => gap e.1 (e.2 :: r)) (gap last [])
def pool (es : List (Nat × CpInfo)) (last : Nat) : Array CpInfo := ⟨poolList es last⟩
def fileOf (pool : Array CpInfo) (this : Nat) (attrs : Array Attribute := #[]) (ms : Array MethodInfo := #[]) (fl : Nat := 33) (sup : Nat := 0) (ifs : Array Nat := #[]) (fds : Array FieldInfo := #[]) : ClassFile where
  minorVersion := 0
  majorVersion := 65
  constantPool := pool
  accessFlags := fl
  thisClass := this
  superClass := sup
  interfaces := ifs
  fields := fds
  methods := ms
  attributes := attrs
def plain (name : String) (sup : Option ClassId) : Class where
  name := name
  kind := .ordinary
  loader := none
  accessFlags := 33
  super := sup
  interfaces := #[]
  cf := none
  fields := #[]
  methods := #[]
  instanceTypes := #[]
  staticTypes := #[]
  resolved := #[]
  callSites := []
  init := .initialized
  statics := none
  mirror := none

def pool0 : Array CpInfo := pool [(5, u "<init>"), (0, u "()V"), (1, .class_ 10), (1, u "java/lang/Object")] 113

def k0c0 : Code := { maxStack := 0, maxLocals := 1, code := object_method_1_code, exceptionTable := #[], attributes := #[] }
def k0m0 : Method := { name := "<init>", desc := "()V", sig := { parameters := [], returnType := none }, accessFlags := 1, code := some k0c0 }
/-- java/lang/Object -/
def k0 : Class := { plain "java/lang/Object" none with
  accessFlags := 33
  interfaces := #[]
  cf := some (fileOf pool0 8 #[] #[{ accessFlags := 1, nameIndex := 5, descriptorIndex := 6, attributes := #[] }] 33 0 #[] #[])
  fields := #[]
  methods := #[k0m0]
  instanceTypes := #[]
  staticTypes := #[]
  resolved := Array.replicate 124 none
  statics := none }

def pool1 : Array CpInfo := pool [(2, .class_ 4), (1, u "java/lang/Object"), (0, u "<init>"), (0, u "()V"), (0, .integer 2147483647), (0, .class_ 9), (0, u "com/example/deft_shards/deftshards/index/TermWeights"), (0, .fieldref 11 12), (0, .class_ 13), (0, .nameAndType 14 15), (0, u "com/example/deft_shards/deftshards/index/WeightStatistics"), (0, u "NONE"), (0, u "Lcom/example/deft_shards/deftshards/index/WeightStatistics;"), (0, .methodref 8 17), (0, .nameAndType 5 18), (0, u "(Lcom/example/deft_shards/deftshards/index/WeightStatistics;I[I[J[D[D)V"), (0, .methodref 8 20), (0, .nameAndType 21 22), (0, u "inHolder"), (0, u "(I)Lcom/example/deft_shards/deftshards/index/WeightStatistics;"), (0, .methodref 11 24), (0, .nameAndType 25 26), (0, u "documentFrequency"), (0, u "()J"), (0, .methodref 11 28), (0, .nameAndType 29 30), (0, u "mean"), (0, u "()D"), (0, .methodref 11 32), (0, .nameAndType 33 30), (0, u "variance"), (0, .class_ 35), (0, u "com/example/deft_shards/deftshards/index/TermWeightsInHolderPinLaw"), (2, u "law"), (0, u "(IJJJII)Z")] 9

def k1m0 : Method := { name := "<init>", desc := "()V", sig := { parameters := [], returnType := none }, accessFlags := 1, code := none }
def k1c1 : Code := { maxStack := 8, maxLocals := 28, code := code, exceptionTable := #[], attributes := #[] }
def k1m1 : Method := { name := "law", desc := "(IJJJII)Z", sig := { parameters := [.int, .long, .long, .long, .int, .int], returnType := some .boolean }, accessFlags := 9, code := some k1c1 }
/-- com/example/deft_shards/deftshards/index/TermWeightsInHolderPinLaw -/
def k1 : Class := { plain "com/example/deft_shards/deftshards/index/TermWeightsInHolderPinLaw" (some 0) with
  accessFlags := 49
  interfaces := #[]
  cf := some (fileOf pool1 34 #[] #[{ accessFlags := 1, nameIndex := 5, descriptorIndex := 6, attributes := #[] }, { accessFlags := 9, nameIndex := 38, descriptorIndex := 39, attributes := #[] }] 49 2 #[] #[])
  fields := #[]
  methods := #[k1m0, k1m1]
  instanceTypes := #[]
  staticTypes := #[]
  resolved := Array.replicate 49 none
  statics := none }

def pool2 : Array CpInfo := pool [(1, .methodref 2 3), (0, .class_ 4), (0, .nameAndType 5 6), (0, u "java/lang/Object"), (0, u "<init>"), (0, u "()V"), (0, .fieldref 8 9), (0, .class_ 10), (0, .nameAndType 11 12), (0, u "com/example/deft_shards/deftshards/index/TermWeights"), (0, u "collection"), (0, u "Lcom/example/deft_shards/deftshards/index/WeightStatistics;"), (0, .fieldref 8 14), (0, .nameAndType 15 16), (0, u "shardCount"), (0, u "I"), (0, .fieldref 8 18), (0, .nameAndType 19 20), (0, u "holders"), (0, u "[I"), (0, .fieldref 8 22), (0, .nameAndType 23 24), (0, u "frequencies"), (0, u "[J"), (0, .fieldref 8 26), (0, .nameAndType 27 28), (0, u "means"), (0, u "[D"), (0, .fieldref 8 30), (0, .nameAndType 31 28), (0, u "variances"), (13, .class_ 47), (1, u "com/example/deft_shards/deftshards/index/WeightStatistics"), (3, u "inHolder"), (0, u "(I)Lcom/example/deft_shards/deftshards/index/WeightStatistics;"), (0, .methodref 45 54), (0, .nameAndType 5 55), (0, u "(JDD)V"), (0, u "(Lcom/example/deft_shards/deftshards/index/WeightStatistics;I[I[J[D[D)V")] 11

def k2c0 : Code := { maxStack := 2, maxLocals := 7, code := prog_17_method_1_code, exceptionTable := #[], attributes := #[] }
def k2m0 : Method := { name := "<init>", desc := "(Lcom/example/deft_shards/deftshards/index/WeightStatistics;I[I[J[D[D)V", sig := { parameters := [(.object "com/example/deft_shards/deftshards/index/WeightStatistics"), .int, (.array .int), (.array .long), (.array .double), (.array .double)], returnType := none }, accessFlags := 0, code := some k2c0 }
def k2c1 : Code := { maxStack := 8, maxLocals := 2, code := prog_17_method_6_code, exceptionTable := #[], attributes := #[] }
def k2m1 : Method := { name := "inHolder", desc := "(I)Lcom/example/deft_shards/deftshards/index/WeightStatistics;", sig := { parameters := [.int], returnType := some (.object "com/example/deft_shards/deftshards/index/WeightStatistics") }, accessFlags := 1, code := some k2c1 }
/-- com/example/deft_shards/deftshards/index/TermWeights -/
def k2 : Class := { plain "com/example/deft_shards/deftshards/index/TermWeights" (some 0) with
  accessFlags := 49
  interfaces := #[]
  cf := some (fileOf pool2 8 #[] #[{ accessFlags := 0, nameIndex := 5, descriptorIndex := 56, attributes := #[] }, { accessFlags := 1, nameIndex := 51, descriptorIndex := 52, attributes := #[] }] 49 2 #[] #[{ accessFlags := 18, nameIndex := 11, descriptorIndex := 12, attributes := #[] }, { accessFlags := 18, nameIndex := 15, descriptorIndex := 16, attributes := #[] }, { accessFlags := 18, nameIndex := 19, descriptorIndex := 20, attributes := #[] }, { accessFlags := 18, nameIndex := 23, descriptorIndex := 24, attributes := #[] }, { accessFlags := 18, nameIndex := 27, descriptorIndex := 28, attributes := #[] }, { accessFlags := 18, nameIndex := 31, descriptorIndex := 28, attributes := #[] }])
  fields := #[{ name := "collection", type := (.object "com/example/deft_shards/deftshards/index/WeightStatistics"), accessFlags := 18, slot := 0, constantValue := 0 }, { name := "shardCount", type := .int, accessFlags := 18, slot := 1, constantValue := 0 }, { name := "holders", type := (.array .int), accessFlags := 18, slot := 2, constantValue := 0 }, { name := "frequencies", type := (.array .long), accessFlags := 18, slot := 3, constantValue := 0 }, { name := "means", type := (.array .double), accessFlags := 18, slot := 4, constantValue := 0 }, { name := "variances", type := (.array .double), accessFlags := 18, slot := 5, constantValue := 0 }]
  methods := #[k2m0, k2m1]
  instanceTypes := #[(.object "com/example/deft_shards/deftshards/index/WeightStatistics"), .int, (.array .int), (.array .long), (.array .double), (.array .double)]
  staticTypes := #[]
  resolved := Array.replicate 68 none
  statics := none }

def pool3 : Array CpInfo := pool [(1, .methodref 2 3), (0, .class_ 4), (0, .nameAndType 5 6), (0, u "java/lang/Object"), (0, u "<init>"), (0, u "()V"), (0, .fieldref 8 9), (0, .class_ 10), (0, .nameAndType 11 12), (0, u "com/example/deft_shards/deftshards/index/WeightStatistics"), (0, u "documentFrequency"), (0, u "J"), (0, .fieldref 8 14), (0, .nameAndType 15 16), (0, u "mean"), (0, u "D"), (0, .fieldref 8 18), (0, .nameAndType 19 16), (0, u "variance"), (2, u "(JDD)V"), (2, u "NONE"), (0, u "Lcom/example/deft_shards/deftshards/index/WeightStatistics;"), (2, u "()J"), (0, u "()D")] 3

def k3c0 : Code := { maxStack := 3, maxLocals := 7, code := prog_19_method_1_code, exceptionTable := #[], attributes := #[] }
def k3m0 : Method := { name := "<init>", desc := "(JDD)V", sig := { parameters := [.long, .double, .double], returnType := none }, accessFlags := 0, code := some k3c0 }
def k3c1 : Code := { maxStack := 2, maxLocals := 1, code := prog_19_method_2_code, exceptionTable := #[], attributes := #[] }
def k3m1 : Method := { name := "documentFrequency", desc := "()J", sig := { parameters := [], returnType := some .long }, accessFlags := 1, code := some k3c1 }
def k3c2 : Code := { maxStack := 2, maxLocals := 1, code := prog_19_method_3_code, exceptionTable := #[], attributes := #[] }
def k3m2 : Method := { name := "mean", desc := "()D", sig := { parameters := [], returnType := some .double }, accessFlags := 1, code := some k3c2 }
def k3c3 : Code := { maxStack := 2, maxLocals := 1, code := prog_19_method_4_code, exceptionTable := #[], attributes := #[] }
def k3m3 : Method := { name := "variance", desc := "()D", sig := { parameters := [], returnType := some .double }, accessFlags := 1, code := some k3c3 }
/-- com/example/deft_shards/deftshards/index/WeightStatistics -/
def k3 : Class := { plain "com/example/deft_shards/deftshards/index/WeightStatistics" (some 0) with
  accessFlags := 49
  interfaces := #[]
  cf := some (fileOf pool3 8 #[] #[{ accessFlags := 0, nameIndex := 5, descriptorIndex := 22, attributes := #[] }, { accessFlags := 1, nameIndex := 11, descriptorIndex := 29, attributes := #[] }, { accessFlags := 1, nameIndex := 15, descriptorIndex := 30, attributes := #[] }, { accessFlags := 1, nameIndex := 19, descriptorIndex := 30, attributes := #[] }] 49 2 #[] #[{ accessFlags := 25, nameIndex := 25, descriptorIndex := 26, attributes := #[] }, { accessFlags := 18, nameIndex := 11, descriptorIndex := 12, attributes := #[] }, { accessFlags := 18, nameIndex := 15, descriptorIndex := 16, attributes := #[] }, { accessFlags := 18, nameIndex := 19, descriptorIndex := 16, attributes := #[] }])
  fields := #[{ name := "NONE", type := (.object "com/example/deft_shards/deftshards/index/WeightStatistics"), accessFlags := 25, slot := 0, constantValue := 0 }, { name := "documentFrequency", type := .long, accessFlags := 18, slot := 0, constantValue := 0 }, { name := "mean", type := .double, accessFlags := 18, slot := 1, constantValue := 0 }, { name := "variance", type := .double, accessFlags := 18, slot := 2, constantValue := 0 }]
  methods := #[k3m0, k3m1, k3m2, k3m3]
  instanceTypes := #[.long, .double, .double]
  staticTypes := #[(.object "com/example/deft_shards/deftshards/index/WeightStatistics")]
  resolved := Array.replicate 34 none
  statics := some 0 }

def pool4 : Array CpInfo := pool [(1, u "java/lang/Cloneable"), (0, .class_ 1), (0, u "java/lang/Object"), (0, .class_ 3)] 3

/-- java/lang/Cloneable -/
def k4 : Class := { plain "java/lang/Cloneable" (some 0) with
  accessFlags := 1537
  interfaces := #[]
  cf := some (fileOf pool4 2 #[] #[] 1537 4 #[] #[])
  fields := #[]
  methods := #[]
  instanceTypes := #[]
  staticTypes := #[]
  resolved := Array.replicate 8 none
  statics := none }

def pool5 : Array CpInfo := pool [(1, u "java/io/Serializable"), (0, .class_ 1), (0, u "java/lang/Object"), (0, .class_ 3)] 3

/-- java/io/Serializable -/
def k5 : Class := { plain "java/io/Serializable" (some 0) with
  accessFlags := 1537
  interfaces := #[]
  cf := some (fileOf pool5 2 #[] #[] 1537 4 #[] #[])
  fields := #[]
  methods := #[]
  instanceTypes := #[]
  staticTypes := #[]
  resolved := Array.replicate 8 none
  statics := none }

/-- the primitive byte -/
def k6 : Class := { plain "byte" none with kind := .primitive 'B', accessFlags := 0x411 }
/-- [B -/
def k7 : Class := { plain "[B" (some 0) with kind := .array 6 .byte, interfaces := #[4, 5], accessFlags := 1041 }

/-- the primitive int -/
def k8 : Class := { plain "int" none with kind := .primitive 'I', accessFlags := 0x411 }
/-- [I -/
def k9 : Class := { plain "[I" (some 0) with kind := .array 8 .int, interfaces := #[4, 5], accessFlags := 1041 }

/-- the primitive long -/
def k10 : Class := { plain "long" none with kind := .primitive 'J', accessFlags := 0x411 }
/-- [J -/
def k11 : Class := { plain "[J" (some 0) with kind := .array 10 .long, interfaces := #[4, 5], accessFlags := 1041 }

def k12 : Class := { plain "double" none with kind := .primitive 'D', accessFlags := 0x411 }
def k13 : Class := { plain "[D" (some 0) with kind := .array 12 .double, interfaces := #[4, 5], accessFlags := 1041 }
def heap : Heap := #[{ cls := 3, slots := #[.ref 1], vm := .statics 3 },
  { cls := 3, slots := #[.long 1, .double 0, .double 0], vm := .none }]
def classes : Array Class := #[k0, k1, k2, k3, k4, k5, k6, k7, k8, k9, k10, k11, k12, k13]
def interned : List (Array UInt16 × Addr) := []
def slotsUsed : Nat := 4
def theMethod : MethodId := ⟨1, 1⟩
def args0 : Array Value := #[.int 4, .long 5, .long 6, .long 7, .int 8, .int 9]
def aboutOver (below : List Frame) : State where
  vm := { classes := classes, interned := interned.toArray }
  heap := heap
  slotsUsed := slotsUsed
  threads := #[{ frames := .invoking theMethod args0 :: below }]
def below0 : List Frame := [.native { method := ⟨0, 0⟩, args := #[] }]
def about1 : State := aboutOver below0
def p0 : Program := .bare "" "" ""
def e0 : Env := launch0.env 0 0 0
theorem w_frames : about1.frames = Frame.invoking theMethod args0 :: below0 := rfl
set_option maxRecDepth 65536 in
theorem w_args : argsFit about1.vm theMethod args0 = true := by decide +kernel
set_option maxRecDepth 65536 in
theorem w_heap : heapFits about1 = true := by decide +kernel
set_option maxRecDepth 65536 in
theorem w_runnable : about1.curStatus? = some .runnable := by decide +kernel
set_option maxRecDepth 65536 in
theorem w_alone : about1.alone = true := by decide +kernel
set_option maxRecDepth 65536 in
theorem w_named : about1.methodNamed? x = some theMethod := by decide +kernel
set_option maxRecDepth 65536 in
theorem w_hears : about1.hears theMethod below0 = true := by decide +kernel
set_option maxRecDepth 65536 in
theorem w_ripe : about1.ripe theMethod args0 below0 = true := by decide +kernel
theorem w_running : about1.status = .running := rfl
set_option maxRecDepth 65536 in
theorem w_room : about1.hasRoom e0.platform room_1 = true :=
  launch0.hasRoom_least _ room_1 (by decide +kernel) (by decide +kernel) (by decide +kernel) (by decide +kernel) (by decide +kernel) (by decide +kernel)
theorem allAtoms_all (ts : List Jvm.Cond) (a : Array Jvm.Value) (st : Jvm.State) : (allAtoms ts).before a st = ts.all (fun c => c.before a st) := by
  induction ts with
  | nil => rfl
  | cons c t ih =>
    show (Jvm.Cond.and c (allAtoms t)).before a st = _
    rw [Jvm.Cond.before_and, ih, List.all_cons]
def words1 : List Jvm.Cond := Jvm.Cond.code x code maxLocals ret :: tables_1
/-- a 'code' word, met by the world's own term for the bytes: nothing is compared byte by byte -/
theorem code_word {y : MethodName} {bytes : ByteArray} {mx : Nat} {rt : Option FieldType} {a : Array Value} {s : State} {m : MethodId} {meth : Method} {c : Code} (h1 : s.methodNamed? y = some m) (h2 : s.vm.method? m = some meth) (h3 : meth.code = some c) (h4 : c.code = bytes)
    (h5 : (c.maxLocals == mx && c.exceptionTable.isEmpty && decide (c.maxStack ≤ mostOperands) && decide (meth.sig.returnType = rt) && !meth.locks && decide (parseMethodDescriptor y.desc = some meth.sig)) = true) : (Jvm.Cond.code y bytes mx rt).before a s = true := by
  simp only [Bool.and_eq_true, beq_iff_eq, Bool.not_eq_true', decide_eq_true_eq] at h5
  obtain ⟨⟨⟨⟨⟨g1, g2⟩, g3⟩, g4⟩, g5⟩, g6⟩ := h5
  simp [Cond.before, Cond.holds, Cond.value, h1, h2, h3, h4, g1, g2, g3, g4, g5, g6]
def isCode : Jvm.Cond → Bool
  | .code _ _ _ _ => true
  | _ => false
theorem all_split {L : List Jvm.Cond} {P : Jvm.Cond → Bool} (h1 : L.all (fun c => isCode c || P c) = true) (h2 : ∀ c ∈ L.filter isCode, P c = true) : L.all P = true := by
  refine List.all_eq_true.mpr fun c hc => ?_
  have h := List.all_eq_true.mp h1 c hc
  rcases Bool.eq_false_or_eq_true (isCode c) with hi | hi
  · exact h2 c (List.mem_filter.mpr ⟨hc, hi⟩)
  · simpa [hi] using h
set_option maxRecDepth 65536 in
theorem w_c0 : (Jvm.Cond.code x code maxLocals ret).before args0 about1 = true := code_word (m := ⟨1, 1⟩) (meth := k1m1) (c := k1c1) (by decide +kernel) rfl rfl rfl (by decide +kernel)
set_option maxRecDepth 65536 in
theorem w_c1 : (Jvm.Cond.code ({ cls := "com/example/deft_shards/deftshards/index/TermWeights", name := "<init>", desc := "(Lcom/example/deft_shards/deftshards/index/WeightStatistics;I[I[J[D[D)V" } : Jvm.MethodName) prog_17_method_1_code (7 : Nat) (Option.none : Option Jvm.ClassFile.FieldType)).before args0 about1 = true := code_word (m := ⟨2, 0⟩) (meth := k2m0) (c := k2c0) (by decide +kernel) rfl rfl rfl (by decide +kernel)
set_option maxRecDepth 65536 in
theorem w_c2 : (Jvm.Cond.code ({ cls := "java/lang/Object", name := "<init>", desc := "()V" } : Jvm.MethodName) object_method_1_code (1 : Nat) (Option.none : Option Jvm.ClassFile.FieldType)).before args0 about1 = true := code_word (m := ⟨0, 0⟩) (meth := k0m0) (c := k0c0) (by decide +kernel) rfl rfl rfl (by decide +kernel)
set_option maxRecDepth 65536 in
theorem w_c3 : (Jvm.Cond.code ({ cls := "com/example/deft_shards/deftshards/index/TermWeights", name := "inHolder", desc := "(I)Lcom/example/deft_shards/deftshards/index/WeightStatistics;" } : Jvm.MethodName) prog_17_method_6_code (2 : Nat) (Option.some (Jvm.ClassFile.FieldType.object "com/example/deft_shards/deftshards/index/WeightStatistics"))).before args0 about1 = true := code_word (m := ⟨2, 1⟩) (meth := k2m1) (c := k2c1) (by decide +kernel) rfl rfl rfl (by decide +kernel)
set_option maxRecDepth 65536 in
theorem w_c4 : (Jvm.Cond.code ({ cls := "com/example/deft_shards/deftshards/index/WeightStatistics", name := "<init>", desc := "(JDD)V" } : Jvm.MethodName) prog_19_method_1_code (7 : Nat) (Option.none : Option Jvm.ClassFile.FieldType)).before args0 about1 = true := code_word (m := ⟨3, 0⟩) (meth := k3m0) (c := k3c0) (by decide +kernel) rfl rfl rfl (by decide +kernel)
set_option maxRecDepth 65536 in
theorem w_c5 : (Jvm.Cond.code ({ cls := "com/example/deft_shards/deftshards/index/WeightStatistics", name := "documentFrequency", desc := "()J" } : Jvm.MethodName) prog_19_method_2_code (1 : Nat) (Option.some Jvm.ClassFile.FieldType.long)).before args0 about1 = true := code_word (m := ⟨3, 1⟩) (meth := k3m1) (c := k3c1) (by decide +kernel) rfl rfl rfl (by decide +kernel)
set_option maxRecDepth 65536 in
theorem w_c6 : (Jvm.Cond.code ({ cls := "com/example/deft_shards/deftshards/index/WeightStatistics", name := "mean", desc := "()D" } : Jvm.MethodName) prog_19_method_3_code (1 : Nat) (Option.some Jvm.ClassFile.FieldType.double)).before args0 about1 = true := code_word (m := ⟨3, 2⟩) (meth := k3m2) (c := k3c2) (by decide +kernel) rfl rfl rfl (by decide +kernel)
set_option maxRecDepth 65536 in
theorem w_c7 : (Jvm.Cond.code ({ cls := "com/example/deft_shards/deftshards/index/WeightStatistics", name := "variance", desc := "()D" } : Jvm.MethodName) prog_19_method_4_code (1 : Nat) (Option.some Jvm.ClassFile.FieldType.double)).before args0 about1 = true := code_word (m := ⟨3, 3⟩) (meth := k3m3) (c := k3c3) (by decide +kernel) rfl rfl rfl (by decide +kernel)
def codes1 : List Jvm.Cond := [Jvm.Cond.code x code maxLocals ret, Jvm.Cond.code ({ cls := "com/example/deft_shards/deftshards/index/TermWeights", name := "<init>", desc := "(Lcom/example/deft_shards/deftshards/index/WeightStatistics;I[I[J[D[D)V" } : Jvm.MethodName) prog_17_method_1_code (7 : Nat) (Option.none : Option Jvm.ClassFile.FieldType), Jvm.Cond.code ({ cls := "java/lang/Object", name := "<init>", desc := "()V" } : Jvm.MethodName) object_method_1_code (1 : Nat) (Option.none : Option Jvm.ClassFile.FieldType), Jvm.Cond.code ({ cls := "com/example/deft_shards/deftshards/index/TermWeights", name := "inHolder", desc := "(I)Lcom/example/deft_shards/deftshards/index/WeightStatistics;" } : Jvm.MethodName) prog_17_method_6_code (2 : Nat) (Option.some (Jvm.ClassFile.FieldType.object "com/example/deft_shards/deftshards/index/WeightStatistics")), Jvm.Cond.code ({ cls := "com/example/deft_shards/deftshards/index/WeightStatistics", name := "<init>", desc := "(JDD)V" } : Jvm.MethodName) prog_19_method_1_code (7 : Nat) (Option.none : Option Jvm.ClassFile.FieldType), Jvm.Cond.code ({ cls := "com/example/deft_shards/deftshards/index/WeightStatistics", name := "documentFrequency", desc := "()J" } : Jvm.MethodName) prog_19_method_2_code (1 : Nat) (Option.some Jvm.ClassFile.FieldType.long), Jvm.Cond.code ({ cls := "com/example/deft_shards/deftshards/index/WeightStatistics", name := "mean", desc := "()D" } : Jvm.MethodName) prog_19_method_3_code (1 : Nat) (Option.some Jvm.ClassFile.FieldType.double), Jvm.Cond.code ({ cls := "com/example/deft_shards/deftshards/index/WeightStatistics", name := "variance", desc := "()D" } : Jvm.MethodName) prog_19_method_4_code (1 : Nat) (Option.some Jvm.ClassFile.FieldType.double)]
set_option maxRecDepth 65536 in
theorem codes_eq : words1.filter isCode = codes1 := rfl
theorem w_codes : ∀ c ∈ words1.filter isCode, c.before args0 about1 = true := by
  rw [codes_eq]
  intro c hc
  simp only [codes1, List.mem_cons, List.not_mem_nil, or_false] at hc
  rcases hc with rfl | rfl | rfl | rfl | rfl | rfl | rfl | rfl
  · exact w_c0
  · exact w_c1
  · exact w_c2
  · exact w_c3
  · exact w_c4
  · exact w_c5
  · exact w_c6
  · exact w_c7
set_option maxRecDepth 65536 in
theorem w_t1 : (words1.take 24).all (fun c => isCode c || c.before args0 about1) = true := by decide +kernel
set_option maxRecDepth 65536 in
theorem w_t2 : ((words1.drop 24).take 24).all (fun c => isCode c || c.before args0 about1) = true := by decide +kernel
set_option maxRecDepth 65536 in
theorem w_t3 : ((words1.drop 24).drop 24).all (fun c => isCode c || c.before args0 about1) = true := by decide +kernel
theorem w_tables : (allAtoms (Jvm.Cond.code x code maxLocals ret :: tables_1)).before args0 about1 = true := by
  rw [allAtoms_all]
  show words1.all (fun c => c.before args0 about1) = true
  refine all_split ?_ w_codes
  rw [← List.take_append_drop 24 words1, List.all_append, w_t1, ← List.take_append_drop 24 (words1.drop 24), List.all_append, w_t2, w_t3]
  rfl
set_option maxRecDepth 65536 in
theorem w_case : (Jvm.Cond.and given_1 narrow_1).before args0 about1 = true := by decide +kernel
theorem w_applies : (headSpec (Jvm.Cond.code x code maxLocals ret :: tables_1) room_1).applies x e0.platform about1 = true :=
  (Spec.applies_iff w_frames).mpr ⟨w_running, w_runnable, w_alone, w_named, w_hears, w_ripe, w_room, w_tables⟩
theorem atStart : AtStart classFile x code maxLocals ret World_1 tables_1 room_1 Calls_1 rest_1 Pre_1 launch0 p0 e0 about1 theMethod args0 below0 :=
  ⟨lists_1, trivial, launch0.admits_env _ _ _, launch0.least_env, fairChoices_fair.cas, fairChoices_fair.clock, w_frames, w_args, w_heap, w_applies, trivial, trivial, w_case⟩
end start1
theorem witness_1 : WitnessClaimed_1 := ⟨start1.p0, start1.e0, start1.about1, start1.theMethod, start1.args0, start1.below0, start1.atStart⟩
end Jvm.Pilot.@@N@@
