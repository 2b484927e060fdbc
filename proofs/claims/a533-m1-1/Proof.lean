import JvmDerived
import JvmDerived.Pilot.@@N@@Statement
import JvmDerived.Pilot.@@N@@Code
set_option linter.unusedVariables false
set_option linter.unusedSimpArgs false
namespace Jvm.Pilot.@@N@@
open Jvm Jvm.ClassFile Sem Op Lib Jvm.Free Jvm.Stand Jvm.LawKit Jvm.RoadKit Bundle Jvm.Pilot.@@N@@.Jvm.D
/-! the walk's own small layer: 'Go' (from this frame the run comes to an end that Q tells of), one law a return, one law a call -/
def Go (p : Program) (e : Env) (below : List Frame) (s : State) (C S : Nat) (Q : Option Value → Heap → List Loc → Prop) (T : State) (g : JFrame) : Prop :=
  ∃ s₂ o, Steps p.tables e below (T.setTop g) s₂ ∧ s₂.status = .running ∧ Ended s₂ below o ∧ ∃ v L, o = .returned v ∧ Q v s₂.heap L ∧ FrameEnd s o s₂ L C S
/-- a contract: called with these arguments over this heap, the method ends as Q says -/
def MQ (l : Launch) (Z : State) (y : MethodName) (bytes : ByteArray) (maxL : Nat) (rt : Option FieldType) (ws : List Jvm.Cond) (rm : Room) (as : Array Value) (h0 : Heap) (Q : Option Value → Heap → List Loc → Prop) : Prop :=
  MetFree l y (head1 (Jvm.Cond.code y bytes maxL rt :: ws) rm) (fun a U => a = as ∧ Z.Warmed39 U.vm ∧ U.heap = h0) (fun _ _ _ _ _ => True) (fun _ U o U' => ∃ v L, o = .returned v ∧ Q v U'.heap L ∧ FrameEnd U o U' L rm.cells rm.slots)
/-- what a method that writes nothing leaves -/
def QP (r : Option Value) (h0 : Heap) (v : Option Value) (h : Heap) (L : List Loc) : Prop := v = r ∧ h = h0 ∧ L = []
/-- Java's x >>> y, on ints and on longs -/
def ush (x y : Int32) : Int32 := (x.toUInt32 >>> (y &&& 31).toUInt32).toInt32
def ushL (x : Int64) (y : Int32) : Int64 := (x.toUInt64 >>> (y &&& 0x3f).toInt64.toUInt64).toInt64
section Layer
variable {p : Program} {l : Launch} {e : Env} {R : Room} {s : State} {m : MethodId} {args : Array Value} {below : List Frame} {meth : Method} {c : Code} {T T' : State} {locs : List Loc} {cells slots C S : Nat} {Q : Option Value → Heap → List Loc → Prop} {g g' : JFrame} {h : Heap} {Z : State} {a0 : Array Value}
theorem go_step (st : ∀ t, Steps p.tables e below (T'.setTop g') t → Steps p.tables e below (T.setTop g) t) (k : Go p e below s C S Q T' g') : Go p e below s C S Q T g := by
  obtain ⟨s₂, o, h1, r⟩ := k
  exact ⟨s₂, o, st _ h1, r⟩
theorem go_mono {C' S' : Nat} (hc : C ≤ C') (hs : S ≤ S') (k : Go p e below s C S Q T g) : Go p e below s C' S' Q T g := by
  obtain ⟨s₂, o, h1, h2, h3, v, L, h4, h5, h6, h7, h8⟩ := k
  exact ⟨s₂, o, h1, h2, h3, v, L, h4, h5, h6, h7, h8.mono hc hs⟩
theorem lremM {target : State} (X : Stand p l e R s m args below meth c T locs cells slots) (hx : p.tables.exec = Jvm.exec) (hg : g.method = m) {x y : Int64} {rest : List Value} (hd : decode c.code g.pc = .ok (.lrem, 1)) (hs : g.stack = .long y :: .long x :: rest) (hy : y ≠ 0)
    (hr : Steps p.tables e below (T.setTop { g with pc := g.pc + 1, stack := .long (x % y) :: rest }) target) : Steps p.tables e below (T.setTop g) target :=
  XS.lrem X.here hx hg hd hs hy (by rw [lrem_mod]; exact hr)
theorem lookYes {target : State} (X : Stand p l e R s m args below meth c T locs cells slots) (hx : p.tables.exec = Jvm.exec) (hg : g.method = m) {key : Int32} {rest : List Value} {d o kv : Int} {prs : Array (Int × Int)} {len pc0 pc' : Nat} (hpc : g.pc = pc0) (hd : decode c.code g.pc = .ok (.lookupswitch d prs, len)) (hs : g.stack = .int key :: rest) (hso : (prs.toList.zip (prs.toList.drop 1)).all (fun (a, next) => a.1 < next.1) = true) (hf : prs.find? (·.1 == key.toInt) = some (kv, o)) (ho : 0 ≤ (pc0 : Int) + o) (hp : ((pc0 : Int) + o).toNat = pc')
    (hr : Steps p.tables e below (T.setTop { g with pc := pc', stack := rest }) target) : Steps p.tables e below (T.setTop g) target := by
  subst hg hpc hp
  jvm_step X.here [X.here.top, hx, hd, hs, lookupswitch.wp_whole, hso, hf, ho]
  exact ⟨by simpa using hso, hr⟩
theorem lookNo {target : State} (X : Stand p l e R s m args below meth c T locs cells slots) (hx : p.tables.exec = Jvm.exec) (hg : g.method = m) {key : Int32} {rest : List Value} {d : Int} {prs : Array (Int × Int)} {len pc0 pc' : Nat} (hpc : g.pc = pc0) (hd : decode c.code g.pc = .ok (.lookupswitch d prs, len)) (hs : g.stack = .int key :: rest) (hso : (prs.toList.zip (prs.toList.drop 1)).all (fun (a, next) => a.1 < next.1) = true) (hf : prs.find? (·.1 == key.toInt) = none) (ho : 0 ≤ (pc0 : Int) + d) (hp : ((pc0 : Int) + d).toNat = pc')
    (hr : Steps p.tables e below (T.setTop { g with pc := pc', stack := rest }) target) : Steps p.tables e below (T.setTop g) target := by
  subst hg hpc hp
  jvm_step X.here [X.here.top, hx, hd, hs, lookupswitch.wp_whole, hso, hf, ho]
  exact ⟨by simpa using hso, hr⟩
theorem go_cast {r r' : Option Value} {h0 : Heap} (q : r = r') (k : Go p e below s C S (QP r' h0) T g) : Go p e below s C S (QP r h0) T g := q ▸ k
theorem mq_of {y : MethodName} {bytes : ByteArray} {maxL : Nat} {rt : Option FieldType} {ws : List Jvm.Cond} {rm : Room} {as : Array Value} {h0 : Heap} {Q : Option Value → Heap → List Loc → Prop} (hp : plainFor y = true)
    (body : ∀ (p : Program) (e : Env) (s : State) (m : MethodId) (below : List Frame) (meth : Method) (c : Code) (T : State), Stand p l e rm s m as below meth c T [] 0 0 → p.tables.exec = Jvm.exec → c.code = bytes → c.maxLocals = maxL → s.vm.findClass y.cls = some m.cls → meth.name = y.name → Z.Warmed39 s.vm → T.heap = h0 → meth.sig.returnType = rt → meth.locks = false → Go p e below s rm.cells rm.slots Q T (entryFrame m as maxL)) :
    MQ l Z y bytes maxL rt ws rm as h0 Q := by
  refine MetFree.of_bodySF hp hisR ?_
  intro p e s m args below meth c s₁ Bd hml0 hP hK
  obtain ⟨rfl, hZ, hh⟩ := hP
  exact body p e s m below meth c s₁ (Stand.of_body Bd) Bd.exec Bd.bytes hml0 (findClass_of_methodNamed Bd.named) (name_of_methodNamed Bd.named Bd.method).1 hZ (by rw [← hh, Bd.state]; rfl) Bd.returns Bd.notSynchronized
theorem go_retI (X : Stand p l e R s m args below meth c T locs cells slots) (hx : p.tables.exec = Jvm.exec) (hlk : meth.locks = false) (hret : meth.sig.returnType = some .int) {pc : Nat} {Ls : Array Slot} {z : Int32} {rest : List Value} (hd : decode c.code pc = .ok (.ireturn, 1)) (eT : T.heap = h) (hq : Q (some (.int z)) h locs) (hc : cells ≤ C) (hs : slots ≤ S) :
    Go p e below s C S Q T (mkF m pc Ls (.int z :: rest)) := by
  obtain ⟨fs, hr, hrun, hended, hW, hsame⟩ := X.leave (v := some (.int z)) (fun h => by rw [hret] at h; cases h) hlk
  exact ⟨_, _, retOut X hx hret rfl (Or.inl ⟨rfl, Or.inl rfl, z, rfl⟩) hd hr, hrun, hended, _, _, rfl, by (show Q _ T.heap _); rw [eT]; exact hq, ⟨_, rfl⟩, hW, hsame.mono hc hs⟩
theorem go_retZ (X : Stand p l e R s m args below meth c T locs cells slots) (hx : p.tables.exec = Jvm.exec) (hlk : meth.locks = false) (hret : meth.sig.returnType = some .boolean) {pc : Nat} {Ls : Array Slot} {z : Int32} {rest : List Value} (hd : decode c.code pc = .ok (.ireturn, 1)) (eT : T.heap = h) (hq : Q (some (.int (z &&& 1))) h locs) (hc : cells ≤ C) (hs : slots ≤ S) :
    Go p e below s C S Q T (mkF m pc Ls (.int z :: rest)) := by
  obtain ⟨fs, hr, hrun, hended, hW, hsame⟩ := X.leave (v := some (.int (z &&& 1))) (fun h => by rw [hret] at h; cases h) hlk
  exact ⟨_, _, retN X hx (t := .boolean) hret (by simp) hd hr, hrun, hended, _, _, rfl, by (show Q _ T.heap _); rw [eT]; exact hq, ⟨_, rfl⟩, hW, hsame.mono hc hs⟩
theorem go_retJ (X : Stand p l e R s m args below meth c T locs cells slots) (hx : p.tables.exec = Jvm.exec) (hlk : meth.locks = false) (hret : meth.sig.returnType = some .long) {pc : Nat} {Ls : Array Slot} {z : Int64} {rest : List Value} (hd : decode c.code pc = .ok (.lreturn, 1)) (eT : T.heap = h) (hq : Q (some (.long z)) h locs) (hc : cells ≤ C) (hs : slots ≤ S) :
    Go p e below s C S Q T (mkF m pc Ls (.long z :: rest)) := by
  obtain ⟨fs, hr, hrun, hended, hW, hsame⟩ := X.leave (v := some (.long z)) (fun h => by rw [hret] at h; cases h) hlk
  exact ⟨_, _, retOut X hx hret rfl (Or.inr (Or.inl ⟨rfl, rfl, z, rfl⟩)) hd hr, hrun, hended, _, _, rfl, by (show Q _ T.heap _); rw [eT]; exact hq, ⟨_, rfl⟩, hW, hsame.mono hc hs⟩
theorem go_retA (X : Stand p l e R s m args below meth c T locs cells slots) (hx : p.tables.exec = Jvm.exec) (hlk : meth.locks = false) {ty : FieldType} (hret : meth.sig.returnType = some ty) (hty : ty.isReference = true) {pc : Nat} {Ls : Array Slot} {a : Addr} {rest : List Value} (hd : decode c.code pc = .ok (.areturn, 1)) (eT : T.heap = h) (hq : Q (some (.ref a)) h locs) (hc : cells ≤ C) (hs : slots ≤ S) :
    Go p e below s C S Q T (mkF m pc Ls (.ref a :: rest)) := by
  obtain ⟨fs, hr, hrun, hended, hW, hsame⟩ := X.leave (v := some (.ref a)) (fun h => by rw [hret] at h; cases h) hlk
  exact ⟨_, _, retOut X hx hret (by cases ty <;> first | rfl | cases hty) (Or.inr (Or.inr (Or.inr (Or.inr ⟨rfl, hty, rfl⟩)))) hd hr, hrun, hended, _, _, rfl, by (show Q _ T.heap _); rw [eT]; exact hq, ⟨_, rfl⟩, hW, hsame.mono hc hs⟩
theorem go_retV (X : Stand p l e R s m args below meth c T locs cells slots) (hx : p.tables.exec = Jvm.exec) (hlk : meth.locks = false) (hret : meth.sig.returnType = none) {pc : Nat} {Ls : Array Slot} (hd : decode c.code pc = .ok (.return_, 1)) (eT : T.heap = h) (hq : Q none h locs) (hc : cells ≤ C) (hs : slots ≤ S) :
    Go p e below s C S Q T (mkF m pc Ls []) := by
  obtain ⟨fs, hr, hrun, hended, hW, hsame⟩ := X.leave (v := none) (fun _ => rfl) hlk
  exact ⟨_, _, X.returnOut hx hret hd hr, hrun, hended, _, _, rfl, by (show Q _ T.heap _); rw [eT]; exact hq, ⟨_, rfl⟩, hW, hsame.mono hc hs⟩
/-- invokestatic by the callee's contract -/
theorem go_callS (X : Stand p l e R s m args below meth c T locs cells slots) (hx : p.tables.exec = Jvm.exec) (hZ : Z.Warmed39 s.vm) {own : String} {index : Nat} {y : MethodName} {bytes : ByteArray} {maxL : Nat} {rt : Option FieldType} {rm : Room} {as : Array Value} {Q' : Option Value → Heap → List Loc → Prop}
    (hown : s.vm.findClass own = some m.cls) (w1 : (Cond.methodLink own index y).before a0 Z = true) (w2 : (Cond.static y).before a0 Z = true) (w3 : (Cond.initialized y.cls).before a0 Z = true) (w4 : (Cond.code y bytes maxL rt).before a0 Z = true)
    (hy : y.cls ≠ "java/lang/invoke/MethodHandle" ∧ y.cls ≠ "java/lang/invoke/VarHandle") (eT : T.heap = h) (hM : MQ l Z y bytes maxL rt [] rm as h Q') (W : Nat) (hf : rm.frames + 1 ≤ R.frames) (hl : W + (maxL + 11) + rm.locals ≤ R.locals)
    (hg : g.method = m) (hsize : g.locals.size = c.maxLocals) {argsL rest : List Value} (hlen : ∀ sig, parseMethodDescriptor y.desc = some sig → argsL.length = sig.parameters.length)
    (hstack : g.stack = argsL.reverse ++ rest) (hW : 2 * g.monitorRoom + (rest.map fun v => v.category).sum ≤ W) (hdg : decode c.code g.pc = .ok (.invokestatic index, 3)) (has : argsL.toArray = as) (hcells : cells + rm.cells ≤ R.cells) (hslots : slots + rm.slots ≤ R.slots)
    (k : ∀ (T' : State) (v : Option Value) (L : List Loc), Stand p l e R s m args below meth c T' (locs ++ L) (cells + rm.cells) (slots + rm.slots) → Q' v T'.heap L → Go p e below s C S Q T' { g with pc := g.pc + 3, stack := v.toList ++ rest }) :
    Go p e below s C S Q T g := by
  obtain ⟨v, _, ⟨T', L', k', n'⟩, -, X', ⟨Lc, hQ, l1, y1, z1⟩, st⟩ := Jvm.LawKit.callS X hx (y := y) hown (mvT hZ w1) (mvT hZ w2) (mvT hZ w3) (mvT hZ w4) hy (backOf (W := W) hM hZ w4 w3 hf hl) hg hsize (argsL := argsL) (rest := rest) hlen hstack hW hdg (fun _ _ => ⟨has, eT, hcells, hslots⟩)
  dsimp only [Pt.U, Pt.locs, Pt.cells, Pt.slots] at X' l1 y1 z1 st hQ
  subst l1 y1 z1
  exact go_step st (k T' v Lc X' hQ)
theorem go_callSP (X : Stand p l e R s m args below meth c T locs cells slots) (hx : p.tables.exec = Jvm.exec) (hZ : Z.Warmed39 s.vm) {own : String} {index : Nat} {y : MethodName} {bytes : ByteArray} {maxL : Nat} {rt : Option FieldType} {rm : Room} {as : Array Value} {r : Option Value}
    (hown : s.vm.findClass own = some m.cls) (w1 : (Cond.methodLink own index y).before a0 Z = true) (w2 : (Cond.static y).before a0 Z = true) (w3 : (Cond.initialized y.cls).before a0 Z = true) (w4 : (Cond.code y bytes maxL rt).before a0 Z = true)
    (hy : y.cls ≠ "java/lang/invoke/MethodHandle" ∧ y.cls ≠ "java/lang/invoke/VarHandle") (eT : T.heap = h) (hM : MQ l Z y bytes maxL rt [] rm as h (QP r h)) (W : Nat) (hf : rm.frames + 1 ≤ R.frames) (hl : W + (maxL + 11) + rm.locals ≤ R.locals)
    (hg : g.method = m) (hsize : g.locals.size = c.maxLocals) {argsL rest : List Value} (hlen : ∀ sig, parseMethodDescriptor y.desc = some sig → argsL.length = sig.parameters.length)
    (hstack : g.stack = argsL.reverse ++ rest) (hW : 2 * g.monitorRoom + (rest.map fun v => v.category).sum ≤ W) (hdg : decode c.code g.pc = .ok (.invokestatic index, 3)) (has : argsL.toArray = as) (hrc : rm.cells = 0) (hrs : rm.slots = 0) (hcells : cells ≤ R.cells) (hslots : slots ≤ R.slots)
    (k : ∀ (T' : State), Stand p l e R s m args below meth c T' locs cells slots → T'.heap = h → Go p e below s C S Q T' { g with pc := g.pc + 3, stack := r.toList ++ rest }) :
    Go p e below s C S Q T g :=
  go_callS X hx hZ hown w1 w2 w3 w4 hy eT hM W hf hl hg hsize hlen hstack hW hdg has (by rw [hrc]; exact hcells) (by rw [hrs]; exact hslots) fun T' v L X' hQ => by
    obtain ⟨rfl, e', rfl⟩ := hQ
    rw [hrc, hrs, List.append_nil] at X'
    exact k T' X' e'
end Layer
/-! the heap's part of the layer: arrays of numbers as lists, one law a step, in the 'Go' form -/
def PA (Z : State) (h : Heap) (a : Addr) (ty : FieldType) (vs : List Value) : Prop := ∃ c : Cell, Arr Z h a c ty ∧ c.slots = vs.toArray ∧ vs.length < 2 ^ 31
def IA (Z : State) (h : Heap) (a : Addr) (xs : List Int32) : Prop := PA Z h a .int (xs.map Value.int)
def JA (Z : State) (h : Heap) (a : Addr) (xs : List Int64) : Prop := PA Z h a .long (xs.map Value.long)
def BA (Z : State) (h : Heap) (a : Addr) (xs : List Int32) : Prop := PA Z h a .byte (xs.map Value.int)
theorem getD_some {α : Type} {xs : List α} {i : Nat} {d : α} (h : i < xs.length) : xs[i]? = some (xs.getD i d) := by simp [List.getD, h]
section Heapy
variable {p : Program} {l : Launch} {e : Env} {R : Room} {s : State} {m : MethodId} {args : Array Value} {below : List Frame} {meth : Method} {c : Code} {T T' : State} {locs : List Loc} {cells slots C S : Nat} {Q : Option Value → Heap → List Loc → Prop} {g g' : JFrame} {h h' h0 : Heap} {Z : State} {a0 : Array Value} {a b : Addr} {ty ty' : FieldType} {vs vs' : List Value} {ws : List Addr} {sl : Nat} {v : Value}
theorem PA.lt (A : PA Z h a ty vs) : a < h.size := by obtain ⟨c, A, -⟩ := A; exact A.lt
theorem PA.ext (A : PA Z h a ty vs) (E : Ext h h') : PA Z h' a ty vs := by obtain ⟨c, A, r⟩ := A; exact ⟨c, A.ext E, r⟩
theorem PA.other (A : PA Z h b ty vs) (W : Wr h h' a sl v) (q : b ≠ a) : PA Z h' b ty vs := by obtain ⟨c, A, r⟩ := A; exact ⟨c, A.other W q, r⟩
theorem PA.keep (A : PA Z h a ty vs) (K : Keep h h' ws) (q : a ∉ ws) : PA Z h' a ty vs := by obtain ⟨c, A, r⟩ := A; exact ⟨c, ⟨K.2.1 a c A.1 q, A.2⟩, r⟩
theorem PA.set {i : Nat} (A : PA Z h a ty vs) (W : Wr h h' a i v) : PA Z h' a ty (vs.set i v) := by
  obtain ⟨c, A, r, r2⟩ := A
  refine ⟨_, A.same W, ?_, by simpa using r2⟩
  simp [Cell.setSlot, r]
theorem IA.lt {xs : List Int32} (A : IA Z h a xs) : a < h.size := PA.lt A
theorem IA.ext {xs : List Int32} (A : IA Z h a xs) (E : Ext h h') : IA Z h' a xs := PA.ext A E
theorem IA.other {xs : List Int32} (A : IA Z h b xs) (W : Wr h h' a sl v) (q : b ≠ a) : IA Z h' b xs := PA.other A W q
theorem IA.keep {xs : List Int32} (A : IA Z h a xs) (K : Keep h h' ws) (q : a ∉ ws) : IA Z h' a xs := PA.keep A K q
theorem JA.lt {xs : List Int64} (A : JA Z h a xs) : a < h.size := PA.lt A
theorem JA.ext {xs : List Int64} (A : JA Z h a xs) (E : Ext h h') : JA Z h' a xs := PA.ext A E
theorem JA.other {xs : List Int64} (A : JA Z h b xs) (W : Wr h h' a sl v) (q : b ≠ a) : JA Z h' b xs := PA.other A W q
theorem JA.keep {xs : List Int64} (A : JA Z h a xs) (K : Keep h h' ws) (q : a ∉ ws) : JA Z h' a xs := PA.keep A K q
theorem BA.lt {xs : List Int32} (A : BA Z h a xs) : a < h.size := PA.lt A
theorem BA.ext {xs : List Int32} (A : BA Z h a xs) (E : Ext h h') : BA Z h' a xs := PA.ext A E
theorem BA.other {xs : List Int32} (A : BA Z h b xs) (W : Wr h h' a sl v) (q : b ≠ a) : BA Z h' b xs := PA.other A W q
theorem BA.keep {xs : List Int32} (A : BA Z h a xs) (K : Keep h h' ws) (q : a ∉ ws) : BA Z h' a xs := PA.keep A K q
theorem Exa.keepK {K : String} (F : Exa Z h a K) (q : Keep h h' ws) : Exa Z h' a K := Exa.keep F q
/-- arrays of two kinds are two arrays; an object of a class is none -/
theorem pa_ne (A : PA Z h a ty vs) (B : PA Z h b ty' vs') (hn : ty ≠ ty') : a ≠ b := fun q => by
  subst q
  obtain ⟨c1, A1, -⟩ := A
  obtain ⟨c2, B1, -⟩ := B
  cases A1.1.symm.trans B1.1
  obtain ⟨-, k1, j1, comp1, q1⟩ := A1.2.1
  obtain ⟨-, k2, j2, comp2, q2⟩ := B1.2.1
  cases j1.symm.trans j2
  rw [q1] at q2
  cases q2
  exact hn rfl
theorem exa_pa {K : String} {k : Nat} (F : Exa Z h a K) (wi : (Cond.instantiable K k).before a0 Z = true) (A : PA Z h b ty vs) : a ≠ b := by
  obtain ⟨c, A, -⟩ := A
  exact ne_arr F wi A
theorem PA.slot {i : Nat} (A : PA Z h a ty vs) {w : Value} (hv : vs[i]? = some w) : ∃ c : Cell, Arr Z h a c ty ∧ i < c.slots.size ∧ c.slots[i]? = some w := by
  obtain ⟨c, A, r, -⟩ := A
  have hi := (List.getElem?_eq_some_iff.mp hv).1
  exact ⟨c, A, by rw [r]; simpa using hi, by rw [r]; simpa using hv⟩
theorem go_iaload (X : Stand p l e R s m args below meth c T locs cells slots) (hx : p.tables.exec = Jvm.exec) (hZ : Z.Warmed39 s.vm) (eT : T.heap = h) {xs : List Int32} (A : IA Z h a xs) {j w : Int32} (hj : ¬ j < 0) (hv : xs[j.toNatClampNeg]? = some w) {rest : List Value} (hg : g.method = m) (hs : g.stack = .int j :: .ref a :: rest) (hd : decode c.code g.pc = .ok (.iaload, 1))
    (k : Go p e below s C S Q T { g with pc := g.pc + 1, stack := .int w :: rest }) : Go p e below s C S Q T g := by
  obtain ⟨cl, A, hi, hv'⟩ := PA.slot A (w := .int w) (by rw [List.getElem?_map, hv]; rfl)
  exact go_step (X.iaload hx (j := j) (v := .int w) (by rw [eT]; exact A.1) (State.isArrayOf_alike hZ.alike A.2.1) A.2.2 (fun q => q.elim hj (fun q => Nat.not_le_of_lt hi q)) hv' hg hs hd) k
theorem go_laload (X : Stand p l e R s m args below meth c T locs cells slots) (hx : p.tables.exec = Jvm.exec) (hZ : Z.Warmed39 s.vm) (eT : T.heap = h) {xs : List Int64} (A : JA Z h a xs) {j : Int32} {w : Int64} (hj : ¬ j < 0) (hv : xs[j.toNatClampNeg]? = some w) {rest : List Value} (hg : g.method = m) (hs : g.stack = .int j :: .ref a :: rest) (hd : decode c.code g.pc = .ok (.laload, 1))
    (k : Go p e below s C S Q T { g with pc := g.pc + 1, stack := .long w :: rest }) : Go p e below s C S Q T g := by
  obtain ⟨cl, A, hi, hv'⟩ := PA.slot A (w := .long w) (by rw [List.getElem?_map, hv]; rfl)
  exact go_step (X.laload hx (j := j) (v := .long w) (by rw [eT]; exact A.1) (State.isArrayOf_alike hZ.alike A.2.1) A.2.2 (fun q => q.elim hj (fun q => Nat.not_le_of_lt hi q)) hv' hg hs hd) k
theorem go_baload (X : Stand p l e R s m args below meth c T locs cells slots) (hx : p.tables.exec = Jvm.exec) (hZ : Z.Warmed39 s.vm) (eT : T.heap = h) {xs : List Int32} (A : BA Z h a xs) {j w : Int32} (hj : ¬ j < 0) (hv : xs[j.toNatClampNeg]? = some w) {rest : List Value} (hg : g.method = m) (hs : g.stack = .int j :: .ref a :: rest) (hd : decode c.code g.pc = .ok (.baload, 1))
    (k : Go p e below s C S Q T { g with pc := g.pc + 1, stack := .int w :: rest }) : Go p e below s C S Q T g := by
  obtain ⟨cl, A, hi, hv'⟩ := PA.slot A (w := .int w) (by rw [List.getElem?_map, hv]; rfl)
  exact go_step (X.baloadBytes hx (j := j) (v := .int w) (by rw [eT]; exact A.1) (State.isArrayOf_alike hZ.alike A.2.1) A.2.2 (fun q => q.elim hj (fun q => Nat.not_le_of_lt hi q)) hv' hg hs hd) k
theorem go_alen (X : Stand p l e R s m args below meth c T locs cells slots) (hx : p.tables.exec = Jvm.exec) (hZ : Z.Warmed39 s.vm) (eT : T.heap = h) (A : PA Z h a ty vs) {z : Int32} (hz : vs.length.toInt32 = z) {rest : List Value} (hg : g.method = m) (hs : g.stack = .ref a :: rest) (hd : decode c.code g.pc = .ok (.arraylength, 1))
    (k : Go p e below s C S Q T { g with pc := g.pc + 1, stack := .int z :: rest }) : Go p e below s C S Q T g := by
  obtain ⟨cl, A, r, -⟩ := A
  have q : cl.slots.size.toInt32 = z := by rw [r]; simpa using hz
  subst q
  exact go_step (X.arraylength hx (by rw [eT]; exact A.1) (State.isArrayOf_alike hZ.alike A.2.1) hg hs hd) k
theorem go_iastore (X : Stand p l e R s m args below meth c T locs cells slots) (hx : p.tables.exec = Jvm.exec) (hZ : Z.Warmed39 s.vm) (eT : T.heap = h) {xs : List Int32} (A : IA Z h a xs) {j w : Int32} (hj : ¬ j < 0) (hl : j.toNatClampNeg < xs.length) {rest : List Value} (hg : g.method = m) (hs : g.stack = .int w :: .int j :: .ref a :: rest) (hd : decode c.code g.pc = .ok (.iastore, 1))
    (k : ∀ (T' : State) (h' : Heap), Stand p l e R s m args below meth c T' (locs ++ [⟨a, j.toNatClampNeg⟩]) cells slots → T'.heap = h' → Wr h h' a j.toNatClampNeg (.int w) → IA Z h' a (xs.set j.toNatClampNeg w) → Go p e below s C S Q T' { g with pc := g.pc + 1, stack := rest }) : Go p e below s C S Q T g := by
  have A' := A
  obtain ⟨cl, A, r, -⟩ := A
  obtain ⟨T', h', X', e', W, st⟩ := stI X hx hZ eT A (j := j) (x := w) (fun q => q.elim hj (fun q => by rw [r] at q; simp at q; omega)) hg hs hd
  exact go_step st (k T' h' X' e' W (by rw [IA, List.map_set]; exact PA.set A' W))
theorem go_lastore (X : Stand p l e R s m args below meth c T locs cells slots) (hx : p.tables.exec = Jvm.exec) (hZ : Z.Warmed39 s.vm) (eT : T.heap = h) {xs : List Int64} (A : JA Z h a xs) {j : Int32} {w : Int64} (hj : ¬ j < 0) (hl : j.toNatClampNeg < xs.length) {rest : List Value} (hg : g.method = m) (hs : g.stack = .long w :: .int j :: .ref a :: rest) (hd : decode c.code g.pc = .ok (.lastore, 1))
    (k : ∀ (T' : State) (h' : Heap), Stand p l e R s m args below meth c T' (locs ++ [⟨a, j.toNatClampNeg⟩]) cells slots → T'.heap = h' → Wr h h' a j.toNatClampNeg (.long w) → JA Z h' a (xs.set j.toNatClampNeg w) → Go p e below s C S Q T' { g with pc := g.pc + 1, stack := rest }) : Go p e below s C S Q T g := by
  have A' := A
  obtain ⟨cl, A, r, -⟩ := A
  obtain ⟨T', h', X', e', W, st⟩ := stJ X hx hZ eT A (j := j) (x := w) (fun q => q.elim hj (fun q => by rw [r] at q; simp at q; omega)) hg hs hd
  exact go_step st (k T' h' X' e' W (by rw [JA, List.map_set]; exact PA.set A' W))
theorem go_bastore (X : Stand p l e R s m args below meth c T locs cells slots) (hx : p.tables.exec = Jvm.exec) (hZ : Z.Warmed39 s.vm) (eT : T.heap = h) {xs : List Int32} (A : BA Z h a xs) {j w : Int32} (hj : ¬ j < 0) (hl : j.toNatClampNeg < xs.length) {rest : List Value} (hg : g.method = m) (hs : g.stack = .int w :: .int j :: .ref a :: rest) (hd : decode c.code g.pc = .ok (.bastore, 1))
    (k : ∀ (T' : State) (h' : Heap), Stand p l e R s m args below meth c T' (locs ++ [⟨a, j.toNatClampNeg⟩]) cells slots → T'.heap = h' → Wr h h' a j.toNatClampNeg (.int w.toInt8.toInt32) → BA Z h' a (xs.set j.toNatClampNeg w.toInt8.toInt32) → Go p e below s C S Q T' { g with pc := g.pc + 1, stack := rest }) : Go p e below s C S Q T g := by
  have A' := A
  obtain ⟨cl, A, r, -⟩ := A
  obtain ⟨T', h', X', e', W, st⟩ := stB X hx hZ eT A (j := j) (x := w) (fun q => q.elim hj (fun q => by rw [r] at q; simp at q; omega)) hg hs hd
  exact go_step st (k T' h' X' e' W (by rw [BA, List.map_set]; exact PA.set A' W))
/-- newarray of a kind of numbers: 'n' of them at most 'cap' -/
theorem go_newP (X : Stand p l e R s m args below meth c T locs cells slots) (hx : p.tables.exec = Jvm.exec) (hZ : Z.Warmed39 s.vm) {aty : ArrayType} (w : (Cond.arrayClass (newarray.typeOf aty)).before a0 Z = true) (eT : T.heap = h) {n : Int32} {rest : List Value} (cap : Nat) (hn : ¬ n < 0) (hcap : n.toNatClampNeg ≤ cap) (hb : cap * 8 ≤ 536870912) (hc : cells + 1 ≤ R.cells) (hl : slots + cap ≤ R.slots) (hg : g.method = m) (hs : g.stack = .int n :: rest) (hd : decode c.code g.pc = .ok (.newarray aty, 2))
    (k : ∀ (T' : State) (h' : Heap) (b : Addr), Stand p l e R s m args below meth c T' locs (cells + 1) (slots + cap) → T'.heap = h' → Ext h h' → b = h.size → PA Z h' b (newarray.typeOf aty) (List.replicate n.toNatClampNeg (defaultValue (newarray.typeOf aty))) → Go p e below s C S Q T' { g with pc := g.pc + 2, stack := .ref b :: rest }) : Go p e below s C S Q T g := by
  obtain ⟨T', h', cA, X', e', E, A, st⟩ := newP X hx hZ w eT hg hd hs hn hcap hb hc hl
  refine go_step st (k T' h' _ X' e' E rfl ⟨_, A, by simp [newA], ?_⟩)
  have := n.toInt_lt
  simp only [List.length_replicate, Int32.toNatClampNeg]; omega
theorem go_new (X : Stand p l e R s m args below meth c T locs cells slots) (hx : p.tables.exec = Jvm.exec) (hZ : Z.Warmed39 s.vm) {own K : String} {index n : Nat} (hown : s.vm.findClass own = some m.cls) (w : (Cond.classLink own index K).before a0 Z = true) (wi : (Cond.instantiable K n).before a0 Z = true) (wz : (Cond.initialized K).before a0 Z = true) (eT : T.heap = h) (hc : cells + 1 ≤ R.cells) (hl : slots + n ≤ R.slots) (hg : g.method = m) (hd : decode c.code g.pc = .ok (.new index, 3))
    (k : ∀ (T' : State) (h' : Heap) (b : Addr), Stand p l e R s m args below meth c T' locs (cells + 1) (slots + n) → T'.heap = h' → Ext h h' → b = h.size → Exa Z h' b K → (∀ {O nm d : String} {ty : FieldType}, Laid Z a0 K O nm d → parseFieldDescriptor d = some ty → Fld Z h' b O nm d (defaultValue ty)) → Go p e below s C S Q T' { g with pc := g.pc + 3, stack := .ref b :: g.stack }) : Go p e below s C S Q T g := by
  obtain ⟨T', h', X', e', E, A, D, -, st⟩ := newO X hx hZ hown w wi wz eT hg hd hc hl
  exact go_step st (k T' h' _ X' e' E rfl A D)
theorem go_getF (X : Stand p l e R s m args below meth c T locs cells slots) (hx : p.tables.exec = Jvm.exec) (hZ : Z.Warmed39 s.vm) {own O n d : String} {index : Nat} (hown : s.vm.findClass own = some m.cls) (w : (Cond.fieldLink own index O n d).before a0 Z = true) (eT : T.heap = h) {w0 : Value} (F : Fld Z h a O n d w0) {rest : List Value} (hg : g.method = m) (hs : g.stack = .ref a :: rest) (hd : decode c.code g.pc = .ok (.getfield index, 3))
    (k : ∀ (T' : State), Stand p l e R s m args below meth c T' locs cells slots → T'.heap = h → Go p e below s C S Q T' { g with pc := g.pc + 3, stack := w0 :: rest }) : Go p e below s C S Q T g := by
  obtain ⟨T', X', e', st⟩ := getF X hx hZ hown (host := "") (Or.inl w) Via.refl eT F hg hs hd
  exact go_step st (k T' X' e')
theorem go_putF (X : Stand p l e R s m args below meth c T locs cells slots) (hx : p.tables.exec = Jvm.exec) (hZ : Z.Warmed39 s.vm) {own O n d K : String} {index kk : Nat} {ty : FieldType} (hown : s.vm.findClass own = some m.cls) (w : (Cond.fieldLink own index O n d).before a0 Z = true) (eT : T.heap = h) {w0 old : Value} (F : Fld Z h a O n d old) (E : Exa Z h a K) (L : (Cond.lays K O n d).before a0 Z = true ∨ ((Cond.laysFinal K O n d).before a0 Z = true ∧ own = O ∧ meth.name = "<init>")) (wi : (Cond.instantiable K kk).before a0 Z = true) (hty : parseFieldDescriptor d = some ty) (hn : narrow ty w0 = w0) (hf : fits ty w0 = true) {rest : List Value} (hg : g.method = m) (hs : g.stack = w0 :: .ref a :: rest) (hd : decode c.code g.pc = .ok (.putfield index, 3))
    (k : ∀ (T' : State) (h' : Heap), Stand p l e R s m args below meth c T' (locs ++ [⟨a, Jvm.RoadKit.slotOf Z O n d⟩]) cells slots → T'.heap = h' → Wr h h' a (Jvm.RoadKit.slotOf Z O n d) w0 → Fld Z h' a O n d w0 → Go p e below s C S Q T' { g with pc := g.pc + 3, stack := rest }) : Go p e below s C S Q T g := by
  obtain ⟨T', h', X', e', W, st⟩ := putF X hx hZ hown (host := "") (Or.inl w) Via.refl eT F E L wi hty hn hf hg hs hd
  exact go_step st (k T' h' X' e' W (F.same W))
theorem go_init (X : Stand p l e R s m args below meth c T locs cells slots) (hx : p.tables.exec = Jvm.exec) (hZ : Z.Warmed39 s.vm) {own : String} {idx : Nat} (hown : s.vm.findClass own = some m.cls) (w1 : (Cond.methodLink own idx Lib.objectInit).before a0 Z = true) (w2 : (Cond.instanceMethod Lib.objectInit).before a0 Z = true) (w3 : (Cond.code Lib.objectInit ⟨#[0xb1]⟩ 1 none).before a0 Z = true) (eT : T.heap = h) (hg : g.method = m) (hsize : g.locals.size = c.maxLocals) {rest : List Value} (hs : g.stack = .ref a :: rest) (hd : decode c.code g.pc = .ok (.invokespecial idx, 3)) (hf : 1 ≤ R.frames) (W : Nat) (hW : 2 * g.monitorRoom + (rest.map fun v => v.category).sum ≤ W) (hl : W + 12 ≤ R.locals)
    (k : ∀ (T' : State), Stand p l e R s m args below meth c T' locs cells slots → T'.heap = h → Go p e below s C S Q T' { g with pc := g.pc + 3, stack := rest }) : Go p e below s C S Q T g := by
  obtain ⟨T', X', e', st⟩ := initO X hx hZ hown w1 w2 w3 eT hg hsize hs hd hf (W := W) hW hl
  exact go_step st (k T' X' e')
/-- a constructor by its contract -/
theorem go_callC (X : Stand p l e R s m args below meth c T locs cells slots) (hx : p.tables.exec = Jvm.exec) (hZ : Z.Warmed39 s.vm) {own : String} {index : Nat} {y : MethodName} {bytes : ByteArray} {maxL : Nat} {rm : Room} {as : Array Value} {Q' : Option Value → Heap → List Loc → Prop} (hy1 : y.name = "<init>")
    (hown : s.vm.findClass own = some m.cls) (w1 : (Cond.methodLink own index y).before a0 Z = true) (w2 : (Cond.instanceMethod y).before a0 Z = true) (w3 : (Cond.initialized y.cls).before a0 Z = true) (w4 : (Cond.code y bytes maxL none).before a0 Z = true)
    (hy : y.cls ≠ "java/lang/invoke/MethodHandle" ∧ y.cls ≠ "java/lang/invoke/VarHandle") (eT : T.heap = h) (hM : MQ l Z y bytes maxL none [] rm as h Q') (W : Nat) (hf : rm.frames + 1 ≤ R.frames) (hl : W + (maxL + 11) + rm.locals ≤ R.locals)
    (hg : g.method = m) (hsize : g.locals.size = c.maxLocals) {argsL rest : List Value} (hlen : ∀ sig, parseMethodDescriptor y.desc = some sig → argsL.length = sig.parameters.length)
    (hstack : g.stack = argsL.reverse ++ .ref a :: rest) (hW : 2 * g.monitorRoom + (rest.map fun v => v.category).sum ≤ W) (hdg : decode c.code g.pc = .ok (.invokespecial index, 3)) (has : (.ref a :: argsL).toArray = as) (hcells : cells + rm.cells ≤ R.cells) (hslots : slots + rm.slots ≤ R.slots)
    (k : ∀ (T' : State) (v : Option Value) (L : List Loc), Stand p l e R s m args below meth c T' (locs ++ L) (cells + rm.cells) (slots + rm.slots) → Q' v T'.heap L → Go p e below s C S Q T' { g with pc := g.pc + 3, stack := v.toList ++ rest }) :
    Go p e below s C S Q T g := by
  obtain ⟨v, _, ⟨T', L', k', n'⟩, -, X', ⟨Lc, hQ, l1, y1, z1⟩, st⟩ := X.specialBack hx (y := y) hy1 hown (mvT hZ w1) (mvT hZ w2) (mvT hZ w4) hy (backOf (W := W) hM hZ w4 w3 hf hl) hg hsize (Steps.refl _) (a := a) (argsL := argsL) (rest := rest) hlen hstack hW hdg (fun _ _ => ⟨has, eT, hcells, hslots⟩)
  dsimp only [Pt.U, Pt.locs, Pt.cells, Pt.slots] at X' l1 y1 z1 st hQ
  subst l1 y1 z1
  exact go_step (fun t k => st.trans k) (k T' v Lc X' hQ)
/-- an instance method by its contract -/
theorem go_callV (X : Stand p l e R s m args below meth c T locs cells slots) (hx : p.tables.exec = Jvm.exec) (hZ : Z.Warmed39 s.vm) {own : String} {index : Nat} {y : MethodName} {bytes : ByteArray} {maxL : Nat} {rt : Option FieldType} {rm : Room} {as : Array Value} {Q' : Option Value → Heap → List Loc → Prop}
    (hown : s.vm.findClass own = some m.cls) (w1 : (Cond.methodLink own index y).before a0 Z = true) (w2 : (Cond.declares y).before a0 Z = true) (w5 : (Cond.selects y.cls y y).before a0 Z = true) (w6 : (Cond.instanceMethod y).before a0 Z = true) (w3 : (Cond.initialized y.cls).before a0 Z = true) (w4 : (Cond.code y bytes maxL rt).before a0 Z = true)
    (hy : y.cls ≠ "java/lang/invoke/MethodHandle" ∧ y.cls ≠ "java/lang/invoke/VarHandle") (eT : T.heap = h) (E : Exa Z h a y.cls) (hM : MQ l Z y bytes maxL rt [] rm as h Q') (W : Nat) (hf : rm.frames + 1 ≤ R.frames) (hl : W + (maxL + 11) + rm.locals ≤ R.locals)
    (hg : g.method = m) (hsize : g.locals.size = c.maxLocals) {argsL rest : List Value} (hlen : ∀ sig, parseMethodDescriptor y.desc = some sig → argsL.length = sig.parameters.length)
    (hstack : g.stack = argsL.reverse ++ .ref a :: rest) (hW : 2 * g.monitorRoom + (rest.map fun v => v.category).sum ≤ W) (hdg : decode c.code g.pc = .ok (.invokevirtual index, 3)) (has : (.ref a :: argsL).toArray = as) (hcells : cells + rm.cells ≤ R.cells) (hslots : slots + rm.slots ≤ R.slots)
    (k : ∀ (T' : State) (v : Option Value) (L : List Loc), Stand p l e R s m args below meth c T' (locs ++ L) (cells + rm.cells) (slots + rm.slots) → Q' v T'.heap L → Go p e below s C S Q T' { g with pc := g.pc + 3, stack := v.toList ++ rest }) :
    Go p e below s C S Q T g := by
  obtain ⟨cq, kq, qa, qb, qc⟩ := isOf hZ eT E
  obtain ⟨v, _, ⟨T', L', k', n'⟩, -, X', ⟨Lc, hQ, l1, y1, z1⟩, st⟩ := X.virtualBack hx (y := y) (z := y) hown (mvT hZ w1) (mvT hZ w2) (notFace_of_selects (args := #[]) (mvT hZ w5)) (mvT hZ w5) (mvT hZ w6) hy (backOf (W := W) hM hZ w4 w3 hf hl) qa qc hg hsize (Steps.refl _) (argsL := argsL) (rest := rest) hlen hstack hW hdg (fun _ _ => ⟨has, eT, hcells, hslots⟩)
  dsimp only [Pt.U, Pt.locs, Pt.cells, Pt.slots] at X' l1 y1 z1 st hQ
  subst l1 y1 z1
  exact go_step (fun t k => st.trans k) (k T' v Lc X' hQ)
theorem go_callVP (X : Stand p l e R s m args below meth c T locs cells slots) (hx : p.tables.exec = Jvm.exec) (hZ : Z.Warmed39 s.vm) {own : String} {index : Nat} {y : MethodName} {bytes : ByteArray} {maxL : Nat} {rt : Option FieldType} {rm : Room} {as : Array Value} {r : Option Value}
    (hown : s.vm.findClass own = some m.cls) (w1 : (Cond.methodLink own index y).before a0 Z = true) (w2 : (Cond.declares y).before a0 Z = true) (w5 : (Cond.selects y.cls y y).before a0 Z = true) (w6 : (Cond.instanceMethod y).before a0 Z = true) (w3 : (Cond.initialized y.cls).before a0 Z = true) (w4 : (Cond.code y bytes maxL rt).before a0 Z = true)
    (hy : y.cls ≠ "java/lang/invoke/MethodHandle" ∧ y.cls ≠ "java/lang/invoke/VarHandle") (eT : T.heap = h) (E : Exa Z h a y.cls) (hM : MQ l Z y bytes maxL rt [] rm as h (QP r h)) (W : Nat) (hf : rm.frames + 1 ≤ R.frames) (hl : W + (maxL + 11) + rm.locals ≤ R.locals)
    (hg : g.method = m) (hsize : g.locals.size = c.maxLocals) {argsL rest : List Value} (hlen : ∀ sig, parseMethodDescriptor y.desc = some sig → argsL.length = sig.parameters.length)
    (hstack : g.stack = argsL.reverse ++ .ref a :: rest) (hW : 2 * g.monitorRoom + (rest.map fun v => v.category).sum ≤ W) (hdg : decode c.code g.pc = .ok (.invokevirtual index, 3)) (has : (.ref a :: argsL).toArray = as) (hrc : rm.cells = 0) (hrs : rm.slots = 0) (hcells : cells ≤ R.cells) (hslots : slots ≤ R.slots)
    (k : ∀ (T' : State), Stand p l e R s m args below meth c T' locs cells slots → T'.heap = h → Go p e below s C S Q T' { g with pc := g.pc + 3, stack := r.toList ++ rest }) :
    Go p e below s C S Q T g :=
  go_callV X hx hZ hown w1 w2 w5 w6 w3 w4 hy eT E hM W hf hl hg hsize hlen hstack hW hdg has (by rw [hrc]; exact hcells) (by rw [hrs]; exact hslots) fun T' v L X' hQ => by
    obtain ⟨rfl, e', rfl⟩ := hQ
    rw [hrc, hrs, List.append_nil] at X'
    exact k T' X' e'
/-- a private instance method by its contract -/
theorem go_callR (X : Stand p l e R s m args below meth c T locs cells slots) (hx : p.tables.exec = Jvm.exec) (hZ : Z.Warmed39 s.vm) {own : String} {index : Nat} {y : MethodName} {bytes : ByteArray} {maxL : Nat} {rt : Option FieldType} {rm : Room} {as : Array Value} {Q' : Option Value → Heap → List Loc → Prop}
    (hown : s.vm.findClass own = some m.cls) (w1 : (Cond.methodLink own index y).before a0 Z = true) (w6 : (Cond.instanceMethod y).before a0 Z = true) (w5 : (Cond.selects y.cls y y).before a0 Z = true) (w7 : (Cond.privateMethod y).before a0 Z = true) (w3 : (Cond.initialized y.cls).before a0 Z = true) (w4 : (Cond.code y bytes maxL rt).before a0 Z = true)
    (hy : y.cls ≠ "java/lang/invoke/MethodHandle" ∧ y.cls ≠ "java/lang/invoke/VarHandle") (eT : T.heap = h) {K : String} (E : Exa Z h a K) (hM : MQ l Z y bytes maxL rt [] rm as h Q') (W : Nat) (hf : rm.frames + 1 ≤ R.frames) (hl : W + (maxL + 11) + rm.locals ≤ R.locals)
    (hg : g.method = m) (hsize : g.locals.size = c.maxLocals) {argsL rest : List Value} (hlen : ∀ sig, parseMethodDescriptor y.desc = some sig → argsL.length = sig.parameters.length)
    (hstack : g.stack = argsL.reverse ++ .ref a :: rest) (hW : 2 * g.monitorRoom + (rest.map fun v => v.category).sum ≤ W) (hdg : decode c.code g.pc = .ok (.invokevirtual index, 3)) (has : (.ref a :: argsL).toArray = as) (hcells : cells + rm.cells ≤ R.cells) (hslots : slots + rm.slots ≤ R.slots)
    (k : ∀ (T' : State) (v : Option Value) (L : List Loc), Stand p l e R s m args below meth c T' (locs ++ L) (cells + rm.cells) (slots + rm.slots) → Q' v T'.heap L → Go p e below s C S Q T' { g with pc := g.pc + 3, stack := v.toList ++ rest }) :
    Go p e below s C S Q T g := by
  obtain ⟨cq, q1, q2⟩ := E.cell
  obtain ⟨v, _, ⟨T', L', k', n'⟩, -, X', ⟨Lc, hQ, l1, y1, z1⟩, st⟩ := X.privateBack hx (y := y) hown (mvT hZ w1) (mvT hZ w6) (mvT hZ w5) (Cond.privateMethod_at (mvP hZ w7 (args := #[]))) (mvT hZ w4) hy (backOf (W := W) hM hZ w4 w3 hf hl) hg hsize (Steps.refl _) (a := a) (by rw [eT]; exact q1) q2 (argsL := argsL) (rest := rest) hlen hstack hW hdg (fun _ _ => ⟨has, eT, hcells, hslots⟩)
  dsimp only [Pt.U, Pt.locs, Pt.cells, Pt.slots] at X' l1 y1 z1 st hQ
  subst l1 y1 z1
  exact go_step (fun t k => st.trans k) (k T' v Lc X' hQ)
theorem go_callRP (X : Stand p l e R s m args below meth c T locs cells slots) (hx : p.tables.exec = Jvm.exec) (hZ : Z.Warmed39 s.vm) {own : String} {index : Nat} {y : MethodName} {bytes : ByteArray} {maxL : Nat} {rt : Option FieldType} {rm : Room} {as : Array Value} {r : Option Value}
    (hown : s.vm.findClass own = some m.cls) (w1 : (Cond.methodLink own index y).before a0 Z = true) (w6 : (Cond.instanceMethod y).before a0 Z = true) (w5 : (Cond.selects y.cls y y).before a0 Z = true) (w7 : (Cond.privateMethod y).before a0 Z = true) (w3 : (Cond.initialized y.cls).before a0 Z = true) (w4 : (Cond.code y bytes maxL rt).before a0 Z = true)
    (hy : y.cls ≠ "java/lang/invoke/MethodHandle" ∧ y.cls ≠ "java/lang/invoke/VarHandle") (eT : T.heap = h) {K : String} (E : Exa Z h a K) (hM : MQ l Z y bytes maxL rt [] rm as h (QP r h)) (W : Nat) (hf : rm.frames + 1 ≤ R.frames) (hl : W + (maxL + 11) + rm.locals ≤ R.locals)
    (hg : g.method = m) (hsize : g.locals.size = c.maxLocals) {argsL rest : List Value} (hlen : ∀ sig, parseMethodDescriptor y.desc = some sig → argsL.length = sig.parameters.length)
    (hstack : g.stack = argsL.reverse ++ .ref a :: rest) (hW : 2 * g.monitorRoom + (rest.map fun v => v.category).sum ≤ W) (hdg : decode c.code g.pc = .ok (.invokevirtual index, 3)) (has : (.ref a :: argsL).toArray = as) (hrc : rm.cells = 0) (hrs : rm.slots = 0) (hcells : cells ≤ R.cells) (hslots : slots ≤ R.slots)
    (k : ∀ (T' : State), Stand p l e R s m args below meth c T' locs cells slots → T'.heap = h → Go p e below s C S Q T' { g with pc := g.pc + 3, stack := r.toList ++ rest }) :
    Go p e below s C S Q T g :=
  go_callR X hx hZ hown w1 w6 w5 w7 w3 w4 hy eT E hM W hf hl hg hsize hlen hstack hW hdg has (by rw [hrc]; exact hcells) (by rw [hrs]; exact hslots) fun T' v L X' hQ => by
    obtain ⟨rfl, e', rfl⟩ := hQ
    rw [hrc, hrs, List.append_nil] at X'
    exact k T' X' e'
theorem go_join (X : Stand p l e R s m args below meth c T locs cells slots) (k1 : (∀ (T' : State), Stand p l e R s m args below meth c T' locs cells slots → T'.heap = h → Go p e below s C S Q T' g') → Go p e below s C S Q T g) (k2 : ∀ (T' : State), Stand p l e R s m args below meth c T' locs cells slots → T'.heap = h → Go p e below s C S Q T' g') : Go p e below s C S Q T g := k1 k2
end Heapy

theorem pd_0 : parseMethodDescriptor "(I)V" = some ⟨[.int], none⟩ := by decide +kernel
theorem pd_1 : parseMethodDescriptor "(IJ)V" = some ⟨[.int, .long], none⟩ := by decide +kernel
theorem pd_2 : parseMethodDescriptor "(I)Z" = some ⟨[.int], some .boolean⟩ := by decide +kernel
theorem pd_3 : parseMethodDescriptor "(I)J" = some ⟨[.int], some .long⟩ := by decide +kernel
theorem own_i (v : Int32) : ¬ (v &&& (1 : Int32)) < 0 ∧ (v &&& (1 : Int32)).toNatClampNeg < 2 := by
  have m2 := c_and v (1 : Int32) (by decide)
  rw [show (1 : Int32).toInt = 1 by decide] at m2
  constructor
  · rw [Int32.lt_iff_toInt_lt, show (0 : Int32).toInt = 0 by decide]; omega
  · unfold Int32.toNatClampNeg; omega
theorem own_ij (v : Int32) : (v &&& (1 : Int32) = 0 ∧ (1 : Int32) - (v &&& (1 : Int32)) = 1) ∨ (v &&& (1 : Int32) = 1 ∧ (1 : Int32) - (v &&& (1 : Int32)) = 0) := by
  have m2 := c_and v (1 : Int32) (by decide)
  rw [show (1 : Int32).toInt = 1 by decide] at m2
  have : (v &&& (1 : Int32)).toInt = 0 ∨ (v &&& (1 : Int32)).toInt = 1 := by omega
  rcases this with h | h
  · have e : v &&& (1 : Int32) = 0 := Int32.toInt_inj.mp (h.trans (by decide))
    rw [e]; exact Or.inl ⟨rfl, by decide⟩
  · have e : v &&& (1 : Int32) = 1 := Int32.toInt_inj.mp (h.trans (by decide))
    rw [e]; exact Or.inr ⟨rfl, by decide⟩
theorem own_j (v : Int32) : ¬ ((1 : Int32) - (v &&& (1 : Int32))) < 0 ∧ ((1 : Int32) - (v &&& (1 : Int32))).toNatClampNeg < 2 := by
  rcases own_ij v with h | h <;> rw [h.2] <;> decide

theorem d1_0 : decode prog_7_method_1_code 0 = .ok (.aload_n 0, 1) := by decide +kernel
theorem d1_1 : decode prog_7_method_1_code 1 = .ok (.invokespecial 1, 3) := by decide +kernel
theorem d1_4 : decode prog_7_method_1_code 4 = .ok (.aload_n 0, 1) := by decide +kernel
theorem d1_5 : decode prog_7_method_1_code 5 = .ok (.iload_n 1, 1) := by decide +kernel
theorem d1_6 : decode prog_7_method_1_code 6 = .ok (.newarray .long, 2) := by decide +kernel
theorem d1_8 : decode prog_7_method_1_code 8 = .ok (.putfield 7, 3) := by decide +kernel
theorem d1_11 : decode prog_7_method_1_code 11 = .ok (.aload_n 0, 1) := by decide +kernel
theorem d1_12 : decode prog_7_method_1_code 12 = .ok (.iload_n 1, 1) := by decide +kernel
theorem d1_13 : decode prog_7_method_1_code 13 = .ok (.newarray .long, 2) := by decide +kernel
theorem d1_15 : decode prog_7_method_1_code 15 = .ok (.putfield 13, 3) := by decide +kernel
theorem d1_18 : decode prog_7_method_1_code 18 = .ok (.return_, 1) := by decide +kernel
theorem ef1 (m : MethodId) (v0 : Addr) : entryFrame m #[(.ref v0), (.int (2 : Int32))] 2 = (mkF m 0 #[.val (.ref v0), .val (.int (2 : Int32))] []) := by first | (simp [entryFrame, mkF, argsToLocals, Value.category]; done) | rfl
theorem pn1 : plainName "com/example/thicket/thicket/dense/Sums" = true := by first | (simp [plainName, overriddenIn]; done) | decide +kernel
def Q1 (Z : State) (v0 : Addr) (h0 : Heap) (n0 : Nat) (v : Option Value) (h : Heap) (L : List Loc) : Prop := v = none ∧ Fr n0 L ∧ Keep h0 h [v0] ∧ ∃ lo hi : Addr, h0.size ≤ lo ∧ h0.size ≤ hi ∧ lo ≠ hi ∧ Fld Z h v0 "com/example/thicket/thicket/dense/Sums" "low" "[J" (.ref lo) ∧ Fld Z h v0 "com/example/thicket/thicket/dense/Sums" "high" "[J" (.ref hi) ∧ JA Z h lo [(0 : Int64), (0 : Int64)] ∧ JA Z h hi [(0 : Int64), (0 : Int64)]
set_option maxRecDepth 65536 in
set_option maxHeartbeats 40000000 in
theorem mq1 (l : Launch) (Z : State) (a0 : Array Value) (hw : ∀ d ∈ tables_1, d.before a0 Z = true) (v0 : Addr)  (h0 : Heap) (n0 : Nat) (Z0 : n0 ≤ h0.size) (P0 : Exa Z h0 v0 "com/example/thicket/thicket/dense/Sums") (P1 : Fld Z h0 v0 "com/example/thicket/thicket/dense/Sums" "low" "[J" .null) (P2 : Fld Z h0 v0 "com/example/thicket/thicket/dense/Sums" "high" "[J" .null) (g_v0 : n0 ≤ v0) : MQ l Z (⟨"com/example/thicket/thicket/dense/Sums", "<init>", "(I)V"⟩ : MethodName) prog_7_method_1_code 2 none [] ({ frames := 1, cells := 2, slots := 4, locals := 12 } : Room) #[(.ref v0), (.int (2 : Int32))] h0 (Q1 Z v0 h0 n0) := by
  refine mq_of (plainFor_of_name pn1) ?_
  intro p e s m below meth c T0 X0 hx hby hml hown hnm hZ e0 hret hlk
  rw [ef1]
  have N0 := Fr.nil n0
  have K0 := Keep.refl h0 [v0]
  refine go_step (T' := T0) (g' := (mkF m 1 #[.val (.ref v0), .val (.int (2 : Int32))] [(.ref v0)])) (fun t k => XS.aloadN X0.here hx rfl (hb hby d1_0) rfl rfl k) ?_
  refine go_init X0 hx hZ hown (hw _ (List.mem_of_getElem? (i := 7) rfl)) (hw _ (List.mem_of_getElem? (i := 8) rfl)) (hw _ (List.mem_of_getElem? (i := 9) rfl)) e0 (g := (mkF m 1 #[.val (.ref v0), .val (.int (2 : Int32))] [(.ref v0)])) rfl (by rw [hml]; rfl) rfl (hb hby d1_1) (by decide) 0 (by show 2 * 0 + _ ≤ _; exact Nat.le_of_eq rfl) (by decide) (fun T1 X2 e3 => ?_)
  show Go p e below s _ _ _ T1 (mkF m 4 #[.val (.ref v0), .val (.int (2 : Int32))] [])
  refine go_step (T' := T1) (g' := (mkF m 5 #[.val (.ref v0), .val (.int (2 : Int32))] [(.ref v0)])) (fun t k => XS.aloadN X2.here hx rfl (hb hby d1_4) rfl rfl k) ?_
  refine go_step (T' := T1) (g' := (mkF m 6 #[.val (.ref v0), .val (.int (2 : Int32))] [(.int (2 : Int32)), (.ref v0)])) (fun t k => XS.iloadN X2.here hx rfl (hb hby d1_5) rfl  k) ?_
  refine go_newP X2 hx hZ (hw _ (List.mem_of_getElem? (i := 10) rfl)) e3 2 (by decide) (by decide) (by decide) (by decide) (by decide) (g := (mkF m 6 #[.val (.ref v0), .val (.int (2 : Int32))] [(.int (2 : Int32)), (.ref v0)])) rfl rfl (hb hby d1_6) (fun T4 h5 b6 X7 e8 E9 q10 A11 => ?_)
  have ne12 : v0 ≠ b6 := Nat.ne_of_lt (Nat.lt_of_lt_of_eq P0.lt q10.symm)
  have sz13 : h0.size ≤ b6 := Nat.le_trans K0.1 (Nat.le_of_eq q10.symm)
  have g14 : n0 ≤ b6 := Nat.le_trans Z0 sz13
  have K15 := K0.ext E9
  have A16 : JA Z h5 b6 [(0 : Int64), (0 : Int64)] := A11
  show Go p e below s _ _ _ T4 (mkF m 8 #[.val (.ref v0), .val (.int (2 : Int32))] [(.ref b6), (.ref v0)])
  have G17 : Fld Z h5 v0 "com/example/thicket/thicket/dense/Sums" "low" "[J" .null := (P1.ext E9)
  have G18 : Exa Z h5 v0 "com/example/thicket/thicket/dense/Sums" := (P0.ext E9)
  refine go_putF X7 hx hZ hown (hw _ (List.mem_of_getElem? (i := 11) rfl)) e8 G17 G18 (Or.inr ⟨(hw _ (List.mem_of_getElem? (i := 12) rfl)), rfl, hnm⟩) (hw _ (List.mem_of_getElem? (i := 2) rfl)) (ty := (.array .long)) (by decide) rfl rfl (g := (mkF m 8 #[.val (.ref v0), .val (.int (2 : Int32))] [(.ref b6), (.ref v0)])) rfl rfl (hb hby d1_8) (fun T19 h20 X21 e22 W23 F24 => ?_)
  have K25 := K15.wr W23 (Or.inl (List.mem_of_getElem? (i := 0) rfl))
  have N26 := Fr.snoc X21 N0 g_v0
  show Go p e below s _ _ _ T19 (mkF m 11 #[.val (.ref v0), .val (.int (2 : Int32))] [])
  refine go_step (T' := T19) (g' := (mkF m 12 #[.val (.ref v0), .val (.int (2 : Int32))] [(.ref v0)])) (fun t k => XS.aloadN X21.here hx rfl (hb hby d1_11) rfl rfl k) ?_
  refine go_step (T' := T19) (g' := (mkF m 13 #[.val (.ref v0), .val (.int (2 : Int32))] [(.int (2 : Int32)), (.ref v0)])) (fun t k => XS.iloadN X21.here hx rfl (hb hby d1_12) rfl  k) ?_
  refine go_newP X21 hx hZ (hw _ (List.mem_of_getElem? (i := 10) rfl)) e22 2 (by decide) (by decide) (by decide) (by decide) (by decide) (g := (mkF m 13 #[.val (.ref v0), .val (.int (2 : Int32))] [(.int (2 : Int32)), (.ref v0)])) rfl rfl (hb hby d1_13) (fun T27 h28 b29 X30 e31 E32 q33 A34 => ?_)
  have G36 : JA Z h20 b6 [(0 : Int64), (0 : Int64)] := (A16.other W23 (Ne.symm ne12))
  have ne35 : b6 ≠ b29 := Nat.ne_of_lt (Nat.lt_of_lt_of_eq G36.lt q33.symm)
  have G38 : Exa Z h20 v0 "com/example/thicket/thicket/dense/Sums" := (Exa.wr W23 G18)
  have ne37 : v0 ≠ b29 := Nat.ne_of_lt (Nat.lt_of_lt_of_eq G38.lt q33.symm)
  have sz39 : h0.size ≤ b29 := Nat.le_trans K25.1 (Nat.le_of_eq q33.symm)
  have g40 : n0 ≤ b29 := Nat.le_trans Z0 sz39
  have K41 := K25.ext E32
  have A42 : JA Z h28 b29 [(0 : Int64), (0 : Int64)] := A34
  show Go p e below s _ _ _ T27 (mkF m 15 #[.val (.ref v0), .val (.int (2 : Int32))] [(.ref b29), (.ref v0)])
  have G43 : Fld Z h28 v0 "com/example/thicket/thicket/dense/Sums" "high" "[J" .null := ((Fld.other W23 (P2.ext E9) (Or.inr (slot_ne (Or.inr (hw _ (List.mem_of_getElem? (i := 14) rfl))) (Or.inr (hw _ (List.mem_of_getElem? (i := 12) rfl))) (by decide) (t := (.array .long)) (t' := (.array .long)) (by decide) (by decide)))).ext E32)
  have G44 : Exa Z h28 v0 "com/example/thicket/thicket/dense/Sums" := (G38.ext E32)
  refine go_putF X30 hx hZ hown (hw _ (List.mem_of_getElem? (i := 13) rfl)) e31 G43 G44 (Or.inr ⟨(hw _ (List.mem_of_getElem? (i := 14) rfl)), rfl, hnm⟩) (hw _ (List.mem_of_getElem? (i := 2) rfl)) (ty := (.array .long)) (by decide) rfl rfl (g := (mkF m 15 #[.val (.ref v0), .val (.int (2 : Int32))] [(.ref b29), (.ref v0)])) rfl rfl (hb hby d1_15) (fun T45 h46 X47 e48 W49 F50 => ?_)
  have K51 := K41.wr W49 (Or.inl (List.mem_of_getElem? (i := 0) rfl))
  have N52 := Fr.snoc X47 N26 g_v0
  show Go p e below s _ _ _ T45 (mkF m 18 #[.val (.ref v0), .val (.int (2 : Int32))] [])
  have G53 : Fld Z h46 v0 "com/example/thicket/thicket/dense/Sums" "low" "[J" (.ref b6) := (Fld.other W49 (F24.ext E32) (Or.inr (slot_ne (Or.inr (hw _ (List.mem_of_getElem? (i := 12) rfl))) (Or.inr (hw _ (List.mem_of_getElem? (i := 14) rfl))) (by decide) (t := (.array .long)) (t' := (.array .long)) (by decide) (by decide))))
  have G54 : JA Z h46 b6 [(0 : Int64), (0 : Int64)] := ((G36.ext E32).other W49 (Ne.symm ne12))
  have G55 : JA Z h46 b29 [(0 : Int64), (0 : Int64)] := (A42.other W49 (Ne.symm ne37))
  exact go_retV X47 hx hlk hret (hb hby d1_18) e48 ⟨rfl, N52, K51, ⟨b6, b29, sz13, sz39, ne35, G53, F50, G54, G55⟩⟩ (by decide) (by decide)
theorem d3_0 : decode prog_7_method_2_code 0 = .ok (.aload_n 0, 1) := by decide +kernel
theorem d3_1 : decode prog_7_method_2_code 1 = .ok (.getfield 7, 3) := by decide +kernel
theorem d3_4 : decode prog_7_method_2_code 4 = .ok (.iload_n 1, 1) := by decide +kernel
theorem d3_5 : decode prog_7_method_2_code 5 = .ok (.laload, 1) := by decide +kernel
theorem d3_6 : decode prog_7_method_2_code 6 = .ok (.lload_n 2, 1) := by decide +kernel
theorem d3_7 : decode prog_7_method_2_code 7 = .ok (.ladd, 1) := by decide +kernel
theorem d3_8 : decode prog_7_method_2_code 8 = .ok (.lstore 4, 2) := by decide +kernel
theorem d3_10 : decode prog_7_method_2_code 10 = .ok (.lload 4, 2) := by decide +kernel
theorem d3_12 : decode prog_7_method_2_code 12 = .ok (.lconst 0, 1) := by decide +kernel
theorem d3_13 : decode prog_7_method_2_code 13 = .ok (.lcmp, 1) := by decide +kernel
theorem d3_14 : decode prog_7_method_2_code 14 = .ok (.ifCond .ge 21, 3) := by decide +kernel
theorem d3_17 : decode prog_7_method_2_code 17 = .ok (.lload 4, 2) := by decide +kernel
theorem d3_19 : decode prog_7_method_2_code 19 = .ok (.ldc2_w 18, 3) := by decide +kernel
theorem d3_22 : decode prog_7_method_2_code 22 = .ok (.land, 1) := by decide +kernel
theorem d3_23 : decode prog_7_method_2_code 23 = .ok (.lstore 4, 2) := by decide +kernel
theorem d3_25 : decode prog_7_method_2_code 25 = .ok (.aload_n 0, 1) := by decide +kernel
theorem d3_26 : decode prog_7_method_2_code 26 = .ok (.getfield 13, 3) := by decide +kernel
theorem d3_29 : decode prog_7_method_2_code 29 = .ok (.iload_n 1, 1) := by decide +kernel
theorem d3_30 : decode prog_7_method_2_code 30 = .ok (.dup2, 1) := by decide +kernel
theorem d3_31 : decode prog_7_method_2_code 31 = .ok (.laload, 1) := by decide +kernel
theorem d3_32 : decode prog_7_method_2_code 32 = .ok (.lconst 1, 1) := by decide +kernel
theorem d3_33 : decode prog_7_method_2_code 33 = .ok (.ladd, 1) := by decide +kernel
theorem d3_34 : decode prog_7_method_2_code 34 = .ok (.lastore, 1) := by decide +kernel
theorem d3_35 : decode prog_7_method_2_code 35 = .ok (.aload_n 0, 1) := by decide +kernel
theorem d3_36 : decode prog_7_method_2_code 36 = .ok (.getfield 7, 3) := by decide +kernel
theorem d3_39 : decode prog_7_method_2_code 39 = .ok (.iload_n 1, 1) := by decide +kernel
theorem d3_40 : decode prog_7_method_2_code 40 = .ok (.lload 4, 2) := by decide +kernel
theorem d3_42 : decode prog_7_method_2_code 42 = .ok (.lastore, 1) := by decide +kernel
theorem d3_43 : decode prog_7_method_2_code 43 = .ok (.return_, 1) := by decide +kernel
def f3_lo (v1 : Int32) (v2 : Int64) (xs : List Int64) (ys : List Int64) : List Int64 := (if ((xs.getD (v1).toNatClampNeg 0) + v2) < (0 : Int64) then (xs.set (v1).toNatClampNeg (((xs.getD (v1).toNatClampNeg 0) + v2) &&& (9223372036854775807 : Int64))) else (xs.set (v1).toNatClampNeg ((xs.getD (v1).toNatClampNeg 0) + v2)))
def f3_hi (v1 : Int32) (v2 : Int64) (xs : List Int64) (ys : List Int64) : List Int64 := (if ((xs.getD (v1).toNatClampNeg 0) + v2) < (0 : Int64) then (ys.set (v1).toNatClampNeg ((ys.getD (v1).toNatClampNeg 0) + (1 : Int64))) else ys)
theorem ef3 (m : MethodId) (v0 : Addr) (v1 : Int32) (v2 : Int64) : entryFrame m #[(.ref v0), (.int v1), (.long v2)] 6 = (mkF m 0 #[.val (.ref v0), .val (.int v1), .val (.long v2), .second, .unset, .unset] []) := by first | (simp [entryFrame, mkF, argsToLocals, Value.category]; done) | rfl
theorem pn3 : plainName "com/example/thicket/thicket/dense/Sums" = true := by first | (simp [plainName, overriddenIn]; done) | decide +kernel
def Q3 (Z : State) (v0 : Addr) (v1 : Int32) (v2 : Int64) (lo : Addr) (hi : Addr) (xs : List Int64) (ys : List Int64) (h0 : Heap) (n0 : Nat) (v : Option Value) (h : Heap) (L : List Loc) : Prop := v = none ∧ Fr n0 L ∧ Keep h0 h [lo, hi] ∧ JA Z h lo (f3_lo v1 v2 xs ys) ∧ JA Z h hi (f3_hi v1 v2 xs ys)
set_option maxRecDepth 65536 in
set_option maxHeartbeats 40000000 in
theorem mq3 (l : Launch) (Z : State) (a0 : Array Value) (hw : ∀ d ∈ tables_1, d.before a0 Z = true) (v0 : Addr) (v1 : Int32) (v2 : Int64) (lo : Addr) (hi : Addr) (xs : List Int64) (ys : List Int64) (h0 : Heap) (n0 : Nat) (Z0 : n0 ≤ h0.size) (P0 : Exa Z h0 v0 "com/example/thicket/thicket/dense/Sums") (P1 : Fld Z h0 v0 "com/example/thicket/thicket/dense/Sums" "low" "[J" (.ref lo)) (P2 : Fld Z h0 v0 "com/example/thicket/thicket/dense/Sums" "high" "[J" (.ref hi)) (P3 : JA Z h0 lo xs) (P4 : JA Z h0 hi ys) (hlh : lo ≠ hi) (hi0 : ¬ v1 < 0) (hi1 : v1.toNatClampNeg < xs.length) (hi2 : v1.toNatClampNeg < ys.length) (g_lo : n0 ≤ lo) (g_hi : n0 ≤ hi) : MQ l Z (⟨"com/example/thicket/thicket/dense/Sums", "add", "(IJ)V"⟩ : MethodName) prog_7_method_2_code 6 none [] ({ frames := 0, cells := 0, slots := 0, locals := 0 } : Room) #[(.ref v0), (.int v1), (.long v2)] h0 (Q3 Z v0 v1 v2 lo hi xs ys h0 n0) := by
  refine mq_of (plainFor_of_name pn3) ?_
  intro p e s m below meth c T0 X0 hx hby hml hown hnm hZ e0 hret hlk
  rw [ef3]
  have N0 := Fr.nil n0
  have K0 := Keep.refl h0 [lo, hi]
  have ne1 : v0 ≠ lo := exa_pa P0 (hw _ (List.mem_of_getElem? (i := 2) rfl)) P3
  have ne2 : v0 ≠ hi := exa_pa P0 (hw _ (List.mem_of_getElem? (i := 2) rfl)) P4
  refine go_step (T' := T0) (g' := (mkF m 1 #[.val (.ref v0), .val (.int v1), .val (.long v2), .second, .unset, .unset] [(.ref v0)])) (fun t k => XS.aloadN X0.here hx rfl (hb hby d3_0) rfl rfl k) ?_
  refine go_getF X0 hx hZ hown (hw _ (List.mem_of_getElem? (i := 11) rfl)) e0 P1 (g := (mkF m 1 #[.val (.ref v0), .val (.int v1), .val (.long v2), .second, .unset, .unset] [(.ref v0)])) rfl rfl (hb hby d3_1) (fun T3 X4 e5 => ?_)
  show Go p e below s _ _ _ T3 (mkF m 4 #[.val (.ref v0), .val (.int v1), .val (.long v2), .second, .unset, .unset] [(.ref lo)])
  refine go_step (T' := T3) (g' := (mkF m 5 #[.val (.ref v0), .val (.int v1), .val (.long v2), .second, .unset, .unset] [(.int v1), (.ref lo)])) (fun t k => XS.iloadN X4.here hx rfl (hb hby d3_4) rfl  k) ?_
  refine go_laload X4 hx hZ e5 P3 hi0 (getD_some (d := 0) hi1) (g := (mkF m 5 #[.val (.ref v0), .val (.int v1), .val (.long v2), .second, .unset, .unset] [(.int v1), (.ref lo)])) rfl rfl (hb hby d3_5) ?_
  show Go p e below s _ _ _ T3 (mkF m 6 #[.val (.ref v0), .val (.int v1), .val (.long v2), .second, .unset, .unset] [(.long (xs.getD (v1).toNatClampNeg 0))])
  refine go_step (T' := T3) (g' := (mkF m 7 #[.val (.ref v0), .val (.int v1), .val (.long v2), .second, .unset, .unset] [(.long v2), (.long (xs.getD (v1).toNatClampNeg 0))])) (fun t k => XS.lloadN X4.here hx rfl (hb hby d3_6) rfl  k) ?_
  refine go_step (T' := T3) (g' := (mkF m 8 #[.val (.ref v0), .val (.int v1), .val (.long v2), .second, .unset, .unset] [(.long ((xs.getD (v1).toNatClampNeg 0) + v2))])) (fun t k => XS.ladd X4.here hx rfl (hb hby d3_7) rfl k) ?_
  refine go_step (T' := T3) (g' := (mkF m 10 #[.val (.ref v0), .val (.int v1), .val (.long v2), .second, .val (.long ((xs.getD (v1).toNatClampNeg 0) + v2)), .second] [])) (fun t k => XS.lstore X4.here hx rfl (hb hby d3_8) rfl (l' := #[.val (.ref v0), .val (.int v1), .val (.long v2), .second, .val (.long ((xs.getD (v1).toNatClampNeg 0) + v2)), .second]) rfl k) ?_
  refine go_step (T' := T3) (g' := (mkF m 12 #[.val (.ref v0), .val (.int v1), .val (.long v2), .second, .val (.long ((xs.getD (v1).toNatClampNeg 0) + v2)), .second] [(.long ((xs.getD (v1).toNatClampNeg 0) + v2))])) (fun t k => XS.lload X4.here hx rfl (hb hby d3_10) rfl  k) ?_
  refine go_step (T' := T3) (g' := (mkF m 13 #[.val (.ref v0), .val (.int v1), .val (.long v2), .second, .val (.long ((xs.getD (v1).toNatClampNeg 0) + v2)), .second] [(.long (0 : Int64)), (.long ((xs.getD (v1).toNatClampNeg 0) + v2))])) (fun t k => XS.lconst X4.here hx rfl (hb hby d3_12) k) ?_
  refine go_step (T' := T3) (g' := (mkF m 14 #[.val (.ref v0), .val (.int v1), .val (.long v2), .second, .val (.long ((xs.getD (v1).toNatClampNeg 0) + v2)), .second] [(.int (lcmpW ((xs.getD (v1).toNatClampNeg 0) + v2) (0 : Int64)))])) (fun t k => XS.lcmp X4.here hx rfl (hb hby d3_13) rfl k) ?_
  by_cases hc6 : ((xs.getD (v1).toNatClampNeg 0) + v2) < (0 : Int64)
  · refine go_step (T' := T3) (g' := (mkF m 17 #[.val (.ref v0), .val (.int v1), .val (.long v2), .second, .val (.long ((xs.getD (v1).toNatClampNeg 0) + v2)), .second] [])) (fun t k => XS.ifNo X4.here hx rfl (hb hby d3_14) rfl ((if0 _ _).trans (tlt ((lw_lt _ _).mpr hc6)).2.1) k) ?_
    refine go_step (T' := T3) (g' := (mkF m 19 #[.val (.ref v0), .val (.int v1), .val (.long v2), .second, .val (.long ((xs.getD (v1).toNatClampNeg 0) + v2)), .second] [(.long ((xs.getD (v1).toNatClampNeg 0) + v2))])) (fun t k => XS.lload X4.here hx rfl (hb hby d3_17) rfl  k) ?_
    refine go_step (T' := T3) (g' := (mkF m 22 #[.val (.ref v0), .val (.int v1), .val (.long v2), .second, .val (.long ((xs.getD (v1).toNatClampNeg 0) + v2)), .second] [(.long (9223372036854775807 : Int64)), (.long ((xs.getD (v1).toNatClampNeg 0) + v2))])) (X4.ldc2Long hx hown (mvT hZ (hw _ (List.mem_of_getElem? (i := 35) rfl))) (g := (mkF m 19 #[.val (.ref v0), .val (.int v1), .val (.long v2), .second, .val (.long ((xs.getD (v1).toNatClampNeg 0) + v2)), .second] [(.long ((xs.getD (v1).toNatClampNeg 0) + v2))])) rfl (hb hby d3_19)) ?_
    refine go_step (T' := T3) (g' := (mkF m 23 #[.val (.ref v0), .val (.int v1), .val (.long v2), .second, .val (.long ((xs.getD (v1).toNatClampNeg 0) + v2)), .second] [(.long (((xs.getD (v1).toNatClampNeg 0) + v2) &&& (9223372036854775807 : Int64)))])) (fun t k => XS.land X4.here hx rfl (hb hby d3_22) rfl k) ?_
    refine go_step (T' := T3) (g' := (mkF m 25 #[.val (.ref v0), .val (.int v1), .val (.long v2), .second, .val (.long (((xs.getD (v1).toNatClampNeg 0) + v2) &&& (9223372036854775807 : Int64))), .second] [])) (fun t k => XS.lstore X4.here hx rfl (hb hby d3_23) rfl (l' := #[.val (.ref v0), .val (.int v1), .val (.long v2), .second, .val (.long (((xs.getD (v1).toNatClampNeg 0) + v2) &&& (9223372036854775807 : Int64))), .second]) rfl k) ?_
    refine go_step (T' := T3) (g' := (mkF m 26 #[.val (.ref v0), .val (.int v1), .val (.long v2), .second, .val (.long (((xs.getD (v1).toNatClampNeg 0) + v2) &&& (9223372036854775807 : Int64))), .second] [(.ref v0)])) (fun t k => XS.aloadN X4.here hx rfl (hb hby d3_25) rfl rfl k) ?_
    refine go_getF X4 hx hZ hown (hw _ (List.mem_of_getElem? (i := 13) rfl)) e5 P2 (g := (mkF m 26 #[.val (.ref v0), .val (.int v1), .val (.long v2), .second, .val (.long (((xs.getD (v1).toNatClampNeg 0) + v2) &&& (9223372036854775807 : Int64))), .second] [(.ref v0)])) rfl rfl (hb hby d3_26) (fun T7 X8 e9 => ?_)
    show Go p e below s _ _ _ T7 (mkF m 29 #[.val (.ref v0), .val (.int v1), .val (.long v2), .second, .val (.long (((xs.getD (v1).toNatClampNeg 0) + v2) &&& (9223372036854775807 : Int64))), .second] [(.ref hi)])
    refine go_step (T' := T7) (g' := (mkF m 30 #[.val (.ref v0), .val (.int v1), .val (.long v2), .second, .val (.long (((xs.getD (v1).toNatClampNeg 0) + v2) &&& (9223372036854775807 : Int64))), .second] [(.int v1), (.ref hi)])) (fun t k => XS.iloadN X8.here hx rfl (hb hby d3_29) rfl  k) ?_
    refine go_step (T' := T7) (g' := (mkF m 31 #[.val (.ref v0), .val (.int v1), .val (.long v2), .second, .val (.long (((xs.getD (v1).toNatClampNeg 0) + v2) &&& (9223372036854775807 : Int64))), .second] [(.int v1), (.ref hi), (.int v1), (.ref hi)])) (fun t k => Jvm.Free.XT.dup2 X8.here hx rfl (hb hby d3_30) rfl rfl rfl k) ?_
    refine go_laload X8 hx hZ e9 P4 hi0 (getD_some (d := 0) hi2) (g := (mkF m 31 #[.val (.ref v0), .val (.int v1), .val (.long v2), .second, .val (.long (((xs.getD (v1).toNatClampNeg 0) + v2) &&& (9223372036854775807 : Int64))), .second] [(.int v1), (.ref hi), (.int v1), (.ref hi)])) rfl rfl (hb hby d3_31) ?_
    show Go p e below s _ _ _ T7 (mkF m 32 #[.val (.ref v0), .val (.int v1), .val (.long v2), .second, .val (.long (((xs.getD (v1).toNatClampNeg 0) + v2) &&& (9223372036854775807 : Int64))), .second] [(.long (ys.getD (v1).toNatClampNeg 0)), (.int v1), (.ref hi)])
    refine go_step (T' := T7) (g' := (mkF m 33 #[.val (.ref v0), .val (.int v1), .val (.long v2), .second, .val (.long (((xs.getD (v1).toNatClampNeg 0) + v2) &&& (9223372036854775807 : Int64))), .second] [(.long (1 : Int64)), (.long (ys.getD (v1).toNatClampNeg 0)), (.int v1), (.ref hi)])) (fun t k => XS.lconst X8.here hx rfl (hb hby d3_32) k) ?_
    refine go_step (T' := T7) (g' := (mkF m 34 #[.val (.ref v0), .val (.int v1), .val (.long v2), .second, .val (.long (((xs.getD (v1).toNatClampNeg 0) + v2) &&& (9223372036854775807 : Int64))), .second] [(.long ((ys.getD (v1).toNatClampNeg 0) + (1 : Int64))), (.int v1), (.ref hi)])) (fun t k => XS.ladd X8.here hx rfl (hb hby d3_33) rfl k) ?_
    refine go_lastore X8 hx hZ e9 P4 hi0 hi2 (g := (mkF m 34 #[.val (.ref v0), .val (.int v1), .val (.long v2), .second, .val (.long (((xs.getD (v1).toNatClampNeg 0) + v2) &&& (9223372036854775807 : Int64))), .second] [(.long ((ys.getD (v1).toNatClampNeg 0) + (1 : Int64))), (.int v1), (.ref hi)])) rfl rfl (hb hby d3_34) (fun T10 h11 X12 e13 W14 A15 => ?_)
    have K16 := K0.wr W14 (Or.inl (List.mem_of_getElem? (i := 1) rfl))
    have N17 := Fr.snoc X12 N0 g_hi
    have A18 : JA Z h11 hi (ys.set (v1).toNatClampNeg ((ys.getD (v1).toNatClampNeg 0) + (1 : Int64))) := A15
    show Go p e below s _ _ _ T10 (mkF m 35 #[.val (.ref v0), .val (.int v1), .val (.long v2), .second, .val (.long (((xs.getD (v1).toNatClampNeg 0) + v2) &&& (9223372036854775807 : Int64))), .second] [])
    refine go_step (T' := T10) (g' := (mkF m 36 #[.val (.ref v0), .val (.int v1), .val (.long v2), .second, .val (.long (((xs.getD (v1).toNatClampNeg 0) + v2) &&& (9223372036854775807 : Int64))), .second] [(.ref v0)])) (fun t k => XS.aloadN X12.here hx rfl (hb hby d3_35) rfl rfl k) ?_
    have G19 : Fld Z h11 v0 "com/example/thicket/thicket/dense/Sums" "low" "[J" (.ref lo) := (Fld.other W14 P1 (Or.inl ne2))
    refine go_getF X12 hx hZ hown (hw _ (List.mem_of_getElem? (i := 11) rfl)) e13 G19 (g := (mkF m 36 #[.val (.ref v0), .val (.int v1), .val (.long v2), .second, .val (.long (((xs.getD (v1).toNatClampNeg 0) + v2) &&& (9223372036854775807 : Int64))), .second] [(.ref v0)])) rfl rfl (hb hby d3_36) (fun T20 X21 e22 => ?_)
    show Go p e below s _ _ _ T20 (mkF m 39 #[.val (.ref v0), .val (.int v1), .val (.long v2), .second, .val (.long (((xs.getD (v1).toNatClampNeg 0) + v2) &&& (9223372036854775807 : Int64))), .second] [(.ref lo)])
    refine go_step (T' := T20) (g' := (mkF m 40 #[.val (.ref v0), .val (.int v1), .val (.long v2), .second, .val (.long (((xs.getD (v1).toNatClampNeg 0) + v2) &&& (9223372036854775807 : Int64))), .second] [(.int v1), (.ref lo)])) (fun t k => XS.iloadN X21.here hx rfl (hb hby d3_39) rfl  k) ?_
    refine go_step (T' := T20) (g' := (mkF m 42 #[.val (.ref v0), .val (.int v1), .val (.long v2), .second, .val (.long (((xs.getD (v1).toNatClampNeg 0) + v2) &&& (9223372036854775807 : Int64))), .second] [(.long (((xs.getD (v1).toNatClampNeg 0) + v2) &&& (9223372036854775807 : Int64))), (.int v1), (.ref lo)])) (fun t k => XS.lload X21.here hx rfl (hb hby d3_40) rfl  k) ?_
    have G23 : JA Z h11 lo xs := (P3.other W14 hlh)
    refine go_lastore X21 hx hZ e22 G23 hi0 hi1 (g := (mkF m 42 #[.val (.ref v0), .val (.int v1), .val (.long v2), .second, .val (.long (((xs.getD (v1).toNatClampNeg 0) + v2) &&& (9223372036854775807 : Int64))), .second] [(.long (((xs.getD (v1).toNatClampNeg 0) + v2) &&& (9223372036854775807 : Int64))), (.int v1), (.ref lo)])) rfl rfl (hb hby d3_42) (fun T24 h25 X26 e27 W28 A29 => ?_)
    have K30 := K16.wr W28 (Or.inl (List.mem_of_getElem? (i := 0) rfl))
    have N31 := Fr.snoc X26 N17 g_lo
    have A32 : JA Z h25 lo (xs.set (v1).toNatClampNeg (((xs.getD (v1).toNatClampNeg 0) + v2) &&& (9223372036854775807 : Int64))) := A29
    show Go p e below s _ _ _ T24 (mkF m 43 #[.val (.ref v0), .val (.int v1), .val (.long v2), .second, .val (.long (((xs.getD (v1).toNatClampNeg 0) + v2) &&& (9223372036854775807 : Int64))), .second] [])
    have G33 : JA Z h25 hi (ys.set (v1).toNatClampNeg ((ys.getD (v1).toNatClampNeg 0) + (1 : Int64))) := (A18.other W28 (Ne.symm hlh))
    exact go_retV X26 hx hlk hret (hb hby d3_43) e27 ⟨rfl, N31, K30, (by unfold f3_lo; rw [if_pos hc6]; exact A32), (by unfold f3_hi; rw [if_pos hc6]; exact G33)⟩ (by decide) (by decide)
  · refine go_step (T' := T3) (g' := (mkF m 35 #[.val (.ref v0), .val (.int v1), .val (.long v2), .second, .val (.long ((xs.getD (v1).toNatClampNeg 0) + v2)), .second] [])) (fun t k => XS.ifYes X4.here hx rfl (pc0 := 14) (pc' := 35) rfl (hb hby d3_14) rfl ((if0 _ _).trans (flt (fun q => hc6 ((lw_lt _ _).mp q))).2.1) (by decide) (by decide) k) ?_
    refine go_step (T' := T3) (g' := (mkF m 36 #[.val (.ref v0), .val (.int v1), .val (.long v2), .second, .val (.long ((xs.getD (v1).toNatClampNeg 0) + v2)), .second] [(.ref v0)])) (fun t k => XS.aloadN X4.here hx rfl (hb hby d3_35) rfl rfl k) ?_
    refine go_getF X4 hx hZ hown (hw _ (List.mem_of_getElem? (i := 11) rfl)) e5 P1 (g := (mkF m 36 #[.val (.ref v0), .val (.int v1), .val (.long v2), .second, .val (.long ((xs.getD (v1).toNatClampNeg 0) + v2)), .second] [(.ref v0)])) rfl rfl (hb hby d3_36) (fun T34 X35 e36 => ?_)
    show Go p e below s _ _ _ T34 (mkF m 39 #[.val (.ref v0), .val (.int v1), .val (.long v2), .second, .val (.long ((xs.getD (v1).toNatClampNeg 0) + v2)), .second] [(.ref lo)])
    refine go_step (T' := T34) (g' := (mkF m 40 #[.val (.ref v0), .val (.int v1), .val (.long v2), .second, .val (.long ((xs.getD (v1).toNatClampNeg 0) + v2)), .second] [(.int v1), (.ref lo)])) (fun t k => XS.iloadN X35.here hx rfl (hb hby d3_39) rfl  k) ?_
    refine go_step (T' := T34) (g' := (mkF m 42 #[.val (.ref v0), .val (.int v1), .val (.long v2), .second, .val (.long ((xs.getD (v1).toNatClampNeg 0) + v2)), .second] [(.long ((xs.getD (v1).toNatClampNeg 0) + v2)), (.int v1), (.ref lo)])) (fun t k => XS.lload X35.here hx rfl (hb hby d3_40) rfl  k) ?_
    refine go_lastore X35 hx hZ e36 P3 hi0 hi1 (g := (mkF m 42 #[.val (.ref v0), .val (.int v1), .val (.long v2), .second, .val (.long ((xs.getD (v1).toNatClampNeg 0) + v2)), .second] [(.long ((xs.getD (v1).toNatClampNeg 0) + v2)), (.int v1), (.ref lo)])) rfl rfl (hb hby d3_42) (fun T37 h38 X39 e40 W41 A42 => ?_)
    have K43 := K0.wr W41 (Or.inl (List.mem_of_getElem? (i := 0) rfl))
    have N44 := Fr.snoc X39 N0 g_lo
    have A45 : JA Z h38 lo (xs.set (v1).toNatClampNeg ((xs.getD (v1).toNatClampNeg 0) + v2)) := A42
    show Go p e below s _ _ _ T37 (mkF m 43 #[.val (.ref v0), .val (.int v1), .val (.long v2), .second, .val (.long ((xs.getD (v1).toNatClampNeg 0) + v2)), .second] [])
    have G46 : JA Z h38 hi ys := (P4.other W41 (Ne.symm hlh))
    exact go_retV X39 hx hlk hret (hb hby d3_43) e40 ⟨rfl, N44, K43, (by unfold f3_lo; rw [if_neg hc6]; exact A45), (by unfold f3_hi; rw [if_neg hc6]; exact G46)⟩ (by decide) (by decide)
theorem own_len3_lo (v1 : Int32) (v2 : Int64) (xs ys : List Int64) : (f3_lo v1 v2 xs ys).length = xs.length := by unfold f3_lo; split <;> simp
theorem own_len3_hi (v1 : Int32) (v2 : Int64) (xs ys : List Int64) : (f3_hi v1 v2 xs ys).length = ys.length := by unfold f3_hi; split <;> simp
theorem d4_0 : decode prog_7_method_4_code 0 = .ok (.aload_n 0, 1) := by decide +kernel
theorem d4_1 : decode prog_7_method_4_code 1 = .ok (.getfield 13, 3) := by decide +kernel
theorem d4_4 : decode prog_7_method_4_code 4 = .ok (.iload_n 1, 1) := by decide +kernel
theorem d4_5 : decode prog_7_method_4_code 5 = .ok (.laload, 1) := by decide +kernel
theorem d4_6 : decode prog_7_method_4_code 6 = .ok (.lconst 0, 1) := by decide +kernel
theorem d4_7 : decode prog_7_method_4_code 7 = .ok (.lcmp, 1) := by decide +kernel
theorem d4_8 : decode prog_7_method_4_code 8 = .ok (.ifCond .ne 7, 3) := by decide +kernel
theorem d4_11 : decode prog_7_method_4_code 11 = .ok (.iconst 1, 1) := by decide +kernel
theorem d4_12 : decode prog_7_method_4_code 12 = .ok (.goto 4, 3) := by decide +kernel
theorem d4_15 : decode prog_7_method_4_code 15 = .ok (.iconst 0, 1) := by decide +kernel
theorem d4_16 : decode prog_7_method_4_code 16 = .ok (.ireturn, 1) := by decide +kernel
def z4_8_0 (v1 : Int32) (ys : List Int64) : Int32 := (if (ys.getD (v1).toNatClampNeg 0) = (0 : Int64) then (1 : Int32) else (0 : Int32))
def f4_ret (v1 : Int32) (ys : List Int64) : Int32 := ((z4_8_0 v1 ys) &&& (1 : Int32))
theorem ef4 (m : MethodId) (v0 : Addr) (v1 : Int32) : entryFrame m #[(.ref v0), (.int v1)] 2 = (mkF m 0 #[.val (.ref v0), .val (.int v1)] []) := by first | (simp [entryFrame, mkF, argsToLocals, Value.category]; done) | rfl
theorem pn4 : plainName "com/example/thicket/thicket/dense/Sums" = true := by first | (simp [plainName, overriddenIn]; done) | decide +kernel
set_option maxRecDepth 65536 in
set_option maxHeartbeats 40000000 in
theorem mq4 (l : Launch) (Z : State) (a0 : Array Value) (hw : ∀ d ∈ tables_1, d.before a0 Z = true) (v0 : Addr) (v1 : Int32) (hi : Addr) (ys : List Int64) (h0 : Heap) (n0 : Nat) (Z0 : n0 ≤ h0.size) (P0 : Fld Z h0 v0 "com/example/thicket/thicket/dense/Sums" "high" "[J" (.ref hi)) (P1 : JA Z h0 hi ys) (hi0 : ¬ v1 < 0) (hi2 : v1.toNatClampNeg < ys.length) : MQ l Z (⟨"com/example/thicket/thicket/dense/Sums", "isLong", "(I)Z"⟩ : MethodName) prog_7_method_4_code 2 (some .boolean) [] ({ frames := 0, cells := 0, slots := 0, locals := 0 } : Room) #[(.ref v0), (.int v1)] h0 (QP (some (.int (f4_ret v1 ys))) h0) := by
  refine mq_of (plainFor_of_name pn4) ?_
  intro p e s m below meth c T0 X0 hx hby hml hown hnm hZ e0 hret hlk
  rw [ef4]
  have N0 := Fr.nil n0
  have K0 := Keep.refl h0 []
  refine go_step (T' := T0) (g' := (mkF m 1 #[.val (.ref v0), .val (.int v1)] [(.ref v0)])) (fun t k => XS.aloadN X0.here hx rfl (hb hby d4_0) rfl rfl k) ?_
  refine go_getF X0 hx hZ hown (hw _ (List.mem_of_getElem? (i := 13) rfl)) e0 P0 (g := (mkF m 1 #[.val (.ref v0), .val (.int v1)] [(.ref v0)])) rfl rfl (hb hby d4_1) (fun T1 X2 e3 => ?_)
  show Go p e below s _ _ _ T1 (mkF m 4 #[.val (.ref v0), .val (.int v1)] [(.ref hi)])
  refine go_step (T' := T1) (g' := (mkF m 5 #[.val (.ref v0), .val (.int v1)] [(.int v1), (.ref hi)])) (fun t k => XS.iloadN X2.here hx rfl (hb hby d4_4) rfl  k) ?_
  refine go_laload X2 hx hZ e3 P1 hi0 (getD_some (d := 0) hi2) (g := (mkF m 5 #[.val (.ref v0), .val (.int v1)] [(.int v1), (.ref hi)])) rfl rfl (hb hby d4_5) ?_
  show Go p e below s _ _ _ T1 (mkF m 6 #[.val (.ref v0), .val (.int v1)] [(.long (ys.getD (v1).toNatClampNeg 0))])
  refine go_step (T' := T1) (g' := (mkF m 7 #[.val (.ref v0), .val (.int v1)] [(.long (0 : Int64)), (.long (ys.getD (v1).toNatClampNeg 0))])) (fun t k => XS.lconst X2.here hx rfl (hb hby d4_6) k) ?_
  refine go_step (T' := T1) (g' := (mkF m 8 #[.val (.ref v0), .val (.int v1)] [(.int (lcmpW (ys.getD (v1).toNatClampNeg 0) (0 : Int64)))])) (fun t k => XS.lcmp X2.here hx rfl (hb hby d4_7) rfl k) ?_
  refine go_join X2 (h := h0) (g' := (mkF m 16 #[.val (.ref v0), .val (.int v1)] [(.int (z4_8_0 v1 ys))])) (fun kk => ?_) (fun T5 X6 e7 => ?_)
  · by_cases hj4 : (ys.getD (v1).toNatClampNeg 0) = (0 : Int64)
    · refine go_step (T' := T1) (g' := (mkF m 11 #[.val (.ref v0), .val (.int v1)] [])) (fun t k => XS.ifNo X2.here hx rfl (hb hby d4_8) rfl ((if0 _ _).trans (teq ((lw_eq _ _).mpr hj4)).2) k) ?_
      refine go_step (T' := T1) (g' := (mkF m 12 #[.val (.ref v0), .val (.int v1)] [(.int (1 : Int32))])) (fun t k => XS.iconst X2.here hx rfl (hb hby d4_11) k) ?_
      refine go_step (T' := T1) (g' := (mkF m 16 #[.val (.ref v0), .val (.int v1)] [(.int (1 : Int32))])) (fun t k => XS.goto X2.here hx rfl (pc0 := 12) (pc' := 16) rfl (hb hby d4_12) (by decide) (by decide) k) ?_
      have k2 := kk T1 X2 e3
      rw [show (z4_8_0 v1 ys) = (1 : Int32) by unfold z4_8_0; rw [if_pos hj4]] at k2
      exact k2
    · refine go_step (T' := T1) (g' := (mkF m 15 #[.val (.ref v0), .val (.int v1)] [])) (fun t k => XS.ifYes X2.here hx rfl (pc0 := 8) (pc' := 15) rfl (hb hby d4_8) rfl ((if0 _ _).trans (feq (fun q => hj4 ((lw_eq _ _).mp q))).2) (by decide) (by decide) k) ?_
      refine go_step (T' := T1) (g' := (mkF m 16 #[.val (.ref v0), .val (.int v1)] [(.int (0 : Int32))])) (fun t k => XS.iconst X2.here hx rfl (hb hby d4_15) k) ?_
      have k2 := kk T1 X2 e3
      rw [show (z4_8_0 v1 ys) = (0 : Int32) by unfold z4_8_0; rw [if_neg hj4]] at k2
      exact k2
  exact go_retZ X6 hx hlk hret (hb hby d4_16) e7 ⟨(by unfold f4_ret; rfl), rfl, rfl⟩ (by decide) (by decide)
theorem d5_0 : decode prog_7_method_5_code 0 = .ok (.aload_n 0, 1) := by decide +kernel
theorem d5_1 : decode prog_7_method_5_code 1 = .ok (.getfield 7, 3) := by decide +kernel
theorem d5_4 : decode prog_7_method_5_code 4 = .ok (.iload_n 1, 1) := by decide +kernel
theorem d5_5 : decode prog_7_method_5_code 5 = .ok (.laload, 1) := by decide +kernel
theorem d5_6 : decode prog_7_method_5_code 6 = .ok (.lreturn, 1) := by decide +kernel
def f5_ret (v1 : Int32) (xs : List Int64) : Int64 := (xs.getD (v1).toNatClampNeg 0)
theorem ef5 (m : MethodId) (v0 : Addr) (v1 : Int32) : entryFrame m #[(.ref v0), (.int v1)] 2 = (mkF m 0 #[.val (.ref v0), .val (.int v1)] []) := by first | (simp [entryFrame, mkF, argsToLocals, Value.category]; done) | rfl
theorem pn5 : plainName "com/example/thicket/thicket/dense/Sums" = true := by first | (simp [plainName, overriddenIn]; done) | decide +kernel
set_option maxRecDepth 65536 in
set_option maxHeartbeats 40000000 in
theorem mq5 (l : Launch) (Z : State) (a0 : Array Value) (hw : ∀ d ∈ tables_1, d.before a0 Z = true) (v0 : Addr) (v1 : Int32) (lo : Addr) (xs : List Int64) (h0 : Heap) (n0 : Nat) (Z0 : n0 ≤ h0.size) (P0 : Fld Z h0 v0 "com/example/thicket/thicket/dense/Sums" "low" "[J" (.ref lo)) (P1 : JA Z h0 lo xs) (hi0 : ¬ v1 < 0) (hi1 : v1.toNatClampNeg < xs.length) : MQ l Z (⟨"com/example/thicket/thicket/dense/Sums", "longValue", "(I)J"⟩ : MethodName) prog_7_method_5_code 2 (some .long) [] ({ frames := 0, cells := 0, slots := 0, locals := 0 } : Room) #[(.ref v0), (.int v1)] h0 (QP (some (.long (f5_ret v1 xs))) h0) := by
  refine mq_of (plainFor_of_name pn5) ?_
  intro p e s m below meth c T0 X0 hx hby hml hown hnm hZ e0 hret hlk
  rw [ef5]
  have N0 := Fr.nil n0
  have K0 := Keep.refl h0 []
  refine go_step (T' := T0) (g' := (mkF m 1 #[.val (.ref v0), .val (.int v1)] [(.ref v0)])) (fun t k => XS.aloadN X0.here hx rfl (hb hby d5_0) rfl rfl k) ?_
  refine go_getF X0 hx hZ hown (hw _ (List.mem_of_getElem? (i := 11) rfl)) e0 P0 (g := (mkF m 1 #[.val (.ref v0), .val (.int v1)] [(.ref v0)])) rfl rfl (hb hby d5_1) (fun T1 X2 e3 => ?_)
  show Go p e below s _ _ _ T1 (mkF m 4 #[.val (.ref v0), .val (.int v1)] [(.ref lo)])
  refine go_step (T' := T1) (g' := (mkF m 5 #[.val (.ref v0), .val (.int v1)] [(.int v1), (.ref lo)])) (fun t k => XS.iloadN X2.here hx rfl (hb hby d5_4) rfl  k) ?_
  refine go_laload X2 hx hZ e3 P1 hi0 (getD_some (d := 0) hi1) (g := (mkF m 5 #[.val (.ref v0), .val (.int v1)] [(.int v1), (.ref lo)])) rfl rfl (hb hby d5_5) ?_
  show Go p e below s _ _ _ T1 (mkF m 6 #[.val (.ref v0), .val (.int v1)] [(.long (xs.getD (v1).toNatClampNeg 0))])
  exact go_retJ X2 hx hlk hret (hb hby d5_6) e3 ⟨(by unfold f5_ret; rfl), rfl, rfl⟩ (by decide) (by decide)
theorem d6_0 : decode prog_7_method_3_code 0 = .ok (.aload_n 0, 1) := by decide +kernel
theorem d6_1 : decode prog_7_method_3_code 1 = .ok (.getfield 7, 3) := by decide +kernel
theorem d6_4 : decode prog_7_method_3_code 4 = .ok (.iload_n 1, 1) := by decide +kernel
theorem d6_5 : decode prog_7_method_3_code 5 = .ok (.laload, 1) := by decide +kernel
theorem d6_6 : decode prog_7_method_3_code 6 = .ok (.lload_n 2, 1) := by decide +kernel
theorem d6_7 : decode prog_7_method_3_code 7 = .ok (.lsub, 1) := by decide +kernel
theorem d6_8 : decode prog_7_method_3_code 8 = .ok (.lstore 4, 2) := by decide +kernel
theorem d6_10 : decode prog_7_method_3_code 10 = .ok (.lload 4, 2) := by decide +kernel
theorem d6_12 : decode prog_7_method_3_code 12 = .ok (.lconst 0, 1) := by decide +kernel
theorem d6_13 : decode prog_7_method_3_code 13 = .ok (.lcmp, 1) := by decide +kernel
theorem d6_14 : decode prog_7_method_3_code 14 = .ok (.ifCond .ge 21, 3) := by decide +kernel
theorem d6_17 : decode prog_7_method_3_code 17 = .ok (.lload 4, 2) := by decide +kernel
theorem d6_19 : decode prog_7_method_3_code 19 = .ok (.ldc2_w 18, 3) := by decide +kernel
theorem d6_22 : decode prog_7_method_3_code 22 = .ok (.land, 1) := by decide +kernel
theorem d6_23 : decode prog_7_method_3_code 23 = .ok (.lstore 4, 2) := by decide +kernel
theorem d6_25 : decode prog_7_method_3_code 25 = .ok (.aload_n 0, 1) := by decide +kernel
theorem d6_26 : decode prog_7_method_3_code 26 = .ok (.getfield 13, 3) := by decide +kernel
theorem d6_29 : decode prog_7_method_3_code 29 = .ok (.iload_n 1, 1) := by decide +kernel
theorem d6_30 : decode prog_7_method_3_code 30 = .ok (.dup2, 1) := by decide +kernel
theorem d6_31 : decode prog_7_method_3_code 31 = .ok (.laload, 1) := by decide +kernel
theorem d6_32 : decode prog_7_method_3_code 32 = .ok (.lconst 1, 1) := by decide +kernel
theorem d6_33 : decode prog_7_method_3_code 33 = .ok (.lsub, 1) := by decide +kernel
theorem d6_34 : decode prog_7_method_3_code 34 = .ok (.lastore, 1) := by decide +kernel
theorem d6_35 : decode prog_7_method_3_code 35 = .ok (.aload_n 0, 1) := by decide +kernel
theorem d6_36 : decode prog_7_method_3_code 36 = .ok (.getfield 7, 3) := by decide +kernel
theorem d6_39 : decode prog_7_method_3_code 39 = .ok (.iload_n 1, 1) := by decide +kernel
theorem d6_40 : decode prog_7_method_3_code 40 = .ok (.lload 4, 2) := by decide +kernel
theorem d6_42 : decode prog_7_method_3_code 42 = .ok (.lastore, 1) := by decide +kernel
theorem d6_43 : decode prog_7_method_3_code 43 = .ok (.return_, 1) := by decide +kernel
def f6_lo (v1 : Int32) (v2 : Int64) (xs : List Int64) (ys : List Int64) : List Int64 := (if ((xs.getD (v1).toNatClampNeg 0) - v2) < (0 : Int64) then (xs.set (v1).toNatClampNeg (((xs.getD (v1).toNatClampNeg 0) - v2) &&& (9223372036854775807 : Int64))) else (xs.set (v1).toNatClampNeg ((xs.getD (v1).toNatClampNeg 0) - v2)))
def f6_hi (v1 : Int32) (v2 : Int64) (xs : List Int64) (ys : List Int64) : List Int64 := (if ((xs.getD (v1).toNatClampNeg 0) - v2) < (0 : Int64) then (ys.set (v1).toNatClampNeg ((ys.getD (v1).toNatClampNeg 0) - (1 : Int64))) else ys)
theorem ef6 (m : MethodId) (v0 : Addr) (v1 : Int32) (v2 : Int64) : entryFrame m #[(.ref v0), (.int v1), (.long v2)] 6 = (mkF m 0 #[.val (.ref v0), .val (.int v1), .val (.long v2), .second, .unset, .unset] []) := by first | (simp [entryFrame, mkF, argsToLocals, Value.category]; done) | rfl
theorem pn6 : plainName "com/example/thicket/thicket/dense/Sums" = true := by first | (simp [plainName, overriddenIn]; done) | decide +kernel
def Q6 (Z : State) (v0 : Addr) (v1 : Int32) (v2 : Int64) (lo : Addr) (hi : Addr) (xs : List Int64) (ys : List Int64) (h0 : Heap) (n0 : Nat) (v : Option Value) (h : Heap) (L : List Loc) : Prop := v = none ∧ Fr n0 L ∧ Keep h0 h [lo, hi] ∧ JA Z h lo (f6_lo v1 v2 xs ys) ∧ JA Z h hi (f6_hi v1 v2 xs ys)
set_option maxRecDepth 65536 in
set_option maxHeartbeats 40000000 in
theorem mq6 (l : Launch) (Z : State) (a0 : Array Value) (hw : ∀ d ∈ tables_1, d.before a0 Z = true) (v0 : Addr) (v1 : Int32) (v2 : Int64) (lo : Addr) (hi : Addr) (xs : List Int64) (ys : List Int64) (h0 : Heap) (n0 : Nat) (Z0 : n0 ≤ h0.size) (P0 : Exa Z h0 v0 "com/example/thicket/thicket/dense/Sums") (P1 : Fld Z h0 v0 "com/example/thicket/thicket/dense/Sums" "low" "[J" (.ref lo)) (P2 : Fld Z h0 v0 "com/example/thicket/thicket/dense/Sums" "high" "[J" (.ref hi)) (P3 : JA Z h0 lo xs) (P4 : JA Z h0 hi ys) (hlh : lo ≠ hi) (hi0 : ¬ v1 < 0) (hi1 : v1.toNatClampNeg < xs.length) (hi2 : v1.toNatClampNeg < ys.length) (g_lo : n0 ≤ lo) (g_hi : n0 ≤ hi) : MQ l Z (⟨"com/example/thicket/thicket/dense/Sums", "subtract", "(IJ)V"⟩ : MethodName) prog_7_method_3_code 6 none [] ({ frames := 0, cells := 0, slots := 0, locals := 0 } : Room) #[(.ref v0), (.int v1), (.long v2)] h0 (Q6 Z v0 v1 v2 lo hi xs ys h0 n0) := by
  refine mq_of (plainFor_of_name pn6) ?_
  intro p e s m below meth c T0 X0 hx hby hml hown hnm hZ e0 hret hlk
  rw [ef6]
  have N0 := Fr.nil n0
  have K0 := Keep.refl h0 [lo, hi]
  have ne1 : v0 ≠ lo := exa_pa P0 (hw _ (List.mem_of_getElem? (i := 2) rfl)) P3
  have ne2 : v0 ≠ hi := exa_pa P0 (hw _ (List.mem_of_getElem? (i := 2) rfl)) P4
  refine go_step (T' := T0) (g' := (mkF m 1 #[.val (.ref v0), .val (.int v1), .val (.long v2), .second, .unset, .unset] [(.ref v0)])) (fun t k => XS.aloadN X0.here hx rfl (hb hby d6_0) rfl rfl k) ?_
  refine go_getF X0 hx hZ hown (hw _ (List.mem_of_getElem? (i := 11) rfl)) e0 P1 (g := (mkF m 1 #[.val (.ref v0), .val (.int v1), .val (.long v2), .second, .unset, .unset] [(.ref v0)])) rfl rfl (hb hby d6_1) (fun T3 X4 e5 => ?_)
  show Go p e below s _ _ _ T3 (mkF m 4 #[.val (.ref v0), .val (.int v1), .val (.long v2), .second, .unset, .unset] [(.ref lo)])
  refine go_step (T' := T3) (g' := (mkF m 5 #[.val (.ref v0), .val (.int v1), .val (.long v2), .second, .unset, .unset] [(.int v1), (.ref lo)])) (fun t k => XS.iloadN X4.here hx rfl (hb hby d6_4) rfl  k) ?_
  refine go_laload X4 hx hZ e5 P3 hi0 (getD_some (d := 0) hi1) (g := (mkF m 5 #[.val (.ref v0), .val (.int v1), .val (.long v2), .second, .unset, .unset] [(.int v1), (.ref lo)])) rfl rfl (hb hby d6_5) ?_
  show Go p e below s _ _ _ T3 (mkF m 6 #[.val (.ref v0), .val (.int v1), .val (.long v2), .second, .unset, .unset] [(.long (xs.getD (v1).toNatClampNeg 0))])
  refine go_step (T' := T3) (g' := (mkF m 7 #[.val (.ref v0), .val (.int v1), .val (.long v2), .second, .unset, .unset] [(.long v2), (.long (xs.getD (v1).toNatClampNeg 0))])) (fun t k => XS.lloadN X4.here hx rfl (hb hby d6_6) rfl  k) ?_
  refine go_step (T' := T3) (g' := (mkF m 8 #[.val (.ref v0), .val (.int v1), .val (.long v2), .second, .unset, .unset] [(.long ((xs.getD (v1).toNatClampNeg 0) - v2))])) (fun t k => XS.lsub X4.here hx rfl (hb hby d6_7) rfl k) ?_
  refine go_step (T' := T3) (g' := (mkF m 10 #[.val (.ref v0), .val (.int v1), .val (.long v2), .second, .val (.long ((xs.getD (v1).toNatClampNeg 0) - v2)), .second] [])) (fun t k => XS.lstore X4.here hx rfl (hb hby d6_8) rfl (l' := #[.val (.ref v0), .val (.int v1), .val (.long v2), .second, .val (.long ((xs.getD (v1).toNatClampNeg 0) - v2)), .second]) rfl k) ?_
  refine go_step (T' := T3) (g' := (mkF m 12 #[.val (.ref v0), .val (.int v1), .val (.long v2), .second, .val (.long ((xs.getD (v1).toNatClampNeg 0) - v2)), .second] [(.long ((xs.getD (v1).toNatClampNeg 0) - v2))])) (fun t k => XS.lload X4.here hx rfl (hb hby d6_10) rfl  k) ?_
  refine go_step (T' := T3) (g' := (mkF m 13 #[.val (.ref v0), .val (.int v1), .val (.long v2), .second, .val (.long ((xs.getD (v1).toNatClampNeg 0) - v2)), .second] [(.long (0 : Int64)), (.long ((xs.getD (v1).toNatClampNeg 0) - v2))])) (fun t k => XS.lconst X4.here hx rfl (hb hby d6_12) k) ?_
  refine go_step (T' := T3) (g' := (mkF m 14 #[.val (.ref v0), .val (.int v1), .val (.long v2), .second, .val (.long ((xs.getD (v1).toNatClampNeg 0) - v2)), .second] [(.int (lcmpW ((xs.getD (v1).toNatClampNeg 0) - v2) (0 : Int64)))])) (fun t k => XS.lcmp X4.here hx rfl (hb hby d6_13) rfl k) ?_
  by_cases hc6 : ((xs.getD (v1).toNatClampNeg 0) - v2) < (0 : Int64)
  · refine go_step (T' := T3) (g' := (mkF m 17 #[.val (.ref v0), .val (.int v1), .val (.long v2), .second, .val (.long ((xs.getD (v1).toNatClampNeg 0) - v2)), .second] [])) (fun t k => XS.ifNo X4.here hx rfl (hb hby d6_14) rfl ((if0 _ _).trans (tlt ((lw_lt _ _).mpr hc6)).2.1) k) ?_
    refine go_step (T' := T3) (g' := (mkF m 19 #[.val (.ref v0), .val (.int v1), .val (.long v2), .second, .val (.long ((xs.getD (v1).toNatClampNeg 0) - v2)), .second] [(.long ((xs.getD (v1).toNatClampNeg 0) - v2))])) (fun t k => XS.lload X4.here hx rfl (hb hby d6_17) rfl  k) ?_
    refine go_step (T' := T3) (g' := (mkF m 22 #[.val (.ref v0), .val (.int v1), .val (.long v2), .second, .val (.long ((xs.getD (v1).toNatClampNeg 0) - v2)), .second] [(.long (9223372036854775807 : Int64)), (.long ((xs.getD (v1).toNatClampNeg 0) - v2))])) (X4.ldc2Long hx hown (mvT hZ (hw _ (List.mem_of_getElem? (i := 35) rfl))) (g := (mkF m 19 #[.val (.ref v0), .val (.int v1), .val (.long v2), .second, .val (.long ((xs.getD (v1).toNatClampNeg 0) - v2)), .second] [(.long ((xs.getD (v1).toNatClampNeg 0) - v2))])) rfl (hb hby d6_19)) ?_
    refine go_step (T' := T3) (g' := (mkF m 23 #[.val (.ref v0), .val (.int v1), .val (.long v2), .second, .val (.long ((xs.getD (v1).toNatClampNeg 0) - v2)), .second] [(.long (((xs.getD (v1).toNatClampNeg 0) - v2) &&& (9223372036854775807 : Int64)))])) (fun t k => XS.land X4.here hx rfl (hb hby d6_22) rfl k) ?_
    refine go_step (T' := T3) (g' := (mkF m 25 #[.val (.ref v0), .val (.int v1), .val (.long v2), .second, .val (.long (((xs.getD (v1).toNatClampNeg 0) - v2) &&& (9223372036854775807 : Int64))), .second] [])) (fun t k => XS.lstore X4.here hx rfl (hb hby d6_23) rfl (l' := #[.val (.ref v0), .val (.int v1), .val (.long v2), .second, .val (.long (((xs.getD (v1).toNatClampNeg 0) - v2) &&& (9223372036854775807 : Int64))), .second]) rfl k) ?_
    refine go_step (T' := T3) (g' := (mkF m 26 #[.val (.ref v0), .val (.int v1), .val (.long v2), .second, .val (.long (((xs.getD (v1).toNatClampNeg 0) - v2) &&& (9223372036854775807 : Int64))), .second] [(.ref v0)])) (fun t k => XS.aloadN X4.here hx rfl (hb hby d6_25) rfl rfl k) ?_
    refine go_getF X4 hx hZ hown (hw _ (List.mem_of_getElem? (i := 13) rfl)) e5 P2 (g := (mkF m 26 #[.val (.ref v0), .val (.int v1), .val (.long v2), .second, .val (.long (((xs.getD (v1).toNatClampNeg 0) - v2) &&& (9223372036854775807 : Int64))), .second] [(.ref v0)])) rfl rfl (hb hby d6_26) (fun T7 X8 e9 => ?_)
    show Go p e below s _ _ _ T7 (mkF m 29 #[.val (.ref v0), .val (.int v1), .val (.long v2), .second, .val (.long (((xs.getD (v1).toNatClampNeg 0) - v2) &&& (9223372036854775807 : Int64))), .second] [(.ref hi)])
    refine go_step (T' := T7) (g' := (mkF m 30 #[.val (.ref v0), .val (.int v1), .val (.long v2), .second, .val (.long (((xs.getD (v1).toNatClampNeg 0) - v2) &&& (9223372036854775807 : Int64))), .second] [(.int v1), (.ref hi)])) (fun t k => XS.iloadN X8.here hx rfl (hb hby d6_29) rfl  k) ?_
    refine go_step (T' := T7) (g' := (mkF m 31 #[.val (.ref v0), .val (.int v1), .val (.long v2), .second, .val (.long (((xs.getD (v1).toNatClampNeg 0) - v2) &&& (9223372036854775807 : Int64))), .second] [(.int v1), (.ref hi), (.int v1), (.ref hi)])) (fun t k => Jvm.Free.XT.dup2 X8.here hx rfl (hb hby d6_30) rfl rfl rfl k) ?_
    refine go_laload X8 hx hZ e9 P4 hi0 (getD_some (d := 0) hi2) (g := (mkF m 31 #[.val (.ref v0), .val (.int v1), .val (.long v2), .second, .val (.long (((xs.getD (v1).toNatClampNeg 0) - v2) &&& (9223372036854775807 : Int64))), .second] [(.int v1), (.ref hi), (.int v1), (.ref hi)])) rfl rfl (hb hby d6_31) ?_
    show Go p e below s _ _ _ T7 (mkF m 32 #[.val (.ref v0), .val (.int v1), .val (.long v2), .second, .val (.long (((xs.getD (v1).toNatClampNeg 0) - v2) &&& (9223372036854775807 : Int64))), .second] [(.long (ys.getD (v1).toNatClampNeg 0)), (.int v1), (.ref hi)])
    refine go_step (T' := T7) (g' := (mkF m 33 #[.val (.ref v0), .val (.int v1), .val (.long v2), .second, .val (.long (((xs.getD (v1).toNatClampNeg 0) - v2) &&& (9223372036854775807 : Int64))), .second] [(.long (1 : Int64)), (.long (ys.getD (v1).toNatClampNeg 0)), (.int v1), (.ref hi)])) (fun t k => XS.lconst X8.here hx rfl (hb hby d6_32) k) ?_
    refine go_step (T' := T7) (g' := (mkF m 34 #[.val (.ref v0), .val (.int v1), .val (.long v2), .second, .val (.long (((xs.getD (v1).toNatClampNeg 0) - v2) &&& (9223372036854775807 : Int64))), .second] [(.long ((ys.getD (v1).toNatClampNeg 0) - (1 : Int64))), (.int v1), (.ref hi)])) (fun t k => XS.lsub X8.here hx rfl (hb hby d6_33) rfl k) ?_
    refine go_lastore X8 hx hZ e9 P4 hi0 hi2 (g := (mkF m 34 #[.val (.ref v0), .val (.int v1), .val (.long v2), .second, .val (.long (((xs.getD (v1).toNatClampNeg 0) - v2) &&& (9223372036854775807 : Int64))), .second] [(.long ((ys.getD (v1).toNatClampNeg 0) - (1 : Int64))), (.int v1), (.ref hi)])) rfl rfl (hb hby d6_34) (fun T10 h11 X12 e13 W14 A15 => ?_)
    have K16 := K0.wr W14 (Or.inl (List.mem_of_getElem? (i := 1) rfl))
    have N17 := Fr.snoc X12 N0 g_hi
    have A18 : JA Z h11 hi (ys.set (v1).toNatClampNeg ((ys.getD (v1).toNatClampNeg 0) - (1 : Int64))) := A15
    show Go p e below s _ _ _ T10 (mkF m 35 #[.val (.ref v0), .val (.int v1), .val (.long v2), .second, .val (.long (((xs.getD (v1).toNatClampNeg 0) - v2) &&& (9223372036854775807 : Int64))), .second] [])
    refine go_step (T' := T10) (g' := (mkF m 36 #[.val (.ref v0), .val (.int v1), .val (.long v2), .second, .val (.long (((xs.getD (v1).toNatClampNeg 0) - v2) &&& (9223372036854775807 : Int64))), .second] [(.ref v0)])) (fun t k => XS.aloadN X12.here hx rfl (hb hby d6_35) rfl rfl k) ?_
    have G19 : Fld Z h11 v0 "com/example/thicket/thicket/dense/Sums" "low" "[J" (.ref lo) := (Fld.other W14 P1 (Or.inl ne2))
    refine go_getF X12 hx hZ hown (hw _ (List.mem_of_getElem? (i := 11) rfl)) e13 G19 (g := (mkF m 36 #[.val (.ref v0), .val (.int v1), .val (.long v2), .second, .val (.long (((xs.getD (v1).toNatClampNeg 0) - v2) &&& (9223372036854775807 : Int64))), .second] [(.ref v0)])) rfl rfl (hb hby d6_36) (fun T20 X21 e22 => ?_)
    show Go p e below s _ _ _ T20 (mkF m 39 #[.val (.ref v0), .val (.int v1), .val (.long v2), .second, .val (.long (((xs.getD (v1).toNatClampNeg 0) - v2) &&& (9223372036854775807 : Int64))), .second] [(.ref lo)])
    refine go_step (T' := T20) (g' := (mkF m 40 #[.val (.ref v0), .val (.int v1), .val (.long v2), .second, .val (.long (((xs.getD (v1).toNatClampNeg 0) - v2) &&& (9223372036854775807 : Int64))), .second] [(.int v1), (.ref lo)])) (fun t k => XS.iloadN X21.here hx rfl (hb hby d6_39) rfl  k) ?_
    refine go_step (T' := T20) (g' := (mkF m 42 #[.val (.ref v0), .val (.int v1), .val (.long v2), .second, .val (.long (((xs.getD (v1).toNatClampNeg 0) - v2) &&& (9223372036854775807 : Int64))), .second] [(.long (((xs.getD (v1).toNatClampNeg 0) - v2) &&& (9223372036854775807 : Int64))), (.int v1), (.ref lo)])) (fun t k => XS.lload X21.here hx rfl (hb hby d6_40) rfl  k) ?_
    have G23 : JA Z h11 lo xs := (P3.other W14 hlh)
    refine go_lastore X21 hx hZ e22 G23 hi0 hi1 (g := (mkF m 42 #[.val (.ref v0), .val (.int v1), .val (.long v2), .second, .val (.long (((xs.getD (v1).toNatClampNeg 0) - v2) &&& (9223372036854775807 : Int64))), .second] [(.long (((xs.getD (v1).toNatClampNeg 0) - v2) &&& (9223372036854775807 : Int64))), (.int v1), (.ref lo)])) rfl rfl (hb hby d6_42) (fun T24 h25 X26 e27 W28 A29 => ?_)
    have K30 := K16.wr W28 (Or.inl (List.mem_of_getElem? (i := 0) rfl))
    have N31 := Fr.snoc X26 N17 g_lo
    have A32 : JA Z h25 lo (xs.set (v1).toNatClampNeg (((xs.getD (v1).toNatClampNeg 0) - v2) &&& (9223372036854775807 : Int64))) := A29
    show Go p e below s _ _ _ T24 (mkF m 43 #[.val (.ref v0), .val (.int v1), .val (.long v2), .second, .val (.long (((xs.getD (v1).toNatClampNeg 0) - v2) &&& (9223372036854775807 : Int64))), .second] [])
    have G33 : JA Z h25 hi (ys.set (v1).toNatClampNeg ((ys.getD (v1).toNatClampNeg 0) - (1 : Int64))) := (A18.other W28 (Ne.symm hlh))
    exact go_retV X26 hx hlk hret (hb hby d6_43) e27 ⟨rfl, N31, K30, (by unfold f6_lo; rw [if_pos hc6]; exact A32), (by unfold f6_hi; rw [if_pos hc6]; exact G33)⟩ (by decide) (by decide)
  · refine go_step (T' := T3) (g' := (mkF m 35 #[.val (.ref v0), .val (.int v1), .val (.long v2), .second, .val (.long ((xs.getD (v1).toNatClampNeg 0) - v2)), .second] [])) (fun t k => XS.ifYes X4.here hx rfl (pc0 := 14) (pc' := 35) rfl (hb hby d6_14) rfl ((if0 _ _).trans (flt (fun q => hc6 ((lw_lt _ _).mp q))).2.1) (by decide) (by decide) k) ?_
    refine go_step (T' := T3) (g' := (mkF m 36 #[.val (.ref v0), .val (.int v1), .val (.long v2), .second, .val (.long ((xs.getD (v1).toNatClampNeg 0) - v2)), .second] [(.ref v0)])) (fun t k => XS.aloadN X4.here hx rfl (hb hby d6_35) rfl rfl k) ?_
    refine go_getF X4 hx hZ hown (hw _ (List.mem_of_getElem? (i := 11) rfl)) e5 P1 (g := (mkF m 36 #[.val (.ref v0), .val (.int v1), .val (.long v2), .second, .val (.long ((xs.getD (v1).toNatClampNeg 0) - v2)), .second] [(.ref v0)])) rfl rfl (hb hby d6_36) (fun T34 X35 e36 => ?_)
    show Go p e below s _ _ _ T34 (mkF m 39 #[.val (.ref v0), .val (.int v1), .val (.long v2), .second, .val (.long ((xs.getD (v1).toNatClampNeg 0) - v2)), .second] [(.ref lo)])
    refine go_step (T' := T34) (g' := (mkF m 40 #[.val (.ref v0), .val (.int v1), .val (.long v2), .second, .val (.long ((xs.getD (v1).toNatClampNeg 0) - v2)), .second] [(.int v1), (.ref lo)])) (fun t k => XS.iloadN X35.here hx rfl (hb hby d6_39) rfl  k) ?_
    refine go_step (T' := T34) (g' := (mkF m 42 #[.val (.ref v0), .val (.int v1), .val (.long v2), .second, .val (.long ((xs.getD (v1).toNatClampNeg 0) - v2)), .second] [(.long ((xs.getD (v1).toNatClampNeg 0) - v2)), (.int v1), (.ref lo)])) (fun t k => XS.lload X35.here hx rfl (hb hby d6_40) rfl  k) ?_
    refine go_lastore X35 hx hZ e36 P3 hi0 hi1 (g := (mkF m 42 #[.val (.ref v0), .val (.int v1), .val (.long v2), .second, .val (.long ((xs.getD (v1).toNatClampNeg 0) - v2)), .second] [(.long ((xs.getD (v1).toNatClampNeg 0) - v2)), (.int v1), (.ref lo)])) rfl rfl (hb hby d6_42) (fun T37 h38 X39 e40 W41 A42 => ?_)
    have K43 := K0.wr W41 (Or.inl (List.mem_of_getElem? (i := 0) rfl))
    have N44 := Fr.snoc X39 N0 g_lo
    have A45 : JA Z h38 lo (xs.set (v1).toNatClampNeg ((xs.getD (v1).toNatClampNeg 0) - v2)) := A42
    show Go p e below s _ _ _ T37 (mkF m 43 #[.val (.ref v0), .val (.int v1), .val (.long v2), .second, .val (.long ((xs.getD (v1).toNatClampNeg 0) - v2)), .second] [])
    have G46 : JA Z h38 hi ys := (P4.other W41 (Ne.symm hlh))
    exact go_retV X39 hx hlk hret (hb hby d6_43) e40 ⟨rfl, N44, K43, (by unfold f6_lo; rw [if_neg hc6]; exact A45), (by unfold f6_hi; rw [if_neg hc6]; exact G46)⟩ (by decide) (by decide)
theorem own_len6_lo (v1 : Int32) (v2 : Int64) (xs ys : List Int64) : (f6_lo v1 v2 xs ys).length = xs.length := by unfold f6_lo; split <;> simp
theorem own_len6_hi (v1 : Int32) (v2 : Int64) (xs ys : List Int64) : (f6_hi v1 v2 xs ys).length = ys.length := by unfold f6_hi; split <;> simp
def s0_0 (v0 : Int64) (v1 : Int64) (v2 : Int32) : List Int64 := (f3_lo (v2 &&& (1 : Int32)) (v0 &&& (9223372036854775807 : Int64)) [(0 : Int64), (0 : Int64)] [(0 : Int64), (0 : Int64)])
def s0_1 (v0 : Int64) (v1 : Int64) (v2 : Int32) : List Int64 := (f3_hi (v2 &&& (1 : Int32)) (v0 &&& (9223372036854775807 : Int64)) [(0 : Int64), (0 : Int64)] [(0 : Int64), (0 : Int64)])
def s0_2 (v0 : Int64) (v1 : Int64) (v2 : Int32) : List Int64 := (f3_lo (v2 &&& (1 : Int32)) (v1 &&& (9223372036854775807 : Int64)) (s0_0 v0 v1 v2) (s0_1 v0 v1 v2))
def s0_3 (v0 : Int64) (v1 : Int64) (v2 : Int32) : List Int64 := (f3_hi (v2 &&& (1 : Int32)) (v1 &&& (9223372036854775807 : Int64)) (s0_0 v0 v1 v2) (s0_1 v0 v1 v2))
def z0_63_0 (v0 : Int64) (v1 : Int64) (v2 : Int32) : Int32 := (if ((9223372036854775807 : Int64) - (v1 &&& (9223372036854775807 : Int64))) < (v0 &&& (9223372036854775807 : Int64)) then (1 : Int32) else (0 : Int32))
def z0_131_0 (v0 : Int64) (v1 : Int64) (v2 : Int32) : Int32 := (if (f4_ret (v2 &&& (1 : Int32)) (s0_3 v0 v1 v2)) = (0 : Int32) then (0 : Int32) else (if (f5_ret (v2 &&& (1 : Int32)) (s0_2 v0 v1 v2)) = ((v0 &&& (9223372036854775807 : Int64)) + (v1 &&& (9223372036854775807 : Int64))) then (1 : Int32) else (0 : Int32)))
def z0_164_0 (v0 : Int64) (v1 : Int64) (v2 : Int32) : Int32 := (if (f4_ret ((1 : Int32) - (v2 &&& (1 : Int32))) (s0_3 v0 v1 v2)) = (0 : Int32) then (0 : Int32) else (if (f5_ret ((1 : Int32) - (v2 &&& (1 : Int32))) (s0_2 v0 v1 v2)) = (0 : Int64) then (1 : Int32) else (0 : Int32)))
def s0_4 (v0 : Int64) (v1 : Int64) (v2 : Int32) : List Int64 := (f6_lo (v2 &&& (1 : Int32)) (v1 &&& (9223372036854775807 : Int64)) (s0_2 v0 v1 v2) (s0_3 v0 v1 v2))
def s0_5 (v0 : Int64) (v1 : Int64) (v2 : Int32) : List Int64 := (f6_hi (v2 &&& (1 : Int32)) (v1 &&& (9223372036854775807 : Int64)) (s0_2 v0 v1 v2) (s0_3 v0 v1 v2))
def z0_202_0 (v0 : Int64) (v1 : Int64) (v2 : Int32) : Int32 := (if (f4_ret (v2 &&& (1 : Int32)) (s0_5 v0 v1 v2)) = (0 : Int32) then (0 : Int32) else (if (f5_ret (v2 &&& (1 : Int32)) (s0_4 v0 v1 v2)) = (v0 &&& (9223372036854775807 : Int64)) then (1 : Int32) else (0 : Int32)))
def z0_227_0 (v0 : Int64) (v1 : Int64) (v2 : Int32) : Int32 := (if (z0_131_0 v0 v1 v2) = (0 : Int32) then (0 : Int32) else (if (z0_164_0 v0 v1 v2) = (0 : Int32) then (0 : Int32) else (if (z0_202_0 v0 v1 v2) = (0 : Int32) then (0 : Int32) else (1 : Int32))))
def s0_6 (v0 : Int64) (v1 : Int64) (v2 : Int32) : Int64 := (((v0 &&& (9223372036854775807 : Int64)) - ((9223372036854775807 : Int64) - (v1 &&& (9223372036854775807 : Int64)))) - (1 : Int64))
def z0_98_0 (v0 : Int64) (v1 : Int64) (v2 : Int32) : Int32 := (if (f4_ret (v2 &&& (1 : Int32)) (s0_3 v0 v1 v2)) = (0 : Int32) then (if (f5_ret (v2 &&& (1 : Int32)) (s0_2 v0 v1 v2)) = (s0_6 v0 v1 v2) then (1 : Int32) else (0 : Int32)) else (0 : Int32))
def z0_227_1 (v0 : Int64) (v1 : Int64) (v2 : Int32) : Int32 := (if (z0_98_0 v0 v1 v2) = (0 : Int32) then (0 : Int32) else (if (z0_164_0 v0 v1 v2) = (0 : Int32) then (0 : Int32) else (if (z0_202_0 v0 v1 v2) = (0 : Int32) then (0 : Int32) else (1 : Int32))))
def f0_ret (v0 : Int64) (v1 : Int64) (v2 : Int32) : Int32 := (if (z0_63_0 v0 v1 v2) = (0 : Int32) then ((z0_227_0 v0 v1 v2) &&& (1 : Int32)) else ((z0_227_1 v0 v1 v2) &&& (1 : Int32)))
theorem ef0 (m : MethodId) (v0 : Int64) (v1 : Int64) (v2 : Int32) : entryFrame m #[(.long v0), (.long v1), (.int v2)] maxLocals = (mkF m 0 #[.val (.long v0), .second, .val (.long v1), .second, .val (.int v2), .unset, .unset, .unset, .unset, .unset, .unset, .unset, .unset, .unset, .unset, .unset] []) := by first | (simp [entryFrame, mkF, argsToLocals, Value.category, maxLocals]; done) | rfl
theorem pn0 : plainName "com/example/thicket/thicket/dense/SumsAddPinLaw" = true := by first | (simp [plainName, overriddenIn]; done) | decide +kernel
def Q0 (Z : State) (v0 : Int64) (v1 : Int64) (v2 : Int32) (h0 : Heap) (n0 : Nat) (v : Option Value) (h : Heap) (L : List Loc) : Prop := v = some (.int (f0_ret v0 v1 v2)) ∧ Fr n0 L
set_option maxRecDepth 65536 in
set_option maxHeartbeats 40000000 in
theorem mq0 (l : Launch) (Z : State) (a0 : Array Value) (hw : ∀ d ∈ tables_1, d.before a0 Z = true) (ws : List Jvm.Cond) (v0 : Int64) (v1 : Int64) (v2 : Int32)  (h0 : Heap) (n0 : Nat) (Z0 : n0 ≤ h0.size)  : MQ l Z x code maxLocals ret ws room_1 #[(.long v0), (.long v1), (.int v2)] h0 (Q0 Z v0 v1 v2 h0 n0) := by
  refine mq_of (plainFor_of_name pn0) ?_
  intro p e s m below meth c T0 X0 hx hby hml hown hnm hZ e0 hret hlk
  rw [ef0]
  have N0 := Fr.nil n0
  have K0 := Keep.refl h0 []
  refine go_step (T' := T0) (g' := (mkF m 1 #[.val (.long v0), .second, .val (.long v1), .second, .val (.int v2), .unset, .unset, .unset, .unset, .unset, .unset, .unset, .unset, .unset, .unset, .unset] [(.long v0)])) (fun t k => XS.lloadN X0.here hx rfl (hb hby at_0) rfl  k) ?_
  refine go_step (T' := T0) (g' := (mkF m 4 #[.val (.long v0), .second, .val (.long v1), .second, .val (.int v2), .unset, .unset, .unset, .unset, .unset, .unset, .unset, .unset, .unset, .unset, .unset] [(.long (9223372036854775807 : Int64)), (.long v0)])) (X0.ldc2Long hx hown (mvT hZ (hw _ (List.mem_of_getElem? (i := 0) rfl))) (g := (mkF m 1 #[.val (.long v0), .second, .val (.long v1), .second, .val (.int v2), .unset, .unset, .unset, .unset, .unset, .unset, .unset, .unset, .unset, .unset, .unset] [(.long v0)])) rfl (hb hby at_1)) ?_
  refine go_step (T' := T0) (g' := (mkF m 5 #[.val (.long v0), .second, .val (.long v1), .second, .val (.int v2), .unset, .unset, .unset, .unset, .unset, .unset, .unset, .unset, .unset, .unset, .unset] [(.long (v0 &&& (9223372036854775807 : Int64)))])) (fun t k => XS.land X0.here hx rfl (hb hby at_4) rfl k) ?_
  refine go_step (T' := T0) (g' := (mkF m 7 #[.val (.long v0), .second, .val (.long v1), .second, .val (.int v2), .val (.long (v0 &&& (9223372036854775807 : Int64))), .second, .unset, .unset, .unset, .unset, .unset, .unset, .unset, .unset, .unset] [])) (fun t k => XS.lstore X0.here hx rfl (hb hby at_5) rfl (l' := #[.val (.long v0), .second, .val (.long v1), .second, .val (.int v2), .val (.long (v0 &&& (9223372036854775807 : Int64))), .second, .unset, .unset, .unset, .unset, .unset, .unset, .unset, .unset, .unset]) rfl k) ?_
  refine go_step (T' := T0) (g' := (mkF m 8 #[.val (.long v0), .second, .val (.long v1), .second, .val (.int v2), .val (.long (v0 &&& (9223372036854775807 : Int64))), .second, .unset, .unset, .unset, .unset, .unset, .unset, .unset, .unset, .unset] [(.long v1)])) (fun t k => XS.lloadN X0.here hx rfl (hb hby at_7) rfl  k) ?_
  refine go_step (T' := T0) (g' := (mkF m 11 #[.val (.long v0), .second, .val (.long v1), .second, .val (.int v2), .val (.long (v0 &&& (9223372036854775807 : Int64))), .second, .unset, .unset, .unset, .unset, .unset, .unset, .unset, .unset, .unset] [(.long (9223372036854775807 : Int64)), (.long v1)])) (X0.ldc2Long hx hown (mvT hZ (hw _ (List.mem_of_getElem? (i := 0) rfl))) (g := (mkF m 8 #[.val (.long v0), .second, .val (.long v1), .second, .val (.int v2), .val (.long (v0 &&& (9223372036854775807 : Int64))), .second, .unset, .unset, .unset, .unset, .unset, .unset, .unset, .unset, .unset] [(.long v1)])) rfl (hb hby at_8)) ?_
  refine go_step (T' := T0) (g' := (mkF m 12 #[.val (.long v0), .second, .val (.long v1), .second, .val (.int v2), .val (.long (v0 &&& (9223372036854775807 : Int64))), .second, .unset, .unset, .unset, .unset, .unset, .unset, .unset, .unset, .unset] [(.long (v1 &&& (9223372036854775807 : Int64)))])) (fun t k => XS.land X0.here hx rfl (hb hby at_11) rfl k) ?_
  refine go_step (T' := T0) (g' := (mkF m 14 #[.val (.long v0), .second, .val (.long v1), .second, .val (.int v2), .val (.long (v0 &&& (9223372036854775807 : Int64))), .second, .val (.long (v1 &&& (9223372036854775807 : Int64))), .second, .unset, .unset, .unset, .unset, .unset, .unset, .unset] [])) (fun t k => XS.lstore X0.here hx rfl (hb hby at_12) rfl (l' := #[.val (.long v0), .second, .val (.long v1), .second, .val (.int v2), .val (.long (v0 &&& (9223372036854775807 : Int64))), .second, .val (.long (v1 &&& (9223372036854775807 : Int64))), .second, .unset, .unset, .unset, .unset, .unset, .unset, .unset]) rfl k) ?_
  refine go_step (T' := T0) (g' := (mkF m 16 #[.val (.long v0), .second, .val (.long v1), .second, .val (.int v2), .val (.long (v0 &&& (9223372036854775807 : Int64))), .second, .val (.long (v1 &&& (9223372036854775807 : Int64))), .second, .unset, .unset, .unset, .unset, .unset, .unset, .unset] [(.int v2)])) (fun t k => XS.iload X0.here hx rfl (hb hby at_14) rfl  k) ?_
  refine go_step (T' := T0) (g' := (mkF m 17 #[.val (.long v0), .second, .val (.long v1), .second, .val (.int v2), .val (.long (v0 &&& (9223372036854775807 : Int64))), .second, .val (.long (v1 &&& (9223372036854775807 : Int64))), .second, .unset, .unset, .unset, .unset, .unset, .unset, .unset] [(.int (1 : Int32)), (.int v2)])) (fun t k => XS.iconst X0.here hx rfl (hb hby at_16) k) ?_
  refine go_step (T' := T0) (g' := (mkF m 18 #[.val (.long v0), .second, .val (.long v1), .second, .val (.int v2), .val (.long (v0 &&& (9223372036854775807 : Int64))), .second, .val (.long (v1 &&& (9223372036854775807 : Int64))), .second, .unset, .unset, .unset, .unset, .unset, .unset, .unset] [(.int (v2 &&& (1 : Int32)))])) (fun t k => XS.iand X0.here hx rfl (hb hby at_17) rfl k) ?_
  refine go_step (T' := T0) (g' := (mkF m 20 #[.val (.long v0), .second, .val (.long v1), .second, .val (.int v2), .val (.long (v0 &&& (9223372036854775807 : Int64))), .second, .val (.long (v1 &&& (9223372036854775807 : Int64))), .second, .val (.int (v2 &&& (1 : Int32))), .unset, .unset, .unset, .unset, .unset, .unset] [])) (fun t k => XS.istore X0.here hx rfl (hb hby at_18) rfl (l' := #[.val (.long v0), .second, .val (.long v1), .second, .val (.int v2), .val (.long (v0 &&& (9223372036854775807 : Int64))), .second, .val (.long (v1 &&& (9223372036854775807 : Int64))), .second, .val (.int (v2 &&& (1 : Int32))), .unset, .unset, .unset, .unset, .unset, .unset]) rfl k) ?_
  refine go_step (T' := T0) (g' := (mkF m 21 #[.val (.long v0), .second, .val (.long v1), .second, .val (.int v2), .val (.long (v0 &&& (9223372036854775807 : Int64))), .second, .val (.long (v1 &&& (9223372036854775807 : Int64))), .second, .val (.int (v2 &&& (1 : Int32))), .unset, .unset, .unset, .unset, .unset, .unset] [(.int (1 : Int32))])) (fun t k => XS.iconst X0.here hx rfl (hb hby at_20) k) ?_
  refine go_step (T' := T0) (g' := (mkF m 23 #[.val (.long v0), .second, .val (.long v1), .second, .val (.int v2), .val (.long (v0 &&& (9223372036854775807 : Int64))), .second, .val (.long (v1 &&& (9223372036854775807 : Int64))), .second, .val (.int (v2 &&& (1 : Int32))), .unset, .unset, .unset, .unset, .unset, .unset] [(.int (v2 &&& (1 : Int32))), (.int (1 : Int32))])) (fun t k => XS.iload X0.here hx rfl (hb hby at_21) rfl  k) ?_
  refine go_step (T' := T0) (g' := (mkF m 24 #[.val (.long v0), .second, .val (.long v1), .second, .val (.int v2), .val (.long (v0 &&& (9223372036854775807 : Int64))), .second, .val (.long (v1 &&& (9223372036854775807 : Int64))), .second, .val (.int (v2 &&& (1 : Int32))), .unset, .unset, .unset, .unset, .unset, .unset] [(.int ((1 : Int32) - (v2 &&& (1 : Int32))))])) (fun t k => XS.isub X0.here hx rfl (hb hby at_23) rfl k) ?_
  refine go_step (T' := T0) (g' := (mkF m 26 #[.val (.long v0), .second, .val (.long v1), .second, .val (.int v2), .val (.long (v0 &&& (9223372036854775807 : Int64))), .second, .val (.long (v1 &&& (9223372036854775807 : Int64))), .second, .val (.int (v2 &&& (1 : Int32))), .val (.int ((1 : Int32) - (v2 &&& (1 : Int32)))), .unset, .unset, .unset, .unset, .unset] [])) (fun t k => XS.istore X0.here hx rfl (hb hby at_24) rfl (l' := #[.val (.long v0), .second, .val (.long v1), .second, .val (.int v2), .val (.long (v0 &&& (9223372036854775807 : Int64))), .second, .val (.long (v1 &&& (9223372036854775807 : Int64))), .second, .val (.int (v2 &&& (1 : Int32))), .val (.int ((1 : Int32) - (v2 &&& (1 : Int32)))), .unset, .unset, .unset, .unset, .unset]) rfl k) ?_
  refine go_new X0 hx hZ hown (hw _ (List.mem_of_getElem? (i := 1) rfl)) (hw _ (List.mem_of_getElem? (i := 2) rfl)) (hw _ (List.mem_of_getElem? (i := 3) rfl)) e0 (by decide) (by decide) (g := (mkF m 26 #[.val (.long v0), .second, .val (.long v1), .second, .val (.int v2), .val (.long (v0 &&& (9223372036854775807 : Int64))), .second, .val (.long (v1 &&& (9223372036854775807 : Int64))), .second, .val (.int (v2 &&& (1 : Int32))), .val (.int ((1 : Int32) - (v2 &&& (1 : Int32)))), .unset, .unset, .unset, .unset, .unset] [])) rfl (hb hby at_26) (fun T1 h2 b3 X4 e5 E6 q7 A8 D9 => ?_)
  have sz10 : h0.size ≤ b3 := Nat.le_trans K0.1 (Nat.le_of_eq q7.symm)
  have g11 : n0 ≤ b3 := Nat.le_trans Z0 sz10
  have K12 := K0.ext E6
  have F13 : Fld Z h2 b3 "com/example/thicket/thicket/dense/Sums" "low" "[J" .null := D9 (Or.inr (hw _ (List.mem_of_getElem? (i := 12) rfl))) (ty := (.array .long)) (by decide)
  have F14 : Fld Z h2 b3 "com/example/thicket/thicket/dense/Sums" "high" "[J" .null := D9 (Or.inr (hw _ (List.mem_of_getElem? (i := 14) rfl))) (ty := (.array .long)) (by decide)
  show Go p e below s _ _ _ T1 (mkF m 29 #[.val (.long v0), .second, .val (.long v1), .second, .val (.int v2), .val (.long (v0 &&& (9223372036854775807 : Int64))), .second, .val (.long (v1 &&& (9223372036854775807 : Int64))), .second, .val (.int (v2 &&& (1 : Int32))), .val (.int ((1 : Int32) - (v2 &&& (1 : Int32)))), .unset, .unset, .unset, .unset, .unset] [(.ref b3)])
  refine go_step (T' := T1) (g' := (mkF m 30 #[.val (.long v0), .second, .val (.long v1), .second, .val (.int v2), .val (.long (v0 &&& (9223372036854775807 : Int64))), .second, .val (.long (v1 &&& (9223372036854775807 : Int64))), .second, .val (.int (v2 &&& (1 : Int32))), .val (.int ((1 : Int32) - (v2 &&& (1 : Int32)))), .unset, .unset, .unset, .unset, .unset] [(.ref b3), (.ref b3)])) (fun t k => XS.dup X4.here hx rfl (hb hby at_29) rfl rfl k) ?_
  refine go_step (T' := T1) (g' := (mkF m 31 #[.val (.long v0), .second, .val (.long v1), .second, .val (.int v2), .val (.long (v0 &&& (9223372036854775807 : Int64))), .second, .val (.long (v1 &&& (9223372036854775807 : Int64))), .second, .val (.int (v2 &&& (1 : Int32))), .val (.int ((1 : Int32) - (v2 &&& (1 : Int32)))), .unset, .unset, .unset, .unset, .unset] [(.int (2 : Int32)), (.ref b3), (.ref b3)])) (fun t k => XS.iconst X4.here hx rfl (hb hby at_30) k) ?_
  refine go_callC X4 hx hZ (y := (⟨"com/example/thicket/thicket/dense/Sums", "<init>", "(I)V"⟩ : MethodName)) rfl hown (hw _ (List.mem_of_getElem? (i := 4) rfl)) (hw _ (List.mem_of_getElem? (i := 5) rfl)) (hw _ (List.mem_of_getElem? (i := 3) rfl)) (hw _ (List.mem_of_getElem? (i := 6) rfl)) (by decide) e5 (mq1 l Z a0 hw b3  h2 n0 (Nat.le_trans Z0 K12.1) A8 F13 F14 g11) 1 (by decide) (by decide) (g := (mkF m 31 #[.val (.long v0), .second, .val (.long v1), .second, .val (.int v2), .val (.long (v0 &&& (9223372036854775807 : Int64))), .second, .val (.long (v1 &&& (9223372036854775807 : Int64))), .second, .val (.int (v2 &&& (1 : Int32))), .val (.int ((1 : Int32) - (v2 &&& (1 : Int32)))), .unset, .unset, .unset, .unset, .unset] [(.int (2 : Int32)), (.ref b3), (.ref b3)])) rfl (by rw [hml]; rfl) (argsL := [(.int (2 : Int32))]) (rest := [(.ref b3)]) (lenOf pd_0 rfl) rfl (by show 2 * 0 + _ ≤ _; exact Nat.le_of_eq rfl) (hb hby at_31) rfl (by decide) (by decide) (fun T15 v16 L17 X18 hQ19 => ?_)
  obtain ⟨rfl, N20, K21, ⟨lo23, hi24, sl25, sh26, nn27, Fl28, Fh29, Al30, Ah31⟩⟩ := hQ19
  have N32 := Fr.app N0 N20
  have K33 := K12.trans K21 (allS (Or.inr sz10) all0)
  have sz34 : h0.size ≤ lo23 := Nat.le_trans K12.1 sl25
  have g35 : n0 ≤ lo23 := Nat.le_trans Z0 sz34
  have ne36 : b3 ≠ lo23 := Nat.ne_of_lt (Nat.lt_of_lt_of_le A8.lt sl25)
  have sz37 : h0.size ≤ hi24 := Nat.le_trans K12.1 sh26
  have g38 : n0 ≤ hi24 := Nat.le_trans Z0 sz37
  have ne39 : b3 ≠ hi24 := Nat.ne_of_lt (Nat.lt_of_lt_of_le A8.lt sh26)
  show Go p e below s _ _ _ T15 (mkF m 34 #[.val (.long v0), .second, .val (.long v1), .second, .val (.int v2), .val (.long (v0 &&& (9223372036854775807 : Int64))), .second, .val (.long (v1 &&& (9223372036854775807 : Int64))), .second, .val (.int (v2 &&& (1 : Int32))), .val (.int ((1 : Int32) - (v2 &&& (1 : Int32)))), .unset, .unset, .unset, .unset, .unset] [(.ref b3)])
  refine go_step (T' := T15) (g' := (mkF m 36 #[.val (.long v0), .second, .val (.long v1), .second, .val (.int v2), .val (.long (v0 &&& (9223372036854775807 : Int64))), .second, .val (.long (v1 &&& (9223372036854775807 : Int64))), .second, .val (.int (v2 &&& (1 : Int32))), .val (.int ((1 : Int32) - (v2 &&& (1 : Int32)))), .val (.ref b3), .unset, .unset, .unset, .unset] [])) (fun t k => XS.astore X18.here hx rfl (hb hby at_34) rfl rfl (l' := #[.val (.long v0), .second, .val (.long v1), .second, .val (.int v2), .val (.long (v0 &&& (9223372036854775807 : Int64))), .second, .val (.long (v1 &&& (9223372036854775807 : Int64))), .second, .val (.int (v2 &&& (1 : Int32))), .val (.int ((1 : Int32) - (v2 &&& (1 : Int32)))), .val (.ref b3), .unset, .unset, .unset, .unset]) rfl k) ?_
  refine go_step (T' := T15) (g' := (mkF m 38 #[.val (.long v0), .second, .val (.long v1), .second, .val (.int v2), .val (.long (v0 &&& (9223372036854775807 : Int64))), .second, .val (.long (v1 &&& (9223372036854775807 : Int64))), .second, .val (.int (v2 &&& (1 : Int32))), .val (.int ((1 : Int32) - (v2 &&& (1 : Int32)))), .val (.ref b3), .unset, .unset, .unset, .unset] [(.ref b3)])) (fun t k => XS.aload X18.here hx rfl (hb hby at_36) rfl rfl k) ?_
  refine go_step (T' := T15) (g' := (mkF m 40 #[.val (.long v0), .second, .val (.long v1), .second, .val (.int v2), .val (.long (v0 &&& (9223372036854775807 : Int64))), .second, .val (.long (v1 &&& (9223372036854775807 : Int64))), .second, .val (.int (v2 &&& (1 : Int32))), .val (.int ((1 : Int32) - (v2 &&& (1 : Int32)))), .val (.ref b3), .unset, .unset, .unset, .unset] [(.int (v2 &&& (1 : Int32))), (.ref b3)])) (fun t k => XS.iload X18.here hx rfl (hb hby at_38) rfl  k) ?_
  refine go_step (T' := T15) (g' := (mkF m 42 #[.val (.long v0), .second, .val (.long v1), .second, .val (.int v2), .val (.long (v0 &&& (9223372036854775807 : Int64))), .second, .val (.long (v1 &&& (9223372036854775807 : Int64))), .second, .val (.int (v2 &&& (1 : Int32))), .val (.int ((1 : Int32) - (v2 &&& (1 : Int32)))), .val (.ref b3), .unset, .unset, .unset, .unset] [(.long (v0 &&& (9223372036854775807 : Int64))), (.int (v2 &&& (1 : Int32))), (.ref b3)])) (fun t k => XS.lload X18.here hx rfl (hb hby at_40) rfl  k) ?_
  have G40 : Exa Z T15.heap b3 "com/example/thicket/thicket/dense/Sums" := (A8.keep K21)
  refine go_callV X18 hx hZ (y := (⟨"com/example/thicket/thicket/dense/Sums", "add", "(IJ)V"⟩ : MethodName)) hown (hw _ (List.mem_of_getElem? (i := 15) rfl)) (hw _ (List.mem_of_getElem? (i := 16) rfl)) (hw _ (List.mem_of_getElem? (i := 18) rfl)) (hw _ (List.mem_of_getElem? (i := 17) rfl)) (hw _ (List.mem_of_getElem? (i := 3) rfl)) (hw _ (List.mem_of_getElem? (i := 19) rfl)) (by decide) rfl G40 (mq3 l Z a0 hw b3 (v2 &&& (1 : Int32)) (v0 &&& (9223372036854775807 : Int64)) lo23 hi24 ([(0 : Int64), (0 : Int64)]) ([(0 : Int64), (0 : Int64)]) T15.heap n0 (Nat.le_trans Z0 K33.1) G40 Fl28 Fh29 Al30 Ah31 nn27 (own_i v2).1 (by simp only [own_len3_lo, own_len3_hi, own_len6_lo, own_len6_hi, List.length_cons, List.length_nil]; exact (own_i v2).2) (by simp only [own_len3_lo, own_len3_hi, own_len6_lo, own_len6_hi, List.length_cons, List.length_nil]; exact (own_i v2).2) g35 g38) 0 (by decide) (by decide) (g := (mkF m 42 #[.val (.long v0), .second, .val (.long v1), .second, .val (.int v2), .val (.long (v0 &&& (9223372036854775807 : Int64))), .second, .val (.long (v1 &&& (9223372036854775807 : Int64))), .second, .val (.int (v2 &&& (1 : Int32))), .val (.int ((1 : Int32) - (v2 &&& (1 : Int32)))), .val (.ref b3), .unset, .unset, .unset, .unset] [(.long (v0 &&& (9223372036854775807 : Int64))), (.int (v2 &&& (1 : Int32))), (.ref b3)])) rfl (by rw [hml]; rfl) (argsL := [(.int (v2 &&& (1 : Int32))), (.long (v0 &&& (9223372036854775807 : Int64)))]) (rest := []) (lenOf pd_1 rfl) rfl (by show 2 * 0 + _ ≤ _; exact Nat.le_of_eq rfl) (hb hby at_42) rfl (by decide) (by decide) (fun T41 v42 L43 X44 hQ45 => ?_)
  obtain ⟨rfl, N46, K47, F48, F49⟩ := hQ45
  have N50 := Fr.app N32 N46
  have K51 := K33.trans K47 (allS (Or.inr sz34) (allS (Or.inr sz37) all0))
  have F52 : JA Z T41.heap lo23 (s0_0 v0 v1 v2) := F48
  have F53 : JA Z T41.heap hi24 (s0_1 v0 v1 v2) := F49
  show Go p e below s _ _ _ T41 (mkF m 45 #[.val (.long v0), .second, .val (.long v1), .second, .val (.int v2), .val (.long (v0 &&& (9223372036854775807 : Int64))), .second, .val (.long (v1 &&& (9223372036854775807 : Int64))), .second, .val (.int (v2 &&& (1 : Int32))), .val (.int ((1 : Int32) - (v2 &&& (1 : Int32)))), .val (.ref b3), .unset, .unset, .unset, .unset] [])
  refine go_step (T' := T41) (g' := (mkF m 47 #[.val (.long v0), .second, .val (.long v1), .second, .val (.int v2), .val (.long (v0 &&& (9223372036854775807 : Int64))), .second, .val (.long (v1 &&& (9223372036854775807 : Int64))), .second, .val (.int (v2 &&& (1 : Int32))), .val (.int ((1 : Int32) - (v2 &&& (1 : Int32)))), .val (.ref b3), .unset, .unset, .unset, .unset] [(.ref b3)])) (fun t k => XS.aload X44.here hx rfl (hb hby at_45) rfl rfl k) ?_
  refine go_step (T' := T41) (g' := (mkF m 49 #[.val (.long v0), .second, .val (.long v1), .second, .val (.int v2), .val (.long (v0 &&& (9223372036854775807 : Int64))), .second, .val (.long (v1 &&& (9223372036854775807 : Int64))), .second, .val (.int (v2 &&& (1 : Int32))), .val (.int ((1 : Int32) - (v2 &&& (1 : Int32)))), .val (.ref b3), .unset, .unset, .unset, .unset] [(.int (v2 &&& (1 : Int32))), (.ref b3)])) (fun t k => XS.iload X44.here hx rfl (hb hby at_47) rfl  k) ?_
  refine go_step (T' := T41) (g' := (mkF m 51 #[.val (.long v0), .second, .val (.long v1), .second, .val (.int v2), .val (.long (v0 &&& (9223372036854775807 : Int64))), .second, .val (.long (v1 &&& (9223372036854775807 : Int64))), .second, .val (.int (v2 &&& (1 : Int32))), .val (.int ((1 : Int32) - (v2 &&& (1 : Int32)))), .val (.ref b3), .unset, .unset, .unset, .unset] [(.long (v1 &&& (9223372036854775807 : Int64))), (.int (v2 &&& (1 : Int32))), (.ref b3)])) (fun t k => XS.lload X44.here hx rfl (hb hby at_49) rfl  k) ?_
  have G54 : Exa Z T41.heap b3 "com/example/thicket/thicket/dense/Sums" := (G40.keep K47)
  have G55 : Fld Z T41.heap b3 "com/example/thicket/thicket/dense/Sums" "low" "[J" (.ref lo23) := (Fl28.keep K47 (ninS ne36 (ninS ne39 nin0)))
  have G56 : Fld Z T41.heap b3 "com/example/thicket/thicket/dense/Sums" "high" "[J" (.ref hi24) := (Fh29.keep K47 (ninS ne36 (ninS ne39 nin0)))
  refine go_callV X44 hx hZ (y := (⟨"com/example/thicket/thicket/dense/Sums", "add", "(IJ)V"⟩ : MethodName)) hown (hw _ (List.mem_of_getElem? (i := 15) rfl)) (hw _ (List.mem_of_getElem? (i := 16) rfl)) (hw _ (List.mem_of_getElem? (i := 18) rfl)) (hw _ (List.mem_of_getElem? (i := 17) rfl)) (hw _ (List.mem_of_getElem? (i := 3) rfl)) (hw _ (List.mem_of_getElem? (i := 19) rfl)) (by decide) rfl G54 (mq3 l Z a0 hw b3 (v2 &&& (1 : Int32)) (v1 &&& (9223372036854775807 : Int64)) lo23 hi24 ((s0_0 v0 v1 v2)) ((s0_1 v0 v1 v2)) T41.heap n0 (Nat.le_trans Z0 K51.1) G54 G55 G56 F52 F53 nn27 (own_i v2).1 (by simp only [s0_0, own_len3_lo, own_len3_hi, own_len6_lo, own_len6_hi, List.length_cons, List.length_nil]; exact (own_i v2).2) (by simp only [s0_1, own_len3_lo, own_len3_hi, own_len6_lo, own_len6_hi, List.length_cons, List.length_nil]; exact (own_i v2).2) g35 g38) 0 (by decide) (by decide) (g := (mkF m 51 #[.val (.long v0), .second, .val (.long v1), .second, .val (.int v2), .val (.long (v0 &&& (9223372036854775807 : Int64))), .second, .val (.long (v1 &&& (9223372036854775807 : Int64))), .second, .val (.int (v2 &&& (1 : Int32))), .val (.int ((1 : Int32) - (v2 &&& (1 : Int32)))), .val (.ref b3), .unset, .unset, .unset, .unset] [(.long (v1 &&& (9223372036854775807 : Int64))), (.int (v2 &&& (1 : Int32))), (.ref b3)])) rfl (by rw [hml]; rfl) (argsL := [(.int (v2 &&& (1 : Int32))), (.long (v1 &&& (9223372036854775807 : Int64)))]) (rest := []) (lenOf pd_1 rfl) rfl (by show 2 * 0 + _ ≤ _; exact Nat.le_of_eq rfl) (hb hby at_51) rfl (by decide) (by decide) (fun T57 v58 L59 X60 hQ61 => ?_)
  obtain ⟨rfl, N62, K63, F64, F65⟩ := hQ61
  have N66 := Fr.app N50 N62
  have K67 := K51.trans K63 (allS (Or.inr sz34) (allS (Or.inr sz37) all0))
  have F68 : JA Z T57.heap lo23 (s0_2 v0 v1 v2) := F64
  have F69 : JA Z T57.heap hi24 (s0_3 v0 v1 v2) := F65
  show Go p e below s _ _ _ T57 (mkF m 54 #[.val (.long v0), .second, .val (.long v1), .second, .val (.int v2), .val (.long (v0 &&& (9223372036854775807 : Int64))), .second, .val (.long (v1 &&& (9223372036854775807 : Int64))), .second, .val (.int (v2 &&& (1 : Int32))), .val (.int ((1 : Int32) - (v2 &&& (1 : Int32)))), .val (.ref b3), .unset, .unset, .unset, .unset] [])
  refine go_step (T' := T57) (g' := (mkF m 56 #[.val (.long v0), .second, .val (.long v1), .second, .val (.int v2), .val (.long (v0 &&& (9223372036854775807 : Int64))), .second, .val (.long (v1 &&& (9223372036854775807 : Int64))), .second, .val (.int (v2 &&& (1 : Int32))), .val (.int ((1 : Int32) - (v2 &&& (1 : Int32)))), .val (.ref b3), .unset, .unset, .unset, .unset] [(.long (v0 &&& (9223372036854775807 : Int64)))])) (fun t k => XS.lload X60.here hx rfl (hb hby at_54) rfl  k) ?_
  refine go_step (T' := T57) (g' := (mkF m 59 #[.val (.long v0), .second, .val (.long v1), .second, .val (.int v2), .val (.long (v0 &&& (9223372036854775807 : Int64))), .second, .val (.long (v1 &&& (9223372036854775807 : Int64))), .second, .val (.int (v2 &&& (1 : Int32))), .val (.int ((1 : Int32) - (v2 &&& (1 : Int32)))), .val (.ref b3), .unset, .unset, .unset, .unset] [(.long (9223372036854775807 : Int64)), (.long (v0 &&& (9223372036854775807 : Int64)))])) (X60.ldc2Long hx hown (mvT hZ (hw _ (List.mem_of_getElem? (i := 0) rfl))) (g := (mkF m 56 #[.val (.long v0), .second, .val (.long v1), .second, .val (.int v2), .val (.long (v0 &&& (9223372036854775807 : Int64))), .second, .val (.long (v1 &&& (9223372036854775807 : Int64))), .second, .val (.int (v2 &&& (1 : Int32))), .val (.int ((1 : Int32) - (v2 &&& (1 : Int32)))), .val (.ref b3), .unset, .unset, .unset, .unset] [(.long (v0 &&& (9223372036854775807 : Int64)))])) rfl (hb hby at_56)) ?_
  refine go_step (T' := T57) (g' := (mkF m 61 #[.val (.long v0), .second, .val (.long v1), .second, .val (.int v2), .val (.long (v0 &&& (9223372036854775807 : Int64))), .second, .val (.long (v1 &&& (9223372036854775807 : Int64))), .second, .val (.int (v2 &&& (1 : Int32))), .val (.int ((1 : Int32) - (v2 &&& (1 : Int32)))), .val (.ref b3), .unset, .unset, .unset, .unset] [(.long (v1 &&& (9223372036854775807 : Int64))), (.long (9223372036854775807 : Int64)), (.long (v0 &&& (9223372036854775807 : Int64)))])) (fun t k => XS.lload X60.here hx rfl (hb hby at_59) rfl  k) ?_
  refine go_step (T' := T57) (g' := (mkF m 62 #[.val (.long v0), .second, .val (.long v1), .second, .val (.int v2), .val (.long (v0 &&& (9223372036854775807 : Int64))), .second, .val (.long (v1 &&& (9223372036854775807 : Int64))), .second, .val (.int (v2 &&& (1 : Int32))), .val (.int ((1 : Int32) - (v2 &&& (1 : Int32)))), .val (.ref b3), .unset, .unset, .unset, .unset] [(.long ((9223372036854775807 : Int64) - (v1 &&& (9223372036854775807 : Int64)))), (.long (v0 &&& (9223372036854775807 : Int64)))])) (fun t k => XS.lsub X60.here hx rfl (hb hby at_61) rfl k) ?_
  refine go_step (T' := T57) (g' := (mkF m 63 #[.val (.long v0), .second, .val (.long v1), .second, .val (.int v2), .val (.long (v0 &&& (9223372036854775807 : Int64))), .second, .val (.long (v1 &&& (9223372036854775807 : Int64))), .second, .val (.int (v2 &&& (1 : Int32))), .val (.int ((1 : Int32) - (v2 &&& (1 : Int32)))), .val (.ref b3), .unset, .unset, .unset, .unset] [(.int (lcmpW (v0 &&& (9223372036854775807 : Int64)) ((9223372036854775807 : Int64) - (v1 &&& (9223372036854775807 : Int64)))))])) (fun t k => XS.lcmp X60.here hx rfl (hb hby at_62) rfl k) ?_
  refine go_join X60 (h := T57.heap) (g' := (mkF m 71 #[.val (.long v0), .second, .val (.long v1), .second, .val (.int v2), .val (.long (v0 &&& (9223372036854775807 : Int64))), .second, .val (.long (v1 &&& (9223372036854775807 : Int64))), .second, .val (.int (v2 &&& (1 : Int32))), .val (.int ((1 : Int32) - (v2 &&& (1 : Int32)))), .val (.ref b3), .unset, .unset, .unset, .unset] [(.int (z0_63_0 v0 v1 v2))])) (fun kk => ?_) (fun T71 X72 e73 => ?_)
  · by_cases hj70 : ((9223372036854775807 : Int64) - (v1 &&& (9223372036854775807 : Int64))) < (v0 &&& (9223372036854775807 : Int64))
    · refine go_step (T' := T57) (g' := (mkF m 66 #[.val (.long v0), .second, .val (.long v1), .second, .val (.int v2), .val (.long (v0 &&& (9223372036854775807 : Int64))), .second, .val (.long (v1 &&& (9223372036854775807 : Int64))), .second, .val (.int (v2 &&& (1 : Int32))), .val (.int ((1 : Int32) - (v2 &&& (1 : Int32)))), .val (.ref b3), .unset, .unset, .unset, .unset] [])) (fun t k => XS.ifNo X60.here hx rfl (hb hby at_63) rfl ((if0 _ _).trans (tlt ((lw_gt _ _).mpr hj70)).2.2.2) k) ?_
      refine go_step (T' := T57) (g' := (mkF m 67 #[.val (.long v0), .second, .val (.long v1), .second, .val (.int v2), .val (.long (v0 &&& (9223372036854775807 : Int64))), .second, .val (.long (v1 &&& (9223372036854775807 : Int64))), .second, .val (.int (v2 &&& (1 : Int32))), .val (.int ((1 : Int32) - (v2 &&& (1 : Int32)))), .val (.ref b3), .unset, .unset, .unset, .unset] [(.int (1 : Int32))])) (fun t k => XS.iconst X60.here hx rfl (hb hby at_66) k) ?_
      refine go_step (T' := T57) (g' := (mkF m 71 #[.val (.long v0), .second, .val (.long v1), .second, .val (.int v2), .val (.long (v0 &&& (9223372036854775807 : Int64))), .second, .val (.long (v1 &&& (9223372036854775807 : Int64))), .second, .val (.int (v2 &&& (1 : Int32))), .val (.int ((1 : Int32) - (v2 &&& (1 : Int32)))), .val (.ref b3), .unset, .unset, .unset, .unset] [(.int (1 : Int32))])) (fun t k => XS.goto X60.here hx rfl (pc0 := 67) (pc' := 71) rfl (hb hby at_67) (by decide) (by decide) k) ?_
      have k2 := kk T57 X60 rfl
      rw [show (z0_63_0 v0 v1 v2) = (1 : Int32) by unfold z0_63_0; rw [if_pos hj70]] at k2
      exact k2
    · refine go_step (T' := T57) (g' := (mkF m 70 #[.val (.long v0), .second, .val (.long v1), .second, .val (.int v2), .val (.long (v0 &&& (9223372036854775807 : Int64))), .second, .val (.long (v1 &&& (9223372036854775807 : Int64))), .second, .val (.int (v2 &&& (1 : Int32))), .val (.int ((1 : Int32) - (v2 &&& (1 : Int32)))), .val (.ref b3), .unset, .unset, .unset, .unset] [])) (fun t k => XS.ifYes X60.here hx rfl (pc0 := 63) (pc' := 70) rfl (hb hby at_63) rfl ((if0 _ _).trans (flt (fun q => hj70 ((lw_gt _ _).mp q))).2.2.2) (by decide) (by decide) k) ?_
      refine go_step (T' := T57) (g' := (mkF m 71 #[.val (.long v0), .second, .val (.long v1), .second, .val (.int v2), .val (.long (v0 &&& (9223372036854775807 : Int64))), .second, .val (.long (v1 &&& (9223372036854775807 : Int64))), .second, .val (.int (v2 &&& (1 : Int32))), .val (.int ((1 : Int32) - (v2 &&& (1 : Int32)))), .val (.ref b3), .unset, .unset, .unset, .unset] [(.int (0 : Int32))])) (fun t k => XS.iconst X60.here hx rfl (hb hby at_70) k) ?_
      have k2 := kk T57 X60 rfl
      rw [show (z0_63_0 v0 v1 v2) = (0 : Int32) by unfold z0_63_0; rw [if_neg hj70]] at k2
      exact k2
  refine go_step (T' := T71) (g' := (mkF m 73 #[.val (.long v0), .second, .val (.long v1), .second, .val (.int v2), .val (.long (v0 &&& (9223372036854775807 : Int64))), .second, .val (.long (v1 &&& (9223372036854775807 : Int64))), .second, .val (.int (v2 &&& (1 : Int32))), .val (.int ((1 : Int32) - (v2 &&& (1 : Int32)))), .val (.ref b3), .val (.int (z0_63_0 v0 v1 v2)), .unset, .unset, .unset] [])) (fun t k => XS.istore X72.here hx rfl (hb hby at_71) rfl (l' := #[.val (.long v0), .second, .val (.long v1), .second, .val (.int v2), .val (.long (v0 &&& (9223372036854775807 : Int64))), .second, .val (.long (v1 &&& (9223372036854775807 : Int64))), .second, .val (.int (v2 &&& (1 : Int32))), .val (.int ((1 : Int32) - (v2 &&& (1 : Int32)))), .val (.ref b3), .val (.int (z0_63_0 v0 v1 v2)), .unset, .unset, .unset]) rfl k) ?_
  refine go_step (T' := T71) (g' := (mkF m 75 #[.val (.long v0), .second, .val (.long v1), .second, .val (.int v2), .val (.long (v0 &&& (9223372036854775807 : Int64))), .second, .val (.long (v1 &&& (9223372036854775807 : Int64))), .second, .val (.int (v2 &&& (1 : Int32))), .val (.int ((1 : Int32) - (v2 &&& (1 : Int32)))), .val (.ref b3), .val (.int (z0_63_0 v0 v1 v2)), .unset, .unset, .unset] [(.int (z0_63_0 v0 v1 v2))])) (fun t k => XS.iload X72.here hx rfl (hb hby at_73) rfl  k) ?_
  by_cases hc74 : (z0_63_0 v0 v1 v2) = (0 : Int32)
  · refine go_step (T' := T71) (g' := (mkF m 124 #[.val (.long v0), .second, .val (.long v1), .second, .val (.int v2), .val (.long (v0 &&& (9223372036854775807 : Int64))), .second, .val (.long (v1 &&& (9223372036854775807 : Int64))), .second, .val (.int (v2 &&& (1 : Int32))), .val (.int ((1 : Int32) - (v2 &&& (1 : Int32)))), .val (.ref b3), .val (.int (z0_63_0 v0 v1 v2)), .unset, .unset, .unset] [])) (fun t k => XS.ifYes X72.here hx rfl (pc0 := 75) (pc' := 124) rfl (hb hby at_75) rfl ((if0 _ _).trans (teq hc74).1) (by decide) (by decide) k) ?_
    refine go_step (T' := T71) (g' := (mkF m 126 #[.val (.long v0), .second, .val (.long v1), .second, .val (.int v2), .val (.long (v0 &&& (9223372036854775807 : Int64))), .second, .val (.long (v1 &&& (9223372036854775807 : Int64))), .second, .val (.int (v2 &&& (1 : Int32))), .val (.int ((1 : Int32) - (v2 &&& (1 : Int32)))), .val (.ref b3), .val (.int (z0_63_0 v0 v1 v2)), .unset, .unset, .unset] [(.ref b3)])) (fun t k => XS.aload X72.here hx rfl (hb hby at_124) rfl rfl k) ?_
    refine go_step (T' := T71) (g' := (mkF m 128 #[.val (.long v0), .second, .val (.long v1), .second, .val (.int v2), .val (.long (v0 &&& (9223372036854775807 : Int64))), .second, .val (.long (v1 &&& (9223372036854775807 : Int64))), .second, .val (.int (v2 &&& (1 : Int32))), .val (.int ((1 : Int32) - (v2 &&& (1 : Int32)))), .val (.ref b3), .val (.int (z0_63_0 v0 v1 v2)), .unset, .unset, .unset] [(.int (v2 &&& (1 : Int32))), (.ref b3)])) (fun t k => XS.iload X72.here hx rfl (hb hby at_126) rfl  k) ?_
    have G75 : Fld Z T57.heap b3 "com/example/thicket/thicket/dense/Sums" "high" "[J" (.ref hi24) := (G56.keep K63 (ninS ne36 (ninS ne39 nin0)))
    have G76 : Exa Z T57.heap b3 "com/example/thicket/thicket/dense/Sums" := (G54.keep K63)
    refine go_callVP X72 hx hZ (y := (⟨"com/example/thicket/thicket/dense/Sums", "isLong", "(I)Z"⟩ : MethodName)) hown (hw _ (List.mem_of_getElem? (i := 20) rfl)) (hw _ (List.mem_of_getElem? (i := 21) rfl)) (hw _ (List.mem_of_getElem? (i := 23) rfl)) (hw _ (List.mem_of_getElem? (i := 22) rfl)) (hw _ (List.mem_of_getElem? (i := 3) rfl)) (hw _ (List.mem_of_getElem? (i := 24) rfl)) (by decide) e73 G76 (mq4 l Z a0 hw b3 (v2 &&& (1 : Int32)) hi24 ((s0_3 v0 v1 v2)) T57.heap 0 (Nat.zero_le _) G75 F69 (own_i v2).1 (by simp only [s0_3, s0_0, s0_1, own_len3_lo, own_len3_hi, own_len6_lo, own_len6_hi, List.length_cons, List.length_nil]; exact (own_i v2).2)) 0 (by decide) (by decide) (g := (mkF m 128 #[.val (.long v0), .second, .val (.long v1), .second, .val (.int v2), .val (.long (v0 &&& (9223372036854775807 : Int64))), .second, .val (.long (v1 &&& (9223372036854775807 : Int64))), .second, .val (.int (v2 &&& (1 : Int32))), .val (.int ((1 : Int32) - (v2 &&& (1 : Int32)))), .val (.ref b3), .val (.int (z0_63_0 v0 v1 v2)), .unset, .unset, .unset] [(.int (v2 &&& (1 : Int32))), (.ref b3)])) rfl (by rw [hml]; rfl) (argsL := [(.int (v2 &&& (1 : Int32)))]) (rest := []) (lenOf pd_2 rfl) rfl (by show 2 * 0 + _ ≤ _; exact Nat.le_of_eq rfl) (hb hby at_128) rfl rfl rfl (by decide) (by decide) (fun T77 X78 e79 => ?_)
    show Go p e below s _ _ _ T77 (mkF m 131 #[.val (.long v0), .second, .val (.long v1), .second, .val (.int v2), .val (.long (v0 &&& (9223372036854775807 : Int64))), .second, .val (.long (v1 &&& (9223372036854775807 : Int64))), .second, .val (.int (v2 &&& (1 : Int32))), .val (.int ((1 : Int32) - (v2 &&& (1 : Int32)))), .val (.ref b3), .val (.int (z0_63_0 v0 v1 v2)), .unset, .unset, .unset] [(.int (f4_ret (v2 &&& (1 : Int32)) (s0_3 v0 v1 v2)))])
    refine go_join X78 (h := T57.heap) (g' := (mkF m 155 #[.val (.long v0), .second, .val (.long v1), .second, .val (.int v2), .val (.long (v0 &&& (9223372036854775807 : Int64))), .second, .val (.long (v1 &&& (9223372036854775807 : Int64))), .second, .val (.int (v2 &&& (1 : Int32))), .val (.int ((1 : Int32) - (v2 &&& (1 : Int32)))), .val (.ref b3), .val (.int (z0_63_0 v0 v1 v2)), .unset, .unset, .unset] [(.int (z0_131_0 v0 v1 v2))])) (fun kk => ?_) (fun T86 X87 e88 => ?_)
    · by_cases hj80 : (f4_ret (v2 &&& (1 : Int32)) (s0_3 v0 v1 v2)) = (0 : Int32)
      · refine go_step (T' := T77) (g' := (mkF m 154 #[.val (.long v0), .second, .val (.long v1), .second, .val (.int v2), .val (.long (v0 &&& (9223372036854775807 : Int64))), .second, .val (.long (v1 &&& (9223372036854775807 : Int64))), .second, .val (.int (v2 &&& (1 : Int32))), .val (.int ((1 : Int32) - (v2 &&& (1 : Int32)))), .val (.ref b3), .val (.int (z0_63_0 v0 v1 v2)), .unset, .unset, .unset] [])) (fun t k => XS.ifYes X78.here hx rfl (pc0 := 131) (pc' := 154) rfl (hb hby at_131) rfl ((if0 _ _).trans (teq hj80).1) (by decide) (by decide) k) ?_
        refine go_step (T' := T77) (g' := (mkF m 155 #[.val (.long v0), .second, .val (.long v1), .second, .val (.int v2), .val (.long (v0 &&& (9223372036854775807 : Int64))), .second, .val (.long (v1 &&& (9223372036854775807 : Int64))), .second, .val (.int (v2 &&& (1 : Int32))), .val (.int ((1 : Int32) - (v2 &&& (1 : Int32)))), .val (.ref b3), .val (.int (z0_63_0 v0 v1 v2)), .unset, .unset, .unset] [(.int (0 : Int32))])) (fun t k => XS.iconst X78.here hx rfl (hb hby at_154) k) ?_
        have k2 := kk T77 X78 e79
        rw [show (z0_131_0 v0 v1 v2) = (0 : Int32) by unfold z0_131_0; rw [if_pos hj80]] at k2
        exact k2
      · refine go_step (T' := T77) (g' := (mkF m 134 #[.val (.long v0), .second, .val (.long v1), .second, .val (.int v2), .val (.long (v0 &&& (9223372036854775807 : Int64))), .second, .val (.long (v1 &&& (9223372036854775807 : Int64))), .second, .val (.int (v2 &&& (1 : Int32))), .val (.int ((1 : Int32) - (v2 &&& (1 : Int32)))), .val (.ref b3), .val (.int (z0_63_0 v0 v1 v2)), .unset, .unset, .unset] [])) (fun t k => XS.ifNo X78.here hx rfl (hb hby at_131) rfl ((if0 _ _).trans (feq hj80).1) k) ?_
        refine go_step (T' := T77) (g' := (mkF m 136 #[.val (.long v0), .second, .val (.long v1), .second, .val (.int v2), .val (.long (v0 &&& (9223372036854775807 : Int64))), .second, .val (.long (v1 &&& (9223372036854775807 : Int64))), .second, .val (.int (v2 &&& (1 : Int32))), .val (.int ((1 : Int32) - (v2 &&& (1 : Int32)))), .val (.ref b3), .val (.int (z0_63_0 v0 v1 v2)), .unset, .unset, .unset] [(.ref b3)])) (fun t k => XS.aload X78.here hx rfl (hb hby at_134) rfl rfl k) ?_
        refine go_step (T' := T77) (g' := (mkF m 138 #[.val (.long v0), .second, .val (.long v1), .second, .val (.int v2), .val (.long (v0 &&& (9223372036854775807 : Int64))), .second, .val (.long (v1 &&& (9223372036854775807 : Int64))), .second, .val (.int (v2 &&& (1 : Int32))), .val (.int ((1 : Int32) - (v2 &&& (1 : Int32)))), .val (.ref b3), .val (.int (z0_63_0 v0 v1 v2)), .unset, .unset, .unset] [(.int (v2 &&& (1 : Int32))), (.ref b3)])) (fun t k => XS.iload X78.here hx rfl (hb hby at_136) rfl  k) ?_
        have G81 : Fld Z T57.heap b3 "com/example/thicket/thicket/dense/Sums" "low" "[J" (.ref lo23) := (G55.keep K63 (ninS ne36 (ninS ne39 nin0)))
        refine go_callVP X78 hx hZ (y := (⟨"com/example/thicket/thicket/dense/Sums", "longValue", "(I)J"⟩ : MethodName)) hown (hw _ (List.mem_of_getElem? (i := 25) rfl)) (hw _ (List.mem_of_getElem? (i := 26) rfl)) (hw _ (List.mem_of_getElem? (i := 28) rfl)) (hw _ (List.mem_of_getElem? (i := 27) rfl)) (hw _ (List.mem_of_getElem? (i := 3) rfl)) (hw _ (List.mem_of_getElem? (i := 29) rfl)) (by decide) e79 G76 (mq5 l Z a0 hw b3 (v2 &&& (1 : Int32)) lo23 ((s0_2 v0 v1 v2)) T57.heap 0 (Nat.zero_le _) G81 F68 (own_i v2).1 (by simp only [s0_2, s0_0, s0_1, own_len3_lo, own_len3_hi, own_len6_lo, own_len6_hi, List.length_cons, List.length_nil]; exact (own_i v2).2)) 0 (by decide) (by decide) (g := (mkF m 138 #[.val (.long v0), .second, .val (.long v1), .second, .val (.int v2), .val (.long (v0 &&& (9223372036854775807 : Int64))), .second, .val (.long (v1 &&& (9223372036854775807 : Int64))), .second, .val (.int (v2 &&& (1 : Int32))), .val (.int ((1 : Int32) - (v2 &&& (1 : Int32)))), .val (.ref b3), .val (.int (z0_63_0 v0 v1 v2)), .unset, .unset, .unset] [(.int (v2 &&& (1 : Int32))), (.ref b3)])) rfl (by rw [hml]; rfl) (argsL := [(.int (v2 &&& (1 : Int32)))]) (rest := []) (lenOf pd_3 rfl) rfl (by show 2 * 0 + _ ≤ _; exact Nat.le_of_eq rfl) (hb hby at_138) rfl rfl rfl (by decide) (by decide) (fun T82 X83 e84 => ?_)
        show Go p e below s _ _ _ T82 (mkF m 141 #[.val (.long v0), .second, .val (.long v1), .second, .val (.int v2), .val (.long (v0 &&& (9223372036854775807 : Int64))), .second, .val (.long (v1 &&& (9223372036854775807 : Int64))), .second, .val (.int (v2 &&& (1 : Int32))), .val (.int ((1 : Int32) - (v2 &&& (1 : Int32)))), .val (.ref b3), .val (.int (z0_63_0 v0 v1 v2)), .unset, .unset, .unset] [(.long (f5_ret (v2 &&& (1 : Int32)) (s0_2 v0 v1 v2)))])
        refine go_step (T' := T82) (g' := (mkF m 143 #[.val (.long v0), .second, .val (.long v1), .second, .val (.int v2), .val (.long (v0 &&& (9223372036854775807 : Int64))), .second, .val (.long (v1 &&& (9223372036854775807 : Int64))), .second, .val (.int (v2 &&& (1 : Int32))), .val (.int ((1 : Int32) - (v2 &&& (1 : Int32)))), .val (.ref b3), .val (.int (z0_63_0 v0 v1 v2)), .unset, .unset, .unset] [(.long (v0 &&& (9223372036854775807 : Int64))), (.long (f5_ret (v2 &&& (1 : Int32)) (s0_2 v0 v1 v2)))])) (fun t k => XS.lload X83.here hx rfl (hb hby at_141) rfl  k) ?_
        refine go_step (T' := T82) (g' := (mkF m 145 #[.val (.long v0), .second, .val (.long v1), .second, .val (.int v2), .val (.long (v0 &&& (9223372036854775807 : Int64))), .second, .val (.long (v1 &&& (9223372036854775807 : Int64))), .second, .val (.int (v2 &&& (1 : Int32))), .val (.int ((1 : Int32) - (v2 &&& (1 : Int32)))), .val (.ref b3), .val (.int (z0_63_0 v0 v1 v2)), .unset, .unset, .unset] [(.long (v1 &&& (9223372036854775807 : Int64))), (.long (v0 &&& (9223372036854775807 : Int64))), (.long (f5_ret (v2 &&& (1 : Int32)) (s0_2 v0 v1 v2)))])) (fun t k => XS.lload X83.here hx rfl (hb hby at_143) rfl  k) ?_
        refine go_step (T' := T82) (g' := (mkF m 146 #[.val (.long v0), .second, .val (.long v1), .second, .val (.int v2), .val (.long (v0 &&& (9223372036854775807 : Int64))), .second, .val (.long (v1 &&& (9223372036854775807 : Int64))), .second, .val (.int (v2 &&& (1 : Int32))), .val (.int ((1 : Int32) - (v2 &&& (1 : Int32)))), .val (.ref b3), .val (.int (z0_63_0 v0 v1 v2)), .unset, .unset, .unset] [(.long ((v0 &&& (9223372036854775807 : Int64)) + (v1 &&& (9223372036854775807 : Int64)))), (.long (f5_ret (v2 &&& (1 : Int32)) (s0_2 v0 v1 v2)))])) (fun t k => XS.ladd X83.here hx rfl (hb hby at_145) rfl k) ?_
        refine go_step (T' := T82) (g' := (mkF m 147 #[.val (.long v0), .second, .val (.long v1), .second, .val (.int v2), .val (.long (v0 &&& (9223372036854775807 : Int64))), .second, .val (.long (v1 &&& (9223372036854775807 : Int64))), .second, .val (.int (v2 &&& (1 : Int32))), .val (.int ((1 : Int32) - (v2 &&& (1 : Int32)))), .val (.ref b3), .val (.int (z0_63_0 v0 v1 v2)), .unset, .unset, .unset] [(.int (lcmpW (f5_ret (v2 &&& (1 : Int32)) (s0_2 v0 v1 v2)) ((v0 &&& (9223372036854775807 : Int64)) + (v1 &&& (9223372036854775807 : Int64)))))])) (fun t k => XS.lcmp X83.here hx rfl (hb hby at_146) rfl k) ?_
        by_cases hj85 : (f5_ret (v2 &&& (1 : Int32)) (s0_2 v0 v1 v2)) = ((v0 &&& (9223372036854775807 : Int64)) + (v1 &&& (9223372036854775807 : Int64)))
        · refine go_step (T' := T82) (g' := (mkF m 150 #[.val (.long v0), .second, .val (.long v1), .second, .val (.int v2), .val (.long (v0 &&& (9223372036854775807 : Int64))), .second, .val (.long (v1 &&& (9223372036854775807 : Int64))), .second, .val (.int (v2 &&& (1 : Int32))), .val (.int ((1 : Int32) - (v2 &&& (1 : Int32)))), .val (.ref b3), .val (.int (z0_63_0 v0 v1 v2)), .unset, .unset, .unset] [])) (fun t k => XS.ifNo X83.here hx rfl (hb hby at_147) rfl ((if0 _ _).trans (teq ((lw_eq _ _).mpr hj85)).2) k) ?_
          refine go_step (T' := T82) (g' := (mkF m 151 #[.val (.long v0), .second, .val (.long v1), .second, .val (.int v2), .val (.long (v0 &&& (9223372036854775807 : Int64))), .second, .val (.long (v1 &&& (9223372036854775807 : Int64))), .second, .val (.int (v2 &&& (1 : Int32))), .val (.int ((1 : Int32) - (v2 &&& (1 : Int32)))), .val (.ref b3), .val (.int (z0_63_0 v0 v1 v2)), .unset, .unset, .unset] [(.int (1 : Int32))])) (fun t k => XS.iconst X83.here hx rfl (hb hby at_150) k) ?_
          refine go_step (T' := T82) (g' := (mkF m 155 #[.val (.long v0), .second, .val (.long v1), .second, .val (.int v2), .val (.long (v0 &&& (9223372036854775807 : Int64))), .second, .val (.long (v1 &&& (9223372036854775807 : Int64))), .second, .val (.int (v2 &&& (1 : Int32))), .val (.int ((1 : Int32) - (v2 &&& (1 : Int32)))), .val (.ref b3), .val (.int (z0_63_0 v0 v1 v2)), .unset, .unset, .unset] [(.int (1 : Int32))])) (fun t k => XS.goto X83.here hx rfl (pc0 := 151) (pc' := 155) rfl (hb hby at_151) (by decide) (by decide) k) ?_
          have k2 := kk T82 X83 e84
          rw [show (z0_131_0 v0 v1 v2) = (1 : Int32) by unfold z0_131_0; rw [if_neg hj80]; rw [if_pos hj85]] at k2
          exact k2
        · refine go_step (T' := T82) (g' := (mkF m 154 #[.val (.long v0), .second, .val (.long v1), .second, .val (.int v2), .val (.long (v0 &&& (9223372036854775807 : Int64))), .second, .val (.long (v1 &&& (9223372036854775807 : Int64))), .second, .val (.int (v2 &&& (1 : Int32))), .val (.int ((1 : Int32) - (v2 &&& (1 : Int32)))), .val (.ref b3), .val (.int (z0_63_0 v0 v1 v2)), .unset, .unset, .unset] [])) (fun t k => XS.ifYes X83.here hx rfl (pc0 := 147) (pc' := 154) rfl (hb hby at_147) rfl ((if0 _ _).trans (feq (fun q => hj85 ((lw_eq _ _).mp q))).2) (by decide) (by decide) k) ?_
          refine go_step (T' := T82) (g' := (mkF m 155 #[.val (.long v0), .second, .val (.long v1), .second, .val (.int v2), .val (.long (v0 &&& (9223372036854775807 : Int64))), .second, .val (.long (v1 &&& (9223372036854775807 : Int64))), .second, .val (.int (v2 &&& (1 : Int32))), .val (.int ((1 : Int32) - (v2 &&& (1 : Int32)))), .val (.ref b3), .val (.int (z0_63_0 v0 v1 v2)), .unset, .unset, .unset] [(.int (0 : Int32))])) (fun t k => XS.iconst X83.here hx rfl (hb hby at_154) k) ?_
          have k2 := kk T82 X83 e84
          rw [show (z0_131_0 v0 v1 v2) = (0 : Int32) by unfold z0_131_0; rw [if_neg hj80]; rw [if_neg hj85]] at k2
          exact k2
    refine go_step (T' := T86) (g' := (mkF m 157 #[.val (.long v0), .second, .val (.long v1), .second, .val (.int v2), .val (.long (v0 &&& (9223372036854775807 : Int64))), .second, .val (.long (v1 &&& (9223372036854775807 : Int64))), .second, .val (.int (v2 &&& (1 : Int32))), .val (.int ((1 : Int32) - (v2 &&& (1 : Int32)))), .val (.ref b3), .val (.int (z0_63_0 v0 v1 v2)), .val (.int (z0_131_0 v0 v1 v2)), .unset, .unset] [])) (fun t k => XS.istore X87.here hx rfl (hb hby at_155) rfl (l' := #[.val (.long v0), .second, .val (.long v1), .second, .val (.int v2), .val (.long (v0 &&& (9223372036854775807 : Int64))), .second, .val (.long (v1 &&& (9223372036854775807 : Int64))), .second, .val (.int (v2 &&& (1 : Int32))), .val (.int ((1 : Int32) - (v2 &&& (1 : Int32)))), .val (.ref b3), .val (.int (z0_63_0 v0 v1 v2)), .val (.int (z0_131_0 v0 v1 v2)), .unset, .unset]) rfl k) ?_
    refine go_step (T' := T86) (g' := (mkF m 159 #[.val (.long v0), .second, .val (.long v1), .second, .val (.int v2), .val (.long (v0 &&& (9223372036854775807 : Int64))), .second, .val (.long (v1 &&& (9223372036854775807 : Int64))), .second, .val (.int (v2 &&& (1 : Int32))), .val (.int ((1 : Int32) - (v2 &&& (1 : Int32)))), .val (.ref b3), .val (.int (z0_63_0 v0 v1 v2)), .val (.int (z0_131_0 v0 v1 v2)), .unset, .unset] [(.ref b3)])) (fun t k => XS.aload X87.here hx rfl (hb hby at_157) rfl rfl k) ?_
    refine go_step (T' := T86) (g' := (mkF m 161 #[.val (.long v0), .second, .val (.long v1), .second, .val (.int v2), .val (.long (v0 &&& (9223372036854775807 : Int64))), .second, .val (.long (v1 &&& (9223372036854775807 : Int64))), .second, .val (.int (v2 &&& (1 : Int32))), .val (.int ((1 : Int32) - (v2 &&& (1 : Int32)))), .val (.ref b3), .val (.int (z0_63_0 v0 v1 v2)), .val (.int (z0_131_0 v0 v1 v2)), .unset, .unset] [(.int ((1 : Int32) - (v2 &&& (1 : Int32)))), (.ref b3)])) (fun t k => XS.iload X87.here hx rfl (hb hby at_159) rfl  k) ?_
    refine go_callVP X87 hx hZ (y := (⟨"com/example/thicket/thicket/dense/Sums", "isLong", "(I)Z"⟩ : MethodName)) hown (hw _ (List.mem_of_getElem? (i := 20) rfl)) (hw _ (List.mem_of_getElem? (i := 21) rfl)) (hw _ (List.mem_of_getElem? (i := 23) rfl)) (hw _ (List.mem_of_getElem? (i := 22) rfl)) (hw _ (List.mem_of_getElem? (i := 3) rfl)) (hw _ (List.mem_of_getElem? (i := 24) rfl)) (by decide) e88 G76 (mq4 l Z a0 hw b3 ((1 : Int32) - (v2 &&& (1 : Int32))) hi24 ((s0_3 v0 v1 v2)) T57.heap 0 (Nat.zero_le _) G75 F69 (own_j v2).1 (by simp only [s0_3, s0_0, s0_1, own_len3_lo, own_len3_hi, own_len6_lo, own_len6_hi, List.length_cons, List.length_nil]; exact (own_j v2).2)) 0 (by decide) (by decide) (g := (mkF m 161 #[.val (.long v0), .second, .val (.long v1), .second, .val (.int v2), .val (.long (v0 &&& (9223372036854775807 : Int64))), .second, .val (.long (v1 &&& (9223372036854775807 : Int64))), .second, .val (.int (v2 &&& (1 : Int32))), .val (.int ((1 : Int32) - (v2 &&& (1 : Int32)))), .val (.ref b3), .val (.int (z0_63_0 v0 v1 v2)), .val (.int (z0_131_0 v0 v1 v2)), .unset, .unset] [(.int ((1 : Int32) - (v2 &&& (1 : Int32)))), (.ref b3)])) rfl (by rw [hml]; rfl) (argsL := [(.int ((1 : Int32) - (v2 &&& (1 : Int32))))]) (rest := []) (lenOf pd_2 rfl) rfl (by show 2 * 0 + _ ≤ _; exact Nat.le_of_eq rfl) (hb hby at_161) rfl rfl rfl (by decide) (by decide) (fun T89 X90 e91 => ?_)
    show Go p e below s _ _ _ T89 (mkF m 164 #[.val (.long v0), .second, .val (.long v1), .second, .val (.int v2), .val (.long (v0 &&& (9223372036854775807 : Int64))), .second, .val (.long (v1 &&& (9223372036854775807 : Int64))), .second, .val (.int (v2 &&& (1 : Int32))), .val (.int ((1 : Int32) - (v2 &&& (1 : Int32)))), .val (.ref b3), .val (.int (z0_63_0 v0 v1 v2)), .val (.int (z0_131_0 v0 v1 v2)), .unset, .unset] [(.int (f4_ret ((1 : Int32) - (v2 &&& (1 : Int32))) (s0_3 v0 v1 v2)))])
    refine go_join X90 (h := T57.heap) (g' := (mkF m 184 #[.val (.long v0), .second, .val (.long v1), .second, .val (.int v2), .val (.long (v0 &&& (9223372036854775807 : Int64))), .second, .val (.long (v1 &&& (9223372036854775807 : Int64))), .second, .val (.int (v2 &&& (1 : Int32))), .val (.int ((1 : Int32) - (v2 &&& (1 : Int32)))), .val (.ref b3), .val (.int (z0_63_0 v0 v1 v2)), .val (.int (z0_131_0 v0 v1 v2)), .unset, .unset] [(.int (z0_164_0 v0 v1 v2))])) (fun kk => ?_) (fun T98 X99 e100 => ?_)
    · by_cases hj92 : (f4_ret ((1 : Int32) - (v2 &&& (1 : Int32))) (s0_3 v0 v1 v2)) = (0 : Int32)
      · refine go_step (T' := T89) (g' := (mkF m 183 #[.val (.long v0), .second, .val (.long v1), .second, .val (.int v2), .val (.long (v0 &&& (9223372036854775807 : Int64))), .second, .val (.long (v1 &&& (9223372036854775807 : Int64))), .second, .val (.int (v2 &&& (1 : Int32))), .val (.int ((1 : Int32) - (v2 &&& (1 : Int32)))), .val (.ref b3), .val (.int (z0_63_0 v0 v1 v2)), .val (.int (z0_131_0 v0 v1 v2)), .unset, .unset] [])) (fun t k => XS.ifYes X90.here hx rfl (pc0 := 164) (pc' := 183) rfl (hb hby at_164) rfl ((if0 _ _).trans (teq hj92).1) (by decide) (by decide) k) ?_
        refine go_step (T' := T89) (g' := (mkF m 184 #[.val (.long v0), .second, .val (.long v1), .second, .val (.int v2), .val (.long (v0 &&& (9223372036854775807 : Int64))), .second, .val (.long (v1 &&& (9223372036854775807 : Int64))), .second, .val (.int (v2 &&& (1 : Int32))), .val (.int ((1 : Int32) - (v2 &&& (1 : Int32)))), .val (.ref b3), .val (.int (z0_63_0 v0 v1 v2)), .val (.int (z0_131_0 v0 v1 v2)), .unset, .unset] [(.int (0 : Int32))])) (fun t k => XS.iconst X90.here hx rfl (hb hby at_183) k) ?_
        have k2 := kk T89 X90 e91
        rw [show (z0_164_0 v0 v1 v2) = (0 : Int32) by unfold z0_164_0; rw [if_pos hj92]] at k2
        exact k2
      · refine go_step (T' := T89) (g' := (mkF m 167 #[.val (.long v0), .second, .val (.long v1), .second, .val (.int v2), .val (.long (v0 &&& (9223372036854775807 : Int64))), .second, .val (.long (v1 &&& (9223372036854775807 : Int64))), .second, .val (.int (v2 &&& (1 : Int32))), .val (.int ((1 : Int32) - (v2 &&& (1 : Int32)))), .val (.ref b3), .val (.int (z0_63_0 v0 v1 v2)), .val (.int (z0_131_0 v0 v1 v2)), .unset, .unset] [])) (fun t k => XS.ifNo X90.here hx rfl (hb hby at_164) rfl ((if0 _ _).trans (feq hj92).1) k) ?_
        refine go_step (T' := T89) (g' := (mkF m 169 #[.val (.long v0), .second, .val (.long v1), .second, .val (.int v2), .val (.long (v0 &&& (9223372036854775807 : Int64))), .second, .val (.long (v1 &&& (9223372036854775807 : Int64))), .second, .val (.int (v2 &&& (1 : Int32))), .val (.int ((1 : Int32) - (v2 &&& (1 : Int32)))), .val (.ref b3), .val (.int (z0_63_0 v0 v1 v2)), .val (.int (z0_131_0 v0 v1 v2)), .unset, .unset] [(.ref b3)])) (fun t k => XS.aload X90.here hx rfl (hb hby at_167) rfl rfl k) ?_
        refine go_step (T' := T89) (g' := (mkF m 171 #[.val (.long v0), .second, .val (.long v1), .second, .val (.int v2), .val (.long (v0 &&& (9223372036854775807 : Int64))), .second, .val (.long (v1 &&& (9223372036854775807 : Int64))), .second, .val (.int (v2 &&& (1 : Int32))), .val (.int ((1 : Int32) - (v2 &&& (1 : Int32)))), .val (.ref b3), .val (.int (z0_63_0 v0 v1 v2)), .val (.int (z0_131_0 v0 v1 v2)), .unset, .unset] [(.int ((1 : Int32) - (v2 &&& (1 : Int32)))), (.ref b3)])) (fun t k => XS.iload X90.here hx rfl (hb hby at_169) rfl  k) ?_
        have G93 : Fld Z T57.heap b3 "com/example/thicket/thicket/dense/Sums" "low" "[J" (.ref lo23) := (G55.keep K63 (ninS ne36 (ninS ne39 nin0)))
        refine go_callVP X90 hx hZ (y := (⟨"com/example/thicket/thicket/dense/Sums", "longValue", "(I)J"⟩ : MethodName)) hown (hw _ (List.mem_of_getElem? (i := 25) rfl)) (hw _ (List.mem_of_getElem? (i := 26) rfl)) (hw _ (List.mem_of_getElem? (i := 28) rfl)) (hw _ (List.mem_of_getElem? (i := 27) rfl)) (hw _ (List.mem_of_getElem? (i := 3) rfl)) (hw _ (List.mem_of_getElem? (i := 29) rfl)) (by decide) e91 G76 (mq5 l Z a0 hw b3 ((1 : Int32) - (v2 &&& (1 : Int32))) lo23 ((s0_2 v0 v1 v2)) T57.heap 0 (Nat.zero_le _) G93 F68 (own_j v2).1 (by simp only [s0_2, s0_0, s0_1, own_len3_lo, own_len3_hi, own_len6_lo, own_len6_hi, List.length_cons, List.length_nil]; exact (own_j v2).2)) 0 (by decide) (by decide) (g := (mkF m 171 #[.val (.long v0), .second, .val (.long v1), .second, .val (.int v2), .val (.long (v0 &&& (9223372036854775807 : Int64))), .second, .val (.long (v1 &&& (9223372036854775807 : Int64))), .second, .val (.int (v2 &&& (1 : Int32))), .val (.int ((1 : Int32) - (v2 &&& (1 : Int32)))), .val (.ref b3), .val (.int (z0_63_0 v0 v1 v2)), .val (.int (z0_131_0 v0 v1 v2)), .unset, .unset] [(.int ((1 : Int32) - (v2 &&& (1 : Int32)))), (.ref b3)])) rfl (by rw [hml]; rfl) (argsL := [(.int ((1 : Int32) - (v2 &&& (1 : Int32))))]) (rest := []) (lenOf pd_3 rfl) rfl (by show 2 * 0 + _ ≤ _; exact Nat.le_of_eq rfl) (hb hby at_171) rfl rfl rfl (by decide) (by decide) (fun T94 X95 e96 => ?_)
        show Go p e below s _ _ _ T94 (mkF m 174 #[.val (.long v0), .second, .val (.long v1), .second, .val (.int v2), .val (.long (v0 &&& (9223372036854775807 : Int64))), .second, .val (.long (v1 &&& (9223372036854775807 : Int64))), .second, .val (.int (v2 &&& (1 : Int32))), .val (.int ((1 : Int32) - (v2 &&& (1 : Int32)))), .val (.ref b3), .val (.int (z0_63_0 v0 v1 v2)), .val (.int (z0_131_0 v0 v1 v2)), .unset, .unset] [(.long (f5_ret ((1 : Int32) - (v2 &&& (1 : Int32))) (s0_2 v0 v1 v2)))])
        refine go_step (T' := T94) (g' := (mkF m 175 #[.val (.long v0), .second, .val (.long v1), .second, .val (.int v2), .val (.long (v0 &&& (9223372036854775807 : Int64))), .second, .val (.long (v1 &&& (9223372036854775807 : Int64))), .second, .val (.int (v2 &&& (1 : Int32))), .val (.int ((1 : Int32) - (v2 &&& (1 : Int32)))), .val (.ref b3), .val (.int (z0_63_0 v0 v1 v2)), .val (.int (z0_131_0 v0 v1 v2)), .unset, .unset] [(.long (0 : Int64)), (.long (f5_ret ((1 : Int32) - (v2 &&& (1 : Int32))) (s0_2 v0 v1 v2)))])) (fun t k => XS.lconst X95.here hx rfl (hb hby at_174) k) ?_
        refine go_step (T' := T94) (g' := (mkF m 176 #[.val (.long v0), .second, .val (.long v1), .second, .val (.int v2), .val (.long (v0 &&& (9223372036854775807 : Int64))), .second, .val (.long (v1 &&& (9223372036854775807 : Int64))), .second, .val (.int (v2 &&& (1 : Int32))), .val (.int ((1 : Int32) - (v2 &&& (1 : Int32)))), .val (.ref b3), .val (.int (z0_63_0 v0 v1 v2)), .val (.int (z0_131_0 v0 v1 v2)), .unset, .unset] [(.int (lcmpW (f5_ret ((1 : Int32) - (v2 &&& (1 : Int32))) (s0_2 v0 v1 v2)) (0 : Int64)))])) (fun t k => XS.lcmp X95.here hx rfl (hb hby at_175) rfl k) ?_
        by_cases hj97 : (f5_ret ((1 : Int32) - (v2 &&& (1 : Int32))) (s0_2 v0 v1 v2)) = (0 : Int64)
        · refine go_step (T' := T94) (g' := (mkF m 179 #[.val (.long v0), .second, .val (.long v1), .second, .val (.int v2), .val (.long (v0 &&& (9223372036854775807 : Int64))), .second, .val (.long (v1 &&& (9223372036854775807 : Int64))), .second, .val (.int (v2 &&& (1 : Int32))), .val (.int ((1 : Int32) - (v2 &&& (1 : Int32)))), .val (.ref b3), .val (.int (z0_63_0 v0 v1 v2)), .val (.int (z0_131_0 v0 v1 v2)), .unset, .unset] [])) (fun t k => XS.ifNo X95.here hx rfl (hb hby at_176) rfl ((if0 _ _).trans (teq ((lw_eq _ _).mpr hj97)).2) k) ?_
          refine go_step (T' := T94) (g' := (mkF m 180 #[.val (.long v0), .second, .val (.long v1), .second, .val (.int v2), .val (.long (v0 &&& (9223372036854775807 : Int64))), .second, .val (.long (v1 &&& (9223372036854775807 : Int64))), .second, .val (.int (v2 &&& (1 : Int32))), .val (.int ((1 : Int32) - (v2 &&& (1 : Int32)))), .val (.ref b3), .val (.int (z0_63_0 v0 v1 v2)), .val (.int (z0_131_0 v0 v1 v2)), .unset, .unset] [(.int (1 : Int32))])) (fun t k => XS.iconst X95.here hx rfl (hb hby at_179) k) ?_
          refine go_step (T' := T94) (g' := (mkF m 184 #[.val (.long v0), .second, .val (.long v1), .second, .val (.int v2), .val (.long (v0 &&& (9223372036854775807 : Int64))), .second, .val (.long (v1 &&& (9223372036854775807 : Int64))), .second, .val (.int (v2 &&& (1 : Int32))), .val (.int ((1 : Int32) - (v2 &&& (1 : Int32)))), .val (.ref b3), .val (.int (z0_63_0 v0 v1 v2)), .val (.int (z0_131_0 v0 v1 v2)), .unset, .unset] [(.int (1 : Int32))])) (fun t k => XS.goto X95.here hx rfl (pc0 := 180) (pc' := 184) rfl (hb hby at_180) (by decide) (by decide) k) ?_
          have k2 := kk T94 X95 e96
          rw [show (z0_164_0 v0 v1 v2) = (1 : Int32) by unfold z0_164_0; rw [if_neg hj92]; rw [if_pos hj97]] at k2
          exact k2
        · refine go_step (T' := T94) (g' := (mkF m 183 #[.val (.long v0), .second, .val (.long v1), .second, .val (.int v2), .val (.long (v0 &&& (9223372036854775807 : Int64))), .second, .val (.long (v1 &&& (9223372036854775807 : Int64))), .second, .val (.int (v2 &&& (1 : Int32))), .val (.int ((1 : Int32) - (v2 &&& (1 : Int32)))), .val (.ref b3), .val (.int (z0_63_0 v0 v1 v2)), .val (.int (z0_131_0 v0 v1 v2)), .unset, .unset] [])) (fun t k => XS.ifYes X95.here hx rfl (pc0 := 176) (pc' := 183) rfl (hb hby at_176) rfl ((if0 _ _).trans (feq (fun q => hj97 ((lw_eq _ _).mp q))).2) (by decide) (by decide) k) ?_
          refine go_step (T' := T94) (g' := (mkF m 184 #[.val (.long v0), .second, .val (.long v1), .second, .val (.int v2), .val (.long (v0 &&& (9223372036854775807 : Int64))), .second, .val (.long (v1 &&& (9223372036854775807 : Int64))), .second, .val (.int (v2 &&& (1 : Int32))), .val (.int ((1 : Int32) - (v2 &&& (1 : Int32)))), .val (.ref b3), .val (.int (z0_63_0 v0 v1 v2)), .val (.int (z0_131_0 v0 v1 v2)), .unset, .unset] [(.int (0 : Int32))])) (fun t k => XS.iconst X95.here hx rfl (hb hby at_183) k) ?_
          have k2 := kk T94 X95 e96
          rw [show (z0_164_0 v0 v1 v2) = (0 : Int32) by unfold z0_164_0; rw [if_neg hj92]; rw [if_neg hj97]] at k2
          exact k2
    refine go_step (T' := T98) (g' := (mkF m 186 #[.val (.long v0), .second, .val (.long v1), .second, .val (.int v2), .val (.long (v0 &&& (9223372036854775807 : Int64))), .second, .val (.long (v1 &&& (9223372036854775807 : Int64))), .second, .val (.int (v2 &&& (1 : Int32))), .val (.int ((1 : Int32) - (v2 &&& (1 : Int32)))), .val (.ref b3), .val (.int (z0_63_0 v0 v1 v2)), .val (.int (z0_131_0 v0 v1 v2)), .val (.int (z0_164_0 v0 v1 v2)), .unset] [])) (fun t k => XS.istore X99.here hx rfl (hb hby at_184) rfl (l' := #[.val (.long v0), .second, .val (.long v1), .second, .val (.int v2), .val (.long (v0 &&& (9223372036854775807 : Int64))), .second, .val (.long (v1 &&& (9223372036854775807 : Int64))), .second, .val (.int (v2 &&& (1 : Int32))), .val (.int ((1 : Int32) - (v2 &&& (1 : Int32)))), .val (.ref b3), .val (.int (z0_63_0 v0 v1 v2)), .val (.int (z0_131_0 v0 v1 v2)), .val (.int (z0_164_0 v0 v1 v2)), .unset]) rfl k) ?_
    refine go_step (T' := T98) (g' := (mkF m 188 #[.val (.long v0), .second, .val (.long v1), .second, .val (.int v2), .val (.long (v0 &&& (9223372036854775807 : Int64))), .second, .val (.long (v1 &&& (9223372036854775807 : Int64))), .second, .val (.int (v2 &&& (1 : Int32))), .val (.int ((1 : Int32) - (v2 &&& (1 : Int32)))), .val (.ref b3), .val (.int (z0_63_0 v0 v1 v2)), .val (.int (z0_131_0 v0 v1 v2)), .val (.int (z0_164_0 v0 v1 v2)), .unset] [(.ref b3)])) (fun t k => XS.aload X99.here hx rfl (hb hby at_186) rfl rfl k) ?_
    refine go_step (T' := T98) (g' := (mkF m 190 #[.val (.long v0), .second, .val (.long v1), .second, .val (.int v2), .val (.long (v0 &&& (9223372036854775807 : Int64))), .second, .val (.long (v1 &&& (9223372036854775807 : Int64))), .second, .val (.int (v2 &&& (1 : Int32))), .val (.int ((1 : Int32) - (v2 &&& (1 : Int32)))), .val (.ref b3), .val (.int (z0_63_0 v0 v1 v2)), .val (.int (z0_131_0 v0 v1 v2)), .val (.int (z0_164_0 v0 v1 v2)), .unset] [(.int (v2 &&& (1 : Int32))), (.ref b3)])) (fun t k => XS.iload X99.here hx rfl (hb hby at_188) rfl  k) ?_
    refine go_step (T' := T98) (g' := (mkF m 192 #[.val (.long v0), .second, .val (.long v1), .second, .val (.int v2), .val (.long (v0 &&& (9223372036854775807 : Int64))), .second, .val (.long (v1 &&& (9223372036854775807 : Int64))), .second, .val (.int (v2 &&& (1 : Int32))), .val (.int ((1 : Int32) - (v2 &&& (1 : Int32)))), .val (.ref b3), .val (.int (z0_63_0 v0 v1 v2)), .val (.int (z0_131_0 v0 v1 v2)), .val (.int (z0_164_0 v0 v1 v2)), .unset] [(.long (v1 &&& (9223372036854775807 : Int64))), (.int (v2 &&& (1 : Int32))), (.ref b3)])) (fun t k => XS.lload X99.here hx rfl (hb hby at_190) rfl  k) ?_
    have G101 : Fld Z T57.heap b3 "com/example/thicket/thicket/dense/Sums" "low" "[J" (.ref lo23) := (G55.keep K63 (ninS ne36 (ninS ne39 nin0)))
    refine go_callV X99 hx hZ (y := (⟨"com/example/thicket/thicket/dense/Sums", "subtract", "(IJ)V"⟩ : MethodName)) hown (hw _ (List.mem_of_getElem? (i := 30) rfl)) (hw _ (List.mem_of_getElem? (i := 31) rfl)) (hw _ (List.mem_of_getElem? (i := 33) rfl)) (hw _ (List.mem_of_getElem? (i := 32) rfl)) (hw _ (List.mem_of_getElem? (i := 3) rfl)) (hw _ (List.mem_of_getElem? (i := 34) rfl)) (by decide) e100 G76 (mq6 l Z a0 hw b3 (v2 &&& (1 : Int32)) (v1 &&& (9223372036854775807 : Int64)) lo23 hi24 ((s0_2 v0 v1 v2)) ((s0_3 v0 v1 v2)) T57.heap n0 (Nat.le_trans Z0 K67.1) G76 G101 G75 F68 F69 nn27 (own_i v2).1 (by simp only [s0_2, s0_0, s0_1, own_len3_lo, own_len3_hi, own_len6_lo, own_len6_hi, List.length_cons, List.length_nil]; exact (own_i v2).2) (by simp only [s0_3, s0_0, s0_1, own_len3_lo, own_len3_hi, own_len6_lo, own_len6_hi, List.length_cons, List.length_nil]; exact (own_i v2).2) g35 g38) 0 (by decide) (by decide) (g := (mkF m 192 #[.val (.long v0), .second, .val (.long v1), .second, .val (.int v2), .val (.long (v0 &&& (9223372036854775807 : Int64))), .second, .val (.long (v1 &&& (9223372036854775807 : Int64))), .second, .val (.int (v2 &&& (1 : Int32))), .val (.int ((1 : Int32) - (v2 &&& (1 : Int32)))), .val (.ref b3), .val (.int (z0_63_0 v0 v1 v2)), .val (.int (z0_131_0 v0 v1 v2)), .val (.int (z0_164_0 v0 v1 v2)), .unset] [(.long (v1 &&& (9223372036854775807 : Int64))), (.int (v2 &&& (1 : Int32))), (.ref b3)])) rfl (by rw [hml]; rfl) (argsL := [(.int (v2 &&& (1 : Int32))), (.long (v1 &&& (9223372036854775807 : Int64)))]) (rest := []) (lenOf pd_1 rfl) rfl (by show 2 * 0 + _ ≤ _; exact Nat.le_of_eq rfl) (hb hby at_192) rfl (by decide) (by decide) (fun T102 v103 L104 X105 hQ106 => ?_)
    obtain ⟨rfl, N107, K108, F109, F110⟩ := hQ106
    have N111 := Fr.app N66 N107
    have K112 := K67.trans K108 (allS (Or.inr sz34) (allS (Or.inr sz37) all0))
    have F113 : JA Z T102.heap lo23 (s0_4 v0 v1 v2) := F109
    have F114 : JA Z T102.heap hi24 (s0_5 v0 v1 v2) := F110
    show Go p e below s _ _ _ T102 (mkF m 195 #[.val (.long v0), .second, .val (.long v1), .second, .val (.int v2), .val (.long (v0 &&& (9223372036854775807 : Int64))), .second, .val (.long (v1 &&& (9223372036854775807 : Int64))), .second, .val (.int (v2 &&& (1 : Int32))), .val (.int ((1 : Int32) - (v2 &&& (1 : Int32)))), .val (.ref b3), .val (.int (z0_63_0 v0 v1 v2)), .val (.int (z0_131_0 v0 v1 v2)), .val (.int (z0_164_0 v0 v1 v2)), .unset] [])
    refine go_step (T' := T102) (g' := (mkF m 197 #[.val (.long v0), .second, .val (.long v1), .second, .val (.int v2), .val (.long (v0 &&& (9223372036854775807 : Int64))), .second, .val (.long (v1 &&& (9223372036854775807 : Int64))), .second, .val (.int (v2 &&& (1 : Int32))), .val (.int ((1 : Int32) - (v2 &&& (1 : Int32)))), .val (.ref b3), .val (.int (z0_63_0 v0 v1 v2)), .val (.int (z0_131_0 v0 v1 v2)), .val (.int (z0_164_0 v0 v1 v2)), .unset] [(.ref b3)])) (fun t k => XS.aload X105.here hx rfl (hb hby at_195) rfl rfl k) ?_
    refine go_step (T' := T102) (g' := (mkF m 199 #[.val (.long v0), .second, .val (.long v1), .second, .val (.int v2), .val (.long (v0 &&& (9223372036854775807 : Int64))), .second, .val (.long (v1 &&& (9223372036854775807 : Int64))), .second, .val (.int (v2 &&& (1 : Int32))), .val (.int ((1 : Int32) - (v2 &&& (1 : Int32)))), .val (.ref b3), .val (.int (z0_63_0 v0 v1 v2)), .val (.int (z0_131_0 v0 v1 v2)), .val (.int (z0_164_0 v0 v1 v2)), .unset] [(.int (v2 &&& (1 : Int32))), (.ref b3)])) (fun t k => XS.iload X105.here hx rfl (hb hby at_197) rfl  k) ?_
    have G115 : Fld Z T102.heap b3 "com/example/thicket/thicket/dense/Sums" "high" "[J" (.ref hi24) := (G75.keep K108 (ninS ne36 (ninS ne39 nin0)))
    have G116 : Exa Z T102.heap b3 "com/example/thicket/thicket/dense/Sums" := (G76.keep K108)
    refine go_callVP X105 hx hZ (y := (⟨"com/example/thicket/thicket/dense/Sums", "isLong", "(I)Z"⟩ : MethodName)) hown (hw _ (List.mem_of_getElem? (i := 20) rfl)) (hw _ (List.mem_of_getElem? (i := 21) rfl)) (hw _ (List.mem_of_getElem? (i := 23) rfl)) (hw _ (List.mem_of_getElem? (i := 22) rfl)) (hw _ (List.mem_of_getElem? (i := 3) rfl)) (hw _ (List.mem_of_getElem? (i := 24) rfl)) (by decide) rfl G116 (mq4 l Z a0 hw b3 (v2 &&& (1 : Int32)) hi24 ((s0_5 v0 v1 v2)) T102.heap 0 (Nat.zero_le _) G115 F114 (own_i v2).1 (by simp only [s0_5, s0_2, s0_3, s0_0, s0_1, own_len3_lo, own_len3_hi, own_len6_lo, own_len6_hi, List.length_cons, List.length_nil]; exact (own_i v2).2)) 0 (by decide) (by decide) (g := (mkF m 199 #[.val (.long v0), .second, .val (.long v1), .second, .val (.int v2), .val (.long (v0 &&& (9223372036854775807 : Int64))), .second, .val (.long (v1 &&& (9223372036854775807 : Int64))), .second, .val (.int (v2 &&& (1 : Int32))), .val (.int ((1 : Int32) - (v2 &&& (1 : Int32)))), .val (.ref b3), .val (.int (z0_63_0 v0 v1 v2)), .val (.int (z0_131_0 v0 v1 v2)), .val (.int (z0_164_0 v0 v1 v2)), .unset] [(.int (v2 &&& (1 : Int32))), (.ref b3)])) rfl (by rw [hml]; rfl) (argsL := [(.int (v2 &&& (1 : Int32)))]) (rest := []) (lenOf pd_2 rfl) rfl (by show 2 * 0 + _ ≤ _; exact Nat.le_of_eq rfl) (hb hby at_199) rfl rfl rfl (by decide) (by decide) (fun T117 X118 e119 => ?_)
    show Go p e below s _ _ _ T117 (mkF m 202 #[.val (.long v0), .second, .val (.long v1), .second, .val (.int v2), .val (.long (v0 &&& (9223372036854775807 : Int64))), .second, .val (.long (v1 &&& (9223372036854775807 : Int64))), .second, .val (.int (v2 &&& (1 : Int32))), .val (.int ((1 : Int32) - (v2 &&& (1 : Int32)))), .val (.ref b3), .val (.int (z0_63_0 v0 v1 v2)), .val (.int (z0_131_0 v0 v1 v2)), .val (.int (z0_164_0 v0 v1 v2)), .unset] [(.int (f4_ret (v2 &&& (1 : Int32)) (s0_5 v0 v1 v2)))])
    refine go_join X118 (h := T102.heap) (g' := (mkF m 223 #[.val (.long v0), .second, .val (.long v1), .second, .val (.int v2), .val (.long (v0 &&& (9223372036854775807 : Int64))), .second, .val (.long (v1 &&& (9223372036854775807 : Int64))), .second, .val (.int (v2 &&& (1 : Int32))), .val (.int ((1 : Int32) - (v2 &&& (1 : Int32)))), .val (.ref b3), .val (.int (z0_63_0 v0 v1 v2)), .val (.int (z0_131_0 v0 v1 v2)), .val (.int (z0_164_0 v0 v1 v2)), .unset] [(.int (z0_202_0 v0 v1 v2))])) (fun kk => ?_) (fun T126 X127 e128 => ?_)
    · by_cases hj120 : (f4_ret (v2 &&& (1 : Int32)) (s0_5 v0 v1 v2)) = (0 : Int32)
      · refine go_step (T' := T117) (g' := (mkF m 222 #[.val (.long v0), .second, .val (.long v1), .second, .val (.int v2), .val (.long (v0 &&& (9223372036854775807 : Int64))), .second, .val (.long (v1 &&& (9223372036854775807 : Int64))), .second, .val (.int (v2 &&& (1 : Int32))), .val (.int ((1 : Int32) - (v2 &&& (1 : Int32)))), .val (.ref b3), .val (.int (z0_63_0 v0 v1 v2)), .val (.int (z0_131_0 v0 v1 v2)), .val (.int (z0_164_0 v0 v1 v2)), .unset] [])) (fun t k => XS.ifYes X118.here hx rfl (pc0 := 202) (pc' := 222) rfl (hb hby at_202) rfl ((if0 _ _).trans (teq hj120).1) (by decide) (by decide) k) ?_
        refine go_step (T' := T117) (g' := (mkF m 223 #[.val (.long v0), .second, .val (.long v1), .second, .val (.int v2), .val (.long (v0 &&& (9223372036854775807 : Int64))), .second, .val (.long (v1 &&& (9223372036854775807 : Int64))), .second, .val (.int (v2 &&& (1 : Int32))), .val (.int ((1 : Int32) - (v2 &&& (1 : Int32)))), .val (.ref b3), .val (.int (z0_63_0 v0 v1 v2)), .val (.int (z0_131_0 v0 v1 v2)), .val (.int (z0_164_0 v0 v1 v2)), .unset] [(.int (0 : Int32))])) (fun t k => XS.iconst X118.here hx rfl (hb hby at_222) k) ?_
        have k2 := kk T117 X118 e119
        rw [show (z0_202_0 v0 v1 v2) = (0 : Int32) by unfold z0_202_0; rw [if_pos hj120]] at k2
        exact k2
      · refine go_step (T' := T117) (g' := (mkF m 205 #[.val (.long v0), .second, .val (.long v1), .second, .val (.int v2), .val (.long (v0 &&& (9223372036854775807 : Int64))), .second, .val (.long (v1 &&& (9223372036854775807 : Int64))), .second, .val (.int (v2 &&& (1 : Int32))), .val (.int ((1 : Int32) - (v2 &&& (1 : Int32)))), .val (.ref b3), .val (.int (z0_63_0 v0 v1 v2)), .val (.int (z0_131_0 v0 v1 v2)), .val (.int (z0_164_0 v0 v1 v2)), .unset] [])) (fun t k => XS.ifNo X118.here hx rfl (hb hby at_202) rfl ((if0 _ _).trans (feq hj120).1) k) ?_
        refine go_step (T' := T117) (g' := (mkF m 207 #[.val (.long v0), .second, .val (.long v1), .second, .val (.int v2), .val (.long (v0 &&& (9223372036854775807 : Int64))), .second, .val (.long (v1 &&& (9223372036854775807 : Int64))), .second, .val (.int (v2 &&& (1 : Int32))), .val (.int ((1 : Int32) - (v2 &&& (1 : Int32)))), .val (.ref b3), .val (.int (z0_63_0 v0 v1 v2)), .val (.int (z0_131_0 v0 v1 v2)), .val (.int (z0_164_0 v0 v1 v2)), .unset] [(.ref b3)])) (fun t k => XS.aload X118.here hx rfl (hb hby at_205) rfl rfl k) ?_
        refine go_step (T' := T117) (g' := (mkF m 209 #[.val (.long v0), .second, .val (.long v1), .second, .val (.int v2), .val (.long (v0 &&& (9223372036854775807 : Int64))), .second, .val (.long (v1 &&& (9223372036854775807 : Int64))), .second, .val (.int (v2 &&& (1 : Int32))), .val (.int ((1 : Int32) - (v2 &&& (1 : Int32)))), .val (.ref b3), .val (.int (z0_63_0 v0 v1 v2)), .val (.int (z0_131_0 v0 v1 v2)), .val (.int (z0_164_0 v0 v1 v2)), .unset] [(.int (v2 &&& (1 : Int32))), (.ref b3)])) (fun t k => XS.iload X118.here hx rfl (hb hby at_207) rfl  k) ?_
        have G121 : Fld Z T102.heap b3 "com/example/thicket/thicket/dense/Sums" "low" "[J" (.ref lo23) := (G101.keep K108 (ninS ne36 (ninS ne39 nin0)))
        refine go_callVP X118 hx hZ (y := (⟨"com/example/thicket/thicket/dense/Sums", "longValue", "(I)J"⟩ : MethodName)) hown (hw _ (List.mem_of_getElem? (i := 25) rfl)) (hw _ (List.mem_of_getElem? (i := 26) rfl)) (hw _ (List.mem_of_getElem? (i := 28) rfl)) (hw _ (List.mem_of_getElem? (i := 27) rfl)) (hw _ (List.mem_of_getElem? (i := 3) rfl)) (hw _ (List.mem_of_getElem? (i := 29) rfl)) (by decide) e119 G116 (mq5 l Z a0 hw b3 (v2 &&& (1 : Int32)) lo23 ((s0_4 v0 v1 v2)) T102.heap 0 (Nat.zero_le _) G121 F113 (own_i v2).1 (by simp only [s0_4, s0_2, s0_3, s0_0, s0_1, own_len3_lo, own_len3_hi, own_len6_lo, own_len6_hi, List.length_cons, List.length_nil]; exact (own_i v2).2)) 0 (by decide) (by decide) (g := (mkF m 209 #[.val (.long v0), .second, .val (.long v1), .second, .val (.int v2), .val (.long (v0 &&& (9223372036854775807 : Int64))), .second, .val (.long (v1 &&& (9223372036854775807 : Int64))), .second, .val (.int (v2 &&& (1 : Int32))), .val (.int ((1 : Int32) - (v2 &&& (1 : Int32)))), .val (.ref b3), .val (.int (z0_63_0 v0 v1 v2)), .val (.int (z0_131_0 v0 v1 v2)), .val (.int (z0_164_0 v0 v1 v2)), .unset] [(.int (v2 &&& (1 : Int32))), (.ref b3)])) rfl (by rw [hml]; rfl) (argsL := [(.int (v2 &&& (1 : Int32)))]) (rest := []) (lenOf pd_3 rfl) rfl (by show 2 * 0 + _ ≤ _; exact Nat.le_of_eq rfl) (hb hby at_209) rfl rfl rfl (by decide) (by decide) (fun T122 X123 e124 => ?_)
        show Go p e below s _ _ _ T122 (mkF m 212 #[.val (.long v0), .second, .val (.long v1), .second, .val (.int v2), .val (.long (v0 &&& (9223372036854775807 : Int64))), .second, .val (.long (v1 &&& (9223372036854775807 : Int64))), .second, .val (.int (v2 &&& (1 : Int32))), .val (.int ((1 : Int32) - (v2 &&& (1 : Int32)))), .val (.ref b3), .val (.int (z0_63_0 v0 v1 v2)), .val (.int (z0_131_0 v0 v1 v2)), .val (.int (z0_164_0 v0 v1 v2)), .unset] [(.long (f5_ret (v2 &&& (1 : Int32)) (s0_4 v0 v1 v2)))])
        refine go_step (T' := T122) (g' := (mkF m 214 #[.val (.long v0), .second, .val (.long v1), .second, .val (.int v2), .val (.long (v0 &&& (9223372036854775807 : Int64))), .second, .val (.long (v1 &&& (9223372036854775807 : Int64))), .second, .val (.int (v2 &&& (1 : Int32))), .val (.int ((1 : Int32) - (v2 &&& (1 : Int32)))), .val (.ref b3), .val (.int (z0_63_0 v0 v1 v2)), .val (.int (z0_131_0 v0 v1 v2)), .val (.int (z0_164_0 v0 v1 v2)), .unset] [(.long (v0 &&& (9223372036854775807 : Int64))), (.long (f5_ret (v2 &&& (1 : Int32)) (s0_4 v0 v1 v2)))])) (fun t k => XS.lload X123.here hx rfl (hb hby at_212) rfl  k) ?_
        refine go_step (T' := T122) (g' := (mkF m 215 #[.val (.long v0), .second, .val (.long v1), .second, .val (.int v2), .val (.long (v0 &&& (9223372036854775807 : Int64))), .second, .val (.long (v1 &&& (9223372036854775807 : Int64))), .second, .val (.int (v2 &&& (1 : Int32))), .val (.int ((1 : Int32) - (v2 &&& (1 : Int32)))), .val (.ref b3), .val (.int (z0_63_0 v0 v1 v2)), .val (.int (z0_131_0 v0 v1 v2)), .val (.int (z0_164_0 v0 v1 v2)), .unset] [(.int (lcmpW (f5_ret (v2 &&& (1 : Int32)) (s0_4 v0 v1 v2)) (v0 &&& (9223372036854775807 : Int64))))])) (fun t k => XS.lcmp X123.here hx rfl (hb hby at_214) rfl k) ?_
        by_cases hj125 : (f5_ret (v2 &&& (1 : Int32)) (s0_4 v0 v1 v2)) = (v0 &&& (9223372036854775807 : Int64))
        · refine go_step (T' := T122) (g' := (mkF m 218 #[.val (.long v0), .second, .val (.long v1), .second, .val (.int v2), .val (.long (v0 &&& (9223372036854775807 : Int64))), .second, .val (.long (v1 &&& (9223372036854775807 : Int64))), .second, .val (.int (v2 &&& (1 : Int32))), .val (.int ((1 : Int32) - (v2 &&& (1 : Int32)))), .val (.ref b3), .val (.int (z0_63_0 v0 v1 v2)), .val (.int (z0_131_0 v0 v1 v2)), .val (.int (z0_164_0 v0 v1 v2)), .unset] [])) (fun t k => XS.ifNo X123.here hx rfl (hb hby at_215) rfl ((if0 _ _).trans (teq ((lw_eq _ _).mpr hj125)).2) k) ?_
          refine go_step (T' := T122) (g' := (mkF m 219 #[.val (.long v0), .second, .val (.long v1), .second, .val (.int v2), .val (.long (v0 &&& (9223372036854775807 : Int64))), .second, .val (.long (v1 &&& (9223372036854775807 : Int64))), .second, .val (.int (v2 &&& (1 : Int32))), .val (.int ((1 : Int32) - (v2 &&& (1 : Int32)))), .val (.ref b3), .val (.int (z0_63_0 v0 v1 v2)), .val (.int (z0_131_0 v0 v1 v2)), .val (.int (z0_164_0 v0 v1 v2)), .unset] [(.int (1 : Int32))])) (fun t k => XS.iconst X123.here hx rfl (hb hby at_218) k) ?_
          refine go_step (T' := T122) (g' := (mkF m 223 #[.val (.long v0), .second, .val (.long v1), .second, .val (.int v2), .val (.long (v0 &&& (9223372036854775807 : Int64))), .second, .val (.long (v1 &&& (9223372036854775807 : Int64))), .second, .val (.int (v2 &&& (1 : Int32))), .val (.int ((1 : Int32) - (v2 &&& (1 : Int32)))), .val (.ref b3), .val (.int (z0_63_0 v0 v1 v2)), .val (.int (z0_131_0 v0 v1 v2)), .val (.int (z0_164_0 v0 v1 v2)), .unset] [(.int (1 : Int32))])) (fun t k => XS.goto X123.here hx rfl (pc0 := 219) (pc' := 223) rfl (hb hby at_219) (by decide) (by decide) k) ?_
          have k2 := kk T122 X123 e124
          rw [show (z0_202_0 v0 v1 v2) = (1 : Int32) by unfold z0_202_0; rw [if_neg hj120]; rw [if_pos hj125]] at k2
          exact k2
        · refine go_step (T' := T122) (g' := (mkF m 222 #[.val (.long v0), .second, .val (.long v1), .second, .val (.int v2), .val (.long (v0 &&& (9223372036854775807 : Int64))), .second, .val (.long (v1 &&& (9223372036854775807 : Int64))), .second, .val (.int (v2 &&& (1 : Int32))), .val (.int ((1 : Int32) - (v2 &&& (1 : Int32)))), .val (.ref b3), .val (.int (z0_63_0 v0 v1 v2)), .val (.int (z0_131_0 v0 v1 v2)), .val (.int (z0_164_0 v0 v1 v2)), .unset] [])) (fun t k => XS.ifYes X123.here hx rfl (pc0 := 215) (pc' := 222) rfl (hb hby at_215) rfl ((if0 _ _).trans (feq (fun q => hj125 ((lw_eq _ _).mp q))).2) (by decide) (by decide) k) ?_
          refine go_step (T' := T122) (g' := (mkF m 223 #[.val (.long v0), .second, .val (.long v1), .second, .val (.int v2), .val (.long (v0 &&& (9223372036854775807 : Int64))), .second, .val (.long (v1 &&& (9223372036854775807 : Int64))), .second, .val (.int (v2 &&& (1 : Int32))), .val (.int ((1 : Int32) - (v2 &&& (1 : Int32)))), .val (.ref b3), .val (.int (z0_63_0 v0 v1 v2)), .val (.int (z0_131_0 v0 v1 v2)), .val (.int (z0_164_0 v0 v1 v2)), .unset] [(.int (0 : Int32))])) (fun t k => XS.iconst X123.here hx rfl (hb hby at_222) k) ?_
          have k2 := kk T122 X123 e124
          rw [show (z0_202_0 v0 v1 v2) = (0 : Int32) by unfold z0_202_0; rw [if_neg hj120]; rw [if_neg hj125]] at k2
          exact k2
    refine go_step (T' := T126) (g' := (mkF m 225 #[.val (.long v0), .second, .val (.long v1), .second, .val (.int v2), .val (.long (v0 &&& (9223372036854775807 : Int64))), .second, .val (.long (v1 &&& (9223372036854775807 : Int64))), .second, .val (.int (v2 &&& (1 : Int32))), .val (.int ((1 : Int32) - (v2 &&& (1 : Int32)))), .val (.ref b3), .val (.int (z0_63_0 v0 v1 v2)), .val (.int (z0_131_0 v0 v1 v2)), .val (.int (z0_164_0 v0 v1 v2)), .val (.int (z0_202_0 v0 v1 v2))] [])) (fun t k => XS.istore X127.here hx rfl (hb hby at_223) rfl (l' := #[.val (.long v0), .second, .val (.long v1), .second, .val (.int v2), .val (.long (v0 &&& (9223372036854775807 : Int64))), .second, .val (.long (v1 &&& (9223372036854775807 : Int64))), .second, .val (.int (v2 &&& (1 : Int32))), .val (.int ((1 : Int32) - (v2 &&& (1 : Int32)))), .val (.ref b3), .val (.int (z0_63_0 v0 v1 v2)), .val (.int (z0_131_0 v0 v1 v2)), .val (.int (z0_164_0 v0 v1 v2)), .val (.int (z0_202_0 v0 v1 v2))]) rfl k) ?_
    refine go_step (T' := T126) (g' := (mkF m 227 #[.val (.long v0), .second, .val (.long v1), .second, .val (.int v2), .val (.long (v0 &&& (9223372036854775807 : Int64))), .second, .val (.long (v1 &&& (9223372036854775807 : Int64))), .second, .val (.int (v2 &&& (1 : Int32))), .val (.int ((1 : Int32) - (v2 &&& (1 : Int32)))), .val (.ref b3), .val (.int (z0_63_0 v0 v1 v2)), .val (.int (z0_131_0 v0 v1 v2)), .val (.int (z0_164_0 v0 v1 v2)), .val (.int (z0_202_0 v0 v1 v2))] [(.int (z0_131_0 v0 v1 v2))])) (fun t k => XS.iload X127.here hx rfl (hb hby at_225) rfl  k) ?_
    refine go_join X127 (h := T102.heap) (g' := (mkF m 245 #[.val (.long v0), .second, .val (.long v1), .second, .val (.int v2), .val (.long (v0 &&& (9223372036854775807 : Int64))), .second, .val (.long (v1 &&& (9223372036854775807 : Int64))), .second, .val (.int (v2 &&& (1 : Int32))), .val (.int ((1 : Int32) - (v2 &&& (1 : Int32)))), .val (.ref b3), .val (.int (z0_63_0 v0 v1 v2)), .val (.int (z0_131_0 v0 v1 v2)), .val (.int (z0_164_0 v0 v1 v2)), .val (.int (z0_202_0 v0 v1 v2))] [(.int (z0_227_0 v0 v1 v2))])) (fun kk => ?_) (fun T132 X133 e134 => ?_)
    · by_cases hj129 : (z0_131_0 v0 v1 v2) = (0 : Int32)
      · refine go_step (T' := T126) (g' := (mkF m 244 #[.val (.long v0), .second, .val (.long v1), .second, .val (.int v2), .val (.long (v0 &&& (9223372036854775807 : Int64))), .second, .val (.long (v1 &&& (9223372036854775807 : Int64))), .second, .val (.int (v2 &&& (1 : Int32))), .val (.int ((1 : Int32) - (v2 &&& (1 : Int32)))), .val (.ref b3), .val (.int (z0_63_0 v0 v1 v2)), .val (.int (z0_131_0 v0 v1 v2)), .val (.int (z0_164_0 v0 v1 v2)), .val (.int (z0_202_0 v0 v1 v2))] [])) (fun t k => XS.ifYes X127.here hx rfl (pc0 := 227) (pc' := 244) rfl (hb hby at_227) rfl ((if0 _ _).trans (teq hj129).1) (by decide) (by decide) k) ?_
        refine go_step (T' := T126) (g' := (mkF m 245 #[.val (.long v0), .second, .val (.long v1), .second, .val (.int v2), .val (.long (v0 &&& (9223372036854775807 : Int64))), .second, .val (.long (v1 &&& (9223372036854775807 : Int64))), .second, .val (.int (v2 &&& (1 : Int32))), .val (.int ((1 : Int32) - (v2 &&& (1 : Int32)))), .val (.ref b3), .val (.int (z0_63_0 v0 v1 v2)), .val (.int (z0_131_0 v0 v1 v2)), .val (.int (z0_164_0 v0 v1 v2)), .val (.int (z0_202_0 v0 v1 v2))] [(.int (0 : Int32))])) (fun t k => XS.iconst X127.here hx rfl (hb hby at_244) k) ?_
        have k2 := kk T126 X127 e128
        rw [show (z0_227_0 v0 v1 v2) = (0 : Int32) by unfold z0_227_0; rw [if_pos hj129]] at k2
        exact k2
      · refine go_step (T' := T126) (g' := (mkF m 230 #[.val (.long v0), .second, .val (.long v1), .second, .val (.int v2), .val (.long (v0 &&& (9223372036854775807 : Int64))), .second, .val (.long (v1 &&& (9223372036854775807 : Int64))), .second, .val (.int (v2 &&& (1 : Int32))), .val (.int ((1 : Int32) - (v2 &&& (1 : Int32)))), .val (.ref b3), .val (.int (z0_63_0 v0 v1 v2)), .val (.int (z0_131_0 v0 v1 v2)), .val (.int (z0_164_0 v0 v1 v2)), .val (.int (z0_202_0 v0 v1 v2))] [])) (fun t k => XS.ifNo X127.here hx rfl (hb hby at_227) rfl ((if0 _ _).trans (feq hj129).1) k) ?_
        refine go_step (T' := T126) (g' := (mkF m 232 #[.val (.long v0), .second, .val (.long v1), .second, .val (.int v2), .val (.long (v0 &&& (9223372036854775807 : Int64))), .second, .val (.long (v1 &&& (9223372036854775807 : Int64))), .second, .val (.int (v2 &&& (1 : Int32))), .val (.int ((1 : Int32) - (v2 &&& (1 : Int32)))), .val (.ref b3), .val (.int (z0_63_0 v0 v1 v2)), .val (.int (z0_131_0 v0 v1 v2)), .val (.int (z0_164_0 v0 v1 v2)), .val (.int (z0_202_0 v0 v1 v2))] [(.int (z0_164_0 v0 v1 v2))])) (fun t k => XS.iload X127.here hx rfl (hb hby at_230) rfl  k) ?_
        by_cases hj130 : (z0_164_0 v0 v1 v2) = (0 : Int32)
        · refine go_step (T' := T126) (g' := (mkF m 244 #[.val (.long v0), .second, .val (.long v1), .second, .val (.int v2), .val (.long (v0 &&& (9223372036854775807 : Int64))), .second, .val (.long (v1 &&& (9223372036854775807 : Int64))), .second, .val (.int (v2 &&& (1 : Int32))), .val (.int ((1 : Int32) - (v2 &&& (1 : Int32)))), .val (.ref b3), .val (.int (z0_63_0 v0 v1 v2)), .val (.int (z0_131_0 v0 v1 v2)), .val (.int (z0_164_0 v0 v1 v2)), .val (.int (z0_202_0 v0 v1 v2))] [])) (fun t k => XS.ifYes X127.here hx rfl (pc0 := 232) (pc' := 244) rfl (hb hby at_232) rfl ((if0 _ _).trans (teq hj130).1) (by decide) (by decide) k) ?_
          refine go_step (T' := T126) (g' := (mkF m 245 #[.val (.long v0), .second, .val (.long v1), .second, .val (.int v2), .val (.long (v0 &&& (9223372036854775807 : Int64))), .second, .val (.long (v1 &&& (9223372036854775807 : Int64))), .second, .val (.int (v2 &&& (1 : Int32))), .val (.int ((1 : Int32) - (v2 &&& (1 : Int32)))), .val (.ref b3), .val (.int (z0_63_0 v0 v1 v2)), .val (.int (z0_131_0 v0 v1 v2)), .val (.int (z0_164_0 v0 v1 v2)), .val (.int (z0_202_0 v0 v1 v2))] [(.int (0 : Int32))])) (fun t k => XS.iconst X127.here hx rfl (hb hby at_244) k) ?_
          have k2 := kk T126 X127 e128
          rw [show (z0_227_0 v0 v1 v2) = (0 : Int32) by unfold z0_227_0; rw [if_neg hj129]; rw [if_pos hj130]] at k2
          exact k2
        · refine go_step (T' := T126) (g' := (mkF m 235 #[.val (.long v0), .second, .val (.long v1), .second, .val (.int v2), .val (.long (v0 &&& (9223372036854775807 : Int64))), .second, .val (.long (v1 &&& (9223372036854775807 : Int64))), .second, .val (.int (v2 &&& (1 : Int32))), .val (.int ((1 : Int32) - (v2 &&& (1 : Int32)))), .val (.ref b3), .val (.int (z0_63_0 v0 v1 v2)), .val (.int (z0_131_0 v0 v1 v2)), .val (.int (z0_164_0 v0 v1 v2)), .val (.int (z0_202_0 v0 v1 v2))] [])) (fun t k => XS.ifNo X127.here hx rfl (hb hby at_232) rfl ((if0 _ _).trans (feq hj130).1) k) ?_
          refine go_step (T' := T126) (g' := (mkF m 237 #[.val (.long v0), .second, .val (.long v1), .second, .val (.int v2), .val (.long (v0 &&& (9223372036854775807 : Int64))), .second, .val (.long (v1 &&& (9223372036854775807 : Int64))), .second, .val (.int (v2 &&& (1 : Int32))), .val (.int ((1 : Int32) - (v2 &&& (1 : Int32)))), .val (.ref b3), .val (.int (z0_63_0 v0 v1 v2)), .val (.int (z0_131_0 v0 v1 v2)), .val (.int (z0_164_0 v0 v1 v2)), .val (.int (z0_202_0 v0 v1 v2))] [(.int (z0_202_0 v0 v1 v2))])) (fun t k => XS.iload X127.here hx rfl (hb hby at_235) rfl  k) ?_
          by_cases hj131 : (z0_202_0 v0 v1 v2) = (0 : Int32)
          · refine go_step (T' := T126) (g' := (mkF m 244 #[.val (.long v0), .second, .val (.long v1), .second, .val (.int v2), .val (.long (v0 &&& (9223372036854775807 : Int64))), .second, .val (.long (v1 &&& (9223372036854775807 : Int64))), .second, .val (.int (v2 &&& (1 : Int32))), .val (.int ((1 : Int32) - (v2 &&& (1 : Int32)))), .val (.ref b3), .val (.int (z0_63_0 v0 v1 v2)), .val (.int (z0_131_0 v0 v1 v2)), .val (.int (z0_164_0 v0 v1 v2)), .val (.int (z0_202_0 v0 v1 v2))] [])) (fun t k => XS.ifYes X127.here hx rfl (pc0 := 237) (pc' := 244) rfl (hb hby at_237) rfl ((if0 _ _).trans (teq hj131).1) (by decide) (by decide) k) ?_
            refine go_step (T' := T126) (g' := (mkF m 245 #[.val (.long v0), .second, .val (.long v1), .second, .val (.int v2), .val (.long (v0 &&& (9223372036854775807 : Int64))), .second, .val (.long (v1 &&& (9223372036854775807 : Int64))), .second, .val (.int (v2 &&& (1 : Int32))), .val (.int ((1 : Int32) - (v2 &&& (1 : Int32)))), .val (.ref b3), .val (.int (z0_63_0 v0 v1 v2)), .val (.int (z0_131_0 v0 v1 v2)), .val (.int (z0_164_0 v0 v1 v2)), .val (.int (z0_202_0 v0 v1 v2))] [(.int (0 : Int32))])) (fun t k => XS.iconst X127.here hx rfl (hb hby at_244) k) ?_
            have k2 := kk T126 X127 e128
            rw [show (z0_227_0 v0 v1 v2) = (0 : Int32) by unfold z0_227_0; rw [if_neg hj129]; rw [if_neg hj130]; rw [if_pos hj131]] at k2
            exact k2
          · refine go_step (T' := T126) (g' := (mkF m 240 #[.val (.long v0), .second, .val (.long v1), .second, .val (.int v2), .val (.long (v0 &&& (9223372036854775807 : Int64))), .second, .val (.long (v1 &&& (9223372036854775807 : Int64))), .second, .val (.int (v2 &&& (1 : Int32))), .val (.int ((1 : Int32) - (v2 &&& (1 : Int32)))), .val (.ref b3), .val (.int (z0_63_0 v0 v1 v2)), .val (.int (z0_131_0 v0 v1 v2)), .val (.int (z0_164_0 v0 v1 v2)), .val (.int (z0_202_0 v0 v1 v2))] [])) (fun t k => XS.ifNo X127.here hx rfl (hb hby at_237) rfl ((if0 _ _).trans (feq hj131).1) k) ?_
            refine go_step (T' := T126) (g' := (mkF m 241 #[.val (.long v0), .second, .val (.long v1), .second, .val (.int v2), .val (.long (v0 &&& (9223372036854775807 : Int64))), .second, .val (.long (v1 &&& (9223372036854775807 : Int64))), .second, .val (.int (v2 &&& (1 : Int32))), .val (.int ((1 : Int32) - (v2 &&& (1 : Int32)))), .val (.ref b3), .val (.int (z0_63_0 v0 v1 v2)), .val (.int (z0_131_0 v0 v1 v2)), .val (.int (z0_164_0 v0 v1 v2)), .val (.int (z0_202_0 v0 v1 v2))] [(.int (1 : Int32))])) (fun t k => XS.iconst X127.here hx rfl (hb hby at_240) k) ?_
            refine go_step (T' := T126) (g' := (mkF m 245 #[.val (.long v0), .second, .val (.long v1), .second, .val (.int v2), .val (.long (v0 &&& (9223372036854775807 : Int64))), .second, .val (.long (v1 &&& (9223372036854775807 : Int64))), .second, .val (.int (v2 &&& (1 : Int32))), .val (.int ((1 : Int32) - (v2 &&& (1 : Int32)))), .val (.ref b3), .val (.int (z0_63_0 v0 v1 v2)), .val (.int (z0_131_0 v0 v1 v2)), .val (.int (z0_164_0 v0 v1 v2)), .val (.int (z0_202_0 v0 v1 v2))] [(.int (1 : Int32))])) (fun t k => XS.goto X127.here hx rfl (pc0 := 241) (pc' := 245) rfl (hb hby at_241) (by decide) (by decide) k) ?_
            have k2 := kk T126 X127 e128
            rw [show (z0_227_0 v0 v1 v2) = (1 : Int32) by unfold z0_227_0; rw [if_neg hj129]; rw [if_neg hj130]; rw [if_neg hj131]] at k2
            exact k2
    exact go_retZ X133 hx hlk hret (hb hby at_245) e134 ⟨(by unfold f0_ret; first | (rw [if_pos hc74]; done) | (rw [if_pos hc74]; rfl)), N111⟩ (by decide) (by decide)
  · refine go_step (T' := T71) (g' := (mkF m 78 #[.val (.long v0), .second, .val (.long v1), .second, .val (.int v2), .val (.long (v0 &&& (9223372036854775807 : Int64))), .second, .val (.long (v1 &&& (9223372036854775807 : Int64))), .second, .val (.int (v2 &&& (1 : Int32))), .val (.int ((1 : Int32) - (v2 &&& (1 : Int32)))), .val (.ref b3), .val (.int (z0_63_0 v0 v1 v2)), .unset, .unset, .unset] [])) (fun t k => XS.ifNo X72.here hx rfl (hb hby at_75) rfl ((if0 _ _).trans (feq hc74).1) k) ?_
    refine go_step (T' := T71) (g' := (mkF m 80 #[.val (.long v0), .second, .val (.long v1), .second, .val (.int v2), .val (.long (v0 &&& (9223372036854775807 : Int64))), .second, .val (.long (v1 &&& (9223372036854775807 : Int64))), .second, .val (.int (v2 &&& (1 : Int32))), .val (.int ((1 : Int32) - (v2 &&& (1 : Int32)))), .val (.ref b3), .val (.int (z0_63_0 v0 v1 v2)), .unset, .unset, .unset] [(.long (v0 &&& (9223372036854775807 : Int64)))])) (fun t k => XS.lload X72.here hx rfl (hb hby at_78) rfl  k) ?_
    refine go_step (T' := T71) (g' := (mkF m 83 #[.val (.long v0), .second, .val (.long v1), .second, .val (.int v2), .val (.long (v0 &&& (9223372036854775807 : Int64))), .second, .val (.long (v1 &&& (9223372036854775807 : Int64))), .second, .val (.int (v2 &&& (1 : Int32))), .val (.int ((1 : Int32) - (v2 &&& (1 : Int32)))), .val (.ref b3), .val (.int (z0_63_0 v0 v1 v2)), .unset, .unset, .unset] [(.long (9223372036854775807 : Int64)), (.long (v0 &&& (9223372036854775807 : Int64)))])) (X72.ldc2Long hx hown (mvT hZ (hw _ (List.mem_of_getElem? (i := 0) rfl))) (g := (mkF m 80 #[.val (.long v0), .second, .val (.long v1), .second, .val (.int v2), .val (.long (v0 &&& (9223372036854775807 : Int64))), .second, .val (.long (v1 &&& (9223372036854775807 : Int64))), .second, .val (.int (v2 &&& (1 : Int32))), .val (.int ((1 : Int32) - (v2 &&& (1 : Int32)))), .val (.ref b3), .val (.int (z0_63_0 v0 v1 v2)), .unset, .unset, .unset] [(.long (v0 &&& (9223372036854775807 : Int64)))])) rfl (hb hby at_80)) ?_
    refine go_step (T' := T71) (g' := (mkF m 85 #[.val (.long v0), .second, .val (.long v1), .second, .val (.int v2), .val (.long (v0 &&& (9223372036854775807 : Int64))), .second, .val (.long (v1 &&& (9223372036854775807 : Int64))), .second, .val (.int (v2 &&& (1 : Int32))), .val (.int ((1 : Int32) - (v2 &&& (1 : Int32)))), .val (.ref b3), .val (.int (z0_63_0 v0 v1 v2)), .unset, .unset, .unset] [(.long (v1 &&& (9223372036854775807 : Int64))), (.long (9223372036854775807 : Int64)), (.long (v0 &&& (9223372036854775807 : Int64)))])) (fun t k => XS.lload X72.here hx rfl (hb hby at_83) rfl  k) ?_
    refine go_step (T' := T71) (g' := (mkF m 86 #[.val (.long v0), .second, .val (.long v1), .second, .val (.int v2), .val (.long (v0 &&& (9223372036854775807 : Int64))), .second, .val (.long (v1 &&& (9223372036854775807 : Int64))), .second, .val (.int (v2 &&& (1 : Int32))), .val (.int ((1 : Int32) - (v2 &&& (1 : Int32)))), .val (.ref b3), .val (.int (z0_63_0 v0 v1 v2)), .unset, .unset, .unset] [(.long ((9223372036854775807 : Int64) - (v1 &&& (9223372036854775807 : Int64)))), (.long (v0 &&& (9223372036854775807 : Int64)))])) (fun t k => XS.lsub X72.here hx rfl (hb hby at_85) rfl k) ?_
    refine go_step (T' := T71) (g' := (mkF m 87 #[.val (.long v0), .second, .val (.long v1), .second, .val (.int v2), .val (.long (v0 &&& (9223372036854775807 : Int64))), .second, .val (.long (v1 &&& (9223372036854775807 : Int64))), .second, .val (.int (v2 &&& (1 : Int32))), .val (.int ((1 : Int32) - (v2 &&& (1 : Int32)))), .val (.ref b3), .val (.int (z0_63_0 v0 v1 v2)), .unset, .unset, .unset] [(.long ((v0 &&& (9223372036854775807 : Int64)) - ((9223372036854775807 : Int64) - (v1 &&& (9223372036854775807 : Int64)))))])) (fun t k => XS.lsub X72.here hx rfl (hb hby at_86) rfl k) ?_
    refine go_step (T' := T71) (g' := (mkF m 88 #[.val (.long v0), .second, .val (.long v1), .second, .val (.int v2), .val (.long (v0 &&& (9223372036854775807 : Int64))), .second, .val (.long (v1 &&& (9223372036854775807 : Int64))), .second, .val (.int (v2 &&& (1 : Int32))), .val (.int ((1 : Int32) - (v2 &&& (1 : Int32)))), .val (.ref b3), .val (.int (z0_63_0 v0 v1 v2)), .unset, .unset, .unset] [(.long (1 : Int64)), (.long ((v0 &&& (9223372036854775807 : Int64)) - ((9223372036854775807 : Int64) - (v1 &&& (9223372036854775807 : Int64)))))])) (fun t k => XS.lconst X72.here hx rfl (hb hby at_87) k) ?_
    refine go_step (T' := T71) (g' := (mkF m 89 #[.val (.long v0), .second, .val (.long v1), .second, .val (.int v2), .val (.long (v0 &&& (9223372036854775807 : Int64))), .second, .val (.long (v1 &&& (9223372036854775807 : Int64))), .second, .val (.int (v2 &&& (1 : Int32))), .val (.int ((1 : Int32) - (v2 &&& (1 : Int32)))), .val (.ref b3), .val (.int (z0_63_0 v0 v1 v2)), .unset, .unset, .unset] [(.long (((v0 &&& (9223372036854775807 : Int64)) - ((9223372036854775807 : Int64) - (v1 &&& (9223372036854775807 : Int64)))) - (1 : Int64)))])) (fun t k => XS.lsub X72.here hx rfl (hb hby at_88) rfl k) ?_
    refine go_step (T' := T71) (g' := (mkF m 91 #[.val (.long v0), .second, .val (.long v1), .second, .val (.int v2), .val (.long (v0 &&& (9223372036854775807 : Int64))), .second, .val (.long (v1 &&& (9223372036854775807 : Int64))), .second, .val (.int (v2 &&& (1 : Int32))), .val (.int ((1 : Int32) - (v2 &&& (1 : Int32)))), .val (.ref b3), .val (.int (z0_63_0 v0 v1 v2)), .unset, .val (.long (((v0 &&& (9223372036854775807 : Int64)) - ((9223372036854775807 : Int64) - (v1 &&& (9223372036854775807 : Int64)))) - (1 : Int64))), .second] [])) (fun t k => XS.lstore X72.here hx rfl (hb hby at_89) rfl (l' := #[.val (.long v0), .second, .val (.long v1), .second, .val (.int v2), .val (.long (v0 &&& (9223372036854775807 : Int64))), .second, .val (.long (v1 &&& (9223372036854775807 : Int64))), .second, .val (.int (v2 &&& (1 : Int32))), .val (.int ((1 : Int32) - (v2 &&& (1 : Int32)))), .val (.ref b3), .val (.int (z0_63_0 v0 v1 v2)), .unset, .val (.long (((v0 &&& (9223372036854775807 : Int64)) - ((9223372036854775807 : Int64) - (v1 &&& (9223372036854775807 : Int64)))) - (1 : Int64))), .second]) rfl k) ?_
    show Go p e below s _ _ _ T71 (mkF m 91 #[.val (.long v0), .second, .val (.long v1), .second, .val (.int v2), .val (.long (v0 &&& (9223372036854775807 : Int64))), .second, .val (.long (v1 &&& (9223372036854775807 : Int64))), .second, .val (.int (v2 &&& (1 : Int32))), .val (.int ((1 : Int32) - (v2 &&& (1 : Int32)))), .val (.ref b3), .val (.int (z0_63_0 v0 v1 v2)), .unset, .val (.long (s0_6 v0 v1 v2)), .second] [])
    refine go_step (T' := T71) (g' := (mkF m 93 #[.val (.long v0), .second, .val (.long v1), .second, .val (.int v2), .val (.long (v0 &&& (9223372036854775807 : Int64))), .second, .val (.long (v1 &&& (9223372036854775807 : Int64))), .second, .val (.int (v2 &&& (1 : Int32))), .val (.int ((1 : Int32) - (v2 &&& (1 : Int32)))), .val (.ref b3), .val (.int (z0_63_0 v0 v1 v2)), .unset, .val (.long (s0_6 v0 v1 v2)), .second] [(.ref b3)])) (fun t k => XS.aload X72.here hx rfl (hb hby at_91) rfl rfl k) ?_
    refine go_step (T' := T71) (g' := (mkF m 95 #[.val (.long v0), .second, .val (.long v1), .second, .val (.int v2), .val (.long (v0 &&& (9223372036854775807 : Int64))), .second, .val (.long (v1 &&& (9223372036854775807 : Int64))), .second, .val (.int (v2 &&& (1 : Int32))), .val (.int ((1 : Int32) - (v2 &&& (1 : Int32)))), .val (.ref b3), .val (.int (z0_63_0 v0 v1 v2)), .unset, .val (.long (s0_6 v0 v1 v2)), .second] [(.int (v2 &&& (1 : Int32))), (.ref b3)])) (fun t k => XS.iload X72.here hx rfl (hb hby at_93) rfl  k) ?_
    have G135 : Fld Z T57.heap b3 "com/example/thicket/thicket/dense/Sums" "high" "[J" (.ref hi24) := (G56.keep K63 (ninS ne36 (ninS ne39 nin0)))
    have G136 : Exa Z T57.heap b3 "com/example/thicket/thicket/dense/Sums" := (G54.keep K63)
    refine go_callVP X72 hx hZ (y := (⟨"com/example/thicket/thicket/dense/Sums", "isLong", "(I)Z"⟩ : MethodName)) hown (hw _ (List.mem_of_getElem? (i := 20) rfl)) (hw _ (List.mem_of_getElem? (i := 21) rfl)) (hw _ (List.mem_of_getElem? (i := 23) rfl)) (hw _ (List.mem_of_getElem? (i := 22) rfl)) (hw _ (List.mem_of_getElem? (i := 3) rfl)) (hw _ (List.mem_of_getElem? (i := 24) rfl)) (by decide) e73 G136 (mq4 l Z a0 hw b3 (v2 &&& (1 : Int32)) hi24 ((s0_3 v0 v1 v2)) T57.heap 0 (Nat.zero_le _) G135 F69 (own_i v2).1 (by simp only [s0_3, s0_0, s0_1, own_len3_lo, own_len3_hi, own_len6_lo, own_len6_hi, List.length_cons, List.length_nil]; exact (own_i v2).2)) 0 (by decide) (by decide) (g := (mkF m 95 #[.val (.long v0), .second, .val (.long v1), .second, .val (.int v2), .val (.long (v0 &&& (9223372036854775807 : Int64))), .second, .val (.long (v1 &&& (9223372036854775807 : Int64))), .second, .val (.int (v2 &&& (1 : Int32))), .val (.int ((1 : Int32) - (v2 &&& (1 : Int32)))), .val (.ref b3), .val (.int (z0_63_0 v0 v1 v2)), .unset, .val (.long (s0_6 v0 v1 v2)), .second] [(.int (v2 &&& (1 : Int32))), (.ref b3)])) rfl (by rw [hml]; rfl) (argsL := [(.int (v2 &&& (1 : Int32)))]) (rest := []) (lenOf pd_2 rfl) rfl (by show 2 * 0 + _ ≤ _; exact Nat.le_of_eq rfl) (hb hby at_95) rfl rfl rfl (by decide) (by decide) (fun T137 X138 e139 => ?_)
    show Go p e below s _ _ _ T137 (mkF m 98 #[.val (.long v0), .second, .val (.long v1), .second, .val (.int v2), .val (.long (v0 &&& (9223372036854775807 : Int64))), .second, .val (.long (v1 &&& (9223372036854775807 : Int64))), .second, .val (.int (v2 &&& (1 : Int32))), .val (.int ((1 : Int32) - (v2 &&& (1 : Int32)))), .val (.ref b3), .val (.int (z0_63_0 v0 v1 v2)), .unset, .val (.long (s0_6 v0 v1 v2)), .second] [(.int (f4_ret (v2 &&& (1 : Int32)) (s0_3 v0 v1 v2)))])
    refine go_join X138 (h := T57.heap) (g' := (mkF m 119 #[.val (.long v0), .second, .val (.long v1), .second, .val (.int v2), .val (.long (v0 &&& (9223372036854775807 : Int64))), .second, .val (.long (v1 &&& (9223372036854775807 : Int64))), .second, .val (.int (v2 &&& (1 : Int32))), .val (.int ((1 : Int32) - (v2 &&& (1 : Int32)))), .val (.ref b3), .val (.int (z0_63_0 v0 v1 v2)), .unset, .val (.long (s0_6 v0 v1 v2)), .second] [(.int (z0_98_0 v0 v1 v2))])) (fun kk => ?_) (fun T146 X147 e148 => ?_)
    · by_cases hj140 : (f4_ret (v2 &&& (1 : Int32)) (s0_3 v0 v1 v2)) = (0 : Int32)
      · refine go_step (T' := T137) (g' := (mkF m 101 #[.val (.long v0), .second, .val (.long v1), .second, .val (.int v2), .val (.long (v0 &&& (9223372036854775807 : Int64))), .second, .val (.long (v1 &&& (9223372036854775807 : Int64))), .second, .val (.int (v2 &&& (1 : Int32))), .val (.int ((1 : Int32) - (v2 &&& (1 : Int32)))), .val (.ref b3), .val (.int (z0_63_0 v0 v1 v2)), .unset, .val (.long (s0_6 v0 v1 v2)), .second] [])) (fun t k => XS.ifNo X138.here hx rfl (hb hby at_98) rfl ((if0 _ _).trans (teq hj140).2) k) ?_
        refine go_step (T' := T137) (g' := (mkF m 103 #[.val (.long v0), .second, .val (.long v1), .second, .val (.int v2), .val (.long (v0 &&& (9223372036854775807 : Int64))), .second, .val (.long (v1 &&& (9223372036854775807 : Int64))), .second, .val (.int (v2 &&& (1 : Int32))), .val (.int ((1 : Int32) - (v2 &&& (1 : Int32)))), .val (.ref b3), .val (.int (z0_63_0 v0 v1 v2)), .unset, .val (.long (s0_6 v0 v1 v2)), .second] [(.ref b3)])) (fun t k => XS.aload X138.here hx rfl (hb hby at_101) rfl rfl k) ?_
        refine go_step (T' := T137) (g' := (mkF m 105 #[.val (.long v0), .second, .val (.long v1), .second, .val (.int v2), .val (.long (v0 &&& (9223372036854775807 : Int64))), .second, .val (.long (v1 &&& (9223372036854775807 : Int64))), .second, .val (.int (v2 &&& (1 : Int32))), .val (.int ((1 : Int32) - (v2 &&& (1 : Int32)))), .val (.ref b3), .val (.int (z0_63_0 v0 v1 v2)), .unset, .val (.long (s0_6 v0 v1 v2)), .second] [(.int (v2 &&& (1 : Int32))), (.ref b3)])) (fun t k => XS.iload X138.here hx rfl (hb hby at_103) rfl  k) ?_
        have G141 : Fld Z T57.heap b3 "com/example/thicket/thicket/dense/Sums" "low" "[J" (.ref lo23) := (G55.keep K63 (ninS ne36 (ninS ne39 nin0)))
        refine go_callVP X138 hx hZ (y := (⟨"com/example/thicket/thicket/dense/Sums", "longValue", "(I)J"⟩ : MethodName)) hown (hw _ (List.mem_of_getElem? (i := 25) rfl)) (hw _ (List.mem_of_getElem? (i := 26) rfl)) (hw _ (List.mem_of_getElem? (i := 28) rfl)) (hw _ (List.mem_of_getElem? (i := 27) rfl)) (hw _ (List.mem_of_getElem? (i := 3) rfl)) (hw _ (List.mem_of_getElem? (i := 29) rfl)) (by decide) e139 G136 (mq5 l Z a0 hw b3 (v2 &&& (1 : Int32)) lo23 ((s0_2 v0 v1 v2)) T57.heap 0 (Nat.zero_le _) G141 F68 (own_i v2).1 (by simp only [s0_2, s0_0, s0_1, own_len3_lo, own_len3_hi, own_len6_lo, own_len6_hi, List.length_cons, List.length_nil]; exact (own_i v2).2)) 0 (by decide) (by decide) (g := (mkF m 105 #[.val (.long v0), .second, .val (.long v1), .second, .val (.int v2), .val (.long (v0 &&& (9223372036854775807 : Int64))), .second, .val (.long (v1 &&& (9223372036854775807 : Int64))), .second, .val (.int (v2 &&& (1 : Int32))), .val (.int ((1 : Int32) - (v2 &&& (1 : Int32)))), .val (.ref b3), .val (.int (z0_63_0 v0 v1 v2)), .unset, .val (.long (s0_6 v0 v1 v2)), .second] [(.int (v2 &&& (1 : Int32))), (.ref b3)])) rfl (by rw [hml]; rfl) (argsL := [(.int (v2 &&& (1 : Int32)))]) (rest := []) (lenOf pd_3 rfl) rfl (by show 2 * 0 + _ ≤ _; exact Nat.le_of_eq rfl) (hb hby at_105) rfl rfl rfl (by decide) (by decide) (fun T142 X143 e144 => ?_)
        show Go p e below s _ _ _ T142 (mkF m 108 #[.val (.long v0), .second, .val (.long v1), .second, .val (.int v2), .val (.long (v0 &&& (9223372036854775807 : Int64))), .second, .val (.long (v1 &&& (9223372036854775807 : Int64))), .second, .val (.int (v2 &&& (1 : Int32))), .val (.int ((1 : Int32) - (v2 &&& (1 : Int32)))), .val (.ref b3), .val (.int (z0_63_0 v0 v1 v2)), .unset, .val (.long (s0_6 v0 v1 v2)), .second] [(.long (f5_ret (v2 &&& (1 : Int32)) (s0_2 v0 v1 v2)))])
        refine go_step (T' := T142) (g' := (mkF m 110 #[.val (.long v0), .second, .val (.long v1), .second, .val (.int v2), .val (.long (v0 &&& (9223372036854775807 : Int64))), .second, .val (.long (v1 &&& (9223372036854775807 : Int64))), .second, .val (.int (v2 &&& (1 : Int32))), .val (.int ((1 : Int32) - (v2 &&& (1 : Int32)))), .val (.ref b3), .val (.int (z0_63_0 v0 v1 v2)), .unset, .val (.long (s0_6 v0 v1 v2)), .second] [(.long (s0_6 v0 v1 v2)), (.long (f5_ret (v2 &&& (1 : Int32)) (s0_2 v0 v1 v2)))])) (fun t k => XS.lload X143.here hx rfl (hb hby at_108) rfl  k) ?_
        refine go_step (T' := T142) (g' := (mkF m 111 #[.val (.long v0), .second, .val (.long v1), .second, .val (.int v2), .val (.long (v0 &&& (9223372036854775807 : Int64))), .second, .val (.long (v1 &&& (9223372036854775807 : Int64))), .second, .val (.int (v2 &&& (1 : Int32))), .val (.int ((1 : Int32) - (v2 &&& (1 : Int32)))), .val (.ref b3), .val (.int (z0_63_0 v0 v1 v2)), .unset, .val (.long (s0_6 v0 v1 v2)), .second] [(.int (lcmpW (f5_ret (v2 &&& (1 : Int32)) (s0_2 v0 v1 v2)) (s0_6 v0 v1 v2)))])) (fun t k => XS.lcmp X143.here hx rfl (hb hby at_110) rfl k) ?_
        by_cases hj145 : (f5_ret (v2 &&& (1 : Int32)) (s0_2 v0 v1 v2)) = (s0_6 v0 v1 v2)
        · refine go_step (T' := T142) (g' := (mkF m 114 #[.val (.long v0), .second, .val (.long v1), .second, .val (.int v2), .val (.long (v0 &&& (9223372036854775807 : Int64))), .second, .val (.long (v1 &&& (9223372036854775807 : Int64))), .second, .val (.int (v2 &&& (1 : Int32))), .val (.int ((1 : Int32) - (v2 &&& (1 : Int32)))), .val (.ref b3), .val (.int (z0_63_0 v0 v1 v2)), .unset, .val (.long (s0_6 v0 v1 v2)), .second] [])) (fun t k => XS.ifNo X143.here hx rfl (hb hby at_111) rfl ((if0 _ _).trans (teq ((lw_eq _ _).mpr hj145)).2) k) ?_
          refine go_step (T' := T142) (g' := (mkF m 115 #[.val (.long v0), .second, .val (.long v1), .second, .val (.int v2), .val (.long (v0 &&& (9223372036854775807 : Int64))), .second, .val (.long (v1 &&& (9223372036854775807 : Int64))), .second, .val (.int (v2 &&& (1 : Int32))), .val (.int ((1 : Int32) - (v2 &&& (1 : Int32)))), .val (.ref b3), .val (.int (z0_63_0 v0 v1 v2)), .unset, .val (.long (s0_6 v0 v1 v2)), .second] [(.int (1 : Int32))])) (fun t k => XS.iconst X143.here hx rfl (hb hby at_114) k) ?_
          refine go_step (T' := T142) (g' := (mkF m 119 #[.val (.long v0), .second, .val (.long v1), .second, .val (.int v2), .val (.long (v0 &&& (9223372036854775807 : Int64))), .second, .val (.long (v1 &&& (9223372036854775807 : Int64))), .second, .val (.int (v2 &&& (1 : Int32))), .val (.int ((1 : Int32) - (v2 &&& (1 : Int32)))), .val (.ref b3), .val (.int (z0_63_0 v0 v1 v2)), .unset, .val (.long (s0_6 v0 v1 v2)), .second] [(.int (1 : Int32))])) (fun t k => XS.goto X143.here hx rfl (pc0 := 115) (pc' := 119) rfl (hb hby at_115) (by decide) (by decide) k) ?_
          have k2 := kk T142 X143 e144
          rw [show (z0_98_0 v0 v1 v2) = (1 : Int32) by unfold z0_98_0; rw [if_pos hj140]; rw [if_pos hj145]] at k2
          exact k2
        · refine go_step (T' := T142) (g' := (mkF m 118 #[.val (.long v0), .second, .val (.long v1), .second, .val (.int v2), .val (.long (v0 &&& (9223372036854775807 : Int64))), .second, .val (.long (v1 &&& (9223372036854775807 : Int64))), .second, .val (.int (v2 &&& (1 : Int32))), .val (.int ((1 : Int32) - (v2 &&& (1 : Int32)))), .val (.ref b3), .val (.int (z0_63_0 v0 v1 v2)), .unset, .val (.long (s0_6 v0 v1 v2)), .second] [])) (fun t k => XS.ifYes X143.here hx rfl (pc0 := 111) (pc' := 118) rfl (hb hby at_111) rfl ((if0 _ _).trans (feq (fun q => hj145 ((lw_eq _ _).mp q))).2) (by decide) (by decide) k) ?_
          refine go_step (T' := T142) (g' := (mkF m 119 #[.val (.long v0), .second, .val (.long v1), .second, .val (.int v2), .val (.long (v0 &&& (9223372036854775807 : Int64))), .second, .val (.long (v1 &&& (9223372036854775807 : Int64))), .second, .val (.int (v2 &&& (1 : Int32))), .val (.int ((1 : Int32) - (v2 &&& (1 : Int32)))), .val (.ref b3), .val (.int (z0_63_0 v0 v1 v2)), .unset, .val (.long (s0_6 v0 v1 v2)), .second] [(.int (0 : Int32))])) (fun t k => XS.iconst X143.here hx rfl (hb hby at_118) k) ?_
          have k2 := kk T142 X143 e144
          rw [show (z0_98_0 v0 v1 v2) = (0 : Int32) by unfold z0_98_0; rw [if_pos hj140]; rw [if_neg hj145]] at k2
          exact k2
      · refine go_step (T' := T137) (g' := (mkF m 118 #[.val (.long v0), .second, .val (.long v1), .second, .val (.int v2), .val (.long (v0 &&& (9223372036854775807 : Int64))), .second, .val (.long (v1 &&& (9223372036854775807 : Int64))), .second, .val (.int (v2 &&& (1 : Int32))), .val (.int ((1 : Int32) - (v2 &&& (1 : Int32)))), .val (.ref b3), .val (.int (z0_63_0 v0 v1 v2)), .unset, .val (.long (s0_6 v0 v1 v2)), .second] [])) (fun t k => XS.ifYes X138.here hx rfl (pc0 := 98) (pc' := 118) rfl (hb hby at_98) rfl ((if0 _ _).trans (feq hj140).2) (by decide) (by decide) k) ?_
        refine go_step (T' := T137) (g' := (mkF m 119 #[.val (.long v0), .second, .val (.long v1), .second, .val (.int v2), .val (.long (v0 &&& (9223372036854775807 : Int64))), .second, .val (.long (v1 &&& (9223372036854775807 : Int64))), .second, .val (.int (v2 &&& (1 : Int32))), .val (.int ((1 : Int32) - (v2 &&& (1 : Int32)))), .val (.ref b3), .val (.int (z0_63_0 v0 v1 v2)), .unset, .val (.long (s0_6 v0 v1 v2)), .second] [(.int (0 : Int32))])) (fun t k => XS.iconst X138.here hx rfl (hb hby at_118) k) ?_
        have k2 := kk T137 X138 e139
        rw [show (z0_98_0 v0 v1 v2) = (0 : Int32) by unfold z0_98_0; rw [if_neg hj140]] at k2
        exact k2
    refine go_step (T' := T146) (g' := (mkF m 121 #[.val (.long v0), .second, .val (.long v1), .second, .val (.int v2), .val (.long (v0 &&& (9223372036854775807 : Int64))), .second, .val (.long (v1 &&& (9223372036854775807 : Int64))), .second, .val (.int (v2 &&& (1 : Int32))), .val (.int ((1 : Int32) - (v2 &&& (1 : Int32)))), .val (.ref b3), .val (.int (z0_63_0 v0 v1 v2)), .val (.int (z0_98_0 v0 v1 v2)), .val (.long (s0_6 v0 v1 v2)), .second] [])) (fun t k => XS.istore X147.here hx rfl (hb hby at_119) rfl (l' := #[.val (.long v0), .second, .val (.long v1), .second, .val (.int v2), .val (.long (v0 &&& (9223372036854775807 : Int64))), .second, .val (.long (v1 &&& (9223372036854775807 : Int64))), .second, .val (.int (v2 &&& (1 : Int32))), .val (.int ((1 : Int32) - (v2 &&& (1 : Int32)))), .val (.ref b3), .val (.int (z0_63_0 v0 v1 v2)), .val (.int (z0_98_0 v0 v1 v2)), .val (.long (s0_6 v0 v1 v2)), .second]) rfl k) ?_
    refine go_step (T' := T146) (g' := (mkF m 157 #[.val (.long v0), .second, .val (.long v1), .second, .val (.int v2), .val (.long (v0 &&& (9223372036854775807 : Int64))), .second, .val (.long (v1 &&& (9223372036854775807 : Int64))), .second, .val (.int (v2 &&& (1 : Int32))), .val (.int ((1 : Int32) - (v2 &&& (1 : Int32)))), .val (.ref b3), .val (.int (z0_63_0 v0 v1 v2)), .val (.int (z0_98_0 v0 v1 v2)), .val (.long (s0_6 v0 v1 v2)), .second] [])) (fun t k => XS.goto X147.here hx rfl (pc0 := 121) (pc' := 157) rfl (hb hby at_121) (by decide) (by decide) k) ?_
    refine go_step (T' := T146) (g' := (mkF m 159 #[.val (.long v0), .second, .val (.long v1), .second, .val (.int v2), .val (.long (v0 &&& (9223372036854775807 : Int64))), .second, .val (.long (v1 &&& (9223372036854775807 : Int64))), .second, .val (.int (v2 &&& (1 : Int32))), .val (.int ((1 : Int32) - (v2 &&& (1 : Int32)))), .val (.ref b3), .val (.int (z0_63_0 v0 v1 v2)), .val (.int (z0_98_0 v0 v1 v2)), .val (.long (s0_6 v0 v1 v2)), .second] [(.ref b3)])) (fun t k => XS.aload X147.here hx rfl (hb hby at_157) rfl rfl k) ?_
    refine go_step (T' := T146) (g' := (mkF m 161 #[.val (.long v0), .second, .val (.long v1), .second, .val (.int v2), .val (.long (v0 &&& (9223372036854775807 : Int64))), .second, .val (.long (v1 &&& (9223372036854775807 : Int64))), .second, .val (.int (v2 &&& (1 : Int32))), .val (.int ((1 : Int32) - (v2 &&& (1 : Int32)))), .val (.ref b3), .val (.int (z0_63_0 v0 v1 v2)), .val (.int (z0_98_0 v0 v1 v2)), .val (.long (s0_6 v0 v1 v2)), .second] [(.int ((1 : Int32) - (v2 &&& (1 : Int32)))), (.ref b3)])) (fun t k => XS.iload X147.here hx rfl (hb hby at_159) rfl  k) ?_
    refine go_callVP X147 hx hZ (y := (⟨"com/example/thicket/thicket/dense/Sums", "isLong", "(I)Z"⟩ : MethodName)) hown (hw _ (List.mem_of_getElem? (i := 20) rfl)) (hw _ (List.mem_of_getElem? (i := 21) rfl)) (hw _ (List.mem_of_getElem? (i := 23) rfl)) (hw _ (List.mem_of_getElem? (i := 22) rfl)) (hw _ (List.mem_of_getElem? (i := 3) rfl)) (hw _ (List.mem_of_getElem? (i := 24) rfl)) (by decide) e148 G136 (mq4 l Z a0 hw b3 ((1 : Int32) - (v2 &&& (1 : Int32))) hi24 ((s0_3 v0 v1 v2)) T57.heap 0 (Nat.zero_le _) G135 F69 (own_j v2).1 (by simp only [s0_3, s0_0, s0_1, own_len3_lo, own_len3_hi, own_len6_lo, own_len6_hi, List.length_cons, List.length_nil]; exact (own_j v2).2)) 0 (by decide) (by decide) (g := (mkF m 161 #[.val (.long v0), .second, .val (.long v1), .second, .val (.int v2), .val (.long (v0 &&& (9223372036854775807 : Int64))), .second, .val (.long (v1 &&& (9223372036854775807 : Int64))), .second, .val (.int (v2 &&& (1 : Int32))), .val (.int ((1 : Int32) - (v2 &&& (1 : Int32)))), .val (.ref b3), .val (.int (z0_63_0 v0 v1 v2)), .val (.int (z0_98_0 v0 v1 v2)), .val (.long (s0_6 v0 v1 v2)), .second] [(.int ((1 : Int32) - (v2 &&& (1 : Int32)))), (.ref b3)])) rfl (by rw [hml]; rfl) (argsL := [(.int ((1 : Int32) - (v2 &&& (1 : Int32))))]) (rest := []) (lenOf pd_2 rfl) rfl (by show 2 * 0 + _ ≤ _; exact Nat.le_of_eq rfl) (hb hby at_161) rfl rfl rfl (by decide) (by decide) (fun T149 X150 e151 => ?_)
    show Go p e below s _ _ _ T149 (mkF m 164 #[.val (.long v0), .second, .val (.long v1), .second, .val (.int v2), .val (.long (v0 &&& (9223372036854775807 : Int64))), .second, .val (.long (v1 &&& (9223372036854775807 : Int64))), .second, .val (.int (v2 &&& (1 : Int32))), .val (.int ((1 : Int32) - (v2 &&& (1 : Int32)))), .val (.ref b3), .val (.int (z0_63_0 v0 v1 v2)), .val (.int (z0_98_0 v0 v1 v2)), .val (.long (s0_6 v0 v1 v2)), .second] [(.int (f4_ret ((1 : Int32) - (v2 &&& (1 : Int32))) (s0_3 v0 v1 v2)))])
    refine go_join X150 (h := T57.heap) (g' := (mkF m 184 #[.val (.long v0), .second, .val (.long v1), .second, .val (.int v2), .val (.long (v0 &&& (9223372036854775807 : Int64))), .second, .val (.long (v1 &&& (9223372036854775807 : Int64))), .second, .val (.int (v2 &&& (1 : Int32))), .val (.int ((1 : Int32) - (v2 &&& (1 : Int32)))), .val (.ref b3), .val (.int (z0_63_0 v0 v1 v2)), .val (.int (z0_98_0 v0 v1 v2)), .val (.long (s0_6 v0 v1 v2)), .second] [(.int (z0_164_0 v0 v1 v2))])) (fun kk => ?_) (fun T158 X159 e160 => ?_)
    · by_cases hj152 : (f4_ret ((1 : Int32) - (v2 &&& (1 : Int32))) (s0_3 v0 v1 v2)) = (0 : Int32)
      · refine go_step (T' := T149) (g' := (mkF m 183 #[.val (.long v0), .second, .val (.long v1), .second, .val (.int v2), .val (.long (v0 &&& (9223372036854775807 : Int64))), .second, .val (.long (v1 &&& (9223372036854775807 : Int64))), .second, .val (.int (v2 &&& (1 : Int32))), .val (.int ((1 : Int32) - (v2 &&& (1 : Int32)))), .val (.ref b3), .val (.int (z0_63_0 v0 v1 v2)), .val (.int (z0_98_0 v0 v1 v2)), .val (.long (s0_6 v0 v1 v2)), .second] [])) (fun t k => XS.ifYes X150.here hx rfl (pc0 := 164) (pc' := 183) rfl (hb hby at_164) rfl ((if0 _ _).trans (teq hj152).1) (by decide) (by decide) k) ?_
        refine go_step (T' := T149) (g' := (mkF m 184 #[.val (.long v0), .second, .val (.long v1), .second, .val (.int v2), .val (.long (v0 &&& (9223372036854775807 : Int64))), .second, .val (.long (v1 &&& (9223372036854775807 : Int64))), .second, .val (.int (v2 &&& (1 : Int32))), .val (.int ((1 : Int32) - (v2 &&& (1 : Int32)))), .val (.ref b3), .val (.int (z0_63_0 v0 v1 v2)), .val (.int (z0_98_0 v0 v1 v2)), .val (.long (s0_6 v0 v1 v2)), .second] [(.int (0 : Int32))])) (fun t k => XS.iconst X150.here hx rfl (hb hby at_183) k) ?_
        have k2 := kk T149 X150 e151
        rw [show (z0_164_0 v0 v1 v2) = (0 : Int32) by unfold z0_164_0; rw [if_pos hj152]] at k2
        exact k2
      · refine go_step (T' := T149) (g' := (mkF m 167 #[.val (.long v0), .second, .val (.long v1), .second, .val (.int v2), .val (.long (v0 &&& (9223372036854775807 : Int64))), .second, .val (.long (v1 &&& (9223372036854775807 : Int64))), .second, .val (.int (v2 &&& (1 : Int32))), .val (.int ((1 : Int32) - (v2 &&& (1 : Int32)))), .val (.ref b3), .val (.int (z0_63_0 v0 v1 v2)), .val (.int (z0_98_0 v0 v1 v2)), .val (.long (s0_6 v0 v1 v2)), .second] [])) (fun t k => XS.ifNo X150.here hx rfl (hb hby at_164) rfl ((if0 _ _).trans (feq hj152).1) k) ?_
        refine go_step (T' := T149) (g' := (mkF m 169 #[.val (.long v0), .second, .val (.long v1), .second, .val (.int v2), .val (.long (v0 &&& (9223372036854775807 : Int64))), .second, .val (.long (v1 &&& (9223372036854775807 : Int64))), .second, .val (.int (v2 &&& (1 : Int32))), .val (.int ((1 : Int32) - (v2 &&& (1 : Int32)))), .val (.ref b3), .val (.int (z0_63_0 v0 v1 v2)), .val (.int (z0_98_0 v0 v1 v2)), .val (.long (s0_6 v0 v1 v2)), .second] [(.ref b3)])) (fun t k => XS.aload X150.here hx rfl (hb hby at_167) rfl rfl k) ?_
        refine go_step (T' := T149) (g' := (mkF m 171 #[.val (.long v0), .second, .val (.long v1), .second, .val (.int v2), .val (.long (v0 &&& (9223372036854775807 : Int64))), .second, .val (.long (v1 &&& (9223372036854775807 : Int64))), .second, .val (.int (v2 &&& (1 : Int32))), .val (.int ((1 : Int32) - (v2 &&& (1 : Int32)))), .val (.ref b3), .val (.int (z0_63_0 v0 v1 v2)), .val (.int (z0_98_0 v0 v1 v2)), .val (.long (s0_6 v0 v1 v2)), .second] [(.int ((1 : Int32) - (v2 &&& (1 : Int32)))), (.ref b3)])) (fun t k => XS.iload X150.here hx rfl (hb hby at_169) rfl  k) ?_
        have G153 : Fld Z T57.heap b3 "com/example/thicket/thicket/dense/Sums" "low" "[J" (.ref lo23) := (G55.keep K63 (ninS ne36 (ninS ne39 nin0)))
        refine go_callVP X150 hx hZ (y := (⟨"com/example/thicket/thicket/dense/Sums", "longValue", "(I)J"⟩ : MethodName)) hown (hw _ (List.mem_of_getElem? (i := 25) rfl)) (hw _ (List.mem_of_getElem? (i := 26) rfl)) (hw _ (List.mem_of_getElem? (i := 28) rfl)) (hw _ (List.mem_of_getElem? (i := 27) rfl)) (hw _ (List.mem_of_getElem? (i := 3) rfl)) (hw _ (List.mem_of_getElem? (i := 29) rfl)) (by decide) e151 G136 (mq5 l Z a0 hw b3 ((1 : Int32) - (v2 &&& (1 : Int32))) lo23 ((s0_2 v0 v1 v2)) T57.heap 0 (Nat.zero_le _) G153 F68 (own_j v2).1 (by simp only [s0_2, s0_0, s0_1, own_len3_lo, own_len3_hi, own_len6_lo, own_len6_hi, List.length_cons, List.length_nil]; exact (own_j v2).2)) 0 (by decide) (by decide) (g := (mkF m 171 #[.val (.long v0), .second, .val (.long v1), .second, .val (.int v2), .val (.long (v0 &&& (9223372036854775807 : Int64))), .second, .val (.long (v1 &&& (9223372036854775807 : Int64))), .second, .val (.int (v2 &&& (1 : Int32))), .val (.int ((1 : Int32) - (v2 &&& (1 : Int32)))), .val (.ref b3), .val (.int (z0_63_0 v0 v1 v2)), .val (.int (z0_98_0 v0 v1 v2)), .val (.long (s0_6 v0 v1 v2)), .second] [(.int ((1 : Int32) - (v2 &&& (1 : Int32)))), (.ref b3)])) rfl (by rw [hml]; rfl) (argsL := [(.int ((1 : Int32) - (v2 &&& (1 : Int32))))]) (rest := []) (lenOf pd_3 rfl) rfl (by show 2 * 0 + _ ≤ _; exact Nat.le_of_eq rfl) (hb hby at_171) rfl rfl rfl (by decide) (by decide) (fun T154 X155 e156 => ?_)
        show Go p e below s _ _ _ T154 (mkF m 174 #[.val (.long v0), .second, .val (.long v1), .second, .val (.int v2), .val (.long (v0 &&& (9223372036854775807 : Int64))), .second, .val (.long (v1 &&& (9223372036854775807 : Int64))), .second, .val (.int (v2 &&& (1 : Int32))), .val (.int ((1 : Int32) - (v2 &&& (1 : Int32)))), .val (.ref b3), .val (.int (z0_63_0 v0 v1 v2)), .val (.int (z0_98_0 v0 v1 v2)), .val (.long (s0_6 v0 v1 v2)), .second] [(.long (f5_ret ((1 : Int32) - (v2 &&& (1 : Int32))) (s0_2 v0 v1 v2)))])
        refine go_step (T' := T154) (g' := (mkF m 175 #[.val (.long v0), .second, .val (.long v1), .second, .val (.int v2), .val (.long (v0 &&& (9223372036854775807 : Int64))), .second, .val (.long (v1 &&& (9223372036854775807 : Int64))), .second, .val (.int (v2 &&& (1 : Int32))), .val (.int ((1 : Int32) - (v2 &&& (1 : Int32)))), .val (.ref b3), .val (.int (z0_63_0 v0 v1 v2)), .val (.int (z0_98_0 v0 v1 v2)), .val (.long (s0_6 v0 v1 v2)), .second] [(.long (0 : Int64)), (.long (f5_ret ((1 : Int32) - (v2 &&& (1 : Int32))) (s0_2 v0 v1 v2)))])) (fun t k => XS.lconst X155.here hx rfl (hb hby at_174) k) ?_
        refine go_step (T' := T154) (g' := (mkF m 176 #[.val (.long v0), .second, .val (.long v1), .second, .val (.int v2), .val (.long (v0 &&& (9223372036854775807 : Int64))), .second, .val (.long (v1 &&& (9223372036854775807 : Int64))), .second, .val (.int (v2 &&& (1 : Int32))), .val (.int ((1 : Int32) - (v2 &&& (1 : Int32)))), .val (.ref b3), .val (.int (z0_63_0 v0 v1 v2)), .val (.int (z0_98_0 v0 v1 v2)), .val (.long (s0_6 v0 v1 v2)), .second] [(.int (lcmpW (f5_ret ((1 : Int32) - (v2 &&& (1 : Int32))) (s0_2 v0 v1 v2)) (0 : Int64)))])) (fun t k => XS.lcmp X155.here hx rfl (hb hby at_175) rfl k) ?_
        by_cases hj157 : (f5_ret ((1 : Int32) - (v2 &&& (1 : Int32))) (s0_2 v0 v1 v2)) = (0 : Int64)
        · refine go_step (T' := T154) (g' := (mkF m 179 #[.val (.long v0), .second, .val (.long v1), .second, .val (.int v2), .val (.long (v0 &&& (9223372036854775807 : Int64))), .second, .val (.long (v1 &&& (9223372036854775807 : Int64))), .second, .val (.int (v2 &&& (1 : Int32))), .val (.int ((1 : Int32) - (v2 &&& (1 : Int32)))), .val (.ref b3), .val (.int (z0_63_0 v0 v1 v2)), .val (.int (z0_98_0 v0 v1 v2)), .val (.long (s0_6 v0 v1 v2)), .second] [])) (fun t k => XS.ifNo X155.here hx rfl (hb hby at_176) rfl ((if0 _ _).trans (teq ((lw_eq _ _).mpr hj157)).2) k) ?_
          refine go_step (T' := T154) (g' := (mkF m 180 #[.val (.long v0), .second, .val (.long v1), .second, .val (.int v2), .val (.long (v0 &&& (9223372036854775807 : Int64))), .second, .val (.long (v1 &&& (9223372036854775807 : Int64))), .second, .val (.int (v2 &&& (1 : Int32))), .val (.int ((1 : Int32) - (v2 &&& (1 : Int32)))), .val (.ref b3), .val (.int (z0_63_0 v0 v1 v2)), .val (.int (z0_98_0 v0 v1 v2)), .val (.long (s0_6 v0 v1 v2)), .second] [(.int (1 : Int32))])) (fun t k => XS.iconst X155.here hx rfl (hb hby at_179) k) ?_
          refine go_step (T' := T154) (g' := (mkF m 184 #[.val (.long v0), .second, .val (.long v1), .second, .val (.int v2), .val (.long (v0 &&& (9223372036854775807 : Int64))), .second, .val (.long (v1 &&& (9223372036854775807 : Int64))), .second, .val (.int (v2 &&& (1 : Int32))), .val (.int ((1 : Int32) - (v2 &&& (1 : Int32)))), .val (.ref b3), .val (.int (z0_63_0 v0 v1 v2)), .val (.int (z0_98_0 v0 v1 v2)), .val (.long (s0_6 v0 v1 v2)), .second] [(.int (1 : Int32))])) (fun t k => XS.goto X155.here hx rfl (pc0 := 180) (pc' := 184) rfl (hb hby at_180) (by decide) (by decide) k) ?_
          have k2 := kk T154 X155 e156
          rw [show (z0_164_0 v0 v1 v2) = (1 : Int32) by unfold z0_164_0; rw [if_neg hj152]; rw [if_pos hj157]] at k2
          exact k2
        · refine go_step (T' := T154) (g' := (mkF m 183 #[.val (.long v0), .second, .val (.long v1), .second, .val (.int v2), .val (.long (v0 &&& (9223372036854775807 : Int64))), .second, .val (.long (v1 &&& (9223372036854775807 : Int64))), .second, .val (.int (v2 &&& (1 : Int32))), .val (.int ((1 : Int32) - (v2 &&& (1 : Int32)))), .val (.ref b3), .val (.int (z0_63_0 v0 v1 v2)), .val (.int (z0_98_0 v0 v1 v2)), .val (.long (s0_6 v0 v1 v2)), .second] [])) (fun t k => XS.ifYes X155.here hx rfl (pc0 := 176) (pc' := 183) rfl (hb hby at_176) rfl ((if0 _ _).trans (feq (fun q => hj157 ((lw_eq _ _).mp q))).2) (by decide) (by decide) k) ?_
          refine go_step (T' := T154) (g' := (mkF m 184 #[.val (.long v0), .second, .val (.long v1), .second, .val (.int v2), .val (.long (v0 &&& (9223372036854775807 : Int64))), .second, .val (.long (v1 &&& (9223372036854775807 : Int64))), .second, .val (.int (v2 &&& (1 : Int32))), .val (.int ((1 : Int32) - (v2 &&& (1 : Int32)))), .val (.ref b3), .val (.int (z0_63_0 v0 v1 v2)), .val (.int (z0_98_0 v0 v1 v2)), .val (.long (s0_6 v0 v1 v2)), .second] [(.int (0 : Int32))])) (fun t k => XS.iconst X155.here hx rfl (hb hby at_183) k) ?_
          have k2 := kk T154 X155 e156
          rw [show (z0_164_0 v0 v1 v2) = (0 : Int32) by unfold z0_164_0; rw [if_neg hj152]; rw [if_neg hj157]] at k2
          exact k2
    refine go_step (T' := T158) (g' := (mkF m 186 #[.val (.long v0), .second, .val (.long v1), .second, .val (.int v2), .val (.long (v0 &&& (9223372036854775807 : Int64))), .second, .val (.long (v1 &&& (9223372036854775807 : Int64))), .second, .val (.int (v2 &&& (1 : Int32))), .val (.int ((1 : Int32) - (v2 &&& (1 : Int32)))), .val (.ref b3), .val (.int (z0_63_0 v0 v1 v2)), .val (.int (z0_98_0 v0 v1 v2)), .val (.int (z0_164_0 v0 v1 v2)), .unset] [])) (fun t k => XS.istore X159.here hx rfl (hb hby at_184) rfl (l' := #[.val (.long v0), .second, .val (.long v1), .second, .val (.int v2), .val (.long (v0 &&& (9223372036854775807 : Int64))), .second, .val (.long (v1 &&& (9223372036854775807 : Int64))), .second, .val (.int (v2 &&& (1 : Int32))), .val (.int ((1 : Int32) - (v2 &&& (1 : Int32)))), .val (.ref b3), .val (.int (z0_63_0 v0 v1 v2)), .val (.int (z0_98_0 v0 v1 v2)), .val (.int (z0_164_0 v0 v1 v2)), .unset]) rfl k) ?_
    refine go_step (T' := T158) (g' := (mkF m 188 #[.val (.long v0), .second, .val (.long v1), .second, .val (.int v2), .val (.long (v0 &&& (9223372036854775807 : Int64))), .second, .val (.long (v1 &&& (9223372036854775807 : Int64))), .second, .val (.int (v2 &&& (1 : Int32))), .val (.int ((1 : Int32) - (v2 &&& (1 : Int32)))), .val (.ref b3), .val (.int (z0_63_0 v0 v1 v2)), .val (.int (z0_98_0 v0 v1 v2)), .val (.int (z0_164_0 v0 v1 v2)), .unset] [(.ref b3)])) (fun t k => XS.aload X159.here hx rfl (hb hby at_186) rfl rfl k) ?_
    refine go_step (T' := T158) (g' := (mkF m 190 #[.val (.long v0), .second, .val (.long v1), .second, .val (.int v2), .val (.long (v0 &&& (9223372036854775807 : Int64))), .second, .val (.long (v1 &&& (9223372036854775807 : Int64))), .second, .val (.int (v2 &&& (1 : Int32))), .val (.int ((1 : Int32) - (v2 &&& (1 : Int32)))), .val (.ref b3), .val (.int (z0_63_0 v0 v1 v2)), .val (.int (z0_98_0 v0 v1 v2)), .val (.int (z0_164_0 v0 v1 v2)), .unset] [(.int (v2 &&& (1 : Int32))), (.ref b3)])) (fun t k => XS.iload X159.here hx rfl (hb hby at_188) rfl  k) ?_
    refine go_step (T' := T158) (g' := (mkF m 192 #[.val (.long v0), .second, .val (.long v1), .second, .val (.int v2), .val (.long (v0 &&& (9223372036854775807 : Int64))), .second, .val (.long (v1 &&& (9223372036854775807 : Int64))), .second, .val (.int (v2 &&& (1 : Int32))), .val (.int ((1 : Int32) - (v2 &&& (1 : Int32)))), .val (.ref b3), .val (.int (z0_63_0 v0 v1 v2)), .val (.int (z0_98_0 v0 v1 v2)), .val (.int (z0_164_0 v0 v1 v2)), .unset] [(.long (v1 &&& (9223372036854775807 : Int64))), (.int (v2 &&& (1 : Int32))), (.ref b3)])) (fun t k => XS.lload X159.here hx rfl (hb hby at_190) rfl  k) ?_
    have G161 : Fld Z T57.heap b3 "com/example/thicket/thicket/dense/Sums" "low" "[J" (.ref lo23) := (G55.keep K63 (ninS ne36 (ninS ne39 nin0)))
    refine go_callV X159 hx hZ (y := (⟨"com/example/thicket/thicket/dense/Sums", "subtract", "(IJ)V"⟩ : MethodName)) hown (hw _ (List.mem_of_getElem? (i := 30) rfl)) (hw _ (List.mem_of_getElem? (i := 31) rfl)) (hw _ (List.mem_of_getElem? (i := 33) rfl)) (hw _ (List.mem_of_getElem? (i := 32) rfl)) (hw _ (List.mem_of_getElem? (i := 3) rfl)) (hw _ (List.mem_of_getElem? (i := 34) rfl)) (by decide) e160 G136 (mq6 l Z a0 hw b3 (v2 &&& (1 : Int32)) (v1 &&& (9223372036854775807 : Int64)) lo23 hi24 ((s0_2 v0 v1 v2)) ((s0_3 v0 v1 v2)) T57.heap n0 (Nat.le_trans Z0 K67.1) G136 G161 G135 F68 F69 nn27 (own_i v2).1 (by simp only [s0_2, s0_0, s0_1, own_len3_lo, own_len3_hi, own_len6_lo, own_len6_hi, List.length_cons, List.length_nil]; exact (own_i v2).2) (by simp only [s0_3, s0_0, s0_1, own_len3_lo, own_len3_hi, own_len6_lo, own_len6_hi, List.length_cons, List.length_nil]; exact (own_i v2).2) g35 g38) 0 (by decide) (by decide) (g := (mkF m 192 #[.val (.long v0), .second, .val (.long v1), .second, .val (.int v2), .val (.long (v0 &&& (9223372036854775807 : Int64))), .second, .val (.long (v1 &&& (9223372036854775807 : Int64))), .second, .val (.int (v2 &&& (1 : Int32))), .val (.int ((1 : Int32) - (v2 &&& (1 : Int32)))), .val (.ref b3), .val (.int (z0_63_0 v0 v1 v2)), .val (.int (z0_98_0 v0 v1 v2)), .val (.int (z0_164_0 v0 v1 v2)), .unset] [(.long (v1 &&& (9223372036854775807 : Int64))), (.int (v2 &&& (1 : Int32))), (.ref b3)])) rfl (by rw [hml]; rfl) (argsL := [(.int (v2 &&& (1 : Int32))), (.long (v1 &&& (9223372036854775807 : Int64)))]) (rest := []) (lenOf pd_1 rfl) rfl (by show 2 * 0 + _ ≤ _; exact Nat.le_of_eq rfl) (hb hby at_192) rfl (by decide) (by decide) (fun T162 v163 L164 X165 hQ166 => ?_)
    obtain ⟨rfl, N167, K168, F169, F170⟩ := hQ166
    have N171 := Fr.app N66 N167
    have K172 := K67.trans K168 (allS (Or.inr sz34) (allS (Or.inr sz37) all0))
    have F173 : JA Z T162.heap lo23 (s0_4 v0 v1 v2) := F169
    have F174 : JA Z T162.heap hi24 (s0_5 v0 v1 v2) := F170
    show Go p e below s _ _ _ T162 (mkF m 195 #[.val (.long v0), .second, .val (.long v1), .second, .val (.int v2), .val (.long (v0 &&& (9223372036854775807 : Int64))), .second, .val (.long (v1 &&& (9223372036854775807 : Int64))), .second, .val (.int (v2 &&& (1 : Int32))), .val (.int ((1 : Int32) - (v2 &&& (1 : Int32)))), .val (.ref b3), .val (.int (z0_63_0 v0 v1 v2)), .val (.int (z0_98_0 v0 v1 v2)), .val (.int (z0_164_0 v0 v1 v2)), .unset] [])
    refine go_step (T' := T162) (g' := (mkF m 197 #[.val (.long v0), .second, .val (.long v1), .second, .val (.int v2), .val (.long (v0 &&& (9223372036854775807 : Int64))), .second, .val (.long (v1 &&& (9223372036854775807 : Int64))), .second, .val (.int (v2 &&& (1 : Int32))), .val (.int ((1 : Int32) - (v2 &&& (1 : Int32)))), .val (.ref b3), .val (.int (z0_63_0 v0 v1 v2)), .val (.int (z0_98_0 v0 v1 v2)), .val (.int (z0_164_0 v0 v1 v2)), .unset] [(.ref b3)])) (fun t k => XS.aload X165.here hx rfl (hb hby at_195) rfl rfl k) ?_
    refine go_step (T' := T162) (g' := (mkF m 199 #[.val (.long v0), .second, .val (.long v1), .second, .val (.int v2), .val (.long (v0 &&& (9223372036854775807 : Int64))), .second, .val (.long (v1 &&& (9223372036854775807 : Int64))), .second, .val (.int (v2 &&& (1 : Int32))), .val (.int ((1 : Int32) - (v2 &&& (1 : Int32)))), .val (.ref b3), .val (.int (z0_63_0 v0 v1 v2)), .val (.int (z0_98_0 v0 v1 v2)), .val (.int (z0_164_0 v0 v1 v2)), .unset] [(.int (v2 &&& (1 : Int32))), (.ref b3)])) (fun t k => XS.iload X165.here hx rfl (hb hby at_197) rfl  k) ?_
    have G175 : Fld Z T162.heap b3 "com/example/thicket/thicket/dense/Sums" "high" "[J" (.ref hi24) := (G135.keep K168 (ninS ne36 (ninS ne39 nin0)))
    have G176 : Exa Z T162.heap b3 "com/example/thicket/thicket/dense/Sums" := (G136.keep K168)
    refine go_callVP X165 hx hZ (y := (⟨"com/example/thicket/thicket/dense/Sums", "isLong", "(I)Z"⟩ : MethodName)) hown (hw _ (List.mem_of_getElem? (i := 20) rfl)) (hw _ (List.mem_of_getElem? (i := 21) rfl)) (hw _ (List.mem_of_getElem? (i := 23) rfl)) (hw _ (List.mem_of_getElem? (i := 22) rfl)) (hw _ (List.mem_of_getElem? (i := 3) rfl)) (hw _ (List.mem_of_getElem? (i := 24) rfl)) (by decide) rfl G176 (mq4 l Z a0 hw b3 (v2 &&& (1 : Int32)) hi24 ((s0_5 v0 v1 v2)) T162.heap 0 (Nat.zero_le _) G175 F174 (own_i v2).1 (by simp only [s0_5, s0_2, s0_3, s0_0, s0_1, own_len3_lo, own_len3_hi, own_len6_lo, own_len6_hi, List.length_cons, List.length_nil]; exact (own_i v2).2)) 0 (by decide) (by decide) (g := (mkF m 199 #[.val (.long v0), .second, .val (.long v1), .second, .val (.int v2), .val (.long (v0 &&& (9223372036854775807 : Int64))), .second, .val (.long (v1 &&& (9223372036854775807 : Int64))), .second, .val (.int (v2 &&& (1 : Int32))), .val (.int ((1 : Int32) - (v2 &&& (1 : Int32)))), .val (.ref b3), .val (.int (z0_63_0 v0 v1 v2)), .val (.int (z0_98_0 v0 v1 v2)), .val (.int (z0_164_0 v0 v1 v2)), .unset] [(.int (v2 &&& (1 : Int32))), (.ref b3)])) rfl (by rw [hml]; rfl) (argsL := [(.int (v2 &&& (1 : Int32)))]) (rest := []) (lenOf pd_2 rfl) rfl (by show 2 * 0 + _ ≤ _; exact Nat.le_of_eq rfl) (hb hby at_199) rfl rfl rfl (by decide) (by decide) (fun T177 X178 e179 => ?_)
    show Go p e below s _ _ _ T177 (mkF m 202 #[.val (.long v0), .second, .val (.long v1), .second, .val (.int v2), .val (.long (v0 &&& (9223372036854775807 : Int64))), .second, .val (.long (v1 &&& (9223372036854775807 : Int64))), .second, .val (.int (v2 &&& (1 : Int32))), .val (.int ((1 : Int32) - (v2 &&& (1 : Int32)))), .val (.ref b3), .val (.int (z0_63_0 v0 v1 v2)), .val (.int (z0_98_0 v0 v1 v2)), .val (.int (z0_164_0 v0 v1 v2)), .unset] [(.int (f4_ret (v2 &&& (1 : Int32)) (s0_5 v0 v1 v2)))])
    refine go_join X178 (h := T162.heap) (g' := (mkF m 223 #[.val (.long v0), .second, .val (.long v1), .second, .val (.int v2), .val (.long (v0 &&& (9223372036854775807 : Int64))), .second, .val (.long (v1 &&& (9223372036854775807 : Int64))), .second, .val (.int (v2 &&& (1 : Int32))), .val (.int ((1 : Int32) - (v2 &&& (1 : Int32)))), .val (.ref b3), .val (.int (z0_63_0 v0 v1 v2)), .val (.int (z0_98_0 v0 v1 v2)), .val (.int (z0_164_0 v0 v1 v2)), .unset] [(.int (z0_202_0 v0 v1 v2))])) (fun kk => ?_) (fun T186 X187 e188 => ?_)
    · by_cases hj180 : (f4_ret (v2 &&& (1 : Int32)) (s0_5 v0 v1 v2)) = (0 : Int32)
      · refine go_step (T' := T177) (g' := (mkF m 222 #[.val (.long v0), .second, .val (.long v1), .second, .val (.int v2), .val (.long (v0 &&& (9223372036854775807 : Int64))), .second, .val (.long (v1 &&& (9223372036854775807 : Int64))), .second, .val (.int (v2 &&& (1 : Int32))), .val (.int ((1 : Int32) - (v2 &&& (1 : Int32)))), .val (.ref b3), .val (.int (z0_63_0 v0 v1 v2)), .val (.int (z0_98_0 v0 v1 v2)), .val (.int (z0_164_0 v0 v1 v2)), .unset] [])) (fun t k => XS.ifYes X178.here hx rfl (pc0 := 202) (pc' := 222) rfl (hb hby at_202) rfl ((if0 _ _).trans (teq hj180).1) (by decide) (by decide) k) ?_
        refine go_step (T' := T177) (g' := (mkF m 223 #[.val (.long v0), .second, .val (.long v1), .second, .val (.int v2), .val (.long (v0 &&& (9223372036854775807 : Int64))), .second, .val (.long (v1 &&& (9223372036854775807 : Int64))), .second, .val (.int (v2 &&& (1 : Int32))), .val (.int ((1 : Int32) - (v2 &&& (1 : Int32)))), .val (.ref b3), .val (.int (z0_63_0 v0 v1 v2)), .val (.int (z0_98_0 v0 v1 v2)), .val (.int (z0_164_0 v0 v1 v2)), .unset] [(.int (0 : Int32))])) (fun t k => XS.iconst X178.here hx rfl (hb hby at_222) k) ?_
        have k2 := kk T177 X178 e179
        rw [show (z0_202_0 v0 v1 v2) = (0 : Int32) by unfold z0_202_0; rw [if_pos hj180]] at k2
        exact k2
      · refine go_step (T' := T177) (g' := (mkF m 205 #[.val (.long v0), .second, .val (.long v1), .second, .val (.int v2), .val (.long (v0 &&& (9223372036854775807 : Int64))), .second, .val (.long (v1 &&& (9223372036854775807 : Int64))), .second, .val (.int (v2 &&& (1 : Int32))), .val (.int ((1 : Int32) - (v2 &&& (1 : Int32)))), .val (.ref b3), .val (.int (z0_63_0 v0 v1 v2)), .val (.int (z0_98_0 v0 v1 v2)), .val (.int (z0_164_0 v0 v1 v2)), .unset] [])) (fun t k => XS.ifNo X178.here hx rfl (hb hby at_202) rfl ((if0 _ _).trans (feq hj180).1) k) ?_
        refine go_step (T' := T177) (g' := (mkF m 207 #[.val (.long v0), .second, .val (.long v1), .second, .val (.int v2), .val (.long (v0 &&& (9223372036854775807 : Int64))), .second, .val (.long (v1 &&& (9223372036854775807 : Int64))), .second, .val (.int (v2 &&& (1 : Int32))), .val (.int ((1 : Int32) - (v2 &&& (1 : Int32)))), .val (.ref b3), .val (.int (z0_63_0 v0 v1 v2)), .val (.int (z0_98_0 v0 v1 v2)), .val (.int (z0_164_0 v0 v1 v2)), .unset] [(.ref b3)])) (fun t k => XS.aload X178.here hx rfl (hb hby at_205) rfl rfl k) ?_
        refine go_step (T' := T177) (g' := (mkF m 209 #[.val (.long v0), .second, .val (.long v1), .second, .val (.int v2), .val (.long (v0 &&& (9223372036854775807 : Int64))), .second, .val (.long (v1 &&& (9223372036854775807 : Int64))), .second, .val (.int (v2 &&& (1 : Int32))), .val (.int ((1 : Int32) - (v2 &&& (1 : Int32)))), .val (.ref b3), .val (.int (z0_63_0 v0 v1 v2)), .val (.int (z0_98_0 v0 v1 v2)), .val (.int (z0_164_0 v0 v1 v2)), .unset] [(.int (v2 &&& (1 : Int32))), (.ref b3)])) (fun t k => XS.iload X178.here hx rfl (hb hby at_207) rfl  k) ?_
        have G181 : Fld Z T162.heap b3 "com/example/thicket/thicket/dense/Sums" "low" "[J" (.ref lo23) := (G161.keep K168 (ninS ne36 (ninS ne39 nin0)))
        refine go_callVP X178 hx hZ (y := (⟨"com/example/thicket/thicket/dense/Sums", "longValue", "(I)J"⟩ : MethodName)) hown (hw _ (List.mem_of_getElem? (i := 25) rfl)) (hw _ (List.mem_of_getElem? (i := 26) rfl)) (hw _ (List.mem_of_getElem? (i := 28) rfl)) (hw _ (List.mem_of_getElem? (i := 27) rfl)) (hw _ (List.mem_of_getElem? (i := 3) rfl)) (hw _ (List.mem_of_getElem? (i := 29) rfl)) (by decide) e179 G176 (mq5 l Z a0 hw b3 (v2 &&& (1 : Int32)) lo23 ((s0_4 v0 v1 v2)) T162.heap 0 (Nat.zero_le _) G181 F173 (own_i v2).1 (by simp only [s0_4, s0_2, s0_3, s0_0, s0_1, own_len3_lo, own_len3_hi, own_len6_lo, own_len6_hi, List.length_cons, List.length_nil]; exact (own_i v2).2)) 0 (by decide) (by decide) (g := (mkF m 209 #[.val (.long v0), .second, .val (.long v1), .second, .val (.int v2), .val (.long (v0 &&& (9223372036854775807 : Int64))), .second, .val (.long (v1 &&& (9223372036854775807 : Int64))), .second, .val (.int (v2 &&& (1 : Int32))), .val (.int ((1 : Int32) - (v2 &&& (1 : Int32)))), .val (.ref b3), .val (.int (z0_63_0 v0 v1 v2)), .val (.int (z0_98_0 v0 v1 v2)), .val (.int (z0_164_0 v0 v1 v2)), .unset] [(.int (v2 &&& (1 : Int32))), (.ref b3)])) rfl (by rw [hml]; rfl) (argsL := [(.int (v2 &&& (1 : Int32)))]) (rest := []) (lenOf pd_3 rfl) rfl (by show 2 * 0 + _ ≤ _; exact Nat.le_of_eq rfl) (hb hby at_209) rfl rfl rfl (by decide) (by decide) (fun T182 X183 e184 => ?_)
        show Go p e below s _ _ _ T182 (mkF m 212 #[.val (.long v0), .second, .val (.long v1), .second, .val (.int v2), .val (.long (v0 &&& (9223372036854775807 : Int64))), .second, .val (.long (v1 &&& (9223372036854775807 : Int64))), .second, .val (.int (v2 &&& (1 : Int32))), .val (.int ((1 : Int32) - (v2 &&& (1 : Int32)))), .val (.ref b3), .val (.int (z0_63_0 v0 v1 v2)), .val (.int (z0_98_0 v0 v1 v2)), .val (.int (z0_164_0 v0 v1 v2)), .unset] [(.long (f5_ret (v2 &&& (1 : Int32)) (s0_4 v0 v1 v2)))])
        refine go_step (T' := T182) (g' := (mkF m 214 #[.val (.long v0), .second, .val (.long v1), .second, .val (.int v2), .val (.long (v0 &&& (9223372036854775807 : Int64))), .second, .val (.long (v1 &&& (9223372036854775807 : Int64))), .second, .val (.int (v2 &&& (1 : Int32))), .val (.int ((1 : Int32) - (v2 &&& (1 : Int32)))), .val (.ref b3), .val (.int (z0_63_0 v0 v1 v2)), .val (.int (z0_98_0 v0 v1 v2)), .val (.int (z0_164_0 v0 v1 v2)), .unset] [(.long (v0 &&& (9223372036854775807 : Int64))), (.long (f5_ret (v2 &&& (1 : Int32)) (s0_4 v0 v1 v2)))])) (fun t k => XS.lload X183.here hx rfl (hb hby at_212) rfl  k) ?_
        refine go_step (T' := T182) (g' := (mkF m 215 #[.val (.long v0), .second, .val (.long v1), .second, .val (.int v2), .val (.long (v0 &&& (9223372036854775807 : Int64))), .second, .val (.long (v1 &&& (9223372036854775807 : Int64))), .second, .val (.int (v2 &&& (1 : Int32))), .val (.int ((1 : Int32) - (v2 &&& (1 : Int32)))), .val (.ref b3), .val (.int (z0_63_0 v0 v1 v2)), .val (.int (z0_98_0 v0 v1 v2)), .val (.int (z0_164_0 v0 v1 v2)), .unset] [(.int (lcmpW (f5_ret (v2 &&& (1 : Int32)) (s0_4 v0 v1 v2)) (v0 &&& (9223372036854775807 : Int64))))])) (fun t k => XS.lcmp X183.here hx rfl (hb hby at_214) rfl k) ?_
        by_cases hj185 : (f5_ret (v2 &&& (1 : Int32)) (s0_4 v0 v1 v2)) = (v0 &&& (9223372036854775807 : Int64))
        · refine go_step (T' := T182) (g' := (mkF m 218 #[.val (.long v0), .second, .val (.long v1), .second, .val (.int v2), .val (.long (v0 &&& (9223372036854775807 : Int64))), .second, .val (.long (v1 &&& (9223372036854775807 : Int64))), .second, .val (.int (v2 &&& (1 : Int32))), .val (.int ((1 : Int32) - (v2 &&& (1 : Int32)))), .val (.ref b3), .val (.int (z0_63_0 v0 v1 v2)), .val (.int (z0_98_0 v0 v1 v2)), .val (.int (z0_164_0 v0 v1 v2)), .unset] [])) (fun t k => XS.ifNo X183.here hx rfl (hb hby at_215) rfl ((if0 _ _).trans (teq ((lw_eq _ _).mpr hj185)).2) k) ?_
          refine go_step (T' := T182) (g' := (mkF m 219 #[.val (.long v0), .second, .val (.long v1), .second, .val (.int v2), .val (.long (v0 &&& (9223372036854775807 : Int64))), .second, .val (.long (v1 &&& (9223372036854775807 : Int64))), .second, .val (.int (v2 &&& (1 : Int32))), .val (.int ((1 : Int32) - (v2 &&& (1 : Int32)))), .val (.ref b3), .val (.int (z0_63_0 v0 v1 v2)), .val (.int (z0_98_0 v0 v1 v2)), .val (.int (z0_164_0 v0 v1 v2)), .unset] [(.int (1 : Int32))])) (fun t k => XS.iconst X183.here hx rfl (hb hby at_218) k) ?_
          refine go_step (T' := T182) (g' := (mkF m 223 #[.val (.long v0), .second, .val (.long v1), .second, .val (.int v2), .val (.long (v0 &&& (9223372036854775807 : Int64))), .second, .val (.long (v1 &&& (9223372036854775807 : Int64))), .second, .val (.int (v2 &&& (1 : Int32))), .val (.int ((1 : Int32) - (v2 &&& (1 : Int32)))), .val (.ref b3), .val (.int (z0_63_0 v0 v1 v2)), .val (.int (z0_98_0 v0 v1 v2)), .val (.int (z0_164_0 v0 v1 v2)), .unset] [(.int (1 : Int32))])) (fun t k => XS.goto X183.here hx rfl (pc0 := 219) (pc' := 223) rfl (hb hby at_219) (by decide) (by decide) k) ?_
          have k2 := kk T182 X183 e184
          rw [show (z0_202_0 v0 v1 v2) = (1 : Int32) by unfold z0_202_0; rw [if_neg hj180]; rw [if_pos hj185]] at k2
          exact k2
        · refine go_step (T' := T182) (g' := (mkF m 222 #[.val (.long v0), .second, .val (.long v1), .second, .val (.int v2), .val (.long (v0 &&& (9223372036854775807 : Int64))), .second, .val (.long (v1 &&& (9223372036854775807 : Int64))), .second, .val (.int (v2 &&& (1 : Int32))), .val (.int ((1 : Int32) - (v2 &&& (1 : Int32)))), .val (.ref b3), .val (.int (z0_63_0 v0 v1 v2)), .val (.int (z0_98_0 v0 v1 v2)), .val (.int (z0_164_0 v0 v1 v2)), .unset] [])) (fun t k => XS.ifYes X183.here hx rfl (pc0 := 215) (pc' := 222) rfl (hb hby at_215) rfl ((if0 _ _).trans (feq (fun q => hj185 ((lw_eq _ _).mp q))).2) (by decide) (by decide) k) ?_
          refine go_step (T' := T182) (g' := (mkF m 223 #[.val (.long v0), .second, .val (.long v1), .second, .val (.int v2), .val (.long (v0 &&& (9223372036854775807 : Int64))), .second, .val (.long (v1 &&& (9223372036854775807 : Int64))), .second, .val (.int (v2 &&& (1 : Int32))), .val (.int ((1 : Int32) - (v2 &&& (1 : Int32)))), .val (.ref b3), .val (.int (z0_63_0 v0 v1 v2)), .val (.int (z0_98_0 v0 v1 v2)), .val (.int (z0_164_0 v0 v1 v2)), .unset] [(.int (0 : Int32))])) (fun t k => XS.iconst X183.here hx rfl (hb hby at_222) k) ?_
          have k2 := kk T182 X183 e184
          rw [show (z0_202_0 v0 v1 v2) = (0 : Int32) by unfold z0_202_0; rw [if_neg hj180]; rw [if_neg hj185]] at k2
          exact k2
    refine go_step (T' := T186) (g' := (mkF m 225 #[.val (.long v0), .second, .val (.long v1), .second, .val (.int v2), .val (.long (v0 &&& (9223372036854775807 : Int64))), .second, .val (.long (v1 &&& (9223372036854775807 : Int64))), .second, .val (.int (v2 &&& (1 : Int32))), .val (.int ((1 : Int32) - (v2 &&& (1 : Int32)))), .val (.ref b3), .val (.int (z0_63_0 v0 v1 v2)), .val (.int (z0_98_0 v0 v1 v2)), .val (.int (z0_164_0 v0 v1 v2)), .val (.int (z0_202_0 v0 v1 v2))] [])) (fun t k => XS.istore X187.here hx rfl (hb hby at_223) rfl (l' := #[.val (.long v0), .second, .val (.long v1), .second, .val (.int v2), .val (.long (v0 &&& (9223372036854775807 : Int64))), .second, .val (.long (v1 &&& (9223372036854775807 : Int64))), .second, .val (.int (v2 &&& (1 : Int32))), .val (.int ((1 : Int32) - (v2 &&& (1 : Int32)))), .val (.ref b3), .val (.int (z0_63_0 v0 v1 v2)), .val (.int (z0_98_0 v0 v1 v2)), .val (.int (z0_164_0 v0 v1 v2)), .val (.int (z0_202_0 v0 v1 v2))]) rfl k) ?_
    refine go_step (T' := T186) (g' := (mkF m 227 #[.val (.long v0), .second, .val (.long v1), .second, .val (.int v2), .val (.long (v0 &&& (9223372036854775807 : Int64))), .second, .val (.long (v1 &&& (9223372036854775807 : Int64))), .second, .val (.int (v2 &&& (1 : Int32))), .val (.int ((1 : Int32) - (v2 &&& (1 : Int32)))), .val (.ref b3), .val (.int (z0_63_0 v0 v1 v2)), .val (.int (z0_98_0 v0 v1 v2)), .val (.int (z0_164_0 v0 v1 v2)), .val (.int (z0_202_0 v0 v1 v2))] [(.int (z0_98_0 v0 v1 v2))])) (fun t k => XS.iload X187.here hx rfl (hb hby at_225) rfl  k) ?_
    refine go_join X187 (h := T162.heap) (g' := (mkF m 245 #[.val (.long v0), .second, .val (.long v1), .second, .val (.int v2), .val (.long (v0 &&& (9223372036854775807 : Int64))), .second, .val (.long (v1 &&& (9223372036854775807 : Int64))), .second, .val (.int (v2 &&& (1 : Int32))), .val (.int ((1 : Int32) - (v2 &&& (1 : Int32)))), .val (.ref b3), .val (.int (z0_63_0 v0 v1 v2)), .val (.int (z0_98_0 v0 v1 v2)), .val (.int (z0_164_0 v0 v1 v2)), .val (.int (z0_202_0 v0 v1 v2))] [(.int (z0_227_1 v0 v1 v2))])) (fun kk => ?_) (fun T192 X193 e194 => ?_)
    · by_cases hj189 : (z0_98_0 v0 v1 v2) = (0 : Int32)
      · refine go_step (T' := T186) (g' := (mkF m 244 #[.val (.long v0), .second, .val (.long v1), .second, .val (.int v2), .val (.long (v0 &&& (9223372036854775807 : Int64))), .second, .val (.long (v1 &&& (9223372036854775807 : Int64))), .second, .val (.int (v2 &&& (1 : Int32))), .val (.int ((1 : Int32) - (v2 &&& (1 : Int32)))), .val (.ref b3), .val (.int (z0_63_0 v0 v1 v2)), .val (.int (z0_98_0 v0 v1 v2)), .val (.int (z0_164_0 v0 v1 v2)), .val (.int (z0_202_0 v0 v1 v2))] [])) (fun t k => XS.ifYes X187.here hx rfl (pc0 := 227) (pc' := 244) rfl (hb hby at_227) rfl ((if0 _ _).trans (teq hj189).1) (by decide) (by decide) k) ?_
        refine go_step (T' := T186) (g' := (mkF m 245 #[.val (.long v0), .second, .val (.long v1), .second, .val (.int v2), .val (.long (v0 &&& (9223372036854775807 : Int64))), .second, .val (.long (v1 &&& (9223372036854775807 : Int64))), .second, .val (.int (v2 &&& (1 : Int32))), .val (.int ((1 : Int32) - (v2 &&& (1 : Int32)))), .val (.ref b3), .val (.int (z0_63_0 v0 v1 v2)), .val (.int (z0_98_0 v0 v1 v2)), .val (.int (z0_164_0 v0 v1 v2)), .val (.int (z0_202_0 v0 v1 v2))] [(.int (0 : Int32))])) (fun t k => XS.iconst X187.here hx rfl (hb hby at_244) k) ?_
        have k2 := kk T186 X187 e188
        rw [show (z0_227_1 v0 v1 v2) = (0 : Int32) by unfold z0_227_1; rw [if_pos hj189]] at k2
        exact k2
      · refine go_step (T' := T186) (g' := (mkF m 230 #[.val (.long v0), .second, .val (.long v1), .second, .val (.int v2), .val (.long (v0 &&& (9223372036854775807 : Int64))), .second, .val (.long (v1 &&& (9223372036854775807 : Int64))), .second, .val (.int (v2 &&& (1 : Int32))), .val (.int ((1 : Int32) - (v2 &&& (1 : Int32)))), .val (.ref b3), .val (.int (z0_63_0 v0 v1 v2)), .val (.int (z0_98_0 v0 v1 v2)), .val (.int (z0_164_0 v0 v1 v2)), .val (.int (z0_202_0 v0 v1 v2))] [])) (fun t k => XS.ifNo X187.here hx rfl (hb hby at_227) rfl ((if0 _ _).trans (feq hj189).1) k) ?_
        refine go_step (T' := T186) (g' := (mkF m 232 #[.val (.long v0), .second, .val (.long v1), .second, .val (.int v2), .val (.long (v0 &&& (9223372036854775807 : Int64))), .second, .val (.long (v1 &&& (9223372036854775807 : Int64))), .second, .val (.int (v2 &&& (1 : Int32))), .val (.int ((1 : Int32) - (v2 &&& (1 : Int32)))), .val (.ref b3), .val (.int (z0_63_0 v0 v1 v2)), .val (.int (z0_98_0 v0 v1 v2)), .val (.int (z0_164_0 v0 v1 v2)), .val (.int (z0_202_0 v0 v1 v2))] [(.int (z0_164_0 v0 v1 v2))])) (fun t k => XS.iload X187.here hx rfl (hb hby at_230) rfl  k) ?_
        by_cases hj190 : (z0_164_0 v0 v1 v2) = (0 : Int32)
        · refine go_step (T' := T186) (g' := (mkF m 244 #[.val (.long v0), .second, .val (.long v1), .second, .val (.int v2), .val (.long (v0 &&& (9223372036854775807 : Int64))), .second, .val (.long (v1 &&& (9223372036854775807 : Int64))), .second, .val (.int (v2 &&& (1 : Int32))), .val (.int ((1 : Int32) - (v2 &&& (1 : Int32)))), .val (.ref b3), .val (.int (z0_63_0 v0 v1 v2)), .val (.int (z0_98_0 v0 v1 v2)), .val (.int (z0_164_0 v0 v1 v2)), .val (.int (z0_202_0 v0 v1 v2))] [])) (fun t k => XS.ifYes X187.here hx rfl (pc0 := 232) (pc' := 244) rfl (hb hby at_232) rfl ((if0 _ _).trans (teq hj190).1) (by decide) (by decide) k) ?_
          refine go_step (T' := T186) (g' := (mkF m 245 #[.val (.long v0), .second, .val (.long v1), .second, .val (.int v2), .val (.long (v0 &&& (9223372036854775807 : Int64))), .second, .val (.long (v1 &&& (9223372036854775807 : Int64))), .second, .val (.int (v2 &&& (1 : Int32))), .val (.int ((1 : Int32) - (v2 &&& (1 : Int32)))), .val (.ref b3), .val (.int (z0_63_0 v0 v1 v2)), .val (.int (z0_98_0 v0 v1 v2)), .val (.int (z0_164_0 v0 v1 v2)), .val (.int (z0_202_0 v0 v1 v2))] [(.int (0 : Int32))])) (fun t k => XS.iconst X187.here hx rfl (hb hby at_244) k) ?_
          have k2 := kk T186 X187 e188
          rw [show (z0_227_1 v0 v1 v2) = (0 : Int32) by unfold z0_227_1; rw [if_neg hj189]; rw [if_pos hj190]] at k2
          exact k2
        · refine go_step (T' := T186) (g' := (mkF m 235 #[.val (.long v0), .second, .val (.long v1), .second, .val (.int v2), .val (.long (v0 &&& (9223372036854775807 : Int64))), .second, .val (.long (v1 &&& (9223372036854775807 : Int64))), .second, .val (.int (v2 &&& (1 : Int32))), .val (.int ((1 : Int32) - (v2 &&& (1 : Int32)))), .val (.ref b3), .val (.int (z0_63_0 v0 v1 v2)), .val (.int (z0_98_0 v0 v1 v2)), .val (.int (z0_164_0 v0 v1 v2)), .val (.int (z0_202_0 v0 v1 v2))] [])) (fun t k => XS.ifNo X187.here hx rfl (hb hby at_232) rfl ((if0 _ _).trans (feq hj190).1) k) ?_
          refine go_step (T' := T186) (g' := (mkF m 237 #[.val (.long v0), .second, .val (.long v1), .second, .val (.int v2), .val (.long (v0 &&& (9223372036854775807 : Int64))), .second, .val (.long (v1 &&& (9223372036854775807 : Int64))), .second, .val (.int (v2 &&& (1 : Int32))), .val (.int ((1 : Int32) - (v2 &&& (1 : Int32)))), .val (.ref b3), .val (.int (z0_63_0 v0 v1 v2)), .val (.int (z0_98_0 v0 v1 v2)), .val (.int (z0_164_0 v0 v1 v2)), .val (.int (z0_202_0 v0 v1 v2))] [(.int (z0_202_0 v0 v1 v2))])) (fun t k => XS.iload X187.here hx rfl (hb hby at_235) rfl  k) ?_
          by_cases hj191 : (z0_202_0 v0 v1 v2) = (0 : Int32)
          · refine go_step (T' := T186) (g' := (mkF m 244 #[.val (.long v0), .second, .val (.long v1), .second, .val (.int v2), .val (.long (v0 &&& (9223372036854775807 : Int64))), .second, .val (.long (v1 &&& (9223372036854775807 : Int64))), .second, .val (.int (v2 &&& (1 : Int32))), .val (.int ((1 : Int32) - (v2 &&& (1 : Int32)))), .val (.ref b3), .val (.int (z0_63_0 v0 v1 v2)), .val (.int (z0_98_0 v0 v1 v2)), .val (.int (z0_164_0 v0 v1 v2)), .val (.int (z0_202_0 v0 v1 v2))] [])) (fun t k => XS.ifYes X187.here hx rfl (pc0 := 237) (pc' := 244) rfl (hb hby at_237) rfl ((if0 _ _).trans (teq hj191).1) (by decide) (by decide) k) ?_
            refine go_step (T' := T186) (g' := (mkF m 245 #[.val (.long v0), .second, .val (.long v1), .second, .val (.int v2), .val (.long (v0 &&& (9223372036854775807 : Int64))), .second, .val (.long (v1 &&& (9223372036854775807 : Int64))), .second, .val (.int (v2 &&& (1 : Int32))), .val (.int ((1 : Int32) - (v2 &&& (1 : Int32)))), .val (.ref b3), .val (.int (z0_63_0 v0 v1 v2)), .val (.int (z0_98_0 v0 v1 v2)), .val (.int (z0_164_0 v0 v1 v2)), .val (.int (z0_202_0 v0 v1 v2))] [(.int (0 : Int32))])) (fun t k => XS.iconst X187.here hx rfl (hb hby at_244) k) ?_
            have k2 := kk T186 X187 e188
            rw [show (z0_227_1 v0 v1 v2) = (0 : Int32) by unfold z0_227_1; rw [if_neg hj189]; rw [if_neg hj190]; rw [if_pos hj191]] at k2
            exact k2
          · refine go_step (T' := T186) (g' := (mkF m 240 #[.val (.long v0), .second, .val (.long v1), .second, .val (.int v2), .val (.long (v0 &&& (9223372036854775807 : Int64))), .second, .val (.long (v1 &&& (9223372036854775807 : Int64))), .second, .val (.int (v2 &&& (1 : Int32))), .val (.int ((1 : Int32) - (v2 &&& (1 : Int32)))), .val (.ref b3), .val (.int (z0_63_0 v0 v1 v2)), .val (.int (z0_98_0 v0 v1 v2)), .val (.int (z0_164_0 v0 v1 v2)), .val (.int (z0_202_0 v0 v1 v2))] [])) (fun t k => XS.ifNo X187.here hx rfl (hb hby at_237) rfl ((if0 _ _).trans (feq hj191).1) k) ?_
            refine go_step (T' := T186) (g' := (mkF m 241 #[.val (.long v0), .second, .val (.long v1), .second, .val (.int v2), .val (.long (v0 &&& (9223372036854775807 : Int64))), .second, .val (.long (v1 &&& (9223372036854775807 : Int64))), .second, .val (.int (v2 &&& (1 : Int32))), .val (.int ((1 : Int32) - (v2 &&& (1 : Int32)))), .val (.ref b3), .val (.int (z0_63_0 v0 v1 v2)), .val (.int (z0_98_0 v0 v1 v2)), .val (.int (z0_164_0 v0 v1 v2)), .val (.int (z0_202_0 v0 v1 v2))] [(.int (1 : Int32))])) (fun t k => XS.iconst X187.here hx rfl (hb hby at_240) k) ?_
            refine go_step (T' := T186) (g' := (mkF m 245 #[.val (.long v0), .second, .val (.long v1), .second, .val (.int v2), .val (.long (v0 &&& (9223372036854775807 : Int64))), .second, .val (.long (v1 &&& (9223372036854775807 : Int64))), .second, .val (.int (v2 &&& (1 : Int32))), .val (.int ((1 : Int32) - (v2 &&& (1 : Int32)))), .val (.ref b3), .val (.int (z0_63_0 v0 v1 v2)), .val (.int (z0_98_0 v0 v1 v2)), .val (.int (z0_164_0 v0 v1 v2)), .val (.int (z0_202_0 v0 v1 v2))] [(.int (1 : Int32))])) (fun t k => XS.goto X187.here hx rfl (pc0 := 241) (pc' := 245) rfl (hb hby at_241) (by decide) (by decide) k) ?_
            have k2 := kk T186 X187 e188
            rw [show (z0_227_1 v0 v1 v2) = (1 : Int32) by unfold z0_227_1; rw [if_neg hj189]; rw [if_neg hj190]; rw [if_neg hj191]] at k2
            exact k2
    exact go_retZ X193 hx hlk hret (hb hby at_245) e194 ⟨(by unfold f0_ret; first | (rw [if_neg hc74]; done) | (rw [if_neg hc74]; rfl)), N171⟩ (by decide) (by decide)
/-! the plain law: what two additions and a subtraction leave -/
theorem own_max (x : Int64) : (x &&& (9223372036854775807 : Int64)).toInt = x.toInt % 9223372036854775808 := by
  have h := c_maskL x (9223372036854775807 : Int64) 63 (by decide) (by decide)
  rw [h]; rfl
theorem own_a0 (v p q r s : Int64) : f3_lo 0 v [p, q] [r, s] = (if p + v < (0 : Int64) then [(p + v) &&& (9223372036854775807 : Int64), q] else [p + v, q]) ∧ f3_hi 0 v [p, q] [r, s] = (if p + v < (0 : Int64) then [r + 1, s] else [r, s]) := ⟨rfl, rfl⟩
theorem own_a1 (v p q r s : Int64) : f3_lo 1 v [q, p] [s, r] = (if p + v < (0 : Int64) then [q, (p + v) &&& (9223372036854775807 : Int64)] else [q, p + v]) ∧ f3_hi 1 v [q, p] [s, r] = (if p + v < (0 : Int64) then [s, r + 1] else [s, r]) := ⟨rfl, rfl⟩
theorem own_s0 (v p q r s : Int64) : f6_lo 0 v [p, q] [r, s] = (if p - v < (0 : Int64) then [(p - v) &&& (9223372036854775807 : Int64), q] else [p - v, q]) ∧ f6_hi 0 v [p, q] [r, s] = (if p - v < (0 : Int64) then [r - 1, s] else [r, s]) := ⟨rfl, rfl⟩
theorem own_s1 (v p q r s : Int64) : f6_lo 1 v [q, p] [s, r] = (if p - v < (0 : Int64) then [q, (p - v) &&& (9223372036854775807 : Int64)] else [q, p - v]) ∧ f6_hi 1 v [q, p] [s, r] = (if p - v < (0 : Int64) then [s, r - 1] else [s, r]) := ⟨rfl, rfl⟩
theorem own_l0 (p q : Int64) : f4_ret 0 [p, q] = (if p = 0 then 1 else 0) ∧ f5_ret 0 [p, q] = p := by
  constructor
  · show ((if p = 0 then (1 : Int32) else 0) &&& 1) = _
    split <;> rfl
  · rfl
theorem own_l1 (p q : Int64) : f4_ret 1 [q, p] = (if p = 0 then 1 else 0) ∧ f5_ret 1 [q, p] = p := by
  constructor
  · show ((if p = 0 then (1 : Int32) else 0) &&& 1) = _
    split <;> rfl
  · rfl
theorem own_over (M a b : Int64) (hM : M.toInt = 9223372036854775807) (mask : ∀ x : Int64, (x &&& M).toInt = x.toInt % 9223372036854775808) (ha : 0 ≤ a.toInt) (hb : 0 ≤ b.toInt) (ov : M - b < a) :
    a + b < (0 : Int64) ∧ (a + b) &&& M = (a - (M - b)) - (1 : Int64) ∧ ((a + b) &&& M) - b < (0 : Int64) ∧ (((a + b) &&& M) - b) &&& M = a := by
  have k0 : (0 : Int64).toInt = 0 := by decide
  have k1 : (1 : Int64).toInt = 1 := by decide
  have ra := rng64 a
  have rb := rng64 b
  have q := c_ladd a b
  have rs := rng64 (a + b)
  have hm : (M - b).toInt = 9223372036854775807 - b.toInt := by have q := c_lsub M b; rw [hM] at q; have := rng64 (M - b); omega
  rw [Int64.lt_iff_toInt_lt, hm] at ov
  have hs : (a + b).toInt = a.toInt + b.toInt - 18446744073709551616 := by omega
  have hr := mask (a + b)
  have hr' : ((a + b) &&& M).toInt = a.toInt + b.toInt - 9223372036854775808 := by omega
  have hd : (((a + b) &&& M) - b).toInt = a.toInt - 9223372036854775808 := by
    have q2 := c_lsub ((a + b) &&& M) b; have r2 := rng64 (((a + b) &&& M) - b); omega
  refine ⟨by rw [Int64.lt_iff_toInt_lt]; omega, ?_, by rw [Int64.lt_iff_toInt_lt]; omega, ?_⟩
  · apply Int64.toInt_inj.mp
    have h2 : (a - (M - b)).toInt = a.toInt - (M - b).toInt := by have q2 := c_lsub a (M - b); have r2 := rng64 (a - (M - b)); omega
    have h3 : ((a - (M - b)) - (1 : Int64)).toInt = (a - (M - b)).toInt - 1 := by have q3 := c_lsub (a - (M - b)) (1 : Int64); rw [k1] at q3; have r3 := rng64 ((a - (M - b)) - (1 : Int64)); omega
    omega
  · apply Int64.toInt_inj.mp
    rw [mask]; omega
theorem own_under (M a b : Int64) (hM : M.toInt = 9223372036854775807) (ha : 0 ≤ a.toInt) (hb : 0 ≤ b.toInt) (ov : ¬ M - b < a) :
    ¬ a + b < (0 : Int64) ∧ a + b - b = a ∧ ¬ a + b - b < (0 : Int64) := by
  have k0 : (0 : Int64).toInt = 0 := by decide
  have ra := rng64 a
  have rb := rng64 b
  have q := c_ladd a b
  have rs := rng64 (a + b)
  have hm : (M - b).toInt = 9223372036854775807 - b.toInt := by have q := c_lsub M b; rw [hM] at q; have := rng64 (M - b); omega
  rw [Int64.lt_iff_toInt_lt, hm] at ov
  have hs : (a + b).toInt = a.toInt + b.toInt := by omega
  have hback : a + b - b = a := by
    apply Int64.toInt_inj.mp
    have q2 := c_lsub (a + b) b; have r2 := rng64 (a + b - b); omega
  exact ⟨by rw [Int64.lt_iff_toInt_lt]; omega, hback, by rw [hback, Int64.lt_iff_toInt_lt]; omega⟩
theorem plain_law (x y : Int64) (fl : Int32) : f0_ret x y fl = 1 := by
  have k0 : (0 : Int64).toInt = 0 := by decide
  have k1 : (1 : Int64).toInt = 1 := by decide
  have km : (9223372036854775807 : Int64).toInt = 9223372036854775807 := by decide
  have n10 : ¬ (1 : Int32) = 0 := by decide
  have ha := own_max x
  have hb := own_max y
  obtain ⟨a, ea⟩ : ∃ a, a = x &&& (9223372036854775807 : Int64) := ⟨_, rfl⟩
  obtain ⟨b, eb⟩ : ∃ b, b = y &&& (9223372036854775807 : Int64) := ⟨_, rfl⟩
  rw [← ea] at ha
  rw [← eb] at hb
  have hna : ¬ (0 : Int64) + a < (0 : Int64) := by rw [Int64.zero_add, Int64.lt_iff_toInt_lt, k0]; omega
  have pa : 0 ≤ a.toInt := by omega
  have pb : 0 ≤ b.toInt := by omega
  by_cases ov : ((9223372036854775807 : Int64) - b) < a
  · obtain ⟨hneg, he, hd0, hback⟩ := own_over (9223372036854775807 : Int64) a b km own_max pa pb ov
    have hz : z0_63_0 x y fl = 1 := by unfold z0_63_0; rw [← ea, ← eb, if_pos ov]
    rcases own_ij fl with ⟨h0, h1⟩ | ⟨h0, h1⟩
    · have e0 : s0_0 x y fl = [a, 0] := by unfold s0_0; rw [h0, ← ea, (own_a0 _ _ _ _ _).1, if_neg hna, Int64.zero_add]
      have e1 : s0_1 x y fl = [0, 0] := by unfold s0_1; rw [h0, ← ea, (own_a0 _ _ _ _ _).2, if_neg hna]
      have e2 : s0_2 x y fl = [(a + b) &&& (9223372036854775807 : Int64), 0] := by unfold s0_2; rw [h0, ← eb, e0, e1, (own_a0 _ _ _ _ _).1, if_pos hneg]
      have e3 : s0_3 x y fl = [1, 0] := by unfold s0_3; rw [h0, ← eb, e0, e1, (own_a0 _ _ _ _ _).2, if_pos hneg]; rfl
      have e4 : s0_4 x y fl = [a, 0] := by unfold s0_4; rw [h0, ← eb, e2, e3, (own_s0 _ _ _ _ _).1, if_pos hd0, hback]
      have e5 : s0_5 x y fl = [0, 0] := by unfold s0_5; rw [h0, ← eb, e2, e3, (own_s0 _ _ _ _ _).2, if_pos hd0]; rfl
      have z1 : z0_98_0 x y fl = 1 := by unfold z0_98_0 s0_6; rw [h0, e2, e3, ← ea, ← eb, (own_l0 _ _).1, (own_l0 _ _).2, if_neg (by decide : ¬ (1 : Int64) = 0), if_pos rfl, if_pos he]
      have z2 : z0_164_0 x y fl = 1 := by unfold z0_164_0; rw [h1, e2, e3, (own_l1 _ _).1, (own_l1 _ _).2]; rfl
      have z3 : z0_202_0 x y fl = 1 := by unfold z0_202_0; rw [h0, e4, e5, ← ea, (own_l0 _ _).1, (own_l0 _ _).2, if_pos rfl, if_neg n10, if_pos rfl]
      unfold f0_ret; rw [hz, if_neg n10]; unfold z0_227_1; rw [z1, z2, z3]; rfl
    · have e0 : s0_0 x y fl = [0, a] := by unfold s0_0; rw [h0, ← ea, (own_a1 _ _ _ _ _).1, if_neg hna, Int64.zero_add]
      have e1 : s0_1 x y fl = [0, 0] := by unfold s0_1; rw [h0, ← ea, (own_a1 _ _ _ _ _).2, if_neg hna]
      have e2 : s0_2 x y fl = [0, (a + b) &&& (9223372036854775807 : Int64)] := by unfold s0_2; rw [h0, ← eb, e0, e1, (own_a1 _ _ _ _ _).1, if_pos hneg]
      have e3 : s0_3 x y fl = [0, 1] := by unfold s0_3; rw [h0, ← eb, e0, e1, (own_a1 _ _ _ _ _).2, if_pos hneg]; rfl
      have e4 : s0_4 x y fl = [0, a] := by unfold s0_4; rw [h0, ← eb, e2, e3, (own_s1 _ _ _ _ _).1, if_pos hd0, hback]
      have e5 : s0_5 x y fl = [0, 0] := by unfold s0_5; rw [h0, ← eb, e2, e3, (own_s1 _ _ _ _ _).2, if_pos hd0]; rfl
      have z1 : z0_98_0 x y fl = 1 := by unfold z0_98_0 s0_6; rw [h0, e2, e3, ← ea, ← eb, (own_l1 _ _).1, (own_l1 _ _).2, if_neg (by decide : ¬ (1 : Int64) = 0), if_pos rfl, if_pos he]
      have z2 : z0_164_0 x y fl = 1 := by unfold z0_164_0; rw [h1, e2, e3, (own_l0 _ _).1, (own_l0 _ _).2]; rfl
      have z3 : z0_202_0 x y fl = 1 := by unfold z0_202_0; rw [h0, e4, e5, ← ea, (own_l1 _ _).1, (own_l1 _ _).2, if_pos rfl, if_neg n10, if_pos rfl]
      unfold f0_ret; rw [hz, if_neg n10]; unfold z0_227_1; rw [z1, z2, z3]; rfl
  · obtain ⟨hneg, hback, hd0⟩ := own_under (9223372036854775807 : Int64) a b km pa pb ov
    have hz : z0_63_0 x y fl = 0 := by unfold z0_63_0; rw [← ea, ← eb, if_neg ov]
    rcases own_ij fl with ⟨h0, h1⟩ | ⟨h0, h1⟩
    · have e0 : s0_0 x y fl = [a, 0] := by unfold s0_0; rw [h0, ← ea, (own_a0 _ _ _ _ _).1, if_neg hna, Int64.zero_add]
      have e1 : s0_1 x y fl = [0, 0] := by unfold s0_1; rw [h0, ← ea, (own_a0 _ _ _ _ _).2, if_neg hna]
      have e2 : s0_2 x y fl = [a + b, 0] := by unfold s0_2; rw [h0, ← eb, e0, e1, (own_a0 _ _ _ _ _).1, if_neg hneg]
      have e3 : s0_3 x y fl = [0, 0] := by unfold s0_3; rw [h0, ← eb, e0, e1, (own_a0 _ _ _ _ _).2, if_neg hneg]
      have e4 : s0_4 x y fl = [a, 0] := by unfold s0_4; rw [h0, ← eb, e2, e3, (own_s0 _ _ _ _ _).1, if_neg hd0, hback]
      have e5 : s0_5 x y fl = [0, 0] := by unfold s0_5; rw [h0, ← eb, e2, e3, (own_s0 _ _ _ _ _).2, if_neg hd0]
      have z1 : z0_131_0 x y fl = 1 := by unfold z0_131_0; rw [h0, e2, e3, ← ea, ← eb, (own_l0 _ _).1, (own_l0 _ _).2, if_pos rfl, if_neg n10, if_pos rfl]
      have z2 : z0_164_0 x y fl = 1 := by unfold z0_164_0; rw [h1, e2, e3, (own_l1 _ _).1, (own_l1 _ _).2]; rfl
      have z3 : z0_202_0 x y fl = 1 := by unfold z0_202_0; rw [h0, e4, e5, ← ea, (own_l0 _ _).1, (own_l0 _ _).2, if_pos rfl, if_neg n10, if_pos rfl]
      unfold f0_ret; rw [hz, if_pos rfl]; unfold z0_227_0; rw [z1, z2, z3]; rfl
    · have e0 : s0_0 x y fl = [0, a] := by unfold s0_0; rw [h0, ← ea, (own_a1 _ _ _ _ _).1, if_neg hna, Int64.zero_add]
      have e1 : s0_1 x y fl = [0, 0] := by unfold s0_1; rw [h0, ← ea, (own_a1 _ _ _ _ _).2, if_neg hna]
      have e2 : s0_2 x y fl = [0, a + b] := by unfold s0_2; rw [h0, ← eb, e0, e1, (own_a1 _ _ _ _ _).1, if_neg hneg]
      have e3 : s0_3 x y fl = [0, 0] := by unfold s0_3; rw [h0, ← eb, e0, e1, (own_a1 _ _ _ _ _).2, if_neg hneg]
      have e4 : s0_4 x y fl = [0, a] := by unfold s0_4; rw [h0, ← eb, e2, e3, (own_s1 _ _ _ _ _).1, if_neg hd0, hback]
      have e5 : s0_5 x y fl = [0, 0] := by unfold s0_5; rw [h0, ← eb, e2, e3, (own_s1 _ _ _ _ _).2, if_neg hd0]
      have z1 : z0_131_0 x y fl = 1 := by unfold z0_131_0; rw [h0, e2, e3, ← ea, ← eb, (own_l1 _ _).1, (own_l1 _ _).2, if_pos rfl, if_neg n10, if_pos rfl]
      have z2 : z0_164_0 x y fl = 1 := by unfold z0_164_0; rw [h1, e2, e3, (own_l0 _ _).1, (own_l0 _ _).2]; rfl
      have z3 : z0_202_0 x y fl = 1 := by unfold z0_202_0; rw [h0, e4, e5, ← ea, (own_l1 _ _).1, (own_l1 _ _).2, if_pos rfl, if_neg n10, if_pos rfl]
      unfold f0_ret; rw [hz, if_pos rfl]; unfold z0_227_0; rw [z1, z2, z3]; rfl

set_option maxRecDepth 65536 in
set_option maxHeartbeats 40000000 in
theorem comes_1 {Post : Tables → Env → Array Value → State → Outcome → State → Prop} (hpost : ∀ tb e args s v u, (limb_1_1.after args s (.returned v) u = true ∧ limb_1_2.after args s (.returned v) u = true ∧ True) → FrameEnd s (.returned v) u (Jvm.fieldLocs frame_1_writes args s ++ Jvm.arrayLocs frame_1_arrays args s ++ Jvm.staticLocs frame_1_statics s) 16 128 → Post tb e args s (.returned v) u) :
    ArmFor flags0 classFile x code maxLocals ret World_1 tables_1 room_1 Calls_1 rest_1 Pre_1 Post := by
  intro l hfl _ _ p e ha hc hk s m args below hf hA hF happ hP
  obtain ⟨hcalls, hrest, hpre⟩ := hP
  obtain ⟨-, -, -, hnamed, -, -, -, hat⟩ := (Spec.applies_iff hf).mp happ
  obtain ⟨hg, hn⟩ := and_e (Cond.before_iff.mp (show (Jvm.Cond.and given_1 narrow_1).before args s = true from hpre))
  obtain ⟨hcount, hg0⟩ := and_e hg
  obtain ⟨ga0, hg1⟩ := and_e hg0
  obtain ⟨ga1, hg2⟩ := and_e hg1
  have ga2 := hg2
  obtain ⟨w0, w1, w2, rfl⟩ : ∃ w0 w1 w2 : Value, args = #[w0, w1, w2] := by
    have hs : args.size = 3 := by simpa [Cond.value, given_1] using hcount
    obtain ⟨L⟩ := args
    match L, hs with
    | [w0, w1, w2], _ => exact ⟨w0, w1, w2, rfl⟩
  have hw := fun d (hd : d ∈ tables_1) => atoms_spec (ws := Jvm.Cond.code x code maxLocals ret :: tables_1) hat d (List.mem_cons_of_mem _ hd)
  obtain ⟨i0, ei0⟩ := isL_v ga0
  obtain rfl : w0 = (.long i0) := Option.some.inj ei0
  obtain ⟨i1, ei1⟩ := isL_v ga1
  obtain rfl : w1 = (.long i1) := Option.some.inj ei1
  obtain ⟨i2, ei2⟩ := is_v ga2
  obtain rfl : w2 = (.int i2) := Option.some.inj ei2
  obtain ⟨n, o, h1, h2, h3, _, L, rfl, ⟨rfl, N⟩, hq⟩ := mq0 l s _ hw tables_1 i0 i1 i2 s.heap s.heap.size (Nat.le_refl _) p e ha hc hk s m _ below hf ((Spec.applies_iff_loose hf).mp happ).1 ⟨rfl, State.Warmed39.refl s, rfl⟩ trivial
  rw [plain_law] at h3 hq
  refine ⟨n, _, h1, h2, h3, hpost _ _ _ _ _ _ ⟨Cond.after_iff.mpr rfl, Cond.after_iff.mpr (eq_i res_at (Term.int_eval (1)) rfl), trivial⟩ ⟨hq.1, hq.2.1, (hq.2.2.sift fun y hy => Or.inr (N y hy)).mono (by decide) (by decide)⟩⟩
theorem main_1_1 : Claimed_1_1 := comes_1 fun _ _ _ _ _ _ h hF => ⟨h.1, hF⟩
theorem main_1_2 : Claimed_1_2 := comes_1 fun _ _ _ _ _ _ h hF => ⟨h.2.1, hF⟩
end Jvm.Pilot.@@N@@
namespace Jvm.Pilot.@@N@@
open Jvm Jvm.ClassFile Sem Op Lib Jvm.Free Jvm.Stand Jvm.Pilot.@@N@@.Jvm.D
/-! MADE BY PROGRAM (witnessworld.py) out of the Statement's table words and the real class files: 11 classes; the members and pool entries that the words name. The judged class is class 1, her method 1. -/
namespace start1
open Jvm.ClassFile
def u (s : String) : CpInfo := .utf8 (stringToUtf16 s)
/-- a pool by its gaps: so many unusable entries, then the entry; so many at the end -/
def gap : Nat → List CpInfo → List CpInfo
  | 0, r => r
  | n + 1, r => .unusable :: gap n r
def poolList (es : List (Nat × CpInfo)) (last : Nat) : List CpInfo := es.foldr (fun e r => gap e.1 (e.2 :: r)) (gap last [])
def pool (es : List (Nat × CpInfo)) (last : Nat) : Array CpInfo := ⟨poolList es last⟩
def fileOf (pool : Array CpInfo) (this : Nat) (attrs : Array Attribute := #[]) (ms : Array MethodInfo := #[]) (fl : Nat := 33) (sup : Nat := 0) (ifs : Array Nat := #[]) (fds : Array FieldInfo := #[]) : ClassFile where
  minorVersion := 0
  majorVersion := 65
  constantPool := pool
  accessFlags := fl
  thisClass := this
  superClass := sup
  interfaces := ifs
  fields := fds
  methods := ms
  attributes := attrs
def plain (name : String) (sup : Option ClassId) : Class where
  name := name
  kind := .ordinary
  loader := none
  accessFlags := 33
  super := sup
  interfaces := #[]
  cf := none
  fields := #[]
  methods := #[]
  instanceTypes := #[]
  staticTypes := #[]
  resolved := #[]
  callSites := []
  init := .initialized
  statics := none
  mirror := none

def pool0 : Array CpInfo := pool [(5, u "<init>"), (0, u "()V"), (1, .class_ 10), (1, u "java/lang/Object")] 113

def k0c0 : Code := { maxStack := 0, maxLocals := 1, code := object_method_1_code, exceptionTable := #[], attributes := #[] }
def k0m0 : Method := { name := "<init>", desc := "()V", sig := { parameters := [], returnType := none }, accessFlags := 1, code := some k0c0 }
/-- java/lang/Object -/
def k0 : Class := { plain "java/lang/Object" none with
  accessFlags := 33
  interfaces := #[]
  cf := some (fileOf pool0 8 #[] #[{ accessFlags := 1, nameIndex := 5, descriptorIndex := 6, attributes := #[] }] 33 0 #[] #[])
  fields := #[]
  methods := #[k0m0]
  instanceTypes := #[]
  staticTypes := #[]
  resolved := Array.replicate 124 none
  statics := none }

def pool1 : Array CpInfo := pool [(2, .class_ 4), (1, u "java/lang/Object"), (0, u "<init>"), (0, u "()V"), (2, .long 9223372036854775807), (1, .class_ 12), (0, u "com/example/thicket/thicket/dense/Sums"), (0, .methodref 11 14), (0, .nameAndType 5 15), (0, u "(I)V"), (0, .methodref 11 17), (0, .nameAndType 18 19), (0, u "add"), (0, u "(IJ)V"), (0, .methodref 11 21), (0, .nameAndType 22 23), (0, u "isLong"), (0, u "(I)Z"), (0, .methodref 11 25), (0, .nameAndType 26 27), (0, u "longValue"), (0, u "(I)J"), (0, .methodref 11 29), (0, .nameAndType 30 19), (0, u "subtract"), (0, .class_ 32), (0, u "com/example/thicket/thicket/dense/SumsAddPinLaw"), (2, u "law"), (0, u "(JJI)Z")] 3

def k1m0 : Method := { name := "<init>", desc := "()V", sig := { parameters := [], returnType := none }, accessFlags := 1, code := none }
def k1c1 : Code := { maxStack := 6, maxLocals := 16, code := code, exceptionTable := #[], attributes := #[] }
def k1m1 : Method := { name := "law", desc := "(JJI)Z", sig := { parameters := [.long, .long, .int], returnType := some .boolean }, accessFlags := 9, code := some k1c1 }
/-- com/example/thicket/thicket/dense/SumsAddPinLaw -/
def k1 : Class := { plain "com/example/thicket/thicket/dense/SumsAddPinLaw" (some 0) with
  accessFlags := 49
  interfaces := #[]
  cf := some (fileOf pool1 31 #[] #[{ accessFlags := 1, nameIndex := 5, descriptorIndex := 6, attributes := #[] }, { accessFlags := 9, nameIndex := 35, descriptorIndex := 36, attributes := #[] }] 49 2 #[] #[])
  fields := #[]
  methods := #[k1m0, k1m1]
  instanceTypes := #[]
  staticTypes := #[]
  resolved := Array.replicate 40 none
  statics := none }

def pool2 : Array CpInfo := pool [(1, .methodref 2 3), (0, .class_ 4), (0, .nameAndType 5 6), (0, u "java/lang/Object"), (0, u "<init>"), (0, u "()V"), (0, .fieldref 8 9), (0, .class_ 10), (0, .nameAndType 11 12), (0, u "com/example/thicket/thicket/dense/Sums"), (0, u "low"), (0, u "[J"), (0, .fieldref 8 14), (0, .nameAndType 15 12), (0, u "high"), (2, .long 9223372036854775807), (13, u "add"), (1, u "(I)V"), (2, u "(IJ)V"), (1, u "subtract"), (0, u "isLong"), (0, u "(I)Z"), (0, u "longValue"), (0, u "(I)J")] 3

def k2c0 : Code := { maxStack := 2, maxLocals := 2, code := prog_7_method_1_code, exceptionTable := #[], attributes := #[] }
def k2m0 : Method := { name := "<init>", desc := "(I)V", sig := { parameters := [.int], returnType := none }, accessFlags := 0, code := some k2c0 }
def k2c1 : Code := { maxStack := 6, maxLocals := 6, code := prog_7_method_2_code, exceptionTable := #[], attributes := #[] }
def k2m1 : Method := { name := "add", desc := "(IJ)V", sig := { parameters := [.int, .long], returnType := none }, accessFlags := 0, code := some k2c1 }
def k2c2 : Code := { maxStack := 6, maxLocals := 6, code := prog_7_method_3_code, exceptionTable := #[], attributes := #[] }
def k2m2 : Method := { name := "subtract", desc := "(IJ)V", sig := { parameters := [.int, .long], returnType := none }, accessFlags := 0, code := some k2c2 }
def k2c3 : Code := { maxStack := 4, maxLocals := 2, code := prog_7_method_4_code, exceptionTable := #[], attributes := #[] }
def k2m3 : Method := { name := "isLong", desc := "(I)Z", sig := { parameters := [.int], returnType := some .boolean }, accessFlags := 0, code := some k2c3 }
def k2c4 : Code := { maxStack := 2, maxLocals := 2, code := prog_7_method_5_code, exceptionTable := #[], attributes := #[] }
def k2m4 : Method := { name := "longValue", desc := "(I)J", sig := { parameters := [.int], returnType := some .long }, accessFlags := 0, code := some k2c4 }
/-- com/example/thicket/thicket/dense/Sums -/
def k2 : Class := { plain "com/example/thicket/thicket/dense/Sums" (some 0) with
  accessFlags := 48
  interfaces := #[]
  cf := some (fileOf pool2 8 #[] #[{ accessFlags := 0, nameIndex := 5, descriptorIndex := 34, attributes := #[] }, { accessFlags := 0, nameIndex := 32, descriptorIndex := 37, attributes := #[] }, { accessFlags := 0, nameIndex := 39, descriptorIndex := 37, attributes := #[] }, { accessFlags := 0, nameIndex := 40, descriptorIndex := 41, attributes := #[] }, { accessFlags := 0, nameIndex := 42, descriptorIndex := 43, attributes := #[] }] 48 2 #[] #[{ accessFlags := 18, nameIndex := 11, descriptorIndex := 12, attributes := #[] }, { accessFlags := 18, nameIndex := 15, descriptorIndex := 12, attributes := #[] }])
  fields := #[{ name := "low", type := (.array .long), accessFlags := 18, slot := 0, constantValue := 0 }, { name := "high", type := (.array .long), accessFlags := 18, slot := 1, constantValue := 0 }]
  methods := #[k2m0, k2m1, k2m2, k2m3, k2m4]
  instanceTypes := #[(.array .long), (.array .long)]
  staticTypes := #[]
  resolved := Array.replicate 47 none
  statics := none }

def pool3 : Array CpInfo := pool [(1, u "java/lang/Cloneable"), (0, .class_ 1), (0, u "java/lang/Object"), (0, .class_ 3)] 3

/-- java/lang/Cloneable -/
def k3 : Class := { plain "java/lang/Cloneable" (some 0) with
  accessFlags := 1537
  interfaces := #[]
  cf := some (fileOf pool3 2 #[] #[] 1537 4 #[] #[])
  fields := #[]
  methods := #[]
  instanceTypes := #[]
  staticTypes := #[]
  resolved := Array.replicate 8 none
  statics := none }

def pool4 : Array CpInfo := pool [(1, u "java/io/Serializable"), (0, .class_ 1), (0, u "java/lang/Object"), (0, .class_ 3)] 3

/-- java/io/Serializable -/
def k4 : Class := { plain "java/io/Serializable" (some 0) with
  accessFlags := 1537
  interfaces := #[]
  cf := some (fileOf pool4 2 #[] #[] 1537 4 #[] #[])
  fields := #[]
  methods := #[]
  instanceTypes := #[]
  staticTypes := #[]
  resolved := Array.replicate 8 none
  statics := none }

/-- the primitive byte -/
def k5 : Class := { plain "byte" none with kind := .primitive 'B', accessFlags := 0x411 }
/-- [B -/
def k6 : Class := { plain "[B" (some 0) with kind := .array 5 .byte, interfaces := #[3, 4], accessFlags := 1041 }

/-- the primitive int -/
def k7 : Class := { plain "int" none with kind := .primitive 'I', accessFlags := 0x411 }
/-- [I -/
def k8 : Class := { plain "[I" (some 0) with kind := .array 7 .int, interfaces := #[3, 4], accessFlags := 1041 }

/-- the primitive long -/
def k9 : Class := { plain "long" none with kind := .primitive 'J', accessFlags := 0x411 }
/-- [J -/
def k10 : Class := { plain "[J" (some 0) with kind := .array 9 .long, interfaces := #[3, 4], accessFlags := 1041 }

def heap : Heap := #[]
def classes : Array Class := #[k0, k1, k2, k3, k4, k5, k6, k7, k8, k9, k10]
def interned : List (Array UInt16 × Addr) := []
def slotsUsed : Nat := 0
def theMethod : MethodId := ⟨1, 1⟩
def args0 : Array Value := #[.long 5, .long 5, .int 5]
def aboutOver (below : List Frame) : State where
  vm := { classes := classes, interned := interned.toArray }
  heap := heap
  slotsUsed := slotsUsed
  threads := #[{ frames := .invoking theMethod args0 :: below }]
def below0 : List Frame := [.native { method := ⟨0, 0⟩, args := #[] }]
def about1 : State := aboutOver below0
def p0 : Program := .bare "" "" ""
def e0 : Env := launch0.env 0 0 0
theorem w_frames : about1.frames = Frame.invoking theMethod args0 :: below0 := rfl
set_option maxRecDepth 65536 in
theorem w_args : argsFit about1.vm theMethod args0 = true := by decide +kernel
set_option maxRecDepth 65536 in
theorem w_heap : heapFits about1 = true := by decide +kernel
set_option maxRecDepth 65536 in
theorem w_runnable : about1.curStatus? = some .runnable := by decide +kernel
set_option maxRecDepth 65536 in
theorem w_alone : about1.alone = true := by decide +kernel
set_option maxRecDepth 65536 in
theorem w_named : about1.methodNamed? x = some theMethod := by decide +kernel
set_option maxRecDepth 65536 in
theorem w_hears : about1.hears theMethod below0 = true := by decide +kernel
set_option maxRecDepth 65536 in
theorem w_ripe : about1.ripe theMethod args0 below0 = true := by decide +kernel
theorem w_running : about1.status = .running := rfl
set_option maxRecDepth 65536 in
theorem w_room : about1.hasRoom e0.platform room_1 = true :=
  launch0.hasRoom_least _ room_1 (by decide +kernel) (by decide +kernel) (by decide +kernel) (by decide +kernel) (by decide +kernel) (by decide +kernel)
theorem allAtoms_all (ts : List Jvm.Cond) (a : Array Jvm.Value) (st : Jvm.State) : (allAtoms ts).before a st = ts.all (fun c => c.before a st) := by
  induction ts with
  | nil => rfl
  | cons c t ih =>
    show (Jvm.Cond.and c (allAtoms t)).before a st = _
    rw [Jvm.Cond.before_and, ih, List.all_cons]
def words1 : List Jvm.Cond := Jvm.Cond.code x code maxLocals ret :: tables_1
/-- a 'code' word, met by the world's own term for the bytes: nothing is compared byte by byte -/
theorem code_word {y : MethodName} {bytes : ByteArray} {mx : Nat} {rt : Option FieldType} {a : Array Value} {s : State} {m : MethodId} {meth : Method} {c : Code} (h1 : s.methodNamed? y = some m) (h2 : s.vm.method? m = some meth) (h3 : meth.code = some c) (h4 : c.code = bytes)
    (h5 : (c.maxLocals == mx && c.exceptionTable.isEmpty && decide (c.maxStack ≤ mostOperands) && decide (meth.sig.returnType = rt) && !meth.locks && decide (parseMethodDescriptor y.desc = some meth.sig)) = true) : (Jvm.Cond.code y bytes mx rt).before a s = true := by
  simp only [Bool.and_eq_true, beq_iff_eq, Bool.not_eq_true', decide_eq_true_eq] at h5
  obtain ⟨⟨⟨⟨⟨g1, g2⟩, g3⟩, g4⟩, g5⟩, g6⟩ := h5
  simp [Cond.before, Cond.holds, Cond.value, h1, h2, h3, h4, g1, g2, g3, g4, g5, g6]
def isCode : Jvm.Cond → Bool
  | .code _ _ _ _ => true
  | _ => false
theorem all_split {L : List Jvm.Cond} {P : Jvm.Cond → Bool} (h1 : L.all (fun c => isCode c || P c) = true) (h2 : ∀ c ∈ L.filter isCode, P c = true) : L.all P = true := by
  refine List.all_eq_true.mpr fun c hc => ?_
  have h := List.all_eq_true.mp h1 c hc
  rcases Bool.eq_false_or_eq_true (isCode c) with hi | hi
  · exact h2 c (List.mem_filter.mpr ⟨hc, hi⟩)
  · simpa [hi] using h
set_option maxRecDepth 65536 in
theorem w_c0 : (Jvm.Cond.code x code maxLocals ret).before args0 about1 = true := code_word (m := ⟨1, 1⟩) (meth := k1m1) (c := k1c1) (by decide +kernel) rfl rfl rfl (by decide +kernel)
set_option maxRecDepth 65536 in
theorem w_c1 : (Jvm.Cond.code ({ cls := "com/example/thicket/thicket/dense/Sums", name := "<init>", desc := "(I)V" } : Jvm.MethodName) prog_7_method_1_code (2 : Nat) (Option.none : Option Jvm.ClassFile.FieldType)).before args0 about1 = true := code_word (m := ⟨2, 0⟩) (meth := k2m0) (c := k2c0) (by decide +kernel) rfl rfl rfl (by decide +kernel)
set_option maxRecDepth 65536 in
theorem w_c2 : (Jvm.Cond.code ({ cls := "java/lang/Object", name := "<init>", desc := "()V" } : Jvm.MethodName) object_method_1_code (1 : Nat) (Option.none : Option Jvm.ClassFile.FieldType)).before args0 about1 = true := code_word (m := ⟨0, 0⟩) (meth := k0m0) (c := k0c0) (by decide +kernel) rfl rfl rfl (by decide +kernel)
set_option maxRecDepth 65536 in
theorem w_c3 : (Jvm.Cond.code ({ cls := "com/example/thicket/thicket/dense/Sums", name := "add", desc := "(IJ)V" } : Jvm.MethodName) prog_7_method_2_code (6 : Nat) (Option.none : Option Jvm.ClassFile.FieldType)).before args0 about1 = true := code_word (m := ⟨2, 1⟩) (meth := k2m1) (c := k2c1) (by decide +kernel) rfl rfl rfl (by decide +kernel)
set_option maxRecDepth 65536 in
theorem w_c4 : (Jvm.Cond.code ({ cls := "com/example/thicket/thicket/dense/Sums", name := "isLong", desc := "(I)Z" } : Jvm.MethodName) prog_7_method_4_code (2 : Nat) (Option.some Jvm.ClassFile.FieldType.boolean)).before args0 about1 = true := code_word (m := ⟨2, 3⟩) (meth := k2m3) (c := k2c3) (by decide +kernel) rfl rfl rfl (by decide +kernel)
set_option maxRecDepth 65536 in
theorem w_c5 : (Jvm.Cond.code ({ cls := "com/example/thicket/thicket/dense/Sums", name := "longValue", desc := "(I)J" } : Jvm.MethodName) prog_7_method_5_code (2 : Nat) (Option.some Jvm.ClassFile.FieldType.long)).before args0 about1 = true := code_word (m := ⟨2, 4⟩) (meth := k2m4) (c := k2c4) (by decide +kernel) rfl rfl rfl (by decide +kernel)
set_option maxRecDepth 65536 in
theorem w_c6 : (Jvm.Cond.code ({ cls := "com/example/thicket/thicket/dense/Sums", name := "subtract", desc := "(IJ)V" } : Jvm.MethodName) prog_7_method_3_code (6 : Nat) (Option.none : Option Jvm.ClassFile.FieldType)).before args0 about1 = true := code_word (m := ⟨2, 2⟩) (meth := k2m2) (c := k2c2) (by decide +kernel) rfl rfl rfl (by decide +kernel)
def codes1 : List Jvm.Cond := [Jvm.Cond.code x code maxLocals ret, Jvm.Cond.code ({ cls := "com/example/thicket/thicket/dense/Sums", name := "<init>", desc := "(I)V" } : Jvm.MethodName) prog_7_method_1_code (2 : Nat) (Option.none : Option Jvm.ClassFile.FieldType), Jvm.Cond.code ({ cls := "java/lang/Object", name := "<init>", desc := "()V" } : Jvm.MethodName) object_method_1_code (1 : Nat) (Option.none : Option Jvm.ClassFile.FieldType), Jvm.Cond.code ({ cls := "com/example/thicket/thicket/dense/Sums", name := "add", desc := "(IJ)V" } : Jvm.MethodName) prog_7_method_2_code (6 : Nat) (Option.none : Option Jvm.ClassFile.FieldType), Jvm.Cond.code ({ cls := "com/example/thicket/thicket/dense/Sums", name := "isLong", desc := "(I)Z" } : Jvm.MethodName) prog_7_method_4_code (2 : Nat) (Option.some Jvm.ClassFile.FieldType.boolean), Jvm.Cond.code ({ cls := "com/example/thicket/thicket/dense/Sums", name := "longValue", desc := "(I)J" } : Jvm.MethodName) prog_7_method_5_code (2 : Nat) (Option.some Jvm.ClassFile.FieldType.long), Jvm.Cond.code ({ cls := "com/example/thicket/thicket/dense/Sums", name := "subtract", desc := "(IJ)V" } : Jvm.MethodName) prog_7_method_3_code (6 : Nat) (Option.none : Option Jvm.ClassFile.FieldType)]
set_option maxRecDepth 65536 in
theorem codes_eq : words1.filter isCode = codes1 := rfl
theorem w_codes : ∀ c ∈ words1.filter isCode, c.before args0 about1 = true := by
  rw [codes_eq]
  intro c hc
  simp only [codes1, List.mem_cons, List.not_mem_nil, or_false] at hc
  rcases hc with rfl | rfl | rfl | rfl | rfl | rfl | rfl
  · exact w_c0
  · exact w_c1
  · exact w_c2
  · exact w_c3
  · exact w_c4
  · exact w_c5
  · exact w_c6
set_option maxRecDepth 65536 in
theorem w_t1 : (words1.take 24).all (fun c => isCode c || c.before args0 about1) = true := by decide +kernel
set_option maxRecDepth 65536 in
theorem w_t2 : (words1.drop 24).all (fun c => isCode c || c.before args0 about1) = true := by decide +kernel
theorem w_tables : (allAtoms (Jvm.Cond.code x code maxLocals ret :: tables_1)).before args0 about1 = true := by
  rw [allAtoms_all]
  show words1.all (fun c => c.before args0 about1) = true
  refine all_split ?_ w_codes
  rw [← List.take_append_drop 24 words1, List.all_append, w_t1, w_t2]
  rfl
set_option maxRecDepth 65536 in
theorem w_case : (Jvm.Cond.and given_1 narrow_1).before args0 about1 = true := by decide +kernel
theorem w_applies : (headSpec (Jvm.Cond.code x code maxLocals ret :: tables_1) room_1).applies x e0.platform about1 = true :=
  (Spec.applies_iff w_frames).mpr ⟨w_running, w_runnable, w_alone, w_named, w_hears, w_ripe, w_room, w_tables⟩
theorem atStart : AtStart classFile x code maxLocals ret World_1 tables_1 room_1 Calls_1 rest_1 Pre_1 launch0 p0 e0 about1 theMethod args0 below0 :=
  ⟨lists_1, trivial, launch0.admits_env _ _ _, launch0.least_env, fairChoices_fair.cas, fairChoices_fair.clock, w_frames, w_args, w_heap, w_applies, trivial, trivial, w_case⟩
end start1
theorem witness_1 : WitnessClaimed_1 := ⟨start1.p0, start1.e0, start1.about1, start1.theMethod, start1.args0, start1.below0, start1.atStart⟩
end Jvm.Pilot.@@N@@
