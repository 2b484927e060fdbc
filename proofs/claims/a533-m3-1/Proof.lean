import JvmDerived
import JvmDerived.Pilot.@@N@@Statement
import JvmDerived.Pilot.@@N@@Code
set_option linter.unusedVariables false
set_option linter.unusedSimpArgs false
namespace Jvm.Pilot.@@N@@
open Jvm Jvm.ClassFile Sem Op Lib Jvm.Free Jvm.Stand Jvm.LawKit Jvm.RoadKit Bundle Jvm.Pilot.@@N@@.Jvm.D
/-! the walk's own small layer: 'Go' (from this frame the run comes to an end that Q tells of), one law a return, one law a call -/
def Go (p : Program) (e : Env) (below : List Frame) (s : State) (C S : Nat) (Q : Option Value → Heap → List Loc → Prop) (T : State) (g : JFrame) : Prop :=
  ∃ s₂ o, Steps p.tables e below (T.setTop g) s₂ ∧ s₂.status = .running ∧ Ended s₂ below o ∧ ∃ v L, o = .returned v ∧ Q v s₂.heap L ∧ FrameEnd s o s₂ L C S
/-- a contract: called with these arguments over this heap, the method ends as Q says -/
def MQ (l : Launch) (Z : State) (y : MethodName) (bytes : ByteArray) (maxL : Nat) (rt : Option FieldType) (ws : List Jvm.Cond) (rm : Room) (as : Array Value) (h0 : Heap) (Q : Option Value → Heap → List Loc → Prop) : Prop :=
  MetFree l y (head1 (Jvm.Cond.code y bytes maxL rt :: ws) rm) (fun a U => a = as ∧ Z.Warmed39 U.vm ∧ U.heap = h0) (fun _ _ _ _ _ => True) (fun _ U o U' => ∃ v L, o = .returned v ∧ Q v U'.heap L ∧ FrameEnd U o U' L rm.cells rm.slots)
/-- what a method that writes nothing leaves -/
def QP (r : Option Value) (h0 : Heap) (v : Option Value) (h : Heap) (L : List Loc) : Prop := v = r ∧ h = h0 ∧ L = []
/-- Java's x >>> y, on ints and on longs -/
def ush (x y : Int32) : Int32 := (x.toUInt32 >>> (y &&& 31).toUInt32).toInt32
def ushL (x : Int64) (y : Int32) : Int64 := (x.toUInt64 >>> (y &&& 0x3f).toInt64.toUInt64).toInt64
section Layer
variable {p : Program} {l : Launch} {e : Env} {R : Room} {s : State} {m : MethodId} {args : Array Value} {below : List Frame} {meth : Method} {c : Code} {T T' : State} {locs : List Loc} {cells slots C S : Nat} {Q : Option Value → Heap → List Loc → Prop} {g g' : JFrame} {h : Heap} {Z : State} {a0 : Array Value}
theorem go_step (st : ∀ t, Steps p.tables e below (T'.setTop g') t → Steps p.tables e below (T.setTop g) t) (k : Go p e below s C S Q T' g') : Go p e below s C S Q T g := by
  obtain ⟨s₂, o, h1, r⟩ := k
  exact ⟨s₂, o, st _ h1, r⟩
theorem go_mono {C' S' : Nat} (hc : C ≤ C') (hs : S ≤ S') (k : Go p e below s C S Q T g) : Go p e below s C' S' Q T g := by
  obtain ⟨s₂, o, h1, h2, h3, v, L, h4, h5, h6, h7, h8⟩ := k
  exact ⟨s₂, o, h1, h2, h3, v, L, h4, h5, h6, h7, h8.mono hc hs⟩
theorem lremM {target : State} (X : Stand p l e R s m args below meth c T locs cells slots) (hx : p.tables.exec = Jvm.exec) (hg : g.method = m) {x y : Int64} {rest : List Value} (hd : decode c.code g.pc = .ok (.lrem, 1)) (hs : g.stack = .long y :: .long x :: rest) (hy : y ≠ 0)
    (hr : Steps p.tables e below (T.setTop { g with pc := g.pc + 1, stack := .long (x % y) :: rest }) target) : Steps p.tables e below (T.setTop g) target :=
  XS.lrem X.here hx hg hd hs hy (by rw [lrem_mod]; exact hr)
theorem lookYes {target : State} (X : Stand p l e R s m args below meth c T locs cells slots) (hx : p.tables.exec = Jvm.exec) (hg : g.method = m) {key : Int32} {rest : List Value} {d o kv : Int} {prs : Array (Int × Int)} {len pc0 pc' : Nat} (hpc : g.pc = pc0) (hd : decode c.code g.pc = .ok (.lookupswitch d prs, len)) (hs : g.stack = .int key :: rest) (hso : (prs.toList.zip (prs.toList.drop 1)).all (fun (a, next) => a.1 < next.1) = true) (hf : prs.find? (·.1 == key.toInt) = some (kv, o)) (ho : 0 ≤ (pc0 : Int) + o) (hp : ((pc0 : Int) + o).toNat = pc')
    (hr : Steps p.tables e below (T.setTop { g with pc := pc', stack := rest }) target) : Steps p.tables e below (T.setTop g) target := by
  subst hg hpc hp
  jvm_step X.here [X.here.top, hx, hd, hs, lookupswitch.wp_whole, hso, hf, ho]
  exact ⟨by simpa using hso, hr⟩
theorem lookNo {target : State} (X : Stand p l e R s m args below meth c T locs cells slots) (hx : p.tables.exec = Jvm.exec) (hg : g.method = m) {key : Int32} {rest : List Value} {d : Int} {prs : Array (Int × Int)} {len pc0 pc' : Nat} (hpc : g.pc = pc0) (hd : decode c.code g.pc = .ok (.lookupswitch d prs, len)) (hs : g.stack = .int key :: rest) (hso : (prs.toList.zip (prs.toList.drop 1)).all (fun (a, next) => a.1 < next.1) = true) (hf : prs.find? (·.1 == key.toInt) = none) (ho : 0 ≤ (pc0 : Int) + d) (hp : ((pc0 : Int) + d).toNat = pc')
    (hr : Steps p.tables e below (T.setTop { g with pc := pc', stack := rest }) target) : Steps p.tables e below (T.setTop g) target := by
  subst hg hpc hp
  jvm_step X.here [X.here.top, hx, hd, hs, lookupswitch.wp_whole, hso, hf, ho]
  exact ⟨by simpa using hso, hr⟩
theorem go_cast {r r' : Option Value} {h0 : Heap} (q : r = r') (k : Go p e below s C S (QP r' h0) T g) : Go p e below s C S (QP r h0) T g := q ▸ k
theorem mq_of {y : MethodName} {bytes : ByteArray} {maxL : Nat} {rt : Option FieldType} {ws : List Jvm.Cond} {rm : Room} {as : Array Value} {h0 : Heap} {Q : Option Value → Heap → List Loc → Prop} (hp : plainFor y = true)
    (body : ∀ (p : Program) (e : Env) (s : State) (m : MethodId) (below : List Frame) (meth : Method) (c : Code) (T : State), Stand p l e rm s m as below meth c T [] 0 0 → p.tables.exec = Jvm.exec → c.code = bytes → c.maxLocals = maxL → s.vm.findClass y.cls = some m.cls → meth.name = y.name → Z.Warmed39 s.vm → T.heap = h0 → meth.sig.returnType = rt → meth.locks = false → Go p e below s rm.cells rm.slots Q T (entryFrame m as maxL)) :
    MQ l Z y bytes maxL rt ws rm as h0 Q := by
  refine MetFree.of_bodySF hp hisR ?_
  intro p e s m args below meth c s₁ Bd hml0 hP hK
  obtain ⟨rfl, hZ, hh⟩ := hP
  exact body p e s m below meth c s₁ (Stand.of_body Bd) Bd.exec Bd.bytes hml0 (findClass_of_methodNamed Bd.named) (name_of_methodNamed Bd.named Bd.method).1 hZ (by rw [← hh, Bd.state]; rfl) Bd.returns Bd.notSynchronized
theorem go_retI (X : Stand p l e R s m args below meth c T locs cells slots) (hx : p.tables.exec = Jvm.exec) (hlk : meth.locks = false) (hret : meth.sig.returnType = some .int) {pc : Nat} {Ls : Array Slot} {z : Int32} {rest : List Value} (hd : decode c.code pc = .ok (.ireturn, 1)) (eT : T.heap = h) (hq : Q (some (.int z)) h locs) (hc : cells ≤ C) (hs : slots ≤ S) :
    Go p e below s C S Q T (mkF m pc Ls (.int z :: rest)) := by
  obtain ⟨fs, hr, hrun, hended, hW, hsame⟩ := X.leave (v := some (.int z)) (fun h => by rw [hret] at h; cases h) hlk
  exact ⟨_, _, retOut X hx hret rfl (Or.inl ⟨rfl, Or.inl rfl, z, rfl⟩) hd hr, hrun, hended, _, _, rfl, by (show Q _ T.heap _); rw [eT]; exact hq, ⟨_, rfl⟩, hW, hsame.mono hc hs⟩
theorem go_retZ (X : Stand p l e R s m args below meth c T locs cells slots) (hx : p.tables.exec = Jvm.exec) (hlk : meth.locks = false) (hret : meth.sig.returnType = some .boolean) {pc : Nat} {Ls : Array Slot} {z : Int32} {rest : List Value} (hd : decode c.code pc = .ok (.ireturn, 1)) (eT : T.heap = h) (hq : Q (some (.int (z &&& 1))) h locs) (hc : cells ≤ C) (hs : slots ≤ S) :
    Go p e below s C S Q T (mkF m pc Ls (.int z :: rest)) := by
  obtain ⟨fs, hr, hrun, hended, hW, hsame⟩ := X.leave (v := some (.int (z &&& 1))) (fun h => by rw [hret] at h; cases h) hlk
  exact ⟨_, _, retN X hx (t := .boolean) hret (by simp) hd hr, hrun, hended, _, _, rfl, by (show Q _ T.heap _); rw [eT]; exact hq, ⟨_, rfl⟩, hW, hsame.mono hc hs⟩
theorem go_retJ (X : Stand p l e R s m args below meth c T locs cells slots) (hx : p.tables.exec = Jvm.exec) (hlk : meth.locks = false) (hret : meth.sig.returnType = some .long) {pc : Nat} {Ls : Array Slot} {z : Int64} {rest : List Value} (hd : decode c.code pc = .ok (.lreturn, 1)) (eT : T.heap = h) (hq : Q (some (.long z)) h locs) (hc : cells ≤ C) (hs : slots ≤ S) :
    Go p e below s C S Q T (mkF m pc Ls (.long z :: rest)) := by
  obtain ⟨fs, hr, hrun, hended, hW, hsame⟩ := X.leave (v := some (.long z)) (fun h => by rw [hret] at h; cases h) hlk
  exact ⟨_, _, retOut X hx hret rfl (Or.inr (Or.inl ⟨rfl, rfl, z, rfl⟩)) hd hr, hrun, hended, _, _, rfl, by (show Q _ T.heap _); rw [eT]; exact hq, ⟨_, rfl⟩, hW, hsame.mono hc hs⟩
theorem go_retA (X : Stand p l e R s m args below meth c T locs cells slots) (hx : p.tables.exec = Jvm.exec) (hlk : meth.locks = false) {ty : FieldType} (hret : meth.sig.returnType = some ty) (hty : ty.isReference = true) {pc : Nat} {Ls : Array Slot} {a : Addr} {rest : List Value} (hd : decode c.code pc = .ok (.areturn, 1)) (eT : T.heap = h) (hq : Q (some (.ref a)) h locs) (hc : cells ≤ C) (hs : slots ≤ S) :
    Go p e below s C S Q T (mkF m pc Ls (.ref a :: rest)) := by
  obtain ⟨fs, hr, hrun, hended, hW, hsame⟩ := X.leave (v := some (.ref a)) (fun h => by rw [hret] at h; cases h) hlk
  exact ⟨_, _, retOut X hx hret (by cases ty <;> first | rfl | cases hty) (Or.inr (Or.inr (Or.inr (Or.inr ⟨rfl, hty, rfl⟩)))) hd hr, hrun, hended, _, _, rfl, by (show Q _ T.heap _); rw [eT]; exact hq, ⟨_, rfl⟩, hW, hsame.mono hc hs⟩
theorem go_retV (X : Stand p l e R s m args below meth c T locs cells slots) (hx : p.tables.exec = Jvm.exec) (hlk : meth.locks = false) (hret : meth.sig.returnType = none) {pc : Nat} {Ls : Array Slot} (hd : decode c.code pc = .ok (.return_, 1)) (eT : T.heap = h) (hq : Q none h locs) (hc : cells ≤ C) (hs : slots ≤ S) :
    Go p e below s C S Q T (mkF m pc Ls []) := by
  obtain ⟨fs, hr, hrun, hended, hW, hsame⟩ := X.leave (v := none) (fun _ => rfl) hlk
  exact ⟨_, _, X.returnOut hx hret hd hr, hrun, hended, _, _, rfl, by (show Q _ T.heap _); rw [eT]; exact hq, ⟨_, rfl⟩, hW, hsame.mono hc hs⟩
/-- invokestatic by the callee's contract -/
theorem go_callS (X : Stand p l e R s m args below meth c T locs cells slots) (hx : p.tables.exec = Jvm.exec) (hZ : Z.Warmed39 s.vm) {own : String} {index : Nat} {y : MethodName} {bytes : ByteArray} {maxL : Nat} {rt : Option FieldType} {rm : Room} {as : Array Value} {Q' : Option Value → Heap → List Loc → Prop}
    (hown : s.vm.findClass own = some m.cls) (w1 : (Cond.methodLink own index y).before a0 Z = true) (w2 : (Cond.static y).before a0 Z = true) (w3 : (Cond.initialized y.cls).before a0 Z = true) (w4 : (Cond.code y bytes maxL rt).before a0 Z = true)
    (hy : y.cls ≠ "java/lang/invoke/MethodHandle" ∧ y.cls ≠ "java/lang/invoke/VarHandle") (eT : T.heap = h) (hM : MQ l Z y bytes maxL rt [] rm as h Q') (W : Nat) (hf : rm.frames + 1 ≤ R.frames) (hl : W + (maxL + 11) + rm.locals ≤ R.locals)
    (hg : g.method = m) (hsize : g.locals.size = c.maxLocals) {argsL rest : List Value} (hlen : ∀ sig, parseMethodDescriptor y.desc = some sig → argsL.length = sig.parameters.length)
    (hstack : g.stack = argsL.reverse ++ rest) (hW : 2 * g.monitorRoom + (rest.map fun v => v.category).sum ≤ W) (hdg : decode c.code g.pc = .ok (.invokestatic index, 3)) (has : argsL.toArray = as) (hcells : cells + rm.cells ≤ R.cells) (hslots : slots + rm.slots ≤ R.slots)
    (k : ∀ (T' : State) (v : Option Value) (L : List Loc), Stand p l e R s m args below meth c T' (locs ++ L) (cells + rm.cells) (slots + rm.slots) → Q' v T'.heap L → Go p e below s C S Q T' { g with pc := g.pc + 3, stack := v.toList ++ rest }) :
    Go p e below s C S Q T g := by
  obtain ⟨v, _, ⟨T', L', k', n'⟩, -, X', ⟨Lc, hQ, l1, y1, z1⟩, st⟩ := Jvm.LawKit.callS X hx (y := y) hown (mvT hZ w1) (mvT hZ w2) (mvT hZ w3) (mvT hZ w4) hy (backOf (W := W) hM hZ w4 w3 hf hl) hg hsize (argsL := argsL) (rest := rest) hlen hstack hW hdg (fun _ _ => ⟨has, eT, hcells, hslots⟩)
  dsimp only [Pt.U, Pt.locs, Pt.cells, Pt.slots] at X' l1 y1 z1 st hQ
  subst l1 y1 z1
  exact go_step st (k T' v Lc X' hQ)
theorem go_callSP (X : Stand p l e R s m args below meth c T locs cells slots) (hx : p.tables.exec = Jvm.exec) (hZ : Z.Warmed39 s.vm) {own : String} {index : Nat} {y : MethodName} {bytes : ByteArray} {maxL : Nat} {rt : Option FieldType} {rm : Room} {as : Array Value} {r : Option Value}
    (hown : s.vm.findClass own = some m.cls) (w1 : (Cond.methodLink own index y).before a0 Z = true) (w2 : (Cond.static y).before a0 Z = true) (w3 : (Cond.initialized y.cls).before a0 Z = true) (w4 : (Cond.code y bytes maxL rt).before a0 Z = true)
    (hy : y.cls ≠ "java/lang/invoke/MethodHandle" ∧ y.cls ≠ "java/lang/invoke/VarHandle") (eT : T.heap = h) (hM : MQ l Z y bytes maxL rt [] rm as h (QP r h)) (W : Nat) (hf : rm.frames + 1 ≤ R.frames) (hl : W + (maxL + 11) + rm.locals ≤ R.locals)
    (hg : g.method = m) (hsize : g.locals.size = c.maxLocals) {argsL rest : List Value} (hlen : ∀ sig, parseMethodDescriptor y.desc = some sig → argsL.length = sig.parameters.length)
    (hstack : g.stack = argsL.reverse ++ rest) (hW : 2 * g.monitorRoom + (rest.map fun v => v.category).sum ≤ W) (hdg : decode c.code g.pc = .ok (.invokestatic index, 3)) (has : argsL.toArray = as) (hrc : rm.cells = 0) (hrs : rm.slots = 0) (hcells : cells ≤ R.cells) (hslots : slots ≤ R.slots)
    (k : ∀ (T' : State), Stand p l e R s m args below meth c T' locs cells slots → T'.heap = h → Go p e below s C S Q T' { g with pc := g.pc + 3, stack := r.toList ++ rest }) :
    Go p e below s C S Q T g :=
  go_callS X hx hZ hown w1 w2 w3 w4 hy eT hM W hf hl hg hsize hlen hstack hW hdg has (by rw [hrc]; exact hcells) (by rw [hrs]; exact hslots) fun T' v L X' hQ => by
    obtain ⟨rfl, e', rfl⟩ := hQ
    rw [hrc, hrs, List.append_nil] at X'
    exact k T' X' e'
end Layer
/-! the heap's part of the layer: arrays of numbers as lists, one law a step, in the 'Go' form -/
def PA (Z : State) (h : Heap) (a : Addr) (ty : FieldType) (vs : List Value) : Prop := ∃ c : Cell, Arr Z h a c ty ∧ c.slots = vs.toArray ∧ vs.length < 2 ^ 31
def IA (Z : State) (h : Heap) (a : Addr) (xs : List Int32) : Prop := PA Z h a .int (xs.map Value.int)
def JA (Z : State) (h : Heap) (a : Addr) (xs : List Int64) : Prop := PA Z h a .long (xs.map Value.long)
def BA (Z : State) (h : Heap) (a : Addr) (xs : List Int32) : Prop := PA Z h a .byte (xs.map Value.int)
theorem getD_some {α : Type} {xs : List α} {i : Nat} {d : α} (h : i < xs.length) : xs[i]? = some (xs.getD i d) := by simp [List.getD, h]
section Heapy
variable {p : Program} {l : Launch} {e : Env} {R : Room} {s : State} {m : MethodId} {args : Array Value} {below : List Frame} {meth : Method} {c : Code} {T T' : State} {locs : List Loc} {cells slots C S : Nat} {Q : Option Value → Heap → List Loc → Prop} {g g' : JFrame} {h h' h0 : Heap} {Z : State} {a0 : Array Value} {a b : Addr} {ty ty' : FieldType} {vs vs' : List Value} {ws : List Addr} {sl : Nat} {v : Value}
theorem PA.lt (A : PA Z h a ty vs) : a < h.size := by obtain ⟨c, A, -⟩ := A; exact A.lt
theorem PA.ext (A : PA Z h a ty vs) (E : Ext h h') : PA Z h' a ty vs := by obtain ⟨c, A, r⟩ := A; exact ⟨c, A.ext E, r⟩
theorem PA.other (A : PA Z h b ty vs) (W : Wr h h' a sl v) (q : b ≠ a) : PA Z h' b ty vs := by obtain ⟨c, A, r⟩ := A; exact ⟨c, A.other W q, r⟩
theorem PA.keep (A : PA Z h a ty vs) (K : Keep h h' ws) (q : a ∉ ws) : PA Z h' a ty vs := by obtain ⟨c, A, r⟩ := A; exact ⟨c, ⟨K.2.1 a c A.1 q, A.2⟩, r⟩
theorem PA.set {i : Nat} (A : PA Z h a ty vs) (W : Wr h h' a i v) : PA Z h' a ty (vs.set i v) := by
  obtain ⟨c, A, r, r2⟩ := A
  refine ⟨_, A.same W, ?_, by simpa using r2⟩
  simp [Cell.setSlot, r]
theorem IA.lt {xs : List Int32} (A : IA Z h a xs) : a < h.size := PA.lt A
theorem IA.ext {xs : List Int32} (A : IA Z h a xs) (E : Ext h h') : IA Z h' a xs := PA.ext A E
theorem IA.other {xs : List Int32} (A : IA Z h b xs) (W : Wr h h' a sl v) (q : b ≠ a) : IA Z h' b xs := PA.other A W q
theorem IA.keep {xs : List Int32} (A : IA Z h a xs) (K : Keep h h' ws) (q : a ∉ ws) : IA Z h' a xs := PA.keep A K q
theorem JA.lt {xs : List Int64} (A : JA Z h a xs) : a < h.size := PA.lt A
theorem JA.ext {xs : List Int64} (A : JA Z h a xs) (E : Ext h h') : JA Z h' a xs := PA.ext A E
theorem JA.other {xs : List Int64} (A : JA Z h b xs) (W : Wr h h' a sl v) (q : b ≠ a) : JA Z h' b xs := PA.other A W q
theorem JA.keep {xs : List Int64} (A : JA Z h a xs) (K : Keep h h' ws) (q : a ∉ ws) : JA Z h' a xs := PA.keep A K q
theorem BA.lt {xs : List Int32} (A : BA Z h a xs) : a < h.size := PA.lt A
theorem BA.ext {xs : List Int32} (A : BA Z h a xs) (E : Ext h h') : BA Z h' a xs := PA.ext A E
theorem BA.other {xs : List Int32} (A : BA Z h b xs) (W : Wr h h' a sl v) (q : b ≠ a) : BA Z h' b xs := PA.other A W q
theorem BA.keep {xs : List Int32} (A : BA Z h a xs) (K : Keep h h' ws) (q : a ∉ ws) : BA Z h' a xs := PA.keep A K q
theorem Exa.keepK {K : String} (F : Exa Z h a K) (q : Keep h h' ws) : Exa Z h' a K := Exa.keep F q
/-- arrays of two kinds are two arrays; an object of a class is none -/
theorem pa_ne (A : PA Z h a ty vs) (B : PA Z h b ty' vs') (hn : ty ≠ ty') : a ≠ b := fun q => by
  subst q
  obtain ⟨c1, A1, -⟩ := A
  obtain ⟨c2, B1, -⟩ := B
  cases A1.1.symm.trans B1.1
  obtain ⟨-, k1, j1, comp1, q1⟩ := A1.2.1
  obtain ⟨-, k2, j2, comp2, q2⟩ := B1.2.1
  cases j1.symm.trans j2
  rw [q1] at q2
  cases q2
  exact hn rfl
theorem exa_pa {K : String} {k : Nat} (F : Exa Z h a K) (wi : (Cond.instantiable K k).before a0 Z = true) (A : PA Z h b ty vs) : a ≠ b := by
  obtain ⟨c, A, -⟩ := A
  exact ne_arr F wi A
theorem PA.slot {i : Nat} (A : PA Z h a ty vs) {w : Value} (hv : vs[i]? = some w) : ∃ c : Cell, Arr Z h a c ty ∧ i < c.slots.size ∧ c.slots[i]? = some w := by
  obtain ⟨c, A, r, -⟩ := A
  have hi := (List.getElem?_eq_some_iff.mp hv).1
  exact ⟨c, A, by rw [r]; simpa using hi, by rw [r]; simpa using hv⟩
theorem go_iaload (X : Stand p l e R s m args below meth c T locs cells slots) (hx : p.tables.exec = Jvm.exec) (hZ : Z.Warmed39 s.vm) (eT : T.heap = h) {xs : List Int32} (A : IA Z h a xs) {j w : Int32} (hj : ¬ j < 0) (hv : xs[j.toNatClampNeg]? = some w) {rest : List Value} (hg : g.method = m) (hs : g.stack = .int j :: .ref a :: rest) (hd : decode c.code g.pc = .ok (.iaload, 1))
    (k : Go p e below s C S Q T { g with pc := g.pc + 1, stack := .int w :: rest }) : Go p e below s C S Q T g := by
  obtain ⟨cl, A, hi, hv'⟩ := PA.slot A (w := .int w) (by rw [List.getElem?_map, hv]; rfl)
  exact go_step (X.iaload hx (j := j) (v := .int w) (by rw [eT]; exact A.1) (State.isArrayOf_alike hZ.alike A.2.1) A.2.2 (fun q => q.elim hj (fun q => Nat.not_le_of_lt hi q)) hv' hg hs hd) k
theorem go_laload (X : Stand p l e R s m args below meth c T locs cells slots) (hx : p.tables.exec = Jvm.exec) (hZ : Z.Warmed39 s.vm) (eT : T.heap = h) {xs : List Int64} (A : JA Z h a xs) {j : Int32} {w : Int64} (hj : ¬ j < 0) (hv : xs[j.toNatClampNeg]? = some w) {rest : List Value} (hg : g.method = m) (hs : g.stack = .int j :: .ref a :: rest) (hd : decode c.code g.pc = .ok (.laload, 1))
    (k : Go p e below s C S Q T { g with pc := g.pc + 1, stack := .long w :: rest }) : Go p e below s C S Q T g := by
  obtain ⟨cl, A, hi, hv'⟩ := PA.slot A (w := .long w) (by rw [List.getElem?_map, hv]; rfl)
  exact go_step (X.laload hx (j := j) (v := .long w) (by rw [eT]; exact A.1) (State.isArrayOf_alike hZ.alike A.2.1) A.2.2 (fun q => q.elim hj (fun q => Nat.not_le_of_lt hi q)) hv' hg hs hd) k
theorem go_baload (X : Stand p l e R s m args below meth c T locs cells slots) (hx : p.tables.exec = Jvm.exec) (hZ : Z.Warmed39 s.vm) (eT : T.heap = h) {xs : List Int32} (A : BA Z h a xs) {j w : Int32} (hj : ¬ j < 0) (hv : xs[j.toNatClampNeg]? = some w) {rest : List Value} (hg : g.method = m) (hs : g.stack = .int j :: .ref a :: rest) (hd : decode c.code g.pc = .ok (.baload, 1))
    (k : Go p e below s C S Q T { g with pc := g.pc + 1, stack := .int w :: rest }) : Go p e below s C S Q T g := by
  obtain ⟨cl, A, hi, hv'⟩ := PA.slot A (w := .int w) (by rw [List.getElem?_map, hv]; rfl)
  exact go_step (X.baloadBytes hx (j := j) (v := .int w) (by rw [eT]; exact A.1) (State.isArrayOf_alike hZ.alike A.2.1) A.2.2 (fun q => q.elim hj (fun q => Nat.not_le_of_lt hi q)) hv' hg hs hd) k
theorem go_alen (X : Stand p l e R s m args below meth c T locs cells slots) (hx : p.tables.exec = Jvm.exec) (hZ : Z.Warmed39 s.vm) (eT : T.heap = h) (A : PA Z h a ty vs) {z : Int32} (hz : vs.length.toInt32 = z) {rest : List Value} (hg : g.method = m) (hs : g.stack = .ref a :: rest) (hd : decode c.code g.pc = .ok (.arraylength, 1))
    (k : Go p e below s C S Q T { g with pc := g.pc + 1, stack := .int z :: rest }) : Go p e below s C S Q T g := by
  obtain ⟨cl, A, r, -⟩ := A
  have q : cl.slots.size.toInt32 = z := by rw [r]; simpa using hz
  subst q
  exact go_step (X.arraylength hx (by rw [eT]; exact A.1) (State.isArrayOf_alike hZ.alike A.2.1) hg hs hd) k
theorem go_iastore (X : Stand p l e R s m args below meth c T locs cells slots) (hx : p.tables.exec = Jvm.exec) (hZ : Z.Warmed39 s.vm) (eT : T.heap = h) {xs : List Int32} (A : IA Z h a xs) {j w : Int32} (hj : ¬ j < 0) (hl : j.toNatClampNeg < xs.length) {rest : List Value} (hg : g.method = m) (hs : g.stack = .int w :: .int j :: .ref a :: rest) (hd : decode c.code g.pc = .ok (.iastore, 1))
    (k : ∀ (T' : State) (h' : Heap), Stand p l e R s m args below meth c T' (locs ++ [⟨a, j.toNatClampNeg⟩]) cells slots → T'.heap = h' → Wr h h' a j.toNatClampNeg (.int w) → IA Z h' a (xs.set j.toNatClampNeg w) → Go p e below s C S Q T' { g with pc := g.pc + 1, stack := rest }) : Go p e below s C S Q T g := by
  have A' := A
  obtain ⟨cl, A, r, -⟩ := A
  obtain ⟨T', h', X', e', W, st⟩ := stI X hx hZ eT A (j := j) (x := w) (fun q => q.elim hj (fun q => by rw [r] at q; simp at q; omega)) hg hs hd
  exact go_step st (k T' h' X' e' W (by rw [IA, List.map_set]; exact PA.set A' W))
theorem go_lastore (X : Stand p l e R s m args below meth c T locs cells slots) (hx : p.tables.exec = Jvm.exec) (hZ : Z.Warmed39 s.vm) (eT : T.heap = h) {xs : List Int64} (A : JA Z h a xs) {j : Int32} {w : Int64} (hj : ¬ j < 0) (hl : j.toNatClampNeg < xs.length) {rest : List Value} (hg : g.method = m) (hs : g.stack = .long w :: .int j :: .ref a :: rest) (hd : decode c.code g.pc = .ok (.lastore, 1))
    (k : ∀ (T' : State) (h' : Heap), Stand p l e R s m args below meth c T' (locs ++ [⟨a, j.toNatClampNeg⟩]) cells slots → T'.heap = h' → Wr h h' a j.toNatClampNeg (.long w) → JA Z h' a (xs.set j.toNatClampNeg w) → Go p e below s C S Q T' { g with pc := g.pc + 1, stack := rest }) : Go p e below s C S Q T g := by
  have A' := A
  obtain ⟨cl, A, r, -⟩ := A
  obtain ⟨T', h', X', e', W, st⟩ := stJ X hx hZ eT A (j := j) (x := w) (fun q => q.elim hj (fun q => by rw [r] at q; simp at q; omega)) hg hs hd
  exact go_step st (k T' h' X' e' W (by rw [JA, List.map_set]; exact PA.set A' W))
theorem go_bastore (X : Stand p l e R s m args below meth c T locs cells slots) (hx : p.tables.exec = Jvm.exec) (hZ : Z.Warmed39 s.vm) (eT : T.heap = h) {xs : List Int32} (A : BA Z h a xs) {j w : Int32} (hj : ¬ j < 0) (hl : j.toNatClampNeg < xs.length) {rest : List Value} (hg : g.method = m) (hs : g.stack = .int w :: .int j :: .ref a :: rest) (hd : decode c.code g.pc = .ok (.bastore, 1))
    (k : ∀ (T' : State) (h' : Heap), Stand p l e R s m args below meth c T' (locs ++ [⟨a, j.toNatClampNeg⟩]) cells slots → T'.heap = h' → Wr h h' a j.toNatClampNeg (.int w.toInt8.toInt32) → BA Z h' a (xs.set j.toNatClampNeg w.toInt8.toInt32) → Go p e below s C S Q T' { g with pc := g.pc + 1, stack := rest }) : Go p e below s C S Q T g := by
  have A' := A
  obtain ⟨cl, A, r, -⟩ := A
  obtain ⟨T', h', X', e', W, st⟩ := stB X hx hZ eT A (j := j) (x := w) (fun q => q.elim hj (fun q => by rw [r] at q; simp at q; omega)) hg hs hd
  exact go_step st (k T' h' X' e' W (by rw [BA, List.map_set]; exact PA.set A' W))
/-- newarray of a kind of numbers: 'n' of them at most 'cap' -/
theorem go_newP (X : Stand p l e R s m args below meth c T locs cells slots) (hx : p.tables.exec = Jvm.exec) (hZ : Z.Warmed39 s.vm) {aty : ArrayType} (w : (Cond.arrayClass (newarray.typeOf aty)).before a0 Z = true) (eT : T.heap = h) {n : Int32} {rest : List Value} (cap : Nat) (hn : ¬ n < 0) (hcap : n.toNatClampNeg ≤ cap) (hb : cap * 8 ≤ 536870912) (hc : cells + 1 ≤ R.cells) (hl : slots + cap ≤ R.slots) (hg : g.method = m) (hs : g.stack = .int n :: rest) (hd : decode c.code g.pc = .ok (.newarray aty, 2))
    (k : ∀ (T' : State) (h' : Heap) (b : Addr), Stand p l e R s m args below meth c T' locs (cells + 1) (slots + cap) → T'.heap = h' → Ext h h' → b = h.size → PA Z h' b (newarray.typeOf aty) (List.replicate n.toNatClampNeg (defaultValue (newarray.typeOf aty))) → Go p e below s C S Q T' { g with pc := g.pc + 2, stack := .ref b :: rest }) : Go p e below s C S Q T g := by
  obtain ⟨T', h', cA, X', e', E, A, st⟩ := newP X hx hZ w eT hg hd hs hn hcap hb hc hl
  refine go_step st (k T' h' _ X' e' E rfl ⟨_, A, by simp [newA], ?_⟩)
  have := n.toInt_lt
  simp only [List.length_replicate, Int32.toNatClampNeg]; omega
theorem go_new (X : Stand p l e R s m args below meth c T locs cells slots) (hx : p.tables.exec = Jvm.exec) (hZ : Z.Warmed39 s.vm) {own K : String} {index n : Nat} (hown : s.vm.findClass own = some m.cls) (w : (Cond.classLink own index K).before a0 Z = true) (wi : (Cond.instantiable K n).before a0 Z = true) (wz : (Cond.initialized K).before a0 Z = true) (eT : T.heap = h) (hc : cells + 1 ≤ R.cells) (hl : slots + n ≤ R.slots) (hg : g.method = m) (hd : decode c.code g.pc = .ok (.new index, 3))
    (k : ∀ (T' : State) (h' : Heap) (b : Addr), Stand p l e R s m args below meth c T' locs (cells + 1) (slots + n) → T'.heap = h' → Ext h h' → b = h.size → Exa Z h' b K → (∀ {O nm d : String} {ty : FieldType}, Laid Z a0 K O nm d → parseFieldDescriptor d = some ty → Fld Z h' b O nm d (defaultValue ty)) → Go p e below s C S Q T' { g with pc := g.pc + 3, stack := .ref b :: g.stack }) : Go p e below s C S Q T g := by
  obtain ⟨T', h', X', e', E, A, D, -, st⟩ := newO X hx hZ hown w wi wz eT hg hd hc hl
  exact go_step st (k T' h' _ X' e' E rfl A D)
theorem go_getF (X : Stand p l e R s m args below meth c T locs cells slots) (hx : p.tables.exec = Jvm.exec) (hZ : Z.Warmed39 s.vm) {own O n d : String} {index : Nat} (hown : s.vm.findClass own = some m.cls) (w : (Cond.fieldLink own index O n d).before a0 Z = true) (eT : T.heap = h) {w0 : Value} (F : Fld Z h a O n d w0) {rest : List Value} (hg : g.method = m) (hs : g.stack = .ref a :: rest) (hd : decode c.code g.pc = .ok (.getfield index, 3))
    (k : ∀ (T' : State), Stand p l e R s m args below meth c T' locs cells slots → T'.heap = h → Go p e below s C S Q T' { g with pc := g.pc + 3, stack := w0 :: rest }) : Go p e below s C S Q T g := by
  obtain ⟨T', X', e', st⟩ := getF X hx hZ hown (host := "") (Or.inl w) Via.refl eT F hg hs hd
  exact go_step st (k T' X' e')
theorem go_putF (X : Stand p l e R s m args below meth c T locs cells slots) (hx : p.tables.exec = Jvm.exec) (hZ : Z.Warmed39 s.vm) {own O n d K : String} {index kk : Nat} {ty : FieldType} (hown : s.vm.findClass own = some m.cls) (w : (Cond.fieldLink own index O n d).before a0 Z = true) (eT : T.heap = h) {w0 old : Value} (F : Fld Z h a O n d old) (E : Exa Z h a K) (L : (Cond.lays K O n d).before a0 Z = true ∨ ((Cond.laysFinal K O n d).before a0 Z = true ∧ own = O ∧ meth.name = "<init>")) (wi : (Cond.instantiable K kk).before a0 Z = true) (hty : parseFieldDescriptor d = some ty) (hn : narrow ty w0 = w0) (hf : fits ty w0 = true) {rest : List Value} (hg : g.method = m) (hs : g.stack = w0 :: .ref a :: rest) (hd : decode c.code g.pc = .ok (.putfield index, 3))
    (k : ∀ (T' : State) (h' : Heap), Stand p l e R s m args below meth c T' (locs ++ [⟨a, Jvm.RoadKit.slotOf Z O n d⟩]) cells slots → T'.heap = h' → Wr h h' a (Jvm.RoadKit.slotOf Z O n d) w0 → Fld Z h' a O n d w0 → Go p e below s C S Q T' { g with pc := g.pc + 3, stack := rest }) : Go p e below s C S Q T g := by
  obtain ⟨T', h', X', e', W, st⟩ := putF X hx hZ hown (host := "") (Or.inl w) Via.refl eT F E L wi hty hn hf hg hs hd
  exact go_step st (k T' h' X' e' W (F.same W))
theorem go_init (X : Stand p l e R s m args below meth c T locs cells slots) (hx : p.tables.exec = Jvm.exec) (hZ : Z.Warmed39 s.vm) {own : String} {idx : Nat} (hown : s.vm.findClass own = some m.cls) (w1 : (Cond.methodLink own idx Lib.objectInit).before a0 Z = true) (w2 : (Cond.instanceMethod Lib.objectInit).before a0 Z = true) (w3 : (Cond.code Lib.objectInit ⟨#[0xb1]⟩ 1 none).before a0 Z = true) (eT : T.heap = h) (hg : g.method = m) (hsize : g.locals.size = c.maxLocals) {rest : List Value} (hs : g.stack = .ref a :: rest) (hd : decode c.code g.pc = .ok (.invokespecial idx, 3)) (hf : 1 ≤ R.frames) (W : Nat) (hW : 2 * g.monitorRoom + (rest.map fun v => v.category).sum ≤ W) (hl : W + 12 ≤ R.locals)
    (k : ∀ (T' : State), Stand p l e R s m args below meth c T' locs cells slots → T'.heap = h → Go p e below s C S Q T' { g with pc := g.pc + 3, stack := rest }) : Go p e below s C S Q T g := by
  obtain ⟨T', X', e', st⟩ := initO X hx hZ hown w1 w2 w3 eT hg hsize hs hd hf (W := W) hW hl
  exact go_step st (k T' X' e')
/-- a constructor by its contract -/
theorem go_callC (X : Stand p l e R s m args below meth c T locs cells slots) (hx : p.tables.exec = Jvm.exec) (hZ : Z.Warmed39 s.vm) {own : String} {index : Nat} {y : MethodName} {bytes : ByteArray} {maxL : Nat} {rm : Room} {as : Array Value} {Q' : Option Value → Heap → List Loc → Prop} (hy1 : y.name = "<init>")
    (hown : s.vm.findClass own = some m.cls) (w1 : (Cond.methodLink own index y).before a0 Z = true) (w2 : (Cond.instanceMethod y).before a0 Z = true) (w3 : (Cond.initialized y.cls).before a0 Z = true) (w4 : (Cond.code y bytes maxL none).before a0 Z = true)
    (hy : y.cls ≠ "java/lang/invoke/MethodHandle" ∧ y.cls ≠ "java/lang/invoke/VarHandle") (eT : T.heap = h) (hM : MQ l Z y bytes maxL none [] rm as h Q') (W : Nat) (hf : rm.frames + 1 ≤ R.frames) (hl : W + (maxL + 11) + rm.locals ≤ R.locals)
    (hg : g.method = m) (hsize : g.locals.size = c.maxLocals) {argsL rest : List Value} (hlen : ∀ sig, parseMethodDescriptor y.desc = some sig → argsL.length = sig.parameters.length)
    (hstack : g.stack = argsL.reverse ++ .ref a :: rest) (hW : 2 * g.monitorRoom + (rest.map fun v => v.category).sum ≤ W) (hdg : decode c.code g.pc = .ok (.invokespecial index, 3)) (has : (.ref a :: argsL).toArray = as) (hcells : cells + rm.cells ≤ R.cells) (hslots : slots + rm.slots ≤ R.slots)
    (k : ∀ (T' : State) (v : Option Value) (L : List Loc), Stand p l e R s m args below meth c T' (locs ++ L) (cells + rm.cells) (slots + rm.slots) → Q' v T'.heap L → Go p e below s C S Q T' { g with pc := g.pc + 3, stack := v.toList ++ rest }) :
    Go p e below s C S Q T g := by
  obtain ⟨v, _, ⟨T', L', k', n'⟩, -, X', ⟨Lc, hQ, l1, y1, z1⟩, st⟩ := X.specialBack hx (y := y) hy1 hown (mvT hZ w1) (mvT hZ w2) (mvT hZ w4) hy (backOf (W := W) hM hZ w4 w3 hf hl) hg hsize (Steps.refl _) (a := a) (argsL := argsL) (rest := rest) hlen hstack hW hdg (fun _ _ => ⟨has, eT, hcells, hslots⟩)
  dsimp only [Pt.U, Pt.locs, Pt.cells, Pt.slots] at X' l1 y1 z1 st hQ
  subst l1 y1 z1
  exact go_step (fun t k => st.trans k) (k T' v Lc X' hQ)
/-- an instance method by its contract -/
theorem go_callV (X : Stand p l e R s m args below meth c T locs cells slots) (hx : p.tables.exec = Jvm.exec) (hZ : Z.Warmed39 s.vm) {own : String} {index : Nat} {y : MethodName} {bytes : ByteArray} {maxL : Nat} {rt : Option FieldType} {rm : Room} {as : Array Value} {Q' : Option Value → Heap → List Loc → Prop}
    (hown : s.vm.findClass own = some m.cls) (w1 : (Cond.methodLink own index y).before a0 Z = true) (w2 : (Cond.declares y).before a0 Z = true) (w5 : (Cond.selects y.cls y y).before a0 Z = true) (w6 : (Cond.instanceMethod y).before a0 Z = true) (w3 : (Cond.initialized y.cls).before a0 Z = true) (w4 : (Cond.code y bytes maxL rt).before a0 Z = true)
    (hy : y.cls ≠ "java/lang/invoke/MethodHandle" ∧ y.cls ≠ "java/lang/invoke/VarHandle") (eT : T.heap = h) (E : Exa Z h a y.cls) (hM : MQ l Z y bytes maxL rt [] rm as h Q') (W : Nat) (hf : rm.frames + 1 ≤ R.frames) (hl : W + (maxL + 11) + rm.locals ≤ R.locals)
    (hg : g.method = m) (hsize : g.locals.size = c.maxLocals) {argsL rest : List Value} (hlen : ∀ sig, parseMethodDescriptor y.desc = some sig → argsL.length = sig.parameters.length)
    (hstack : g.stack = argsL.reverse ++ .ref a :: rest) (hW : 2 * g.monitorRoom + (rest.map fun v => v.category).sum ≤ W) (hdg : decode c.code g.pc = .ok (.invokevirtual index, 3)) (has : (.ref a :: argsL).toArray = as) (hcells : cells + rm.cells ≤ R.cells) (hslots : slots + rm.slots ≤ R.slots)
    (k : ∀ (T' : State) (v : Option Value) (L : List Loc), Stand p l e R s m args below meth c T' (locs ++ L) (cells + rm.cells) (slots + rm.slots) → Q' v T'.heap L → Go p e below s C S Q T' { g with pc := g.pc + 3, stack := v.toList ++ rest }) :
    Go p e below s C S Q T g := by
  obtain ⟨cq, kq, qa, qb, qc⟩ := isOf hZ eT E
  obtain ⟨v, _, ⟨T', L', k', n'⟩, -, X', ⟨Lc, hQ, l1, y1, z1⟩, st⟩ := X.virtualBack hx (y := y) (z := y) hown (mvT hZ w1) (mvT hZ w2) (notFace_of_selects (args := #[]) (mvT hZ w5)) (mvT hZ w5) (mvT hZ w6) hy (backOf (W := W) hM hZ w4 w3 hf hl) qa qc hg hsize (Steps.refl _) (argsL := argsL) (rest := rest) hlen hstack hW hdg (fun _ _ => ⟨has, eT, hcells, hslots⟩)
  dsimp only [Pt.U, Pt.locs, Pt.cells, Pt.slots] at X' l1 y1 z1 st hQ
  subst l1 y1 z1
  exact go_step (fun t k => st.trans k) (k T' v Lc X' hQ)
theorem go_callVP (X : Stand p l e R s m args below meth c T locs cells slots) (hx : p.tables.exec = Jvm.exec) (hZ : Z.Warmed39 s.vm) {own : String} {index : Nat} {y : MethodName} {bytes : ByteArray} {maxL : Nat} {rt : Option FieldType} {rm : Room} {as : Array Value} {r : Option Value}
    (hown : s.vm.findClass own = some m.cls) (w1 : (Cond.methodLink own index y).before a0 Z = true) (w2 : (Cond.declares y).before a0 Z = true) (w5 : (Cond.selects y.cls y y).before a0 Z = true) (w6 : (Cond.instanceMethod y).before a0 Z = true) (w3 : (Cond.initialized y.cls).before a0 Z = true) (w4 : (Cond.code y bytes maxL rt).before a0 Z = true)
    (hy : y.cls ≠ "java/lang/invoke/MethodHandle" ∧ y.cls ≠ "java/lang/invoke/VarHandle") (eT : T.heap = h) (E : Exa Z h a y.cls) (hM : MQ l Z y bytes maxL rt [] rm as h (QP r h)) (W : Nat) (hf : rm.frames + 1 ≤ R.frames) (hl : W + (maxL + 11) + rm.locals ≤ R.locals)
    (hg : g.method = m) (hsize : g.locals.size = c.maxLocals) {argsL rest : List Value} (hlen : ∀ sig, parseMethodDescriptor y.desc = some sig → argsL.length = sig.parameters.length)
    (hstack : g.stack = argsL.reverse ++ .ref a :: rest) (hW : 2 * g.monitorRoom + (rest.map fun v => v.category).sum ≤ W) (hdg : decode c.code g.pc = .ok (.invokevirtual index, 3)) (has : (.ref a :: argsL).toArray = as) (hrc : rm.cells = 0) (hrs : rm.slots = 0) (hcells : cells ≤ R.cells) (hslots : slots ≤ R.slots)
    (k : ∀ (T' : State), Stand p l e R s m args below meth c T' locs cells slots → T'.heap = h → Go p e below s C S Q T' { g with pc := g.pc + 3, stack := r.toList ++ rest }) :
    Go p e below s C S Q T g :=
  go_callV X hx hZ hown w1 w2 w5 w6 w3 w4 hy eT E hM W hf hl hg hsize hlen hstack hW hdg has (by rw [hrc]; exact hcells) (by rw [hrs]; exact hslots) fun T' v L X' hQ => by
    obtain ⟨rfl, e', rfl⟩ := hQ
    rw [hrc, hrs, List.append_nil] at X'
    exact k T' X' e'
/-- a private instance method by its contract -/
theorem go_callR (X : Stand p l e R s m args below meth c T locs cells slots) (hx : p.tables.exec = Jvm.exec) (hZ : Z.Warmed39 s.vm) {own : String} {index : Nat} {y : MethodName} {bytes : ByteArray} {maxL : Nat} {rt : Option FieldType} {rm : Room} {as : Array Value} {Q' : Option Value → Heap → List Loc → Prop}
    (hown : s.vm.findClass own = some m.cls) (w1 : (Cond.methodLink own index y).before a0 Z = true) (w6 : (Cond.instanceMethod y).before a0 Z = true) (w5 : (Cond.selects y.cls y y).before a0 Z = true) (w7 : (Cond.privateMethod y).before a0 Z = true) (w3 : (Cond.initialized y.cls).before a0 Z = true) (w4 : (Cond.code y bytes maxL rt).before a0 Z = true)
    (hy : y.cls ≠ "java/lang/invoke/MethodHandle" ∧ y.cls ≠ "java/lang/invoke/VarHandle") (eT : T.heap = h) {K : String} (E : Exa Z h a K) (hM : MQ l Z y bytes maxL rt [] rm as h Q') (W : Nat) (hf : rm.frames + 1 ≤ R.frames) (hl : W + (maxL + 11) + rm.locals ≤ R.locals)
    (hg : g.method = m) (hsize : g.locals.size = c.maxLocals) {argsL rest : List Value} (hlen : ∀ sig, parseMethodDescriptor y.desc = some sig → argsL.length = sig.parameters.length)
    (hstack : g.stack = argsL.reverse ++ .ref a :: rest) (hW : 2 * g.monitorRoom + (rest.map fun v => v.category).sum ≤ W) (hdg : decode c.code g.pc = .ok (.invokevirtual index, 3)) (has : (.ref a :: argsL).toArray = as) (hcells : cells + rm.cells ≤ R.cells) (hslots : slots + rm.slots ≤ R.slots)
    (k : ∀ (T' : State) (v : Option Value) (L : List Loc), Stand p l e R s m args below meth c T' (locs ++ L) (cells + rm.cells) (slots + rm.slots) → Q' v T'.heap L → Go p e below s C S Q T' { g with pc := g.pc + 3, stack := v.toList ++ rest }) :
    Go p e below s C S Q T g := by
  obtain ⟨cq, q1, q2⟩ := E.cell
  obtain ⟨v, _, ⟨T', L', k', n'⟩, -, X', ⟨Lc, hQ, l1, y1, z1⟩, st⟩ := X.privateBack hx (y := y) hown (mvT hZ w1) (mvT hZ w6) (mvT hZ w5) (Cond.privateMethod_at (mvP hZ w7 (args := #[]))) (mvT hZ w4) hy (backOf (W := W) hM hZ w4 w3 hf hl) hg hsize (Steps.refl _) (a := a) (by rw [eT]; exact q1) q2 (argsL := argsL) (rest := rest) hlen hstack hW hdg (fun _ _ => ⟨has, eT, hcells, hslots⟩)
  dsimp only [Pt.U, Pt.locs, Pt.cells, Pt.slots] at X' l1 y1 z1 st hQ
  subst l1 y1 z1
  exact go_step (fun t k => st.trans k) (k T' v Lc X' hQ)
theorem go_callRP (X : Stand p l e R s m args below meth c T locs cells slots) (hx : p.tables.exec = Jvm.exec) (hZ : Z.Warmed39 s.vm) {own : String} {index : Nat} {y : MethodName} {bytes : ByteArray} {maxL : Nat} {rt : Option FieldType} {rm : Room} {as : Array Value} {r : Option Value}
    (hown : s.vm.findClass own = some m.cls) (w1 : (Cond.methodLink own index y).before a0 Z = true) (w6 : (Cond.instanceMethod y).before a0 Z = true) (w5 : (Cond.selects y.cls y y).before a0 Z = true) (w7 : (Cond.privateMethod y).before a0 Z = true) (w3 : (Cond.initialized y.cls).before a0 Z = true) (w4 : (Cond.code y bytes maxL rt).before a0 Z = true)
    (hy : y.cls ≠ "java/lang/invoke/MethodHandle" ∧ y.cls ≠ "java/lang/invoke/VarHandle") (eT : T.heap = h) {K : String} (E : Exa Z h a K) (hM : MQ l Z y bytes maxL rt [] rm as h (QP r h)) (W : Nat) (hf : rm.frames + 1 ≤ R.frames) (hl : W + (maxL + 11) + rm.locals ≤ R.locals)
    (hg : g.method = m) (hsize : g.locals.size = c.maxLocals) {argsL rest : List Value} (hlen : ∀ sig, parseMethodDescriptor y.desc = some sig → argsL.length = sig.parameters.length)
    (hstack : g.stack = argsL.reverse ++ .ref a :: rest) (hW : 2 * g.monitorRoom + (rest.map fun v => v.category).sum ≤ W) (hdg : decode c.code g.pc = .ok (.invokevirtual index, 3)) (has : (.ref a :: argsL).toArray = as) (hrc : rm.cells = 0) (hrs : rm.slots = 0) (hcells : cells ≤ R.cells) (hslots : slots ≤ R.slots)
    (k : ∀ (T' : State), Stand p l e R s m args below meth c T' locs cells slots → T'.heap = h → Go p e below s C S Q T' { g with pc := g.pc + 3, stack := r.toList ++ rest }) :
    Go p e below s C S Q T g :=
  go_callR X hx hZ hown w1 w6 w5 w7 w3 w4 hy eT E hM W hf hl hg hsize hlen hstack hW hdg has (by rw [hrc]; exact hcells) (by rw [hrs]; exact hslots) fun T' v L X' hQ => by
    obtain ⟨rfl, e', rfl⟩ := hQ
    rw [hrc, hrs, List.append_nil] at X'
    exact k T' X' e'
theorem go_join (X : Stand p l e R s m args below meth c T locs cells slots) (k1 : (∀ (T' : State), Stand p l e R s m args below meth c T' locs cells slots → T'.heap = h → Go p e below s C S Q T' g') → Go p e below s C S Q T g) (k2 : ∀ (T' : State), Stand p l e R s m args below meth c T' locs cells slots → T'.heap = h → Go p e below s C S Q T' g') : Go p e below s C S Q T g := k1 k2
end Heapy

theorem pd_0 : parseMethodDescriptor "(JJ)J" = some ⟨[.long, .long], some .long⟩ := by decide +kernel
theorem pd_1 : parseMethodDescriptor "(I[J)V" = some ⟨[.int, (.array .long)], none⟩ := by decide +kernel
theorem pd_2 : parseMethodDescriptor "(I)J" = some ⟨[.int], some .long⟩ := by decide +kernel
theorem own_idx (v : Int32) : ¬ ((v &&& (2147483647 : Int32)) % (3 : Int32)) < 0 ∧ ((v &&& (2147483647 : Int32)) % (3 : Int32)).toNatClampNeg < 3 := by
  have m2 := c_and v (2147483647 : Int32) (by decide)
  have m3 := (c_irem (v &&& (2147483647 : Int32)) (3 : Int32) 3 (by decide)).1 m2.1
  constructor
  · rw [Int32.lt_iff_toInt_lt, show (0 : Int32).toInt = 0 by decide]; omega
  · unfold Int32.toNatClampNeg; omega

theorem d1_0 : decode jdk_29_method_66_code 0 = .ok (.lload_n 0, 1) := by decide +kernel
theorem d1_1 : decode jdk_29_method_66_code 1 = .ok (.lload_n 2, 1) := by decide +kernel
theorem d1_2 : decode jdk_29_method_66_code 2 = .ok (.lcmp, 1) := by decide +kernel
theorem d1_3 : decode jdk_29_method_66_code 3 = .ok (.ifCond .lt 7, 3) := by decide +kernel
theorem d1_6 : decode jdk_29_method_66_code 6 = .ok (.lload_n 0, 1) := by decide +kernel
theorem d1_7 : decode jdk_29_method_66_code 7 = .ok (.goto 4, 3) := by decide +kernel
theorem d1_10 : decode jdk_29_method_66_code 10 = .ok (.lload_n 2, 1) := by decide +kernel
theorem d1_11 : decode jdk_29_method_66_code 11 = .ok (.lreturn, 1) := by decide +kernel
def f1_0 (v0 : Int64) (v1 : Int64) : Int64 := (if v0 < v1 then v1 else v0)
set_option maxRecDepth 65536 in
set_option maxHeartbeats 4000000 in
theorem b1_0 {p : Program} {l : Launch} {e : Env} {s : State} {m : MethodId} {args : Array Value} {below : List Frame} {meth : Method} {c : Code} {T0 : State} {Z : State} {a0 : Array Value} {h0 : Heap} {locs : List Loc} {cells slots : Nat} {Q : Option Value → Heap → List Loc → Prop} (hw : ∀ d ∈ tables_1, d.before a0 Z = true) (hx : p.tables.exec = Jvm.exec) (hby : c.code = jdk_29_method_66_code) (hml : c.maxLocals = 4) (hown : s.vm.findClass "java/lang/Math" = some m.cls) (hZ : Z.Warmed39 s.vm) (hret : meth.sig.returnType = some .long) (hlk : meth.locks = false) (X0 : Stand p l e ({ frames := 0, cells := 0, slots := 0, locals := 0 } : Room) s m args below meth c T0 locs cells slots) (e0 : T0.heap = h0) (hc : cells ≤ ({ frames := 0, cells := 0, slots := 0, locals := 0 } : Room).cells) (hs : slots ≤ ({ frames := 0, cells := 0, slots := 0, locals := 0 } : Room).slots) (v0 : Int64) (v1 : Int64) (hq : Q (some (.long (f1_0 v0 v1))) h0 locs) :
    Go p e below s ({ frames := 0, cells := 0, slots := 0, locals := 0 } : Room).cells ({ frames := 0, cells := 0, slots := 0, locals := 0 } : Room).slots Q T0 (mkF m 0 #[.val (.long v0), .second, .val (.long v1), .second] []) := by
  unfold f1_0 at hq
  refine go_step (T' := T0) (g' := (mkF m 1 #[.val (.long v0), .second, .val (.long v1), .second] [(.long v0)])) (fun t k => XS.lloadN X0.here hx rfl (hb hby d1_0) rfl  k) ?_
  refine go_step (T' := T0) (g' := (mkF m 2 #[.val (.long v0), .second, .val (.long v1), .second] [(.long v1), (.long v0)])) (fun t k => XS.lloadN X0.here hx rfl (hb hby d1_1) rfl  k) ?_
  refine go_step (T' := T0) (g' := (mkF m 3 #[.val (.long v0), .second, .val (.long v1), .second] [(.int (lcmpW v0 v1))])) (fun t k => XS.lcmp X0.here hx rfl (hb hby d1_2) rfl k) ?_
  by_cases hc0 : v0 < v1
  · rw [if_pos hc0] at hq
    refine go_step (T' := T0) (g' := (mkF m 10 #[.val (.long v0), .second, .val (.long v1), .second] [])) (fun t k => XS.ifYes X0.here hx rfl (pc0 := 3) (pc' := 10) rfl (hb hby d1_3) rfl ((if0 _ _).trans (tlt ((lw_lt _ _).mpr hc0)).1) (by decide) (by decide) k) ?_
    refine go_step (T' := T0) (g' := (mkF m 11 #[.val (.long v0), .second, .val (.long v1), .second] [(.long v1)])) (fun t k => XS.lloadN X0.here hx rfl (hb hby d1_10) rfl  k) ?_
    exact go_retJ X0 hx hlk hret (hb hby d1_11) e0 hq hc hs
  · rw [if_neg hc0] at hq
    refine go_step (T' := T0) (g' := (mkF m 6 #[.val (.long v0), .second, .val (.long v1), .second] [])) (fun t k => XS.ifNo X0.here hx rfl (hb hby d1_3) rfl ((if0 _ _).trans (flt (fun q => hc0 ((lw_lt _ _).mp q))).1) k) ?_
    refine go_step (T' := T0) (g' := (mkF m 7 #[.val (.long v0), .second, .val (.long v1), .second] [(.long v0)])) (fun t k => XS.lloadN X0.here hx rfl (hb hby d1_6) rfl  k) ?_
    refine go_step (T' := T0) (g' := (mkF m 11 #[.val (.long v0), .second, .val (.long v1), .second] [(.long v0)])) (fun t k => XS.goto X0.here hx rfl (pc0 := 7) (pc' := 11) rfl (hb hby d1_7) (by decide) (by decide) k) ?_
    exact go_retJ X0 hx hlk hret (hb hby d1_11) e0 hq hc hs
theorem ef1 (m : MethodId) (v0 : Int64) (v1 : Int64) : entryFrame m #[(.long v0), (.long v1)] 4 = (mkF m 0 #[.val (.long v0), .second, .val (.long v1), .second] []) := by first | (simp [entryFrame, mkF, argsToLocals, Value.category]; done) | rfl
set_option maxRecDepth 65536 in
theorem mq1 (l : Launch) (Z : State) (a0 : Array Value) (hw : ∀ d ∈ tables_1, d.before a0 Z = true) (v0 : Int64) (v1 : Int64) (h0 : Heap) : MQ l Z (⟨"java/lang/Math", "max", "(JJ)J"⟩ : MethodName) jdk_29_method_66_code 4 (some .long) [] ({ frames := 0, cells := 0, slots := 0, locals := 0 } : Room) #[(.long v0), (.long v1)] h0 (QP (some (.long (f1_0 v0 v1))) h0) := by
  refine mq_of (Jvm.Free.JP.mathPlain rfl (by decide +kernel)) ?_
  intro p e s m below meth c T0 X0 hx hby hml hown hnm hZ e0 hret hlk
  rw [ef1]
  exact b1_0 hw hx hby hml hown hZ hret hlk X0 e0 (Nat.zero_le _) (Nat.zero_le _) v0 v1 ⟨rfl, rfl, rfl⟩
theorem d2_0 : decode prog_34_method_1_code 0 = .ok (.aload_n 0, 1) := by decide +kernel
theorem d2_1 : decode prog_34_method_1_code 1 = .ok (.invokespecial 1, 3) := by decide +kernel
theorem d2_4 : decode prog_34_method_1_code 4 = .ok (.aload_n 0, 1) := by decide +kernel
theorem d2_5 : decode prog_34_method_1_code 5 = .ok (.iload_n 1, 1) := by decide +kernel
theorem d2_6 : decode prog_34_method_1_code 6 = .ok (.putfield 7, 3) := by decide +kernel
theorem d2_9 : decode prog_34_method_1_code 9 = .ok (.aload_n 0, 1) := by decide +kernel
theorem d2_10 : decode prog_34_method_1_code 10 = .ok (.aload_n 2, 1) := by decide +kernel
theorem d2_11 : decode prog_34_method_1_code 11 = .ok (.putfield 13, 3) := by decide +kernel
theorem d2_14 : decode prog_34_method_1_code 14 = .ok (.return_, 1) := by decide +kernel
def f2_vertexCount (v1 : Int32) : Int32 := v1
theorem ef2 (m : MethodId) (v0 : Addr) (v1 : Int32) (v2 : Addr) : entryFrame m #[(.ref v0), (.int v1), (.ref v2)] 3 = (mkF m 0 #[.val (.ref v0), .val (.int v1), .val (.ref v2)] []) := by first | (simp [entryFrame, mkF, argsToLocals, Value.category]; done) | rfl
theorem pn2 : plainName "com/example/thicket/thicket/graph/VertexWeights" = true := by first | (simp [plainName, overriddenIn]; done) | decide +kernel
def Q2 (Z : State) (v0 : Addr) (v1 : Int32) (v2 : Addr) (h0 : Heap) (n0 : Nat) (v : Option Value) (h : Heap) (L : List Loc) : Prop := v = none ∧ Fr n0 L ∧ Keep h0 h [v0] ∧ Fld Z h v0 "com/example/thicket/thicket/graph/VertexWeights" "vertexCount" "I" (.int (f2_vertexCount v1)) ∧ Fld Z h v0 "com/example/thicket/thicket/graph/VertexWeights" "millionths" "[J" (.ref v2)
set_option maxRecDepth 65536 in
set_option maxHeartbeats 40000000 in
theorem mq2 (l : Launch) (Z : State) (a0 : Array Value) (hw : ∀ d ∈ tables_1, d.before a0 Z = true) (v0 : Addr) (v1 : Int32) (v2 : Addr)  (h0 : Heap) (n0 : Nat) (Z0 : n0 ≤ h0.size) (P0 : Exa Z h0 v0 "com/example/thicket/thicket/graph/VertexWeights") (P1 : Fld Z h0 v0 "com/example/thicket/thicket/graph/VertexWeights" "vertexCount" "I" (.int (0 : Int32))) (P2 : Fld Z h0 v0 "com/example/thicket/thicket/graph/VertexWeights" "millionths" "[J" .null) (g_v0 : n0 ≤ v0) : MQ l Z (⟨"com/example/thicket/thicket/graph/VertexWeights", "<init>", "(I[J)V"⟩ : MethodName) prog_34_method_1_code 3 none [] ({ frames := 1, cells := 0, slots := 0, locals := 12 } : Room) #[(.ref v0), (.int v1), (.ref v2)] h0 (Q2 Z v0 v1 v2 h0 n0) := by
  refine mq_of (plainFor_of_name pn2) ?_
  intro p e s m below meth c T0 X0 hx hby hml hown hnm hZ e0 hret hlk
  rw [ef2]
  have N0 := Fr.nil n0
  have K0 := Keep.refl h0 [v0]
  refine go_step (T' := T0) (g' := (mkF m 1 #[.val (.ref v0), .val (.int v1), .val (.ref v2)] [(.ref v0)])) (fun t k => XS.aloadN X0.here hx rfl (hb hby d2_0) rfl rfl k) ?_
  refine go_init X0 hx hZ hown (hw _ (List.mem_of_getElem? (i := 13) rfl)) (hw _ (List.mem_of_getElem? (i := 14) rfl)) (hw _ (List.mem_of_getElem? (i := 15) rfl)) e0 (g := (mkF m 1 #[.val (.ref v0), .val (.int v1), .val (.ref v2)] [(.ref v0)])) rfl (by rw [hml]; rfl) rfl (hb hby d2_1) (by decide) 0 (by show 2 * 0 + _ ≤ _; exact Nat.le_of_eq rfl) (by decide) (fun T1 X2 e3 => ?_)
  show Go p e below s _ _ _ T1 (mkF m 4 #[.val (.ref v0), .val (.int v1), .val (.ref v2)] [])
  refine go_step (T' := T1) (g' := (mkF m 5 #[.val (.ref v0), .val (.int v1), .val (.ref v2)] [(.ref v0)])) (fun t k => XS.aloadN X2.here hx rfl (hb hby d2_4) rfl rfl k) ?_
  refine go_step (T' := T1) (g' := (mkF m 6 #[.val (.ref v0), .val (.int v1), .val (.ref v2)] [(.int v1), (.ref v0)])) (fun t k => XS.iloadN X2.here hx rfl (hb hby d2_5) rfl  k) ?_
  refine go_putF X2 hx hZ hown (hw _ (List.mem_of_getElem? (i := 16) rfl)) e3 P1 P0 (Or.inr ⟨(hw _ (List.mem_of_getElem? (i := 17) rfl)), rfl, hnm⟩) (hw _ (List.mem_of_getElem? (i := 8) rfl)) (ty := .int) (by decide) rfl rfl (g := (mkF m 6 #[.val (.ref v0), .val (.int v1), .val (.ref v2)] [(.int v1), (.ref v0)])) rfl rfl (hb hby d2_6) (fun T4 h5 X6 e7 W8 F9 => ?_)
  have K10 := K0.wr W8 (Or.inl (List.mem_of_getElem? (i := 0) rfl))
  have N11 := Fr.snoc X6 N0 g_v0
  show Go p e below s _ _ _ T4 (mkF m 9 #[.val (.ref v0), .val (.int v1), .val (.ref v2)] [])
  refine go_step (T' := T4) (g' := (mkF m 10 #[.val (.ref v0), .val (.int v1), .val (.ref v2)] [(.ref v0)])) (fun t k => XS.aloadN X6.here hx rfl (hb hby d2_9) rfl rfl k) ?_
  refine go_step (T' := T4) (g' := (mkF m 11 #[.val (.ref v0), .val (.int v1), .val (.ref v2)] [(.ref v2), (.ref v0)])) (fun t k => XS.aloadN X6.here hx rfl (hb hby d2_10) rfl rfl k) ?_
  have G12 : Fld Z h5 v0 "com/example/thicket/thicket/graph/VertexWeights" "millionths" "[J" .null := (Fld.other W8 P2 (Or.inr (slot_ne (Or.inr (hw _ (List.mem_of_getElem? (i := 19) rfl))) (Or.inr (hw _ (List.mem_of_getElem? (i := 17) rfl))) (by decide) (t := (.array .long)) (t' := .int) (by decide) (by decide))))
  have G13 : Exa Z h5 v0 "com/example/thicket/thicket/graph/VertexWeights" := (Exa.wr W8 P0)
  refine go_putF X6 hx hZ hown (hw _ (List.mem_of_getElem? (i := 18) rfl)) e7 G12 G13 (Or.inr ⟨(hw _ (List.mem_of_getElem? (i := 19) rfl)), rfl, hnm⟩) (hw _ (List.mem_of_getElem? (i := 8) rfl)) (ty := (.array .long)) (by decide) rfl rfl (g := (mkF m 11 #[.val (.ref v0), .val (.int v1), .val (.ref v2)] [(.ref v2), (.ref v0)])) rfl rfl (hb hby d2_11) (fun T14 h15 X16 e17 W18 F19 => ?_)
  have K20 := K10.wr W18 (Or.inl (List.mem_of_getElem? (i := 0) rfl))
  have N21 := Fr.snoc X16 N11 g_v0
  show Go p e below s _ _ _ T14 (mkF m 14 #[.val (.ref v0), .val (.int v1), .val (.ref v2)] [])
  have G22 : Fld Z h15 v0 "com/example/thicket/thicket/graph/VertexWeights" "vertexCount" "I" (.int v1) := (Fld.other W18 F9 (Or.inr (slot_ne (Or.inr (hw _ (List.mem_of_getElem? (i := 17) rfl))) (Or.inr (hw _ (List.mem_of_getElem? (i := 19) rfl))) (by decide) (t := .int) (t' := (.array .long)) (by decide) (by decide))))
  exact go_retV X16 hx hlk hret (hb hby d2_14) e17 ⟨rfl, N21, K20, (by unfold f2_vertexCount; exact G22), F19⟩ (by decide) (by decide)
def f2n_vertexCount (v1 : Int32) : Int32 := v1
theorem ef2n (m : MethodId) (v0 : Addr) (v1 : Int32) : entryFrame m #[(.ref v0), (.int v1), .null] 3 = (mkF m 0 #[.val (.ref v0), .val (.int v1), .val .null] []) := by first | (simp [entryFrame, mkF, argsToLocals, Value.category]; done) | rfl
theorem pn2n : plainName "com/example/thicket/thicket/graph/VertexWeights" = true := by first | (simp [plainName, overriddenIn]; done) | decide +kernel
def Q2n (Z : State) (v0 : Addr) (v1 : Int32) (h0 : Heap) (n0 : Nat) (v : Option Value) (h : Heap) (L : List Loc) : Prop := v = none ∧ Fr n0 L ∧ Keep h0 h [v0] ∧ Fld Z h v0 "com/example/thicket/thicket/graph/VertexWeights" "vertexCount" "I" (.int (f2n_vertexCount v1)) ∧ Fld Z h v0 "com/example/thicket/thicket/graph/VertexWeights" "millionths" "[J" .null
set_option maxRecDepth 65536 in
set_option maxHeartbeats 40000000 in
theorem mq2n (l : Launch) (Z : State) (a0 : Array Value) (hw : ∀ d ∈ tables_1, d.before a0 Z = true) (v0 : Addr) (v1 : Int32)  (h0 : Heap) (n0 : Nat) (Z0 : n0 ≤ h0.size) (P0 : Exa Z h0 v0 "com/example/thicket/thicket/graph/VertexWeights") (P1 : Fld Z h0 v0 "com/example/thicket/thicket/graph/VertexWeights" "vertexCount" "I" (.int (0 : Int32))) (P2 : Fld Z h0 v0 "com/example/thicket/thicket/graph/VertexWeights" "millionths" "[J" .null) (g_v0 : n0 ≤ v0) : MQ l Z (⟨"com/example/thicket/thicket/graph/VertexWeights", "<init>", "(I[J)V"⟩ : MethodName) prog_34_method_1_code 3 none [] ({ frames := 1, cells := 0, slots := 0, locals := 12 } : Room) #[(.ref v0), (.int v1), .null] h0 (Q2n Z v0 v1 h0 n0) := by
  refine mq_of (plainFor_of_name pn2n) ?_
  intro p e s m below meth c T0 X0 hx hby hml hown hnm hZ e0 hret hlk
  rw [ef2n]
  have N0 := Fr.nil n0
  have K0 := Keep.refl h0 [v0]
  refine go_step (T' := T0) (g' := (mkF m 1 #[.val (.ref v0), .val (.int v1), .val .null] [(.ref v0)])) (fun t k => XS.aloadN X0.here hx rfl (hb hby d2_0) rfl rfl k) ?_
  refine go_init X0 hx hZ hown (hw _ (List.mem_of_getElem? (i := 13) rfl)) (hw _ (List.mem_of_getElem? (i := 14) rfl)) (hw _ (List.mem_of_getElem? (i := 15) rfl)) e0 (g := (mkF m 1 #[.val (.ref v0), .val (.int v1), .val .null] [(.ref v0)])) rfl (by rw [hml]; rfl) rfl (hb hby d2_1) (by decide) 0 (by show 2 * 0 + _ ≤ _; exact Nat.le_of_eq rfl) (by decide) (fun T1 X2 e3 => ?_)
  show Go p e below s _ _ _ T1 (mkF m 4 #[.val (.ref v0), .val (.int v1), .val .null] [])
  refine go_step (T' := T1) (g' := (mkF m 5 #[.val (.ref v0), .val (.int v1), .val .null] [(.ref v0)])) (fun t k => XS.aloadN X2.here hx rfl (hb hby d2_4) rfl rfl k) ?_
  refine go_step (T' := T1) (g' := (mkF m 6 #[.val (.ref v0), .val (.int v1), .val .null] [(.int v1), (.ref v0)])) (fun t k => XS.iloadN X2.here hx rfl (hb hby d2_5) rfl  k) ?_
  refine go_putF X2 hx hZ hown (hw _ (List.mem_of_getElem? (i := 16) rfl)) e3 P1 P0 (Or.inr ⟨(hw _ (List.mem_of_getElem? (i := 17) rfl)), rfl, hnm⟩) (hw _ (List.mem_of_getElem? (i := 8) rfl)) (ty := .int) (by decide) rfl rfl (g := (mkF m 6 #[.val (.ref v0), .val (.int v1), .val .null] [(.int v1), (.ref v0)])) rfl rfl (hb hby d2_6) (fun T4 h5 X6 e7 W8 F9 => ?_)
  have K10 := K0.wr W8 (Or.inl (List.mem_of_getElem? (i := 0) rfl))
  have N11 := Fr.snoc X6 N0 g_v0
  show Go p e below s _ _ _ T4 (mkF m 9 #[.val (.ref v0), .val (.int v1), .val .null] [])
  refine go_step (T' := T4) (g' := (mkF m 10 #[.val (.ref v0), .val (.int v1), .val .null] [(.ref v0)])) (fun t k => XS.aloadN X6.here hx rfl (hb hby d2_9) rfl rfl k) ?_
  refine go_step (T' := T4) (g' := (mkF m 11 #[.val (.ref v0), .val (.int v1), .val .null] [.null, (.ref v0)])) (fun t k => XS.aloadN X6.here hx rfl (hb hby d2_10) rfl rfl k) ?_
  have G12 : Fld Z h5 v0 "com/example/thicket/thicket/graph/VertexWeights" "millionths" "[J" .null := (Fld.other W8 P2 (Or.inr (slot_ne (Or.inr (hw _ (List.mem_of_getElem? (i := 19) rfl))) (Or.inr (hw _ (List.mem_of_getElem? (i := 17) rfl))) (by decide) (t := (.array .long)) (t' := .int) (by decide) (by decide))))
  have G13 : Exa Z h5 v0 "com/example/thicket/thicket/graph/VertexWeights" := (Exa.wr W8 P0)
  refine go_putF X6 hx hZ hown (hw _ (List.mem_of_getElem? (i := 18) rfl)) e7 G12 G13 (Or.inr ⟨(hw _ (List.mem_of_getElem? (i := 19) rfl)), rfl, hnm⟩) (hw _ (List.mem_of_getElem? (i := 8) rfl)) (ty := (.array .long)) (by decide) rfl rfl (g := (mkF m 11 #[.val (.ref v0), .val (.int v1), .val .null] [.null, (.ref v0)])) rfl rfl (hb hby d2_11) (fun T14 h15 X16 e17 W18 F19 => ?_)
  have K20 := K10.wr W18 (Or.inl (List.mem_of_getElem? (i := 0) rfl))
  have N21 := Fr.snoc X16 N11 g_v0
  show Go p e below s _ _ _ T14 (mkF m 14 #[.val (.ref v0), .val (.int v1), .val .null] [])
  have G22 : Fld Z h15 v0 "com/example/thicket/thicket/graph/VertexWeights" "vertexCount" "I" (.int v1) := (Fld.other W18 F9 (Or.inr (slot_ne (Or.inr (hw _ (List.mem_of_getElem? (i := 17) rfl))) (Or.inr (hw _ (List.mem_of_getElem? (i := 19) rfl))) (by decide) (t := .int) (t' := (.array .long)) (by decide) (by decide))))
  exact go_retV X16 hx hlk hret (hb hby d2_14) e17 ⟨rfl, N21, K20, (by unfold f2n_vertexCount; exact G22), F19⟩ (by decide) (by decide)
theorem d4_0 : decode prog_34_method_6_code 0 = .ok (.aload_n 0, 1) := by decide +kernel
theorem d4_1 : decode prog_34_method_6_code 1 = .ok (.getfield 13, 3) := by decide +kernel
theorem d4_4 : decode prog_34_method_6_code 4 = .ok (.ifnonnull 9, 3) := by decide +kernel
theorem d4_13 : decode prog_34_method_6_code 13 = .ok (.aload_n 0, 1) := by decide +kernel
theorem d4_14 : decode prog_34_method_6_code 14 = .ok (.getfield 13, 3) := by decide +kernel
theorem d4_17 : decode prog_34_method_6_code 17 = .ok (.iload_n 1, 1) := by decide +kernel
theorem d4_18 : decode prog_34_method_6_code 18 = .ok (.laload, 1) := by decide +kernel
theorem d4_19 : decode prog_34_method_6_code 19 = .ok (.lreturn, 1) := by decide +kernel
def f4_ret (v1 : Int32) (xs : List Int64) : Int64 := (xs.getD (v1).toNatClampNeg 0)
theorem ef4 (m : MethodId) (v0 : Addr) (v1 : Int32) : entryFrame m #[(.ref v0), (.int v1)] 2 = (mkF m 0 #[.val (.ref v0), .val (.int v1)] []) := by first | (simp [entryFrame, mkF, argsToLocals, Value.category]; done) | rfl
theorem pn4 : plainName "com/example/thicket/thicket/graph/VertexWeights" = true := by first | (simp [plainName, overriddenIn]; done) | decide +kernel
set_option maxRecDepth 65536 in
set_option maxHeartbeats 40000000 in
theorem mq4 (l : Launch) (Z : State) (a0 : Array Value) (hw : ∀ d ∈ tables_1, d.before a0 Z = true) (v0 : Addr) (v1 : Int32) (ar : Addr) (xs : List Int64) (h0 : Heap) (n0 : Nat) (Z0 : n0 ≤ h0.size) (P0 : Fld Z h0 v0 "com/example/thicket/thicket/graph/VertexWeights" "millionths" "[J" (.ref ar)) (P1 : JA Z h0 ar xs) (hi0 : ¬ v1 < 0) (hi1 : v1.toNatClampNeg < xs.length) : MQ l Z (⟨"com/example/thicket/thicket/graph/VertexWeights", "weight", "(I)J"⟩ : MethodName) prog_34_method_6_code 2 (some .long) [] ({ frames := 0, cells := 0, slots := 0, locals := 0 } : Room) #[(.ref v0), (.int v1)] h0 (QP (some (.long (f4_ret v1 xs))) h0) := by
  refine mq_of (plainFor_of_name pn4) ?_
  intro p e s m below meth c T0 X0 hx hby hml hown hnm hZ e0 hret hlk
  rw [ef4]
  have N0 := Fr.nil n0
  have K0 := Keep.refl h0 []
  refine go_step (T' := T0) (g' := (mkF m 1 #[.val (.ref v0), .val (.int v1)] [(.ref v0)])) (fun t k => XS.aloadN X0.here hx rfl (hb hby d4_0) rfl rfl k) ?_
  refine go_getF X0 hx hZ hown (hw _ (List.mem_of_getElem? (i := 18) rfl)) e0 P0 (g := (mkF m 1 #[.val (.ref v0), .val (.int v1)] [(.ref v0)])) rfl rfl (hb hby d4_1) (fun T1 X2 e3 => ?_)
  show Go p e below s _ _ _ T1 (mkF m 4 #[.val (.ref v0), .val (.int v1)] [(.ref ar)])
  refine go_step (T' := T1) (g' := (mkF m 13 #[.val (.ref v0), .val (.int v1)] [])) (fun t k => XS.ifnonnullYes X2.here hx rfl (pc0 := 4) (pc' := 13) rfl (hb hby d4_4) rfl (by decide) (by decide) k) ?_
  refine go_step (T' := T1) (g' := (mkF m 14 #[.val (.ref v0), .val (.int v1)] [(.ref v0)])) (fun t k => XS.aloadN X2.here hx rfl (hb hby d4_13) rfl rfl k) ?_
  refine go_getF X2 hx hZ hown (hw _ (List.mem_of_getElem? (i := 18) rfl)) e3 P0 (g := (mkF m 14 #[.val (.ref v0), .val (.int v1)] [(.ref v0)])) rfl rfl (hb hby d4_14) (fun T4 X5 e6 => ?_)
  show Go p e below s _ _ _ T4 (mkF m 17 #[.val (.ref v0), .val (.int v1)] [(.ref ar)])
  refine go_step (T' := T4) (g' := (mkF m 18 #[.val (.ref v0), .val (.int v1)] [(.int v1), (.ref ar)])) (fun t k => XS.iloadN X5.here hx rfl (hb hby d4_17) rfl  k) ?_
  refine go_laload X5 hx hZ e6 P1 hi0 (getD_some (d := 0) hi1) (g := (mkF m 18 #[.val (.ref v0), .val (.int v1)] [(.int v1), (.ref ar)])) rfl rfl (hb hby d4_18) ?_
  show Go p e below s _ _ _ T4 (mkF m 19 #[.val (.ref v0), .val (.int v1)] [(.long (xs.getD (v1).toNatClampNeg 0))])
  exact go_retJ X5 hx hlk hret (hb hby d4_19) e6 ⟨(by unfold f4_ret; rfl), rfl, rfl⟩ (by decide) (by decide)
theorem d4_7 : decode prog_34_method_6_code 7 = .ok (.ldc2_w 27, 3) := by decide +kernel
theorem d4_10 : decode prog_34_method_6_code 10 = .ok (.goto 9, 3) := by decide +kernel
def f4n_ret (v1 : Int32) : Int64 := (1000000 : Int64)
theorem ef4n (m : MethodId) (v0 : Addr) (v1 : Int32) : entryFrame m #[(.ref v0), (.int v1)] 2 = (mkF m 0 #[.val (.ref v0), .val (.int v1)] []) := by first | (simp [entryFrame, mkF, argsToLocals, Value.category]; done) | rfl
theorem pn4n : plainName "com/example/thicket/thicket/graph/VertexWeights" = true := by first | (simp [plainName, overriddenIn]; done) | decide +kernel
set_option maxRecDepth 65536 in
set_option maxHeartbeats 40000000 in
theorem mq4n (l : Launch) (Z : State) (a0 : Array Value) (hw : ∀ d ∈ tables_1, d.before a0 Z = true) (v0 : Addr) (v1 : Int32)  (h0 : Heap) (n0 : Nat) (Z0 : n0 ≤ h0.size) (P0 : Fld Z h0 v0 "com/example/thicket/thicket/graph/VertexWeights" "millionths" "[J" .null) : MQ l Z (⟨"com/example/thicket/thicket/graph/VertexWeights", "weight", "(I)J"⟩ : MethodName) prog_34_method_6_code 2 (some .long) [] ({ frames := 0, cells := 0, slots := 0, locals := 0 } : Room) #[(.ref v0), (.int v1)] h0 (QP (some (.long (f4n_ret v1))) h0) := by
  refine mq_of (plainFor_of_name pn4n) ?_
  intro p e s m below meth c T0 X0 hx hby hml hown hnm hZ e0 hret hlk
  rw [ef4n]
  have N0 := Fr.nil n0
  have K0 := Keep.refl h0 []
  refine go_step (T' := T0) (g' := (mkF m 1 #[.val (.ref v0), .val (.int v1)] [(.ref v0)])) (fun t k => XS.aloadN X0.here hx rfl (hb hby d4_0) rfl rfl k) ?_
  refine go_getF X0 hx hZ hown (hw _ (List.mem_of_getElem? (i := 18) rfl)) e0 P0 (g := (mkF m 1 #[.val (.ref v0), .val (.int v1)] [(.ref v0)])) rfl rfl (hb hby d4_1) (fun T1 X2 e3 => ?_)
  show Go p e below s _ _ _ T1 (mkF m 4 #[.val (.ref v0), .val (.int v1)] [.null])
  refine go_step (T' := T1) (g' := (mkF m 7 #[.val (.ref v0), .val (.int v1)] [])) (fun t k => XS.ifnonnullNo X2.here hx rfl (hb hby d4_4) rfl k) ?_
  refine go_step (T' := T1) (g' := (mkF m 10 #[.val (.ref v0), .val (.int v1)] [(.long (1000000 : Int64))])) (X2.ldc2Long hx hown (mvT hZ (hw _ (List.mem_of_getElem? (i := 25) rfl))) (g := (mkF m 7 #[.val (.ref v0), .val (.int v1)] [])) rfl (hb hby d4_7)) ?_
  refine go_step (T' := T1) (g' := (mkF m 19 #[.val (.ref v0), .val (.int v1)] [(.long (1000000 : Int64))])) (fun t k => XS.goto X2.here hx rfl (pc0 := 10) (pc' := 19) rfl (hb hby d4_10) (by decide) (by decide) k) ?_
  exact go_retJ X2 hx hlk hret (hb hby d4_19) e3 ⟨(by unfold f4n_ret; rfl), rfl, rfl⟩ (by decide) (by decide)
def f0_150 (v0 : Int32) (v1 : Int32) (v2 : Int64) (v4 : Int64) (v6 : Int64) (v8 : Int64) (v10 : Int64) (v12 : Int64) (v14 : Int32) (v15 : Int32) (v18 : Int64) (v20 : Int64) : Int32 := (if v18 = v20 then (1 : Int32) else (0 : Int32))
set_option maxRecDepth 65536 in
set_option maxHeartbeats 4000000 in
theorem b0_150 {p : Program} {l : Launch} {e : Env} {s : State} {m : MethodId} {args : Array Value} {below : List Frame} {meth : Method} {c : Code} {T0 : State} {Z : State} {a0 : Array Value} {h0 : Heap} {locs : List Loc} {cells slots : Nat} {Q : Option Value → Heap → List Loc → Prop} (hw : ∀ d ∈ tables_1, d.before a0 Z = true) (hx : p.tables.exec = Jvm.exec) (hby : c.code = code) (hml : c.maxLocals = 22) (hown : s.vm.findClass "com/example/thicket/thicket/graph/VertexWeightsWeightPinLaw" = some m.cls) (hZ : Z.Warmed39 s.vm) (hret : meth.sig.returnType = some .boolean) (hlk : meth.locks = false) (X0 : Stand p l e room_1 s m args below meth c T0 locs cells slots) (e0 : T0.heap = h0) (hc : cells ≤ room_1.cells) (hs : slots ≤ room_1.slots) (v0 : Int32) (v1 : Int32) (v2 : Int64) (v4 : Int64) (v6 : Int64) (v8 : Int64) (v10 : Int64) (v12 : Int64) (v14 : Int32) (v15 : Int32) (o16 : Slot) (ho16 : One o16) (o17 : Slot) (ho17 : One o17) (v18 : Int64) (v20 : Int64) (hq : Q (some (.int (f0_150 v0 v1 v2 v4 v6 v8 v10 v12 v14 v15 v18 v20))) h0 locs) :
    Go p e below s room_1.cells room_1.slots Q T0 (mkF m 150 #[.val (.int v0), .val (.int v1), .val (.long v2), .second, .val (.long v4), .second, .val (.long v6), .second, .val (.long v8), .second, .val (.long v10), .second, .val (.long v12), .second, .val (.int v14), .val (.int v15), o16, o17, .val (.long v18), .second, .val (.long v20), .second] []) := by
  unfold f0_150 at hq
  refine go_step (T' := T0) (g' := (mkF m 152 #[.val (.int v0), .val (.int v1), .val (.long v2), .second, .val (.long v4), .second, .val (.long v6), .second, .val (.long v8), .second, .val (.long v10), .second, .val (.long v12), .second, .val (.int v14), .val (.int v15), o16, o17, .val (.long v18), .second, .val (.long v20), .second] [(.long v18)])) (fun t k => XS.lload X0.here hx rfl (hb hby at_150) rfl  k) ?_
  refine go_step (T' := T0) (g' := (mkF m 154 #[.val (.int v0), .val (.int v1), .val (.long v2), .second, .val (.long v4), .second, .val (.long v6), .second, .val (.long v8), .second, .val (.long v10), .second, .val (.long v12), .second, .val (.int v14), .val (.int v15), o16, o17, .val (.long v18), .second, .val (.long v20), .second] [(.long v20), (.long v18)])) (fun t k => XS.lload X0.here hx rfl (hb hby at_152) rfl  k) ?_
  refine go_step (T' := T0) (g' := (mkF m 155 #[.val (.int v0), .val (.int v1), .val (.long v2), .second, .val (.long v4), .second, .val (.long v6), .second, .val (.long v8), .second, .val (.long v10), .second, .val (.long v12), .second, .val (.int v14), .val (.int v15), o16, o17, .val (.long v18), .second, .val (.long v20), .second] [(.int (lcmpW v18 v20))])) (fun t k => XS.lcmp X0.here hx rfl (hb hby at_154) rfl k) ?_
  by_cases hc0 : v18 = v20
  · rw [if_pos hc0] at hq
    refine go_step (T' := T0) (g' := (mkF m 158 #[.val (.int v0), .val (.int v1), .val (.long v2), .second, .val (.long v4), .second, .val (.long v6), .second, .val (.long v8), .second, .val (.long v10), .second, .val (.long v12), .second, .val (.int v14), .val (.int v15), o16, o17, .val (.long v18), .second, .val (.long v20), .second] [])) (fun t k => XS.ifNo X0.here hx rfl (hb hby at_155) rfl ((if0 _ _).trans (teq ((lw_eq _ _).mpr hc0)).2) k) ?_
    refine go_step (T' := T0) (g' := (mkF m 159 #[.val (.int v0), .val (.int v1), .val (.long v2), .second, .val (.long v4), .second, .val (.long v6), .second, .val (.long v8), .second, .val (.long v10), .second, .val (.long v12), .second, .val (.int v14), .val (.int v15), o16, o17, .val (.long v18), .second, .val (.long v20), .second] [(.int (1 : Int32))])) (fun t k => XS.iconst X0.here hx rfl (hb hby at_158) k) ?_
    refine go_step (T' := T0) (g' := (mkF m 163 #[.val (.int v0), .val (.int v1), .val (.long v2), .second, .val (.long v4), .second, .val (.long v6), .second, .val (.long v8), .second, .val (.long v10), .second, .val (.long v12), .second, .val (.int v14), .val (.int v15), o16, o17, .val (.long v18), .second, .val (.long v20), .second] [(.int (1 : Int32))])) (fun t k => XS.goto X0.here hx rfl (pc0 := 159) (pc' := 163) rfl (hb hby at_159) (by decide) (by decide) k) ?_
    exact go_retZ X0 hx hlk hret (hb hby at_163) e0 hq hc hs
  · rw [if_neg hc0] at hq
    refine go_step (T' := T0) (g' := (mkF m 162 #[.val (.int v0), .val (.int v1), .val (.long v2), .second, .val (.long v4), .second, .val (.long v6), .second, .val (.long v8), .second, .val (.long v10), .second, .val (.long v12), .second, .val (.int v14), .val (.int v15), o16, o17, .val (.long v18), .second, .val (.long v20), .second] [])) (fun t k => XS.ifYes X0.here hx rfl (pc0 := 155) (pc' := 162) rfl (hb hby at_155) rfl ((if0 _ _).trans (feq (fun q => hc0 ((lw_eq _ _).mp q))).2) (by decide) (by decide) k) ?_
    refine go_step (T' := T0) (g' := (mkF m 163 #[.val (.int v0), .val (.int v1), .val (.long v2), .second, .val (.long v4), .second, .val (.long v6), .second, .val (.long v8), .second, .val (.long v10), .second, .val (.long v12), .second, .val (.int v14), .val (.int v15), o16, o17, .val (.long v18), .second, .val (.long v20), .second] [(.int (0 : Int32))])) (fun t k => XS.iconst X0.here hx rfl (hb hby at_162) k) ?_
    exact go_retZ X0 hx hlk hret (hb hby at_163) e0 hq hc hs
def f0_108 (v0 : Int32) (v1 : Int32) (v2 : Int64) (v4 : Int64) (v6 : Int64) (v8 : Int64) (v10 : Int64) (v12 : Int64) (v14 : Int32) (v15 : Int32) (v18 : Int64) : Int32 := (if v15 = (0 : Int32) then (if v14 = (0 : Int32) then (f0_150 v0 v1 v2 v4 v6 v8 v10 v12 v14 v15 v18 v8) else (if v14 = (1 : Int32) then (f0_150 v0 v1 v2 v4 v6 v8 v10 v12 v14 v15 v18 v10) else (f0_150 v0 v1 v2 v4 v6 v8 v10 v12 v14 v15 v18 v12))) else (f0_150 v0 v1 v2 v4 v6 v8 v10 v12 v14 v15 v18 (1000000 : Int64)))
set_option maxRecDepth 65536 in
set_option maxHeartbeats 4000000 in
theorem b0_108 {p : Program} {l : Launch} {e : Env} {s : State} {m : MethodId} {args : Array Value} {below : List Frame} {meth : Method} {c : Code} {T0 : State} {Z : State} {a0 : Array Value} {h0 : Heap} {locs : List Loc} {cells slots : Nat} {Q : Option Value → Heap → List Loc → Prop} (hw : ∀ d ∈ tables_1, d.before a0 Z = true) (hx : p.tables.exec = Jvm.exec) (hby : c.code = code) (hml : c.maxLocals = 22) (hown : s.vm.findClass "com/example/thicket/thicket/graph/VertexWeightsWeightPinLaw" = some m.cls) (hZ : Z.Warmed39 s.vm) (hret : meth.sig.returnType = some .boolean) (hlk : meth.locks = false) (X0 : Stand p l e room_1 s m args below meth c T0 locs cells slots) (e0 : T0.heap = h0) (hc : cells ≤ room_1.cells) (hs : slots ≤ room_1.slots) (v0 : Int32) (v1 : Int32) (v2 : Int64) (v4 : Int64) (v6 : Int64) (v8 : Int64) (v10 : Int64) (v12 : Int64) (v14 : Int32) (v15 : Int32) (o16 : Slot) (ho16 : One o16) (o17 : Slot) (ho17 : One o17) (v18 : Int64) (hq : Q (some (.int (f0_108 v0 v1 v2 v4 v6 v8 v10 v12 v14 v15 v18))) h0 locs) :
    Go p e below s room_1.cells room_1.slots Q T0 (mkF m 108 #[.val (.int v0), .val (.int v1), .val (.long v2), .second, .val (.long v4), .second, .val (.long v6), .second, .val (.long v8), .second, .val (.long v10), .second, .val (.long v12), .second, .val (.int v14), .val (.int v15), o16, o17, .val (.long v18), .second, .unset, .unset] []) := by
  unfold f0_108 at hq
  refine go_step (T' := T0) (g' := (mkF m 110 #[.val (.int v0), .val (.int v1), .val (.long v2), .second, .val (.long v4), .second, .val (.long v6), .second, .val (.long v8), .second, .val (.long v10), .second, .val (.long v12), .second, .val (.int v14), .val (.int v15), o16, o17, .val (.long v18), .second, .unset, .unset] [(.int v15)])) (fun t k => XS.iload X0.here hx rfl (hb hby at_108) rfl  k) ?_
  by_cases hc0 : v15 = (0 : Int32)
  · rw [if_pos hc0] at hq
    refine go_step (T' := T0) (g' := (mkF m 121 #[.val (.int v0), .val (.int v1), .val (.long v2), .second, .val (.long v4), .second, .val (.long v6), .second, .val (.long v8), .second, .val (.long v10), .second, .val (.long v12), .second, .val (.int v14), .val (.int v15), o16, o17, .val (.long v18), .second, .unset, .unset] [])) (fun t k => XS.ifYes X0.here hx rfl (pc0 := 110) (pc' := 121) rfl (hb hby at_110) rfl ((if0 _ _).trans (teq hc0).1) (by decide) (by decide) k) ?_
    refine go_step (T' := T0) (g' := (mkF m 123 #[.val (.int v0), .val (.int v1), .val (.long v2), .second, .val (.long v4), .second, .val (.long v6), .second, .val (.long v8), .second, .val (.long v10), .second, .val (.long v12), .second, .val (.int v14), .val (.int v15), o16, o17, .val (.long v18), .second, .unset, .unset] [(.int v14)])) (fun t k => XS.iload X0.here hx rfl (hb hby at_121) rfl  k) ?_
    by_cases hc1 : v14 = (0 : Int32)
    · rw [if_pos hc1] at hq
      refine go_step (T' := T0) (g' := (mkF m 126 #[.val (.int v0), .val (.int v1), .val (.long v2), .second, .val (.long v4), .second, .val (.long v6), .second, .val (.long v8), .second, .val (.long v10), .second, .val (.long v12), .second, .val (.int v14), .val (.int v15), o16, o17, .val (.long v18), .second, .unset, .unset] [])) (fun t k => XS.ifNo X0.here hx rfl (hb hby at_123) rfl ((if0 _ _).trans (teq hc1).2) k) ?_
      refine go_step (T' := T0) (g' := (mkF m 128 #[.val (.int v0), .val (.int v1), .val (.long v2), .second, .val (.long v4), .second, .val (.long v6), .second, .val (.long v8), .second, .val (.long v10), .second, .val (.long v12), .second, .val (.int v14), .val (.int v15), o16, o17, .val (.long v18), .second, .unset, .unset] [(.long v8)])) (fun t k => XS.lload X0.here hx rfl (hb hby at_126) rfl  k) ?_
      refine go_step (T' := T0) (g' := (mkF m 130 #[.val (.int v0), .val (.int v1), .val (.long v2), .second, .val (.long v4), .second, .val (.long v6), .second, .val (.long v8), .second, .val (.long v10), .second, .val (.long v12), .second, .val (.int v14), .val (.int v15), o16, o17, .val (.long v18), .second, .val (.long v8), .second] [])) (fun t k => XS.lstore X0.here hx rfl (hb hby at_128) rfl (l' := #[.val (.int v0), .val (.int v1), .val (.long v2), .second, .val (.long v4), .second, .val (.long v6), .second, .val (.long v8), .second, .val (.long v10), .second, .val (.long v12), .second, .val (.int v14), .val (.int v15), o16, o17, .val (.long v18), .second, .val (.long v8), .second]) rfl k) ?_
      refine go_step (T' := T0) (g' := (mkF m 150 #[.val (.int v0), .val (.int v1), .val (.long v2), .second, .val (.long v4), .second, .val (.long v6), .second, .val (.long v8), .second, .val (.long v10), .second, .val (.long v12), .second, .val (.int v14), .val (.int v15), o16, o17, .val (.long v18), .second, .val (.long v8), .second] [])) (fun t k => XS.goto X0.here hx rfl (pc0 := 130) (pc' := 150) rfl (hb hby at_130) (by decide) (by decide) k) ?_
      exact b0_150 hw hx hby hml hown hZ hret hlk X0 e0 hc hs v0 v1 v2 v4 v6 v8 v10 v12 v14 v15 (o16) ho16 (o17) ho17 v18 v8 hq
    · rw [if_neg hc1] at hq
      refine go_step (T' := T0) (g' := (mkF m 133 #[.val (.int v0), .val (.int v1), .val (.long v2), .second, .val (.long v4), .second, .val (.long v6), .second, .val (.long v8), .second, .val (.long v10), .second, .val (.long v12), .second, .val (.int v14), .val (.int v15), o16, o17, .val (.long v18), .second, .unset, .unset] [])) (fun t k => XS.ifYes X0.here hx rfl (pc0 := 123) (pc' := 133) rfl (hb hby at_123) rfl ((if0 _ _).trans (feq hc1).2) (by decide) (by decide) k) ?_
      refine go_step (T' := T0) (g' := (mkF m 135 #[.val (.int v0), .val (.int v1), .val (.long v2), .second, .val (.long v4), .second, .val (.long v6), .second, .val (.long v8), .second, .val (.long v10), .second, .val (.long v12), .second, .val (.int v14), .val (.int v15), o16, o17, .val (.long v18), .second, .unset, .unset] [(.int v14)])) (fun t k => XS.iload X0.here hx rfl (hb hby at_133) rfl  k) ?_
      refine go_step (T' := T0) (g' := (mkF m 136 #[.val (.int v0), .val (.int v1), .val (.long v2), .second, .val (.long v4), .second, .val (.long v6), .second, .val (.long v8), .second, .val (.long v10), .second, .val (.long v12), .second, .val (.int v14), .val (.int v15), o16, o17, .val (.long v18), .second, .unset, .unset] [(.int (1 : Int32)), (.int v14)])) (fun t k => XS.iconst X0.here hx rfl (hb hby at_135) k) ?_
      by_cases hc2 : v14 = (1 : Int32)
      · rw [if_pos hc2] at hq
        refine go_step (T' := T0) (g' := (mkF m 139 #[.val (.int v0), .val (.int v1), .val (.long v2), .second, .val (.long v4), .second, .val (.long v6), .second, .val (.long v8), .second, .val (.long v10), .second, .val (.long v12), .second, .val (.int v14), .val (.int v15), o16, o17, .val (.long v18), .second, .unset, .unset] [])) (fun t k => XS.icmpNo X0.here hx rfl (hb hby at_136) rfl (teq hc2).2 k) ?_
        refine go_step (T' := T0) (g' := (mkF m 141 #[.val (.int v0), .val (.int v1), .val (.long v2), .second, .val (.long v4), .second, .val (.long v6), .second, .val (.long v8), .second, .val (.long v10), .second, .val (.long v12), .second, .val (.int v14), .val (.int v15), o16, o17, .val (.long v18), .second, .unset, .unset] [(.long v10)])) (fun t k => XS.lload X0.here hx rfl (hb hby at_139) rfl  k) ?_
        refine go_step (T' := T0) (g' := (mkF m 143 #[.val (.int v0), .val (.int v1), .val (.long v2), .second, .val (.long v4), .second, .val (.long v6), .second, .val (.long v8), .second, .val (.long v10), .second, .val (.long v12), .second, .val (.int v14), .val (.int v15), o16, o17, .val (.long v18), .second, .val (.long v10), .second] [])) (fun t k => XS.lstore X0.here hx rfl (hb hby at_141) rfl (l' := #[.val (.int v0), .val (.int v1), .val (.long v2), .second, .val (.long v4), .second, .val (.long v6), .second, .val (.long v8), .second, .val (.long v10), .second, .val (.long v12), .second, .val (.int v14), .val (.int v15), o16, o17, .val (.long v18), .second, .val (.long v10), .second]) rfl k) ?_
        refine go_step (T' := T0) (g' := (mkF m 150 #[.val (.int v0), .val (.int v1), .val (.long v2), .second, .val (.long v4), .second, .val (.long v6), .second, .val (.long v8), .second, .val (.long v10), .second, .val (.long v12), .second, .val (.int v14), .val (.int v15), o16, o17, .val (.long v18), .second, .val (.long v10), .second] [])) (fun t k => XS.goto X0.here hx rfl (pc0 := 143) (pc' := 150) rfl (hb hby at_143) (by decide) (by decide) k) ?_
        exact b0_150 hw hx hby hml hown hZ hret hlk X0 e0 hc hs v0 v1 v2 v4 v6 v8 v10 v12 v14 v15 (o16) ho16 (o17) ho17 v18 v10 hq
      · rw [if_neg hc2] at hq
        refine go_step (T' := T0) (g' := (mkF m 146 #[.val (.int v0), .val (.int v1), .val (.long v2), .second, .val (.long v4), .second, .val (.long v6), .second, .val (.long v8), .second, .val (.long v10), .second, .val (.long v12), .second, .val (.int v14), .val (.int v15), o16, o17, .val (.long v18), .second, .unset, .unset] [])) (fun t k => XS.icmpYes X0.here hx rfl (pc0 := 136) (pc' := 146) rfl (hb hby at_136) rfl (feq hc2).2 (by decide) (by decide) k) ?_
        refine go_step (T' := T0) (g' := (mkF m 148 #[.val (.int v0), .val (.int v1), .val (.long v2), .second, .val (.long v4), .second, .val (.long v6), .second, .val (.long v8), .second, .val (.long v10), .second, .val (.long v12), .second, .val (.int v14), .val (.int v15), o16, o17, .val (.long v18), .second, .unset, .unset] [(.long v12)])) (fun t k => XS.lload X0.here hx rfl (hb hby at_146) rfl  k) ?_
        refine go_step (T' := T0) (g' := (mkF m 150 #[.val (.int v0), .val (.int v1), .val (.long v2), .second, .val (.long v4), .second, .val (.long v6), .second, .val (.long v8), .second, .val (.long v10), .second, .val (.long v12), .second, .val (.int v14), .val (.int v15), o16, o17, .val (.long v18), .second, .val (.long v12), .second] [])) (fun t k => XS.lstore X0.here hx rfl (hb hby at_148) rfl (l' := #[.val (.int v0), .val (.int v1), .val (.long v2), .second, .val (.long v4), .second, .val (.long v6), .second, .val (.long v8), .second, .val (.long v10), .second, .val (.long v12), .second, .val (.int v14), .val (.int v15), o16, o17, .val (.long v18), .second, .val (.long v12), .second]) rfl k) ?_
        exact b0_150 hw hx hby hml hown hZ hret hlk X0 e0 hc hs v0 v1 v2 v4 v6 v8 v10 v12 v14 v15 (o16) ho16 (o17) ho17 v18 v12 hq
  · rw [if_neg hc0] at hq
    refine go_step (T' := T0) (g' := (mkF m 113 #[.val (.int v0), .val (.int v1), .val (.long v2), .second, .val (.long v4), .second, .val (.long v6), .second, .val (.long v8), .second, .val (.long v10), .second, .val (.long v12), .second, .val (.int v14), .val (.int v15), o16, o17, .val (.long v18), .second, .unset, .unset] [])) (fun t k => XS.ifNo X0.here hx rfl (hb hby at_110) rfl ((if0 _ _).trans (feq hc0).1) k) ?_
    refine go_step (T' := T0) (g' := (mkF m 116 #[.val (.int v0), .val (.int v1), .val (.long v2), .second, .val (.long v4), .second, .val (.long v6), .second, .val (.long v8), .second, .val (.long v10), .second, .val (.long v12), .second, .val (.int v14), .val (.int v15), o16, o17, .val (.long v18), .second, .unset, .unset] [(.long (1000000 : Int64))])) (X0.ldc2Long hx hown (mvT hZ (hw _ (List.mem_of_getElem? (i := 26) rfl))) (g := (mkF m 113 #[.val (.int v0), .val (.int v1), .val (.long v2), .second, .val (.long v4), .second, .val (.long v6), .second, .val (.long v8), .second, .val (.long v10), .second, .val (.long v12), .second, .val (.int v14), .val (.int v15), o16, o17, .val (.long v18), .second, .unset, .unset] [])) rfl (hb hby at_113)) ?_
    refine go_step (T' := T0) (g' := (mkF m 118 #[.val (.int v0), .val (.int v1), .val (.long v2), .second, .val (.long v4), .second, .val (.long v6), .second, .val (.long v8), .second, .val (.long v10), .second, .val (.long v12), .second, .val (.int v14), .val (.int v15), o16, o17, .val (.long v18), .second, .val (.long (1000000 : Int64)), .second] [])) (fun t k => XS.lstore X0.here hx rfl (hb hby at_116) rfl (l' := #[.val (.int v0), .val (.int v1), .val (.long v2), .second, .val (.long v4), .second, .val (.long v6), .second, .val (.long v8), .second, .val (.long v10), .second, .val (.long v12), .second, .val (.int v14), .val (.int v15), o16, o17, .val (.long v18), .second, .val (.long (1000000 : Int64)), .second]) rfl k) ?_
    refine go_step (T' := T0) (g' := (mkF m 150 #[.val (.int v0), .val (.int v1), .val (.long v2), .second, .val (.long v4), .second, .val (.long v6), .second, .val (.long v8), .second, .val (.long v10), .second, .val (.long v12), .second, .val (.int v14), .val (.int v15), o16, o17, .val (.long v18), .second, .val (.long (1000000 : Int64)), .second] [])) (fun t k => XS.goto X0.here hx rfl (pc0 := 118) (pc' := 150) rfl (hb hby at_118) (by decide) (by decide) k) ?_
    exact b0_150 hw hx hby hml hown hZ hret hlk X0 e0 hc hs v0 v1 v2 v4 v6 v8 v10 v12 v14 v15 (o16) ho16 (o17) ho17 v18 (1000000 : Int64) hq
def z0_46_0 (v0 : Int32) (v1 : Int32) (v2 : Int64) (v3 : Int64) (v4 : Int64) : Int32 := (if (v0 &&& (1 : Int32)) = (0 : Int32) then (0 : Int32) else (1 : Int32))
def s0_0 (v0 : Int32) (v1 : Int32) (v2 : Int64) (v3 : Int64) (v4 : Int64) : Int64 := (f4_ret ((v1 &&& (2147483647 : Int32)) % (3 : Int32)) [(f1_0 (1 : Int64) (v2 &&& (9223372036854775807 : Int64))), (f1_0 (1 : Int64) (v3 &&& (9223372036854775807 : Int64))), (f1_0 (1 : Int64) (v4 &&& (9223372036854775807 : Int64)))])
def f0_ret (v0 : Int32) (v1 : Int32) (v2 : Int64) (v3 : Int64) (v4 : Int64) : Int32 := (if (z0_46_0 v0 v1 v2 v3 v4) = (0 : Int32) then (f0_108 v0 v1 v2 v3 v4 (f1_0 (1 : Int64) (v2 &&& (9223372036854775807 : Int64))) (f1_0 (1 : Int64) (v3 &&& (9223372036854775807 : Int64))) (f1_0 (1 : Int64) (v4 &&& (9223372036854775807 : Int64))) ((v1 &&& (2147483647 : Int32)) % (3 : Int32)) (z0_46_0 v0 v1 v2 v3 v4) (s0_0 v0 v1 v2 v3 v4)) else (f0_108 v0 v1 v2 v3 v4 (f1_0 (1 : Int64) (v2 &&& (9223372036854775807 : Int64))) (f1_0 (1 : Int64) (v3 &&& (9223372036854775807 : Int64))) (f1_0 (1 : Int64) (v4 &&& (9223372036854775807 : Int64))) ((v1 &&& (2147483647 : Int32)) % (3 : Int32)) (z0_46_0 v0 v1 v2 v3 v4) (f4n_ret ((v1 &&& (2147483647 : Int32)) % (3 : Int32)))))
theorem ef0 (m : MethodId) (v0 : Int32) (v1 : Int32) (v2 : Int64) (v3 : Int64) (v4 : Int64) : entryFrame m #[(.int v0), (.int v1), (.long v2), (.long v3), (.long v4)] maxLocals = (mkF m 0 #[.val (.int v0), .val (.int v1), .val (.long v2), .second, .val (.long v3), .second, .val (.long v4), .second, .unset, .unset, .unset, .unset, .unset, .unset, .unset, .unset, .unset, .unset, .unset, .unset, .unset, .unset] []) := by first | (simp [entryFrame, mkF, argsToLocals, Value.category, maxLocals]; done) | rfl
theorem pn0 : plainName "com/example/thicket/thicket/graph/VertexWeightsWeightPinLaw" = true := by first | (simp [plainName, overriddenIn]; done) | decide +kernel
def Q0 (Z : State) (v0 : Int32) (v1 : Int32) (v2 : Int64) (v3 : Int64) (v4 : Int64) (h0 : Heap) (n0 : Nat) (v : Option Value) (h : Heap) (L : List Loc) : Prop := v = some (.int (f0_ret v0 v1 v2 v3 v4)) ∧ Fr n0 L
set_option maxRecDepth 65536 in
set_option maxHeartbeats 40000000 in
theorem mq0 (l : Launch) (Z : State) (a0 : Array Value) (hw : ∀ d ∈ tables_1, d.before a0 Z = true) (ws : List Jvm.Cond) (v0 : Int32) (v1 : Int32) (v2 : Int64) (v3 : Int64) (v4 : Int64)  (h0 : Heap) (n0 : Nat) (Z0 : n0 ≤ h0.size)  : MQ l Z x code maxLocals ret ws room_1 #[(.int v0), (.int v1), (.long v2), (.long v3), (.long v4)] h0 (Q0 Z v0 v1 v2 v3 v4 h0 n0) := by
  refine mq_of (plainFor_of_name pn0) ?_
  intro p e s m below meth c T0 X0 hx hby hml hown hnm hZ e0 hret hlk
  rw [ef0]
  have N0 := Fr.nil n0
  have K0 := Keep.refl h0 []
  refine go_step (T' := T0) (g' := (mkF m 1 #[.val (.int v0), .val (.int v1), .val (.long v2), .second, .val (.long v3), .second, .val (.long v4), .second, .unset, .unset, .unset, .unset, .unset, .unset, .unset, .unset, .unset, .unset, .unset, .unset, .unset, .unset] [(.long (1 : Int64))])) (fun t k => XS.lconst X0.here hx rfl (hb hby at_0) k) ?_
  refine go_step (T' := T0) (g' := (mkF m 2 #[.val (.int v0), .val (.int v1), .val (.long v2), .second, .val (.long v3), .second, .val (.long v4), .second, .unset, .unset, .unset, .unset, .unset, .unset, .unset, .unset, .unset, .unset, .unset, .unset, .unset, .unset] [(.long v2), (.long (1 : Int64))])) (fun t k => XS.lloadN X0.here hx rfl (hb hby at_1) rfl  k) ?_
  refine go_step (T' := T0) (g' := (mkF m 5 #[.val (.int v0), .val (.int v1), .val (.long v2), .second, .val (.long v3), .second, .val (.long v4), .second, .unset, .unset, .unset, .unset, .unset, .unset, .unset, .unset, .unset, .unset, .unset, .unset, .unset, .unset] [(.long (9223372036854775807 : Int64)), (.long v2), (.long (1 : Int64))])) (X0.ldc2Long hx hown (mvT hZ (hw _ (List.mem_of_getElem? (i := 0) rfl))) (g := (mkF m 2 #[.val (.int v0), .val (.int v1), .val (.long v2), .second, .val (.long v3), .second, .val (.long v4), .second, .unset, .unset, .unset, .unset, .unset, .unset, .unset, .unset, .unset, .unset, .unset, .unset, .unset, .unset] [(.long v2), (.long (1 : Int64))])) rfl (hb hby at_2)) ?_
  refine go_step (T' := T0) (g' := (mkF m 6 #[.val (.int v0), .val (.int v1), .val (.long v2), .second, .val (.long v3), .second, .val (.long v4), .second, .unset, .unset, .unset, .unset, .unset, .unset, .unset, .unset, .unset, .unset, .unset, .unset, .unset, .unset] [(.long (v2 &&& (9223372036854775807 : Int64))), (.long (1 : Int64))])) (fun t k => XS.land X0.here hx rfl (hb hby at_5) rfl k) ?_
  refine go_callSP X0 hx hZ hown (hw _ (List.mem_of_getElem? (i := 1) rfl)) (hw _ (List.mem_of_getElem? (i := 2) rfl)) (hw _ (List.mem_of_getElem? (i := 3) rfl)) (hw _ (List.mem_of_getElem? (i := 4) rfl)) (by decide) e0 (mq1 l Z a0 hw (1 : Int64) (v2 &&& (9223372036854775807 : Int64)) h0) 0 (by decide) (by decide) (g := (mkF m 6 #[.val (.int v0), .val (.int v1), .val (.long v2), .second, .val (.long v3), .second, .val (.long v4), .second, .unset, .unset, .unset, .unset, .unset, .unset, .unset, .unset, .unset, .unset, .unset, .unset, .unset, .unset] [(.long (v2 &&& (9223372036854775807 : Int64))), (.long (1 : Int64))])) rfl (by rw [hml]; rfl) (argsL := [(.long (1 : Int64)), (.long (v2 &&& (9223372036854775807 : Int64)))]) (rest := []) (lenOf pd_0 rfl) rfl (by show 2 * 0 + _ ≤ _; exact Nat.le_of_eq rfl) (hb hby at_6) rfl rfl rfl (by decide) (by decide) (fun T1 X2 e3 => ?_)
  show Go p e below s _ _ _ T1 (mkF m 9 #[.val (.int v0), .val (.int v1), .val (.long v2), .second, .val (.long v3), .second, .val (.long v4), .second, .unset, .unset, .unset, .unset, .unset, .unset, .unset, .unset, .unset, .unset, .unset, .unset, .unset, .unset] [(.long (f1_0 (1 : Int64) (v2 &&& (9223372036854775807 : Int64))))])
  refine go_step (T' := T1) (g' := (mkF m 11 #[.val (.int v0), .val (.int v1), .val (.long v2), .second, .val (.long v3), .second, .val (.long v4), .second, .val (.long (f1_0 (1 : Int64) (v2 &&& (9223372036854775807 : Int64)))), .second, .unset, .unset, .unset, .unset, .unset, .unset, .unset, .unset, .unset, .unset, .unset, .unset] [])) (fun t k => XS.lstore X2.here hx rfl (hb hby at_9) rfl (l' := #[.val (.int v0), .val (.int v1), .val (.long v2), .second, .val (.long v3), .second, .val (.long v4), .second, .val (.long (f1_0 (1 : Int64) (v2 &&& (9223372036854775807 : Int64)))), .second, .unset, .unset, .unset, .unset, .unset, .unset, .unset, .unset, .unset, .unset, .unset, .unset]) rfl k) ?_
  refine go_step (T' := T1) (g' := (mkF m 12 #[.val (.int v0), .val (.int v1), .val (.long v2), .second, .val (.long v3), .second, .val (.long v4), .second, .val (.long (f1_0 (1 : Int64) (v2 &&& (9223372036854775807 : Int64)))), .second, .unset, .unset, .unset, .unset, .unset, .unset, .unset, .unset, .unset, .unset, .unset, .unset] [(.long (1 : Int64))])) (fun t k => XS.lconst X2.here hx rfl (hb hby at_11) k) ?_
  refine go_step (T' := T1) (g' := (mkF m 14 #[.val (.int v0), .val (.int v1), .val (.long v2), .second, .val (.long v3), .second, .val (.long v4), .second, .val (.long (f1_0 (1 : Int64) (v2 &&& (9223372036854775807 : Int64)))), .second, .unset, .unset, .unset, .unset, .unset, .unset, .unset, .unset, .unset, .unset, .unset, .unset] [(.long v3), (.long (1 : Int64))])) (fun t k => XS.lload X2.here hx rfl (hb hby at_12) rfl  k) ?_
  refine go_step (T' := T1) (g' := (mkF m 17 #[.val (.int v0), .val (.int v1), .val (.long v2), .second, .val (.long v3), .second, .val (.long v4), .second, .val (.long (f1_0 (1 : Int64) (v2 &&& (9223372036854775807 : Int64)))), .second, .unset, .unset, .unset, .unset, .unset, .unset, .unset, .unset, .unset, .unset, .unset, .unset] [(.long (9223372036854775807 : Int64)), (.long v3), (.long (1 : Int64))])) (X2.ldc2Long hx hown (mvT hZ (hw _ (List.mem_of_getElem? (i := 0) rfl))) (g := (mkF m 14 #[.val (.int v0), .val (.int v1), .val (.long v2), .second, .val (.long v3), .second, .val (.long v4), .second, .val (.long (f1_0 (1 : Int64) (v2 &&& (9223372036854775807 : Int64)))), .second, .unset, .unset, .unset, .unset, .unset, .unset, .unset, .unset, .unset, .unset, .unset, .unset] [(.long v3), (.long (1 : Int64))])) rfl (hb hby at_14)) ?_
  refine go_step (T' := T1) (g' := (mkF m 18 #[.val (.int v0), .val (.int v1), .val (.long v2), .second, .val (.long v3), .second, .val (.long v4), .second, .val (.long (f1_0 (1 : Int64) (v2 &&& (9223372036854775807 : Int64)))), .second, .unset, .unset, .unset, .unset, .unset, .unset, .unset, .unset, .unset, .unset, .unset, .unset] [(.long (v3 &&& (9223372036854775807 : Int64))), (.long (1 : Int64))])) (fun t k => XS.land X2.here hx rfl (hb hby at_17) rfl k) ?_
  refine go_callSP X2 hx hZ hown (hw _ (List.mem_of_getElem? (i := 1) rfl)) (hw _ (List.mem_of_getElem? (i := 2) rfl)) (hw _ (List.mem_of_getElem? (i := 3) rfl)) (hw _ (List.mem_of_getElem? (i := 4) rfl)) (by decide) e3 (mq1 l Z a0 hw (1 : Int64) (v3 &&& (9223372036854775807 : Int64)) h0) 0 (by decide) (by decide) (g := (mkF m 18 #[.val (.int v0), .val (.int v1), .val (.long v2), .second, .val (.long v3), .second, .val (.long v4), .second, .val (.long (f1_0 (1 : Int64) (v2 &&& (9223372036854775807 : Int64)))), .second, .unset, .unset, .unset, .unset, .unset, .unset, .unset, .unset, .unset, .unset, .unset, .unset] [(.long (v3 &&& (9223372036854775807 : Int64))), (.long (1 : Int64))])) rfl (by rw [hml]; rfl) (argsL := [(.long (1 : Int64)), (.long (v3 &&& (9223372036854775807 : Int64)))]) (rest := []) (lenOf pd_0 rfl) rfl (by show 2 * 0 + _ ≤ _; exact Nat.le_of_eq rfl) (hb hby at_18) rfl rfl rfl (by decide) (by decide) (fun T4 X5 e6 => ?_)
  show Go p e below s _ _ _ T4 (mkF m 21 #[.val (.int v0), .val (.int v1), .val (.long v2), .second, .val (.long v3), .second, .val (.long v4), .second, .val (.long (f1_0 (1 : Int64) (v2 &&& (9223372036854775807 : Int64)))), .second, .unset, .unset, .unset, .unset, .unset, .unset, .unset, .unset, .unset, .unset, .unset, .unset] [(.long (f1_0 (1 : Int64) (v3 &&& (9223372036854775807 : Int64))))])
  refine go_step (T' := T4) (g' := (mkF m 23 #[.val (.int v0), .val (.int v1), .val (.long v2), .second, .val (.long v3), .second, .val (.long v4), .second, .val (.long (f1_0 (1 : Int64) (v2 &&& (9223372036854775807 : Int64)))), .second, .val (.long (f1_0 (1 : Int64) (v3 &&& (9223372036854775807 : Int64)))), .second, .unset, .unset, .unset, .unset, .unset, .unset, .unset, .unset, .unset, .unset] [])) (fun t k => XS.lstore X5.here hx rfl (hb hby at_21) rfl (l' := #[.val (.int v0), .val (.int v1), .val (.long v2), .second, .val (.long v3), .second, .val (.long v4), .second, .val (.long (f1_0 (1 : Int64) (v2 &&& (9223372036854775807 : Int64)))), .second, .val (.long (f1_0 (1 : Int64) (v3 &&& (9223372036854775807 : Int64)))), .second, .unset, .unset, .unset, .unset, .unset, .unset, .unset, .unset, .unset, .unset]) rfl k) ?_
  refine go_step (T' := T4) (g' := (mkF m 24 #[.val (.int v0), .val (.int v1), .val (.long v2), .second, .val (.long v3), .second, .val (.long v4), .second, .val (.long (f1_0 (1 : Int64) (v2 &&& (9223372036854775807 : Int64)))), .second, .val (.long (f1_0 (1 : Int64) (v3 &&& (9223372036854775807 : Int64)))), .second, .unset, .unset, .unset, .unset, .unset, .unset, .unset, .unset, .unset, .unset] [(.long (1 : Int64))])) (fun t k => XS.lconst X5.here hx rfl (hb hby at_23) k) ?_
  refine go_step (T' := T4) (g' := (mkF m 26 #[.val (.int v0), .val (.int v1), .val (.long v2), .second, .val (.long v3), .second, .val (.long v4), .second, .val (.long (f1_0 (1 : Int64) (v2 &&& (9223372036854775807 : Int64)))), .second, .val (.long (f1_0 (1 : Int64) (v3 &&& (9223372036854775807 : Int64)))), .second, .unset, .unset, .unset, .unset, .unset, .unset, .unset, .unset, .unset, .unset] [(.long v4), (.long (1 : Int64))])) (fun t k => XS.lload X5.here hx rfl (hb hby at_24) rfl  k) ?_
  refine go_step (T' := T4) (g' := (mkF m 29 #[.val (.int v0), .val (.int v1), .val (.long v2), .second, .val (.long v3), .second, .val (.long v4), .second, .val (.long (f1_0 (1 : Int64) (v2 &&& (9223372036854775807 : Int64)))), .second, .val (.long (f1_0 (1 : Int64) (v3 &&& (9223372036854775807 : Int64)))), .second, .unset, .unset, .unset, .unset, .unset, .unset, .unset, .unset, .unset, .unset] [(.long (9223372036854775807 : Int64)), (.long v4), (.long (1 : Int64))])) (X5.ldc2Long hx hown (mvT hZ (hw _ (List.mem_of_getElem? (i := 0) rfl))) (g := (mkF m 26 #[.val (.int v0), .val (.int v1), .val (.long v2), .second, .val (.long v3), .second, .val (.long v4), .second, .val (.long (f1_0 (1 : Int64) (v2 &&& (9223372036854775807 : Int64)))), .second, .val (.long (f1_0 (1 : Int64) (v3 &&& (9223372036854775807 : Int64)))), .second, .unset, .unset, .unset, .unset, .unset, .unset, .unset, .unset, .unset, .unset] [(.long v4), (.long (1 : Int64))])) rfl (hb hby at_26)) ?_
  refine go_step (T' := T4) (g' := (mkF m 30 #[.val (.int v0), .val (.int v1), .val (.long v2), .second, .val (.long v3), .second, .val (.long v4), .second, .val (.long (f1_0 (1 : Int64) (v2 &&& (9223372036854775807 : Int64)))), .second, .val (.long (f1_0 (1 : Int64) (v3 &&& (9223372036854775807 : Int64)))), .second, .unset, .unset, .unset, .unset, .unset, .unset, .unset, .unset, .unset, .unset] [(.long (v4 &&& (9223372036854775807 : Int64))), (.long (1 : Int64))])) (fun t k => XS.land X5.here hx rfl (hb hby at_29) rfl k) ?_
  refine go_callSP X5 hx hZ hown (hw _ (List.mem_of_getElem? (i := 1) rfl)) (hw _ (List.mem_of_getElem? (i := 2) rfl)) (hw _ (List.mem_of_getElem? (i := 3) rfl)) (hw _ (List.mem_of_getElem? (i := 4) rfl)) (by decide) e6 (mq1 l Z a0 hw (1 : Int64) (v4 &&& (9223372036854775807 : Int64)) h0) 0 (by decide) (by decide) (g := (mkF m 30 #[.val (.int v0), .val (.int v1), .val (.long v2), .second, .val (.long v3), .second, .val (.long v4), .second, .val (.long (f1_0 (1 : Int64) (v2 &&& (9223372036854775807 : Int64)))), .second, .val (.long (f1_0 (1 : Int64) (v3 &&& (9223372036854775807 : Int64)))), .second, .unset, .unset, .unset, .unset, .unset, .unset, .unset, .unset, .unset, .unset] [(.long (v4 &&& (9223372036854775807 : Int64))), (.long (1 : Int64))])) rfl (by rw [hml]; rfl) (argsL := [(.long (1 : Int64)), (.long (v4 &&& (9223372036854775807 : Int64)))]) (rest := []) (lenOf pd_0 rfl) rfl (by show 2 * 0 + _ ≤ _; exact Nat.le_of_eq rfl) (hb hby at_30) rfl rfl rfl (by decide) (by decide) (fun T7 X8 e9 => ?_)
  show Go p e below s _ _ _ T7 (mkF m 33 #[.val (.int v0), .val (.int v1), .val (.long v2), .second, .val (.long v3), .second, .val (.long v4), .second, .val (.long (f1_0 (1 : Int64) (v2 &&& (9223372036854775807 : Int64)))), .second, .val (.long (f1_0 (1 : Int64) (v3 &&& (9223372036854775807 : Int64)))), .second, .unset, .unset, .unset, .unset, .unset, .unset, .unset, .unset, .unset, .unset] [(.long (f1_0 (1 : Int64) (v4 &&& (9223372036854775807 : Int64))))])
  refine go_step (T' := T7) (g' := (mkF m 35 #[.val (.int v0), .val (.int v1), .val (.long v2), .second, .val (.long v3), .second, .val (.long v4), .second, .val (.long (f1_0 (1 : Int64) (v2 &&& (9223372036854775807 : Int64)))), .second, .val (.long (f1_0 (1 : Int64) (v3 &&& (9223372036854775807 : Int64)))), .second, .val (.long (f1_0 (1 : Int64) (v4 &&& (9223372036854775807 : Int64)))), .second, .unset, .unset, .unset, .unset, .unset, .unset, .unset, .unset] [])) (fun t k => XS.lstore X8.here hx rfl (hb hby at_33) rfl (l' := #[.val (.int v0), .val (.int v1), .val (.long v2), .second, .val (.long v3), .second, .val (.long v4), .second, .val (.long (f1_0 (1 : Int64) (v2 &&& (9223372036854775807 : Int64)))), .second, .val (.long (f1_0 (1 : Int64) (v3 &&& (9223372036854775807 : Int64)))), .second, .val (.long (f1_0 (1 : Int64) (v4 &&& (9223372036854775807 : Int64)))), .second, .unset, .unset, .unset, .unset, .unset, .unset, .unset, .unset]) rfl k) ?_
  refine go_step (T' := T7) (g' := (mkF m 36 #[.val (.int v0), .val (.int v1), .val (.long v2), .second, .val (.long v3), .second, .val (.long v4), .second, .val (.long (f1_0 (1 : Int64) (v2 &&& (9223372036854775807 : Int64)))), .second, .val (.long (f1_0 (1 : Int64) (v3 &&& (9223372036854775807 : Int64)))), .second, .val (.long (f1_0 (1 : Int64) (v4 &&& (9223372036854775807 : Int64)))), .second, .unset, .unset, .unset, .unset, .unset, .unset, .unset, .unset] [(.int v1)])) (fun t k => XS.iloadN X8.here hx rfl (hb hby at_35) rfl  k) ?_
  refine go_step (T' := T7) (g' := (mkF m 38 #[.val (.int v0), .val (.int v1), .val (.long v2), .second, .val (.long v3), .second, .val (.long v4), .second, .val (.long (f1_0 (1 : Int64) (v2 &&& (9223372036854775807 : Int64)))), .second, .val (.long (f1_0 (1 : Int64) (v3 &&& (9223372036854775807 : Int64)))), .second, .val (.long (f1_0 (1 : Int64) (v4 &&& (9223372036854775807 : Int64)))), .second, .unset, .unset, .unset, .unset, .unset, .unset, .unset, .unset] [(.int (2147483647 : Int32)), (.int v1)])) (X8.ldcInt hx hown (mvT hZ (hw _ (List.mem_of_getElem? (i := 5) rfl))) (g := (mkF m 36 #[.val (.int v0), .val (.int v1), .val (.long v2), .second, .val (.long v3), .second, .val (.long v4), .second, .val (.long (f1_0 (1 : Int64) (v2 &&& (9223372036854775807 : Int64)))), .second, .val (.long (f1_0 (1 : Int64) (v3 &&& (9223372036854775807 : Int64)))), .second, .val (.long (f1_0 (1 : Int64) (v4 &&& (9223372036854775807 : Int64)))), .second, .unset, .unset, .unset, .unset, .unset, .unset, .unset, .unset] [(.int v1)])) rfl (hb hby at_36)) ?_
  refine go_step (T' := T7) (g' := (mkF m 39 #[.val (.int v0), .val (.int v1), .val (.long v2), .second, .val (.long v3), .second, .val (.long v4), .second, .val (.long (f1_0 (1 : Int64) (v2 &&& (9223372036854775807 : Int64)))), .second, .val (.long (f1_0 (1 : Int64) (v3 &&& (9223372036854775807 : Int64)))), .second, .val (.long (f1_0 (1 : Int64) (v4 &&& (9223372036854775807 : Int64)))), .second, .unset, .unset, .unset, .unset, .unset, .unset, .unset, .unset] [(.int (v1 &&& (2147483647 : Int32)))])) (fun t k => XS.iand X8.here hx rfl (hb hby at_38) rfl k) ?_
  refine go_step (T' := T7) (g' := (mkF m 40 #[.val (.int v0), .val (.int v1), .val (.long v2), .second, .val (.long v3), .second, .val (.long v4), .second, .val (.long (f1_0 (1 : Int64) (v2 &&& (9223372036854775807 : Int64)))), .second, .val (.long (f1_0 (1 : Int64) (v3 &&& (9223372036854775807 : Int64)))), .second, .val (.long (f1_0 (1 : Int64) (v4 &&& (9223372036854775807 : Int64)))), .second, .unset, .unset, .unset, .unset, .unset, .unset, .unset, .unset] [(.int (3 : Int32)), (.int (v1 &&& (2147483647 : Int32)))])) (fun t k => XS.iconst X8.here hx rfl (hb hby at_39) k) ?_
  refine go_step (T' := T7) (g' := (mkF m 41 #[.val (.int v0), .val (.int v1), .val (.long v2), .second, .val (.long v3), .second, .val (.long v4), .second, .val (.long (f1_0 (1 : Int64) (v2 &&& (9223372036854775807 : Int64)))), .second, .val (.long (f1_0 (1 : Int64) (v3 &&& (9223372036854775807 : Int64)))), .second, .val (.long (f1_0 (1 : Int64) (v4 &&& (9223372036854775807 : Int64)))), .second, .unset, .unset, .unset, .unset, .unset, .unset, .unset, .unset] [(.int ((v1 &&& (2147483647 : Int32)) % (3 : Int32)))])) (fun t k => iremM X8 hx rfl (hb hby at_40) rfl (by decide) k) ?_
  refine go_step (T' := T7) (g' := (mkF m 43 #[.val (.int v0), .val (.int v1), .val (.long v2), .second, .val (.long v3), .second, .val (.long v4), .second, .val (.long (f1_0 (1 : Int64) (v2 &&& (9223372036854775807 : Int64)))), .second, .val (.long (f1_0 (1 : Int64) (v3 &&& (9223372036854775807 : Int64)))), .second, .val (.long (f1_0 (1 : Int64) (v4 &&& (9223372036854775807 : Int64)))), .second, .val (.int ((v1 &&& (2147483647 : Int32)) % (3 : Int32))), .unset, .unset, .unset, .unset, .unset, .unset, .unset] [])) (fun t k => XS.istore X8.here hx rfl (hb hby at_41) rfl (l' := #[.val (.int v0), .val (.int v1), .val (.long v2), .second, .val (.long v3), .second, .val (.long v4), .second, .val (.long (f1_0 (1 : Int64) (v2 &&& (9223372036854775807 : Int64)))), .second, .val (.long (f1_0 (1 : Int64) (v3 &&& (9223372036854775807 : Int64)))), .second, .val (.long (f1_0 (1 : Int64) (v4 &&& (9223372036854775807 : Int64)))), .second, .val (.int ((v1 &&& (2147483647 : Int32)) % (3 : Int32))), .unset, .unset, .unset, .unset, .unset, .unset, .unset]) rfl k) ?_
  refine go_step (T' := T7) (g' := (mkF m 44 #[.val (.int v0), .val (.int v1), .val (.long v2), .second, .val (.long v3), .second, .val (.long v4), .second, .val (.long (f1_0 (1 : Int64) (v2 &&& (9223372036854775807 : Int64)))), .second, .val (.long (f1_0 (1 : Int64) (v3 &&& (9223372036854775807 : Int64)))), .second, .val (.long (f1_0 (1 : Int64) (v4 &&& (9223372036854775807 : Int64)))), .second, .val (.int ((v1 &&& (2147483647 : Int32)) % (3 : Int32))), .unset, .unset, .unset, .unset, .unset, .unset, .unset] [(.int v0)])) (fun t k => XS.iloadN X8.here hx rfl (hb hby at_43) rfl  k) ?_
  refine go_step (T' := T7) (g' := (mkF m 45 #[.val (.int v0), .val (.int v1), .val (.long v2), .second, .val (.long v3), .second, .val (.long v4), .second, .val (.long (f1_0 (1 : Int64) (v2 &&& (9223372036854775807 : Int64)))), .second, .val (.long (f1_0 (1 : Int64) (v3 &&& (9223372036854775807 : Int64)))), .second, .val (.long (f1_0 (1 : Int64) (v4 &&& (9223372036854775807 : Int64)))), .second, .val (.int ((v1 &&& (2147483647 : Int32)) % (3 : Int32))), .unset, .unset, .unset, .unset, .unset, .unset, .unset] [(.int (1 : Int32)), (.int v0)])) (fun t k => XS.iconst X8.here hx rfl (hb hby at_44) k) ?_
  refine go_step (T' := T7) (g' := (mkF m 46 #[.val (.int v0), .val (.int v1), .val (.long v2), .second, .val (.long v3), .second, .val (.long v4), .second, .val (.long (f1_0 (1 : Int64) (v2 &&& (9223372036854775807 : Int64)))), .second, .val (.long (f1_0 (1 : Int64) (v3 &&& (9223372036854775807 : Int64)))), .second, .val (.long (f1_0 (1 : Int64) (v4 &&& (9223372036854775807 : Int64)))), .second, .val (.int ((v1 &&& (2147483647 : Int32)) % (3 : Int32))), .unset, .unset, .unset, .unset, .unset, .unset, .unset] [(.int (v0 &&& (1 : Int32)))])) (fun t k => XS.iand X8.here hx rfl (hb hby at_45) rfl k) ?_
  refine go_join X8 (h := h0) (g' := (mkF m 54 #[.val (.int v0), .val (.int v1), .val (.long v2), .second, .val (.long v3), .second, .val (.long v4), .second, .val (.long (f1_0 (1 : Int64) (v2 &&& (9223372036854775807 : Int64)))), .second, .val (.long (f1_0 (1 : Int64) (v3 &&& (9223372036854775807 : Int64)))), .second, .val (.long (f1_0 (1 : Int64) (v4 &&& (9223372036854775807 : Int64)))), .second, .val (.int ((v1 &&& (2147483647 : Int32)) % (3 : Int32))), .unset, .unset, .unset, .unset, .unset, .unset, .unset] [(.int (z0_46_0 v0 v1 v2 v3 v4))])) (fun kk => ?_) (fun T11 X12 e13 => ?_)
  · by_cases hj10 : (v0 &&& (1 : Int32)) = (0 : Int32)
    · refine go_step (T' := T7) (g' := (mkF m 53 #[.val (.int v0), .val (.int v1), .val (.long v2), .second, .val (.long v3), .second, .val (.long v4), .second, .val (.long (f1_0 (1 : Int64) (v2 &&& (9223372036854775807 : Int64)))), .second, .val (.long (f1_0 (1 : Int64) (v3 &&& (9223372036854775807 : Int64)))), .second, .val (.long (f1_0 (1 : Int64) (v4 &&& (9223372036854775807 : Int64)))), .second, .val (.int ((v1 &&& (2147483647 : Int32)) % (3 : Int32))), .unset, .unset, .unset, .unset, .unset, .unset, .unset] [])) (fun t k => XS.ifYes X8.here hx rfl (pc0 := 46) (pc' := 53) rfl (hb hby at_46) rfl ((if0 _ _).trans (teq hj10).1) (by decide) (by decide) k) ?_
      refine go_step (T' := T7) (g' := (mkF m 54 #[.val (.int v0), .val (.int v1), .val (.long v2), .second, .val (.long v3), .second, .val (.long v4), .second, .val (.long (f1_0 (1 : Int64) (v2 &&& (9223372036854775807 : Int64)))), .second, .val (.long (f1_0 (1 : Int64) (v3 &&& (9223372036854775807 : Int64)))), .second, .val (.long (f1_0 (1 : Int64) (v4 &&& (9223372036854775807 : Int64)))), .second, .val (.int ((v1 &&& (2147483647 : Int32)) % (3 : Int32))), .unset, .unset, .unset, .unset, .unset, .unset, .unset] [(.int (0 : Int32))])) (fun t k => XS.iconst X8.here hx rfl (hb hby at_53) k) ?_
      have k2 := kk T7 X8 e9
      rw [show (z0_46_0 v0 v1 v2 v3 v4) = (0 : Int32) by unfold z0_46_0; rw [if_pos hj10]] at k2
      exact k2
    · refine go_step (T' := T7) (g' := (mkF m 49 #[.val (.int v0), .val (.int v1), .val (.long v2), .second, .val (.long v3), .second, .val (.long v4), .second, .val (.long (f1_0 (1 : Int64) (v2 &&& (9223372036854775807 : Int64)))), .second, .val (.long (f1_0 (1 : Int64) (v3 &&& (9223372036854775807 : Int64)))), .second, .val (.long (f1_0 (1 : Int64) (v4 &&& (9223372036854775807 : Int64)))), .second, .val (.int ((v1 &&& (2147483647 : Int32)) % (3 : Int32))), .unset, .unset, .unset, .unset, .unset, .unset, .unset] [])) (fun t k => XS.ifNo X8.here hx rfl (hb hby at_46) rfl ((if0 _ _).trans (feq hj10).1) k) ?_
      refine go_step (T' := T7) (g' := (mkF m 50 #[.val (.int v0), .val (.int v1), .val (.long v2), .second, .val (.long v3), .second, .val (.long v4), .second, .val (.long (f1_0 (1 : Int64) (v2 &&& (9223372036854775807 : Int64)))), .second, .val (.long (f1_0 (1 : Int64) (v3 &&& (9223372036854775807 : Int64)))), .second, .val (.long (f1_0 (1 : Int64) (v4 &&& (9223372036854775807 : Int64)))), .second, .val (.int ((v1 &&& (2147483647 : Int32)) % (3 : Int32))), .unset, .unset, .unset, .unset, .unset, .unset, .unset] [(.int (1 : Int32))])) (fun t k => XS.iconst X8.here hx rfl (hb hby at_49) k) ?_
      refine go_step (T' := T7) (g' := (mkF m 54 #[.val (.int v0), .val (.int v1), .val (.long v2), .second, .val (.long v3), .second, .val (.long v4), .second, .val (.long (f1_0 (1 : Int64) (v2 &&& (9223372036854775807 : Int64)))), .second, .val (.long (f1_0 (1 : Int64) (v3 &&& (9223372036854775807 : Int64)))), .second, .val (.long (f1_0 (1 : Int64) (v4 &&& (9223372036854775807 : Int64)))), .second, .val (.int ((v1 &&& (2147483647 : Int32)) % (3 : Int32))), .unset, .unset, .unset, .unset, .unset, .unset, .unset] [(.int (1 : Int32))])) (fun t k => XS.goto X8.here hx rfl (pc0 := 50) (pc' := 54) rfl (hb hby at_50) (by decide) (by decide) k) ?_
      have k2 := kk T7 X8 e9
      rw [show (z0_46_0 v0 v1 v2 v3 v4) = (1 : Int32) by unfold z0_46_0; rw [if_neg hj10]] at k2
      exact k2
  refine go_step (T' := T11) (g' := (mkF m 56 #[.val (.int v0), .val (.int v1), .val (.long v2), .second, .val (.long v3), .second, .val (.long v4), .second, .val (.long (f1_0 (1 : Int64) (v2 &&& (9223372036854775807 : Int64)))), .second, .val (.long (f1_0 (1 : Int64) (v3 &&& (9223372036854775807 : Int64)))), .second, .val (.long (f1_0 (1 : Int64) (v4 &&& (9223372036854775807 : Int64)))), .second, .val (.int ((v1 &&& (2147483647 : Int32)) % (3 : Int32))), .val (.int (z0_46_0 v0 v1 v2 v3 v4)), .unset, .unset, .unset, .unset, .unset, .unset] [])) (fun t k => XS.istore X12.here hx rfl (hb hby at_54) rfl (l' := #[.val (.int v0), .val (.int v1), .val (.long v2), .second, .val (.long v3), .second, .val (.long v4), .second, .val (.long (f1_0 (1 : Int64) (v2 &&& (9223372036854775807 : Int64)))), .second, .val (.long (f1_0 (1 : Int64) (v3 &&& (9223372036854775807 : Int64)))), .second, .val (.long (f1_0 (1 : Int64) (v4 &&& (9223372036854775807 : Int64)))), .second, .val (.int ((v1 &&& (2147483647 : Int32)) % (3 : Int32))), .val (.int (z0_46_0 v0 v1 v2 v3 v4)), .unset, .unset, .unset, .unset, .unset, .unset]) rfl k) ?_
  refine go_step (T' := T11) (g' := (mkF m 57 #[.val (.int v0), .val (.int v1), .val (.long v2), .second, .val (.long v3), .second, .val (.long v4), .second, .val (.long (f1_0 (1 : Int64) (v2 &&& (9223372036854775807 : Int64)))), .second, .val (.long (f1_0 (1 : Int64) (v3 &&& (9223372036854775807 : Int64)))), .second, .val (.long (f1_0 (1 : Int64) (v4 &&& (9223372036854775807 : Int64)))), .second, .val (.int ((v1 &&& (2147483647 : Int32)) % (3 : Int32))), .val (.int (z0_46_0 v0 v1 v2 v3 v4)), .unset, .unset, .unset, .unset, .unset, .unset] [.null])) (fun t k => XS.aconstNull X12.here hx rfl (hb hby at_56) k) ?_
  refine go_step (T' := T11) (g' := (mkF m 59 #[.val (.int v0), .val (.int v1), .val (.long v2), .second, .val (.long v3), .second, .val (.long v4), .second, .val (.long (f1_0 (1 : Int64) (v2 &&& (9223372036854775807 : Int64)))), .second, .val (.long (f1_0 (1 : Int64) (v3 &&& (9223372036854775807 : Int64)))), .second, .val (.long (f1_0 (1 : Int64) (v4 &&& (9223372036854775807 : Int64)))), .second, .val (.int ((v1 &&& (2147483647 : Int32)) % (3 : Int32))), .val (.int (z0_46_0 v0 v1 v2 v3 v4)), .val .null, .unset, .unset, .unset, .unset, .unset] [])) (fun t k => XS.astore X12.here hx rfl (hb hby at_57) rfl rfl (l' := #[.val (.int v0), .val (.int v1), .val (.long v2), .second, .val (.long v3), .second, .val (.long v4), .second, .val (.long (f1_0 (1 : Int64) (v2 &&& (9223372036854775807 : Int64)))), .second, .val (.long (f1_0 (1 : Int64) (v3 &&& (9223372036854775807 : Int64)))), .second, .val (.long (f1_0 (1 : Int64) (v4 &&& (9223372036854775807 : Int64)))), .second, .val (.int ((v1 &&& (2147483647 : Int32)) % (3 : Int32))), .val (.int (z0_46_0 v0 v1 v2 v3 v4)), .val .null, .unset, .unset, .unset, .unset, .unset]) rfl k) ?_
  refine go_step (T' := T11) (g' := (mkF m 61 #[.val (.int v0), .val (.int v1), .val (.long v2), .second, .val (.long v3), .second, .val (.long v4), .second, .val (.long (f1_0 (1 : Int64) (v2 &&& (9223372036854775807 : Int64)))), .second, .val (.long (f1_0 (1 : Int64) (v3 &&& (9223372036854775807 : Int64)))), .second, .val (.long (f1_0 (1 : Int64) (v4 &&& (9223372036854775807 : Int64)))), .second, .val (.int ((v1 &&& (2147483647 : Int32)) % (3 : Int32))), .val (.int (z0_46_0 v0 v1 v2 v3 v4)), .val .null, .unset, .unset, .unset, .unset, .unset] [(.int (z0_46_0 v0 v1 v2 v3 v4))])) (fun t k => XS.iload X12.here hx rfl (hb hby at_59) rfl  k) ?_
  by_cases hc14 : (z0_46_0 v0 v1 v2 v3 v4) = (0 : Int32)
  · refine go_step (T' := T11) (g' := (mkF m 64 #[.val (.int v0), .val (.int v1), .val (.long v2), .second, .val (.long v3), .second, .val (.long v4), .second, .val (.long (f1_0 (1 : Int64) (v2 &&& (9223372036854775807 : Int64)))), .second, .val (.long (f1_0 (1 : Int64) (v3 &&& (9223372036854775807 : Int64)))), .second, .val (.long (f1_0 (1 : Int64) (v4 &&& (9223372036854775807 : Int64)))), .second, .val (.int ((v1 &&& (2147483647 : Int32)) % (3 : Int32))), .val (.int (z0_46_0 v0 v1 v2 v3 v4)), .val .null, .unset, .unset, .unset, .unset, .unset] [])) (fun t k => XS.ifNo X12.here hx rfl (hb hby at_61) rfl ((if0 _ _).trans (teq hc14).2) k) ?_
    refine go_step (T' := T11) (g' := (mkF m 65 #[.val (.int v0), .val (.int v1), .val (.long v2), .second, .val (.long v3), .second, .val (.long v4), .second, .val (.long (f1_0 (1 : Int64) (v2 &&& (9223372036854775807 : Int64)))), .second, .val (.long (f1_0 (1 : Int64) (v3 &&& (9223372036854775807 : Int64)))), .second, .val (.long (f1_0 (1 : Int64) (v4 &&& (9223372036854775807 : Int64)))), .second, .val (.int ((v1 &&& (2147483647 : Int32)) % (3 : Int32))), .val (.int (z0_46_0 v0 v1 v2 v3 v4)), .val .null, .unset, .unset, .unset, .unset, .unset] [(.int (3 : Int32))])) (fun t k => XS.iconst X12.here hx rfl (hb hby at_64) k) ?_
    refine go_newP X12 hx hZ (hw _ (List.mem_of_getElem? (i := 6) rfl)) e13 3 (by decide) (by decide) (by decide) (by decide) (by decide) (g := (mkF m 65 #[.val (.int v0), .val (.int v1), .val (.long v2), .second, .val (.long v3), .second, .val (.long v4), .second, .val (.long (f1_0 (1 : Int64) (v2 &&& (9223372036854775807 : Int64)))), .second, .val (.long (f1_0 (1 : Int64) (v3 &&& (9223372036854775807 : Int64)))), .second, .val (.long (f1_0 (1 : Int64) (v4 &&& (9223372036854775807 : Int64)))), .second, .val (.int ((v1 &&& (2147483647 : Int32)) % (3 : Int32))), .val (.int (z0_46_0 v0 v1 v2 v3 v4)), .val .null, .unset, .unset, .unset, .unset, .unset] [(.int (3 : Int32))])) rfl rfl (hb hby at_65) (fun T15 h16 b17 X18 e19 E20 q21 A22 => ?_)
    have sz23 : h0.size ≤ b17 := Nat.le_trans K0.1 (Nat.le_of_eq q21.symm)
    have g24 : n0 ≤ b17 := Nat.le_trans Z0 sz23
    have K25 := K0.ext E20
    have A26 : JA Z h16 b17 [(0 : Int64), (0 : Int64), (0 : Int64)] := A22
    show Go p e below s _ _ _ T15 (mkF m 67 #[.val (.int v0), .val (.int v1), .val (.long v2), .second, .val (.long v3), .second, .val (.long v4), .second, .val (.long (f1_0 (1 : Int64) (v2 &&& (9223372036854775807 : Int64)))), .second, .val (.long (f1_0 (1 : Int64) (v3 &&& (9223372036854775807 : Int64)))), .second, .val (.long (f1_0 (1 : Int64) (v4 &&& (9223372036854775807 : Int64)))), .second, .val (.int ((v1 &&& (2147483647 : Int32)) % (3 : Int32))), .val (.int (z0_46_0 v0 v1 v2 v3 v4)), .val .null, .unset, .unset, .unset, .unset, .unset] [(.ref b17)])
    refine go_step (T' := T15) (g' := (mkF m 69 #[.val (.int v0), .val (.int v1), .val (.long v2), .second, .val (.long v3), .second, .val (.long v4), .second, .val (.long (f1_0 (1 : Int64) (v2 &&& (9223372036854775807 : Int64)))), .second, .val (.long (f1_0 (1 : Int64) (v3 &&& (9223372036854775807 : Int64)))), .second, .val (.long (f1_0 (1 : Int64) (v4 &&& (9223372036854775807 : Int64)))), .second, .val (.int ((v1 &&& (2147483647 : Int32)) % (3 : Int32))), .val (.int (z0_46_0 v0 v1 v2 v3 v4)), .val (.ref b17), .unset, .unset, .unset, .unset, .unset] [])) (fun t k => XS.astore X18.here hx rfl (hb hby at_67) rfl rfl (l' := #[.val (.int v0), .val (.int v1), .val (.long v2), .second, .val (.long v3), .second, .val (.long v4), .second, .val (.long (f1_0 (1 : Int64) (v2 &&& (9223372036854775807 : Int64)))), .second, .val (.long (f1_0 (1 : Int64) (v3 &&& (9223372036854775807 : Int64)))), .second, .val (.long (f1_0 (1 : Int64) (v4 &&& (9223372036854775807 : Int64)))), .second, .val (.int ((v1 &&& (2147483647 : Int32)) % (3 : Int32))), .val (.int (z0_46_0 v0 v1 v2 v3 v4)), .val (.ref b17), .unset, .unset, .unset, .unset, .unset]) rfl k) ?_
    refine go_step (T' := T15) (g' := (mkF m 71 #[.val (.int v0), .val (.int v1), .val (.long v2), .second, .val (.long v3), .second, .val (.long v4), .second, .val (.long (f1_0 (1 : Int64) (v2 &&& (9223372036854775807 : Int64)))), .second, .val (.long (f1_0 (1 : Int64) (v3 &&& (9223372036854775807 : Int64)))), .second, .val (.long (f1_0 (1 : Int64) (v4 &&& (9223372036854775807 : Int64)))), .second, .val (.int ((v1 &&& (2147483647 : Int32)) % (3 : Int32))), .val (.int (z0_46_0 v0 v1 v2 v3 v4)), .val (.ref b17), .unset, .unset, .unset, .unset, .unset] [(.ref b17)])) (fun t k => XS.aload X18.here hx rfl (hb hby at_69) rfl rfl k) ?_
    refine go_step (T' := T15) (g' := (mkF m 72 #[.val (.int v0), .val (.int v1), .val (.long v2), .second, .val (.long v3), .second, .val (.long v4), .second, .val (.long (f1_0 (1 : Int64) (v2 &&& (9223372036854775807 : Int64)))), .second, .val (.long (f1_0 (1 : Int64) (v3 &&& (9223372036854775807 : Int64)))), .second, .val (.long (f1_0 (1 : Int64) (v4 &&& (9223372036854775807 : Int64)))), .second, .val (.int ((v1 &&& (2147483647 : Int32)) % (3 : Int32))), .val (.int (z0_46_0 v0 v1 v2 v3 v4)), .val (.ref b17), .unset, .unset, .unset, .unset, .unset] [(.int (0 : Int32)), (.ref b17)])) (fun t k => XS.iconst X18.here hx rfl (hb hby at_71) k) ?_
    refine go_step (T' := T15) (g' := (mkF m 74 #[.val (.int v0), .val (.int v1), .val (.long v2), .second, .val (.long v3), .second, .val (.long v4), .second, .val (.long (f1_0 (1 : Int64) (v2 &&& (9223372036854775807 : Int64)))), .second, .val (.long (f1_0 (1 : Int64) (v3 &&& (9223372036854775807 : Int64)))), .second, .val (.long (f1_0 (1 : Int64) (v4 &&& (9223372036854775807 : Int64)))), .second, .val (.int ((v1 &&& (2147483647 : Int32)) % (3 : Int32))), .val (.int (z0_46_0 v0 v1 v2 v3 v4)), .val (.ref b17), .unset, .unset, .unset, .unset, .unset] [(.long (f1_0 (1 : Int64) (v2 &&& (9223372036854775807 : Int64)))), (.int (0 : Int32)), (.ref b17)])) (fun t k => XS.lload X18.here hx rfl (hb hby at_72) rfl  k) ?_
    refine go_lastore X18 hx hZ e19 A26 (by decide) (show ((0 : Int32)).toNatClampNeg < 3 by decide) (g := (mkF m 74 #[.val (.int v0), .val (.int v1), .val (.long v2), .second, .val (.long v3), .second, .val (.long v4), .second, .val (.long (f1_0 (1 : Int64) (v2 &&& (9223372036854775807 : Int64)))), .second, .val (.long (f1_0 (1 : Int64) (v3 &&& (9223372036854775807 : Int64)))), .second, .val (.long (f1_0 (1 : Int64) (v4 &&& (9223372036854775807 : Int64)))), .second, .val (.int ((v1 &&& (2147483647 : Int32)) % (3 : Int32))), .val (.int (z0_46_0 v0 v1 v2 v3 v4)), .val (.ref b17), .unset, .unset, .unset, .unset, .unset] [(.long (f1_0 (1 : Int64) (v2 &&& (9223372036854775807 : Int64)))), (.int (0 : Int32)), (.ref b17)])) rfl rfl (hb hby at_74) (fun T27 h28 X29 e30 W31 A32 => ?_)
    have K33 := K25.wr W31 (Or.inr sz23)
    have N34 := Fr.snoc X29 N0 g24
    have A35 : JA Z h28 b17 [(f1_0 (1 : Int64) (v2 &&& (9223372036854775807 : Int64))), (0 : Int64), (0 : Int64)] := A32
    show Go p e below s _ _ _ T27 (mkF m 75 #[.val (.int v0), .val (.int v1), .val (.long v2), .second, .val (.long v3), .second, .val (.long v4), .second, .val (.long (f1_0 (1 : Int64) (v2 &&& (9223372036854775807 : Int64)))), .second, .val (.long (f1_0 (1 : Int64) (v3 &&& (9223372036854775807 : Int64)))), .second, .val (.long (f1_0 (1 : Int64) (v4 &&& (9223372036854775807 : Int64)))), .second, .val (.int ((v1 &&& (2147483647 : Int32)) % (3 : Int32))), .val (.int (z0_46_0 v0 v1 v2 v3 v4)), .val (.ref b17), .unset, .unset, .unset, .unset, .unset] [])
    refine go_step (T' := T27) (g' := (mkF m 77 #[.val (.int v0), .val (.int v1), .val (.long v2), .second, .val (.long v3), .second, .val (.long v4), .second, .val (.long (f1_0 (1 : Int64) (v2 &&& (9223372036854775807 : Int64)))), .second, .val (.long (f1_0 (1 : Int64) (v3 &&& (9223372036854775807 : Int64)))), .second, .val (.long (f1_0 (1 : Int64) (v4 &&& (9223372036854775807 : Int64)))), .second, .val (.int ((v1 &&& (2147483647 : Int32)) % (3 : Int32))), .val (.int (z0_46_0 v0 v1 v2 v3 v4)), .val (.ref b17), .unset, .unset, .unset, .unset, .unset] [(.ref b17)])) (fun t k => XS.aload X29.here hx rfl (hb hby at_75) rfl rfl k) ?_
    refine go_step (T' := T27) (g' := (mkF m 78 #[.val (.int v0), .val (.int v1), .val (.long v2), .second, .val (.long v3), .second, .val (.long v4), .second, .val (.long (f1_0 (1 : Int64) (v2 &&& (9223372036854775807 : Int64)))), .second, .val (.long (f1_0 (1 : Int64) (v3 &&& (9223372036854775807 : Int64)))), .second, .val (.long (f1_0 (1 : Int64) (v4 &&& (9223372036854775807 : Int64)))), .second, .val (.int ((v1 &&& (2147483647 : Int32)) % (3 : Int32))), .val (.int (z0_46_0 v0 v1 v2 v3 v4)), .val (.ref b17), .unset, .unset, .unset, .unset, .unset] [(.int (1 : Int32)), (.ref b17)])) (fun t k => XS.iconst X29.here hx rfl (hb hby at_77) k) ?_
    refine go_step (T' := T27) (g' := (mkF m 80 #[.val (.int v0), .val (.int v1), .val (.long v2), .second, .val (.long v3), .second, .val (.long v4), .second, .val (.long (f1_0 (1 : Int64) (v2 &&& (9223372036854775807 : Int64)))), .second, .val (.long (f1_0 (1 : Int64) (v3 &&& (9223372036854775807 : Int64)))), .second, .val (.long (f1_0 (1 : Int64) (v4 &&& (9223372036854775807 : Int64)))), .second, .val (.int ((v1 &&& (2147483647 : Int32)) % (3 : Int32))), .val (.int (z0_46_0 v0 v1 v2 v3 v4)), .val (.ref b17), .unset, .unset, .unset, .unset, .unset] [(.long (f1_0 (1 : Int64) (v3 &&& (9223372036854775807 : Int64)))), (.int (1 : Int32)), (.ref b17)])) (fun t k => XS.lload X29.here hx rfl (hb hby at_78) rfl  k) ?_
    refine go_lastore X29 hx hZ e30 A35 (by decide) (show ((1 : Int32)).toNatClampNeg < 3 by decide) (g := (mkF m 80 #[.val (.int v0), .val (.int v1), .val (.long v2), .second, .val (.long v3), .second, .val (.long v4), .second, .val (.long (f1_0 (1 : Int64) (v2 &&& (9223372036854775807 : Int64)))), .second, .val (.long (f1_0 (1 : Int64) (v3 &&& (9223372036854775807 : Int64)))), .second, .val (.long (f1_0 (1 : Int64) (v4 &&& (9223372036854775807 : Int64)))), .second, .val (.int ((v1 &&& (2147483647 : Int32)) % (3 : Int32))), .val (.int (z0_46_0 v0 v1 v2 v3 v4)), .val (.ref b17), .unset, .unset, .unset, .unset, .unset] [(.long (f1_0 (1 : Int64) (v3 &&& (9223372036854775807 : Int64)))), (.int (1 : Int32)), (.ref b17)])) rfl rfl (hb hby at_80) (fun T36 h37 X38 e39 W40 A41 => ?_)
    have K42 := K33.wr W40 (Or.inr sz23)
    have N43 := Fr.snoc X38 N34 g24
    have A44 : JA Z h37 b17 [(f1_0 (1 : Int64) (v2 &&& (9223372036854775807 : Int64))), (f1_0 (1 : Int64) (v3 &&& (9223372036854775807 : Int64))), (0 : Int64)] := A41
    show Go p e below s _ _ _ T36 (mkF m 81 #[.val (.int v0), .val (.int v1), .val (.long v2), .second, .val (.long v3), .second, .val (.long v4), .second, .val (.long (f1_0 (1 : Int64) (v2 &&& (9223372036854775807 : Int64)))), .second, .val (.long (f1_0 (1 : Int64) (v3 &&& (9223372036854775807 : Int64)))), .second, .val (.long (f1_0 (1 : Int64) (v4 &&& (9223372036854775807 : Int64)))), .second, .val (.int ((v1 &&& (2147483647 : Int32)) % (3 : Int32))), .val (.int (z0_46_0 v0 v1 v2 v3 v4)), .val (.ref b17), .unset, .unset, .unset, .unset, .unset] [])
    refine go_step (T' := T36) (g' := (mkF m 83 #[.val (.int v0), .val (.int v1), .val (.long v2), .second, .val (.long v3), .second, .val (.long v4), .second, .val (.long (f1_0 (1 : Int64) (v2 &&& (9223372036854775807 : Int64)))), .second, .val (.long (f1_0 (1 : Int64) (v3 &&& (9223372036854775807 : Int64)))), .second, .val (.long (f1_0 (1 : Int64) (v4 &&& (9223372036854775807 : Int64)))), .second, .val (.int ((v1 &&& (2147483647 : Int32)) % (3 : Int32))), .val (.int (z0_46_0 v0 v1 v2 v3 v4)), .val (.ref b17), .unset, .unset, .unset, .unset, .unset] [(.ref b17)])) (fun t k => XS.aload X38.here hx rfl (hb hby at_81) rfl rfl k) ?_
    refine go_step (T' := T36) (g' := (mkF m 84 #[.val (.int v0), .val (.int v1), .val (.long v2), .second, .val (.long v3), .second, .val (.long v4), .second, .val (.long (f1_0 (1 : Int64) (v2 &&& (9223372036854775807 : Int64)))), .second, .val (.long (f1_0 (1 : Int64) (v3 &&& (9223372036854775807 : Int64)))), .second, .val (.long (f1_0 (1 : Int64) (v4 &&& (9223372036854775807 : Int64)))), .second, .val (.int ((v1 &&& (2147483647 : Int32)) % (3 : Int32))), .val (.int (z0_46_0 v0 v1 v2 v3 v4)), .val (.ref b17), .unset, .unset, .unset, .unset, .unset] [(.int (2 : Int32)), (.ref b17)])) (fun t k => XS.iconst X38.here hx rfl (hb hby at_83) k) ?_
    refine go_step (T' := T36) (g' := (mkF m 86 #[.val (.int v0), .val (.int v1), .val (.long v2), .second, .val (.long v3), .second, .val (.long v4), .second, .val (.long (f1_0 (1 : Int64) (v2 &&& (9223372036854775807 : Int64)))), .second, .val (.long (f1_0 (1 : Int64) (v3 &&& (9223372036854775807 : Int64)))), .second, .val (.long (f1_0 (1 : Int64) (v4 &&& (9223372036854775807 : Int64)))), .second, .val (.int ((v1 &&& (2147483647 : Int32)) % (3 : Int32))), .val (.int (z0_46_0 v0 v1 v2 v3 v4)), .val (.ref b17), .unset, .unset, .unset, .unset, .unset] [(.long (f1_0 (1 : Int64) (v4 &&& (9223372036854775807 : Int64)))), (.int (2 : Int32)), (.ref b17)])) (fun t k => XS.lload X38.here hx rfl (hb hby at_84) rfl  k) ?_
    refine go_lastore X38 hx hZ e39 A44 (by decide) (show ((2 : Int32)).toNatClampNeg < 3 by decide) (g := (mkF m 86 #[.val (.int v0), .val (.int v1), .val (.long v2), .second, .val (.long v3), .second, .val (.long v4), .second, .val (.long (f1_0 (1 : Int64) (v2 &&& (9223372036854775807 : Int64)))), .second, .val (.long (f1_0 (1 : Int64) (v3 &&& (9223372036854775807 : Int64)))), .second, .val (.long (f1_0 (1 : Int64) (v4 &&& (9223372036854775807 : Int64)))), .second, .val (.int ((v1 &&& (2147483647 : Int32)) % (3 : Int32))), .val (.int (z0_46_0 v0 v1 v2 v3 v4)), .val (.ref b17), .unset, .unset, .unset, .unset, .unset] [(.long (f1_0 (1 : Int64) (v4 &&& (9223372036854775807 : Int64)))), (.int (2 : Int32)), (.ref b17)])) rfl rfl (hb hby at_86) (fun T45 h46 X47 e48 W49 A50 => ?_)
    have K51 := K42.wr W49 (Or.inr sz23)
    have N52 := Fr.snoc X47 N43 g24
    have A53 : JA Z h46 b17 [(f1_0 (1 : Int64) (v2 &&& (9223372036854775807 : Int64))), (f1_0 (1 : Int64) (v3 &&& (9223372036854775807 : Int64))), (f1_0 (1 : Int64) (v4 &&& (9223372036854775807 : Int64)))] := A50
    show Go p e below s _ _ _ T45 (mkF m 87 #[.val (.int v0), .val (.int v1), .val (.long v2), .second, .val (.long v3), .second, .val (.long v4), .second, .val (.long (f1_0 (1 : Int64) (v2 &&& (9223372036854775807 : Int64)))), .second, .val (.long (f1_0 (1 : Int64) (v3 &&& (9223372036854775807 : Int64)))), .second, .val (.long (f1_0 (1 : Int64) (v4 &&& (9223372036854775807 : Int64)))), .second, .val (.int ((v1 &&& (2147483647 : Int32)) % (3 : Int32))), .val (.int (z0_46_0 v0 v1 v2 v3 v4)), .val (.ref b17), .unset, .unset, .unset, .unset, .unset] [])
    refine go_new X47 hx hZ hown (hw _ (List.mem_of_getElem? (i := 7) rfl)) (hw _ (List.mem_of_getElem? (i := 8) rfl)) (hw _ (List.mem_of_getElem? (i := 9) rfl)) e48 (by decide) (by decide) (g := (mkF m 87 #[.val (.int v0), .val (.int v1), .val (.long v2), .second, .val (.long v3), .second, .val (.long v4), .second, .val (.long (f1_0 (1 : Int64) (v2 &&& (9223372036854775807 : Int64)))), .second, .val (.long (f1_0 (1 : Int64) (v3 &&& (9223372036854775807 : Int64)))), .second, .val (.long (f1_0 (1 : Int64) (v4 &&& (9223372036854775807 : Int64)))), .second, .val (.int ((v1 &&& (2147483647 : Int32)) % (3 : Int32))), .val (.int (z0_46_0 v0 v1 v2 v3 v4)), .val (.ref b17), .unset, .unset, .unset, .unset, .unset] [])) rfl (hb hby at_87) (fun T54 h55 b56 X57 e58 E59 q60 A61 D62 => ?_)
    have ne63 : b17 ≠ b56 := Nat.ne_of_lt (Nat.lt_of_lt_of_eq A53.lt q60.symm)
    have sz64 : h0.size ≤ b56 := Nat.le_trans K51.1 (Nat.le_of_eq q60.symm)
    have g65 : n0 ≤ b56 := Nat.le_trans Z0 sz64
    have K66 := K51.ext E59
    have F67 : Fld Z h55 b56 "com/example/thicket/thicket/graph/VertexWeights" "vertexCount" "I" (.int (0 : Int32)) := D62 (Or.inr (hw _ (List.mem_of_getElem? (i := 17) rfl))) (ty := .int) (by decide)
    have F68 : Fld Z h55 b56 "com/example/thicket/thicket/graph/VertexWeights" "millionths" "[J" .null := D62 (Or.inr (hw _ (List.mem_of_getElem? (i := 19) rfl))) (ty := (.array .long)) (by decide)
    show Go p e below s _ _ _ T54 (mkF m 90 #[.val (.int v0), .val (.int v1), .val (.long v2), .second, .val (.long v3), .second, .val (.long v4), .second, .val (.long (f1_0 (1 : Int64) (v2 &&& (9223372036854775807 : Int64)))), .second, .val (.long (f1_0 (1 : Int64) (v3 &&& (9223372036854775807 : Int64)))), .second, .val (.long (f1_0 (1 : Int64) (v4 &&& (9223372036854775807 : Int64)))), .second, .val (.int ((v1 &&& (2147483647 : Int32)) % (3 : Int32))), .val (.int (z0_46_0 v0 v1 v2 v3 v4)), .val (.ref b17), .unset, .unset, .unset, .unset, .unset] [(.ref b56)])
    refine go_step (T' := T54) (g' := (mkF m 91 #[.val (.int v0), .val (.int v1), .val (.long v2), .second, .val (.long v3), .second, .val (.long v4), .second, .val (.long (f1_0 (1 : Int64) (v2 &&& (9223372036854775807 : Int64)))), .second, .val (.long (f1_0 (1 : Int64) (v3 &&& (9223372036854775807 : Int64)))), .second, .val (.long (f1_0 (1 : Int64) (v4 &&& (9223372036854775807 : Int64)))), .second, .val (.int ((v1 &&& (2147483647 : Int32)) % (3 : Int32))), .val (.int (z0_46_0 v0 v1 v2 v3 v4)), .val (.ref b17), .unset, .unset, .unset, .unset, .unset] [(.ref b56), (.ref b56)])) (fun t k => XS.dup X57.here hx rfl (hb hby at_90) rfl rfl k) ?_
    refine go_step (T' := T54) (g' := (mkF m 92 #[.val (.int v0), .val (.int v1), .val (.long v2), .second, .val (.long v3), .second, .val (.long v4), .second, .val (.long (f1_0 (1 : Int64) (v2 &&& (9223372036854775807 : Int64)))), .second, .val (.long (f1_0 (1 : Int64) (v3 &&& (9223372036854775807 : Int64)))), .second, .val (.long (f1_0 (1 : Int64) (v4 &&& (9223372036854775807 : Int64)))), .second, .val (.int ((v1 &&& (2147483647 : Int32)) % (3 : Int32))), .val (.int (z0_46_0 v0 v1 v2 v3 v4)), .val (.ref b17), .unset, .unset, .unset, .unset, .unset] [(.int (3 : Int32)), (.ref b56), (.ref b56)])) (fun t k => XS.iconst X57.here hx rfl (hb hby at_91) k) ?_
    refine go_step (T' := T54) (g' := (mkF m 94 #[.val (.int v0), .val (.int v1), .val (.long v2), .second, .val (.long v3), .second, .val (.long v4), .second, .val (.long (f1_0 (1 : Int64) (v2 &&& (9223372036854775807 : Int64)))), .second, .val (.long (f1_0 (1 : Int64) (v3 &&& (9223372036854775807 : Int64)))), .second, .val (.long (f1_0 (1 : Int64) (v4 &&& (9223372036854775807 : Int64)))), .second, .val (.int ((v1 &&& (2147483647 : Int32)) % (3 : Int32))), .val (.int (z0_46_0 v0 v1 v2 v3 v4)), .val (.ref b17), .unset, .unset, .unset, .unset, .unset] [(.ref b17), (.int (3 : Int32)), (.ref b56), (.ref b56)])) (fun t k => XS.aload X57.here hx rfl (hb hby at_92) rfl rfl k) ?_
    refine go_callC X57 hx hZ (y := (⟨"com/example/thicket/thicket/graph/VertexWeights", "<init>", "(I[J)V"⟩ : MethodName)) rfl hown (hw _ (List.mem_of_getElem? (i := 10) rfl)) (hw _ (List.mem_of_getElem? (i := 11) rfl)) (hw _ (List.mem_of_getElem? (i := 9) rfl)) (hw _ (List.mem_of_getElem? (i := 12) rfl)) (by decide) e58 (mq2 l Z a0 hw b56 (3 : Int32) b17  h55 n0 (Nat.le_trans Z0 K66.1) A61 F67 F68 g65) 1 (by decide) (by decide) (g := (mkF m 94 #[.val (.int v0), .val (.int v1), .val (.long v2), .second, .val (.long v3), .second, .val (.long v4), .second, .val (.long (f1_0 (1 : Int64) (v2 &&& (9223372036854775807 : Int64)))), .second, .val (.long (f1_0 (1 : Int64) (v3 &&& (9223372036854775807 : Int64)))), .second, .val (.long (f1_0 (1 : Int64) (v4 &&& (9223372036854775807 : Int64)))), .second, .val (.int ((v1 &&& (2147483647 : Int32)) % (3 : Int32))), .val (.int (z0_46_0 v0 v1 v2 v3 v4)), .val (.ref b17), .unset, .unset, .unset, .unset, .unset] [(.ref b17), (.int (3 : Int32)), (.ref b56), (.ref b56)])) rfl (by rw [hml]; rfl) (argsL := [(.int (3 : Int32)), (.ref b17)]) (rest := [(.ref b56)]) (lenOf pd_1 rfl) rfl (by show 2 * 0 + _ ≤ _; exact Nat.le_of_eq rfl) (hb hby at_94) rfl (by decide) (by decide) (fun T69 v70 L71 X72 hQ73 => ?_)
    obtain ⟨rfl, N74, K75, F76, F77⟩ := hQ73
    have N78 := Fr.app N52 N74
    have K79 := K66.trans K75 (allS (Or.inr sz64) all0)
    have F80 : Fld Z T69.heap b56 "com/example/thicket/thicket/graph/VertexWeights" "vertexCount" "I" (.int (f2_vertexCount (3 : Int32))) := F76
    show Go p e below s _ _ _ T69 (mkF m 97 #[.val (.int v0), .val (.int v1), .val (.long v2), .second, .val (.long v3), .second, .val (.long v4), .second, .val (.long (f1_0 (1 : Int64) (v2 &&& (9223372036854775807 : Int64)))), .second, .val (.long (f1_0 (1 : Int64) (v3 &&& (9223372036854775807 : Int64)))), .second, .val (.long (f1_0 (1 : Int64) (v4 &&& (9223372036854775807 : Int64)))), .second, .val (.int ((v1 &&& (2147483647 : Int32)) % (3 : Int32))), .val (.int (z0_46_0 v0 v1 v2 v3 v4)), .val (.ref b17), .unset, .unset, .unset, .unset, .unset] [(.ref b56)])
    refine go_step (T' := T69) (g' := (mkF m 99 #[.val (.int v0), .val (.int v1), .val (.long v2), .second, .val (.long v3), .second, .val (.long v4), .second, .val (.long (f1_0 (1 : Int64) (v2 &&& (9223372036854775807 : Int64)))), .second, .val (.long (f1_0 (1 : Int64) (v3 &&& (9223372036854775807 : Int64)))), .second, .val (.long (f1_0 (1 : Int64) (v4 &&& (9223372036854775807 : Int64)))), .second, .val (.int ((v1 &&& (2147483647 : Int32)) % (3 : Int32))), .val (.int (z0_46_0 v0 v1 v2 v3 v4)), .val (.ref b17), .val (.ref b56), .unset, .unset, .unset, .unset] [])) (fun t k => XS.astore X72.here hx rfl (hb hby at_97) rfl rfl (l' := #[.val (.int v0), .val (.int v1), .val (.long v2), .second, .val (.long v3), .second, .val (.long v4), .second, .val (.long (f1_0 (1 : Int64) (v2 &&& (9223372036854775807 : Int64)))), .second, .val (.long (f1_0 (1 : Int64) (v3 &&& (9223372036854775807 : Int64)))), .second, .val (.long (f1_0 (1 : Int64) (v4 &&& (9223372036854775807 : Int64)))), .second, .val (.int ((v1 &&& (2147483647 : Int32)) % (3 : Int32))), .val (.int (z0_46_0 v0 v1 v2 v3 v4)), .val (.ref b17), .val (.ref b56), .unset, .unset, .unset, .unset]) rfl k) ?_
    refine go_step (T' := T69) (g' := (mkF m 101 #[.val (.int v0), .val (.int v1), .val (.long v2), .second, .val (.long v3), .second, .val (.long v4), .second, .val (.long (f1_0 (1 : Int64) (v2 &&& (9223372036854775807 : Int64)))), .second, .val (.long (f1_0 (1 : Int64) (v3 &&& (9223372036854775807 : Int64)))), .second, .val (.long (f1_0 (1 : Int64) (v4 &&& (9223372036854775807 : Int64)))), .second, .val (.int ((v1 &&& (2147483647 : Int32)) % (3 : Int32))), .val (.int (z0_46_0 v0 v1 v2 v3 v4)), .val (.ref b17), .val (.ref b56), .unset, .unset, .unset, .unset] [(.ref b56)])) (fun t k => XS.aload X72.here hx rfl (hb hby at_99) rfl rfl k) ?_
    refine go_step (T' := T69) (g' := (mkF m 103 #[.val (.int v0), .val (.int v1), .val (.long v2), .second, .val (.long v3), .second, .val (.long v4), .second, .val (.long (f1_0 (1 : Int64) (v2 &&& (9223372036854775807 : Int64)))), .second, .val (.long (f1_0 (1 : Int64) (v3 &&& (9223372036854775807 : Int64)))), .second, .val (.long (f1_0 (1 : Int64) (v4 &&& (9223372036854775807 : Int64)))), .second, .val (.int ((v1 &&& (2147483647 : Int32)) % (3 : Int32))), .val (.int (z0_46_0 v0 v1 v2 v3 v4)), .val (.ref b17), .val (.ref b56), .unset, .unset, .unset, .unset] [(.int ((v1 &&& (2147483647 : Int32)) % (3 : Int32))), (.ref b56)])) (fun t k => XS.iload X72.here hx rfl (hb hby at_101) rfl  k) ?_
    have G81 : JA Z T69.heap b17 [(f1_0 (1 : Int64) (v2 &&& (9223372036854775807 : Int64))), (f1_0 (1 : Int64) (v3 &&& (9223372036854775807 : Int64))), (f1_0 (1 : Int64) (v4 &&& (9223372036854775807 : Int64)))] := ((A53.ext E59).keep K75 (ninS ne63 nin0))
    have G82 : Exa Z T69.heap b56 "com/example/thicket/thicket/graph/VertexWeights" := (A61.keep K75)
    refine go_callVP X72 hx hZ (y := (⟨"com/example/thicket/thicket/graph/VertexWeights", "weight", "(I)J"⟩ : MethodName)) hown (hw _ (List.mem_of_getElem? (i := 20) rfl)) (hw _ (List.mem_of_getElem? (i := 21) rfl)) (hw _ (List.mem_of_getElem? (i := 23) rfl)) (hw _ (List.mem_of_getElem? (i := 22) rfl)) (hw _ (List.mem_of_getElem? (i := 9) rfl)) (hw _ (List.mem_of_getElem? (i := 24) rfl)) (by decide) rfl G82 (mq4 l Z a0 hw b56 ((v1 &&& (2147483647 : Int32)) % (3 : Int32)) b17 ([(f1_0 (1 : Int64) (v2 &&& (9223372036854775807 : Int64))), (f1_0 (1 : Int64) (v3 &&& (9223372036854775807 : Int64))), (f1_0 (1 : Int64) (v4 &&& (9223372036854775807 : Int64)))]) T69.heap 0 (Nat.zero_le _) F77 G81 (own_idx v1).1 (own_idx v1).2) 0 (by decide) (by decide) (g := (mkF m 103 #[.val (.int v0), .val (.int v1), .val (.long v2), .second, .val (.long v3), .second, .val (.long v4), .second, .val (.long (f1_0 (1 : Int64) (v2 &&& (9223372036854775807 : Int64)))), .second, .val (.long (f1_0 (1 : Int64) (v3 &&& (9223372036854775807 : Int64)))), .second, .val (.long (f1_0 (1 : Int64) (v4 &&& (9223372036854775807 : Int64)))), .second, .val (.int ((v1 &&& (2147483647 : Int32)) % (3 : Int32))), .val (.int (z0_46_0 v0 v1 v2 v3 v4)), .val (.ref b17), .val (.ref b56), .unset, .unset, .unset, .unset] [(.int ((v1 &&& (2147483647 : Int32)) % (3 : Int32))), (.ref b56)])) rfl (by rw [hml]; rfl) (argsL := [(.int ((v1 &&& (2147483647 : Int32)) % (3 : Int32)))]) (rest := []) (lenOf pd_2 rfl) rfl (by show 2 * 0 + _ ≤ _; exact Nat.le_of_eq rfl) (hb hby at_103) rfl rfl rfl (by decide) (by decide) (fun T83 X84 e85 => ?_)
    show Go p e below s _ _ _ T83 (mkF m 106 #[.val (.int v0), .val (.int v1), .val (.long v2), .second, .val (.long v3), .second, .val (.long v4), .second, .val (.long (f1_0 (1 : Int64) (v2 &&& (9223372036854775807 : Int64)))), .second, .val (.long (f1_0 (1 : Int64) (v3 &&& (9223372036854775807 : Int64)))), .second, .val (.long (f1_0 (1 : Int64) (v4 &&& (9223372036854775807 : Int64)))), .second, .val (.int ((v1 &&& (2147483647 : Int32)) % (3 : Int32))), .val (.int (z0_46_0 v0 v1 v2 v3 v4)), .val (.ref b17), .val (.ref b56), .unset, .unset, .unset, .unset] [(.long (s0_0 v0 v1 v2 v3 v4))])
    refine go_step (T' := T83) (g' := (mkF m 108 #[.val (.int v0), .val (.int v1), .val (.long v2), .second, .val (.long v3), .second, .val (.long v4), .second, .val (.long (f1_0 (1 : Int64) (v2 &&& (9223372036854775807 : Int64)))), .second, .val (.long (f1_0 (1 : Int64) (v3 &&& (9223372036854775807 : Int64)))), .second, .val (.long (f1_0 (1 : Int64) (v4 &&& (9223372036854775807 : Int64)))), .second, .val (.int ((v1 &&& (2147483647 : Int32)) % (3 : Int32))), .val (.int (z0_46_0 v0 v1 v2 v3 v4)), .val (.ref b17), .val (.ref b56), .val (.long (s0_0 v0 v1 v2 v3 v4)), .second, .unset, .unset] [])) (fun t k => XS.lstore X84.here hx rfl (hb hby at_106) rfl (l' := #[.val (.int v0), .val (.int v1), .val (.long v2), .second, .val (.long v3), .second, .val (.long v4), .second, .val (.long (f1_0 (1 : Int64) (v2 &&& (9223372036854775807 : Int64)))), .second, .val (.long (f1_0 (1 : Int64) (v3 &&& (9223372036854775807 : Int64)))), .second, .val (.long (f1_0 (1 : Int64) (v4 &&& (9223372036854775807 : Int64)))), .second, .val (.int ((v1 &&& (2147483647 : Int32)) % (3 : Int32))), .val (.int (z0_46_0 v0 v1 v2 v3 v4)), .val (.ref b17), .val (.ref b56), .val (.long (s0_0 v0 v1 v2 v3 v4)), .second, .unset, .unset]) rfl k) ?_
    exact b0_108 hw hx hby hml hown hZ hret hlk X84 e85 (by decide) (by decide) v0 v1 v2 v3 v4 (f1_0 (1 : Int64) (v2 &&& (9223372036854775807 : Int64))) (f1_0 (1 : Int64) (v3 &&& (9223372036854775807 : Int64))) (f1_0 (1 : Int64) (v4 &&& (9223372036854775807 : Int64))) ((v1 &&& (2147483647 : Int32)) % (3 : Int32)) (z0_46_0 v0 v1 v2 v3 v4) (.val (.ref b17)) (One.val rfl) (.val (.ref b56)) (One.val rfl) (s0_0 v0 v1 v2 v3 v4) ⟨(by unfold f0_ret; first | (rw [if_pos hc14]; done) | (rw [if_pos hc14]; rfl)), N78⟩
  · refine go_step (T' := T11) (g' := (mkF m 87 #[.val (.int v0), .val (.int v1), .val (.long v2), .second, .val (.long v3), .second, .val (.long v4), .second, .val (.long (f1_0 (1 : Int64) (v2 &&& (9223372036854775807 : Int64)))), .second, .val (.long (f1_0 (1 : Int64) (v3 &&& (9223372036854775807 : Int64)))), .second, .val (.long (f1_0 (1 : Int64) (v4 &&& (9223372036854775807 : Int64)))), .second, .val (.int ((v1 &&& (2147483647 : Int32)) % (3 : Int32))), .val (.int (z0_46_0 v0 v1 v2 v3 v4)), .val .null, .unset, .unset, .unset, .unset, .unset] [])) (fun t k => XS.ifYes X12.here hx rfl (pc0 := 61) (pc' := 87) rfl (hb hby at_61) rfl ((if0 _ _).trans (feq hc14).2) (by decide) (by decide) k) ?_
    refine go_new X12 hx hZ hown (hw _ (List.mem_of_getElem? (i := 7) rfl)) (hw _ (List.mem_of_getElem? (i := 8) rfl)) (hw _ (List.mem_of_getElem? (i := 9) rfl)) e13 (by decide) (by decide) (g := (mkF m 87 #[.val (.int v0), .val (.int v1), .val (.long v2), .second, .val (.long v3), .second, .val (.long v4), .second, .val (.long (f1_0 (1 : Int64) (v2 &&& (9223372036854775807 : Int64)))), .second, .val (.long (f1_0 (1 : Int64) (v3 &&& (9223372036854775807 : Int64)))), .second, .val (.long (f1_0 (1 : Int64) (v4 &&& (9223372036854775807 : Int64)))), .second, .val (.int ((v1 &&& (2147483647 : Int32)) % (3 : Int32))), .val (.int (z0_46_0 v0 v1 v2 v3 v4)), .val .null, .unset, .unset, .unset, .unset, .unset] [])) rfl (hb hby at_87) (fun T86 h87 b88 X89 e90 E91 q92 A93 D94 => ?_)
    have sz95 : h0.size ≤ b88 := Nat.le_trans K0.1 (Nat.le_of_eq q92.symm)
    have g96 : n0 ≤ b88 := Nat.le_trans Z0 sz95
    have K97 := K0.ext E91
    have F98 : Fld Z h87 b88 "com/example/thicket/thicket/graph/VertexWeights" "vertexCount" "I" (.int (0 : Int32)) := D94 (Or.inr (hw _ (List.mem_of_getElem? (i := 17) rfl))) (ty := .int) (by decide)
    have F99 : Fld Z h87 b88 "com/example/thicket/thicket/graph/VertexWeights" "millionths" "[J" .null := D94 (Or.inr (hw _ (List.mem_of_getElem? (i := 19) rfl))) (ty := (.array .long)) (by decide)
    show Go p e below s _ _ _ T86 (mkF m 90 #[.val (.int v0), .val (.int v1), .val (.long v2), .second, .val (.long v3), .second, .val (.long v4), .second, .val (.long (f1_0 (1 : Int64) (v2 &&& (9223372036854775807 : Int64)))), .second, .val (.long (f1_0 (1 : Int64) (v3 &&& (9223372036854775807 : Int64)))), .second, .val (.long (f1_0 (1 : Int64) (v4 &&& (9223372036854775807 : Int64)))), .second, .val (.int ((v1 &&& (2147483647 : Int32)) % (3 : Int32))), .val (.int (z0_46_0 v0 v1 v2 v3 v4)), .val .null, .unset, .unset, .unset, .unset, .unset] [(.ref b88)])
    refine go_step (T' := T86) (g' := (mkF m 91 #[.val (.int v0), .val (.int v1), .val (.long v2), .second, .val (.long v3), .second, .val (.long v4), .second, .val (.long (f1_0 (1 : Int64) (v2 &&& (9223372036854775807 : Int64)))), .second, .val (.long (f1_0 (1 : Int64) (v3 &&& (9223372036854775807 : Int64)))), .second, .val (.long (f1_0 (1 : Int64) (v4 &&& (9223372036854775807 : Int64)))), .second, .val (.int ((v1 &&& (2147483647 : Int32)) % (3 : Int32))), .val (.int (z0_46_0 v0 v1 v2 v3 v4)), .val .null, .unset, .unset, .unset, .unset, .unset] [(.ref b88), (.ref b88)])) (fun t k => XS.dup X89.here hx rfl (hb hby at_90) rfl rfl k) ?_
    refine go_step (T' := T86) (g' := (mkF m 92 #[.val (.int v0), .val (.int v1), .val (.long v2), .second, .val (.long v3), .second, .val (.long v4), .second, .val (.long (f1_0 (1 : Int64) (v2 &&& (9223372036854775807 : Int64)))), .second, .val (.long (f1_0 (1 : Int64) (v3 &&& (9223372036854775807 : Int64)))), .second, .val (.long (f1_0 (1 : Int64) (v4 &&& (9223372036854775807 : Int64)))), .second, .val (.int ((v1 &&& (2147483647 : Int32)) % (3 : Int32))), .val (.int (z0_46_0 v0 v1 v2 v3 v4)), .val .null, .unset, .unset, .unset, .unset, .unset] [(.int (3 : Int32)), (.ref b88), (.ref b88)])) (fun t k => XS.iconst X89.here hx rfl (hb hby at_91) k) ?_
    refine go_step (T' := T86) (g' := (mkF m 94 #[.val (.int v0), .val (.int v1), .val (.long v2), .second, .val (.long v3), .second, .val (.long v4), .second, .val (.long (f1_0 (1 : Int64) (v2 &&& (9223372036854775807 : Int64)))), .second, .val (.long (f1_0 (1 : Int64) (v3 &&& (9223372036854775807 : Int64)))), .second, .val (.long (f1_0 (1 : Int64) (v4 &&& (9223372036854775807 : Int64)))), .second, .val (.int ((v1 &&& (2147483647 : Int32)) % (3 : Int32))), .val (.int (z0_46_0 v0 v1 v2 v3 v4)), .val .null, .unset, .unset, .unset, .unset, .unset] [.null, (.int (3 : Int32)), (.ref b88), (.ref b88)])) (fun t k => XS.aload X89.here hx rfl (hb hby at_92) rfl rfl k) ?_
    refine go_callC X89 hx hZ (y := (⟨"com/example/thicket/thicket/graph/VertexWeights", "<init>", "(I[J)V"⟩ : MethodName)) rfl hown (hw _ (List.mem_of_getElem? (i := 10) rfl)) (hw _ (List.mem_of_getElem? (i := 11) rfl)) (hw _ (List.mem_of_getElem? (i := 9) rfl)) (hw _ (List.mem_of_getElem? (i := 12) rfl)) (by decide) e90 (mq2n l Z a0 hw b88 (3 : Int32)  h87 n0 (Nat.le_trans Z0 K97.1) A93 F98 F99 g96) 1 (by decide) (by decide) (g := (mkF m 94 #[.val (.int v0), .val (.int v1), .val (.long v2), .second, .val (.long v3), .second, .val (.long v4), .second, .val (.long (f1_0 (1 : Int64) (v2 &&& (9223372036854775807 : Int64)))), .second, .val (.long (f1_0 (1 : Int64) (v3 &&& (9223372036854775807 : Int64)))), .second, .val (.long (f1_0 (1 : Int64) (v4 &&& (9223372036854775807 : Int64)))), .second, .val (.int ((v1 &&& (2147483647 : Int32)) % (3 : Int32))), .val (.int (z0_46_0 v0 v1 v2 v3 v4)), .val .null, .unset, .unset, .unset, .unset, .unset] [.null, (.int (3 : Int32)), (.ref b88), (.ref b88)])) rfl (by rw [hml]; rfl) (argsL := [(.int (3 : Int32)), .null]) (rest := [(.ref b88)]) (lenOf pd_1 rfl) rfl (by show 2 * 0 + _ ≤ _; exact Nat.le_of_eq rfl) (hb hby at_94) rfl (by decide) (by decide) (fun T100 v101 L102 X103 hQ104 => ?_)
    obtain ⟨rfl, N105, K106, F107, F108⟩ := hQ104
    have N109 := Fr.app N0 N105
    have K110 := K97.trans K106 (allS (Or.inr sz95) all0)
    have F111 : Fld Z T100.heap b88 "com/example/thicket/thicket/graph/VertexWeights" "vertexCount" "I" (.int (f2n_vertexCount (3 : Int32))) := F107
    show Go p e below s _ _ _ T100 (mkF m 97 #[.val (.int v0), .val (.int v1), .val (.long v2), .second, .val (.long v3), .second, .val (.long v4), .second, .val (.long (f1_0 (1 : Int64) (v2 &&& (9223372036854775807 : Int64)))), .second, .val (.long (f1_0 (1 : Int64) (v3 &&& (9223372036854775807 : Int64)))), .second, .val (.long (f1_0 (1 : Int64) (v4 &&& (9223372036854775807 : Int64)))), .second, .val (.int ((v1 &&& (2147483647 : Int32)) % (3 : Int32))), .val (.int (z0_46_0 v0 v1 v2 v3 v4)), .val .null, .unset, .unset, .unset, .unset, .unset] [(.ref b88)])
    refine go_step (T' := T100) (g' := (mkF m 99 #[.val (.int v0), .val (.int v1), .val (.long v2), .second, .val (.long v3), .second, .val (.long v4), .second, .val (.long (f1_0 (1 : Int64) (v2 &&& (9223372036854775807 : Int64)))), .second, .val (.long (f1_0 (1 : Int64) (v3 &&& (9223372036854775807 : Int64)))), .second, .val (.long (f1_0 (1 : Int64) (v4 &&& (9223372036854775807 : Int64)))), .second, .val (.int ((v1 &&& (2147483647 : Int32)) % (3 : Int32))), .val (.int (z0_46_0 v0 v1 v2 v3 v4)), .val .null, .val (.ref b88), .unset, .unset, .unset, .unset] [])) (fun t k => XS.astore X103.here hx rfl (hb hby at_97) rfl rfl (l' := #[.val (.int v0), .val (.int v1), .val (.long v2), .second, .val (.long v3), .second, .val (.long v4), .second, .val (.long (f1_0 (1 : Int64) (v2 &&& (9223372036854775807 : Int64)))), .second, .val (.long (f1_0 (1 : Int64) (v3 &&& (9223372036854775807 : Int64)))), .second, .val (.long (f1_0 (1 : Int64) (v4 &&& (9223372036854775807 : Int64)))), .second, .val (.int ((v1 &&& (2147483647 : Int32)) % (3 : Int32))), .val (.int (z0_46_0 v0 v1 v2 v3 v4)), .val .null, .val (.ref b88), .unset, .unset, .unset, .unset]) rfl k) ?_
    refine go_step (T' := T100) (g' := (mkF m 101 #[.val (.int v0), .val (.int v1), .val (.long v2), .second, .val (.long v3), .second, .val (.long v4), .second, .val (.long (f1_0 (1 : Int64) (v2 &&& (9223372036854775807 : Int64)))), .second, .val (.long (f1_0 (1 : Int64) (v3 &&& (9223372036854775807 : Int64)))), .second, .val (.long (f1_0 (1 : Int64) (v4 &&& (9223372036854775807 : Int64)))), .second, .val (.int ((v1 &&& (2147483647 : Int32)) % (3 : Int32))), .val (.int (z0_46_0 v0 v1 v2 v3 v4)), .val .null, .val (.ref b88), .unset, .unset, .unset, .unset] [(.ref b88)])) (fun t k => XS.aload X103.here hx rfl (hb hby at_99) rfl rfl k) ?_
    refine go_step (T' := T100) (g' := (mkF m 103 #[.val (.int v0), .val (.int v1), .val (.long v2), .second, .val (.long v3), .second, .val (.long v4), .second, .val (.long (f1_0 (1 : Int64) (v2 &&& (9223372036854775807 : Int64)))), .second, .val (.long (f1_0 (1 : Int64) (v3 &&& (9223372036854775807 : Int64)))), .second, .val (.long (f1_0 (1 : Int64) (v4 &&& (9223372036854775807 : Int64)))), .second, .val (.int ((v1 &&& (2147483647 : Int32)) % (3 : Int32))), .val (.int (z0_46_0 v0 v1 v2 v3 v4)), .val .null, .val (.ref b88), .unset, .unset, .unset, .unset] [(.int ((v1 &&& (2147483647 : Int32)) % (3 : Int32))), (.ref b88)])) (fun t k => XS.iload X103.here hx rfl (hb hby at_101) rfl  k) ?_
    have G112 : Exa Z T100.heap b88 "com/example/thicket/thicket/graph/VertexWeights" := (A93.keep K106)
    refine go_callVP X103 hx hZ (y := (⟨"com/example/thicket/thicket/graph/VertexWeights", "weight", "(I)J"⟩ : MethodName)) hown (hw _ (List.mem_of_getElem? (i := 20) rfl)) (hw _ (List.mem_of_getElem? (i := 21) rfl)) (hw _ (List.mem_of_getElem? (i := 23) rfl)) (hw _ (List.mem_of_getElem? (i := 22) rfl)) (hw _ (List.mem_of_getElem? (i := 9) rfl)) (hw _ (List.mem_of_getElem? (i := 24) rfl)) (by decide) rfl G112 (mq4n l Z a0 hw b88 ((v1 &&& (2147483647 : Int32)) % (3 : Int32))  T100.heap 0 (Nat.zero_le _) F108) 0 (by decide) (by decide) (g := (mkF m 103 #[.val (.int v0), .val (.int v1), .val (.long v2), .second, .val (.long v3), .second, .val (.long v4), .second, .val (.long (f1_0 (1 : Int64) (v2 &&& (9223372036854775807 : Int64)))), .second, .val (.long (f1_0 (1 : Int64) (v3 &&& (9223372036854775807 : Int64)))), .second, .val (.long (f1_0 (1 : Int64) (v4 &&& (9223372036854775807 : Int64)))), .second, .val (.int ((v1 &&& (2147483647 : Int32)) % (3 : Int32))), .val (.int (z0_46_0 v0 v1 v2 v3 v4)), .val .null, .val (.ref b88), .unset, .unset, .unset, .unset] [(.int ((v1 &&& (2147483647 : Int32)) % (3 : Int32))), (.ref b88)])) rfl (by rw [hml]; rfl) (argsL := [(.int ((v1 &&& (2147483647 : Int32)) % (3 : Int32)))]) (rest := []) (lenOf pd_2 rfl) rfl (by show 2 * 0 + _ ≤ _; exact Nat.le_of_eq rfl) (hb hby at_103) rfl rfl rfl (by decide) (by decide) (fun T113 X114 e115 => ?_)
    show Go p e below s _ _ _ T113 (mkF m 106 #[.val (.int v0), .val (.int v1), .val (.long v2), .second, .val (.long v3), .second, .val (.long v4), .second, .val (.long (f1_0 (1 : Int64) (v2 &&& (9223372036854775807 : Int64)))), .second, .val (.long (f1_0 (1 : Int64) (v3 &&& (9223372036854775807 : Int64)))), .second, .val (.long (f1_0 (1 : Int64) (v4 &&& (9223372036854775807 : Int64)))), .second, .val (.int ((v1 &&& (2147483647 : Int32)) % (3 : Int32))), .val (.int (z0_46_0 v0 v1 v2 v3 v4)), .val .null, .val (.ref b88), .unset, .unset, .unset, .unset] [(.long (f4n_ret ((v1 &&& (2147483647 : Int32)) % (3 : Int32))))])
    refine go_step (T' := T113) (g' := (mkF m 108 #[.val (.int v0), .val (.int v1), .val (.long v2), .second, .val (.long v3), .second, .val (.long v4), .second, .val (.long (f1_0 (1 : Int64) (v2 &&& (9223372036854775807 : Int64)))), .second, .val (.long (f1_0 (1 : Int64) (v3 &&& (9223372036854775807 : Int64)))), .second, .val (.long (f1_0 (1 : Int64) (v4 &&& (9223372036854775807 : Int64)))), .second, .val (.int ((v1 &&& (2147483647 : Int32)) % (3 : Int32))), .val (.int (z0_46_0 v0 v1 v2 v3 v4)), .val .null, .val (.ref b88), .val (.long (f4n_ret ((v1 &&& (2147483647 : Int32)) % (3 : Int32)))), .second, .unset, .unset] [])) (fun t k => XS.lstore X114.here hx rfl (hb hby at_106) rfl (l' := #[.val (.int v0), .val (.int v1), .val (.long v2), .second, .val (.long v3), .second, .val (.long v4), .second, .val (.long (f1_0 (1 : Int64) (v2 &&& (9223372036854775807 : Int64)))), .second, .val (.long (f1_0 (1 : Int64) (v3 &&& (9223372036854775807 : Int64)))), .second, .val (.long (f1_0 (1 : Int64) (v4 &&& (9223372036854775807 : Int64)))), .second, .val (.int ((v1 &&& (2147483647 : Int32)) % (3 : Int32))), .val (.int (z0_46_0 v0 v1 v2 v3 v4)), .val .null, .val (.ref b88), .val (.long (f4n_ret ((v1 &&& (2147483647 : Int32)) % (3 : Int32)))), .second, .unset, .unset]) rfl k) ?_
    exact b0_108 hw hx hby hml hown hZ hret hlk X114 e115 (by decide) (by decide) v0 v1 v2 v3 v4 (f1_0 (1 : Int64) (v2 &&& (9223372036854775807 : Int64))) (f1_0 (1 : Int64) (v3 &&& (9223372036854775807 : Int64))) (f1_0 (1 : Int64) (v4 &&& (9223372036854775807 : Int64))) ((v1 &&& (2147483647 : Int32)) % (3 : Int32)) (z0_46_0 v0 v1 v2 v3 v4) (.val .null) (One.val rfl) (.val (.ref b88)) (One.val rfl) (f4n_ret ((v1 &&& (2147483647 : Int32)) % (3 : Int32))) ⟨(by unfold f0_ret; first | (rw [if_neg hc14]; done) | (rw [if_neg hc14]; rfl)), N109⟩
/-! the plain law -/
theorem own_three (i : Int32) (h0 : ¬ i < 0) (h1 : i.toNatClampNeg < 3) : i = 0 ∨ i = 1 ∨ i = 2 := by
  have k0 : (0 : Int32).toInt = 0 := by decide
  rw [Int32.lt_iff_toInt_lt] at h0
  unfold Int32.toNatClampNeg at h1
  have : i.toInt = 0 ∨ i.toInt = 1 ∨ i.toInt = 2 := by omega
  rcases this with h | h | h
  · exact Or.inl (Int32.toInt_inj.mp (h.trans (by decide)))
  · exact Or.inr (Or.inl (Int32.toInt_inj.mp (h.trans (by decide))))
  · exact Or.inr (Or.inr (Int32.toInt_inj.mp (h.trans (by decide))))
theorem plain_law (v0 v1 : Int32) (v2 v3 v4 : Int64) : f0_ret v0 v1 v2 v3 v4 = 1 := by
  unfold f0_ret
  by_cases hz : z0_46_0 v0 v1 v2 v3 v4 = (0 : Int32)
  · rw [if_pos hz]
    unfold f0_108 s0_0 f4_ret f0_150
    rw [if_pos hz]
    have hi := own_idx v1
    generalize (v1 &&& (2147483647 : Int32)) % (3 : Int32) = i at *
    rcases own_three i hi.1 hi.2 with rfl | rfl | rfl
    · rw [if_pos rfl]; exact if_pos rfl
    · rw [if_neg (by decide), if_pos rfl]; exact if_pos rfl
    · rw [if_neg (by decide), if_neg (by decide)]; exact if_pos rfl
  · rw [if_neg hz]
    unfold f0_108 f0_150 f4n_ret
    rw [if_neg hz, if_pos rfl]

set_option maxRecDepth 65536 in
set_option maxHeartbeats 40000000 in
theorem comes_1 {Post : Tables → Env → Array Value → State → Outcome → State → Prop} (hpost : ∀ tb e args s v u, (limb_1_1.after args s (.returned v) u = true ∧ limb_1_2.after args s (.returned v) u = true ∧ True) → FrameEnd s (.returned v) u (Jvm.fieldLocs frame_1_writes args s ++ Jvm.arrayLocs frame_1_arrays args s ++ Jvm.staticLocs frame_1_statics s) 16 128 → Post tb e args s (.returned v) u) :
    ArmFor flags0 classFile x code maxLocals ret World_1 tables_1 room_1 Calls_1 rest_1 Pre_1 Post := by
  intro l hfl _ _ p e ha hc hk s m args below hf hA hF happ hP
  obtain ⟨hcalls, hrest, hpre⟩ := hP
  obtain ⟨-, -, -, hnamed, -, -, -, hat⟩ := (Spec.applies_iff hf).mp happ
  obtain ⟨hg, hn⟩ := and_e (Cond.before_iff.mp (show (Jvm.Cond.and given_1 narrow_1).before args s = true from hpre))
  obtain ⟨hcount, hg0⟩ := and_e hg
  obtain ⟨ga0, hg1⟩ := and_e hg0
  obtain ⟨ga1, hg2⟩ := and_e hg1
  obtain ⟨ga2, hg3⟩ := and_e hg2
  obtain ⟨ga3, hg4⟩ := and_e hg3
  have ga4 := hg4
  obtain ⟨w0, w1, w2, w3, w4, rfl⟩ : ∃ w0 w1 w2 w3 w4 : Value, args = #[w0, w1, w2, w3, w4] := by
    have hs : args.size = 5 := by simpa [Cond.value, given_1] using hcount
    obtain ⟨L⟩ := args
    match L, hs with
    | [w0, w1, w2, w3, w4], _ => exact ⟨w0, w1, w2, w3, w4, rfl⟩
  have hw := fun d (hd : d ∈ tables_1) => atoms_spec (ws := Jvm.Cond.code x code maxLocals ret :: tables_1) hat d (List.mem_cons_of_mem _ hd)
  obtain ⟨i0, ei0⟩ := is_v ga0
  obtain rfl : w0 = (.int i0) := Option.some.inj ei0
  obtain ⟨i1, ei1⟩ := is_v ga1
  obtain rfl : w1 = (.int i1) := Option.some.inj ei1
  obtain ⟨i2, ei2⟩ := isL_v ga2
  obtain rfl : w2 = (.long i2) := Option.some.inj ei2
  obtain ⟨i3, ei3⟩ := isL_v ga3
  obtain rfl : w3 = (.long i3) := Option.some.inj ei3
  obtain ⟨i4, ei4⟩ := isL_v ga4
  obtain rfl : w4 = (.long i4) := Option.some.inj ei4
  obtain ⟨n, o, h1, h2, h3, _, L, rfl, ⟨rfl, N⟩, hq⟩ := mq0 l s _ hw tables_1 i0 i1 i2 i3 i4 s.heap s.heap.size (Nat.le_refl _) p e ha hc hk s m _ below hf ((Spec.applies_iff_loose hf).mp happ).1 ⟨rfl, State.Warmed39.refl s, rfl⟩ trivial
  rw [plain_law] at h3 hq
  refine ⟨n, _, h1, h2, h3, hpost _ _ _ _ _ _ ⟨Cond.after_iff.mpr rfl, Cond.after_iff.mpr (eq_i res_at (Term.int_eval (1)) rfl), trivial⟩ ⟨hq.1, hq.2.1, (hq.2.2.sift fun y hy => Or.inr (N y hy)).mono (by decide) (by decide)⟩⟩
theorem main_1_1 : Claimed_1_1 := comes_1 fun _ _ _ _ _ _ h hF => ⟨h.1, hF⟩
theorem main_1_2 : Claimed_1_2 := comes_1 fun _ _ _ _ _ _ h hF => ⟨h.2.1, hF⟩
end Jvm.Pilot.@@N@@
namespace Jvm.Pilot.@@N@@
open Jvm Jvm.ClassFile Sem Op Lib Jvm.Free Jvm.Stand Jvm.Pilot.@@N@@.Jvm.D
/-! MADE BY PROGRAM (witnessworld.py) out of the Statement's table words and the real class files: 12 classes; the members and pool entries that the words name. The judged class is class 1, her method 1. -/
namespace start1
open Jvm.ClassFile
def u (s : String) : CpInfo := .utf8 (stringToUtf16 s)
/-- a pool by its gaps: so many unusable entries, then the entry; so many at the end -/
def gap : Nat → List CpInfo → List CpInfo
  | 0, r => r
  | n + 1, r => .unusable :: gap n r
def poolList (es : List (Nat × CpInfo)) (last : Nat) : List CpInfo := es.foldr (fun e r => gap e.1 (e.2 :: r)) (gap last [])
def pool (es : List (Nat × CpInfo)) (last : Nat) : Array CpInfo := ⟨poolList es last⟩
def fileOf (pool : Array CpInfo) (this : Nat) (attrs : Array Attribute := #[]) (ms : Array MethodInfo := #[]) (fl : Nat := 33) (sup : Nat := 0) (ifs : Array Nat := #[]) (fds : Array FieldInfo := #[]) : ClassFile where
  minorVersion := 0
  majorVersion := 65
  constantPool := pool
  accessFlags := fl
  thisClass := this
  superClass := sup
  interfaces := ifs
  fields := fds
  methods := ms
  attributes := attrs
def plain (name : String) (sup : Option ClassId) : Class where
  name := name
  kind := .ordinary
  loader := none
  accessFlags := 33
  super := sup
  interfaces := #[]
  cf := none
  fields := #[]
  methods := #[]
  instanceTypes := #[]
  staticTypes := #[]
  resolved := #[]
  callSites := []
  init := .initialized
  statics := none
  mirror := none

def pool0 : Array CpInfo := pool [(5, u "<init>"), (0, u "()V"), (1, .class_ 10), (1, u "java/lang/Object")] 113

def k0c0 : Code := { maxStack := 0, maxLocals := 1, code := object_method_1_code, exceptionTable := #[], attributes := #[] }
def k0m0 : Method := { name := "<init>", desc := "()V", sig := { parameters := [], returnType := none }, accessFlags := 1, code := some k0c0 }
/-- java/lang/Object -/
def k0 : Class := { plain "java/lang/Object" none with
  accessFlags := 33
  interfaces := #[]
  cf := some (fileOf pool0 8 #[] #[{ accessFlags := 1, nameIndex := 5, descriptorIndex := 6, attributes := #[] }] 33 0 #[] #[])
  fields := #[]
  methods := #[k0m0]
  instanceTypes := #[]
  staticTypes := #[]
  resolved := Array.replicate 124 none
  statics := none }

def pool1 : Array CpInfo := pool [(2, .class_ 4), (1, u "java/lang/Object"), (0, u "<init>"), (0, u "()V"), (2, .long 9223372036854775807), (1, .methodref 12 13), (0, .class_ 14), (0, .nameAndType 15 16), (0, u "java/lang/Math"), (0, u "max"), (0, u "(JJ)J"), (0, .integer 2147483647), (0, .class_ 19), (0, u "com/example/thicket/thicket/graph/VertexWeights"), (0, .methodref 18 21), (0, .nameAndType 5 22), (0, u "(I[J)V"), (0, .methodref 18 24), (0, .nameAndType 25 26), (0, u "weight"), (0, u "(I)J"), (0, .long 1000000), (1, .class_ 30), (0, u "com/example/thicket/thicket/graph/VertexWeightsWeightPinLaw"), (2, u "law"), (0, u "(IIJJJ)Z")] 5

def k1m0 : Method := { name := "<init>", desc := "()V", sig := { parameters := [], returnType := none }, accessFlags := 1, code := none }
def k1c1 : Code := { maxStack := 6, maxLocals := 22, code := code, exceptionTable := #[], attributes := #[] }
def k1m1 : Method := { name := "law", desc := "(IIJJJ)Z", sig := { parameters := [.int, .int, .long, .long, .long], returnType := some .boolean }, accessFlags := 9, code := some k1c1 }
/-- com/example/thicket/thicket/graph/VertexWeightsWeightPinLaw -/
def k1 : Class := { plain "com/example/thicket/thicket/graph/VertexWeightsWeightPinLaw" (some 0) with
  accessFlags := 49
  interfaces := #[]
  cf := some (fileOf pool1 29 #[] #[{ accessFlags := 1, nameIndex := 5, descriptorIndex := 6, attributes := #[] }, { accessFlags := 9, nameIndex := 33, descriptorIndex := 34, attributes := #[] }] 49 2 #[] #[])
  fields := #[]
  methods := #[k1m0, k1m1]
  instanceTypes := #[]
  staticTypes := #[]
  resolved := Array.replicate 40 none
  statics := none }

def pool2 : Array CpInfo := pool [(1, .class_ 2), (0, u "java/lang/Math"), (1, .class_ 6), (1, u "java/lang/Object"), (0, u "<init>"), (0, u "()V"), (89, .class_ 100), (1, u "java/lang/Math$RandomNumberGeneratorHolder"), (20, u "(JJ)J"), (50, u "negativeZeroFloatBits"), (0, u "J"), (2, u "negativeZeroDoubleBits"), (21, u "max"), (46, u "$assertionsDisabled"), (0, u "Z"), (91, u "twoToTheDoubleScaleDown"), (0, u "D"), (4, u "twoToTheDoubleScaleUp"), (9, u "E"), (3, u "PI"), (2, u "TAU"), (2, u "DEGREES_TO_RADIANS"), (0, u "RADIANS_TO_DEGREES")] 94

def k2m0 : Method := { name := "<init>", desc := "()V", sig := { parameters := [], returnType := none }, accessFlags := 2, code := none }
def k2c1 : Code := { maxStack := 4, maxLocals := 4, code := jdk_29_method_66_code, exceptionTable := #[], attributes := #[] }
def k2m1 : Method := { name := "max", desc := "(JJ)J", sig := { parameters := [.long, .long], returnType := some .long }, accessFlags := 9, code := some k2c1 }
/-- java/lang/Math -/
def k2 : Class := { plain "java/lang/Math" (some 0) with
  accessFlags := 49
  interfaces := #[]
  cf := some (fileOf pool2 1 #[.nestMembers #[98]] #[{ accessFlags := 2, nameIndex := 7, descriptorIndex := 8, attributes := #[] }, { accessFlags := 9, nameIndex := 198, descriptorIndex := 121, attributes := #[] }] 49 4 #[] #[{ accessFlags := 25, nameIndex := 354, descriptorIndex := 339, attributes := #[] }, { accessFlags := 25, nameIndex := 358, descriptorIndex := 339, attributes := #[] }, { accessFlags := 25, nameIndex := 361, descriptorIndex := 339, attributes := #[] }, { accessFlags := 26, nameIndex := 364, descriptorIndex := 339, attributes := #[] }, { accessFlags := 26, nameIndex := 365, descriptorIndex := 339, attributes := #[] }, { accessFlags := 26, nameIndex := 172, descriptorIndex := 173, attributes := #[] }, { accessFlags := 26, nameIndex := 176, descriptorIndex := 173, attributes := #[] }, { accessFlags := 8, nameIndex := 344, descriptorIndex := 339, attributes := #[] }, { accessFlags := 8, nameIndex := 338, descriptorIndex := 339, attributes := #[] }, { accessFlags := 4120, nameIndex := 245, descriptorIndex := 246, attributes := #[] }])
  fields := #[{ name := "E", type := .double, accessFlags := 25, slot := 0, constantValue := 0 }, { name := "PI", type := .double, accessFlags := 25, slot := 1, constantValue := 0 }, { name := "TAU", type := .double, accessFlags := 25, slot := 2, constantValue := 0 }, { name := "DEGREES_TO_RADIANS", type := .double, accessFlags := 26, slot := 3, constantValue := 0 }, { name := "RADIANS_TO_DEGREES", type := .double, accessFlags := 26, slot := 4, constantValue := 0 }, { name := "negativeZeroFloatBits", type := .long, accessFlags := 26, slot := 5, constantValue := 0 }, { name := "negativeZeroDoubleBits", type := .long, accessFlags := 26, slot := 6, constantValue := 0 }, { name := "twoToTheDoubleScaleUp", type := .double, accessFlags := 8, slot := 7, constantValue := 0 }, { name := "twoToTheDoubleScaleDown", type := .double, accessFlags := 8, slot := 8, constantValue := 0 }, { name := "$assertionsDisabled", type := .boolean, accessFlags := 4120, slot := 9, constantValue := 0 }]
  methods := #[k2m0, k2m1]
  instanceTypes := #[]
  staticTypes := #[.double, .double, .double, .double, .double, .long, .long, .double, .double, .boolean]
  resolved := Array.replicate 460 none
  statics := none }

def pool3 : Array CpInfo := pool [(1, .methodref 2 3), (0, .class_ 4), (0, .nameAndType 5 6), (0, u "java/lang/Object"), (0, u "<init>"), (0, u "()V"), (0, .fieldref 8 9), (0, .class_ 10), (0, .nameAndType 11 12), (0, u "com/example/thicket/thicket/graph/VertexWeights"), (0, u "vertexCount"), (0, u "I"), (0, .fieldref 8 14), (0, .nameAndType 15 16), (0, u "millionths"), (0, u "[J"), (7, u "(I[J)V"), (2, .long 1000000), (79, u "weight"), (0, u "(I)J")] 18

def k3c0 : Code := { maxStack := 2, maxLocals := 3, code := prog_34_method_1_code, exceptionTable := #[], attributes := #[] }
def k3m0 : Method := { name := "<init>", desc := "(I[J)V", sig := { parameters := [.int, (.array .long)], returnType := none }, accessFlags := 0, code := some k3c0 }
def k3c1 : Code := { maxStack := 2, maxLocals := 2, code := prog_34_method_6_code, exceptionTable := #[], attributes := #[] }
def k3m1 : Method := { name := "weight", desc := "(I)J", sig := { parameters := [.int], returnType := some .long }, accessFlags := 1, code := some k3c1 }
/-- com/example/thicket/thicket/graph/VertexWeights -/
def k3 : Class := { plain "com/example/thicket/thicket/graph/VertexWeights" (some 0) with
  accessFlags := 49
  interfaces := #[]
  cf := some (fileOf pool3 8 #[] #[{ accessFlags := 0, nameIndex := 5, descriptorIndex := 24, attributes := #[] }, { accessFlags := 1, nameIndex := 107, descriptorIndex := 108, attributes := #[] }] 49 2 #[] #[{ accessFlags := 18, nameIndex := 11, descriptorIndex := 12, attributes := #[] }, { accessFlags := 18, nameIndex := 15, descriptorIndex := 16, attributes := #[] }])
  fields := #[{ name := "vertexCount", type := .int, accessFlags := 18, slot := 0, constantValue := 0 }, { name := "millionths", type := (.array .long), accessFlags := 18, slot := 1, constantValue := 0 }]
  methods := #[k3m0, k3m1]
  instanceTypes := #[.int, (.array .long)]
  staticTypes := #[]
  resolved := Array.replicate 127 none
  statics := none }

def pool4 : Array CpInfo := pool [(1, u "java/lang/Cloneable"), (0, .class_ 1), (0, u "java/lang/Object"), (0, .class_ 3)] 3

/-- java/lang/Cloneable -/
def k4 : Class := { plain "java/lang/Cloneable" (some 0) with
  accessFlags := 1537
  interfaces := #[]
  cf := some (fileOf pool4 2 #[] #[] 1537 4 #[] #[])
  fields := #[]
  methods := #[]
  instanceTypes := #[]
  staticTypes := #[]
  resolved := Array.replicate 8 none
  statics := none }

def pool5 : Array CpInfo := pool [(1, u "java/io/Serializable"), (0, .class_ 1), (0, u "java/lang/Object"), (0, .class_ 3)] 3

/-- java/io/Serializable -/
def k5 : Class := { plain "java/io/Serializable" (some 0) with
  accessFlags := 1537
  interfaces := #[]
  cf := some (fileOf pool5 2 #[] #[] 1537 4 #[] #[])
  fields := #[]
  methods := #[]
  instanceTypes := #[]
  staticTypes := #[]
  resolved := Array.replicate 8 none
  statics := none }

/-- the primitive byte -/
def k6 : Class := { plain "byte" none with kind := .primitive 'B', accessFlags := 0x411 }
/-- [B -/
def k7 : Class := { plain "[B" (some 0) with kind := .array 6 .byte, interfaces := #[4, 5], accessFlags := 1041 }

/-- the primitive int -/
def k8 : Class := { plain "int" none with kind := .primitive 'I', accessFlags := 0x411 }
/-- [I -/
def k9 : Class := { plain "[I" (some 0) with kind := .array 8 .int, interfaces := #[4, 5], accessFlags := 1041 }

/-- the primitive long -/
def k10 : Class := { plain "long" none with kind := .primitive 'J', accessFlags := 0x411 }
/-- [J -/
def k11 : Class := { plain "[J" (some 0) with kind := .array 10 .long, interfaces := #[4, 5], accessFlags := 1041 }

def heap : Heap := #[]
def classes : Array Class := #[k0, k1, k2, k3, k4, k5, k6, k7, k8, k9, k10, k11]
def interned : List (Array UInt16 × Addr) := []
def slotsUsed : Nat := 0
def theMethod : MethodId := ⟨1, 1⟩
def args0 : Array Value := #[.int 5, .int 5, .long 5, .long 5, .long 5]
def aboutOver (below : List Frame) : State where
  vm := { classes := classes, interned := interned.toArray }
  heap := heap
  slotsUsed := slotsUsed
  threads := #[{ frames := .invoking theMethod args0 :: below }]
def below0 : List Frame := [.native { method := ⟨0, 0⟩, args := #[] }]
def about1 : State := aboutOver below0
def p0 : Program := .bare "" "" ""
def e0 : Env := launch0.env 0 0 0
theorem w_frames : about1.frames = Frame.invoking theMethod args0 :: below0 := rfl
set_option maxRecDepth 65536 in
theorem w_args : argsFit about1.vm theMethod args0 = true := by decide +kernel
set_option maxRecDepth 65536 in
theorem w_heap : heapFits about1 = true := by decide +kernel
set_option maxRecDepth 65536 in
theorem w_runnable : about1.curStatus? = some .runnable := by decide +kernel
set_option maxRecDepth 65536 in
theorem w_alone : about1.alone = true := by decide +kernel
set_option maxRecDepth 65536 in
theorem w_named : about1.methodNamed? x = some theMethod := by decide +kernel
set_option maxRecDepth 65536 in
theorem w_hears : about1.hears theMethod below0 = true := by decide +kernel
set_option maxRecDepth 65536 in
theorem w_ripe : about1.ripe theMethod args0 below0 = true := by decide +kernel
theorem w_running : about1.status = .running := rfl
set_option maxRecDepth 65536 in
theorem w_room : about1.hasRoom e0.platform room_1 = true :=
  launch0.hasRoom_least _ room_1 (by decide +kernel) (by decide +kernel) (by decide +kernel) (by decide +kernel) (by decide +kernel) (by decide +kernel)
theorem allAtoms_all (ts : List Jvm.Cond) (a : Array Jvm.Value) (st : Jvm.State) : (allAtoms ts).before a st = ts.all (fun c => c.before a st) := by
  induction ts with
  | nil => rfl
  | cons c t ih =>
    show (Jvm.Cond.and c (allAtoms t)).before a st = _
    rw [Jvm.Cond.before_and, ih, List.all_cons]
def words1 : List Jvm.Cond := Jvm.Cond.code x code maxLocals ret :: tables_1
/-- a 'code' word, met by the world's own term for the bytes: nothing is compared byte by byte -/
theorem code_word {y : MethodName} {bytes : ByteArray} {mx : Nat} {rt : Option FieldType} {a : Array Value} {s : State} {m : MethodId} {meth : Method} {c : Code} (h1 : s.methodNamed? y = some m) (h2 : s.vm.method? m = some meth) (h3 : meth.code = some c) (h4 : c.code = bytes)
    (h5 : (c.maxLocals == mx && c.exceptionTable.isEmpty && decide (c.maxStack ≤ mostOperands) && decide (meth.sig.returnType = rt) && !meth.locks && decide (parseMethodDescriptor y.desc = some meth.sig)) = true) : (Jvm.Cond.code y bytes mx rt).before a s = true := by
  simp only [Bool.and_eq_true, beq_iff_eq, Bool.not_eq_true', decide_eq_true_eq] at h5
  obtain ⟨⟨⟨⟨⟨g1, g2⟩, g3⟩, g4⟩, g5⟩, g6⟩ := h5
  simp [Cond.before, Cond.holds, Cond.value, h1, h2, h3, h4, g1, g2, g3, g4, g5, g6]
def isCode : Jvm.Cond → Bool
  | .code _ _ _ _ => true
  | _ => false
theorem all_split {L : List Jvm.Cond} {P : Jvm.Cond → Bool} (h1 : L.all (fun c => isCode c || P c) = true) (h2 : ∀ c ∈ L.filter isCode, P c = true) : L.all P = true := by
  refine List.all_eq_true.mpr fun c hc => ?_
  have h := List.all_eq_true.mp h1 c hc
  rcases Bool.eq_false_or_eq_true (isCode c) with hi | hi
  · exact h2 c (List.mem_filter.mpr ⟨hc, hi⟩)
  · simpa [hi] using h
set_option maxRecDepth 65536 in
theorem w_c0 : (Jvm.Cond.code x code maxLocals ret).before args0 about1 = true := code_word (m := ⟨1, 1⟩) (meth := k1m1) (c := k1c1) (by decide +kernel) rfl rfl rfl (by decide +kernel)
set_option maxRecDepth 65536 in
theorem w_c1 : (Jvm.Cond.code ({ cls := "java/lang/Math", name := "max", desc := "(JJ)J" } : Jvm.MethodName) jdk_29_method_66_code (4 : Nat) (Option.some Jvm.ClassFile.FieldType.long)).before args0 about1 = true := code_word (m := ⟨2, 1⟩) (meth := k2m1) (c := k2c1) (by decide +kernel) rfl rfl rfl (by decide +kernel)
set_option maxRecDepth 65536 in
theorem w_c2 : (Jvm.Cond.code ({ cls := "com/example/thicket/thicket/graph/VertexWeights", name := "<init>", desc := "(I[J)V" } : Jvm.MethodName) prog_34_method_1_code (3 : Nat) (Option.none : Option Jvm.ClassFile.FieldType)).before args0 about1 = true := code_word (m := ⟨3, 0⟩) (meth := k3m0) (c := k3c0) (by decide +kernel) rfl rfl rfl (by decide +kernel)
set_option maxRecDepth 65536 in
theorem w_c3 : (Jvm.Cond.code ({ cls := "java/lang/Object", name := "<init>", desc := "()V" } : Jvm.MethodName) object_method_1_code (1 : Nat) (Option.none : Option Jvm.ClassFile.FieldType)).before args0 about1 = true := code_word (m := ⟨0, 0⟩) (meth := k0m0) (c := k0c0) (by decide +kernel) rfl rfl rfl (by decide +kernel)
set_option maxRecDepth 65536 in
theorem w_c4 : (Jvm.Cond.code ({ cls := "com/example/thicket/thicket/graph/VertexWeights", name := "weight", desc := "(I)J" } : Jvm.MethodName) prog_34_method_6_code (2 : Nat) (Option.some Jvm.ClassFile.FieldType.long)).before args0 about1 = true := code_word (m := ⟨3, 1⟩) (meth := k3m1) (c := k3c1) (by decide +kernel) rfl rfl rfl (by decide +kernel)
def codes1 : List Jvm.Cond := [Jvm.Cond.code x code maxLocals ret, Jvm.Cond.code ({ cls := "java/lang/Math", name := "max", desc := "(JJ)J" } : Jvm.MethodName) jdk_29_method_66_code (4 : Nat) (Option.some Jvm.ClassFile.FieldType.long), Jvm.Cond.code ({ cls := "com/example/thicket/thicket/graph/VertexWeights", name := "<init>", desc := "(I[J)V" } : Jvm.MethodName) prog_34_method_1_code (3 : Nat) (Option.none : Option Jvm.ClassFile.FieldType), Jvm.Cond.code ({ cls := "java/lang/Object", name := "<init>", desc := "()V" } : Jvm.MethodName) object_method_1_code (1 : Nat) (Option.none : Option Jvm.ClassFile.FieldType), Jvm.Cond.code ({ cls := "com/example/thicket/thicket/graph/VertexWeights", name := "weight", desc := "(I)J" } : Jvm.MethodName) prog_34_method_6_code (2 : Nat) (Option.some Jvm.ClassFile.FieldType.long)]
set_option maxRecDepth 65536 in
theorem codes_eq : words1.filter isCode = codes1 := rfl
theorem w_codes : ∀ c ∈ words1.filter isCode, c.before args0 about1 = true := by
  rw [codes_eq]
  intro c hc
  simp only [codes1, List.mem_cons, List.not_mem_nil, or_false] at hc
  rcases hc with rfl | rfl | rfl | rfl | rfl
  · exact w_c0
  · exact w_c1
  · exact w_c2
  · exact w_c3
  · exact w_c4
set_option maxRecDepth 65536 in
theorem w_t1 : (words1.take 24).all (fun c => isCode c || c.before args0 about1) = true := by decide +kernel
set_option maxRecDepth 65536 in
theorem w_t2 : (words1.drop 24).all (fun c => isCode c || c.before args0 about1) = true := by decide +kernel
theorem w_tables : (allAtoms (Jvm.Cond.code x code maxLocals ret :: tables_1)).before args0 about1 = true := by
  rw [allAtoms_all]
  show words1.all (fun c => c.before args0 about1) = true
  refine all_split ?_ w_codes
  rw [← List.take_append_drop 24 words1, List.all_append, w_t1, w_t2]
  rfl
set_option maxRecDepth 65536 in
theorem w_case : (Jvm.Cond.and given_1 narrow_1).before args0 about1 = true := by decide +kernel
theorem w_applies : (headSpec (Jvm.Cond.code x code maxLocals ret :: tables_1) room_1).applies x e0.platform about1 = true :=
  (Spec.applies_iff w_frames).mpr ⟨w_running, w_runnable, w_alone, w_named, w_hears, w_ripe, w_room, w_tables⟩
theorem atStart : AtStart classFile x code maxLocals ret World_1 tables_1 room_1 Calls_1 rest_1 Pre_1 launch0 p0 e0 about1 theMethod args0 below0 :=
  ⟨lists_1, trivial, launch0.admits_env _ _ _, launch0.least_env, fairChoices_fair.cas, fairChoices_fair.clock, w_frames, w_args, w_heap, w_applies, trivial, trivial, w_case⟩
end start1
theorem witness_1 : WitnessClaimed_1 := ⟨start1.p0, start1.e0, start1.about1, start1.theMethod, start1.args0, start1.below0, start1.atStart⟩
end Jvm.Pilot.@@N@@
