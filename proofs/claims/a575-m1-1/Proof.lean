import JvmDerived
import JvmDerived.Pilot.@@N@@Statement
import JvmDerived.Pilot.@@N@@Code
set_option linter.unusedVariables false
set_option linter.unusedSimpArgs false
namespace Jvm.Pilot.@@N@@
open Jvm Jvm.ClassFile Sem Op Lib Jvm.Free Jvm.Stand Jvm.LawKit Jvm.RoadKit Bundle Jvm.Pilot.@@N@@.Jvm.D
/-! the walk's own small layer: 'Go' (from this frame the run comes to an end that Q tells of), one law a return, one law a call -/
def Go (p : Program) (e : Env) (below : List Frame) (s : State) (C S : Nat) (Q : Option Value → Heap → List Loc → Prop) (T : State) (g : JFrame) : Prop :=
  ∃ s₂ o, Steps p.tables e below (T.setTop g) s₂ ∧ s₂.status = .running ∧ Ended s₂ below o ∧ ∃ v L, o = .returned v ∧ Q v s₂.heap L ∧ FrameEnd s o s₂ L C S
/-- a contract: called with these arguments over this heap, the method ends as Q says -/
def MQ (l : Launch) (Z : State) (y : MethodName) (bytes : ByteArray) (maxL : Nat) (rt : Option FieldType) (ws : List Jvm.Cond) (rm : Room) (as : Array Value) (h0 : Heap) (Q : Option Value → Heap → List Loc → Prop) : Prop :=
  MetFree l y (head1 (Jvm.Cond.code y bytes maxL rt :: ws) rm) (fun a U => a = as ∧ Z.Warmed39 U.vm ∧ U.heap = h0) (fun _ _ _ _ _ => True) (fun _ U o U' => ∃ v L, o = .returned v ∧ Q v U'.heap L ∧ FrameEnd U o U' L rm.cells rm.slots)
/-- what a method that writes nothing leaves -/
def QP (r : Option Value) (h0 : Heap) (v : Option Value) (h : Heap) (L : List Loc) : Prop := v = r ∧ h = h0 ∧ L = []
/-- Java's x >>> y, on ints and on longs -/
def ush (x y : Int32) : Int32 := (x.toUInt32 >>> (y &&& 31).toUInt32).toInt32
def ushL (x : Int64) (y : Int32) : Int64 := (x.toUInt64 >>> (y &&& 0x3f).toInt64.toUInt64).toInt64
section Layer
variable {p : Program} {l : Launch} {e : Env} {R : Room} {s : State} {m : MethodId} {args : Array Value} {below : List Frame} {meth : Method} {c : Code} {T T' : State} {locs : List Loc} {cells slots C S : Nat} {Q : Option Value → Heap → List Loc → Prop} {g g' : JFrame} {h : Heap} {Z : State} {a0 : Array Value}
theorem go_step (st : ∀ t, Steps p.tables e below (T'.setTop g') t → Steps p.tables e below (T.setTop g) t) (k : Go p e below s C S Q T' g') : Go p e below s C S Q T g := by
  obtain ⟨s₂, o, h1, r⟩ := k
  exact ⟨s₂, o, st _ h1, r⟩
theorem go_mono {C' S' : Nat} (hc : C ≤ C') (hs : S ≤ S') (k : Go p e below s C S Q T g) : Go p e below s C' S' Q T g := by
  obtain ⟨s₂, o, h1, h2, h3, v, L, h4, h5, h6, h7, h8⟩ := k
  exact ⟨s₂, o, h1, h2, h3, v, L, h4, h5, h6, h7, h8.mono hc hs⟩
theorem lremM {target : State} (X : Stand p l e R s m args below meth c T locs cells slots) (hx : p.tables.exec = Jvm.exec) (hg : g.method = m) {x y : Int64} {rest : List Value} (hd : decode c.code g.pc = .ok (.lrem, 1)) (hs : g.stack = .long y :: .long x :: rest) (hy : y ≠ 0)
    (hr : Steps p.tables e below (T.setTop { g with pc := g.pc + 1, stack := .long (x % y) :: rest }) target) : Steps p.tables e below (T.setTop g) target :=
  XS.lrem X.here hx hg hd hs hy (by rw [lrem_mod]; exact hr)
theorem lookYes {target : State} (X : Stand p l e R s m args below meth c T locs cells slots) (hx : p.tables.exec = Jvm.exec) (hg : g.method = m) {key : Int32} {rest : List Value} {d o kv : Int} {prs : Array (Int × Int)} {len pc0 pc' : Nat} (hpc : g.pc = pc0) (hd : decode c.code g.pc = .ok (.lookupswitch d prs, len)) (hs : g.stack = .int key :: rest) (hso : (prs.toList.zip (prs.toList.drop 1)).all (fun (a, next) => a.1 < next.1) = true) (hf : prs.find? (·.1 == key.toInt) = some (kv, o)) (ho : 0 ≤ (pc0 : Int) + o) (hp : ((pc0 : Int) + o).toNat = pc')
    (hr : Steps p.tables e below (T.setTop { g with pc := pc', stack := rest }) target) : Steps p.tables e below (T.setTop g) target := by
  subst hg hpc hp
  jvm_step X.here [X.here.top, hx, hd, hs, lookupswitch.wp_whole, hso, hf, ho]
  exact ⟨by simpa using hso, hr⟩
theorem lookNo {target : State} (X : Stand p l e R s m args below meth c T locs cells slots) (hx : p.tables.exec = Jvm.exec) (hg : g.method = m) {key : Int32} {rest : List Value} {d : Int} {prs : Array (Int × Int)} {len pc0 pc' : Nat} (hpc : g.pc = pc0) (hd : decode c.code g.pc = .ok (.lookupswitch d prs, len)) (hs : g.stack = .int key :: rest) (hso : (prs.toList.zip (prs.toList.drop 1)).all (fun (a, next) => a.1 < next.1) = true) (hf : prs.find? (·.1 == key.toInt) = none) (ho : 0 ≤ (pc0 : Int) + d) (hp : ((pc0 : Int) + d).toNat = pc')
    (hr : Steps p.tables e below (T.setTop { g with pc := pc', stack := rest }) target) : Steps p.tables e below (T.setTop g) target := by
  subst hg hpc hp
  jvm_step X.here [X.here.top, hx, hd, hs, lookupswitch.wp_whole, hso, hf, ho]
  exact ⟨by simpa using hso, hr⟩
theorem go_cast {r r' : Option Value} {h0 : Heap} (q : r = r') (k : Go p e below s C S (QP r' h0) T g) : Go p e below s C S (QP r h0) T g := q ▸ k
theorem mq_of {y : MethodName} {bytes : ByteArray} {maxL : Nat} {rt : Option FieldType} {ws : List Jvm.Cond} {rm : Room} {as : Array Value} {h0 : Heap} {Q : Option Value → Heap → List Loc → Prop} (hp : plainFor y = true)
    (body : ∀ (p : Program) (e : Env) (s : State) (m : MethodId) (below : List Frame) (meth : Method) (c : Code) (T : State), Stand p l e rm s m as below meth c T [] 0 0 → p.tables.exec = Jvm.exec → c.code = bytes → c.maxLocals = maxL → s.vm.findClass y.cls = some m.cls → meth.name = y.name → Z.Warmed39 s.vm → T.heap = h0 → meth.sig.returnType = rt → meth.locks = false → Go p e below s rm.cells rm.slots Q T (entryFrame m as maxL)) :
    MQ l Z y bytes maxL rt ws rm as h0 Q := by
  refine MetFree.of_bodySF hp hisR ?_
  intro p e s m args below meth c s₁ Bd hml0 hP hK
  obtain ⟨rfl, hZ, hh⟩ := hP
  exact body p e s m below meth c s₁ (Stand.of_body Bd) Bd.exec Bd.bytes hml0 (findClass_of_methodNamed Bd.named) (name_of_methodNamed Bd.named Bd.method).1 hZ (by rw [← hh, Bd.state]; rfl) Bd.returns Bd.notSynchronized
theorem go_retI (X : Stand p l e R s m args below meth c T locs cells slots) (hx : p.tables.exec = Jvm.exec) (hlk : meth.locks = false) (hret : meth.sig.returnType = some .int) {pc : Nat} {Ls : Array Slot} {z : Int32} {rest : List Value} (hd : decode c.code pc = .ok (.ireturn, 1)) (eT : T.heap = h) (hq : Q (some (.int z)) h locs) (hc : cells ≤ C) (hs : slots ≤ S) :
    Go p e below s C S Q T (mkF m pc Ls (.int z :: rest)) := by
  obtain ⟨fs, hr, hrun, hended, hW, hsame⟩ := X.leave (v := some (.int z)) (fun h => by rw [hret] at h; cases h) hlk
  exact ⟨_, _, retOut X hx hret rfl (Or.inl ⟨rfl, Or.inl rfl, z, rfl⟩) hd hr, hrun, hended, _, _, rfl, by (show Q _ T.heap _); rw [eT]; exact hq, ⟨_, rfl⟩, hW, hsame.mono hc hs⟩
theorem go_retZ (X : Stand p l e R s m args below meth c T locs cells slots) (hx : p.tables.exec = Jvm.exec) (hlk : meth.locks = false) (hret : meth.sig.returnType = some .boolean) {pc : Nat} {Ls : Array Slot} {z : Int32} {rest : List Value} (hd : decode c.code pc = .ok (.ireturn, 1)) (eT : T.heap = h) (hq : Q (some (.int (z &&& 1))) h locs) (hc : cells ≤ C) (hs : slots ≤ S) :
    Go p e below s C S Q T (mkF m pc Ls (.int z :: rest)) := by
  obtain ⟨fs, hr, hrun, hended, hW, hsame⟩ := X.leave (v := some (.int (z &&& 1))) (fun h => by rw [hret] at h; cases h) hlk
  exact ⟨_, _, retN X hx (t := .boolean) hret (by simp) hd hr, hrun, hended, _, _, rfl, by (show Q _ T.heap _); rw [eT]; exact hq, ⟨_, rfl⟩, hW, hsame.mono hc hs⟩
theorem go_retJ (X : Stand p l e R s m args below meth c T locs cells slots) (hx : p.tables.exec = Jvm.exec) (hlk : meth.locks = false) (hret : meth.sig.returnType = some .long) {pc : Nat} {Ls : Array Slot} {z : Int64} {rest : List Value} (hd : decode c.code pc = .ok (.lreturn, 1)) (eT : T.heap = h) (hq : Q (some (.long z)) h locs) (hc : cells ≤ C) (hs : slots ≤ S) :
    Go p e below s C S Q T (mkF m pc Ls (.long z :: rest)) := by
  obtain ⟨fs, hr, hrun, hended, hW, hsame⟩ := X.leave (v := some (.long z)) (fun h => by rw [hret] at h; cases h) hlk
  exact ⟨_, _, retOut X hx hret rfl (Or.inr (Or.inl ⟨rfl, rfl, z, rfl⟩)) hd hr, hrun, hended, _, _, rfl, by (show Q _ T.heap _); rw [eT]; exact hq, ⟨_, rfl⟩, hW, hsame.mono hc hs⟩
theorem go_retA (X : Stand p l e R s m args below meth c T locs cells slots) (hx : p.tables.exec = Jvm.exec) (hlk : meth.locks = false) {ty : FieldType} (hret : meth.sig.returnType = some ty) (hty : ty.isReference = true) {pc : Nat} {Ls : Array Slot} {a : Addr} {rest : List Value} (hd : decode c.code pc = .ok (.areturn, 1)) (eT : T.heap = h) (hq : Q (some (.ref a)) h locs) (hc : cells ≤ C) (hs : slots ≤ S) :
    Go p e below s C S Q T (mkF m pc Ls (.ref a :: rest)) := by
  obtain ⟨fs, hr, hrun, hended, hW, hsame⟩ := X.leave (v := some (.ref a)) (fun h => by rw [hret] at h; cases h) hlk
  exact ⟨_, _, retOut X hx hret (by cases ty <;> first | rfl | cases hty) (Or.inr (Or.inr (Or.inr (Or.inr ⟨rfl, hty, rfl⟩)))) hd hr, hrun, hended, _, _, rfl, by (show Q _ T.heap _); rw [eT]; exact hq, ⟨_, rfl⟩, hW, hsame.mono hc hs⟩
theorem go_retV (X : Stand p l e R s m args below meth c T locs cells slots) (hx : p.tables.exec = Jvm.exec) (hlk : meth.locks = false) (hret : meth.sig.returnType = none) {pc : Nat} {Ls : Array Slot} (hd : decode c.code pc = .ok (.return_, 1)) (eT : T.heap = h) (hq : Q none h locs) (hc : cells ≤ C) (hs : slots ≤ S) :
    Go p e below s C S Q T (mkF m pc Ls []) := by
  obtain ⟨fs, hr, hrun, hended, hW, hsame⟩ := X.leave (v := none) (fun _ => rfl) hlk
  exact ⟨_, _, X.returnOut hx hret hd hr, hrun, hended, _, _, rfl, by (show Q _ T.heap _); rw [eT]; exact hq, ⟨_, rfl⟩, hW, hsame.mono hc hs⟩
/-- invokestatic by the callee's contract -/
theorem go_callS (X : Stand p l e R s m args below meth c T locs cells slots) (hx : p.tables.exec = Jvm.exec) (hZ : Z.Warmed39 s.vm) {own : String} {index : Nat} {y : MethodName} {bytes : ByteArray} {maxL : Nat} {rt : Option FieldType} {rm : Room} {as : Array Value} {Q' : Option Value → Heap → List Loc → Prop}
    (hown : s.vm.findClass own = some m.cls) (w1 : (Cond.methodLink own index y).before a0 Z = true) (w2 : (Cond.static y).before a0 Z = true) (w3 : (Cond.initialized y.cls).before a0 Z = true) (w4 : (Cond.code y bytes maxL rt).before a0 Z = true)
    (hy : y.cls ≠ "java/lang/invoke/MethodHandle" ∧ y.cls ≠ "java/lang/invoke/VarHandle") (eT : T.heap = h) (hM : MQ l Z y bytes maxL rt [] rm as h Q') (W : Nat) (hf : rm.frames + 1 ≤ R.frames) (hl : W + (maxL + 11) + rm.locals ≤ R.locals)
    (hg : g.method = m) (hsize : g.locals.size = c.maxLocals) {argsL rest : List Value} (hlen : ∀ sig, parseMethodDescriptor y.desc = some sig → argsL.length = sig.parameters.length)
    (hstack : g.stack = argsL.reverse ++ rest) (hW : 2 * g.monitorRoom + (rest.map fun v => v.category).sum ≤ W) (hdg : decode c.code g.pc = .ok (.invokestatic index, 3)) (has : argsL.toArray = as) (hcells : cells + rm.cells ≤ R.cells) (hslots : slots + rm.slots ≤ R.slots)
    (k : ∀ (T' : State) (v : Option Value) (L : List Loc), Stand p l e R s m args below meth c T' (locs ++ L) (cells + rm.cells) (slots + rm.slots) → Q' v T'.heap L → Go p e below s C S Q T' { g with pc := g.pc + 3, stack := v.toList ++ rest }) :
    Go p e below s C S Q T g := by
  obtain ⟨v, _, ⟨T', L', k', n'⟩, -, X', ⟨Lc, hQ, l1, y1, z1⟩, st⟩ := Jvm.LawKit.callS X hx (y := y) hown (mvT hZ w1) (mvT hZ w2) (mvT hZ w3) (mvT hZ w4) hy (backOf (W := W) hM hZ w4 w3 hf hl) hg hsize (argsL := argsL) (rest := rest) hlen hstack hW hdg (fun _ _ => ⟨has, eT, hcells, hslots⟩)
  dsimp only [Pt.U, Pt.locs, Pt.cells, Pt.slots] at X' l1 y1 z1 st hQ
  subst l1 y1 z1
  exact go_step st (k T' v Lc X' hQ)
theorem go_callSP (X : Stand p l e R s m args below meth c T locs cells slots) (hx : p.tables.exec = Jvm.exec) (hZ : Z.Warmed39 s.vm) {own : String} {index : Nat} {y : MethodName} {bytes : ByteArray} {maxL : Nat} {rt : Option FieldType} {rm : Room} {as : Array Value} {r : Option Value}
    (hown : s.vm.findClass own = some m.cls) (w1 : (Cond.methodLink own index y).before a0 Z = true) (w2 : (Cond.static y).before a0 Z = true) (w3 : (Cond.initialized y.cls).before a0 Z = true) (w4 : (Cond.code y bytes maxL rt).before a0 Z = true)
    (hy : y.cls ≠ "java/lang/invoke/MethodHandle" ∧ y.cls ≠ "java/lang/invoke/VarHandle") (eT : T.heap = h) (hM : MQ l Z y bytes maxL rt [] rm as h (QP r h)) (W : Nat) (hf : rm.frames + 1 ≤ R.frames) (hl : W + (maxL + 11) + rm.locals ≤ R.locals)
    (hg : g.method = m) (hsize : g.locals.size = c.maxLocals) {argsL rest : List Value} (hlen : ∀ sig, parseMethodDescriptor y.desc = some sig → argsL.length = sig.parameters.length)
    (hstack : g.stack = argsL.reverse ++ rest) (hW : 2 * g.monitorRoom + (rest.map fun v => v.category).sum ≤ W) (hdg : decode c.code g.pc = .ok (.invokestatic index, 3)) (has : argsL.toArray = as) (hrc : rm.cells = 0) (hrs : rm.slots = 0) (hcells : cells ≤ R.cells) (hslots : slots ≤ R.slots)
    (k : ∀ (T' : State), Stand p l e R s m args below meth c T' locs cells slots → T'.heap = h → Go p e below s C S Q T' { g with pc := g.pc + 3, stack := r.toList ++ rest }) :
    Go p e below s C S Q T g :=
  go_callS X hx hZ hown w1 w2 w3 w4 hy eT hM W hf hl hg hsize hlen hstack hW hdg has (by rw [hrc]; exact hcells) (by rw [hrs]; exact hslots) fun T' v L X' hQ => by
    obtain ⟨rfl, e', rfl⟩ := hQ
    rw [hrc, hrs, List.append_nil] at X'
    exact k T' X' e'
end Layer
/-! the heap's part of the layer: arrays of numbers as lists, one law a step, in the 'Go' form -/
def PA (Z : State) (h : Heap) (a : Addr) (ty : FieldType) (vs : List Value) : Prop := ∃ c : Cell, Arr Z h a c ty ∧ c.slots = vs.toArray ∧ vs.length < 2 ^ 31
def IA (Z : State) (h : Heap) (a : Addr) (xs : List Int32) : Prop := PA Z h a .int (xs.map Value.int)
def JA (Z : State) (h : Heap) (a : Addr) (xs : List Int64) : Prop := PA Z h a .long (xs.map Value.long)
def BA (Z : State) (h : Heap) (a : Addr) (xs : List Int32) : Prop := PA Z h a .byte (xs.map Value.int)
theorem getD_some {α : Type} {xs : List α} {i : Nat} {d : α} (h : i < xs.length) : xs[i]? = some (xs.getD i d) := by simp [List.getD, h]
section Heapy
variable {p : Program} {l : Launch} {e : Env} {R : Room} {s : State} {m : MethodId} {args : Array Value} {below : List Frame} {meth : Method} {c : Code} {T T' : State} {locs : List Loc} {cells slots C S : Nat} {Q : Option Value → Heap → List Loc → Prop} {g g' : JFrame} {h h' h0 : Heap} {Z : State} {a0 : Array Value} {a b : Addr} {ty ty' : FieldType} {vs vs' : List Value} {ws : List Addr} {sl : Nat} {v : Value}
theorem PA.lt (A : PA Z h a ty vs) : a < h.size := by obtain ⟨c, A, -⟩ := A; exact A.lt
theorem PA.ext (A : PA Z h a ty vs) (E : Ext h h') : PA Z h' a ty vs := by obtain ⟨c, A, r⟩ := A; exact ⟨c, A.ext E, r⟩
theorem PA.other (A : PA Z h b ty vs) (W : Wr h h' a sl v) (q : b ≠ a) : PA Z h' b ty vs := by obtain ⟨c, A, r⟩ := A; exact ⟨c, A.other W q, r⟩
theorem PA.keep (A : PA Z h a ty vs) (K : Keep h h' ws) (q : a ∉ ws) : PA Z h' a ty vs := by obtain ⟨c, A, r⟩ := A; exact ⟨c, ⟨K.2.1 a c A.1 q, A.2⟩, r⟩
theorem PA.set {i : Nat} (A : PA Z h a ty vs) (W : Wr h h' a i v) : PA Z h' a ty (vs.set i v) := by
  obtain ⟨c, A, r, r2⟩ := A
  refine ⟨_, A.same W, ?_, by simpa using r2⟩
  simp [Cell.setSlot, r]
theorem IA.lt {xs : List Int32} (A : IA Z h a xs) : a < h.size := PA.lt A
theorem IA.ext {xs : List Int32} (A : IA Z h a xs) (E : Ext h h') : IA Z h' a xs := PA.ext A E
theorem IA.other {xs : List Int32} (A : IA Z h b xs) (W : Wr h h' a sl v) (q : b ≠ a) : IA Z h' b xs := PA.other A W q
theorem IA.keep {xs : List Int32} (A : IA Z h a xs) (K : Keep h h' ws) (q : a ∉ ws) : IA Z h' a xs := PA.keep A K q
theorem JA.lt {xs : List Int64} (A : JA Z h a xs) : a < h.size := PA.lt A
theorem JA.ext {xs : List Int64} (A : JA Z h a xs) (E : Ext h h') : JA Z h' a xs := PA.ext A E
theorem JA.other {xs : List Int64} (A : JA Z h b xs) (W : Wr h h' a sl v) (q : b ≠ a) : JA Z h' b xs := PA.other A W q
theorem JA.keep {xs : List Int64} (A : JA Z h a xs) (K : Keep h h' ws) (q : a ∉ ws) : JA Z h' a xs := PA.keep A K q
theorem BA.lt {xs : List Int32} (A : BA Z h a xs) : a < h.size := PA.lt A
theorem BA.ext {xs : List Int32} (A : BA Z h a xs) (E : Ext h h') : BA Z h' a xs := PA.ext A E
theorem BA.other {xs : List Int32} (A : BA Z h b xs) (W : Wr h h' a sl v) (q : b ≠ a) : BA Z h' b xs := PA.other A W q
theorem BA.keep {xs : List Int32} (A : BA Z h a xs) (K : Keep h h' ws) (q : a ∉ ws) : BA Z h' a xs := PA.keep A K q
theorem Exa.keepK {K : String} (F : Exa Z h a K) (q : Keep h h' ws) : Exa Z h' a K := Exa.keep F q
/-- arrays of two kinds are two arrays; an object of a class is none -/
theorem pa_ne (A : PA Z h a ty vs) (B : PA Z h b ty' vs') (hn : ty ≠ ty') : a ≠ b := fun q => by
  subst q
  obtain ⟨c1, A1, -⟩ := A
  obtain ⟨c2, B1, -⟩ := B
  cases A1.1.symm.trans B1.1
  obtain ⟨-, k1, j1, comp1, q1⟩ := A1.2.1
  obtain ⟨-, k2, j2, comp2, q2⟩ := B1.2.1
  cases j1.symm.trans j2
  rw [q1] at q2
  cases q2
  exact hn rfl
theorem exa_pa {K : String} {k : Nat} (F : Exa Z h a K) (wi : (Cond.instantiable K k).before a0 Z = true) (A : PA Z h b ty vs) : a ≠ b := by
  obtain ⟨c, A, -⟩ := A
  exact ne_arr F wi A
theorem PA.slot {i : Nat} (A : PA Z h a ty vs) {w : Value} (hv : vs[i]? = some w) : ∃ c : Cell, Arr Z h a c ty ∧ i < c.slots.size ∧ c.slots[i]? = some w := by
  obtain ⟨c, A, r, -⟩ := A
  have hi := (List.getElem?_eq_some_iff.mp hv).1
  exact ⟨c, A, by rw [r]; simpa using hi, by rw [r]; simpa using hv⟩
theorem go_iaload (X : Stand p l e R s m args below meth c T locs cells slots) (hx : p.tables.exec = Jvm.exec) (hZ : Z.Warmed39 s.vm) (eT : T.heap = h) {xs : List Int32} (A : IA Z h a xs) {j w : Int32} (hj : ¬ j < 0) (hv : xs[j.toNatClampNeg]? = some w) {rest : List Value} (hg : g.method = m) (hs : g.stack = .int j :: .ref a :: rest) (hd : decode c.code g.pc = .ok (.iaload, 1))
    (k : Go p e below s C S Q T { g with pc := g.pc + 1, stack := .int w :: rest }) : Go p e below s C S Q T g := by
  obtain ⟨cl, A, hi, hv'⟩ := PA.slot A (w := .int w) (by rw [List.getElem?_map, hv]; rfl)
  exact go_step (X.iaload hx (j := j) (v := .int w) (by rw [eT]; exact A.1) (State.isArrayOf_alike hZ.alike A.2.1) A.2.2 (fun q => q.elim hj (fun q => Nat.not_le_of_lt hi q)) hv' hg hs hd) k
theorem go_laload (X : Stand p l e R s m args below meth c T locs cells slots) (hx : p.tables.exec = Jvm.exec) (hZ : Z.Warmed39 s.vm) (eT : T.heap = h) {xs : List Int64} (A : JA Z h a xs) {j : Int32} {w : Int64} (hj : ¬ j < 0) (hv : xs[j.toNatClampNeg]? = some w) {rest : List Value} (hg : g.method = m) (hs : g.stack = .int j :: .ref a :: rest) (hd : decode c.code g.pc = .ok (.laload, 1))
    (k : Go p e below s C S Q T { g with pc := g.pc + 1, stack := .long w :: rest }) : Go p e below s C S Q T g := by
  obtain ⟨cl, A, hi, hv'⟩ := PA.slot A (w := .long w) (by rw [List.getElem?_map, hv]; rfl)
  exact go_step (X.laload hx (j := j) (v := .long w) (by rw [eT]; exact A.1) (State.isArrayOf_alike hZ.alike A.2.1) A.2.2 (fun q => q.elim hj (fun q => Nat.not_le_of_lt hi q)) hv' hg hs hd) k
theorem go_baload (X : Stand p l e R s m args below meth c T locs cells slots) (hx : p.tables.exec = Jvm.exec) (hZ : Z.Warmed39 s.vm) (eT : T.heap = h) {xs : List Int32} (A : BA Z h a xs) {j w : Int32} (hj : ¬ j < 0) (hv : xs[j.toNatClampNeg]? = some w) {rest : List Value} (hg : g.method = m) (hs : g.stack = .int j :: .ref a :: rest) (hd : decode c.code g.pc = .ok (.baload, 1))
    (k : Go p e below s C S Q T { g with pc := g.pc + 1, stack := .int w :: rest }) : Go p e below s C S Q T g := by
  obtain ⟨cl, A, hi, hv'⟩ := PA.slot A (w := .int w) (by rw [List.getElem?_map, hv]; rfl)
  exact go_step (X.baloadBytes hx (j := j) (v := .int w) (by rw [eT]; exact A.1) (State.isArrayOf_alike hZ.alike A.2.1) A.2.2 (fun q => q.elim hj (fun q => Nat.not_le_of_lt hi q)) hv' hg hs hd) k
theorem go_alen (X : Stand p l e R s m args below meth c T locs cells slots) (hx : p.tables.exec = Jvm.exec) (hZ : Z.Warmed39 s.vm) (eT : T.heap = h) (A : PA Z h a ty vs) {z : Int32} (hz : vs.length.toInt32 = z) {rest : List Value} (hg : g.method = m) (hs : g.stack = .ref a :: rest) (hd : decode c.code g.pc = .ok (.arraylength, 1))
    (k : Go p e below s C S Q T { g with pc := g.pc + 1, stack := .int z :: rest }) : Go p e below s C S Q T g := by
  obtain ⟨cl, A, r, -⟩ := A
  have q : cl.slots.size.toInt32 = z := by rw [r]; simpa using hz
  subst q
  exact go_step (X.arraylength hx (by rw [eT]; exact A.1) (State.isArrayOf_alike hZ.alike A.2.1) hg hs hd) k
theorem go_iastore (X : Stand p l e R s m args below meth c T locs cells slots) (hx : p.tables.exec = Jvm.exec) (hZ : Z.Warmed39 s.vm) (eT : T.heap = h) {xs : List Int32} (A : IA Z h a xs) {j w : Int32} (hj : ¬ j < 0) (hl : j.toNatClampNeg < xs.length) {rest : List Value} (hg : g.method = m) (hs : g.stack = .int w :: .int j :: .ref a :: rest) (hd : decode c.code g.pc = .ok (.iastore, 1))
    (k : ∀ (T' : State) (h' : Heap), Stand p l e R s m args below meth c T' (locs ++ [⟨a, j.toNatClampNeg⟩]) cells slots → T'.heap = h' → Wr h h' a j.toNatClampNeg (.int w) → IA Z h' a (xs.set j.toNatClampNeg w) → Go p e below s C S Q T' { g with pc := g.pc + 1, stack := rest }) : Go p e below s C S Q T g := by
  have A' := A
  obtain ⟨cl, A, r, -⟩ := A
  obtain ⟨T', h', X', e', W, st⟩ := stI X hx hZ eT A (j := j) (x := w) (fun q => q.elim hj (fun q => by rw [r] at q; simp at q; omega)) hg hs hd
  exact go_step st (k T' h' X' e' W (by rw [IA, List.map_set]; exact PA.set A' W))
theorem go_lastore (X : Stand p l e R s m args below meth c T locs cells slots) (hx : p.tables.exec = Jvm.exec) (hZ : Z.Warmed39 s.vm) (eT : T.heap = h) {xs : List Int64} (A : JA Z h a xs) {j : Int32} {w : Int64} (hj : ¬ j < 0) (hl : j.toNatClampNeg < xs.length) {rest : List Value} (hg : g.method = m) (hs : g.stack = .long w :: .int j :: .ref a :: rest) (hd : decode c.code g.pc = .ok (.lastore, 1))
    (k : ∀ (T' : State) (h' : Heap), Stand p l e R s m args below meth c T' (locs ++ [⟨a, j.toNatClampNeg⟩]) cells slots → T'.heap = h' → Wr h h' a j.toNatClampNeg (.long w) → JA Z h' a (xs.set j.toNatClampNeg w) → Go p e below s C S Q T' { g with pc := g.pc + 1, stack := rest }) : Go p e below s C S Q T g := by
  have A' := A
  obtain ⟨cl, A, r, -⟩ := A
  obtain ⟨T', h', X', e', W, st⟩ := stJ X hx hZ eT A (j := j) (x := w) (fun q => q.elim hj (fun q => by rw [r] at q; simp at q; omega)) hg hs hd
  exact go_step st (k T' h' X' e' W (by rw [JA, List.map_set]; exact PA.set A' W))
theorem go_bastore (X : Stand p l e R s m args below meth c T locs cells slots) (hx : p.tables.exec = Jvm.exec) (hZ : Z.Warmed39 s.vm) (eT : T.heap = h) {xs : List Int32} (A : BA Z h a xs) {j w : Int32} (hj : ¬ j < 0) (hl : j.toNatClampNeg < xs.length) {rest : List Value} (hg : g.method = m) (hs : g.stack = .int w :: .int j :: .ref a :: rest) (hd : decode c.code g.pc = .ok (.bastore, 1))
    (k : ∀ (T' : State) (h' : Heap), Stand p l e R s m args below meth c T' (locs ++ [⟨a, j.toNatClampNeg⟩]) cells slots → T'.heap = h' → Wr h h' a j.toNatClampNeg (.int w.toInt8.toInt32) → BA Z h' a (xs.set j.toNatClampNeg w.toInt8.toInt32) → Go p e below s C S Q T' { g with pc := g.pc + 1, stack := rest }) : Go p e below s C S Q T g := by
  have A' := A
  obtain ⟨cl, A, r, -⟩ := A
  obtain ⟨T', h', X', e', W, st⟩ := stB X hx hZ eT A (j := j) (x := w) (fun q => q.elim hj (fun q => by rw [r] at q; simp at q; omega)) hg hs hd
  exact go_step st (k T' h' X' e' W (by rw [BA, List.map_set]; exact PA.set A' W))
/-- newarray of a kind of numbers: 'n' of them at most 'cap' -/
theorem go_newP (X : Stand p l e R s m args below meth c T locs cells slots) (hx : p.tables.exec = Jvm.exec) (hZ : Z.Warmed39 s.vm) {aty : ArrayType} (w : (Cond.arrayClass (newarray.typeOf aty)).before a0 Z = true) (eT : T.heap = h) {n : Int32} {rest : List Value} (cap : Nat) (hn : ¬ n < 0) (hcap : n.toNatClampNeg ≤ cap) (hb : cap * 8 ≤ 536870912) (hc : cells + 1 ≤ R.cells) (hl : slots + cap ≤ R.slots) (hg : g.method = m) (hs : g.stack = .int n :: rest) (hd : decode c.code g.pc = .ok (.newarray aty, 2))
    (k : ∀ (T' : State) (h' : Heap) (b : Addr), Stand p l e R s m args below meth c T' locs (cells + 1) (slots + cap) → T'.heap = h' → Ext h h' → b = h.size → PA Z h' b (newarray.typeOf aty) (List.replicate n.toNatClampNeg (defaultValue (newarray.typeOf aty))) → Go p e below s C S Q T' { g with pc := g.pc + 2, stack := .ref b :: rest }) : Go p e below s C S Q T g := by
  obtain ⟨T', h', cA, X', e', E, A, st⟩ := newP X hx hZ w eT hg hd hs hn hcap hb hc hl
  refine go_step st (k T' h' _ X' e' E rfl ⟨_, A, by simp [newA], ?_⟩)
  have := n.toInt_lt
  simp only [List.length_replicate, Int32.toNatClampNeg]; omega
theorem go_new (X : Stand p l e R s m args below meth c T locs cells slots) (hx : p.tables.exec = Jvm.exec) (hZ : Z.Warmed39 s.vm) {own K : String} {index n : Nat} (hown : s.vm.findClass own = some m.cls) (w : (Cond.classLink own index K).before a0 Z = true) (wi : (Cond.instantiable K n).before a0 Z = true) (wz : (Cond.initialized K).before a0 Z = true) (eT : T.heap = h) (hc : cells + 1 ≤ R.cells) (hl : slots + n ≤ R.slots) (hg : g.method = m) (hd : decode c.code g.pc = .ok (.new index, 3))
    (k : ∀ (T' : State) (h' : Heap) (b : Addr), Stand p l e R s m args below meth c T' locs (cells + 1) (slots + n) → T'.heap = h' → Ext h h' → b = h.size → Exa Z h' b K → (∀ {O nm d : String} {ty : FieldType}, Laid Z a0 K O nm d → parseFieldDescriptor d = some ty → Fld Z h' b O nm d (defaultValue ty)) → Go p e below s C S Q T' { g with pc := g.pc + 3, stack := .ref b :: g.stack }) : Go p e below s C S Q T g := by
  obtain ⟨T', h', X', e', E, A, D, -, st⟩ := newO X hx hZ hown w wi wz eT hg hd hc hl
  exact go_step st (k T' h' _ X' e' E rfl A D)
theorem go_getF (X : Stand p l e R s m args below meth c T locs cells slots) (hx : p.tables.exec = Jvm.exec) (hZ : Z.Warmed39 s.vm) {own O n d : String} {index : Nat} (hown : s.vm.findClass own = some m.cls) (w : (Cond.fieldLink own index O n d).before a0 Z = true) (eT : T.heap = h) {w0 : Value} (F : Fld Z h a O n d w0) {rest : List Value} (hg : g.method = m) (hs : g.stack = .ref a :: rest) (hd : decode c.code g.pc = .ok (.getfield index, 3))
    (k : ∀ (T' : State), Stand p l e R s m args below meth c T' locs cells slots → T'.heap = h → Go p e below s C S Q T' { g with pc := g.pc + 3, stack := w0 :: rest }) : Go p e below s C S Q T g := by
  obtain ⟨T', X', e', st⟩ := getF X hx hZ hown (host := "") (Or.inl w) Via.refl eT F hg hs hd
  exact go_step st (k T' X' e')
theorem go_putF (X : Stand p l e R s m args below meth c T locs cells slots) (hx : p.tables.exec = Jvm.exec) (hZ : Z.Warmed39 s.vm) {own O n d K : String} {index kk : Nat} {ty : FieldType} (hown : s.vm.findClass own = some m.cls) (w : (Cond.fieldLink own index O n d).before a0 Z = true) (eT : T.heap = h) {w0 old : Value} (F : Fld Z h a O n d old) (E : Exa Z h a K) (L : (Cond.lays K O n d).before a0 Z = true ∨ ((Cond.laysFinal K O n d).before a0 Z = true ∧ own = O ∧ meth.name = "<init>")) (wi : (Cond.instantiable K kk).before a0 Z = true) (hty : parseFieldDescriptor d = some ty) (hn : narrow ty w0 = w0) (hf : fits ty w0 = true) {rest : List Value} (hg : g.method = m) (hs : g.stack = w0 :: .ref a :: rest) (hd : decode c.code g.pc = .ok (.putfield index, 3))
    (k : ∀ (T' : State) (h' : Heap), Stand p l e R s m args below meth c T' (locs ++ [⟨a, Jvm.RoadKit.slotOf Z O n d⟩]) cells slots → T'.heap = h' → Wr h h' a (Jvm.RoadKit.slotOf Z O n d) w0 → Fld Z h' a O n d w0 → Go p e below s C S Q T' { g with pc := g.pc + 3, stack := rest }) : Go p e below s C S Q T g := by
  obtain ⟨T', h', X', e', W, st⟩ := putF X hx hZ hown (host := "") (Or.inl w) Via.refl eT F E L wi hty hn hf hg hs hd
  exact go_step st (k T' h' X' e' W (F.same W))
theorem go_init (X : Stand p l e R s m args below meth c T locs cells slots) (hx : p.tables.exec = Jvm.exec) (hZ : Z.Warmed39 s.vm) {own : String} {idx : Nat} (hown : s.vm.findClass own = some m.cls) (w1 : (Cond.methodLink own idx Lib.objectInit).before a0 Z = true) (w2 : (Cond.instanceMethod Lib.objectInit).before a0 Z = true) (w3 : (Cond.code Lib.objectInit ⟨#[0xb1]⟩ 1 none).before a0 Z = true) (eT : T.heap = h) (hg : g.method = m) (hsize : g.locals.size = c.maxLocals) {rest : List Value} (hs : g.stack = .ref a :: rest) (hd : decode c.code g.pc = .ok (.invokespecial idx, 3)) (hf : 1 ≤ R.frames) (W : Nat) (hW : 2 * g.monitorRoom + (rest.map fun v => v.category).sum ≤ W) (hl : W + 12 ≤ R.locals)
    (k : ∀ (T' : State), Stand p l e R s m args below meth c T' locs cells slots → T'.heap = h → Go p e below s C S Q T' { g with pc := g.pc + 3, stack := rest }) : Go p e below s C S Q T g := by
  obtain ⟨T', X', e', st⟩ := initO X hx hZ hown w1 w2 w3 eT hg hsize hs hd hf (W := W) hW hl
  exact go_step st (k T' X' e')
/-- a constructor by its contract -/
theorem go_callC (X : Stand p l e R s m args below meth c T locs cells slots) (hx : p.tables.exec = Jvm.exec) (hZ : Z.Warmed39 s.vm) {own : String} {index : Nat} {y : MethodName} {bytes : ByteArray} {maxL : Nat} {rm : Room} {as : Array Value} {Q' : Option Value → Heap → List Loc → Prop} (hy1 : y.name = "<init>")
    (hown : s.vm.findClass own = some m.cls) (w1 : (Cond.methodLink own index y).before a0 Z = true) (w2 : (Cond.instanceMethod y).before a0 Z = true) (w3 : (Cond.initialized y.cls).before a0 Z = true) (w4 : (Cond.code y bytes maxL none).before a0 Z = true)
    (hy : y.cls ≠ "java/lang/invoke/MethodHandle" ∧ y.cls ≠ "java/lang/invoke/VarHandle") (eT : T.heap = h) (hM : MQ l Z y bytes maxL none [] rm as h Q') (W : Nat) (hf : rm.frames + 1 ≤ R.frames) (hl : W + (maxL + 11) + rm.locals ≤ R.locals)
    (hg : g.method = m) (hsize : g.locals.size = c.maxLocals) {argsL rest : List Value} (hlen : ∀ sig, parseMethodDescriptor y.desc = some sig → argsL.length = sig.parameters.length)
    (hstack : g.stack = argsL.reverse ++ .ref a :: rest) (hW : 2 * g.monitorRoom + (rest.map fun v => v.category).sum ≤ W) (hdg : decode c.code g.pc = .ok (.invokespecial index, 3)) (has : (.ref a :: argsL).toArray = as) (hcells : cells + rm.cells ≤ R.cells) (hslots : slots + rm.slots ≤ R.slots)
    (k : ∀ (T' : State) (v : Option Value) (L : List Loc), Stand p l e R s m args below meth c T' (locs ++ L) (cells + rm.cells) (slots + rm.slots) → Q' v T'.heap L → Go p e below s C S Q T' { g with pc := g.pc + 3, stack := v.toList ++ rest }) :
    Go p e below s C S Q T g := by
  obtain ⟨v, _, ⟨T', L', k', n'⟩, -, X', ⟨Lc, hQ, l1, y1, z1⟩, st⟩ := X.specialBack hx (y := y) hy1 hown (mvT hZ w1) (mvT hZ w2) (mvT hZ w4) hy (backOf (W := W) hM hZ w4 w3 hf hl) hg hsize (Steps.refl _) (a := a) (argsL := argsL) (rest := rest) hlen hstack hW hdg (fun _ _ => ⟨has, eT, hcells, hslots⟩)
  dsimp only [Pt.U, Pt.locs, Pt.cells, Pt.slots] at X' l1 y1 z1 st hQ
  subst l1 y1 z1
  exact go_step (fun t k => st.trans k) (k T' v Lc X' hQ)
/-- an instance method by its contract -/
theorem go_callV (X : Stand p l e R s m args below meth c T locs cells slots) (hx : p.tables.exec = Jvm.exec) (hZ : Z.Warmed39 s.vm) {own : String} {index : Nat} {y : MethodName} {bytes : ByteArray} {maxL : Nat} {rt : Option FieldType} {rm : Room} {as : Array Value} {Q' : Option Value → Heap → List Loc → Prop}
    (hown : s.vm.findClass own = some m.cls) (w1 : (Cond.methodLink own index y).before a0 Z = true) (w2 : (Cond.declares y).before a0 Z = true) (w5 : (Cond.selects y.cls y y).before a0 Z = true) (w6 : (Cond.instanceMethod y).before a0 Z = true) (w3 : (Cond.initialized y.cls).before a0 Z = true) (w4 : (Cond.code y bytes maxL rt).before a0 Z = true)
    (hy : y.cls ≠ "java/lang/invoke/MethodHandle" ∧ y.cls ≠ "java/lang/invoke/VarHandle") (eT : T.heap = h) (E : Exa Z h a y.cls) (hM : MQ l Z y bytes maxL rt [] rm as h Q') (W : Nat) (hf : rm.frames + 1 ≤ R.frames) (hl : W + (maxL + 11) + rm.locals ≤ R.locals)
    (hg : g.method = m) (hsize : g.locals.size = c.maxLocals) {argsL rest : List Value} (hlen : ∀ sig, parseMethodDescriptor y.desc = some sig → argsL.length = sig.parameters.length)
    (hstack : g.stack = argsL.reverse ++ .ref a :: rest) (hW : 2 * g.monitorRoom + (rest.map fun v => v.category).sum ≤ W) (hdg : decode c.code g.pc = .ok (.invokevirtual index, 3)) (has : (.ref a :: argsL).toArray = as) (hcells : cells + rm.cells ≤ R.cells) (hslots : slots + rm.slots ≤ R.slots)
    (k : ∀ (T' : State) (v : Option Value) (L : List Loc), Stand p l e R s m args below meth c T' (locs ++ L) (cells + rm.cells) (slots + rm.slots) → Q' v T'.heap L → Go p e below s C S Q T' { g with pc := g.pc + 3, stack := v.toList ++ rest }) :
    Go p e below s C S Q T g := by
  obtain ⟨cq, kq, qa, qb, qc⟩ := isOf hZ eT E
  obtain ⟨v, _, ⟨T', L', k', n'⟩, -, X', ⟨Lc, hQ, l1, y1, z1⟩, st⟩ := X.virtualBack hx (y := y) (z := y) hown (mvT hZ w1) (mvT hZ w2) (notFace_of_selects (args := #[]) (mvT hZ w5)) (mvT hZ w5) (mvT hZ w6) hy (backOf (W := W) hM hZ w4 w3 hf hl) qa qc hg hsize (Steps.refl _) (argsL := argsL) (rest := rest) hlen hstack hW hdg (fun _ _ => ⟨has, eT, hcells, hslots⟩)
  dsimp only [Pt.U, Pt.locs, Pt.cells, Pt.slots] at X' l1 y1 z1 st hQ
  subst l1 y1 z1
  exact go_step (fun t k => st.trans k) (k T' v Lc X' hQ)
theorem go_callVP (X : Stand p l e R s m args below meth c T locs cells slots) (hx : p.tables.exec = Jvm.exec) (hZ : Z.Warmed39 s.vm) {own : String} {index : Nat} {y : MethodName} {bytes : ByteArray} {maxL : Nat} {rt : Option FieldType} {rm : Room} {as : Array Value} {r : Option Value}
    (hown : s.vm.findClass own = some m.cls) (w1 : (Cond.methodLink own index y).before a0 Z = true) (w2 : (Cond.declares y).before a0 Z = true) (w5 : (Cond.selects y.cls y y).before a0 Z = true) (w6 : (Cond.instanceMethod y).before a0 Z = true) (w3 : (Cond.initialized y.cls).before a0 Z = true) (w4 : (Cond.code y bytes maxL rt).before a0 Z = true)
    (hy : y.cls ≠ "java/lang/invoke/MethodHandle" ∧ y.cls ≠ "java/lang/invoke/VarHandle") (eT : T.heap = h) (E : Exa Z h a y.cls) (hM : MQ l Z y bytes maxL rt [] rm as h (QP r h)) (W : Nat) (hf : rm.frames + 1 ≤ R.frames) (hl : W + (maxL + 11) + rm.locals ≤ R.locals)
    (hg : g.method = m) (hsize : g.locals.size = c.maxLocals) {argsL rest : List Value} (hlen : ∀ sig, parseMethodDescriptor y.desc = some sig → argsL.length = sig.parameters.length)
    (hstack : g.stack = argsL.reverse ++ .ref a :: rest) (hW : 2 * g.monitorRoom + (rest.map fun v => v.category).sum ≤ W) (hdg : decode c.code g.pc = .ok (.invokevirtual index, 3)) (has : (.ref a :: argsL).toArray = as) (hrc : rm.cells = 0) (hrs : rm.slots = 0) (hcells : cells ≤ R.cells) (hslots : slots ≤ R.slots)
    (k : ∀ (T' : State), Stand p l e R s m args below meth c T' locs cells slots → T'.heap = h → Go p e below s C S Q T' { g with pc := g.pc + 3, stack := r.toList ++ rest }) :
    Go p e below s C S Q T g :=
  go_callV X hx hZ hown w1 w2 w5 w6 w3 w4 hy eT E hM W hf hl hg hsize hlen hstack hW hdg has (by rw [hrc]; exact hcells) (by rw [hrs]; exact hslots) fun T' v L X' hQ => by
    obtain ⟨rfl, e', rfl⟩ := hQ
    rw [hrc, hrs, List.append_nil] at X'
    exact k T' X' e'
/-- a private instance method by its contract -/
theorem go_callR (X : Stand p l e R s m args below meth c T locs cells slots) (hx : p.tables.exec = Jvm.exec) (hZ : Z.Warmed39 s.vm) {own : String} {index : Nat} {y : MethodName} {bytes : ByteArray} {maxL : Nat} {rt : Option FieldType} {rm : Room} {as : Array Value} {Q' : Option Value → Heap → List Loc → Prop}
    (hown : s.vm.findClass own = some m.cls) (w1 : (Cond.methodLink own index y).before a0 Z = true) (w6 : (Cond.instanceMethod y).before a0 Z = true) (w5 : (Cond.selects y.cls y y).before a0 Z = true) (w7 : (Cond.privateMethod y).before a0 Z = true) (w3 : (Cond.initialized y.cls).before a0 Z = true) (w4 : (Cond.code y bytes maxL rt).before a0 Z = true)
    (hy : y.cls ≠ "java/lang/invoke/MethodHandle" ∧ y.cls ≠ "java/lang/invoke/VarHandle") (eT : T.heap = h) {K : String} (E : Exa Z h a K) (hM : MQ l Z y bytes maxL rt [] rm as h Q') (W : Nat) (hf : rm.frames + 1 ≤ R.frames) (hl : W + (maxL + 11) + rm.locals ≤ R.locals)
    (hg : g.method = m) (hsize : g.locals.size = c.maxLocals) {argsL rest : List Value} (hlen : ∀ sig, parseMethodDescriptor y.desc = some sig → argsL.length = sig.parameters.length)
    (hstack : g.stack = argsL.reverse ++ .ref a :: rest) (hW : 2 * g.monitorRoom + (rest.map fun v => v.category).sum ≤ W) (hdg : decode c.code g.pc = .ok (.invokevirtual index, 3)) (has : (.ref a :: argsL).toArray = as) (hcells : cells + rm.cells ≤ R.cells) (hslots : slots + rm.slots ≤ R.slots)
    (k : ∀ (T' : State) (v : Option Value) (L : List Loc), Stand p l e R s m args below meth c T' (locs ++ L) (cells + rm.cells) (slots + rm.slots) → Q' v T'.heap L → Go p e below s C S Q T' { g with pc := g.pc + 3, stack := v.toList ++ rest }) :
    Go p e below s C S Q T g := by
  obtain ⟨cq, q1, q2⟩ := E.cell
  obtain ⟨v, _, ⟨T', L', k', n'⟩, -, X', ⟨Lc, hQ, l1, y1, z1⟩, st⟩ := X.privateBack hx (y := y) hown (mvT hZ w1) (mvT hZ w6) (mvT hZ w5) (Cond.privateMethod_at (mvP hZ w7 (args := #[]))) (mvT hZ w4) hy (backOf (W := W) hM hZ w4 w3 hf hl) hg hsize (Steps.refl _) (a := a) (by rw [eT]; exact q1) q2 (argsL := argsL) (rest := rest) hlen hstack hW hdg (fun _ _ => ⟨has, eT, hcells, hslots⟩)
  dsimp only [Pt.U, Pt.locs, Pt.cells, Pt.slots] at X' l1 y1 z1 st hQ
  subst l1 y1 z1
  exact go_step (fun t k => st.trans k) (k T' v Lc X' hQ)
theorem go_callRP (X : Stand p l e R s m args below meth c T locs cells slots) (hx : p.tables.exec = Jvm.exec) (hZ : Z.Warmed39 s.vm) {own : String} {index : Nat} {y : MethodName} {bytes : ByteArray} {maxL : Nat} {rt : Option FieldType} {rm : Room} {as : Array Value} {r : Option Value}
    (hown : s.vm.findClass own = some m.cls) (w1 : (Cond.methodLink own index y).before a0 Z = true) (w6 : (Cond.instanceMethod y).before a0 Z = true) (w5 : (Cond.selects y.cls y y).before a0 Z = true) (w7 : (Cond.privateMethod y).before a0 Z = true) (w3 : (Cond.initialized y.cls).before a0 Z = true) (w4 : (Cond.code y bytes maxL rt).before a0 Z = true)
    (hy : y.cls ≠ "java/lang/invoke/MethodHandle" ∧ y.cls ≠ "java/lang/invoke/VarHandle") (eT : T.heap = h) {K : String} (E : Exa Z h a K) (hM : MQ l Z y bytes maxL rt [] rm as h (QP r h)) (W : Nat) (hf : rm.frames + 1 ≤ R.frames) (hl : W + (maxL + 11) + rm.locals ≤ R.locals)
    (hg : g.method = m) (hsize : g.locals.size = c.maxLocals) {argsL rest : List Value} (hlen : ∀ sig, parseMethodDescriptor y.desc = some sig → argsL.length = sig.parameters.length)
    (hstack : g.stack = argsL.reverse ++ .ref a :: rest) (hW : 2 * g.monitorRoom + (rest.map fun v => v.category).sum ≤ W) (hdg : decode c.code g.pc = .ok (.invokevirtual index, 3)) (has : (.ref a :: argsL).toArray = as) (hrc : rm.cells = 0) (hrs : rm.slots = 0) (hcells : cells ≤ R.cells) (hslots : slots ≤ R.slots)
    (k : ∀ (T' : State), Stand p l e R s m args below meth c T' locs cells slots → T'.heap = h → Go p e below s C S Q T' { g with pc := g.pc + 3, stack := r.toList ++ rest }) :
    Go p e below s C S Q T g :=
  go_callR X hx hZ hown w1 w6 w5 w7 w3 w4 hy eT E hM W hf hl hg hsize hlen hstack hW hdg has (by rw [hrc]; exact hcells) (by rw [hrs]; exact hslots) fun T' v L X' hQ => by
    obtain ⟨rfl, e', rfl⟩ := hQ
    rw [hrc, hrs, List.append_nil] at X'
    exact k T' X' e'
theorem go_join (X : Stand p l e R s m args below meth c T locs cells slots) (k1 : (∀ (T' : State), Stand p l e R s m args below meth c T' locs cells slots → T'.heap = h → Go p e below s C S Q T' g') → Go p e below s C S Q T g) (k2 : ∀ (T' : State), Stand p l e R s m args below meth c T' locs cells slots → T'.heap = h → Go p e below s C S Q T' g') : Go p e below s C S Q T g := k1 k2
end Heapy

theorem pd_0 : parseMethodDescriptor "(J)J" = some ⟨[.long], some .long⟩ := by decide +kernel
theorem pd_1 : parseMethodDescriptor "(J)V" = some ⟨[.long], none⟩ := by decide +kernel
theorem pd_2 : parseMethodDescriptor "()J" = some ⟨[], some .long⟩ := by decide +kernel

theorem d1_0 : decode prog_27_method_1_code 0 = .ok (.aload_n 0, 1) := by decide +kernel
theorem d1_1 : decode prog_27_method_1_code 1 = .ok (.invokespecial 1, 3) := by decide +kernel
theorem d1_4 : decode prog_27_method_1_code 4 = .ok (.aload_n 0, 1) := by decide +kernel
theorem d1_5 : decode prog_27_method_1_code 5 = .ok (.lload_n 1, 1) := by decide +kernel
theorem d1_6 : decode prog_27_method_1_code 6 = .ok (.putfield 7, 3) := by decide +kernel
theorem d1_9 : decode prog_27_method_1_code 9 = .ok (.return_, 1) := by decide +kernel
def f1_state (v1 : Int64) : Int64 := v1
theorem ef1 (m : MethodId) (v0 : Addr) (v1 : Int64) : entryFrame m #[(.ref v0), (.long v1)] 3 = (mkF m 0 #[.val (.ref v0), .val (.long v1), .second] []) := by first | (simp [entryFrame, mkF, argsToLocals, Value.category]; done) | rfl
theorem pn1 : plainName "com/example/waypost/waypost/model/RandomInstances$Draws" = true := by first | (simp [plainName, overriddenIn]; done) | decide +kernel
def Q1 (Z : State) (v0 : Addr) (v1 : Int64) (h0 : Heap) (n0 : Nat) (v : Option Value) (h : Heap) (L : List Loc) : Prop := v = none ∧ Fr n0 L ∧ Keep h0 h [v0] ∧ Fld Z h v0 "com/example/waypost/waypost/model/RandomInstances$Draws" "state" "J" (.long (f1_state v1))
set_option maxRecDepth 65536 in
set_option maxHeartbeats 40000000 in
theorem mq1 (l : Launch) (Z : State) (a0 : Array Value) (hw : ∀ d ∈ tables_1, d.before a0 Z = true) (v0 : Addr) (v1 : Int64)  (h0 : Heap) (n0 : Nat) (Z0 : n0 ≤ h0.size) (P0 : Exa Z h0 v0 "com/example/waypost/waypost/model/RandomInstances$Draws") (P1 : Fld Z h0 v0 "com/example/waypost/waypost/model/RandomInstances$Draws" "state" "J" (.long (0 : Int64))) (g_v0 : n0 ≤ v0) : MQ l Z (⟨"com/example/waypost/waypost/model/RandomInstances$Draws", "<init>", "(J)V"⟩ : MethodName) prog_27_method_1_code 3 none [] ({ frames := 1, cells := 0, slots := 0, locals := 12 } : Room) #[(.ref v0), (.long v1)] h0 (Q1 Z v0 v1 h0 n0) := by
  refine mq_of (plainFor_of_name pn1) ?_
  intro p e s m below meth c T0 X0 hx hby hml hown hnm hZ e0 hret hlk
  rw [ef1]
  have N0 := Fr.nil n0
  have K0 := Keep.refl h0 [v0]
  refine go_step (T' := T0) (g' := (mkF m 1 #[.val (.ref v0), .val (.long v1), .second] [(.ref v0)])) (fun t k => XS.aloadN X0.here hx rfl (hb hby d1_0) rfl rfl k) ?_
  refine go_init X0 hx hZ hown (hw _ (List.mem_of_getElem? (i := 6) rfl)) (hw _ (List.mem_of_getElem? (i := 7) rfl)) (hw _ (List.mem_of_getElem? (i := 8) rfl)) e0 (g := (mkF m 1 #[.val (.ref v0), .val (.long v1), .second] [(.ref v0)])) rfl (by rw [hml]; rfl) rfl (hb hby d1_1) (by decide) 0 (by show 2 * 0 + _ ≤ _; exact Nat.le_of_eq rfl) (by decide) (fun T1 X2 e3 => ?_)
  show Go p e below s _ _ _ T1 (mkF m 4 #[.val (.ref v0), .val (.long v1), .second] [])
  refine go_step (T' := T1) (g' := (mkF m 5 #[.val (.ref v0), .val (.long v1), .second] [(.ref v0)])) (fun t k => XS.aloadN X2.here hx rfl (hb hby d1_4) rfl rfl k) ?_
  refine go_step (T' := T1) (g' := (mkF m 6 #[.val (.ref v0), .val (.long v1), .second] [(.long v1), (.ref v0)])) (fun t k => XS.lloadN X2.here hx rfl (hb hby d1_5) rfl  k) ?_
  refine go_putF X2 hx hZ hown (hw _ (List.mem_of_getElem? (i := 9) rfl)) e3 P1 P0 (Or.inl (hw _ (List.mem_of_getElem? (i := 10) rfl))) (hw _ (List.mem_of_getElem? (i := 1) rfl)) (ty := .long) (by decide) rfl rfl (g := (mkF m 6 #[.val (.ref v0), .val (.long v1), .second] [(.long v1), (.ref v0)])) rfl rfl (hb hby d1_6) (fun T4 h5 X6 e7 W8 F9 => ?_)
  have K10 := K0.wr W8 (Or.inl (List.mem_of_getElem? (i := 0) rfl))
  have N11 := Fr.snoc X6 N0 g_v0
  show Go p e below s _ _ _ T4 (mkF m 9 #[.val (.ref v0), .val (.long v1), .second] [])
  exact go_retV X6 hx hlk hret (hb hby d1_9) e7 ⟨rfl, N11, K10, (by unfold f1_state; exact F9)⟩ (by decide) (by decide)
theorem d3_0 : decode prog_27_method_2_code 0 = .ok (.aload_n 0, 1) := by decide +kernel
theorem d3_1 : decode prog_27_method_2_code 1 = .ok (.dup, 1) := by decide +kernel
theorem d3_2 : decode prog_27_method_2_code 2 = .ok (.getfield 7, 3) := by decide +kernel
theorem d3_5 : decode prog_27_method_2_code 5 = .ok (.ldc2_w 13, 3) := by decide +kernel
theorem d3_8 : decode prog_27_method_2_code 8 = .ok (.ladd, 1) := by decide +kernel
theorem d3_9 : decode prog_27_method_2_code 9 = .ok (.putfield 7, 3) := by decide +kernel
theorem d3_12 : decode prog_27_method_2_code 12 = .ok (.aload_n 0, 1) := by decide +kernel
theorem d3_13 : decode prog_27_method_2_code 13 = .ok (.getfield 7, 3) := by decide +kernel
theorem d3_16 : decode prog_27_method_2_code 16 = .ok (.lstore_n 1, 1) := by decide +kernel
theorem d3_17 : decode prog_27_method_2_code 17 = .ok (.lload_n 1, 1) := by decide +kernel
theorem d3_18 : decode prog_27_method_2_code 18 = .ok (.lload_n 1, 1) := by decide +kernel
theorem d3_19 : decode prog_27_method_2_code 19 = .ok (.bipush 30, 2) := by decide +kernel
theorem d3_21 : decode prog_27_method_2_code 21 = .ok (.lushr, 1) := by decide +kernel
theorem d3_22 : decode prog_27_method_2_code 22 = .ok (.lxor, 1) := by decide +kernel
theorem d3_23 : decode prog_27_method_2_code 23 = .ok (.ldc2_w 15, 3) := by decide +kernel
theorem d3_26 : decode prog_27_method_2_code 26 = .ok (.lmul, 1) := by decide +kernel
theorem d3_27 : decode prog_27_method_2_code 27 = .ok (.lstore_n 1, 1) := by decide +kernel
theorem d3_28 : decode prog_27_method_2_code 28 = .ok (.lload_n 1, 1) := by decide +kernel
theorem d3_29 : decode prog_27_method_2_code 29 = .ok (.lload_n 1, 1) := by decide +kernel
theorem d3_30 : decode prog_27_method_2_code 30 = .ok (.bipush 27, 2) := by decide +kernel
theorem d3_32 : decode prog_27_method_2_code 32 = .ok (.lushr, 1) := by decide +kernel
theorem d3_33 : decode prog_27_method_2_code 33 = .ok (.lxor, 1) := by decide +kernel
theorem d3_34 : decode prog_27_method_2_code 34 = .ok (.ldc2_w 17, 3) := by decide +kernel
theorem d3_37 : decode prog_27_method_2_code 37 = .ok (.lmul, 1) := by decide +kernel
theorem d3_38 : decode prog_27_method_2_code 38 = .ok (.lstore_n 1, 1) := by decide +kernel
theorem d3_39 : decode prog_27_method_2_code 39 = .ok (.lload_n 1, 1) := by decide +kernel
theorem d3_40 : decode prog_27_method_2_code 40 = .ok (.lload_n 1, 1) := by decide +kernel
theorem d3_41 : decode prog_27_method_2_code 41 = .ok (.bipush 31, 2) := by decide +kernel
theorem d3_43 : decode prog_27_method_2_code 43 = .ok (.lushr, 1) := by decide +kernel
theorem d3_44 : decode prog_27_method_2_code 44 = .ok (.lxor, 1) := by decide +kernel
theorem d3_45 : decode prog_27_method_2_code 45 = .ok (.lreturn, 1) := by decide +kernel
def s3_0 (st : Int64) : Int64 := (((st + (-7046029254386353131 : Int64)) ^^^ (ushL (st + (-7046029254386353131 : Int64)) (30 : Int32))) * (-4658895280553007687 : Int64))
def f3_ret (st : Int64) : Int64 := ((((s3_0 st) ^^^ (ushL (s3_0 st) (27 : Int32))) * (-7723592293110705685 : Int64)) ^^^ (ushL (((s3_0 st) ^^^ (ushL (s3_0 st) (27 : Int32))) * (-7723592293110705685 : Int64)) (31 : Int32)))
def f3_state (st : Int64) : Int64 := (st + (-7046029254386353131 : Int64))
theorem ef3 (m : MethodId) (v0 : Addr) : entryFrame m #[(.ref v0)] 3 = (mkF m 0 #[.val (.ref v0), .unset, .unset] []) := by first | (simp [entryFrame, mkF, argsToLocals, Value.category]; done) | rfl
theorem pn3 : plainName "com/example/waypost/waypost/model/RandomInstances$Draws" = true := by first | (simp [plainName, overriddenIn]; done) | decide +kernel
def Q3 (Z : State) (v0 : Addr) (st : Int64) (h0 : Heap) (n0 : Nat) (v : Option Value) (h : Heap) (L : List Loc) : Prop := v = some (.long (f3_ret st)) ∧ Fr n0 L ∧ Keep h0 h [v0] ∧ Fld Z h v0 "com/example/waypost/waypost/model/RandomInstances$Draws" "state" "J" (.long (f3_state st))
set_option maxRecDepth 65536 in
set_option maxHeartbeats 40000000 in
theorem mq3 (l : Launch) (Z : State) (a0 : Array Value) (hw : ∀ d ∈ tables_1, d.before a0 Z = true) (v0 : Addr) (st : Int64) (h0 : Heap) (n0 : Nat) (Z0 : n0 ≤ h0.size) (P0 : Exa Z h0 v0 "com/example/waypost/waypost/model/RandomInstances$Draws") (P1 : Fld Z h0 v0 "com/example/waypost/waypost/model/RandomInstances$Draws" "state" "J" (.long st)) (g_v0 : n0 ≤ v0) : MQ l Z (⟨"com/example/waypost/waypost/model/RandomInstances$Draws", "next", "()J"⟩ : MethodName) prog_27_method_2_code 3 (some .long) [] ({ frames := 0, cells := 0, slots := 0, locals := 0 } : Room) #[(.ref v0)] h0 (Q3 Z v0 st h0 n0) := by
  refine mq_of (plainFor_of_name pn3) ?_
  intro p e s m below meth c T0 X0 hx hby hml hown hnm hZ e0 hret hlk
  rw [ef3]
  have N0 := Fr.nil n0
  have K0 := Keep.refl h0 [v0]
  refine go_step (T' := T0) (g' := (mkF m 1 #[.val (.ref v0), .unset, .unset] [(.ref v0)])) (fun t k => XS.aloadN X0.here hx rfl (hb hby d3_0) rfl rfl k) ?_
  refine go_step (T' := T0) (g' := (mkF m 2 #[.val (.ref v0), .unset, .unset] [(.ref v0), (.ref v0)])) (fun t k => XS.dup X0.here hx rfl (hb hby d3_1) rfl rfl k) ?_
  refine go_getF X0 hx hZ hown (hw _ (List.mem_of_getElem? (i := 9) rfl)) e0 P1 (g := (mkF m 2 #[.val (.ref v0), .unset, .unset] [(.ref v0), (.ref v0)])) rfl rfl (hb hby d3_2) (fun T1 X2 e3 => ?_)
  show Go p e below s _ _ _ T1 (mkF m 5 #[.val (.ref v0), .unset, .unset] [(.long st), (.ref v0)])
  refine go_step (T' := T1) (g' := (mkF m 8 #[.val (.ref v0), .unset, .unset] [(.long (-7046029254386353131 : Int64)), (.long st), (.ref v0)])) (X2.ldc2Long hx hown (mvT hZ (hw _ (List.mem_of_getElem? (i := 16) rfl))) (g := (mkF m 5 #[.val (.ref v0), .unset, .unset] [(.long st), (.ref v0)])) rfl (hb hby d3_5)) ?_
  refine go_step (T' := T1) (g' := (mkF m 9 #[.val (.ref v0), .unset, .unset] [(.long (st + (-7046029254386353131 : Int64))), (.ref v0)])) (fun t k => XS.ladd X2.here hx rfl (hb hby d3_8) rfl k) ?_
  refine go_putF X2 hx hZ hown (hw _ (List.mem_of_getElem? (i := 9) rfl)) e3 P1 P0 (Or.inl (hw _ (List.mem_of_getElem? (i := 10) rfl))) (hw _ (List.mem_of_getElem? (i := 1) rfl)) (ty := .long) (by decide) rfl rfl (g := (mkF m 9 #[.val (.ref v0), .unset, .unset] [(.long (st + (-7046029254386353131 : Int64))), (.ref v0)])) rfl rfl (hb hby d3_9) (fun T4 h5 X6 e7 W8 F9 => ?_)
  have K10 := K0.wr W8 (Or.inl (List.mem_of_getElem? (i := 0) rfl))
  have N11 := Fr.snoc X6 N0 g_v0
  show Go p e below s _ _ _ T4 (mkF m 12 #[.val (.ref v0), .unset, .unset] [])
  refine go_step (T' := T4) (g' := (mkF m 13 #[.val (.ref v0), .unset, .unset] [(.ref v0)])) (fun t k => XS.aloadN X6.here hx rfl (hb hby d3_12) rfl rfl k) ?_
  refine go_getF X6 hx hZ hown (hw _ (List.mem_of_getElem? (i := 9) rfl)) e7 F9 (g := (mkF m 13 #[.val (.ref v0), .unset, .unset] [(.ref v0)])) rfl rfl (hb hby d3_13) (fun T12 X13 e14 => ?_)
  show Go p e below s _ _ _ T12 (mkF m 16 #[.val (.ref v0), .unset, .unset] [(.long (st + (-7046029254386353131 : Int64)))])
  refine go_step (T' := T12) (g' := (mkF m 17 #[.val (.ref v0), .val (.long (st + (-7046029254386353131 : Int64))), .second] [])) (fun t k => XS.lstoreN X13.here hx rfl (hb hby d3_16) rfl (l' := #[.val (.ref v0), .val (.long (st + (-7046029254386353131 : Int64))), .second]) rfl k) ?_
  refine go_step (T' := T12) (g' := (mkF m 18 #[.val (.ref v0), .val (.long (st + (-7046029254386353131 : Int64))), .second] [(.long (st + (-7046029254386353131 : Int64)))])) (fun t k => XS.lloadN X13.here hx rfl (hb hby d3_17) rfl  k) ?_
  refine go_step (T' := T12) (g' := (mkF m 19 #[.val (.ref v0), .val (.long (st + (-7046029254386353131 : Int64))), .second] [(.long (st + (-7046029254386353131 : Int64))), (.long (st + (-7046029254386353131 : Int64)))])) (fun t k => XS.lloadN X13.here hx rfl (hb hby d3_18) rfl  k) ?_
  refine go_step (T' := T12) (g' := (mkF m 21 #[.val (.ref v0), .val (.long (st + (-7046029254386353131 : Int64))), .second] [(.int (30 : Int32)), (.long (st + (-7046029254386353131 : Int64))), (.long (st + (-7046029254386353131 : Int64)))])) (fun t k => XS.bipush X13.here hx rfl (hb hby d3_19) k) ?_
  refine go_step (T' := T12) (g' := (mkF m 22 #[.val (.ref v0), .val (.long (st + (-7046029254386353131 : Int64))), .second] [(.long (ushL (st + (-7046029254386353131 : Int64)) (30 : Int32))), (.long (st + (-7046029254386353131 : Int64)))])) (fun t k => XS.lushr X13.here hx rfl (hb hby d3_21) rfl k) ?_
  refine go_step (T' := T12) (g' := (mkF m 23 #[.val (.ref v0), .val (.long (st + (-7046029254386353131 : Int64))), .second] [(.long ((st + (-7046029254386353131 : Int64)) ^^^ (ushL (st + (-7046029254386353131 : Int64)) (30 : Int32))))])) (fun t k => XS.lxor X13.here hx rfl (hb hby d3_22) rfl k) ?_
  refine go_step (T' := T12) (g' := (mkF m 26 #[.val (.ref v0), .val (.long (st + (-7046029254386353131 : Int64))), .second] [(.long (-4658895280553007687 : Int64)), (.long ((st + (-7046029254386353131 : Int64)) ^^^ (ushL (st + (-7046029254386353131 : Int64)) (30 : Int32))))])) (X13.ldc2Long hx hown (mvT hZ (hw _ (List.mem_of_getElem? (i := 17) rfl))) (g := (mkF m 23 #[.val (.ref v0), .val (.long (st + (-7046029254386353131 : Int64))), .second] [(.long ((st + (-7046029254386353131 : Int64)) ^^^ (ushL (st + (-7046029254386353131 : Int64)) (30 : Int32))))])) rfl (hb hby d3_23)) ?_
  refine go_step (T' := T12) (g' := (mkF m 27 #[.val (.ref v0), .val (.long (st + (-7046029254386353131 : Int64))), .second] [(.long (((st + (-7046029254386353131 : Int64)) ^^^ (ushL (st + (-7046029254386353131 : Int64)) (30 : Int32))) * (-4658895280553007687 : Int64)))])) (fun t k => XS.lmul X13.here hx rfl (hb hby d3_26) rfl k) ?_
  refine go_step (T' := T12) (g' := (mkF m 28 #[.val (.ref v0), .val (.long (((st + (-7046029254386353131 : Int64)) ^^^ (ushL (st + (-7046029254386353131 : Int64)) (30 : Int32))) * (-4658895280553007687 : Int64))), .second] [])) (fun t k => XS.lstoreN X13.here hx rfl (hb hby d3_27) rfl (l' := #[.val (.ref v0), .val (.long (((st + (-7046029254386353131 : Int64)) ^^^ (ushL (st + (-7046029254386353131 : Int64)) (30 : Int32))) * (-4658895280553007687 : Int64))), .second]) rfl k) ?_
  show Go p e below s _ _ _ T12 (mkF m 28 #[.val (.ref v0), .val (.long (s3_0 st)), .second] [])
  refine go_step (T' := T12) (g' := (mkF m 29 #[.val (.ref v0), .val (.long (s3_0 st)), .second] [(.long (s3_0 st))])) (fun t k => XS.lloadN X13.here hx rfl (hb hby d3_28) rfl  k) ?_
  refine go_step (T' := T12) (g' := (mkF m 30 #[.val (.ref v0), .val (.long (s3_0 st)), .second] [(.long (s3_0 st)), (.long (s3_0 st))])) (fun t k => XS.lloadN X13.here hx rfl (hb hby d3_29) rfl  k) ?_
  refine go_step (T' := T12) (g' := (mkF m 32 #[.val (.ref v0), .val (.long (s3_0 st)), .second] [(.int (27 : Int32)), (.long (s3_0 st)), (.long (s3_0 st))])) (fun t k => XS.bipush X13.here hx rfl (hb hby d3_30) k) ?_
  refine go_step (T' := T12) (g' := (mkF m 33 #[.val (.ref v0), .val (.long (s3_0 st)), .second] [(.long (ushL (s3_0 st) (27 : Int32))), (.long (s3_0 st))])) (fun t k => XS.lushr X13.here hx rfl (hb hby d3_32) rfl k) ?_
  refine go_step (T' := T12) (g' := (mkF m 34 #[.val (.ref v0), .val (.long (s3_0 st)), .second] [(.long ((s3_0 st) ^^^ (ushL (s3_0 st) (27 : Int32))))])) (fun t k => XS.lxor X13.here hx rfl (hb hby d3_33) rfl k) ?_
  refine go_step (T' := T12) (g' := (mkF m 37 #[.val (.ref v0), .val (.long (s3_0 st)), .second] [(.long (-7723592293110705685 : Int64)), (.long ((s3_0 st) ^^^ (ushL (s3_0 st) (27 : Int32))))])) (X13.ldc2Long hx hown (mvT hZ (hw _ (List.mem_of_getElem? (i := 18) rfl))) (g := (mkF m 34 #[.val (.ref v0), .val (.long (s3_0 st)), .second] [(.long ((s3_0 st) ^^^ (ushL (s3_0 st) (27 : Int32))))])) rfl (hb hby d3_34)) ?_
  refine go_step (T' := T12) (g' := (mkF m 38 #[.val (.ref v0), .val (.long (s3_0 st)), .second] [(.long (((s3_0 st) ^^^ (ushL (s3_0 st) (27 : Int32))) * (-7723592293110705685 : Int64)))])) (fun t k => XS.lmul X13.here hx rfl (hb hby d3_37) rfl k) ?_
  refine go_step (T' := T12) (g' := (mkF m 39 #[.val (.ref v0), .val (.long (((s3_0 st) ^^^ (ushL (s3_0 st) (27 : Int32))) * (-7723592293110705685 : Int64))), .second] [])) (fun t k => XS.lstoreN X13.here hx rfl (hb hby d3_38) rfl (l' := #[.val (.ref v0), .val (.long (((s3_0 st) ^^^ (ushL (s3_0 st) (27 : Int32))) * (-7723592293110705685 : Int64))), .second]) rfl k) ?_
  refine go_step (T' := T12) (g' := (mkF m 40 #[.val (.ref v0), .val (.long (((s3_0 st) ^^^ (ushL (s3_0 st) (27 : Int32))) * (-7723592293110705685 : Int64))), .second] [(.long (((s3_0 st) ^^^ (ushL (s3_0 st) (27 : Int32))) * (-7723592293110705685 : Int64)))])) (fun t k => XS.lloadN X13.here hx rfl (hb hby d3_39) rfl  k) ?_
  refine go_step (T' := T12) (g' := (mkF m 41 #[.val (.ref v0), .val (.long (((s3_0 st) ^^^ (ushL (s3_0 st) (27 : Int32))) * (-7723592293110705685 : Int64))), .second] [(.long (((s3_0 st) ^^^ (ushL (s3_0 st) (27 : Int32))) * (-7723592293110705685 : Int64))), (.long (((s3_0 st) ^^^ (ushL (s3_0 st) (27 : Int32))) * (-7723592293110705685 : Int64)))])) (fun t k => XS.lloadN X13.here hx rfl (hb hby d3_40) rfl  k) ?_
  refine go_step (T' := T12) (g' := (mkF m 43 #[.val (.ref v0), .val (.long (((s3_0 st) ^^^ (ushL (s3_0 st) (27 : Int32))) * (-7723592293110705685 : Int64))), .second] [(.int (31 : Int32)), (.long (((s3_0 st) ^^^ (ushL (s3_0 st) (27 : Int32))) * (-7723592293110705685 : Int64))), (.long (((s3_0 st) ^^^ (ushL (s3_0 st) (27 : Int32))) * (-7723592293110705685 : Int64)))])) (fun t k => XS.bipush X13.here hx rfl (hb hby d3_41) k) ?_
  refine go_step (T' := T12) (g' := (mkF m 44 #[.val (.ref v0), .val (.long (((s3_0 st) ^^^ (ushL (s3_0 st) (27 : Int32))) * (-7723592293110705685 : Int64))), .second] [(.long (ushL (((s3_0 st) ^^^ (ushL (s3_0 st) (27 : Int32))) * (-7723592293110705685 : Int64)) (31 : Int32))), (.long (((s3_0 st) ^^^ (ushL (s3_0 st) (27 : Int32))) * (-7723592293110705685 : Int64)))])) (fun t k => XS.lushr X13.here hx rfl (hb hby d3_43) rfl k) ?_
  refine go_step (T' := T12) (g' := (mkF m 45 #[.val (.ref v0), .val (.long (((s3_0 st) ^^^ (ushL (s3_0 st) (27 : Int32))) * (-7723592293110705685 : Int64))), .second] [(.long ((((s3_0 st) ^^^ (ushL (s3_0 st) (27 : Int32))) * (-7723592293110705685 : Int64)) ^^^ (ushL (((s3_0 st) ^^^ (ushL (s3_0 st) (27 : Int32))) * (-7723592293110705685 : Int64)) (31 : Int32))))])) (fun t k => XS.lxor X13.here hx rfl (hb hby d3_44) rfl k) ?_
  exact go_retJ X13 hx hlk hret (hb hby d3_45) e14 ⟨(by unfold f3_ret; rfl), N11, K10, (by unfold f3_state; exact F9)⟩ (by decide) (by decide)
theorem d4_0 : decode method_2_code 0 = .ok (.lload_n 0, 1) := by decide +kernel
theorem d4_1 : decode method_2_code 1 = .ok (.lstore_n 2, 1) := by decide +kernel
theorem d4_2 : decode method_2_code 2 = .ok (.lload_n 2, 1) := by decide +kernel
theorem d4_3 : decode method_2_code 3 = .ok (.ldc2_w 7, 3) := by decide +kernel
theorem d4_6 : decode method_2_code 6 = .ok (.lload_n 0, 1) := by decide +kernel
theorem d4_7 : decode method_2_code 7 = .ok (.lload_n 2, 1) := by decide +kernel
theorem d4_8 : decode method_2_code 8 = .ok (.lmul, 1) := by decide +kernel
theorem d4_9 : decode method_2_code 9 = .ok (.lsub, 1) := by decide +kernel
theorem d4_10 : decode method_2_code 10 = .ok (.lmul, 1) := by decide +kernel
theorem d4_11 : decode method_2_code 11 = .ok (.lstore_n 2, 1) := by decide +kernel
theorem d4_12 : decode method_2_code 12 = .ok (.lload_n 2, 1) := by decide +kernel
theorem d4_13 : decode method_2_code 13 = .ok (.ldc2_w 7, 3) := by decide +kernel
theorem d4_16 : decode method_2_code 16 = .ok (.lload_n 0, 1) := by decide +kernel
theorem d4_17 : decode method_2_code 17 = .ok (.lload_n 2, 1) := by decide +kernel
theorem d4_18 : decode method_2_code 18 = .ok (.lmul, 1) := by decide +kernel
theorem d4_19 : decode method_2_code 19 = .ok (.lsub, 1) := by decide +kernel
theorem d4_20 : decode method_2_code 20 = .ok (.lmul, 1) := by decide +kernel
theorem d4_21 : decode method_2_code 21 = .ok (.lstore_n 2, 1) := by decide +kernel
theorem d4_22 : decode method_2_code 22 = .ok (.lload_n 2, 1) := by decide +kernel
theorem d4_23 : decode method_2_code 23 = .ok (.ldc2_w 7, 3) := by decide +kernel
theorem d4_26 : decode method_2_code 26 = .ok (.lload_n 0, 1) := by decide +kernel
theorem d4_27 : decode method_2_code 27 = .ok (.lload_n 2, 1) := by decide +kernel
theorem d4_28 : decode method_2_code 28 = .ok (.lmul, 1) := by decide +kernel
theorem d4_29 : decode method_2_code 29 = .ok (.lsub, 1) := by decide +kernel
theorem d4_30 : decode method_2_code 30 = .ok (.lmul, 1) := by decide +kernel
theorem d4_31 : decode method_2_code 31 = .ok (.lstore_n 2, 1) := by decide +kernel
theorem d4_32 : decode method_2_code 32 = .ok (.lload_n 2, 1) := by decide +kernel
theorem d4_33 : decode method_2_code 33 = .ok (.ldc2_w 7, 3) := by decide +kernel
theorem d4_36 : decode method_2_code 36 = .ok (.lload_n 0, 1) := by decide +kernel
theorem d4_37 : decode method_2_code 37 = .ok (.lload_n 2, 1) := by decide +kernel
theorem d4_38 : decode method_2_code 38 = .ok (.lmul, 1) := by decide +kernel
theorem d4_39 : decode method_2_code 39 = .ok (.lsub, 1) := by decide +kernel
theorem d4_40 : decode method_2_code 40 = .ok (.lmul, 1) := by decide +kernel
theorem d4_41 : decode method_2_code 41 = .ok (.lstore_n 2, 1) := by decide +kernel
theorem d4_42 : decode method_2_code 42 = .ok (.lload_n 2, 1) := by decide +kernel
theorem d4_43 : decode method_2_code 43 = .ok (.ldc2_w 7, 3) := by decide +kernel
theorem d4_46 : decode method_2_code 46 = .ok (.lload_n 0, 1) := by decide +kernel
theorem d4_47 : decode method_2_code 47 = .ok (.lload_n 2, 1) := by decide +kernel
theorem d4_48 : decode method_2_code 48 = .ok (.lmul, 1) := by decide +kernel
theorem d4_49 : decode method_2_code 49 = .ok (.lsub, 1) := by decide +kernel
theorem d4_50 : decode method_2_code 50 = .ok (.lmul, 1) := by decide +kernel
theorem d4_51 : decode method_2_code 51 = .ok (.lstore_n 2, 1) := by decide +kernel
theorem d4_52 : decode method_2_code 52 = .ok (.lload_n 2, 1) := by decide +kernel
theorem d4_53 : decode method_2_code 53 = .ok (.lreturn, 1) := by decide +kernel
def f4_42 (v0 : Int64) (v2 : Int64) : Int64 := (v2 * ((2 : Int64) - (v0 * v2)))
set_option maxRecDepth 65536 in
set_option maxHeartbeats 4000000 in
theorem b4_42 {p : Program} {l : Launch} {e : Env} {s : State} {m : MethodId} {args : Array Value} {below : List Frame} {meth : Method} {c : Code} {T0 : State} {Z : State} {a0 : Array Value} {h0 : Heap} {locs : List Loc} {cells slots : Nat} {Q : Option Value → Heap → List Loc → Prop} (hw : ∀ d ∈ tables_1, d.before a0 Z = true) (hx : p.tables.exec = Jvm.exec) (hby : c.code = method_2_code) (hml : c.maxLocals = 4) (hown : s.vm.findClass "com/example/waypost/waypost/model/DrawsNextPinLaw" = some m.cls) (hZ : Z.Warmed39 s.vm) (hret : meth.sig.returnType = some .long) (hlk : meth.locks = false) (X0 : Stand p l e ({ frames := 0, cells := 0, slots := 0, locals := 0 } : Room) s m args below meth c T0 locs cells slots) (e0 : T0.heap = h0) (hc : cells ≤ ({ frames := 0, cells := 0, slots := 0, locals := 0 } : Room).cells) (hs : slots ≤ ({ frames := 0, cells := 0, slots := 0, locals := 0 } : Room).slots) (v0 : Int64) (v2 : Int64) (hq : Q (some (.long (f4_42 v0 v2))) h0 locs) :
    Go p e below s ({ frames := 0, cells := 0, slots := 0, locals := 0 } : Room).cells ({ frames := 0, cells := 0, slots := 0, locals := 0 } : Room).slots Q T0 (mkF m 42 #[.val (.long v0), .second, .val (.long v2), .second] []) := by
  unfold f4_42 at hq
  refine go_step (T' := T0) (g' := (mkF m 43 #[.val (.long v0), .second, .val (.long v2), .second] [(.long v2)])) (fun t k => XS.lloadN X0.here hx rfl (hb hby d4_42) rfl  k) ?_
  refine go_step (T' := T0) (g' := (mkF m 46 #[.val (.long v0), .second, .val (.long v2), .second] [(.long (2 : Int64)), (.long v2)])) (X0.ldc2Long hx hown (mvT hZ (hw _ (List.mem_of_getElem? (i := 24) rfl))) (g := (mkF m 43 #[.val (.long v0), .second, .val (.long v2), .second] [(.long v2)])) rfl (hb hby d4_43)) ?_
  refine go_step (T' := T0) (g' := (mkF m 47 #[.val (.long v0), .second, .val (.long v2), .second] [(.long v0), (.long (2 : Int64)), (.long v2)])) (fun t k => XS.lloadN X0.here hx rfl (hb hby d4_46) rfl  k) ?_
  refine go_step (T' := T0) (g' := (mkF m 48 #[.val (.long v0), .second, .val (.long v2), .second] [(.long v2), (.long v0), (.long (2 : Int64)), (.long v2)])) (fun t k => XS.lloadN X0.here hx rfl (hb hby d4_47) rfl  k) ?_
  refine go_step (T' := T0) (g' := (mkF m 49 #[.val (.long v0), .second, .val (.long v2), .second] [(.long (v0 * v2)), (.long (2 : Int64)), (.long v2)])) (fun t k => XS.lmul X0.here hx rfl (hb hby d4_48) rfl k) ?_
  refine go_step (T' := T0) (g' := (mkF m 50 #[.val (.long v0), .second, .val (.long v2), .second] [(.long ((2 : Int64) - (v0 * v2))), (.long v2)])) (fun t k => XS.lsub X0.here hx rfl (hb hby d4_49) rfl k) ?_
  refine go_step (T' := T0) (g' := (mkF m 51 #[.val (.long v0), .second, .val (.long v2), .second] [(.long (v2 * ((2 : Int64) - (v0 * v2))))])) (fun t k => XS.lmul X0.here hx rfl (hb hby d4_50) rfl k) ?_
  refine go_step (T' := T0) (g' := (mkF m 52 #[.val (.long v0), .second, .val (.long (v2 * ((2 : Int64) - (v0 * v2)))), .second] [])) (fun t k => XS.lstoreN X0.here hx rfl (hb hby d4_51) rfl (l' := #[.val (.long v0), .second, .val (.long (v2 * ((2 : Int64) - (v0 * v2)))), .second]) rfl k) ?_
  refine go_step (T' := T0) (g' := (mkF m 53 #[.val (.long v0), .second, .val (.long (v2 * ((2 : Int64) - (v0 * v2)))), .second] [(.long (v2 * ((2 : Int64) - (v0 * v2))))])) (fun t k => XS.lloadN X0.here hx rfl (hb hby d4_52) rfl  k) ?_
  exact go_retJ X0 hx hlk hret (hb hby d4_53) e0 hq hc hs
def f4_32 (v0 : Int64) (v2 : Int64) : Int64 := (f4_42 v0 (v2 * ((2 : Int64) - (v0 * v2))))
set_option maxRecDepth 65536 in
set_option maxHeartbeats 4000000 in
theorem b4_32 {p : Program} {l : Launch} {e : Env} {s : State} {m : MethodId} {args : Array Value} {below : List Frame} {meth : Method} {c : Code} {T0 : State} {Z : State} {a0 : Array Value} {h0 : Heap} {locs : List Loc} {cells slots : Nat} {Q : Option Value → Heap → List Loc → Prop} (hw : ∀ d ∈ tables_1, d.before a0 Z = true) (hx : p.tables.exec = Jvm.exec) (hby : c.code = method_2_code) (hml : c.maxLocals = 4) (hown : s.vm.findClass "com/example/waypost/waypost/model/DrawsNextPinLaw" = some m.cls) (hZ : Z.Warmed39 s.vm) (hret : meth.sig.returnType = some .long) (hlk : meth.locks = false) (X0 : Stand p l e ({ frames := 0, cells := 0, slots := 0, locals := 0 } : Room) s m args below meth c T0 locs cells slots) (e0 : T0.heap = h0) (hc : cells ≤ ({ frames := 0, cells := 0, slots := 0, locals := 0 } : Room).cells) (hs : slots ≤ ({ frames := 0, cells := 0, slots := 0, locals := 0 } : Room).slots) (v0 : Int64) (v2 : Int64) (hq : Q (some (.long (f4_32 v0 v2))) h0 locs) :
    Go p e below s ({ frames := 0, cells := 0, slots := 0, locals := 0 } : Room).cells ({ frames := 0, cells := 0, slots := 0, locals := 0 } : Room).slots Q T0 (mkF m 32 #[.val (.long v0), .second, .val (.long v2), .second] []) := by
  unfold f4_32 at hq
  refine go_step (T' := T0) (g' := (mkF m 33 #[.val (.long v0), .second, .val (.long v2), .second] [(.long v2)])) (fun t k => XS.lloadN X0.here hx rfl (hb hby d4_32) rfl  k) ?_
  refine go_step (T' := T0) (g' := (mkF m 36 #[.val (.long v0), .second, .val (.long v2), .second] [(.long (2 : Int64)), (.long v2)])) (X0.ldc2Long hx hown (mvT hZ (hw _ (List.mem_of_getElem? (i := 24) rfl))) (g := (mkF m 33 #[.val (.long v0), .second, .val (.long v2), .second] [(.long v2)])) rfl (hb hby d4_33)) ?_
  refine go_step (T' := T0) (g' := (mkF m 37 #[.val (.long v0), .second, .val (.long v2), .second] [(.long v0), (.long (2 : Int64)), (.long v2)])) (fun t k => XS.lloadN X0.here hx rfl (hb hby d4_36) rfl  k) ?_
  refine go_step (T' := T0) (g' := (mkF m 38 #[.val (.long v0), .second, .val (.long v2), .second] [(.long v2), (.long v0), (.long (2 : Int64)), (.long v2)])) (fun t k => XS.lloadN X0.here hx rfl (hb hby d4_37) rfl  k) ?_
  refine go_step (T' := T0) (g' := (mkF m 39 #[.val (.long v0), .second, .val (.long v2), .second] [(.long (v0 * v2)), (.long (2 : Int64)), (.long v2)])) (fun t k => XS.lmul X0.here hx rfl (hb hby d4_38) rfl k) ?_
  refine go_step (T' := T0) (g' := (mkF m 40 #[.val (.long v0), .second, .val (.long v2), .second] [(.long ((2 : Int64) - (v0 * v2))), (.long v2)])) (fun t k => XS.lsub X0.here hx rfl (hb hby d4_39) rfl k) ?_
  refine go_step (T' := T0) (g' := (mkF m 41 #[.val (.long v0), .second, .val (.long v2), .second] [(.long (v2 * ((2 : Int64) - (v0 * v2))))])) (fun t k => XS.lmul X0.here hx rfl (hb hby d4_40) rfl k) ?_
  refine go_step (T' := T0) (g' := (mkF m 42 #[.val (.long v0), .second, .val (.long (v2 * ((2 : Int64) - (v0 * v2)))), .second] [])) (fun t k => XS.lstoreN X0.here hx rfl (hb hby d4_41) rfl (l' := #[.val (.long v0), .second, .val (.long (v2 * ((2 : Int64) - (v0 * v2)))), .second]) rfl k) ?_
  exact b4_42 hw hx hby hml hown hZ hret hlk X0 e0 hc hs v0 (v2 * ((2 : Int64) - (v0 * v2))) hq
def f4_22 (v0 : Int64) (v2 : Int64) : Int64 := (f4_32 v0 (v2 * ((2 : Int64) - (v0 * v2))))
set_option maxRecDepth 65536 in
set_option maxHeartbeats 4000000 in
theorem b4_22 {p : Program} {l : Launch} {e : Env} {s : State} {m : MethodId} {args : Array Value} {below : List Frame} {meth : Method} {c : Code} {T0 : State} {Z : State} {a0 : Array Value} {h0 : Heap} {locs : List Loc} {cells slots : Nat} {Q : Option Value → Heap → List Loc → Prop} (hw : ∀ d ∈ tables_1, d.before a0 Z = true) (hx : p.tables.exec = Jvm.exec) (hby : c.code = method_2_code) (hml : c.maxLocals = 4) (hown : s.vm.findClass "com/example/waypost/waypost/model/DrawsNextPinLaw" = some m.cls) (hZ : Z.Warmed39 s.vm) (hret : meth.sig.returnType = some .long) (hlk : meth.locks = false) (X0 : Stand p l e ({ frames := 0, cells := 0, slots := 0, locals := 0 } : Room) s m args below meth c T0 locs cells slots) (e0 : T0.heap = h0) (hc : cells ≤ ({ frames := 0, cells := 0, slots := 0, locals := 0 } : Room).cells) (hs : slots ≤ ({ frames := 0, cells := 0, slots := 0, locals := 0 } : Room).slots) (v0 : Int64) (v2 : Int64) (hq : Q (some (.long (f4_22 v0 v2))) h0 locs) :
    Go p e below s ({ frames := 0, cells := 0, slots := 0, locals := 0 } : Room).cells ({ frames := 0, cells := 0, slots := 0, locals := 0 } : Room).slots Q T0 (mkF m 22 #[.val (.long v0), .second, .val (.long v2), .second] []) := by
  unfold f4_22 at hq
  refine go_step (T' := T0) (g' := (mkF m 23 #[.val (.long v0), .second, .val (.long v2), .second] [(.long v2)])) (fun t k => XS.lloadN X0.here hx rfl (hb hby d4_22) rfl  k) ?_
  refine go_step (T' := T0) (g' := (mkF m 26 #[.val (.long v0), .second, .val (.long v2), .second] [(.long (2 : Int64)), (.long v2)])) (X0.ldc2Long hx hown (mvT hZ (hw _ (List.mem_of_getElem? (i := 24) rfl))) (g := (mkF m 23 #[.val (.long v0), .second, .val (.long v2), .second] [(.long v2)])) rfl (hb hby d4_23)) ?_
  refine go_step (T' := T0) (g' := (mkF m 27 #[.val (.long v0), .second, .val (.long v2), .second] [(.long v0), (.long (2 : Int64)), (.long v2)])) (fun t k => XS.lloadN X0.here hx rfl (hb hby d4_26) rfl  k) ?_
  refine go_step (T' := T0) (g' := (mkF m 28 #[.val (.long v0), .second, .val (.long v2), .second] [(.long v2), (.long v0), (.long (2 : Int64)), (.long v2)])) (fun t k => XS.lloadN X0.here hx rfl (hb hby d4_27) rfl  k) ?_
  refine go_step (T' := T0) (g' := (mkF m 29 #[.val (.long v0), .second, .val (.long v2), .second] [(.long (v0 * v2)), (.long (2 : Int64)), (.long v2)])) (fun t k => XS.lmul X0.here hx rfl (hb hby d4_28) rfl k) ?_
  refine go_step (T' := T0) (g' := (mkF m 30 #[.val (.long v0), .second, .val (.long v2), .second] [(.long ((2 : Int64) - (v0 * v2))), (.long v2)])) (fun t k => XS.lsub X0.here hx rfl (hb hby d4_29) rfl k) ?_
  refine go_step (T' := T0) (g' := (mkF m 31 #[.val (.long v0), .second, .val (.long v2), .second] [(.long (v2 * ((2 : Int64) - (v0 * v2))))])) (fun t k => XS.lmul X0.here hx rfl (hb hby d4_30) rfl k) ?_
  refine go_step (T' := T0) (g' := (mkF m 32 #[.val (.long v0), .second, .val (.long (v2 * ((2 : Int64) - (v0 * v2)))), .second] [])) (fun t k => XS.lstoreN X0.here hx rfl (hb hby d4_31) rfl (l' := #[.val (.long v0), .second, .val (.long (v2 * ((2 : Int64) - (v0 * v2)))), .second]) rfl k) ?_
  exact b4_32 hw hx hby hml hown hZ hret hlk X0 e0 hc hs v0 (v2 * ((2 : Int64) - (v0 * v2))) hq
def f4_12 (v0 : Int64) (v2 : Int64) : Int64 := (f4_22 v0 (v2 * ((2 : Int64) - (v0 * v2))))
set_option maxRecDepth 65536 in
set_option maxHeartbeats 4000000 in
theorem b4_12 {p : Program} {l : Launch} {e : Env} {s : State} {m : MethodId} {args : Array Value} {below : List Frame} {meth : Method} {c : Code} {T0 : State} {Z : State} {a0 : Array Value} {h0 : Heap} {locs : List Loc} {cells slots : Nat} {Q : Option Value → Heap → List Loc → Prop} (hw : ∀ d ∈ tables_1, d.before a0 Z = true) (hx : p.tables.exec = Jvm.exec) (hby : c.code = method_2_code) (hml : c.maxLocals = 4) (hown : s.vm.findClass "com/example/waypost/waypost/model/DrawsNextPinLaw" = some m.cls) (hZ : Z.Warmed39 s.vm) (hret : meth.sig.returnType = some .long) (hlk : meth.locks = false) (X0 : Stand p l e ({ frames := 0, cells := 0, slots := 0, locals := 0 } : Room) s m args below meth c T0 locs cells slots) (e0 : T0.heap = h0) (hc : cells ≤ ({ frames := 0, cells := 0, slots := 0, locals := 0 } : Room).cells) (hs : slots ≤ ({ frames := 0, cells := 0, slots := 0, locals := 0 } : Room).slots) (v0 : Int64) (v2 : Int64) (hq : Q (some (.long (f4_12 v0 v2))) h0 locs) :
    Go p e below s ({ frames := 0, cells := 0, slots := 0, locals := 0 } : Room).cells ({ frames := 0, cells := 0, slots := 0, locals := 0 } : Room).slots Q T0 (mkF m 12 #[.val (.long v0), .second, .val (.long v2), .second] []) := by
  unfold f4_12 at hq
  refine go_step (T' := T0) (g' := (mkF m 13 #[.val (.long v0), .second, .val (.long v2), .second] [(.long v2)])) (fun t k => XS.lloadN X0.here hx rfl (hb hby d4_12) rfl  k) ?_
  refine go_step (T' := T0) (g' := (mkF m 16 #[.val (.long v0), .second, .val (.long v2), .second] [(.long (2 : Int64)), (.long v2)])) (X0.ldc2Long hx hown (mvT hZ (hw _ (List.mem_of_getElem? (i := 24) rfl))) (g := (mkF m 13 #[.val (.long v0), .second, .val (.long v2), .second] [(.long v2)])) rfl (hb hby d4_13)) ?_
  refine go_step (T' := T0) (g' := (mkF m 17 #[.val (.long v0), .second, .val (.long v2), .second] [(.long v0), (.long (2 : Int64)), (.long v2)])) (fun t k => XS.lloadN X0.here hx rfl (hb hby d4_16) rfl  k) ?_
  refine go_step (T' := T0) (g' := (mkF m 18 #[.val (.long v0), .second, .val (.long v2), .second] [(.long v2), (.long v0), (.long (2 : Int64)), (.long v2)])) (fun t k => XS.lloadN X0.here hx rfl (hb hby d4_17) rfl  k) ?_
  refine go_step (T' := T0) (g' := (mkF m 19 #[.val (.long v0), .second, .val (.long v2), .second] [(.long (v0 * v2)), (.long (2 : Int64)), (.long v2)])) (fun t k => XS.lmul X0.here hx rfl (hb hby d4_18) rfl k) ?_
  refine go_step (T' := T0) (g' := (mkF m 20 #[.val (.long v0), .second, .val (.long v2), .second] [(.long ((2 : Int64) - (v0 * v2))), (.long v2)])) (fun t k => XS.lsub X0.here hx rfl (hb hby d4_19) rfl k) ?_
  refine go_step (T' := T0) (g' := (mkF m 21 #[.val (.long v0), .second, .val (.long v2), .second] [(.long (v2 * ((2 : Int64) - (v0 * v2))))])) (fun t k => XS.lmul X0.here hx rfl (hb hby d4_20) rfl k) ?_
  refine go_step (T' := T0) (g' := (mkF m 22 #[.val (.long v0), .second, .val (.long (v2 * ((2 : Int64) - (v0 * v2)))), .second] [])) (fun t k => XS.lstoreN X0.here hx rfl (hb hby d4_21) rfl (l' := #[.val (.long v0), .second, .val (.long (v2 * ((2 : Int64) - (v0 * v2)))), .second]) rfl k) ?_
  exact b4_22 hw hx hby hml hown hZ hret hlk X0 e0 hc hs v0 (v2 * ((2 : Int64) - (v0 * v2))) hq
def f4_0 (v0 : Int64) : Int64 := (f4_12 v0 (v0 * ((2 : Int64) - (v0 * v0))))
set_option maxRecDepth 65536 in
set_option maxHeartbeats 4000000 in
theorem b4_0 {p : Program} {l : Launch} {e : Env} {s : State} {m : MethodId} {args : Array Value} {below : List Frame} {meth : Method} {c : Code} {T0 : State} {Z : State} {a0 : Array Value} {h0 : Heap} {locs : List Loc} {cells slots : Nat} {Q : Option Value → Heap → List Loc → Prop} (hw : ∀ d ∈ tables_1, d.before a0 Z = true) (hx : p.tables.exec = Jvm.exec) (hby : c.code = method_2_code) (hml : c.maxLocals = 4) (hown : s.vm.findClass "com/example/waypost/waypost/model/DrawsNextPinLaw" = some m.cls) (hZ : Z.Warmed39 s.vm) (hret : meth.sig.returnType = some .long) (hlk : meth.locks = false) (X0 : Stand p l e ({ frames := 0, cells := 0, slots := 0, locals := 0 } : Room) s m args below meth c T0 locs cells slots) (e0 : T0.heap = h0) (hc : cells ≤ ({ frames := 0, cells := 0, slots := 0, locals := 0 } : Room).cells) (hs : slots ≤ ({ frames := 0, cells := 0, slots := 0, locals := 0 } : Room).slots) (v0 : Int64) (hq : Q (some (.long (f4_0 v0))) h0 locs) :
    Go p e below s ({ frames := 0, cells := 0, slots := 0, locals := 0 } : Room).cells ({ frames := 0, cells := 0, slots := 0, locals := 0 } : Room).slots Q T0 (mkF m 0 #[.val (.long v0), .second, .unset, .unset] []) := by
  unfold f4_0 at hq
  refine go_step (T' := T0) (g' := (mkF m 1 #[.val (.long v0), .second, .unset, .unset] [(.long v0)])) (fun t k => XS.lloadN X0.here hx rfl (hb hby d4_0) rfl  k) ?_
  refine go_step (T' := T0) (g' := (mkF m 2 #[.val (.long v0), .second, .val (.long v0), .second] [])) (fun t k => XS.lstoreN X0.here hx rfl (hb hby d4_1) rfl (l' := #[.val (.long v0), .second, .val (.long v0), .second]) rfl k) ?_
  refine go_step (T' := T0) (g' := (mkF m 3 #[.val (.long v0), .second, .val (.long v0), .second] [(.long v0)])) (fun t k => XS.lloadN X0.here hx rfl (hb hby d4_2) rfl  k) ?_
  refine go_step (T' := T0) (g' := (mkF m 6 #[.val (.long v0), .second, .val (.long v0), .second] [(.long (2 : Int64)), (.long v0)])) (X0.ldc2Long hx hown (mvT hZ (hw _ (List.mem_of_getElem? (i := 24) rfl))) (g := (mkF m 3 #[.val (.long v0), .second, .val (.long v0), .second] [(.long v0)])) rfl (hb hby d4_3)) ?_
  refine go_step (T' := T0) (g' := (mkF m 7 #[.val (.long v0), .second, .val (.long v0), .second] [(.long v0), (.long (2 : Int64)), (.long v0)])) (fun t k => XS.lloadN X0.here hx rfl (hb hby d4_6) rfl  k) ?_
  refine go_step (T' := T0) (g' := (mkF m 8 #[.val (.long v0), .second, .val (.long v0), .second] [(.long v0), (.long v0), (.long (2 : Int64)), (.long v0)])) (fun t k => XS.lloadN X0.here hx rfl (hb hby d4_7) rfl  k) ?_
  refine go_step (T' := T0) (g' := (mkF m 9 #[.val (.long v0), .second, .val (.long v0), .second] [(.long (v0 * v0)), (.long (2 : Int64)), (.long v0)])) (fun t k => XS.lmul X0.here hx rfl (hb hby d4_8) rfl k) ?_
  refine go_step (T' := T0) (g' := (mkF m 10 #[.val (.long v0), .second, .val (.long v0), .second] [(.long ((2 : Int64) - (v0 * v0))), (.long v0)])) (fun t k => XS.lsub X0.here hx rfl (hb hby d4_9) rfl k) ?_
  refine go_step (T' := T0) (g' := (mkF m 11 #[.val (.long v0), .second, .val (.long v0), .second] [(.long (v0 * ((2 : Int64) - (v0 * v0))))])) (fun t k => XS.lmul X0.here hx rfl (hb hby d4_10) rfl k) ?_
  refine go_step (T' := T0) (g' := (mkF m 12 #[.val (.long v0), .second, .val (.long (v0 * ((2 : Int64) - (v0 * v0)))), .second] [])) (fun t k => XS.lstoreN X0.here hx rfl (hb hby d4_11) rfl (l' := #[.val (.long v0), .second, .val (.long (v0 * ((2 : Int64) - (v0 * v0)))), .second]) rfl k) ?_
  exact b4_12 hw hx hby hml hown hZ hret hlk X0 e0 hc hs v0 (v0 * ((2 : Int64) - (v0 * v0))) hq
theorem ef4 (m : MethodId) (v0 : Int64) : entryFrame m #[(.long v0)] 4 = (mkF m 0 #[.val (.long v0), .second, .unset, .unset] []) := by first | (simp [entryFrame, mkF, argsToLocals, Value.category]; done) | rfl
theorem pn4 : plainName "com/example/waypost/waypost/model/DrawsNextPinLaw" = true := by first | (simp [plainName, overriddenIn]; done) | decide +kernel
set_option maxRecDepth 65536 in
theorem mq4 (l : Launch) (Z : State) (a0 : Array Value) (hw : ∀ d ∈ tables_1, d.before a0 Z = true) (v0 : Int64) (h0 : Heap) : MQ l Z (⟨"com/example/waypost/waypost/model/DrawsNextPinLaw", "inv", "(J)J"⟩ : MethodName) method_2_code 4 (some .long) [] ({ frames := 0, cells := 0, slots := 0, locals := 0 } : Room) #[(.long v0)] h0 (QP (some (.long (f4_0 v0))) h0) := by
  refine mq_of (plainFor_of_name pn4) ?_
  intro p e s m below meth c T0 X0 hx hby hml hown hnm hZ e0 hret hlk
  rw [ef4]
  exact b4_0 hw hx hby hml hown hZ hret hlk X0 e0 (Nat.zero_le _) (Nat.zero_le _) v0 ⟨rfl, rfl, rfl⟩
theorem d5_0 : decode method_3_code 0 = .ok (.lload_n 0, 1) := by decide +kernel
theorem d5_1 : decode method_3_code 1 = .ok (.lload_n 0, 1) := by decide +kernel
theorem d5_2 : decode method_3_code 2 = .ok (.bipush 31, 2) := by decide +kernel
theorem d5_4 : decode method_3_code 4 = .ok (.lushr, 1) := by decide +kernel
theorem d5_5 : decode method_3_code 5 = .ok (.lxor, 1) := by decide +kernel
theorem d5_6 : decode method_3_code 6 = .ok (.lload_n 0, 1) := by decide +kernel
theorem d5_7 : decode method_3_code 7 = .ok (.bipush 62, 2) := by decide +kernel
theorem d5_9 : decode method_3_code 9 = .ok (.lushr, 1) := by decide +kernel
theorem d5_10 : decode method_3_code 10 = .ok (.lxor, 1) := by decide +kernel
theorem d5_11 : decode method_3_code 11 = .ok (.lstore_n 0, 1) := by decide +kernel
theorem d5_12 : decode method_3_code 12 = .ok (.lload_n 0, 1) := by decide +kernel
theorem d5_13 : decode method_3_code 13 = .ok (.ldc2_w 11, 3) := by decide +kernel
theorem d5_16 : decode method_3_code 16 = .ok (.invokestatic 13, 3) := by decide +kernel
theorem d5_19 : decode method_3_code 19 = .ok (.lmul, 1) := by decide +kernel
theorem d5_20 : decode method_3_code 20 = .ok (.lstore_n 0, 1) := by decide +kernel
theorem d5_21 : decode method_3_code 21 = .ok (.lload_n 0, 1) := by decide +kernel
theorem d5_22 : decode method_3_code 22 = .ok (.lload_n 0, 1) := by decide +kernel
theorem d5_23 : decode method_3_code 23 = .ok (.bipush 27, 2) := by decide +kernel
theorem d5_25 : decode method_3_code 25 = .ok (.lushr, 1) := by decide +kernel
theorem d5_26 : decode method_3_code 26 = .ok (.lxor, 1) := by decide +kernel
theorem d5_27 : decode method_3_code 27 = .ok (.lload_n 0, 1) := by decide +kernel
theorem d5_28 : decode method_3_code 28 = .ok (.bipush 54, 2) := by decide +kernel
theorem d5_30 : decode method_3_code 30 = .ok (.lushr, 1) := by decide +kernel
theorem d5_31 : decode method_3_code 31 = .ok (.lxor, 1) := by decide +kernel
theorem d5_32 : decode method_3_code 32 = .ok (.lstore_n 0, 1) := by decide +kernel
theorem d5_33 : decode method_3_code 33 = .ok (.lload_n 0, 1) := by decide +kernel
theorem d5_34 : decode method_3_code 34 = .ok (.ldc2_w 17, 3) := by decide +kernel
theorem d5_37 : decode method_3_code 37 = .ok (.invokestatic 13, 3) := by decide +kernel
theorem d5_40 : decode method_3_code 40 = .ok (.lmul, 1) := by decide +kernel
theorem d5_41 : decode method_3_code 41 = .ok (.lstore_n 0, 1) := by decide +kernel
theorem d5_42 : decode method_3_code 42 = .ok (.lload_n 0, 1) := by decide +kernel
theorem d5_43 : decode method_3_code 43 = .ok (.lload_n 0, 1) := by decide +kernel
theorem d5_44 : decode method_3_code 44 = .ok (.bipush 30, 2) := by decide +kernel
theorem d5_46 : decode method_3_code 46 = .ok (.lushr, 1) := by decide +kernel
theorem d5_47 : decode method_3_code 47 = .ok (.lxor, 1) := by decide +kernel
theorem d5_48 : decode method_3_code 48 = .ok (.lload_n 0, 1) := by decide +kernel
theorem d5_49 : decode method_3_code 49 = .ok (.bipush 60, 2) := by decide +kernel
theorem d5_51 : decode method_3_code 51 = .ok (.lushr, 1) := by decide +kernel
theorem d5_52 : decode method_3_code 52 = .ok (.lxor, 1) := by decide +kernel
theorem d5_53 : decode method_3_code 53 = .ok (.lstore_n 0, 1) := by decide +kernel
theorem d5_54 : decode method_3_code 54 = .ok (.lload_n 0, 1) := by decide +kernel
theorem d5_55 : decode method_3_code 55 = .ok (.lreturn, 1) := by decide +kernel
def f5_42 (v0 : Int64) : Int64 := ((v0 ^^^ (ushL v0 (30 : Int32))) ^^^ (ushL v0 (60 : Int32)))
set_option maxRecDepth 65536 in
set_option maxHeartbeats 4000000 in
theorem b5_42 {p : Program} {l : Launch} {e : Env} {s : State} {m : MethodId} {args : Array Value} {below : List Frame} {meth : Method} {c : Code} {T0 : State} {Z : State} {a0 : Array Value} {h0 : Heap} {locs : List Loc} {cells slots : Nat} {Q : Option Value → Heap → List Loc → Prop} (hw : ∀ d ∈ tables_1, d.before a0 Z = true) (hx : p.tables.exec = Jvm.exec) (hby : c.code = method_3_code) (hml : c.maxLocals = 2) (hown : s.vm.findClass "com/example/waypost/waypost/model/DrawsNextPinLaw" = some m.cls) (hZ : Z.Warmed39 s.vm) (hret : meth.sig.returnType = some .long) (hlk : meth.locks = false) (X0 : Stand p l e ({ frames := 1, cells := 0, slots := 0, locals := 17 } : Room) s m args below meth c T0 locs cells slots) (e0 : T0.heap = h0) (hc : cells ≤ ({ frames := 1, cells := 0, slots := 0, locals := 17 } : Room).cells) (hs : slots ≤ ({ frames := 1, cells := 0, slots := 0, locals := 17 } : Room).slots) (v0 : Int64) (hq : Q (some (.long (f5_42 v0))) h0 locs) :
    Go p e below s ({ frames := 1, cells := 0, slots := 0, locals := 17 } : Room).cells ({ frames := 1, cells := 0, slots := 0, locals := 17 } : Room).slots Q T0 (mkF m 42 #[.val (.long v0), .second] []) := by
  unfold f5_42 at hq
  refine go_step (T' := T0) (g' := (mkF m 43 #[.val (.long v0), .second] [(.long v0)])) (fun t k => XS.lloadN X0.here hx rfl (hb hby d5_42) rfl  k) ?_
  refine go_step (T' := T0) (g' := (mkF m 44 #[.val (.long v0), .second] [(.long v0), (.long v0)])) (fun t k => XS.lloadN X0.here hx rfl (hb hby d5_43) rfl  k) ?_
  refine go_step (T' := T0) (g' := (mkF m 46 #[.val (.long v0), .second] [(.int (30 : Int32)), (.long v0), (.long v0)])) (fun t k => XS.bipush X0.here hx rfl (hb hby d5_44) k) ?_
  refine go_step (T' := T0) (g' := (mkF m 47 #[.val (.long v0), .second] [(.long (ushL v0 (30 : Int32))), (.long v0)])) (fun t k => XS.lushr X0.here hx rfl (hb hby d5_46) rfl k) ?_
  refine go_step (T' := T0) (g' := (mkF m 48 #[.val (.long v0), .second] [(.long (v0 ^^^ (ushL v0 (30 : Int32))))])) (fun t k => XS.lxor X0.here hx rfl (hb hby d5_47) rfl k) ?_
  refine go_step (T' := T0) (g' := (mkF m 49 #[.val (.long v0), .second] [(.long v0), (.long (v0 ^^^ (ushL v0 (30 : Int32))))])) (fun t k => XS.lloadN X0.here hx rfl (hb hby d5_48) rfl  k) ?_
  refine go_step (T' := T0) (g' := (mkF m 51 #[.val (.long v0), .second] [(.int (60 : Int32)), (.long v0), (.long (v0 ^^^ (ushL v0 (30 : Int32))))])) (fun t k => XS.bipush X0.here hx rfl (hb hby d5_49) k) ?_
  refine go_step (T' := T0) (g' := (mkF m 52 #[.val (.long v0), .second] [(.long (ushL v0 (60 : Int32))), (.long (v0 ^^^ (ushL v0 (30 : Int32))))])) (fun t k => XS.lushr X0.here hx rfl (hb hby d5_51) rfl k) ?_
  refine go_step (T' := T0) (g' := (mkF m 53 #[.val (.long v0), .second] [(.long ((v0 ^^^ (ushL v0 (30 : Int32))) ^^^ (ushL v0 (60 : Int32))))])) (fun t k => XS.lxor X0.here hx rfl (hb hby d5_52) rfl k) ?_
  refine go_step (T' := T0) (g' := (mkF m 54 #[.val (.long ((v0 ^^^ (ushL v0 (30 : Int32))) ^^^ (ushL v0 (60 : Int32)))), .second] [])) (fun t k => XS.lstoreN X0.here hx rfl (hb hby d5_53) rfl (l' := #[.val (.long ((v0 ^^^ (ushL v0 (30 : Int32))) ^^^ (ushL v0 (60 : Int32)))), .second]) rfl k) ?_
  refine go_step (T' := T0) (g' := (mkF m 55 #[.val (.long ((v0 ^^^ (ushL v0 (30 : Int32))) ^^^ (ushL v0 (60 : Int32)))), .second] [(.long ((v0 ^^^ (ushL v0 (30 : Int32))) ^^^ (ushL v0 (60 : Int32))))])) (fun t k => XS.lloadN X0.here hx rfl (hb hby d5_54) rfl  k) ?_
  exact go_retJ X0 hx hlk hret (hb hby d5_55) e0 hq hc hs
def f5_33 (v0 : Int64) : Int64 := (f5_42 (v0 * (f4_0 (-4658895280553007687 : Int64))))
set_option maxRecDepth 65536 in
set_option maxHeartbeats 4000000 in
theorem b5_33 {p : Program} {l : Launch} {e : Env} {s : State} {m : MethodId} {args : Array Value} {below : List Frame} {meth : Method} {c : Code} {T0 : State} {Z : State} {a0 : Array Value} {h0 : Heap} {locs : List Loc} {cells slots : Nat} {Q : Option Value → Heap → List Loc → Prop} (hw : ∀ d ∈ tables_1, d.before a0 Z = true) (hx : p.tables.exec = Jvm.exec) (hby : c.code = method_3_code) (hml : c.maxLocals = 2) (hown : s.vm.findClass "com/example/waypost/waypost/model/DrawsNextPinLaw" = some m.cls) (hZ : Z.Warmed39 s.vm) (hret : meth.sig.returnType = some .long) (hlk : meth.locks = false) (X0 : Stand p l e ({ frames := 1, cells := 0, slots := 0, locals := 17 } : Room) s m args below meth c T0 locs cells slots) (e0 : T0.heap = h0) (hc : cells ≤ ({ frames := 1, cells := 0, slots := 0, locals := 17 } : Room).cells) (hs : slots ≤ ({ frames := 1, cells := 0, slots := 0, locals := 17 } : Room).slots) (v0 : Int64) (hq : Q (some (.long (f5_33 v0))) h0 locs) :
    Go p e below s ({ frames := 1, cells := 0, slots := 0, locals := 17 } : Room).cells ({ frames := 1, cells := 0, slots := 0, locals := 17 } : Room).slots Q T0 (mkF m 33 #[.val (.long v0), .second] []) := by
  unfold f5_33 at hq
  refine go_step (T' := T0) (g' := (mkF m 34 #[.val (.long v0), .second] [(.long v0)])) (fun t k => XS.lloadN X0.here hx rfl (hb hby d5_33) rfl  k) ?_
  refine go_step (T' := T0) (g' := (mkF m 37 #[.val (.long v0), .second] [(.long (-4658895280553007687 : Int64)), (.long v0)])) (X0.ldc2Long hx hown (mvT hZ (hw _ (List.mem_of_getElem? (i := 19) rfl))) (g := (mkF m 34 #[.val (.long v0), .second] [(.long v0)])) rfl (hb hby d5_34)) ?_
  refine go_callSP X0 hx hZ hown (hw _ (List.mem_of_getElem? (i := 20) rfl)) (hw _ (List.mem_of_getElem? (i := 21) rfl)) (hw _ (List.mem_of_getElem? (i := 22) rfl)) (hw _ (List.mem_of_getElem? (i := 23) rfl)) (by decide) e0 (mq4 l Z a0 hw (-4658895280553007687 : Int64) h0) 2 (by decide) (by decide) (g := (mkF m 37 #[.val (.long v0), .second] [(.long (-4658895280553007687 : Int64)), (.long v0)])) rfl (by rw [hml]; rfl) (argsL := [(.long (-4658895280553007687 : Int64))]) (rest := [(.long v0)]) (lenOf pd_0 rfl) rfl (by show 2 * 0 + _ ≤ _; exact Nat.le_of_eq rfl) (hb hby d5_37) rfl rfl rfl hc hs (fun T1 X1 e1 => ?_)
  show Go p e below s _ _ _ T1 (mkF m 40 #[.val (.long v0), .second] [(.long (f4_0 (-4658895280553007687 : Int64))), (.long v0)])
  refine go_step (T' := T1) (g' := (mkF m 41 #[.val (.long v0), .second] [(.long (v0 * (f4_0 (-4658895280553007687 : Int64))))])) (fun t k => XS.lmul X1.here hx rfl (hb hby d5_40) rfl k) ?_
  refine go_step (T' := T1) (g' := (mkF m 42 #[.val (.long (v0 * (f4_0 (-4658895280553007687 : Int64)))), .second] [])) (fun t k => XS.lstoreN X1.here hx rfl (hb hby d5_41) rfl (l' := #[.val (.long (v0 * (f4_0 (-4658895280553007687 : Int64)))), .second]) rfl k) ?_
  exact b5_42 hw hx hby hml hown hZ hret hlk X1 e1 hc hs (v0 * (f4_0 (-4658895280553007687 : Int64))) hq
def f5_21 (v0 : Int64) : Int64 := (f5_33 ((v0 ^^^ (ushL v0 (27 : Int32))) ^^^ (ushL v0 (54 : Int32))))
set_option maxRecDepth 65536 in
set_option maxHeartbeats 4000000 in
theorem b5_21 {p : Program} {l : Launch} {e : Env} {s : State} {m : MethodId} {args : Array Value} {below : List Frame} {meth : Method} {c : Code} {T0 : State} {Z : State} {a0 : Array Value} {h0 : Heap} {locs : List Loc} {cells slots : Nat} {Q : Option Value → Heap → List Loc → Prop} (hw : ∀ d ∈ tables_1, d.before a0 Z = true) (hx : p.tables.exec = Jvm.exec) (hby : c.code = method_3_code) (hml : c.maxLocals = 2) (hown : s.vm.findClass "com/example/waypost/waypost/model/DrawsNextPinLaw" = some m.cls) (hZ : Z.Warmed39 s.vm) (hret : meth.sig.returnType = some .long) (hlk : meth.locks = false) (X0 : Stand p l e ({ frames := 1, cells := 0, slots := 0, locals := 17 } : Room) s m args below meth c T0 locs cells slots) (e0 : T0.heap = h0) (hc : cells ≤ ({ frames := 1, cells := 0, slots := 0, locals := 17 } : Room).cells) (hs : slots ≤ ({ frames := 1, cells := 0, slots := 0, locals := 17 } : Room).slots) (v0 : Int64) (hq : Q (some (.long (f5_21 v0))) h0 locs) :
    Go p e below s ({ frames := 1, cells := 0, slots := 0, locals := 17 } : Room).cells ({ frames := 1, cells := 0, slots := 0, locals := 17 } : Room).slots Q T0 (mkF m 21 #[.val (.long v0), .second] []) := by
  unfold f5_21 at hq
  refine go_step (T' := T0) (g' := (mkF m 22 #[.val (.long v0), .second] [(.long v0)])) (fun t k => XS.lloadN X0.here hx rfl (hb hby d5_21) rfl  k) ?_
  refine go_step (T' := T0) (g' := (mkF m 23 #[.val (.long v0), .second] [(.long v0), (.long v0)])) (fun t k => XS.lloadN X0.here hx rfl (hb hby d5_22) rfl  k) ?_
  refine go_step (T' := T0) (g' := (mkF m 25 #[.val (.long v0), .second] [(.int (27 : Int32)), (.long v0), (.long v0)])) (fun t k => XS.bipush X0.here hx rfl (hb hby d5_23) k) ?_
  refine go_step (T' := T0) (g' := (mkF m 26 #[.val (.long v0), .second] [(.long (ushL v0 (27 : Int32))), (.long v0)])) (fun t k => XS.lushr X0.here hx rfl (hb hby d5_25) rfl k) ?_
  refine go_step (T' := T0) (g' := (mkF m 27 #[.val (.long v0), .second] [(.long (v0 ^^^ (ushL v0 (27 : Int32))))])) (fun t k => XS.lxor X0.here hx rfl (hb hby d5_26) rfl k) ?_
  refine go_step (T' := T0) (g' := (mkF m 28 #[.val (.long v0), .second] [(.long v0), (.long (v0 ^^^ (ushL v0 (27 : Int32))))])) (fun t k => XS.lloadN X0.here hx rfl (hb hby d5_27) rfl  k) ?_
  refine go_step (T' := T0) (g' := (mkF m 30 #[.val (.long v0), .second] [(.int (54 : Int32)), (.long v0), (.long (v0 ^^^ (ushL v0 (27 : Int32))))])) (fun t k => XS.bipush X0.here hx rfl (hb hby d5_28) k) ?_
  refine go_step (T' := T0) (g' := (mkF m 31 #[.val (.long v0), .second] [(.long (ushL v0 (54 : Int32))), (.long (v0 ^^^ (ushL v0 (27 : Int32))))])) (fun t k => XS.lushr X0.here hx rfl (hb hby d5_30) rfl k) ?_
  refine go_step (T' := T0) (g' := (mkF m 32 #[.val (.long v0), .second] [(.long ((v0 ^^^ (ushL v0 (27 : Int32))) ^^^ (ushL v0 (54 : Int32))))])) (fun t k => XS.lxor X0.here hx rfl (hb hby d5_31) rfl k) ?_
  refine go_step (T' := T0) (g' := (mkF m 33 #[.val (.long ((v0 ^^^ (ushL v0 (27 : Int32))) ^^^ (ushL v0 (54 : Int32)))), .second] [])) (fun t k => XS.lstoreN X0.here hx rfl (hb hby d5_32) rfl (l' := #[.val (.long ((v0 ^^^ (ushL v0 (27 : Int32))) ^^^ (ushL v0 (54 : Int32)))), .second]) rfl k) ?_
  exact b5_33 hw hx hby hml hown hZ hret hlk X0 e0 hc hs ((v0 ^^^ (ushL v0 (27 : Int32))) ^^^ (ushL v0 (54 : Int32))) hq
def f5_12 (v0 : Int64) : Int64 := (f5_21 (v0 * (f4_0 (-7723592293110705685 : Int64))))
set_option maxRecDepth 65536 in
set_option maxHeartbeats 4000000 in
theorem b5_12 {p : Program} {l : Launch} {e : Env} {s : State} {m : MethodId} {args : Array Value} {below : List Frame} {meth : Method} {c : Code} {T0 : State} {Z : State} {a0 : Array Value} {h0 : Heap} {locs : List Loc} {cells slots : Nat} {Q : Option Value → Heap → List Loc → Prop} (hw : ∀ d ∈ tables_1, d.before a0 Z = true) (hx : p.tables.exec = Jvm.exec) (hby : c.code = method_3_code) (hml : c.maxLocals = 2) (hown : s.vm.findClass "com/example/waypost/waypost/model/DrawsNextPinLaw" = some m.cls) (hZ : Z.Warmed39 s.vm) (hret : meth.sig.returnType = some .long) (hlk : meth.locks = false) (X0 : Stand p l e ({ frames := 1, cells := 0, slots := 0, locals := 17 } : Room) s m args below meth c T0 locs cells slots) (e0 : T0.heap = h0) (hc : cells ≤ ({ frames := 1, cells := 0, slots := 0, locals := 17 } : Room).cells) (hs : slots ≤ ({ frames := 1, cells := 0, slots := 0, locals := 17 } : Room).slots) (v0 : Int64) (hq : Q (some (.long (f5_12 v0))) h0 locs) :
    Go p e below s ({ frames := 1, cells := 0, slots := 0, locals := 17 } : Room).cells ({ frames := 1, cells := 0, slots := 0, locals := 17 } : Room).slots Q T0 (mkF m 12 #[.val (.long v0), .second] []) := by
  unfold f5_12 at hq
  refine go_step (T' := T0) (g' := (mkF m 13 #[.val (.long v0), .second] [(.long v0)])) (fun t k => XS.lloadN X0.here hx rfl (hb hby d5_12) rfl  k) ?_
  refine go_step (T' := T0) (g' := (mkF m 16 #[.val (.long v0), .second] [(.long (-7723592293110705685 : Int64)), (.long v0)])) (X0.ldc2Long hx hown (mvT hZ (hw _ (List.mem_of_getElem? (i := 25) rfl))) (g := (mkF m 13 #[.val (.long v0), .second] [(.long v0)])) rfl (hb hby d5_13)) ?_
  refine go_callSP X0 hx hZ hown (hw _ (List.mem_of_getElem? (i := 20) rfl)) (hw _ (List.mem_of_getElem? (i := 21) rfl)) (hw _ (List.mem_of_getElem? (i := 22) rfl)) (hw _ (List.mem_of_getElem? (i := 23) rfl)) (by decide) e0 (mq4 l Z a0 hw (-7723592293110705685 : Int64) h0) 2 (by decide) (by decide) (g := (mkF m 16 #[.val (.long v0), .second] [(.long (-7723592293110705685 : Int64)), (.long v0)])) rfl (by rw [hml]; rfl) (argsL := [(.long (-7723592293110705685 : Int64))]) (rest := [(.long v0)]) (lenOf pd_0 rfl) rfl (by show 2 * 0 + _ ≤ _; exact Nat.le_of_eq rfl) (hb hby d5_16) rfl rfl rfl hc hs (fun T1 X1 e1 => ?_)
  show Go p e below s _ _ _ T1 (mkF m 19 #[.val (.long v0), .second] [(.long (f4_0 (-7723592293110705685 : Int64))), (.long v0)])
  refine go_step (T' := T1) (g' := (mkF m 20 #[.val (.long v0), .second] [(.long (v0 * (f4_0 (-7723592293110705685 : Int64))))])) (fun t k => XS.lmul X1.here hx rfl (hb hby d5_19) rfl k) ?_
  refine go_step (T' := T1) (g' := (mkF m 21 #[.val (.long (v0 * (f4_0 (-7723592293110705685 : Int64)))), .second] [])) (fun t k => XS.lstoreN X1.here hx rfl (hb hby d5_20) rfl (l' := #[.val (.long (v0 * (f4_0 (-7723592293110705685 : Int64)))), .second]) rfl k) ?_
  exact b5_21 hw hx hby hml hown hZ hret hlk X1 e1 hc hs (v0 * (f4_0 (-7723592293110705685 : Int64))) hq
def f5_0 (v0 : Int64) : Int64 := (f5_12 ((v0 ^^^ (ushL v0 (31 : Int32))) ^^^ (ushL v0 (62 : Int32))))
set_option maxRecDepth 65536 in
set_option maxHeartbeats 4000000 in
theorem b5_0 {p : Program} {l : Launch} {e : Env} {s : State} {m : MethodId} {args : Array Value} {below : List Frame} {meth : Method} {c : Code} {T0 : State} {Z : State} {a0 : Array Value} {h0 : Heap} {locs : List Loc} {cells slots : Nat} {Q : Option Value → Heap → List Loc → Prop} (hw : ∀ d ∈ tables_1, d.before a0 Z = true) (hx : p.tables.exec = Jvm.exec) (hby : c.code = method_3_code) (hml : c.maxLocals = 2) (hown : s.vm.findClass "com/example/waypost/waypost/model/DrawsNextPinLaw" = some m.cls) (hZ : Z.Warmed39 s.vm) (hret : meth.sig.returnType = some .long) (hlk : meth.locks = false) (X0 : Stand p l e ({ frames := 1, cells := 0, slots := 0, locals := 17 } : Room) s m args below meth c T0 locs cells slots) (e0 : T0.heap = h0) (hc : cells ≤ ({ frames := 1, cells := 0, slots := 0, locals := 17 } : Room).cells) (hs : slots ≤ ({ frames := 1, cells := 0, slots := 0, locals := 17 } : Room).slots) (v0 : Int64) (hq : Q (some (.long (f5_0 v0))) h0 locs) :
    Go p e below s ({ frames := 1, cells := 0, slots := 0, locals := 17 } : Room).cells ({ frames := 1, cells := 0, slots := 0, locals := 17 } : Room).slots Q T0 (mkF m 0 #[.val (.long v0), .second] []) := by
  unfold f5_0 at hq
  refine go_step (T' := T0) (g' := (mkF m 1 #[.val (.long v0), .second] [(.long v0)])) (fun t k => XS.lloadN X0.here hx rfl (hb hby d5_0) rfl  k) ?_
  refine go_step (T' := T0) (g' := (mkF m 2 #[.val (.long v0), .second] [(.long v0), (.long v0)])) (fun t k => XS.lloadN X0.here hx rfl (hb hby d5_1) rfl  k) ?_
  refine go_step (T' := T0) (g' := (mkF m 4 #[.val (.long v0), .second] [(.int (31 : Int32)), (.long v0), (.long v0)])) (fun t k => XS.bipush X0.here hx rfl (hb hby d5_2) k) ?_
  refine go_step (T' := T0) (g' := (mkF m 5 #[.val (.long v0), .second] [(.long (ushL v0 (31 : Int32))), (.long v0)])) (fun t k => XS.lushr X0.here hx rfl (hb hby d5_4) rfl k) ?_
  refine go_step (T' := T0) (g' := (mkF m 6 #[.val (.long v0), .second] [(.long (v0 ^^^ (ushL v0 (31 : Int32))))])) (fun t k => XS.lxor X0.here hx rfl (hb hby d5_5) rfl k) ?_
  refine go_step (T' := T0) (g' := (mkF m 7 #[.val (.long v0), .second] [(.long v0), (.long (v0 ^^^ (ushL v0 (31 : Int32))))])) (fun t k => XS.lloadN X0.here hx rfl (hb hby d5_6) rfl  k) ?_
  refine go_step (T' := T0) (g' := (mkF m 9 #[.val (.long v0), .second] [(.int (62 : Int32)), (.long v0), (.long (v0 ^^^ (ushL v0 (31 : Int32))))])) (fun t k => XS.bipush X0.here hx rfl (hb hby d5_7) k) ?_
  refine go_step (T' := T0) (g' := (mkF m 10 #[.val (.long v0), .second] [(.long (ushL v0 (62 : Int32))), (.long (v0 ^^^ (ushL v0 (31 : Int32))))])) (fun t k => XS.lushr X0.here hx rfl (hb hby d5_9) rfl k) ?_
  refine go_step (T' := T0) (g' := (mkF m 11 #[.val (.long v0), .second] [(.long ((v0 ^^^ (ushL v0 (31 : Int32))) ^^^ (ushL v0 (62 : Int32))))])) (fun t k => XS.lxor X0.here hx rfl (hb hby d5_10) rfl k) ?_
  refine go_step (T' := T0) (g' := (mkF m 12 #[.val (.long ((v0 ^^^ (ushL v0 (31 : Int32))) ^^^ (ushL v0 (62 : Int32)))), .second] [])) (fun t k => XS.lstoreN X0.here hx rfl (hb hby d5_11) rfl (l' := #[.val (.long ((v0 ^^^ (ushL v0 (31 : Int32))) ^^^ (ushL v0 (62 : Int32)))), .second]) rfl k) ?_
  exact b5_12 hw hx hby hml hown hZ hret hlk X0 e0 hc hs ((v0 ^^^ (ushL v0 (31 : Int32))) ^^^ (ushL v0 (62 : Int32))) hq
theorem ef5 (m : MethodId) (v0 : Int64) : entryFrame m #[(.long v0)] 2 = (mkF m 0 #[.val (.long v0), .second] []) := by first | (simp [entryFrame, mkF, argsToLocals, Value.category]; done) | rfl
theorem pn5 : plainName "com/example/waypost/waypost/model/DrawsNextPinLaw" = true := by first | (simp [plainName, overriddenIn]; done) | decide +kernel
set_option maxRecDepth 65536 in
theorem mq5 (l : Launch) (Z : State) (a0 : Array Value) (hw : ∀ d ∈ tables_1, d.before a0 Z = true) (v0 : Int64) (h0 : Heap) : MQ l Z (⟨"com/example/waypost/waypost/model/DrawsNextPinLaw", "unmix", "(J)J"⟩ : MethodName) method_3_code 2 (some .long) [] ({ frames := 1, cells := 0, slots := 0, locals := 17 } : Room) #[(.long v0)] h0 (QP (some (.long (f5_0 v0))) h0) := by
  refine mq_of (plainFor_of_name pn5) ?_
  intro p e s m below meth c T0 X0 hx hby hml hown hnm hZ e0 hret hlk
  rw [ef5]
  exact b5_0 hw hx hby hml hown hZ hret hlk X0 e0 (Nat.zero_le _) (Nat.zero_le _) v0 ⟨rfl, rfl, rfl⟩
def f0_55 (v0 : Int64) (v3 : Int64) (v5 : Int64) (t0 : Int32) : Int32 := (if t0 = (0 : Int32) then (0 : Int32) else (if (f5_0 v3) = (v0 + (-7046029254386353131 : Int64)) then (if (f5_0 v5) = ((v0 + (-7046029254386353131 : Int64)) + (-7046029254386353131 : Int64)) then (1 : Int32) else (0 : Int32)) else (0 : Int32)))
set_option maxRecDepth 65536 in
set_option maxHeartbeats 4000000 in
theorem b0_55 {p : Program} {l : Launch} {e : Env} {s : State} {m : MethodId} {args : Array Value} {below : List Frame} {meth : Method} {c : Code} {T0 : State} {Z : State} {a0 : Array Value} {h0 : Heap} {locs : List Loc} {cells slots : Nat} {Q : Option Value → Heap → List Loc → Prop} (hw : ∀ d ∈ tables_1, d.before a0 Z = true) (hx : p.tables.exec = Jvm.exec) (hby : c.code = code) (hml : c.maxLocals = 8) (hown : s.vm.findClass "com/example/waypost/waypost/model/DrawsNextPinLaw" = some m.cls) (hZ : Z.Warmed39 s.vm) (hret : meth.sig.returnType = some .boolean) (hlk : meth.locks = false) (X0 : Stand p l e room_1 s m args below meth c T0 locs cells slots) (e0 : T0.heap = h0) (hc : cells ≤ room_1.cells) (hs : slots ≤ room_1.slots) (v0 : Int64) (o2 : Slot) (ho2 : One o2) (v3 : Int64) (v5 : Int64) (t0 : Int32) (hq : Q (some (.int (f0_55 v0 v3 v5 t0))) h0 locs) :
    Go p e below s room_1.cells room_1.slots Q T0 (mkF m 55 #[.val (.long v0), .second, o2, .val (.long v3), .second, .val (.long v5), .second, .unset] [(.int t0)]) := by
  unfold f0_55 at hq
  refine go_step (T' := T0) (g' := (mkF m 57 #[.val (.long v0), .second, o2, .val (.long v3), .second, .val (.long v5), .second, .val (.int t0)] [])) (fun t k => XS.istore X0.here hx rfl (hb hby at_55) rfl (l' := #[.val (.long v0), .second, o2, .val (.long v3), .second, .val (.long v5), .second, .val (.int t0)]) rfl k) ?_
  refine go_step (T' := T0) (g' := (mkF m 59 #[.val (.long v0), .second, o2, .val (.long v3), .second, .val (.long v5), .second, .val (.int t0)] [(.int t0)])) (fun t k => XS.iload X0.here hx rfl (hb hby at_57) rfl  k) ?_
  by_cases hc0 : t0 = (0 : Int32)
  · rw [if_pos hc0] at hq
    refine go_step (T' := T0) (g' := (mkF m 97 #[.val (.long v0), .second, o2, .val (.long v3), .second, .val (.long v5), .second, .val (.int t0)] [])) (fun t k => XS.ifYes X0.here hx rfl (pc0 := 59) (pc' := 97) rfl (hb hby at_59) rfl ((if0 _ _).trans (teq hc0).1) (by decide) (by decide) k) ?_
    refine go_step (T' := T0) (g' := (mkF m 98 #[.val (.long v0), .second, o2, .val (.long v3), .second, .val (.long v5), .second, .val (.int t0)] [(.int (0 : Int32))])) (fun t k => XS.iconst X0.here hx rfl (hb hby at_97) k) ?_
    exact go_retZ X0 hx hlk hret (hb hby at_98) e0 hq hc hs
  · rw [if_neg hc0] at hq
    refine go_step (T' := T0) (g' := (mkF m 62 #[.val (.long v0), .second, o2, .val (.long v3), .second, .val (.long v5), .second, .val (.int t0)] [])) (fun t k => XS.ifNo X0.here hx rfl (hb hby at_59) rfl ((if0 _ _).trans (feq hc0).1) k) ?_
    refine go_step (T' := T0) (g' := (mkF m 63 #[.val (.long v0), .second, o2, .val (.long v3), .second, .val (.long v5), .second, .val (.int t0)] [(.long v3)])) (fun t k => XS.lloadN X0.here hx rfl (hb hby at_62) rfl  k) ?_
    refine go_callSP X0 hx hZ hown (hw _ (List.mem_of_getElem? (i := 26) rfl)) (hw _ (List.mem_of_getElem? (i := 27) rfl)) (hw _ (List.mem_of_getElem? (i := 22) rfl)) (hw _ (List.mem_of_getElem? (i := 28) rfl)) (by decide) e0 (mq5 l Z a0 hw v3 h0) 0 (by decide) (by decide) (g := (mkF m 63 #[.val (.long v0), .second, o2, .val (.long v3), .second, .val (.long v5), .second, .val (.int t0)] [(.long v3)])) rfl (by rw [hml]; rfl) (argsL := [(.long v3)]) (rest := []) (lenOf pd_0 rfl) rfl (by show 2 * 0 + _ ≤ _; exact Nat.le_of_eq rfl) (hb hby at_63) rfl rfl rfl hc hs (fun T2 X2 e2 => ?_)
    show Go p e below s _ _ _ T2 (mkF m 66 #[.val (.long v0), .second, o2, .val (.long v3), .second, .val (.long v5), .second, .val (.int t0)] [(.long (f5_0 v3))])
    refine go_step (T' := T2) (g' := (mkF m 67 #[.val (.long v0), .second, o2, .val (.long v3), .second, .val (.long v5), .second, .val (.int t0)] [(.long v0), (.long (f5_0 v3))])) (fun t k => XS.lloadN X2.here hx rfl (hb hby at_66) rfl  k) ?_
    refine go_step (T' := T2) (g' := (mkF m 70 #[.val (.long v0), .second, o2, .val (.long v3), .second, .val (.long v5), .second, .val (.int t0)] [(.long (-7046029254386353131 : Int64)), (.long v0), (.long (f5_0 v3))])) (X2.ldc2Long hx hown (mvT hZ (hw _ (List.mem_of_getElem? (i := 29) rfl))) (g := (mkF m 67 #[.val (.long v0), .second, o2, .val (.long v3), .second, .val (.long v5), .second, .val (.int t0)] [(.long v0), (.long (f5_0 v3))])) rfl (hb hby at_67)) ?_
    refine go_step (T' := T2) (g' := (mkF m 71 #[.val (.long v0), .second, o2, .val (.long v3), .second, .val (.long v5), .second, .val (.int t0)] [(.long (v0 + (-7046029254386353131 : Int64))), (.long (f5_0 v3))])) (fun t k => XS.ladd X2.here hx rfl (hb hby at_70) rfl k) ?_
    refine go_step (T' := T2) (g' := (mkF m 72 #[.val (.long v0), .second, o2, .val (.long v3), .second, .val (.long v5), .second, .val (.int t0)] [(.int (lcmpW (f5_0 v3) (v0 + (-7046029254386353131 : Int64))))])) (fun t k => XS.lcmp X2.here hx rfl (hb hby at_71) rfl k) ?_
    by_cases hc2 : (f5_0 v3) = (v0 + (-7046029254386353131 : Int64))
    · rw [if_pos hc2] at hq
      refine go_step (T' := T2) (g' := (mkF m 75 #[.val (.long v0), .second, o2, .val (.long v3), .second, .val (.long v5), .second, .val (.int t0)] [])) (fun t k => XS.ifNo X2.here hx rfl (hb hby at_72) rfl ((if0 _ _).trans (teq ((lw_eq _ _).mpr hc2)).2) k) ?_
      refine go_step (T' := T2) (g' := (mkF m 77 #[.val (.long v0), .second, o2, .val (.long v3), .second, .val (.long v5), .second, .val (.int t0)] [(.long v5)])) (fun t k => XS.lload X2.here hx rfl (hb hby at_75) rfl  k) ?_
      refine go_callSP X2 hx hZ hown (hw _ (List.mem_of_getElem? (i := 26) rfl)) (hw _ (List.mem_of_getElem? (i := 27) rfl)) (hw _ (List.mem_of_getElem? (i := 22) rfl)) (hw _ (List.mem_of_getElem? (i := 28) rfl)) (by decide) e2 (mq5 l Z a0 hw v5 h0) 0 (by decide) (by decide) (g := (mkF m 77 #[.val (.long v0), .second, o2, .val (.long v3), .second, .val (.long v5), .second, .val (.int t0)] [(.long v5)])) rfl (by rw [hml]; rfl) (argsL := [(.long v5)]) (rest := []) (lenOf pd_0 rfl) rfl (by show 2 * 0 + _ ≤ _; exact Nat.le_of_eq rfl) (hb hby at_77) rfl rfl rfl hc hs (fun T4 X4 e4 => ?_)
      show Go p e below s _ _ _ T4 (mkF m 80 #[.val (.long v0), .second, o2, .val (.long v3), .second, .val (.long v5), .second, .val (.int t0)] [(.long (f5_0 v5))])
      refine go_step (T' := T4) (g' := (mkF m 81 #[.val (.long v0), .second, o2, .val (.long v3), .second, .val (.long v5), .second, .val (.int t0)] [(.long v0), (.long (f5_0 v5))])) (fun t k => XS.lloadN X4.here hx rfl (hb hby at_80) rfl  k) ?_
      refine go_step (T' := T4) (g' := (mkF m 84 #[.val (.long v0), .second, o2, .val (.long v3), .second, .val (.long v5), .second, .val (.int t0)] [(.long (-7046029254386353131 : Int64)), (.long v0), (.long (f5_0 v5))])) (X4.ldc2Long hx hown (mvT hZ (hw _ (List.mem_of_getElem? (i := 29) rfl))) (g := (mkF m 81 #[.val (.long v0), .second, o2, .val (.long v3), .second, .val (.long v5), .second, .val (.int t0)] [(.long v0), (.long (f5_0 v5))])) rfl (hb hby at_81)) ?_
      refine go_step (T' := T4) (g' := (mkF m 85 #[.val (.long v0), .second, o2, .val (.long v3), .second, .val (.long v5), .second, .val (.int t0)] [(.long (v0 + (-7046029254386353131 : Int64))), (.long (f5_0 v5))])) (fun t k => XS.ladd X4.here hx rfl (hb hby at_84) rfl k) ?_
      refine go_step (T' := T4) (g' := (mkF m 88 #[.val (.long v0), .second, o2, .val (.long v3), .second, .val (.long v5), .second, .val (.int t0)] [(.long (-7046029254386353131 : Int64)), (.long (v0 + (-7046029254386353131 : Int64))), (.long (f5_0 v5))])) (X4.ldc2Long hx hown (mvT hZ (hw _ (List.mem_of_getElem? (i := 29) rfl))) (g := (mkF m 85 #[.val (.long v0), .second, o2, .val (.long v3), .second, .val (.long v5), .second, .val (.int t0)] [(.long (v0 + (-7046029254386353131 : Int64))), (.long (f5_0 v5))])) rfl (hb hby at_85)) ?_
      refine go_step (T' := T4) (g' := (mkF m 89 #[.val (.long v0), .second, o2, .val (.long v3), .second, .val (.long v5), .second, .val (.int t0)] [(.long ((v0 + (-7046029254386353131 : Int64)) + (-7046029254386353131 : Int64))), (.long (f5_0 v5))])) (fun t k => XS.ladd X4.here hx rfl (hb hby at_88) rfl k) ?_
      refine go_step (T' := T4) (g' := (mkF m 90 #[.val (.long v0), .second, o2, .val (.long v3), .second, .val (.long v5), .second, .val (.int t0)] [(.int (lcmpW (f5_0 v5) ((v0 + (-7046029254386353131 : Int64)) + (-7046029254386353131 : Int64))))])) (fun t k => XS.lcmp X4.here hx rfl (hb hby at_89) rfl k) ?_
      by_cases hc4 : (f5_0 v5) = ((v0 + (-7046029254386353131 : Int64)) + (-7046029254386353131 : Int64))
      · rw [if_pos hc4] at hq
        refine go_step (T' := T4) (g' := (mkF m 93 #[.val (.long v0), .second, o2, .val (.long v3), .second, .val (.long v5), .second, .val (.int t0)] [])) (fun t k => XS.ifNo X4.here hx rfl (hb hby at_90) rfl ((if0 _ _).trans (teq ((lw_eq _ _).mpr hc4)).2) k) ?_
        refine go_step (T' := T4) (g' := (mkF m 94 #[.val (.long v0), .second, o2, .val (.long v3), .second, .val (.long v5), .second, .val (.int t0)] [(.int (1 : Int32))])) (fun t k => XS.iconst X4.here hx rfl (hb hby at_93) k) ?_
        refine go_step (T' := T4) (g' := (mkF m 98 #[.val (.long v0), .second, o2, .val (.long v3), .second, .val (.long v5), .second, .val (.int t0)] [(.int (1 : Int32))])) (fun t k => XS.goto X4.here hx rfl (pc0 := 94) (pc' := 98) rfl (hb hby at_94) (by decide) (by decide) k) ?_
        exact go_retZ X4 hx hlk hret (hb hby at_98) e4 hq hc hs
      · rw [if_neg hc4] at hq
        refine go_step (T' := T4) (g' := (mkF m 97 #[.val (.long v0), .second, o2, .val (.long v3), .second, .val (.long v5), .second, .val (.int t0)] [])) (fun t k => XS.ifYes X4.here hx rfl (pc0 := 90) (pc' := 97) rfl (hb hby at_90) rfl ((if0 _ _).trans (feq (fun q => hc4 ((lw_eq _ _).mp q))).2) (by decide) (by decide) k) ?_
        refine go_step (T' := T4) (g' := (mkF m 98 #[.val (.long v0), .second, o2, .val (.long v3), .second, .val (.long v5), .second, .val (.int t0)] [(.int (0 : Int32))])) (fun t k => XS.iconst X4.here hx rfl (hb hby at_97) k) ?_
        exact go_retZ X4 hx hlk hret (hb hby at_98) e4 hq hc hs
    · rw [if_neg hc2] at hq
      refine go_step (T' := T2) (g' := (mkF m 97 #[.val (.long v0), .second, o2, .val (.long v3), .second, .val (.long v5), .second, .val (.int t0)] [])) (fun t k => XS.ifYes X2.here hx rfl (pc0 := 72) (pc' := 97) rfl (hb hby at_72) rfl ((if0 _ _).trans (feq (fun q => hc2 ((lw_eq _ _).mp q))).2) (by decide) (by decide) k) ?_
      refine go_step (T' := T2) (g' := (mkF m 98 #[.val (.long v0), .second, o2, .val (.long v3), .second, .val (.long v5), .second, .val (.int t0)] [(.int (0 : Int32))])) (fun t k => XS.iconst X2.here hx rfl (hb hby at_97) k) ?_
      exact go_retZ X2 hx hlk hret (hb hby at_98) e2 hq hc hs
def f0_54 (v0 : Int64) (v3 : Int64) (v5 : Int64) : Int32 := (f0_55 v0 v3 v5 (0 : Int32))
set_option maxRecDepth 65536 in
set_option maxHeartbeats 4000000 in
theorem b0_54 {p : Program} {l : Launch} {e : Env} {s : State} {m : MethodId} {args : Array Value} {below : List Frame} {meth : Method} {c : Code} {T0 : State} {Z : State} {a0 : Array Value} {h0 : Heap} {locs : List Loc} {cells slots : Nat} {Q : Option Value → Heap → List Loc → Prop} (hw : ∀ d ∈ tables_1, d.before a0 Z = true) (hx : p.tables.exec = Jvm.exec) (hby : c.code = code) (hml : c.maxLocals = 8) (hown : s.vm.findClass "com/example/waypost/waypost/model/DrawsNextPinLaw" = some m.cls) (hZ : Z.Warmed39 s.vm) (hret : meth.sig.returnType = some .boolean) (hlk : meth.locks = false) (X0 : Stand p l e room_1 s m args below meth c T0 locs cells slots) (e0 : T0.heap = h0) (hc : cells ≤ room_1.cells) (hs : slots ≤ room_1.slots) (v0 : Int64) (o2 : Slot) (ho2 : One o2) (v3 : Int64) (v5 : Int64) (hq : Q (some (.int (f0_54 v0 v3 v5))) h0 locs) :
    Go p e below s room_1.cells room_1.slots Q T0 (mkF m 54 #[.val (.long v0), .second, o2, .val (.long v3), .second, .val (.long v5), .second, .unset] []) := by
  unfold f0_54 at hq
  refine go_step (T' := T0) (g' := (mkF m 55 #[.val (.long v0), .second, o2, .val (.long v3), .second, .val (.long v5), .second, .unset] [(.int (0 : Int32))])) (fun t k => XS.iconst X0.here hx rfl (hb hby at_54) k) ?_
  exact b0_55 hw hx hby hml hown hZ hret hlk X0 e0 hc hs v0 (o2) ho2 v3 v5 (0 : Int32) hq
def f0_20 (v0 : Int64) (v3 : Int64) (v5 : Int64) : Int32 := (if ((-4658895280553007687 : Int64) * (f4_0 (-4658895280553007687 : Int64))) = (1 : Int64) then (if ((-7723592293110705685 : Int64) * (f4_0 (-7723592293110705685 : Int64))) = (1 : Int64) then (f0_55 v0 v3 v5 (1 : Int32)) else (f0_54 v0 v3 v5)) else (f0_54 v0 v3 v5))
set_option maxRecDepth 65536 in
set_option maxHeartbeats 4000000 in
theorem b0_20 {p : Program} {l : Launch} {e : Env} {s : State} {m : MethodId} {args : Array Value} {below : List Frame} {meth : Method} {c : Code} {T0 : State} {Z : State} {a0 : Array Value} {h0 : Heap} {locs : List Loc} {cells slots : Nat} {Q : Option Value → Heap → List Loc → Prop} (hw : ∀ d ∈ tables_1, d.before a0 Z = true) (hx : p.tables.exec = Jvm.exec) (hby : c.code = code) (hml : c.maxLocals = 8) (hown : s.vm.findClass "com/example/waypost/waypost/model/DrawsNextPinLaw" = some m.cls) (hZ : Z.Warmed39 s.vm) (hret : meth.sig.returnType = some .boolean) (hlk : meth.locks = false) (X0 : Stand p l e room_1 s m args below meth c T0 locs cells slots) (e0 : T0.heap = h0) (hc : cells ≤ room_1.cells) (hs : slots ≤ room_1.slots) (v0 : Int64) (o2 : Slot) (ho2 : One o2) (v3 : Int64) (v5 : Int64) (hq : Q (some (.int (f0_20 v0 v3 v5))) h0 locs) :
    Go p e below s room_1.cells room_1.slots Q T0 (mkF m 20 #[.val (.long v0), .second, o2, .val (.long v3), .second, .val (.long v5), .second, .unset] []) := by
  unfold f0_20 at hq
  refine go_step (T' := T0) (g' := (mkF m 23 #[.val (.long v0), .second, o2, .val (.long v3), .second, .val (.long v5), .second, .unset] [(.long (-4658895280553007687 : Int64))])) (X0.ldc2Long hx hown (mvT hZ (hw _ (List.mem_of_getElem? (i := 19) rfl))) (g := (mkF m 20 #[.val (.long v0), .second, o2, .val (.long v3), .second, .val (.long v5), .second, .unset] [])) rfl (hb hby at_20)) ?_
  refine go_step (T' := T0) (g' := (mkF m 26 #[.val (.long v0), .second, o2, .val (.long v3), .second, .val (.long v5), .second, .unset] [(.long (-4658895280553007687 : Int64)), (.long (-4658895280553007687 : Int64))])) (X0.ldc2Long hx hown (mvT hZ (hw _ (List.mem_of_getElem? (i := 19) rfl))) (g := (mkF m 23 #[.val (.long v0), .second, o2, .val (.long v3), .second, .val (.long v5), .second, .unset] [(.long (-4658895280553007687 : Int64))])) rfl (hb hby at_23)) ?_
  refine go_callSP X0 hx hZ hown (hw _ (List.mem_of_getElem? (i := 20) rfl)) (hw _ (List.mem_of_getElem? (i := 21) rfl)) (hw _ (List.mem_of_getElem? (i := 22) rfl)) (hw _ (List.mem_of_getElem? (i := 23) rfl)) (by decide) e0 (mq4 l Z a0 hw (-4658895280553007687 : Int64) h0) 2 (by decide) (by decide) (g := (mkF m 26 #[.val (.long v0), .second, o2, .val (.long v3), .second, .val (.long v5), .second, .unset] [(.long (-4658895280553007687 : Int64)), (.long (-4658895280553007687 : Int64))])) rfl (by rw [hml]; rfl) (argsL := [(.long (-4658895280553007687 : Int64))]) (rest := [(.long (-4658895280553007687 : Int64))]) (lenOf pd_0 rfl) rfl (by show 2 * 0 + _ ≤ _; exact Nat.le_of_eq rfl) (hb hby at_26) rfl rfl rfl hc hs (fun T1 X1 e1 => ?_)
  show Go p e below s _ _ _ T1 (mkF m 29 #[.val (.long v0), .second, o2, .val (.long v3), .second, .val (.long v5), .second, .unset] [(.long (f4_0 (-4658895280553007687 : Int64))), (.long (-4658895280553007687 : Int64))])
  refine go_step (T' := T1) (g' := (mkF m 30 #[.val (.long v0), .second, o2, .val (.long v3), .second, .val (.long v5), .second, .unset] [(.long ((-4658895280553007687 : Int64) * (f4_0 (-4658895280553007687 : Int64))))])) (fun t k => XS.lmul X1.here hx rfl (hb hby at_29) rfl k) ?_
  refine go_step (T' := T1) (g' := (mkF m 31 #[.val (.long v0), .second, o2, .val (.long v3), .second, .val (.long v5), .second, .unset] [(.long (1 : Int64)), (.long ((-4658895280553007687 : Int64) * (f4_0 (-4658895280553007687 : Int64))))])) (fun t k => XS.lconst X1.here hx rfl (hb hby at_30) k) ?_
  refine go_step (T' := T1) (g' := (mkF m 32 #[.val (.long v0), .second, o2, .val (.long v3), .second, .val (.long v5), .second, .unset] [(.int (lcmpW ((-4658895280553007687 : Int64) * (f4_0 (-4658895280553007687 : Int64))) (1 : Int64)))])) (fun t k => XS.lcmp X1.here hx rfl (hb hby at_31) rfl k) ?_
  by_cases hc1 : ((-4658895280553007687 : Int64) * (f4_0 (-4658895280553007687 : Int64))) = (1 : Int64)
  · rw [if_pos hc1] at hq
    refine go_step (T' := T1) (g' := (mkF m 35 #[.val (.long v0), .second, o2, .val (.long v3), .second, .val (.long v5), .second, .unset] [])) (fun t k => XS.ifNo X1.here hx rfl (hb hby at_32) rfl ((if0 _ _).trans (teq ((lw_eq _ _).mpr hc1)).2) k) ?_
    refine go_step (T' := T1) (g' := (mkF m 38 #[.val (.long v0), .second, o2, .val (.long v3), .second, .val (.long v5), .second, .unset] [(.long (-7723592293110705685 : Int64))])) (X1.ldc2Long hx hown (mvT hZ (hw _ (List.mem_of_getElem? (i := 25) rfl))) (g := (mkF m 35 #[.val (.long v0), .second, o2, .val (.long v3), .second, .val (.long v5), .second, .unset] [])) rfl (hb hby at_35)) ?_
    refine go_step (T' := T1) (g' := (mkF m 41 #[.val (.long v0), .second, o2, .val (.long v3), .second, .val (.long v5), .second, .unset] [(.long (-7723592293110705685 : Int64)), (.long (-7723592293110705685 : Int64))])) (X1.ldc2Long hx hown (mvT hZ (hw _ (List.mem_of_getElem? (i := 25) rfl))) (g := (mkF m 38 #[.val (.long v0), .second, o2, .val (.long v3), .second, .val (.long v5), .second, .unset] [(.long (-7723592293110705685 : Int64))])) rfl (hb hby at_38)) ?_
    refine go_callSP X1 hx hZ hown (hw _ (List.mem_of_getElem? (i := 20) rfl)) (hw _ (List.mem_of_getElem? (i := 21) rfl)) (hw _ (List.mem_of_getElem? (i := 22) rfl)) (hw _ (List.mem_of_getElem? (i := 23) rfl)) (by decide) e1 (mq4 l Z a0 hw (-7723592293110705685 : Int64) h0) 2 (by decide) (by decide) (g := (mkF m 41 #[.val (.long v0), .second, o2, .val (.long v3), .second, .val (.long v5), .second, .unset] [(.long (-7723592293110705685 : Int64)), (.long (-7723592293110705685 : Int64))])) rfl (by rw [hml]; rfl) (argsL := [(.long (-7723592293110705685 : Int64))]) (rest := [(.long (-7723592293110705685 : Int64))]) (lenOf pd_0 rfl) rfl (by show 2 * 0 + _ ≤ _; exact Nat.le_of_eq rfl) (hb hby at_41) rfl rfl rfl hc hs (fun T3 X3 e3 => ?_)
    show Go p e below s _ _ _ T3 (mkF m 44 #[.val (.long v0), .second, o2, .val (.long v3), .second, .val (.long v5), .second, .unset] [(.long (f4_0 (-7723592293110705685 : Int64))), (.long (-7723592293110705685 : Int64))])
    refine go_step (T' := T3) (g' := (mkF m 45 #[.val (.long v0), .second, o2, .val (.long v3), .second, .val (.long v5), .second, .unset] [(.long ((-7723592293110705685 : Int64) * (f4_0 (-7723592293110705685 : Int64))))])) (fun t k => XS.lmul X3.here hx rfl (hb hby at_44) rfl k) ?_
    refine go_step (T' := T3) (g' := (mkF m 46 #[.val (.long v0), .second, o2, .val (.long v3), .second, .val (.long v5), .second, .unset] [(.long (1 : Int64)), (.long ((-7723592293110705685 : Int64) * (f4_0 (-7723592293110705685 : Int64))))])) (fun t k => XS.lconst X3.here hx rfl (hb hby at_45) k) ?_
    refine go_step (T' := T3) (g' := (mkF m 47 #[.val (.long v0), .second, o2, .val (.long v3), .second, .val (.long v5), .second, .unset] [(.int (lcmpW ((-7723592293110705685 : Int64) * (f4_0 (-7723592293110705685 : Int64))) (1 : Int64)))])) (fun t k => XS.lcmp X3.here hx rfl (hb hby at_46) rfl k) ?_
    by_cases hc3 : ((-7723592293110705685 : Int64) * (f4_0 (-7723592293110705685 : Int64))) = (1 : Int64)
    · rw [if_pos hc3] at hq
      refine go_step (T' := T3) (g' := (mkF m 50 #[.val (.long v0), .second, o2, .val (.long v3), .second, .val (.long v5), .second, .unset] [])) (fun t k => XS.ifNo X3.here hx rfl (hb hby at_47) rfl ((if0 _ _).trans (teq ((lw_eq _ _).mpr hc3)).2) k) ?_
      refine go_step (T' := T3) (g' := (mkF m 51 #[.val (.long v0), .second, o2, .val (.long v3), .second, .val (.long v5), .second, .unset] [(.int (1 : Int32))])) (fun t k => XS.iconst X3.here hx rfl (hb hby at_50) k) ?_
      refine go_step (T' := T3) (g' := (mkF m 55 #[.val (.long v0), .second, o2, .val (.long v3), .second, .val (.long v5), .second, .unset] [(.int (1 : Int32))])) (fun t k => XS.goto X3.here hx rfl (pc0 := 51) (pc' := 55) rfl (hb hby at_51) (by decide) (by decide) k) ?_
      exact b0_55 hw hx hby hml hown hZ hret hlk X3 e3 hc hs v0 (o2) ho2 v3 v5 (1 : Int32) hq
    · rw [if_neg hc3] at hq
      refine go_step (T' := T3) (g' := (mkF m 54 #[.val (.long v0), .second, o2, .val (.long v3), .second, .val (.long v5), .second, .unset] [])) (fun t k => XS.ifYes X3.here hx rfl (pc0 := 47) (pc' := 54) rfl (hb hby at_47) rfl ((if0 _ _).trans (feq (fun q => hc3 ((lw_eq _ _).mp q))).2) (by decide) (by decide) k) ?_
      exact b0_54 hw hx hby hml hown hZ hret hlk X3 e3 hc hs v0 (o2) ho2 v3 v5 hq
  · rw [if_neg hc1] at hq
    refine go_step (T' := T1) (g' := (mkF m 54 #[.val (.long v0), .second, o2, .val (.long v3), .second, .val (.long v5), .second, .unset] [])) (fun t k => XS.ifYes X1.here hx rfl (pc0 := 32) (pc' := 54) rfl (hb hby at_32) rfl ((if0 _ _).trans (feq (fun q => hc1 ((lw_eq _ _).mp q))).2) (by decide) (by decide) k) ?_
    exact b0_54 hw hx hby hml hown hZ hret hlk X1 e1 hc hs v0 (o2) ho2 v3 v5 hq
def f0_ret (v0 : Int64) : Int32 := (f0_20 v0 (f3_ret (f1_state v0)) (f3_ret (f3_state (f1_state v0))))
theorem ef0 (m : MethodId) (v0 : Int64) : entryFrame m #[(.long v0)] maxLocals = (mkF m 0 #[.val (.long v0), .second, .unset, .unset, .unset, .unset, .unset, .unset] []) := by first | (simp [entryFrame, mkF, argsToLocals, Value.category, maxLocals]; done) | rfl
theorem pn0 : plainName "com/example/waypost/waypost/model/DrawsNextPinLaw" = true := by first | (simp [plainName, overriddenIn]; done) | decide +kernel
def Q0 (Z : State) (v0 : Int64) (h0 : Heap) (n0 : Nat) (v : Option Value) (h : Heap) (L : List Loc) : Prop := v = some (.int (f0_ret v0)) ∧ Fr n0 L
set_option maxRecDepth 65536 in
set_option maxHeartbeats 40000000 in
theorem mq0 (l : Launch) (Z : State) (a0 : Array Value) (hw : ∀ d ∈ tables_1, d.before a0 Z = true) (ws : List Jvm.Cond) (v0 : Int64)  (h0 : Heap) (n0 : Nat) (Z0 : n0 ≤ h0.size)  : MQ l Z x code maxLocals ret ws room_1 #[(.long v0)] h0 (Q0 Z v0 h0 n0) := by
  refine mq_of (plainFor_of_name pn0) ?_
  intro p e s m below meth c T0 X0 hx hby hml hown hnm hZ e0 hret hlk
  rw [ef0]
  have N0 := Fr.nil n0
  have K0 := Keep.refl h0 []
  refine go_new X0 hx hZ hown (hw _ (List.mem_of_getElem? (i := 0) rfl)) (hw _ (List.mem_of_getElem? (i := 1) rfl)) (hw _ (List.mem_of_getElem? (i := 2) rfl)) e0 (by decide) (by decide) (g := (mkF m 0 #[.val (.long v0), .second, .unset, .unset, .unset, .unset, .unset, .unset] [])) rfl (hb hby at_0) (fun T1 h2 b3 X4 e5 E6 q7 A8 D9 => ?_)
  have sz10 : h0.size ≤ b3 := Nat.le_trans K0.1 (Nat.le_of_eq q7.symm)
  have g11 : n0 ≤ b3 := Nat.le_trans Z0 sz10
  have K12 := K0.ext E6
  have F13 : Fld Z h2 b3 "com/example/waypost/waypost/model/RandomInstances$Draws" "state" "J" (.long (0 : Int64)) := D9 (Or.inl (hw _ (List.mem_of_getElem? (i := 10) rfl))) (ty := .long) (by decide)
  show Go p e below s _ _ _ T1 (mkF m 3 #[.val (.long v0), .second, .unset, .unset, .unset, .unset, .unset, .unset] [(.ref b3)])
  refine go_step (T' := T1) (g' := (mkF m 4 #[.val (.long v0), .second, .unset, .unset, .unset, .unset, .unset, .unset] [(.ref b3), (.ref b3)])) (fun t k => XS.dup X4.here hx rfl (hb hby at_3) rfl rfl k) ?_
  refine go_step (T' := T1) (g' := (mkF m 5 #[.val (.long v0), .second, .unset, .unset, .unset, .unset, .unset, .unset] [(.long v0), (.ref b3), (.ref b3)])) (fun t k => XS.lloadN X4.here hx rfl (hb hby at_4) rfl  k) ?_
  refine go_callC X4 hx hZ (y := (⟨"com/example/waypost/waypost/model/RandomInstances$Draws", "<init>", "(J)V"⟩ : MethodName)) rfl hown (hw _ (List.mem_of_getElem? (i := 3) rfl)) (hw _ (List.mem_of_getElem? (i := 4) rfl)) (hw _ (List.mem_of_getElem? (i := 2) rfl)) (hw _ (List.mem_of_getElem? (i := 5) rfl)) (by decide) e5 (mq1 l Z a0 hw b3 v0  h2 n0 (Nat.le_trans Z0 K12.1) A8 F13 g11) 1 (by decide) (by decide) (g := (mkF m 5 #[.val (.long v0), .second, .unset, .unset, .unset, .unset, .unset, .unset] [(.long v0), (.ref b3), (.ref b3)])) rfl (by rw [hml]; rfl) (argsL := [(.long v0)]) (rest := [(.ref b3)]) (lenOf pd_1 rfl) rfl (by show 2 * 0 + _ ≤ _; exact Nat.le_of_eq rfl) (hb hby at_5) rfl (by decide) (by decide) (fun T14 v15 L16 X17 hQ18 => ?_)
  obtain ⟨rfl, N19, K20, F21⟩ := hQ18
  have N22 := Fr.app N0 N19
  have K23 := K12.trans K20 (allS (Or.inr sz10) all0)
  have F24 : Fld Z T14.heap b3 "com/example/waypost/waypost/model/RandomInstances$Draws" "state" "J" (.long (f1_state v0)) := F21
  show Go p e below s _ _ _ T14 (mkF m 8 #[.val (.long v0), .second, .unset, .unset, .unset, .unset, .unset, .unset] [(.ref b3)])
  refine go_step (T' := T14) (g' := (mkF m 9 #[.val (.long v0), .second, .val (.ref b3), .unset, .unset, .unset, .unset, .unset] [])) (fun t k => XS.astoreN X17.here hx rfl (hb hby at_8) rfl rfl (l' := #[.val (.long v0), .second, .val (.ref b3), .unset, .unset, .unset, .unset, .unset]) rfl k) ?_
  refine go_step (T' := T14) (g' := (mkF m 10 #[.val (.long v0), .second, .val (.ref b3), .unset, .unset, .unset, .unset, .unset] [(.ref b3)])) (fun t k => XS.aloadN X17.here hx rfl (hb hby at_9) rfl rfl k) ?_
  have G25 : Exa Z T14.heap b3 "com/example/waypost/waypost/model/RandomInstances$Draws" := (A8.keep K20)
  refine go_callV X17 hx hZ (y := (⟨"com/example/waypost/waypost/model/RandomInstances$Draws", "next", "()J"⟩ : MethodName)) hown (hw _ (List.mem_of_getElem? (i := 11) rfl)) (hw _ (List.mem_of_getElem? (i := 12) rfl)) (hw _ (List.mem_of_getElem? (i := 14) rfl)) (hw _ (List.mem_of_getElem? (i := 13) rfl)) (hw _ (List.mem_of_getElem? (i := 2) rfl)) (hw _ (List.mem_of_getElem? (i := 15) rfl)) (by decide) rfl G25 (mq3 l Z a0 hw b3 ((f1_state v0)) T14.heap n0 (Nat.le_trans Z0 K23.1) G25 F24 g11) 0 (by decide) (by decide) (g := (mkF m 10 #[.val (.long v0), .second, .val (.ref b3), .unset, .unset, .unset, .unset, .unset] [(.ref b3)])) rfl (by rw [hml]; rfl) (argsL := []) (rest := []) (lenOf pd_2 rfl) rfl (by show 2 * 0 + _ ≤ _; exact Nat.le_of_eq rfl) (hb hby at_10) rfl (by decide) (by decide) (fun T26 v27 L28 X29 hQ30 => ?_)
  obtain ⟨rfl, N31, K32, F33⟩ := hQ30
  have N34 := Fr.app N22 N31
  have K35 := K23.trans K32 (allS (Or.inr sz10) all0)
  have F36 : Fld Z T26.heap b3 "com/example/waypost/waypost/model/RandomInstances$Draws" "state" "J" (.long (f3_state (f1_state v0))) := F33
  show Go p e below s _ _ _ T26 (mkF m 13 #[.val (.long v0), .second, .val (.ref b3), .unset, .unset, .unset, .unset, .unset] [(.long (f3_ret (f1_state v0)))])
  refine go_step (T' := T26) (g' := (mkF m 14 #[.val (.long v0), .second, .val (.ref b3), .val (.long (f3_ret (f1_state v0))), .second, .unset, .unset, .unset] [])) (fun t k => XS.lstoreN X29.here hx rfl (hb hby at_13) rfl (l' := #[.val (.long v0), .second, .val (.ref b3), .val (.long (f3_ret (f1_state v0))), .second, .unset, .unset, .unset]) rfl k) ?_
  refine go_step (T' := T26) (g' := (mkF m 15 #[.val (.long v0), .second, .val (.ref b3), .val (.long (f3_ret (f1_state v0))), .second, .unset, .unset, .unset] [(.ref b3)])) (fun t k => XS.aloadN X29.here hx rfl (hb hby at_14) rfl rfl k) ?_
  have G37 : Exa Z T26.heap b3 "com/example/waypost/waypost/model/RandomInstances$Draws" := (G25.keep K32)
  refine go_callV X29 hx hZ (y := (⟨"com/example/waypost/waypost/model/RandomInstances$Draws", "next", "()J"⟩ : MethodName)) hown (hw _ (List.mem_of_getElem? (i := 11) rfl)) (hw _ (List.mem_of_getElem? (i := 12) rfl)) (hw _ (List.mem_of_getElem? (i := 14) rfl)) (hw _ (List.mem_of_getElem? (i := 13) rfl)) (hw _ (List.mem_of_getElem? (i := 2) rfl)) (hw _ (List.mem_of_getElem? (i := 15) rfl)) (by decide) rfl G37 (mq3 l Z a0 hw b3 ((f3_state (f1_state v0))) T26.heap n0 (Nat.le_trans Z0 K35.1) G37 F36 g11) 0 (by decide) (by decide) (g := (mkF m 15 #[.val (.long v0), .second, .val (.ref b3), .val (.long (f3_ret (f1_state v0))), .second, .unset, .unset, .unset] [(.ref b3)])) rfl (by rw [hml]; rfl) (argsL := []) (rest := []) (lenOf pd_2 rfl) rfl (by show 2 * 0 + _ ≤ _; exact Nat.le_of_eq rfl) (hb hby at_15) rfl (by decide) (by decide) (fun T38 v39 L40 X41 hQ42 => ?_)
  obtain ⟨rfl, N43, K44, F45⟩ := hQ42
  have N46 := Fr.app N34 N43
  have K47 := K35.trans K44 (allS (Or.inr sz10) all0)
  have F48 : Fld Z T38.heap b3 "com/example/waypost/waypost/model/RandomInstances$Draws" "state" "J" (.long (f3_state (f3_state (f1_state v0)))) := F45
  show Go p e below s _ _ _ T38 (mkF m 18 #[.val (.long v0), .second, .val (.ref b3), .val (.long (f3_ret (f1_state v0))), .second, .unset, .unset, .unset] [(.long (f3_ret (f3_state (f1_state v0))))])
  refine go_step (T' := T38) (g' := (mkF m 20 #[.val (.long v0), .second, .val (.ref b3), .val (.long (f3_ret (f1_state v0))), .second, .val (.long (f3_ret (f3_state (f1_state v0)))), .second, .unset] [])) (fun t k => XS.lstore X41.here hx rfl (hb hby at_18) rfl (l' := #[.val (.long v0), .second, .val (.ref b3), .val (.long (f3_ret (f1_state v0))), .second, .val (.long (f3_ret (f3_state (f1_state v0)))), .second, .unset]) rfl k) ?_
  exact b0_20 hw hx hby hml hown hZ hret hlk X41 rfl (by decide) (by decide) v0 (.val (.ref b3)) (One.val rfl) (f3_ret (f1_state v0)) (f3_ret (f3_state (f1_state v0))) ⟨(by unfold f0_ret; rfl), N46⟩
/-! the plain law: unmix undoes the draw -/
theorem own_sh (x : Int64) (q : Int32) (k : Nat) (hk : (q &&& 0x3f).toInt64.toUInt64.toBitVec = BitVec.ofNat 64 k) (hk2 : k < 64) : (ushL x q).toBitVec = x.toBitVec >>> k := by
  unfold ushL
  show (x.toUInt64 >>> (q &&& 0x3f).toInt64.toUInt64).toBitVec = _
  rw [UInt64.toBitVec_shiftRight, hk]
  show x.toBitVec >>> (BitVec.ofNat 64 k % 64#64) = _
  rw [BitVec.ushiftRight_eq']
  congr 1
  rw [BitVec.toNat_umod, BitVec.toNat_ofNat, BitVec.toNat_ofNat, show (64 : Nat) % 2 ^ 64 = 64 by decide, Nat.mod_eq_of_lt (show k < 2 ^ 64 by omega), Nat.mod_eq_of_lt hk2]
theorem own_undo (y : Int64) (a b : Int32) (k : Nat) (ha : (a &&& 0x3f).toInt64.toUInt64.toBitVec = BitVec.ofNat 64 k) (hb : (b &&& 0x3f).toInt64.toUInt64.toBitVec = BitVec.ofNat 64 (2 * k)) (h1 : 2 * k < 64) (h2 : 64 ≤ 3 * k) :
    (((y ^^^ (ushL y a)) ^^^ (ushL (y ^^^ (ushL y a)) a)) ^^^ (ushL (y ^^^ (ushL y a)) b)) = y := by
  apply Int64.toBitVec_inj.mp
  simp only [Int64.toBitVec_xor, own_sh _ a k ha (by omega), own_sh _ b (2 * k) hb h1, BitVec.ushiftRight_xor_distrib, ← BitVec.shiftRight_add]
  have z : y.toBitVec >>> (k + 2 * k) = 0 := BitVec.ushiftRight_eq_zero (by omega)
  rw [z, show k + k = 2 * k by omega]
  simp [BitVec.xor_assoc]
theorem own_m1 : (-4658895280553007687 : Int64) * (f4_0 (-4658895280553007687 : Int64)) = 1 := by decide +kernel
theorem own_m2 : (-7723592293110705685 : Int64) * (f4_0 (-7723592293110705685 : Int64)) = 1 := by decide +kernel
theorem own_mul (x a b : Int64) (h : a * b = 1) : x * a * b = x := by rw [Int64.mul_assoc, h, Int64.mul_one]
theorem own_unmix (s : Int64) : f5_0 (f3_ret s) = s + (-7046029254386353131 : Int64) := by
  unfold f5_0 f5_12 f5_21 f5_33 f5_42 f3_ret
  simp only [s3_0]
  generalize s + (-7046029254386353131 : Int64) = a
  rw [own_undo _ (31 : Int32) (62 : Int32) 31 (by decide) (by decide) (by decide) (by decide), own_mul _ _ _ own_m2,
    own_undo _ (27 : Int32) (54 : Int32) 27 (by decide) (by decide) (by decide) (by decide), own_mul _ _ _ own_m1,
    own_undo _ (30 : Int32) (60 : Int32) 30 (by decide) (by decide) (by decide) (by decide)]
theorem plain_law (s : Int64) : f0_ret s = 1 := by
  unfold f0_ret f0_20
  rw [if_pos own_m1, if_pos own_m2]
  unfold f0_55
  rw [if_neg (by decide), own_unmix, own_unmix]
  unfold f3_state f1_state
  rw [if_pos rfl, if_pos rfl]

set_option maxRecDepth 65536 in
set_option maxHeartbeats 40000000 in
theorem comes_1 {Post : Tables → Env → Array Value → State → Outcome → State → Prop} (hpost : ∀ tb e args s v u, (limb_1_1.after args s (.returned v) u = true ∧ limb_1_2.after args s (.returned v) u = true ∧ True) → FrameEnd s (.returned v) u (Jvm.fieldLocs frame_1_writes args s ++ Jvm.arrayLocs frame_1_arrays args s ++ Jvm.staticLocs frame_1_statics s) 16 128 → Post tb e args s (.returned v) u) :
    ArmFor flags0 classFile x code maxLocals ret World_1 tables_1 room_1 Calls_1 rest_1 Pre_1 Post := by
  intro l hfl _ _ p e ha hc hk s m args below hf hA hF happ hP
  obtain ⟨hcalls, hrest, hpre⟩ := hP
  obtain ⟨-, -, -, hnamed, -, -, -, hat⟩ := (Spec.applies_iff hf).mp happ
  obtain ⟨hg, hn⟩ := and_e (Cond.before_iff.mp (show (Jvm.Cond.and given_1 narrow_1).before args s = true from hpre))
  obtain ⟨hcount, hg0⟩ := and_e hg
  have ga0 := hg0
  obtain ⟨w0, rfl⟩ : ∃ w0 : Value, args = #[w0] := by
    have hs : args.size = 1 := by simpa [Cond.value, given_1] using hcount
    obtain ⟨L⟩ := args
    match L, hs with
    | [w0], _ => exact ⟨w0, rfl⟩
  have hw := fun d (hd : d ∈ tables_1) => atoms_spec (ws := Jvm.Cond.code x code maxLocals ret :: tables_1) hat d (List.mem_cons_of_mem _ hd)
  obtain ⟨i0, ei0⟩ := isL_v ga0
  obtain rfl : w0 = (.long i0) := Option.some.inj ei0
  obtain ⟨n, o, h1, h2, h3, _, L, rfl, ⟨rfl, N⟩, hq⟩ := mq0 l s _ hw tables_1 i0 s.heap s.heap.size (Nat.le_refl _) p e ha hc hk s m _ below hf ((Spec.applies_iff_loose hf).mp happ).1 ⟨rfl, State.Warmed39.refl s, rfl⟩ trivial
  rw [plain_law] at h3 hq
  refine ⟨n, _, h1, h2, h3, hpost _ _ _ _ _ _ ⟨Cond.after_iff.mpr rfl, Cond.after_iff.mpr (eq_i res_at (Term.int_eval (1)) rfl), trivial⟩ ⟨hq.1, hq.2.1, (hq.2.2.sift fun y hy => Or.inr (N y hy)).mono (by decide) (by decide)⟩⟩
theorem main_1_1 : Claimed_1_1 := comes_1 fun _ _ _ _ _ _ h hF => ⟨h.1, hF⟩
theorem main_1_2 : Claimed_1_2 := comes_1 fun _ _ _ _ _ _ h hF => ⟨h.2.1, hF⟩
end Jvm.Pilot.@@N@@
namespace Jvm.Pilot.@@N@@
open Jvm Jvm.ClassFile Sem Op Lib Jvm.Free Jvm.Stand Jvm.Pilot.@@N@@.Jvm.D
/-! MADE BY PROGRAM (witnessworld.py) out of the Statement's table words and the real class files: 9 classes; the members and pool entries that the words name. The judged class is class 1, her method 3. -/
namespace start1
open Jvm.ClassFile
def u (s : String) : CpInfo := .utf8 (stringToUtf16 s)
/-- a pool by its gaps: so many unusable entries, then the entry; so many at the end -/
def gap : Nat → List CpInfo → List CpInfo
  | 0, r => r
  | n + 1, r => .unusable :: gap n r
def poolList (es : List (Nat × CpInfo)) (last : Nat) : List CpInfo := es.foldr (fun e r => gap e.1 (e.2 :: r)) (gap last [])
def pool (es : List (Nat × CpInfo)) (last : Nat) : Array CpInfo := ⟨poolList es last⟩
def fileOf (pool : Array CpInfo) (this : Nat) (attrs : Array Attribute := #[]) (ms : Array MethodInfo := #[]) (fl : Nat := 33) (sup : Nat := 0) (ifs : Array Nat := #[]) (fds : Array FieldInfo := #[]) : ClassFile where
  minorVersion := 0
  majorVersion := 65
  constantPool := pool
  accessFlags := fl
  thisClass := this
  superClass := sup
  interfaces := ifs
  fields := fds
  methods := ms
  attributes := attrs
def plain (name : String) (sup : Option ClassId) : Class where
  name := name
  kind := .ordinary
  loader := none
  accessFlags := 33
  super := sup
  interfaces := #[]
  cf := none
  fields := #[]
  methods := #[]
  instanceTypes := #[]
  staticTypes := #[]
  resolved := #[]
  callSites := []
  init := .initialized
  statics := none
  mirror := none

def pool0 : Array CpInfo := pool [(5, u "<init>"), (0, u "()V"), (1, .class_ 10), (1, u "java/lang/Object")] 113

def k0c0 : Code := { maxStack := 0, maxLocals := 1, code := object_method_1_code, exceptionTable := #[], attributes := #[] }
def k0m0 : Method := { name := "<init>", desc := "()V", sig := { parameters := [], returnType := none }, accessFlags := 1, code := some k0c0 }
/-- java/lang/Object -/
def k0 : Class := { plain "java/lang/Object" none with
  accessFlags := 33
  interfaces := #[]
  cf := some (fileOf pool0 8 #[] #[{ accessFlags := 1, nameIndex := 5, descriptorIndex := 6, attributes := #[] }] 33 0 #[] #[])
  fields := #[]
  methods := #[k0m0]
  instanceTypes := #[]
  staticTypes := #[]
  resolved := Array.replicate 124 none
  statics := none }

def pool1 : Array CpInfo := pool [(2, .class_ 4), (1, u "java/lang/Object"), (0, u "<init>"), (0, u "()V"), (0, .long 2), (1, .class_ 10), (0, u "com/example/waypost/waypost/model/DrawsNextPinLaw"), (0, .long 10723151780598845931), (1, .methodref 9 14), (0, .nameAndType 15 16), (0, u "inv"), (0, u "(J)J"), (0, .long 13787848793156543929), (1, .class_ 20), (0, u "com/example/waypost/waypost/model/RandomInstances$Draws"), (0, .methodref 19 22), (0, .nameAndType 5 23), (0, u "(J)V"), (0, .methodref 19 25), (0, .nameAndType 26 27), (0, u "next"), (0, u "()J"), (0, .methodref 9 29), (0, .nameAndType 30 16), (0, u "unmix"), (0, .long 11400714819323198485), (1, u "GAMMA"), (0, u "J"), (1, u "M1"), (0, u "M2"), (2, u "law"), (0, u "(J)Z")] 7

def k1m0 : Method := { name := "<init>", desc := "()V", sig := { parameters := [], returnType := none }, accessFlags := 1, code := none }
def k1c1 : Code := { maxStack := 8, maxLocals := 4, code := method_2_code, exceptionTable := #[], attributes := #[] }
def k1m1 : Method := { name := "inv", desc := "(J)J", sig := { parameters := [.long], returnType := some .long }, accessFlags := 10, code := some k1c1 }
def k1c2 : Code := { maxStack := 5, maxLocals := 2, code := method_3_code, exceptionTable := #[], attributes := #[] }
def k1m2 : Method := { name := "unmix", desc := "(J)J", sig := { parameters := [.long], returnType := some .long }, accessFlags := 10, code := some k1c2 }
def k1c3 : Code := { maxStack := 6, maxLocals := 8, code := code, exceptionTable := #[], attributes := #[] }
def k1m3 : Method := { name := "law", desc := "(J)Z", sig := { parameters := [.long], returnType := some .boolean }, accessFlags := 9, code := some k1c3 }
/-- com/example/waypost/waypost/model/DrawsNextPinLaw -/
def k1 : Class := { plain "com/example/waypost/waypost/model/DrawsNextPinLaw" (some 0) with
  accessFlags := 49
  interfaces := #[]
  cf := some (fileOf pool1 9 #[] #[{ accessFlags := 1, nameIndex := 5, descriptorIndex := 6, attributes := #[] }, { accessFlags := 10, nameIndex := 15, descriptorIndex := 16, attributes := #[] }, { accessFlags := 10, nameIndex := 30, descriptorIndex := 16, attributes := #[] }, { accessFlags := 9, nameIndex := 40, descriptorIndex := 41, attributes := #[] }] 49 2 #[] #[{ accessFlags := 26, nameIndex := 33, descriptorIndex := 34, attributes := #[] }, { accessFlags := 26, nameIndex := 36, descriptorIndex := 34, attributes := #[] }, { accessFlags := 26, nameIndex := 37, descriptorIndex := 34, attributes := #[] }])
  fields := #[{ name := "GAMMA", type := .long, accessFlags := 26, slot := 0, constantValue := 0 }, { name := "M1", type := .long, accessFlags := 26, slot := 1, constantValue := 0 }, { name := "M2", type := .long, accessFlags := 26, slot := 2, constantValue := 0 }]
  methods := #[k1m0, k1m1, k1m2, k1m3]
  instanceTypes := #[]
  staticTypes := #[.long, .long, .long]
  resolved := Array.replicate 49 none
  statics := none }

def pool2 : Array CpInfo := pool [(1, .methodref 2 3), (0, .class_ 4), (0, .nameAndType 5 6), (0, u "java/lang/Object"), (0, u "<init>"), (0, u "()V"), (0, .fieldref 8 9), (0, .class_ 10), (0, .nameAndType 11 12), (0, u "com/example/waypost/waypost/model/RandomInstances$Draws"), (0, u "state"), (0, u "J"), (0, .long 11400714819323198485), (1, .long 13787848793156543929), (1, .long 10723151780598845931), (7, u "next"), (0, u "()J"), (0, u "GAMMA"), (1, u "(J)V"), (8, .class_ 39), (0, u "com/example/waypost/waypost/model/RandomInstances")] 2

def k2c0 : Code := { maxStack := 3, maxLocals := 3, code := prog_27_method_1_code, exceptionTable := #[], attributes := #[] }
def k2m0 : Method := { name := "<init>", desc := "(J)V", sig := { parameters := [.long], returnType := none }, accessFlags := 0, code := some k2c0 }
def k2c1 : Code := { maxStack := 5, maxLocals := 3, code := prog_27_method_2_code, exceptionTable := #[], attributes := #[] }
def k2m1 : Method := { name := "next", desc := "()J", sig := { parameters := [], returnType := some .long }, accessFlags := 0, code := some k2c1 }
/-- com/example/waypost/waypost/model/RandomInstances$Draws -/
def k2 : Class := { plain "com/example/waypost/waypost/model/RandomInstances$Draws" (some 0) with
  accessFlags := 48
  interfaces := #[]
  cf := some (fileOf pool2 8 #[.nestHost 38] #[{ accessFlags := 0, nameIndex := 5, descriptorIndex := 29, attributes := #[] }, { accessFlags := 0, nameIndex := 25, descriptorIndex := 26, attributes := #[] }] 48 2 #[] #[{ accessFlags := 26, nameIndex := 27, descriptorIndex := 12, attributes := #[] }, { accessFlags := 2, nameIndex := 11, descriptorIndex := 12, attributes := #[] }])
  fields := #[{ name := "GAMMA", type := .long, accessFlags := 26, slot := 0, constantValue := 0 }, { name := "state", type := .long, accessFlags := 2, slot := 0, constantValue := 0 }]
  methods := #[k2m0, k2m1]
  instanceTypes := #[.long]
  staticTypes := #[.long]
  resolved := Array.replicate 42 none
  statics := none }

def pool3 : Array CpInfo := pool [(1, u "java/lang/Cloneable"), (0, .class_ 1), (0, u "java/lang/Object"), (0, .class_ 3)] 3

/-- java/lang/Cloneable -/
def k3 : Class := { plain "java/lang/Cloneable" (some 0) with
  accessFlags := 1537
  interfaces := #[]
  cf := some (fileOf pool3 2 #[] #[] 1537 4 #[] #[])
  fields := #[]
  methods := #[]
  instanceTypes := #[]
  staticTypes := #[]
  resolved := Array.replicate 8 none
  statics := none }

def pool4 : Array CpInfo := pool [(1, u "java/io/Serializable"), (0, .class_ 1), (0, u "java/lang/Object"), (0, .class_ 3)] 3

/-- java/io/Serializable -/
def k4 : Class := { plain "java/io/Serializable" (some 0) with
  accessFlags := 1537
  interfaces := #[]
  cf := some (fileOf pool4 2 #[] #[] 1537 4 #[] #[])
  fields := #[]
  methods := #[]
  instanceTypes := #[]
  staticTypes := #[]
  resolved := Array.replicate 8 none
  statics := none }

/-- the primitive byte -/
def k5 : Class := { plain "byte" none with kind := .primitive 'B', accessFlags := 0x411 }
/-- [B -/
def k6 : Class := { plain "[B" (some 0) with kind := .array 5 .byte, interfaces := #[3, 4], accessFlags := 1041 }

/-- the primitive int -/
def k7 : Class := { plain "int" none with kind := .primitive 'I', accessFlags := 0x411 }
/-- [I -/
def k8 : Class := { plain "[I" (some 0) with kind := .array 7 .int, interfaces := #[3, 4], accessFlags := 1041 }

def heap : Heap := #[]
def classes : Array Class := #[k0, k1, k2, k3, k4, k5, k6, k7, k8]
def interned : List (Array UInt16 × Addr) := []
def slotsUsed : Nat := 0
def theMethod : MethodId := ⟨1, 3⟩
def args0 : Array Value := #[.long 5]
def aboutOver (below : List Frame) : State where
  vm := { classes := classes, interned := interned.toArray }
  heap := heap
  slotsUsed := slotsUsed
  threads := #[{ frames := .invoking theMethod args0 :: below }]
def below0 : List Frame := [.native { method := ⟨0, 0⟩, args := #[] }]
def about1 : State := aboutOver below0
def p0 : Program := .bare "" "" ""
def e0 : Env := launch0.env 0 0 0
theorem w_frames : about1.frames = Frame.invoking theMethod args0 :: below0 := rfl
set_option maxRecDepth 65536 in
theorem w_args : argsFit about1.vm theMethod args0 = true := by decide +kernel
set_option maxRecDepth 65536 in
theorem w_heap : heapFits about1 = true := by decide +kernel
set_option maxRecDepth 65536 in
theorem w_runnable : about1.curStatus? = some .runnable := by decide +kernel
set_option maxRecDepth 65536 in
theorem w_alone : about1.alone = true := by decide +kernel
set_option maxRecDepth 65536 in
theorem w_named : about1.methodNamed? x = some theMethod := by decide +kernel
set_option maxRecDepth 65536 in
theorem w_hears : about1.hears theMethod below0 = true := by decide +kernel
set_option maxRecDepth 65536 in
theorem w_ripe : about1.ripe theMethod args0 below0 = true := by decide +kernel
theorem w_running : about1.status = .running := rfl
set_option maxRecDepth 65536 in
theorem w_room : about1.hasRoom e0.platform room_1 = true :=
  launch0.hasRoom_least _ room_1 (by decide +kernel) (by decide +kernel) (by decide +kernel) (by decide +kernel) (by decide +kernel) (by decide +kernel)
theorem allAtoms_all (ts : List Jvm.Cond) (a : Array Jvm.Value) (st : Jvm.State) : (allAtoms ts).before a st = ts.all (fun c => c.before a st) := by
  induction ts with
  | nil => rfl
  | cons c t ih =>
    show (Jvm.Cond.and c (allAtoms t)).before a st = _
    rw [Jvm.Cond.before_and, ih, List.all_cons]
def words1 : List Jvm.Cond := Jvm.Cond.code x code maxLocals ret :: tables_1
/-- a 'code' word, met by the world's own term for the bytes: nothing is compared byte by byte -/
theorem code_word {y : MethodName} {bytes : ByteArray} {mx : Nat} {rt : Option FieldType} {a : Array Value} {s : State} {m : MethodId} {meth : Method} {c : Code} (h1 : s.methodNamed? y = some m) (h2 : s.vm.method? m = some meth) (h3 : meth.code = some c) (h4 : c.code = bytes)
    (h5 : (c.maxLocals == mx && c.exceptionTable.isEmpty && decide (c.maxStack ≤ mostOperands) && decide (meth.sig.returnType = rt) && !meth.locks && decide (parseMethodDescriptor y.desc = some meth.sig)) = true) : (Jvm.Cond.code y bytes mx rt).before a s = true := by
  simp only [Bool.and_eq_true, beq_iff_eq, Bool.not_eq_true', decide_eq_true_eq] at h5
  obtain ⟨⟨⟨⟨⟨g1, g2⟩, g3⟩, g4⟩, g5⟩, g6⟩ := h5
  simp [Cond.before, Cond.holds, Cond.value, h1, h2, h3, h4, g1, g2, g3, g4, g5, g6]
def isCode : Jvm.Cond → Bool
  | .code _ _ _ _ => true
  | _ => false
theorem all_split {L : List Jvm.Cond} {P : Jvm.Cond → Bool} (h1 : L.all (fun c => isCode c || P c) = true) (h2 : ∀ c ∈ L.filter isCode, P c = true) : L.all P = true := by
  refine List.all_eq_true.mpr fun c hc => ?_
  have h := List.all_eq_true.mp h1 c hc
  rcases Bool.eq_false_or_eq_true (isCode c) with hi | hi
  · exact h2 c (List.mem_filter.mpr ⟨hc, hi⟩)
  · simpa [hi] using h
set_option maxRecDepth 65536 in
theorem w_c0 : (Jvm.Cond.code x code maxLocals ret).before args0 about1 = true := code_word (m := ⟨1, 3⟩) (meth := k1m3) (c := k1c3) (by decide +kernel) rfl rfl rfl (by decide +kernel)
set_option maxRecDepth 65536 in
theorem w_c1 : (Jvm.Cond.code ({ cls := "com/example/waypost/waypost/model/RandomInstances$Draws", name := "<init>", desc := "(J)V" } : Jvm.MethodName) prog_27_method_1_code (3 : Nat) (Option.none : Option Jvm.ClassFile.FieldType)).before args0 about1 = true := code_word (m := ⟨2, 0⟩) (meth := k2m0) (c := k2c0) (by decide +kernel) rfl rfl rfl (by decide +kernel)
set_option maxRecDepth 65536 in
theorem w_c2 : (Jvm.Cond.code ({ cls := "java/lang/Object", name := "<init>", desc := "()V" } : Jvm.MethodName) object_method_1_code (1 : Nat) (Option.none : Option Jvm.ClassFile.FieldType)).before args0 about1 = true := code_word (m := ⟨0, 0⟩) (meth := k0m0) (c := k0c0) (by decide +kernel) rfl rfl rfl (by decide +kernel)
set_option maxRecDepth 65536 in
theorem w_c3 : (Jvm.Cond.code ({ cls := "com/example/waypost/waypost/model/RandomInstances$Draws", name := "next", desc := "()J" } : Jvm.MethodName) prog_27_method_2_code (3 : Nat) (Option.some Jvm.ClassFile.FieldType.long)).before args0 about1 = true := code_word (m := ⟨2, 1⟩) (meth := k2m1) (c := k2c1) (by decide +kernel) rfl rfl rfl (by decide +kernel)
set_option maxRecDepth 65536 in
theorem w_c4 : (Jvm.Cond.code ({ cls := "com/example/waypost/waypost/model/DrawsNextPinLaw", name := "inv", desc := "(J)J" } : Jvm.MethodName) method_2_code (4 : Nat) (Option.some Jvm.ClassFile.FieldType.long)).before args0 about1 = true := code_word (m := ⟨1, 1⟩) (meth := k1m1) (c := k1c1) (by decide +kernel) rfl rfl rfl (by decide +kernel)
set_option maxRecDepth 65536 in
theorem w_c5 : (Jvm.Cond.code ({ cls := "com/example/waypost/waypost/model/DrawsNextPinLaw", name := "unmix", desc := "(J)J" } : Jvm.MethodName) method_3_code (2 : Nat) (Option.some Jvm.ClassFile.FieldType.long)).before args0 about1 = true := code_word (m := ⟨1, 2⟩) (meth := k1m2) (c := k1c2) (by decide +kernel) rfl rfl rfl (by decide +kernel)
def codes1 : List Jvm.Cond := [Jvm.Cond.code x code maxLocals ret, Jvm.Cond.code ({ cls := "com/example/waypost/waypost/model/RandomInstances$Draws", name := "<init>", desc := "(J)V" } : Jvm.MethodName) prog_27_method_1_code (3 : Nat) (Option.none : Option Jvm.ClassFile.FieldType), Jvm.Cond.code ({ cls := "java/lang/Object", name := "<init>", desc := "()V" } : Jvm.MethodName) object_method_1_code (1 : Nat) (Option.none : Option Jvm.ClassFile.FieldType), Jvm.Cond.code ({ cls := "com/example/waypost/waypost/model/RandomInstances$Draws", name := "next", desc := "()J" } : Jvm.MethodName) prog_27_method_2_code (3 : Nat) (Option.some Jvm.ClassFile.FieldType.long), Jvm.Cond.code ({ cls := "com/example/waypost/waypost/model/DrawsNextPinLaw", name := "inv", desc := "(J)J" } : Jvm.MethodName) method_2_code (4 : Nat) (Option.some Jvm.ClassFile.FieldType.long), Jvm.Cond.code ({ cls := "com/example/waypost/waypost/model/DrawsNextPinLaw", name := "unmix", desc := "(J)J" } : Jvm.MethodName) method_3_code (2 : Nat) (Option.some Jvm.ClassFile.FieldType.long)]
set_option maxRecDepth 65536 in
theorem codes_eq : words1.filter isCode = codes1 := rfl
theorem w_codes : ∀ c ∈ words1.filter isCode, c.before args0 about1 = true := by
  rw [codes_eq]
  intro c hc
  simp only [codes1, List.mem_cons, List.not_mem_nil, or_false] at hc
  rcases hc with rfl | rfl | rfl | rfl | rfl | rfl
  · exact w_c0
  · exact w_c1
  · exact w_c2
  · exact w_c3
  · exact w_c4
  · exact w_c5
set_option maxRecDepth 65536 in
theorem w_t1 : (words1.take 24).all (fun c => isCode c || c.before args0 about1) = true := by decide +kernel
set_option maxRecDepth 65536 in
theorem w_t2 : (words1.drop 24).all (fun c => isCode c || c.before args0 about1) = true := by decide +kernel
theorem w_tables : (allAtoms (Jvm.Cond.code x code maxLocals ret :: tables_1)).before args0 about1 = true := by
  rw [allAtoms_all]
  show words1.all (fun c => c.before args0 about1) = true
  refine all_split ?_ w_codes
  rw [← List.take_append_drop 24 words1, List.all_append, w_t1, w_t2]
  rfl
set_option maxRecDepth 65536 in
theorem w_case : (Jvm.Cond.and given_1 narrow_1).before args0 about1 = true := by decide +kernel
theorem w_applies : (headSpec (Jvm.Cond.code x code maxLocals ret :: tables_1) room_1).applies x e0.platform about1 = true :=
  (Spec.applies_iff w_frames).mpr ⟨w_running, w_runnable, w_alone, w_named, w_hears, w_ripe, w_room, w_tables⟩
theorem atStart : AtStart classFile x code maxLocals ret World_1 tables_1 room_1 Calls_1 rest_1 Pre_1 launch0 p0 e0 about1 theMethod args0 below0 :=
  ⟨lists_1, trivial, launch0.admits_env _ _ _, launch0.least_env, fairChoices_fair.cas, fairChoices_fair.clock, w_frames, w_args, w_heap, w_applies, trivial, trivial, w_case⟩
end start1
theorem witness_1 : WitnessClaimed_1 := ⟨start1.p0, start1.e0, start1.about1, start1.theMethod, start1.args0, start1.below0, start1.atStart⟩
end Jvm.Pilot.@@N@@
