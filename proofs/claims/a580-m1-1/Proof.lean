import JvmDerived
import JvmDerived.Pilot.@@N@@Statement
import JvmDerived.Pilot.@@N@@Code
set_option linter.unusedVariables false
set_option linter.unusedSimpArgs false
namespace Jvm.Pilot.@@N@@
open Jvm Jvm.ClassFile Sem Op Lib Jvm.Free Jvm.Stand Jvm.LawKit Jvm.RoadKit Bundle Jvm.Pilot.@@N@@.Jvm.D
/-! the walk's own small layer: 'Go' (from this frame the run comes to an end that Q tells of), one law a return, one law a call -/
def Go (p : Program) (e : Env) (below : List Frame) (s : State) (C S : Nat) (Q : Option Value → Heap → List Loc → Prop) (T : State) (g : JFrame) : Prop :=
  ∃ s₂ o, Steps p.tables e below (T.setTop g) s₂ ∧ s₂.status = .running ∧ Ended s₂ below o ∧ ∃ v L, o = .returned v ∧ Q v s₂.heap L ∧ FrameEnd s o s₂ L C S
/-- a contract: called with these arguments over this heap, the method ends as Q says -/
def MQ (l : Launch) (Z : State) (y : MethodName) (bytes : ByteArray) (maxL : Nat) (rt : Option FieldType) (ws : List Jvm.Cond) (rm : Room) (as : Array Value) (h0 : Heap) (Q : Option Value → Heap → List Loc → Prop) : Prop :=
  MetFree l y (head1 (Jvm.Cond.code y bytes maxL rt :: ws) rm) (fun a U => a = as ∧ Z.Warmed39 U.vm ∧ U.heap = h0) (fun _ _ _ _ _ => True) (fun _ U o U' => ∃ v L, o = .returned v ∧ Q v U'.heap L ∧ FrameEnd U o U' L rm.cells rm.slots)
/-- what a method that writes nothing leaves -/
def QP (r : Option Value) (h0 : Heap) (v : Option Value) (h : Heap) (L : List Loc) : Prop := v = r ∧ h = h0 ∧ L = []
/-- Java's x >>> y, on ints and on longs -/
def ush (x y : Int32) : Int32 := (x.toUInt32 >>> (y &&& 31).toUInt32).toInt32
def ushL (x : Int64) (y : Int32) : Int64 := (x.toUInt64 >>> (y &&& 0x3f).toInt64.toUInt64).toInt64
section Layer
variable {p : Program} {l : Launch} {e : Env} {R : Room} {s : State} {m : MethodId} {args : Array Value} {below : List Frame} {meth : Method} {c : Code} {T T' : State} {locs : List Loc} {cells slots C S : Nat} {Q : Option Value → Heap → List Loc → Prop} {g g' : JFrame} {h : Heap} {Z : State} {a0 : Array Value}
theorem go_step (st : ∀ t, Steps p.tables e below (T'.setTop g') t → Steps p.tables e below (T.setTop g) t) (k : Go p e below s C S Q T' g') : Go p e below s C S Q T g := by
  obtain ⟨s₂, o, h1, r⟩ := k
  exact ⟨s₂, o, st _ h1, r⟩
theorem go_mono {C' S' : Nat} (hc : C ≤ C') (hs : S ≤ S') (k : Go p e below s C S Q T g) : Go p e below s C' S' Q T g := by
  obtain ⟨s₂, o, h1, h2, h3, v, L, h4, h5, h6, h7, h8⟩ := k
  exact ⟨s₂, o, h1, h2, h3, v, L, h4, h5, h6, h7, h8.mono hc hs⟩
theorem lremM {target : State} (X : Stand p l e R s m args below meth c T locs cells slots) (hx : p.tables.exec = Jvm.exec) (hg : g.method = m) {x y : Int64} {rest : List Value} (hd : decode c.code g.pc = .ok (.lrem, 1)) (hs : g.stack = .long y :: .long x :: rest) (hy : y ≠ 0)
    (hr : Steps p.tables e below (T.setTop { g with pc := g.pc + 1, stack := .long (x % y) :: rest }) target) : Steps p.tables e below (T.setTop g) target :=
  XS.lrem X.here hx hg hd hs hy (by rw [lrem_mod]; exact hr)
theorem lookYes {target : State} (X : Stand p l e R s m args below meth c T locs cells slots) (hx : p.tables.exec = Jvm.exec) (hg : g.method = m) {key : Int32} {rest : List Value} {d o kv : Int} {prs : Array (Int × Int)} {len pc0 pc' : Nat} (hpc : g.pc = pc0) (hd : decode c.code g.pc = .ok (.lookupswitch d prs, len)) (hs : g.stack = .int key :: rest) (hso : (prs.toList.zip (prs.toList.drop 1)).all (fun (a, next) => a.1 < next.1) = true) (hf : prs.find? (·.1 == key.toInt) = some (kv, o)) (ho : 0 ≤ (pc0 : Int) + o) (hp : ((pc0 : Int) + o).toNat = pc')
    (hr : Steps p.tables e below (T.setTop { g with pc := pc', stack := rest }) target) : Steps p.tables e below (T.setTop g) target := by
  subst hg hpc hp
  jvm_step X.here [X.here.top, hx, hd, hs, lookupswitch.wp_whole, hso, hf, ho]
  exact ⟨by simpa using hso, hr⟩
theorem lookNo {target : State} (X : Stand p l e R s m args below meth c T locs cells slots) (hx : p.tables.exec = Jvm.exec) (hg : g.method = m) {key : Int32} {rest : List Value} {d : Int} {prs : Array (Int × Int)} {len pc0 pc' : Nat} (hpc : g.pc = pc0) (hd : decode c.code g.pc = .ok (.lookupswitch d prs, len)) (hs : g.stack = .int key :: rest) (hso : (prs.toList.zip (prs.toList.drop 1)).all (fun (a, next) => a.1 < next.1) = true) (hf : prs.find? (·.1 == key.toInt) = none) (ho : 0 ≤ (pc0 : Int) + d) (hp : ((pc0 : Int) + d).toNat = pc')
    (hr : Steps p.tables e below (T.setTop { g with pc := pc', stack := rest }) target) : Steps p.tables e below (T.setTop g) target := by
  subst hg hpc hp
  jvm_step X.here [X.here.top, hx, hd, hs, lookupswitch.wp_whole, hso, hf, ho]
  exact ⟨by simpa using hso, hr⟩
theorem go_cast {r r' : Option Value} {h0 : Heap} (q : r = r') (k : Go p e below s C S (QP r' h0) T g) : Go p e below s C S (QP r h0) T g := q ▸ k
theorem mq_of {y : MethodName} {bytes : ByteArray} {maxL : Nat} {rt : Option FieldType} {ws : List Jvm.Cond} {rm : Room} {as : Array Value} {h0 : Heap} {Q : Option Value → Heap → List Loc → Prop} (hp : plainFor y = true)
    (body : ∀ (p : Program) (e : Env) (s : State) (m : MethodId) (below : List Frame) (meth : Method) (c : Code) (T : State), Stand p l e rm s m as below meth c T [] 0 0 → p.tables.exec = Jvm.exec → c.code = bytes → c.maxLocals = maxL → s.vm.findClass y.cls = some m.cls → meth.name = y.name → Z.Warmed39 s.vm → T.heap = h0 → meth.sig.returnType = rt → meth.locks = false → Go p e below s rm.cells rm.slots Q T (entryFrame m as maxL)) :
    MQ l Z y bytes maxL rt ws rm as h0 Q := by
  refine MetFree.of_bodySF hp hisR ?_
  intro p e s m args below meth c s₁ Bd hml0 hP hK
  obtain ⟨rfl, hZ, hh⟩ := hP
  exact body p e s m below meth c s₁ (Stand.of_body Bd) Bd.exec Bd.bytes hml0 (findClass_of_methodNamed Bd.named) (name_of_methodNamed Bd.named Bd.method).1 hZ (by rw [← hh, Bd.state]; rfl) Bd.returns Bd.notSynchronized
theorem go_retI (X : Stand p l e R s m args below meth c T locs cells slots) (hx : p.tables.exec = Jvm.exec) (hlk : meth.locks = false) (hret : meth.sig.returnType = some .int) {pc : Nat} {Ls : Array Slot} {z : Int32} {rest : List Value} (hd : decode c.code pc = .ok (.ireturn, 1)) (eT : T.heap = h) (hq : Q (some (.int z)) h locs) (hc : cells ≤ C) (hs : slots ≤ S) :
    Go p e below s C S Q T (mkF m pc Ls (.int z :: rest)) := by
  obtain ⟨fs, hr, hrun, hended, hW, hsame⟩ := X.leave (v := some (.int z)) (fun h => by rw [hret] at h; cases h) hlk
  exact ⟨_, _, retOut X hx hret rfl (Or.inl ⟨rfl, Or.inl rfl, z, rfl⟩) hd hr, hrun, hended, _, _, rfl, by (show Q _ T.heap _); rw [eT]; exact hq, ⟨_, rfl⟩, hW, hsame.mono hc hs⟩
theorem go_retZ (X : Stand p l e R s m args below meth c T locs cells slots) (hx : p.tables.exec = Jvm.exec) (hlk : meth.locks = false) (hret : meth.sig.returnType = some .boolean) {pc : Nat} {Ls : Array Slot} {z : Int32} {rest : List Value} (hd : decode c.code pc = .ok (.ireturn, 1)) (eT : T.heap = h) (hq : Q (some (.int (z &&& 1))) h locs) (hc : cells ≤ C) (hs : slots ≤ S) :
    Go p e below s C S Q T (mkF m pc Ls (.int z :: rest)) := by
  obtain ⟨fs, hr, hrun, hended, hW, hsame⟩ := X.leave (v := some (.int (z &&& 1))) (fun h => by rw [hret] at h; cases h) hlk
  exact ⟨_, _, retN X hx (t := .boolean) hret (by simp) hd hr, hrun, hended, _, _, rfl, by (show Q _ T.heap _); rw [eT]; exact hq, ⟨_, rfl⟩, hW, hsame.mono hc hs⟩
theorem go_retJ (X : Stand p l e R s m args below meth c T locs cells slots) (hx : p.tables.exec = Jvm.exec) (hlk : meth.locks = false) (hret : meth.sig.returnType = some .long) {pc : Nat} {Ls : Array Slot} {z : Int64} {rest : List Value} (hd : decode c.code pc = .ok (.lreturn, 1)) (eT : T.heap = h) (hq : Q (some (.long z)) h locs) (hc : cells ≤ C) (hs : slots ≤ S) :
    Go p e below s C S Q T (mkF m pc Ls (.long z :: rest)) := by
  obtain ⟨fs, hr, hrun, hended, hW, hsame⟩ := X.leave (v := some (.long z)) (fun h => by rw [hret] at h; cases h) hlk
  exact ⟨_, _, retOut X hx hret rfl (Or.inr (Or.inl ⟨rfl, rfl, z, rfl⟩)) hd hr, hrun, hended, _, _, rfl, by (show Q _ T.heap _); rw [eT]; exact hq, ⟨_, rfl⟩, hW, hsame.mono hc hs⟩
theorem go_retA (X : Stand p l e R s m args below meth c T locs cells slots) (hx : p.tables.exec = Jvm.exec) (hlk : meth.locks = false) {ty : FieldType} (hret : meth.sig.returnType = some ty) (hty : ty.isReference = true) {pc : Nat} {Ls : Array Slot} {a : Addr} {rest : List Value} (hd : decode c.code pc = .ok (.areturn, 1)) (eT : T.heap = h) (hq : Q (some (.ref a)) h locs) (hc : cells ≤ C) (hs : slots ≤ S) :
    Go p e below s C S Q T (mkF m pc Ls (.ref a :: rest)) := by
  obtain ⟨fs, hr, hrun, hended, hW, hsame⟩ := X.leave (v := some (.ref a)) (fun h => by rw [hret] at h; cases h) hlk
  exact ⟨_, _, retOut X hx hret (by cases ty <;> first | rfl | cases hty) (Or.inr (Or.inr (Or.inr (Or.inr ⟨rfl, hty, rfl⟩)))) hd hr, hrun, hended, _, _, rfl, by (show Q _ T.heap _); rw [eT]; exact hq, ⟨_, rfl⟩, hW, hsame.mono hc hs⟩
theorem go_retV (X : Stand p l e R s m args below meth c T locs cells slots) (hx : p.tables.exec = Jvm.exec) (hlk : meth.locks = false) (hret : meth.sig.returnType = none) {pc : Nat} {Ls : Array Slot} (hd : decode c.code pc = .ok (.return_, 1)) (eT : T.heap = h) (hq : Q none h locs) (hc : cells ≤ C) (hs : slots ≤ S) :
    Go p e below s C S Q T (mkF m pc Ls []) := by
  obtain ⟨fs, hr, hrun, hended, hW, hsame⟩ := X.leave (v := none) (fun _ => rfl) hlk
  exact ⟨_, _, X.returnOut hx hret hd hr, hrun, hended, _, _, rfl, by (show Q _ T.heap _); rw [eT]; exact hq, ⟨_, rfl⟩, hW, hsame.mono hc hs⟩
/-- invokestatic by the callee's contract -/
theorem go_callS (X : Stand p l e R s m args below meth c T locs cells slots) (hx : p.tables.exec = Jvm.exec) (hZ : Z.Warmed39 s.vm) {own : String} {index : Nat} {y : MethodName} {bytes : ByteArray} {maxL : Nat} {rt : Option FieldType} {rm : Room} {as : Array Value} {Q' : Option Value → Heap → List Loc → Prop}
    (hown : s.vm.findClass own = some m.cls) (w1 : (Cond.methodLink own index y).before a0 Z = true) (w2 : (Cond.static y).before a0 Z = true) (w3 : (Cond.initialized y.cls).before a0 Z = true) (w4 : (Cond.code y bytes maxL rt).before a0 Z = true)
    (hy : y.cls ≠ "java/lang/invoke/MethodHandle" ∧ y.cls ≠ "java/lang/invoke/VarHandle") (eT : T.heap = h) (hM : MQ l Z y bytes maxL rt [] rm as h Q') (W : Nat) (hf : rm.frames + 1 ≤ R.frames) (hl : W + (maxL + 11) + rm.locals ≤ R.locals)
    (hg : g.method = m) (hsize : g.locals.size = c.maxLocals) {argsL rest : List Value} (hlen : ∀ sig, parseMethodDescriptor y.desc = some sig → argsL.length = sig.parameters.length)
    (hstack : g.stack = argsL.reverse ++ rest) (hW : 2 * g.monitorRoom + (rest.map fun v => v.category).sum ≤ W) (hdg : decode c.code g.pc = .ok (.invokestatic index, 3)) (has : argsL.toArray = as) (hcells : cells + rm.cells ≤ R.cells) (hslots : slots + rm.slots ≤ R.slots)
    (k : ∀ (T' : State) (v : Option Value) (L : List Loc), Stand p l e R s m args below meth c T' (locs ++ L) (cells + rm.cells) (slots + rm.slots) → Q' v T'.heap L → Go p e below s C S Q T' { g with pc := g.pc + 3, stack := v.toList ++ rest }) :
    Go p e below s C S Q T g := by
  obtain ⟨v, _, ⟨T', L', k', n'⟩, -, X', ⟨Lc, hQ, l1, y1, z1⟩, st⟩ := Jvm.LawKit.callS X hx (y := y) hown (mvT hZ w1) (mvT hZ w2) (mvT hZ w3) (mvT hZ w4) hy (backOf (W := W) hM hZ w4 w3 hf hl) hg hsize (argsL := argsL) (rest := rest) hlen hstack hW hdg (fun _ _ => ⟨has, eT, hcells, hslots⟩)
  dsimp only [Pt.U, Pt.locs, Pt.cells, Pt.slots] at X' l1 y1 z1 st hQ
  subst l1 y1 z1
  exact go_step st (k T' v Lc X' hQ)
theorem go_callSP (X : Stand p l e R s m args below meth c T locs cells slots) (hx : p.tables.exec = Jvm.exec) (hZ : Z.Warmed39 s.vm) {own : String} {index : Nat} {y : MethodName} {bytes : ByteArray} {maxL : Nat} {rt : Option FieldType} {rm : Room} {as : Array Value} {r : Option Value}
    (hown : s.vm.findClass own = some m.cls) (w1 : (Cond.methodLink own index y).before a0 Z = true) (w2 : (Cond.static y).before a0 Z = true) (w3 : (Cond.initialized y.cls).before a0 Z = true) (w4 : (Cond.code y bytes maxL rt).before a0 Z = true)
    (hy : y.cls ≠ "java/lang/invoke/MethodHandle" ∧ y.cls ≠ "java/lang/invoke/VarHandle") (eT : T.heap = h) (hM : MQ l Z y bytes maxL rt [] rm as h (QP r h)) (W : Nat) (hf : rm.frames + 1 ≤ R.frames) (hl : W + (maxL + 11) + rm.locals ≤ R.locals)
    (hg : g.method = m) (hsize : g.locals.size = c.maxLocals) {argsL rest : List Value} (hlen : ∀ sig, parseMethodDescriptor y.desc = some sig → argsL.length = sig.parameters.length)
    (hstack : g.stack = argsL.reverse ++ rest) (hW : 2 * g.monitorRoom + (rest.map fun v => v.category).sum ≤ W) (hdg : decode c.code g.pc = .ok (.invokestatic index, 3)) (has : argsL.toArray = as) (hrc : rm.cells = 0) (hrs : rm.slots = 0) (hcells : cells ≤ R.cells) (hslots : slots ≤ R.slots)
    (k : ∀ (T' : State), Stand p l e R s m args below meth c T' locs cells slots → T'.heap = h → Go p e below s C S Q T' { g with pc := g.pc + 3, stack := r.toList ++ rest }) :
    Go p e below s C S Q T g :=
  go_callS X hx hZ hown w1 w2 w3 w4 hy eT hM W hf hl hg hsize hlen hstack hW hdg has (by rw [hrc]; exact hcells) (by rw [hrs]; exact hslots) fun T' v L X' hQ => by
    obtain ⟨rfl, e', rfl⟩ := hQ
    rw [hrc, hrs, List.append_nil] at X'
    exact k T' X' e'
end Layer
/-! the heap's part of the layer: arrays of numbers as lists, one law a step, in the 'Go' form -/
def PA (Z : State) (h : Heap) (a : Addr) (ty : FieldType) (vs : List Value) : Prop := ∃ c : Cell, Arr Z h a c ty ∧ c.slots = vs.toArray ∧ vs.length < 2 ^ 31
def IA (Z : State) (h : Heap) (a : Addr) (xs : List Int32) : Prop := PA Z h a .int (xs.map Value.int)
def JA (Z : State) (h : Heap) (a : Addr) (xs : List Int64) : Prop := PA Z h a .long (xs.map Value.long)
def BA (Z : State) (h : Heap) (a : Addr) (xs : List Int32) : Prop := PA Z h a .byte (xs.map Value.int)
theorem getD_some {α : Type} {xs : List α} {i : Nat} {d : α} (h : i < xs.length) : xs[i]? = some (xs.getD i d) := by simp [List.getD, h]
section Heapy
variable {p : Program} {l : Launch} {e : Env} {R : Room} {s : State} {m : MethodId} {args : Array Value} {below : List Frame} {meth : Method} {c : Code} {T T' : State} {locs : List Loc} {cells slots C S : Nat} {Q : Option Value → Heap → List Loc → Prop} {g g' : JFrame} {h h' h0 : Heap} {Z : State} {a0 : Array Value} {a b : Addr} {ty ty' : FieldType} {vs vs' : List Value} {ws : List Addr} {sl : Nat} {v : Value}
theorem PA.lt (A : PA Z h a ty vs) : a < h.size := by obtain ⟨c, A, -⟩ := A; exact A.lt
theorem PA.ext (A : PA Z h a ty vs) (E : Ext h h') : PA Z h' a ty vs := by obtain ⟨c, A, r⟩ := A; exact ⟨c, A.ext E, r⟩
theorem PA.other (A : PA Z h b ty vs) (W : Wr h h' a sl v) (q : b ≠ a) : PA Z h' b ty vs := by obtain ⟨c, A, r⟩ := A; exact ⟨c, A.other W q, r⟩
theorem PA.keep (A : PA Z h a ty vs) (K : Keep h h' ws) (q : a ∉ ws) : PA Z h' a ty vs := by obtain ⟨c, A, r⟩ := A; exact ⟨c, ⟨K.2.1 a c A.1 q, A.2⟩, r⟩
theorem PA.set {i : Nat} (A : PA Z h a ty vs) (W : Wr h h' a i v) : PA Z h' a ty (vs.set i v) := by
  obtain ⟨c, A, r, r2⟩ := A
  refine ⟨_, A.same W, ?_, by simpa using r2⟩
  simp [Cell.setSlot, r]
theorem IA.lt {xs : List Int32} (A : IA Z h a xs) : a < h.size := PA.lt A
theorem IA.ext {xs : List Int32} (A : IA Z h a xs) (E : Ext h h') : IA Z h' a xs := PA.ext A E
theorem IA.other {xs : List Int32} (A : IA Z h b xs) (W : Wr h h' a sl v) (q : b ≠ a) : IA Z h' b xs := PA.other A W q
theorem IA.keep {xs : List Int32} (A : IA Z h a xs) (K : Keep h h' ws) (q : a ∉ ws) : IA Z h' a xs := PA.keep A K q
theorem JA.lt {xs : List Int64} (A : JA Z h a xs) : a < h.size := PA.lt A
theorem JA.ext {xs : List Int64} (A : JA Z h a xs) (E : Ext h h') : JA Z h' a xs := PA.ext A E
theorem JA.other {xs : List Int64} (A : JA Z h b xs) (W : Wr h h' a sl v) (q : b ≠ a) : JA Z h' b xs := PA.other A W q
theorem JA.keep {xs : List Int64} (A : JA Z h a xs) (K : Keep h h' ws) (q : a ∉ ws) : JA Z h' a xs := PA.keep A K q
theorem BA.lt {xs : List Int32} (A : BA Z h a xs) : a < h.size := PA.lt A
theorem BA.ext {xs : List Int32} (A : BA Z h a xs) (E : Ext h h') : BA Z h' a xs := PA.ext A E
theorem BA.other {xs : List Int32} (A : BA Z h b xs) (W : Wr h h' a sl v) (q : b ≠ a) : BA Z h' b xs := PA.other A W q
theorem BA.keep {xs : List Int32} (A : BA Z h a xs) (K : Keep h h' ws) (q : a ∉ ws) : BA Z h' a xs := PA.keep A K q
theorem Exa.keepK {K : String} (F : Exa Z h a K) (q : Keep h h' ws) : Exa Z h' a K := Exa.keep F q
/-- arrays of two kinds are two arrays; an object of a class is none -/
theorem pa_ne (A : PA Z h a ty vs) (B : PA Z h b ty' vs') (hn : ty ≠ ty') : a ≠ b := fun q => by
  subst q
  obtain ⟨c1, A1, -⟩ := A
  obtain ⟨c2, B1, -⟩ := B
  cases A1.1.symm.trans B1.1
  obtain ⟨-, k1, j1, comp1, q1⟩ := A1.2.1
  obtain ⟨-, k2, j2, comp2, q2⟩ := B1.2.1
  cases j1.symm.trans j2
  rw [q1] at q2
  cases q2
  exact hn rfl
theorem exa_pa {K : String} {k : Nat} (F : Exa Z h a K) (wi : (Cond.instantiable K k).before a0 Z = true) (A : PA Z h b ty vs) : a ≠ b := by
  obtain ⟨c, A, -⟩ := A
  exact ne_arr F wi A
theorem PA.slot {i : Nat} (A : PA Z h a ty vs) {w : Value} (hv : vs[i]? = some w) : ∃ c : Cell, Arr Z h a c ty ∧ i < c.slots.size ∧ c.slots[i]? = some w := by
  obtain ⟨c, A, r, -⟩ := A
  have hi := (List.getElem?_eq_some_iff.mp hv).1
  exact ⟨c, A, by rw [r]; simpa using hi, by rw [r]; simpa using hv⟩
theorem go_iaload (X : Stand p l e R s m args below meth c T locs cells slots) (hx : p.tables.exec = Jvm.exec) (hZ : Z.Warmed39 s.vm) (eT : T.heap = h) {xs : List Int32} (A : IA Z h a xs) {j w : Int32} (hj : ¬ j < 0) (hv : xs[j.toNatClampNeg]? = some w) {rest : List Value} (hg : g.method = m) (hs : g.stack = .int j :: .ref a :: rest) (hd : decode c.code g.pc = .ok (.iaload, 1))
    (k : Go p e below s C S Q T { g with pc := g.pc + 1, stack := .int w :: rest }) : Go p e below s C S Q T g := by
  obtain ⟨cl, A, hi, hv'⟩ := PA.slot A (w := .int w) (by rw [List.getElem?_map, hv]; rfl)
  exact go_step (X.iaload hx (j := j) (v := .int w) (by rw [eT]; exact A.1) (State.isArrayOf_alike hZ.alike A.2.1) A.2.2 (fun q => q.elim hj (fun q => Nat.not_le_of_lt hi q)) hv' hg hs hd) k
theorem go_laload (X : Stand p l e R s m args below meth c T locs cells slots) (hx : p.tables.exec = Jvm.exec) (hZ : Z.Warmed39 s.vm) (eT : T.heap = h) {xs : List Int64} (A : JA Z h a xs) {j : Int32} {w : Int64} (hj : ¬ j < 0) (hv : xs[j.toNatClampNeg]? = some w) {rest : List Value} (hg : g.method = m) (hs : g.stack = .int j :: .ref a :: rest) (hd : decode c.code g.pc = .ok (.laload, 1))
    (k : Go p e below s C S Q T { g with pc := g.pc + 1, stack := .long w :: rest }) : Go p e below s C S Q T g := by
  obtain ⟨cl, A, hi, hv'⟩ := PA.slot A (w := .long w) (by rw [List.getElem?_map, hv]; rfl)
  exact go_step (X.laload hx (j := j) (v := .long w) (by rw [eT]; exact A.1) (State.isArrayOf_alike hZ.alike A.2.1) A.2.2 (fun q => q.elim hj (fun q => Nat.not_le_of_lt hi q)) hv' hg hs hd) k
theorem go_baload (X : Stand p l e R s m args below meth c T locs cells slots) (hx : p.tables.exec = Jvm.exec) (hZ : Z.Warmed39 s.vm) (eT : T.heap = h) {xs : List Int32} (A : BA Z h a xs) {j w : Int32} (hj : ¬ j < 0) (hv : xs[j.toNatClampNeg]? = some w) {rest : List Value} (hg : g.method = m) (hs : g.stack = .int j :: .ref a :: rest) (hd : decode c.code g.pc = .ok (.baload, 1))
    (k : Go p e below s C S Q T { g with pc := g.pc + 1, stack := .int w :: rest }) : Go p e below s C S Q T g := by
  obtain ⟨cl, A, hi, hv'⟩ := PA.slot A (w := .int w) (by rw [List.getElem?_map, hv]; rfl)
  exact go_step (X.baloadBytes hx (j := j) (v := .int w) (by rw [eT]; exact A.1) (State.isArrayOf_alike hZ.alike A.2.1) A.2.2 (fun q => q.elim hj (fun q => Nat.not_le_of_lt hi q)) hv' hg hs hd) k
theorem go_alen (X : Stand p l e R s m args below meth c T locs cells slots) (hx : p.tables.exec = Jvm.exec) (hZ : Z.Warmed39 s.vm) (eT : T.heap = h) (A : PA Z h a ty vs) {z : Int32} (hz : vs.length.toInt32 = z) {rest : List Value} (hg : g.method = m) (hs : g.stack = .ref a :: rest) (hd : decode c.code g.pc = .ok (.arraylength, 1))
    (k : Go p e below s C S Q T { g with pc := g.pc + 1, stack := .int z :: rest }) : Go p e below s C S Q T g := by
  obtain ⟨cl, A, r, -⟩ := A
  have q : cl.slots.size.toInt32 = z := by rw [r]; simpa using hz
  subst q
  exact go_step (X.arraylength hx (by rw [eT]; exact A.1) (State.isArrayOf_alike hZ.alike A.2.1) hg hs hd) k
theorem go_iastore (X : Stand p l e R s m args below meth c T locs cells slots) (hx : p.tables.exec = Jvm.exec) (hZ : Z.Warmed39 s.vm) (eT : T.heap = h) {xs : List Int32} (A : IA Z h a xs) {j w : Int32} (hj : ¬ j < 0) (hl : j.toNatClampNeg < xs.length) {rest : List Value} (hg : g.method = m) (hs : g.stack = .int w :: .int j :: .ref a :: rest) (hd : decode c.code g.pc = .ok (.iastore, 1))
    (k : ∀ (T' : State) (h' : Heap), Stand p l e R s m args below meth c T' (locs ++ [⟨a, j.toNatClampNeg⟩]) cells slots → T'.heap = h' → Wr h h' a j.toNatClampNeg (.int w) → IA Z h' a (xs.set j.toNatClampNeg w) → Go p e below s C S Q T' { g with pc := g.pc + 1, stack := rest }) : Go p e below s C S Q T g := by
  have A' := A
  obtain ⟨cl, A, r, -⟩ := A
  obtain ⟨T', h', X', e', W, st⟩ := stI X hx hZ eT A (j := j) (x := w) (fun q => q.elim hj (fun q => by rw [r] at q; simp at q; omega)) hg hs hd
  exact go_step st (k T' h' X' e' W (by rw [IA, List.map_set]; exact PA.set A' W))
theorem go_lastore (X : Stand p l e R s m args below meth c T locs cells slots) (hx : p.tables.exec = Jvm.exec) (hZ : Z.Warmed39 s.vm) (eT : T.heap = h) {xs : List Int64} (A : JA Z h a xs) {j : Int32} {w : Int64} (hj : ¬ j < 0) (hl : j.toNatClampNeg < xs.length) {rest : List Value} (hg : g.method = m) (hs : g.stack = .long w :: .int j :: .ref a :: rest) (hd : decode c.code g.pc = .ok (.lastore, 1))
    (k : ∀ (T' : State) (h' : Heap), Stand p l e R s m args below meth c T' (locs ++ [⟨a, j.toNatClampNeg⟩]) cells slots → T'.heap = h' → Wr h h' a j.toNatClampNeg (.long w) → JA Z h' a (xs.set j.toNatClampNeg w) → Go p e below s C S Q T' { g with pc := g.pc + 1, stack := rest }) : Go p e below s C S Q T g := by
  have A' := A
  obtain ⟨cl, A, r, -⟩ := A
  obtain ⟨T', h', X', e', W, st⟩ := stJ X hx hZ eT A (j := j) (x := w) (fun q => q.elim hj (fun q => by rw [r] at q; simp at q; omega)) hg hs hd
  exact go_step st (k T' h' X' e' W (by rw [JA, List.map_set]; exact PA.set A' W))
theorem go_bastore (X : Stand p l e R s m args below meth c T locs cells slots) (hx : p.tables.exec = Jvm.exec) (hZ : Z.Warmed39 s.vm) (eT : T.heap = h) {xs : List Int32} (A : BA Z h a xs) {j w : Int32} (hj : ¬ j < 0) (hl : j.toNatClampNeg < xs.length) {rest : List Value} (hg : g.method = m) (hs : g.stack = .int w :: .int j :: .ref a :: rest) (hd : decode c.code g.pc = .ok (.bastore, 1))
    (k : ∀ (T' : State) (h' : Heap), Stand p l e R s m args below meth c T' (locs ++ [⟨a, j.toNatClampNeg⟩]) cells slots → T'.heap = h' → Wr h h' a j.toNatClampNeg (.int w.toInt8.toInt32) → BA Z h' a (xs.set j.toNatClampNeg w.toInt8.toInt32) → Go p e below s C S Q T' { g with pc := g.pc + 1, stack := rest }) : Go p e below s C S Q T g := by
  have A' := A
  obtain ⟨cl, A, r, -⟩ := A
  obtain ⟨T', h', X', e', W, st⟩ := stB X hx hZ eT A (j := j) (x := w) (fun q => q.elim hj (fun q => by rw [r] at q; simp at q; omega)) hg hs hd
  exact go_step st (k T' h' X' e' W (by rw [BA, List.map_set]; exact PA.set A' W))
/-- newarray of a kind of numbers: 'n' of them at most 'cap' -/
theorem go_newP (X : Stand p l e R s m args below meth c T locs cells slots) (hx : p.tables.exec = Jvm.exec) (hZ : Z.Warmed39 s.vm) {aty : ArrayType} (w : (Cond.arrayClass (newarray.typeOf aty)).before a0 Z = true) (eT : T.heap = h) {n : Int32} {rest : List Value} (cap : Nat) (hn : ¬ n < 0) (hcap : n.toNatClampNeg ≤ cap) (hb : cap * 8 ≤ 536870912) (hc : cells + 1 ≤ R.cells) (hl : slots + cap ≤ R.slots) (hg : g.method = m) (hs : g.stack = .int n :: rest) (hd : decode c.code g.pc = .ok (.newarray aty, 2))
    (k : ∀ (T' : State) (h' : Heap) (b : Addr), Stand p l e R s m args below meth c T' locs (cells + 1) (slots + cap) → T'.heap = h' → Ext h h' → b = h.size → PA Z h' b (newarray.typeOf aty) (List.replicate n.toNatClampNeg (defaultValue (newarray.typeOf aty))) → Go p e below s C S Q T' { g with pc := g.pc + 2, stack := .ref b :: rest }) : Go p e below s C S Q T g := by
  obtain ⟨T', h', cA, X', e', E, A, st⟩ := newP X hx hZ w eT hg hd hs hn hcap hb hc hl
  refine go_step st (k T' h' _ X' e' E rfl ⟨_, A, by simp [newA], ?_⟩)
  have := n.toInt_lt
  simp only [List.length_replicate, Int32.toNatClampNeg]; omega
theorem go_new (X : Stand p l e R s m args below meth c T locs cells slots) (hx : p.tables.exec = Jvm.exec) (hZ : Z.Warmed39 s.vm) {own K : String} {index n : Nat} (hown : s.vm.findClass own = some m.cls) (w : (Cond.classLink own index K).before a0 Z = true) (wi : (Cond.instantiable K n).before a0 Z = true) (wz : (Cond.initialized K).before a0 Z = true) (eT : T.heap = h) (hc : cells + 1 ≤ R.cells) (hl : slots + n ≤ R.slots) (hg : g.method = m) (hd : decode c.code g.pc = .ok (.new index, 3))
    (k : ∀ (T' : State) (h' : Heap) (b : Addr), Stand p l e R s m args below meth c T' locs (cells + 1) (slots + n) → T'.heap = h' → Ext h h' → b = h.size → Exa Z h' b K → (∀ {O nm d : String} {ty : FieldType}, Laid Z a0 K O nm d → parseFieldDescriptor d = some ty → Fld Z h' b O nm d (defaultValue ty)) → Go p e below s C S Q T' { g with pc := g.pc + 3, stack := .ref b :: g.stack }) : Go p e below s C S Q T g := by
  obtain ⟨T', h', X', e', E, A, D, -, st⟩ := newO X hx hZ hown w wi wz eT hg hd hc hl
  exact go_step st (k T' h' _ X' e' E rfl A D)
theorem go_getF (X : Stand p l e R s m args below meth c T locs cells slots) (hx : p.tables.exec = Jvm.exec) (hZ : Z.Warmed39 s.vm) {own O n d : String} {index : Nat} (hown : s.vm.findClass own = some m.cls) (w : (Cond.fieldLink own index O n d).before a0 Z = true) (eT : T.heap = h) {w0 : Value} (F : Fld Z h a O n d w0) {rest : List Value} (hg : g.method = m) (hs : g.stack = .ref a :: rest) (hd : decode c.code g.pc = .ok (.getfield index, 3))
    (k : ∀ (T' : State), Stand p l e R s m args below meth c T' locs cells slots → T'.heap = h → Go p e below s C S Q T' { g with pc := g.pc + 3, stack := w0 :: rest }) : Go p e below s C S Q T g := by
  obtain ⟨T', X', e', st⟩ := getF X hx hZ hown (host := "") (Or.inl w) Via.refl eT F hg hs hd
  exact go_step st (k T' X' e')
theorem go_putF (X : Stand p l e R s m args below meth c T locs cells slots) (hx : p.tables.exec = Jvm.exec) (hZ : Z.Warmed39 s.vm) {own O n d K : String} {index kk : Nat} {ty : FieldType} (hown : s.vm.findClass own = some m.cls) (w : (Cond.fieldLink own index O n d).before a0 Z = true) (eT : T.heap = h) {w0 old : Value} (F : Fld Z h a O n d old) (E : Exa Z h a K) (L : (Cond.lays K O n d).before a0 Z = true ∨ ((Cond.laysFinal K O n d).before a0 Z = true ∧ own = O ∧ meth.name = "<init>")) (wi : (Cond.instantiable K kk).before a0 Z = true) (hty : parseFieldDescriptor d = some ty) (hn : narrow ty w0 = w0) (hf : fits ty w0 = true) {rest : List Value} (hg : g.method = m) (hs : g.stack = w0 :: .ref a :: rest) (hd : decode c.code g.pc = .ok (.putfield index, 3))
    (k : ∀ (T' : State) (h' : Heap), Stand p l e R s m args below meth c T' (locs ++ [⟨a, Jvm.RoadKit.slotOf Z O n d⟩]) cells slots → T'.heap = h' → Wr h h' a (Jvm.RoadKit.slotOf Z O n d) w0 → Fld Z h' a O n d w0 → Go p e below s C S Q T' { g with pc := g.pc + 3, stack := rest }) : Go p e below s C S Q T g := by
  obtain ⟨T', h', X', e', W, st⟩ := putF X hx hZ hown (host := "") (Or.inl w) Via.refl eT F E L wi hty hn hf hg hs hd
  exact go_step st (k T' h' X' e' W (F.same W))
theorem go_init (X : Stand p l e R s m args below meth c T locs cells slots) (hx : p.tables.exec = Jvm.exec) (hZ : Z.Warmed39 s.vm) {own : String} {idx : Nat} (hown : s.vm.findClass own = some m.cls) (w1 : (Cond.methodLink own idx Lib.objectInit).before a0 Z = true) (w2 : (Cond.instanceMethod Lib.objectInit).before a0 Z = true) (w3 : (Cond.code Lib.objectInit ⟨#[0xb1]⟩ 1 none).before a0 Z = true) (eT : T.heap = h) (hg : g.method = m) (hsize : g.locals.size = c.maxLocals) {rest : List Value} (hs : g.stack = .ref a :: rest) (hd : decode c.code g.pc = .ok (.invokespecial idx, 3)) (hf : 1 ≤ R.frames) (W : Nat) (hW : 2 * g.monitorRoom + (rest.map fun v => v.category).sum ≤ W) (hl : W + 12 ≤ R.locals)
    (k : ∀ (T' : State), Stand p l e R s m args below meth c T' locs cells slots → T'.heap = h → Go p e below s C S Q T' { g with pc := g.pc + 3, stack := rest }) : Go p e below s C S Q T g := by
  obtain ⟨T', X', e', st⟩ := initO X hx hZ hown w1 w2 w3 eT hg hsize hs hd hf (W := W) hW hl
  exact go_step st (k T' X' e')
/-- a constructor by its contract -/
theorem go_callC (X : Stand p l e R s m args below meth c T locs cells slots) (hx : p.tables.exec = Jvm.exec) (hZ : Z.Warmed39 s.vm) {own : String} {index : Nat} {y : MethodName} {bytes : ByteArray} {maxL : Nat} {rm : Room} {as : Array Value} {Q' : Option Value → Heap → List Loc → Prop} (hy1 : y.name = "<init>")
    (hown : s.vm.findClass own = some m.cls) (w1 : (Cond.methodLink own index y).before a0 Z = true) (w2 : (Cond.instanceMethod y).before a0 Z = true) (w3 : (Cond.initialized y.cls).before a0 Z = true) (w4 : (Cond.code y bytes maxL none).before a0 Z = true)
    (hy : y.cls ≠ "java/lang/invoke/MethodHandle" ∧ y.cls ≠ "java/lang/invoke/VarHandle") (eT : T.heap = h) (hM : MQ l Z y bytes maxL none [] rm as h Q') (W : Nat) (hf : rm.frames + 1 ≤ R.frames) (hl : W + (maxL + 11) + rm.locals ≤ R.locals)
    (hg : g.method = m) (hsize : g.locals.size = c.maxLocals) {argsL rest : List Value} (hlen : ∀ sig, parseMethodDescriptor y.desc = some sig → argsL.length = sig.parameters.length)
    (hstack : g.stack = argsL.reverse ++ .ref a :: rest) (hW : 2 * g.monitorRoom + (rest.map fun v => v.category).sum ≤ W) (hdg : decode c.code g.pc = .ok (.invokespecial index, 3)) (has : (.ref a :: argsL).toArray = as) (hcells : cells + rm.cells ≤ R.cells) (hslots : slots + rm.slots ≤ R.slots)
    (k : ∀ (T' : State) (v : Option Value) (L : List Loc), Stand p l e R s m args below meth c T' (locs ++ L) (cells + rm.cells) (slots + rm.slots) → Q' v T'.heap L → Go p e below s C S Q T' { g with pc := g.pc + 3, stack := v.toList ++ rest }) :
    Go p e below s C S Q T g := by
  obtain ⟨v, _, ⟨T', L', k', n'⟩, -, X', ⟨Lc, hQ, l1, y1, z1⟩, st⟩ := X.specialBack hx (y := y) hy1 hown (mvT hZ w1) (mvT hZ w2) (mvT hZ w4) hy (backOf (W := W) hM hZ w4 w3 hf hl) hg hsize (Steps.refl _) (a := a) (argsL := argsL) (rest := rest) hlen hstack hW hdg (fun _ _ => ⟨has, eT, hcells, hslots⟩)
  dsimp only [Pt.U, Pt.locs, Pt.cells, Pt.slots] at X' l1 y1 z1 st hQ
  subst l1 y1 z1
  exact go_step (fun t k => st.trans k) (k T' v Lc X' hQ)
/-- an instance method by its contract -/
theorem go_callV (X : Stand p l e R s m args below meth c T locs cells slots) (hx : p.tables.exec = Jvm.exec) (hZ : Z.Warmed39 s.vm) {own : String} {index : Nat} {y : MethodName} {bytes : ByteArray} {maxL : Nat} {rt : Option FieldType} {rm : Room} {as : Array Value} {Q' : Option Value → Heap → List Loc → Prop}
    (hown : s.vm.findClass own = some m.cls) (w1 : (Cond.methodLink own index y).before a0 Z = true) (w2 : (Cond.declares y).before a0 Z = true) (w5 : (Cond.selects y.cls y y).before a0 Z = true) (w6 : (Cond.instanceMethod y).before a0 Z = true) (w3 : (Cond.initialized y.cls).before a0 Z = true) (w4 : (Cond.code y bytes maxL rt).before a0 Z = true)
    (hy : y.cls ≠ "java/lang/invoke/MethodHandle" ∧ y.cls ≠ "java/lang/invoke/VarHandle") (eT : T.heap = h) (E : Exa Z h a y.cls) (hM : MQ l Z y bytes maxL rt [] rm as h Q') (W : Nat) (hf : rm.frames + 1 ≤ R.frames) (hl : W + (maxL + 11) + rm.locals ≤ R.locals)
    (hg : g.method = m) (hsize : g.locals.size = c.maxLocals) {argsL rest : List Value} (hlen : ∀ sig, parseMethodDescriptor y.desc = some sig → argsL.length = sig.parameters.length)
    (hstack : g.stack = argsL.reverse ++ .ref a :: rest) (hW : 2 * g.monitorRoom + (rest.map fun v => v.category).sum ≤ W) (hdg : decode c.code g.pc = .ok (.invokevirtual index, 3)) (has : (.ref a :: argsL).toArray = as) (hcells : cells + rm.cells ≤ R.cells) (hslots : slots + rm.slots ≤ R.slots)
    (k : ∀ (T' : State) (v : Option Value) (L : List Loc), Stand p l e R s m args below meth c T' (locs ++ L) (cells + rm.cells) (slots + rm.slots) → Q' v T'.heap L → Go p e below s C S Q T' { g with pc := g.pc + 3, stack := v.toList ++ rest }) :
    Go p e below s C S Q T g := by
  obtain ⟨cq, kq, qa, qb, qc⟩ := isOf hZ eT E
  obtain ⟨v, _, ⟨T', L', k', n'⟩, -, X', ⟨Lc, hQ, l1, y1, z1⟩, st⟩ := X.virtualBack hx (y := y) (z := y) hown (mvT hZ w1) (mvT hZ w2) (notFace_of_selects (args := #[]) (mvT hZ w5)) (mvT hZ w5) (mvT hZ w6) hy (backOf (W := W) hM hZ w4 w3 hf hl) qa qc hg hsize (Steps.refl _) (argsL := argsL) (rest := rest) hlen hstack hW hdg (fun _ _ => ⟨has, eT, hcells, hslots⟩)
  dsimp only [Pt.U, Pt.locs, Pt.cells, Pt.slots] at X' l1 y1 z1 st hQ
  subst l1 y1 z1
  exact go_step (fun t k => st.trans k) (k T' v Lc X' hQ)
theorem go_callVP (X : Stand p l e R s m args below meth c T locs cells slots) (hx : p.tables.exec = Jvm.exec) (hZ : Z.Warmed39 s.vm) {own : String} {index : Nat} {y : MethodName} {bytes : ByteArray} {maxL : Nat} {rt : Option FieldType} {rm : Room} {as : Array Value} {r : Option Value}
    (hown : s.vm.findClass own = some m.cls) (w1 : (Cond.methodLink own index y).before a0 Z = true) (w2 : (Cond.declares y).before a0 Z = true) (w5 : (Cond.selects y.cls y y).before a0 Z = true) (w6 : (Cond.instanceMethod y).before a0 Z = true) (w3 : (Cond.initialized y.cls).before a0 Z = true) (w4 : (Cond.code y bytes maxL rt).before a0 Z = true)
    (hy : y.cls ≠ "java/lang/invoke/MethodHandle" ∧ y.cls ≠ "java/lang/invoke/VarHandle") (eT : T.heap = h) (E : Exa Z h a y.cls) (hM : MQ l Z y bytes maxL rt [] rm as h (QP r h)) (W : Nat) (hf : rm.frames + 1 ≤ R.frames) (hl : W + (maxL + 11) + rm.locals ≤ R.locals)
    (hg : g.method = m) (hsize : g.locals.size = c.maxLocals) {argsL rest : List Value} (hlen : ∀ sig, parseMethodDescriptor y.desc = some sig → argsL.length = sig.parameters.length)
    (hstack : g.stack = argsL.reverse ++ .ref a :: rest) (hW : 2 * g.monitorRoom + (rest.map fun v => v.category).sum ≤ W) (hdg : decode c.code g.pc = .ok (.invokevirtual index, 3)) (has : (.ref a :: argsL).toArray = as) (hrc : rm.cells = 0) (hrs : rm.slots = 0) (hcells : cells ≤ R.cells) (hslots : slots ≤ R.slots)
    (k : ∀ (T' : State), Stand p l e R s m args below meth c T' locs cells slots → T'.heap = h → Go p e below s C S Q T' { g with pc := g.pc + 3, stack := r.toList ++ rest }) :
    Go p e below s C S Q T g :=
  go_callV X hx hZ hown w1 w2 w5 w6 w3 w4 hy eT E hM W hf hl hg hsize hlen hstack hW hdg has (by rw [hrc]; exact hcells) (by rw [hrs]; exact hslots) fun T' v L X' hQ => by
    obtain ⟨rfl, e', rfl⟩ := hQ
    rw [hrc, hrs, List.append_nil] at X'
    exact k T' X' e'
/-- a private instance method by its contract -/
theorem go_callR (X : Stand p l e R s m args below meth c T locs cells slots) (hx : p.tables.exec = Jvm.exec) (hZ : Z.Warmed39 s.vm) {own : String} {index : Nat} {y : MethodName} {bytes : ByteArray} {maxL : Nat} {rt : Option FieldType} {rm : Room} {as : Array Value} {Q' : Option Value → Heap → List Loc → Prop}
    (hown : s.vm.findClass own = some m.cls) (w1 : (Cond.methodLink own index y).before a0 Z = true) (w6 : (Cond.instanceMethod y).before a0 Z = true) (w5 : (Cond.selects y.cls y y).before a0 Z = true) (w7 : (Cond.privateMethod y).before a0 Z = true) (w3 : (Cond.initialized y.cls).before a0 Z = true) (w4 : (Cond.code y bytes maxL rt).before a0 Z = true)
    (hy : y.cls ≠ "java/lang/invoke/MethodHandle" ∧ y.cls ≠ "java/lang/invoke/VarHandle") (eT : T.heap = h) {K : String} (E : Exa Z h a K) (hM : MQ l Z y bytes maxL rt [] rm as h Q') (W : Nat) (hf : rm.frames + 1 ≤ R.frames) (hl : W + (maxL + 11) + rm.locals ≤ R.locals)
    (hg : g.method = m) (hsize : g.locals.size = c.maxLocals) {argsL rest : List Value} (hlen : ∀ sig, parseMethodDescriptor y.desc = some sig → argsL.length = sig.parameters.length)
    (hstack : g.stack = argsL.reverse ++ .ref a :: rest) (hW : 2 * g.monitorRoom + (rest.map fun v => v.category).sum ≤ W) (hdg : decode c.code g.pc = .ok (.invokevirtual index, 3)) (has : (.ref a :: argsL).toArray = as) (hcells : cells + rm.cells ≤ R.cells) (hslots : slots + rm.slots ≤ R.slots)
    (k : ∀ (T' : State) (v : Option Value) (L : List Loc), Stand p l e R s m args below meth c T' (locs ++ L) (cells + rm.cells) (slots + rm.slots) → Q' v T'.heap L → Go p e below s C S Q T' { g with pc := g.pc + 3, stack := v.toList ++ rest }) :
    Go p e below s C S Q T g := by
  obtain ⟨cq, q1, q2⟩ := E.cell
  obtain ⟨v, _, ⟨T', L', k', n'⟩, -, X', ⟨Lc, hQ, l1, y1, z1⟩, st⟩ := X.privateBack hx (y := y) hown (mvT hZ w1) (mvT hZ w6) (mvT hZ w5) (Cond.privateMethod_at (mvP hZ w7 (args := #[]))) (mvT hZ w4) hy (backOf (W := W) hM hZ w4 w3 hf hl) hg hsize (Steps.refl _) (a := a) (by rw [eT]; exact q1) q2 (argsL := argsL) (rest := rest) hlen hstack hW hdg (fun _ _ => ⟨has, eT, hcells, hslots⟩)
  dsimp only [Pt.U, Pt.locs, Pt.cells, Pt.slots] at X' l1 y1 z1 st hQ
  subst l1 y1 z1
  exact go_step (fun t k => st.trans k) (k T' v Lc X' hQ)
theorem go_callRP (X : Stand p l e R s m args below meth c T locs cells slots) (hx : p.tables.exec = Jvm.exec) (hZ : Z.Warmed39 s.vm) {own : String} {index : Nat} {y : MethodName} {bytes : ByteArray} {maxL : Nat} {rt : Option FieldType} {rm : Room} {as : Array Value} {r : Option Value}
    (hown : s.vm.findClass own = some m.cls) (w1 : (Cond.methodLink own index y).before a0 Z = true) (w6 : (Cond.instanceMethod y).before a0 Z = true) (w5 : (Cond.selects y.cls y y).before a0 Z = true) (w7 : (Cond.privateMethod y).before a0 Z = true) (w3 : (Cond.initialized y.cls).before a0 Z = true) (w4 : (Cond.code y bytes maxL rt).before a0 Z = true)
    (hy : y.cls ≠ "java/lang/invoke/MethodHandle" ∧ y.cls ≠ "java/lang/invoke/VarHandle") (eT : T.heap = h) {K : String} (E : Exa Z h a K) (hM : MQ l Z y bytes maxL rt [] rm as h (QP r h)) (W : Nat) (hf : rm.frames + 1 ≤ R.frames) (hl : W + (maxL + 11) + rm.locals ≤ R.locals)
    (hg : g.method = m) (hsize : g.locals.size = c.maxLocals) {argsL rest : List Value} (hlen : ∀ sig, parseMethodDescriptor y.desc = some sig → argsL.length = sig.parameters.length)
    (hstack : g.stack = argsL.reverse ++ .ref a :: rest) (hW : 2 * g.monitorRoom + (rest.map fun v => v.category).sum ≤ W) (hdg : decode c.code g.pc = .ok (.invokevirtual index, 3)) (has : (.ref a :: argsL).toArray = as) (hrc : rm.cells = 0) (hrs : rm.slots = 0) (hcells : cells ≤ R.cells) (hslots : slots ≤ R.slots)
    (k : ∀ (T' : State), Stand p l e R s m args below meth c T' locs cells slots → T'.heap = h → Go p e below s C S Q T' { g with pc := g.pc + 3, stack := r.toList ++ rest }) :
    Go p e below s C S Q T g :=
  go_callR X hx hZ hown w1 w6 w5 w7 w3 w4 hy eT E hM W hf hl hg hsize hlen hstack hW hdg has (by rw [hrc]; exact hcells) (by rw [hrs]; exact hslots) fun T' v L X' hQ => by
    obtain ⟨rfl, e', rfl⟩ := hQ
    rw [hrc, hrs, List.append_nil] at X'
    exact k T' X' e'
theorem go_join (X : Stand p l e R s m args below meth c T locs cells slots) (k1 : (∀ (T' : State), Stand p l e R s m args below meth c T' locs cells slots → T'.heap = h → Go p e below s C S Q T' g') → Go p e below s C S Q T g) (k2 : ∀ (T' : State), Stand p l e R s m args below meth c T' locs cells slots → T'.heap = h → Go p e below s C S Q T' g') : Go p e below s C S Q T g := k1 k2
end Heapy

theorem pd_0 : parseMethodDescriptor "(III)Z" = some ⟨[.int, .int, .int], some .boolean⟩ := by decide +kernel
theorem pd_1 : parseMethodDescriptor "(I)Z" = some ⟨[.int], some .boolean⟩ := by decide +kernel
theorem own_idx (v : Int32) : ¬ ((ush v (1 : Int32)) % (48 : Int32)) < 0 ∧ ((ush v (1 : Int32)) % (48 : Int32)).toNatClampNeg < 48 := by
  have m1 := c_iushr v (1 : Int32) 1 (by decide) (by decide)
  rw [show ((2 ^ 1 : Nat) : Int) = 2 by decide] at m1
  have e : (ush v (1 : Int32)).toInt = (v.toInt % 4294967296) / 2 := m1
  have m3 := (c_irem (ush v (1 : Int32)) (48 : Int32) 48 (by decide)).1 (by omega)
  constructor
  · rw [Int32.lt_iff_toInt_lt, show (0 : Int32).toInt = 0 by decide]; omega
  · unfold Int32.toNatClampNeg; omega

theorem d1_0 : decode prog_38_method_4_code 0 = .ok (.iload_n 0, 1) := by decide +kernel
theorem d1_1 : decode prog_38_method_4_code 1 = .ok (.ldc 22, 2) := by decide +kernel
theorem d1_3 : decode prog_38_method_4_code 3 = .ok (.if_icmp .ge 49, 3) := by decide +kernel
theorem d1_6 : decode prog_38_method_4_code 6 = .ok (.iload_n 0, 1) := by decide +kernel
theorem d1_7 : decode prog_38_method_4_code 7 = .ok (.sipush 160, 3) := by decide +kernel
theorem d1_10 : decode prog_38_method_4_code 10 = .ok (.if_icmp .lt 9, 3) := by decide +kernel
theorem d1_13 : decode prog_38_method_4_code 13 = .ok (.iload_n 0, 1) := by decide +kernel
theorem d1_14 : decode prog_38_method_4_code 14 = .ok (.ldc 23, 2) := by decide +kernel
theorem d1_16 : decode prog_38_method_4_code 16 = .ok (.if_icmp .le 27, 3) := by decide +kernel
theorem d1_19 : decode prog_38_method_4_code 19 = .ok (.iload_n 0, 1) := by decide +kernel
theorem d1_20 : decode prog_38_method_4_code 20 = .ok (.ldc 24, 2) := by decide +kernel
theorem d1_22 : decode prog_38_method_4_code 22 = .ok (.if_icmp .lt 9, 3) := by decide +kernel
theorem d1_25 : decode prog_38_method_4_code 25 = .ok (.iload_n 0, 1) := by decide +kernel
theorem d1_26 : decode prog_38_method_4_code 26 = .ok (.ldc 25, 2) := by decide +kernel
theorem d1_28 : decode prog_38_method_4_code 28 = .ok (.if_icmp .le 15, 3) := by decide +kernel
theorem d1_31 : decode prog_38_method_4_code 31 = .ok (.iload_n 0, 1) := by decide +kernel
theorem d1_32 : decode prog_38_method_4_code 32 = .ok (.ldc 26, 2) := by decide +kernel
theorem d1_34 : decode prog_38_method_4_code 34 = .ok (.if_icmp .lt 13, 3) := by decide +kernel
theorem d1_37 : decode prog_38_method_4_code 37 = .ok (.iload_n 0, 1) := by decide +kernel
theorem d1_38 : decode prog_38_method_4_code 38 = .ok (.ldc 27, 2) := by decide +kernel
theorem d1_40 : decode prog_38_method_4_code 40 = .ok (.if_icmp .gt 7, 3) := by decide +kernel
theorem d1_43 : decode prog_38_method_4_code 43 = .ok (.iconst 1, 1) := by decide +kernel
theorem d1_44 : decode prog_38_method_4_code 44 = .ok (.goto 4, 3) := by decide +kernel
theorem d1_47 : decode prog_38_method_4_code 47 = .ok (.iconst 0, 1) := by decide +kernel
theorem d1_48 : decode prog_38_method_4_code 48 = .ok (.istore_n 1, 1) := by decide +kernel
theorem d1_49 : decode prog_38_method_4_code 49 = .ok (.goto 36, 3) := by decide +kernel
theorem d1_52 : decode prog_38_method_4_code 52 = .ok (.iload_n 0, 1) := by decide +kernel
theorem d1_53 : decode prog_38_method_4_code 53 = .ok (.ldc 28, 2) := by decide +kernel
theorem d1_55 : decode prog_38_method_4_code 55 = .ok (.if_icmp .gt 28, 3) := by decide +kernel
theorem d1_58 : decode prog_38_method_4_code 58 = .ok (.iload_n 0, 1) := by decide +kernel
theorem d1_59 : decode prog_38_method_4_code 59 = .ok (.ldc 21, 2) := by decide +kernel
theorem d1_61 : decode prog_38_method_4_code 61 = .ok (.iand, 1) := by decide +kernel
theorem d1_62 : decode prog_38_method_4_code 62 = .ok (.ldc 29, 2) := by decide +kernel
theorem d1_64 : decode prog_38_method_4_code 64 = .ok (.if_icmp .gt 19, 3) := by decide +kernel
theorem d1_67 : decode prog_38_method_4_code 67 = .ok (.iload_n 0, 1) := by decide +kernel
theorem d1_68 : decode prog_38_method_4_code 68 = .ok (.ldc 30, 2) := by decide +kernel
theorem d1_70 : decode prog_38_method_4_code 70 = .ok (.if_icmp .lt 9, 3) := by decide +kernel
theorem d1_73 : decode prog_38_method_4_code 73 = .ok (.iload_n 0, 1) := by decide +kernel
theorem d1_74 : decode prog_38_method_4_code 74 = .ok (.ldc 31, 2) := by decide +kernel
theorem d1_76 : decode prog_38_method_4_code 76 = .ok (.if_icmp .lt 7, 3) := by decide +kernel
theorem d1_79 : decode prog_38_method_4_code 79 = .ok (.iconst 1, 1) := by decide +kernel
theorem d1_80 : decode prog_38_method_4_code 80 = .ok (.goto 4, 3) := by decide +kernel
theorem d1_83 : decode prog_38_method_4_code 83 = .ok (.iconst 0, 1) := by decide +kernel
theorem d1_84 : decode prog_38_method_4_code 84 = .ok (.istore_n 1, 1) := by decide +kernel
theorem d1_85 : decode prog_38_method_4_code 85 = .ok (.iload_n 1, 1) := by decide +kernel
theorem d1_86 : decode prog_38_method_4_code 86 = .ok (.ireturn, 1) := by decide +kernel
def f1_79 (v0 : Int32) : Int32 := (1 : Int32)
set_option maxRecDepth 65536 in
set_option maxHeartbeats 4000000 in
theorem b1_79 {p : Program} {l : Launch} {e : Env} {s : State} {m : MethodId} {args : Array Value} {below : List Frame} {meth : Method} {c : Code} {T0 : State} {Z : State} {a0 : Array Value} {h0 : Heap} {locs : List Loc} {cells slots : Nat} {Q : Option Value → Heap → List Loc → Prop} (hw : ∀ d ∈ tables_1, d.before a0 Z = true) (hx : p.tables.exec = Jvm.exec) (hby : c.code = prog_38_method_4_code) (hml : c.maxLocals = 2) (hown : s.vm.findClass "com/example/map21/map21/util/IriCharacters" = some m.cls) (hZ : Z.Warmed39 s.vm) (hret : meth.sig.returnType = some .boolean) (hlk : meth.locks = false) (X0 : Stand p l e ({ frames := 0, cells := 0, slots := 0, locals := 0 } : Room) s m args below meth c T0 locs cells slots) (e0 : T0.heap = h0) (hc : cells ≤ ({ frames := 0, cells := 0, slots := 0, locals := 0 } : Room).cells) (hs : slots ≤ ({ frames := 0, cells := 0, slots := 0, locals := 0 } : Room).slots) (v0 : Int32) (hq : Q (some (.int (f1_79 v0))) h0 locs) :
    Go p e below s ({ frames := 0, cells := 0, slots := 0, locals := 0 } : Room).cells ({ frames := 0, cells := 0, slots := 0, locals := 0 } : Room).slots Q T0 (mkF m 79 #[.val (.int v0), .unset] []) := by
  unfold f1_79 at hq
  refine go_step (T' := T0) (g' := (mkF m 80 #[.val (.int v0), .unset] [(.int (1 : Int32))])) (fun t k => XS.iconst X0.here hx rfl (hb hby d1_79) k) ?_
  refine go_step (T' := T0) (g' := (mkF m 84 #[.val (.int v0), .unset] [(.int (1 : Int32))])) (fun t k => XS.goto X0.here hx rfl (pc0 := 80) (pc' := 84) rfl (hb hby d1_80) (by decide) (by decide) k) ?_
  refine go_step (T' := T0) (g' := (mkF m 85 #[.val (.int v0), .val (.int (1 : Int32))] [])) (fun t k => XS.istoreN X0.here hx rfl (hb hby d1_84) rfl (l' := #[.val (.int v0), .val (.int (1 : Int32))]) rfl k) ?_
  refine go_step (T' := T0) (g' := (mkF m 86 #[.val (.int v0), .val (.int (1 : Int32))] [(.int (1 : Int32))])) (fun t k => XS.iloadN X0.here hx rfl (hb hby d1_85) rfl  k) ?_
  exact go_retZ X0 hx hlk hret (hb hby d1_86) e0 hq hc hs
def f1_47 (v0 : Int32) : Int32 := (0 : Int32)
set_option maxRecDepth 65536 in
set_option maxHeartbeats 4000000 in
theorem b1_47 {p : Program} {l : Launch} {e : Env} {s : State} {m : MethodId} {args : Array Value} {below : List Frame} {meth : Method} {c : Code} {T0 : State} {Z : State} {a0 : Array Value} {h0 : Heap} {locs : List Loc} {cells slots : Nat} {Q : Option Value → Heap → List Loc → Prop} (hw : ∀ d ∈ tables_1, d.before a0 Z = true) (hx : p.tables.exec = Jvm.exec) (hby : c.code = prog_38_method_4_code) (hml : c.maxLocals = 2) (hown : s.vm.findClass "com/example/map21/map21/util/IriCharacters" = some m.cls) (hZ : Z.Warmed39 s.vm) (hret : meth.sig.returnType = some .boolean) (hlk : meth.locks = false) (X0 : Stand p l e ({ frames := 0, cells := 0, slots := 0, locals := 0 } : Room) s m args below meth c T0 locs cells slots) (e0 : T0.heap = h0) (hc : cells ≤ ({ frames := 0, cells := 0, slots := 0, locals := 0 } : Room).cells) (hs : slots ≤ ({ frames := 0, cells := 0, slots := 0, locals := 0 } : Room).slots) (v0 : Int32) (hq : Q (some (.int (f1_47 v0))) h0 locs) :
    Go p e below s ({ frames := 0, cells := 0, slots := 0, locals := 0 } : Room).cells ({ frames := 0, cells := 0, slots := 0, locals := 0 } : Room).slots Q T0 (mkF m 47 #[.val (.int v0), .unset] []) := by
  unfold f1_47 at hq
  refine go_step (T' := T0) (g' := (mkF m 48 #[.val (.int v0), .unset] [(.int (0 : Int32))])) (fun t k => XS.iconst X0.here hx rfl (hb hby d1_47) k) ?_
  refine go_step (T' := T0) (g' := (mkF m 49 #[.val (.int v0), .val (.int (0 : Int32))] [])) (fun t k => XS.istoreN X0.here hx rfl (hb hby d1_48) rfl (l' := #[.val (.int v0), .val (.int (0 : Int32))]) rfl k) ?_
  refine go_step (T' := T0) (g' := (mkF m 85 #[.val (.int v0), .val (.int (0 : Int32))] [])) (fun t k => XS.goto X0.here hx rfl (pc0 := 49) (pc' := 85) rfl (hb hby d1_49) (by decide) (by decide) k) ?_
  refine go_step (T' := T0) (g' := (mkF m 86 #[.val (.int v0), .val (.int (0 : Int32))] [(.int (0 : Int32))])) (fun t k => XS.iloadN X0.here hx rfl (hb hby d1_85) rfl  k) ?_
  exact go_retZ X0 hx hlk hret (hb hby d1_86) e0 hq hc hs
def f1_43 (v0 : Int32) : Int32 := (1 : Int32)
set_option maxRecDepth 65536 in
set_option maxHeartbeats 4000000 in
theorem b1_43 {p : Program} {l : Launch} {e : Env} {s : State} {m : MethodId} {args : Array Value} {below : List Frame} {meth : Method} {c : Code} {T0 : State} {Z : State} {a0 : Array Value} {h0 : Heap} {locs : List Loc} {cells slots : Nat} {Q : Option Value → Heap → List Loc → Prop} (hw : ∀ d ∈ tables_1, d.before a0 Z = true) (hx : p.tables.exec = Jvm.exec) (hby : c.code = prog_38_method_4_code) (hml : c.maxLocals = 2) (hown : s.vm.findClass "com/example/map21/map21/util/IriCharacters" = some m.cls) (hZ : Z.Warmed39 s.vm) (hret : meth.sig.returnType = some .boolean) (hlk : meth.locks = false) (X0 : Stand p l e ({ frames := 0, cells := 0, slots := 0, locals := 0 } : Room) s m args below meth c T0 locs cells slots) (e0 : T0.heap = h0) (hc : cells ≤ ({ frames := 0, cells := 0, slots := 0, locals := 0 } : Room).cells) (hs : slots ≤ ({ frames := 0, cells := 0, slots := 0, locals := 0 } : Room).slots) (v0 : Int32) (hq : Q (some (.int (f1_43 v0))) h0 locs) :
    Go p e below s ({ frames := 0, cells := 0, slots := 0, locals := 0 } : Room).cells ({ frames := 0, cells := 0, slots := 0, locals := 0 } : Room).slots Q T0 (mkF m 43 #[.val (.int v0), .unset] []) := by
  unfold f1_43 at hq
  refine go_step (T' := T0) (g' := (mkF m 44 #[.val (.int v0), .unset] [(.int (1 : Int32))])) (fun t k => XS.iconst X0.here hx rfl (hb hby d1_43) k) ?_
  refine go_step (T' := T0) (g' := (mkF m 48 #[.val (.int v0), .unset] [(.int (1 : Int32))])) (fun t k => XS.goto X0.here hx rfl (pc0 := 44) (pc' := 48) rfl (hb hby d1_44) (by decide) (by decide) k) ?_
  refine go_step (T' := T0) (g' := (mkF m 49 #[.val (.int v0), .val (.int (1 : Int32))] [])) (fun t k => XS.istoreN X0.here hx rfl (hb hby d1_48) rfl (l' := #[.val (.int v0), .val (.int (1 : Int32))]) rfl k) ?_
  refine go_step (T' := T0) (g' := (mkF m 85 #[.val (.int v0), .val (.int (1 : Int32))] [])) (fun t k => XS.goto X0.here hx rfl (pc0 := 49) (pc' := 85) rfl (hb hby d1_49) (by decide) (by decide) k) ?_
  refine go_step (T' := T0) (g' := (mkF m 86 #[.val (.int v0), .val (.int (1 : Int32))] [(.int (1 : Int32))])) (fun t k => XS.iloadN X0.here hx rfl (hb hby d1_85) rfl  k) ?_
  exact go_retZ X0 hx hlk hret (hb hby d1_86) e0 hq hc hs
def f1_31 (v0 : Int32) : Int32 := (if v0 < (65008 : Int32) then (f1_47 v0) else (if (65519 : Int32) < v0 then (f1_47 v0) else (f1_43 v0)))
set_option maxRecDepth 65536 in
set_option maxHeartbeats 4000000 in
theorem b1_31 {p : Program} {l : Launch} {e : Env} {s : State} {m : MethodId} {args : Array Value} {below : List Frame} {meth : Method} {c : Code} {T0 : State} {Z : State} {a0 : Array Value} {h0 : Heap} {locs : List Loc} {cells slots : Nat} {Q : Option Value → Heap → List Loc → Prop} (hw : ∀ d ∈ tables_1, d.before a0 Z = true) (hx : p.tables.exec = Jvm.exec) (hby : c.code = prog_38_method_4_code) (hml : c.maxLocals = 2) (hown : s.vm.findClass "com/example/map21/map21/util/IriCharacters" = some m.cls) (hZ : Z.Warmed39 s.vm) (hret : meth.sig.returnType = some .boolean) (hlk : meth.locks = false) (X0 : Stand p l e ({ frames := 0, cells := 0, slots := 0, locals := 0 } : Room) s m args below meth c T0 locs cells slots) (e0 : T0.heap = h0) (hc : cells ≤ ({ frames := 0, cells := 0, slots := 0, locals := 0 } : Room).cells) (hs : slots ≤ ({ frames := 0, cells := 0, slots := 0, locals := 0 } : Room).slots) (v0 : Int32) (hq : Q (some (.int (f1_31 v0))) h0 locs) :
    Go p e below s ({ frames := 0, cells := 0, slots := 0, locals := 0 } : Room).cells ({ frames := 0, cells := 0, slots := 0, locals := 0 } : Room).slots Q T0 (mkF m 31 #[.val (.int v0), .unset] []) := by
  unfold f1_31 at hq
  refine go_step (T' := T0) (g' := (mkF m 32 #[.val (.int v0), .unset] [(.int v0)])) (fun t k => XS.iloadN X0.here hx rfl (hb hby d1_31) rfl  k) ?_
  refine go_step (T' := T0) (g' := (mkF m 34 #[.val (.int v0), .unset] [(.int (65008 : Int32)), (.int v0)])) (X0.ldcInt hx hown (mvT hZ (hw _ (List.mem_of_getElem? (i := 60) rfl))) (g := (mkF m 32 #[.val (.int v0), .unset] [(.int v0)])) rfl (hb hby d1_32)) ?_
  by_cases hc0 : v0 < (65008 : Int32)
  · rw [if_pos hc0] at hq
    refine go_step (T' := T0) (g' := (mkF m 47 #[.val (.int v0), .unset] [])) (fun t k => XS.icmpYes X0.here hx rfl (pc0 := 34) (pc' := 47) rfl (hb hby d1_34) rfl (tlt hc0).1 (by decide) (by decide) k) ?_
    exact b1_47 hw hx hby hml hown hZ hret hlk X0 e0 hc hs v0 hq
  · rw [if_neg hc0] at hq
    refine go_step (T' := T0) (g' := (mkF m 37 #[.val (.int v0), .unset] [])) (fun t k => XS.icmpNo X0.here hx rfl (hb hby d1_34) rfl (flt hc0).1 k) ?_
    refine go_step (T' := T0) (g' := (mkF m 38 #[.val (.int v0), .unset] [(.int v0)])) (fun t k => XS.iloadN X0.here hx rfl (hb hby d1_37) rfl  k) ?_
    refine go_step (T' := T0) (g' := (mkF m 40 #[.val (.int v0), .unset] [(.int (65519 : Int32)), (.int v0)])) (X0.ldcInt hx hown (mvT hZ (hw _ (List.mem_of_getElem? (i := 66) rfl))) (g := (mkF m 38 #[.val (.int v0), .unset] [(.int v0)])) rfl (hb hby d1_38)) ?_
    by_cases hc1 : (65519 : Int32) < v0
    · rw [if_pos hc1] at hq
      refine go_step (T' := T0) (g' := (mkF m 47 #[.val (.int v0), .unset] [])) (fun t k => XS.icmpYes X0.here hx rfl (pc0 := 40) (pc' := 47) rfl (hb hby d1_40) rfl (tlt hc1).2.2.1 (by decide) (by decide) k) ?_
      exact b1_47 hw hx hby hml hown hZ hret hlk X0 e0 hc hs v0 hq
    · rw [if_neg hc1] at hq
      refine go_step (T' := T0) (g' := (mkF m 43 #[.val (.int v0), .unset] [])) (fun t k => XS.icmpNo X0.here hx rfl (hb hby d1_40) rfl (flt hc1).2.2.1 k) ?_
      exact b1_43 hw hx hby hml hown hZ hret hlk X0 e0 hc hs v0 hq
def f1_19 (v0 : Int32) : Int32 := (if v0 < (63744 : Int32) then (f1_31 v0) else (if (64975 : Int32) < v0 then (f1_31 v0) else (f1_43 v0)))
set_option maxRecDepth 65536 in
set_option maxHeartbeats 4000000 in
theorem b1_19 {p : Program} {l : Launch} {e : Env} {s : State} {m : MethodId} {args : Array Value} {below : List Frame} {meth : Method} {c : Code} {T0 : State} {Z : State} {a0 : Array Value} {h0 : Heap} {locs : List Loc} {cells slots : Nat} {Q : Option Value → Heap → List Loc → Prop} (hw : ∀ d ∈ tables_1, d.before a0 Z = true) (hx : p.tables.exec = Jvm.exec) (hby : c.code = prog_38_method_4_code) (hml : c.maxLocals = 2) (hown : s.vm.findClass "com/example/map21/map21/util/IriCharacters" = some m.cls) (hZ : Z.Warmed39 s.vm) (hret : meth.sig.returnType = some .boolean) (hlk : meth.locks = false) (X0 : Stand p l e ({ frames := 0, cells := 0, slots := 0, locals := 0 } : Room) s m args below meth c T0 locs cells slots) (e0 : T0.heap = h0) (hc : cells ≤ ({ frames := 0, cells := 0, slots := 0, locals := 0 } : Room).cells) (hs : slots ≤ ({ frames := 0, cells := 0, slots := 0, locals := 0 } : Room).slots) (v0 : Int32) (hq : Q (some (.int (f1_19 v0))) h0 locs) :
    Go p e below s ({ frames := 0, cells := 0, slots := 0, locals := 0 } : Room).cells ({ frames := 0, cells := 0, slots := 0, locals := 0 } : Room).slots Q T0 (mkF m 19 #[.val (.int v0), .unset] []) := by
  unfold f1_19 at hq
  refine go_step (T' := T0) (g' := (mkF m 20 #[.val (.int v0), .unset] [(.int v0)])) (fun t k => XS.iloadN X0.here hx rfl (hb hby d1_19) rfl  k) ?_
  refine go_step (T' := T0) (g' := (mkF m 22 #[.val (.int v0), .unset] [(.int (63744 : Int32)), (.int v0)])) (X0.ldcInt hx hown (mvT hZ (hw _ (List.mem_of_getElem? (i := 59) rfl))) (g := (mkF m 20 #[.val (.int v0), .unset] [(.int v0)])) rfl (hb hby d1_20)) ?_
  by_cases hc0 : v0 < (63744 : Int32)
  · rw [if_pos hc0] at hq
    refine go_step (T' := T0) (g' := (mkF m 31 #[.val (.int v0), .unset] [])) (fun t k => XS.icmpYes X0.here hx rfl (pc0 := 22) (pc' := 31) rfl (hb hby d1_22) rfl (tlt hc0).1 (by decide) (by decide) k) ?_
    exact b1_31 hw hx hby hml hown hZ hret hlk X0 e0 hc hs v0 hq
  · rw [if_neg hc0] at hq
    refine go_step (T' := T0) (g' := (mkF m 25 #[.val (.int v0), .unset] [])) (fun t k => XS.icmpNo X0.here hx rfl (hb hby d1_22) rfl (flt hc0).1 k) ?_
    refine go_step (T' := T0) (g' := (mkF m 26 #[.val (.int v0), .unset] [(.int v0)])) (fun t k => XS.iloadN X0.here hx rfl (hb hby d1_25) rfl  k) ?_
    refine go_step (T' := T0) (g' := (mkF m 28 #[.val (.int v0), .unset] [(.int (64975 : Int32)), (.int v0)])) (X0.ldcInt hx hown (mvT hZ (hw _ (List.mem_of_getElem? (i := 65) rfl))) (g := (mkF m 26 #[.val (.int v0), .unset] [(.int v0)])) rfl (hb hby d1_26)) ?_
    by_cases hc1 : (64975 : Int32) < v0
    · rw [if_pos hc1] at hq
      refine go_step (T' := T0) (g' := (mkF m 31 #[.val (.int v0), .unset] [])) (fun t k => XS.icmpNo X0.here hx rfl (hb hby d1_28) rfl (tlt hc1).2.2.2 k) ?_
      exact b1_31 hw hx hby hml hown hZ hret hlk X0 e0 hc hs v0 hq
    · rw [if_neg hc1] at hq
      refine go_step (T' := T0) (g' := (mkF m 43 #[.val (.int v0), .unset] [])) (fun t k => XS.icmpYes X0.here hx rfl (pc0 := 28) (pc' := 43) rfl (hb hby d1_28) rfl (flt hc1).2.2.2 (by decide) (by decide) k) ?_
      exact b1_43 hw hx hby hml hown hZ hret hlk X0 e0 hc hs v0 hq
def f1_0 (v0 : Int32) : Int32 := (if v0 < (65536 : Int32) then (if v0 < (160 : Int32) then (f1_19 v0) else (if (55295 : Int32) < v0 then (f1_19 v0) else (f1_43 v0))) else (if (983037 : Int32) < v0 then (0 : Int32) else (if (65533 : Int32) < (v0 &&& (65535 : Int32)) then (0 : Int32) else (if v0 < (917504 : Int32) then (f1_79 v0) else (if v0 < (921600 : Int32) then (0 : Int32) else (f1_79 v0))))))
set_option maxRecDepth 65536 in
set_option maxHeartbeats 4000000 in
theorem b1_0 {p : Program} {l : Launch} {e : Env} {s : State} {m : MethodId} {args : Array Value} {below : List Frame} {meth : Method} {c : Code} {T0 : State} {Z : State} {a0 : Array Value} {h0 : Heap} {locs : List Loc} {cells slots : Nat} {Q : Option Value → Heap → List Loc → Prop} (hw : ∀ d ∈ tables_1, d.before a0 Z = true) (hx : p.tables.exec = Jvm.exec) (hby : c.code = prog_38_method_4_code) (hml : c.maxLocals = 2) (hown : s.vm.findClass "com/example/map21/map21/util/IriCharacters" = some m.cls) (hZ : Z.Warmed39 s.vm) (hret : meth.sig.returnType = some .boolean) (hlk : meth.locks = false) (X0 : Stand p l e ({ frames := 0, cells := 0, slots := 0, locals := 0 } : Room) s m args below meth c T0 locs cells slots) (e0 : T0.heap = h0) (hc : cells ≤ ({ frames := 0, cells := 0, slots := 0, locals := 0 } : Room).cells) (hs : slots ≤ ({ frames := 0, cells := 0, slots := 0, locals := 0 } : Room).slots) (v0 : Int32) (hq : Q (some (.int (f1_0 v0))) h0 locs) :
    Go p e below s ({ frames := 0, cells := 0, slots := 0, locals := 0 } : Room).cells ({ frames := 0, cells := 0, slots := 0, locals := 0 } : Room).slots Q T0 (mkF m 0 #[.val (.int v0), .unset] []) := by
  unfold f1_0 at hq
  refine go_step (T' := T0) (g' := (mkF m 1 #[.val (.int v0), .unset] [(.int v0)])) (fun t k => XS.iloadN X0.here hx rfl (hb hby d1_0) rfl  k) ?_
  refine go_step (T' := T0) (g' := (mkF m 3 #[.val (.int v0), .unset] [(.int (65536 : Int32)), (.int v0)])) (X0.ldcInt hx hown (mvT hZ (hw _ (List.mem_of_getElem? (i := 50) rfl))) (g := (mkF m 1 #[.val (.int v0), .unset] [(.int v0)])) rfl (hb hby d1_1)) ?_
  by_cases hc0 : v0 < (65536 : Int32)
  · rw [if_pos hc0] at hq
    refine go_step (T' := T0) (g' := (mkF m 6 #[.val (.int v0), .unset] [])) (fun t k => XS.icmpNo X0.here hx rfl (hb hby d1_3) rfl (tlt hc0).2.1 k) ?_
    refine go_step (T' := T0) (g' := (mkF m 7 #[.val (.int v0), .unset] [(.int v0)])) (fun t k => XS.iloadN X0.here hx rfl (hb hby d1_6) rfl  k) ?_
    refine go_step (T' := T0) (g' := (mkF m 10 #[.val (.int v0), .unset] [(.int (160 : Int32)), (.int v0)])) (fun t k => XS.sipush X0.here hx rfl (hb hby d1_7) k) ?_
    by_cases hc1 : v0 < (160 : Int32)
    · rw [if_pos hc1] at hq
      refine go_step (T' := T0) (g' := (mkF m 19 #[.val (.int v0), .unset] [])) (fun t k => XS.icmpYes X0.here hx rfl (pc0 := 10) (pc' := 19) rfl (hb hby d1_10) rfl (tlt hc1).1 (by decide) (by decide) k) ?_
      exact b1_19 hw hx hby hml hown hZ hret hlk X0 e0 hc hs v0 hq
    · rw [if_neg hc1] at hq
      refine go_step (T' := T0) (g' := (mkF m 13 #[.val (.int v0), .unset] [])) (fun t k => XS.icmpNo X0.here hx rfl (hb hby d1_10) rfl (flt hc1).1 k) ?_
      refine go_step (T' := T0) (g' := (mkF m 14 #[.val (.int v0), .unset] [(.int v0)])) (fun t k => XS.iloadN X0.here hx rfl (hb hby d1_13) rfl  k) ?_
      refine go_step (T' := T0) (g' := (mkF m 16 #[.val (.int v0), .unset] [(.int (55295 : Int32)), (.int v0)])) (X0.ldcInt hx hown (mvT hZ (hw _ (List.mem_of_getElem? (i := 51) rfl))) (g := (mkF m 14 #[.val (.int v0), .unset] [(.int v0)])) rfl (hb hby d1_14)) ?_
      by_cases hc2 : (55295 : Int32) < v0
      · rw [if_pos hc2] at hq
        refine go_step (T' := T0) (g' := (mkF m 19 #[.val (.int v0), .unset] [])) (fun t k => XS.icmpNo X0.here hx rfl (hb hby d1_16) rfl (tlt hc2).2.2.2 k) ?_
        exact b1_19 hw hx hby hml hown hZ hret hlk X0 e0 hc hs v0 hq
      · rw [if_neg hc2] at hq
        refine go_step (T' := T0) (g' := (mkF m 43 #[.val (.int v0), .unset] [])) (fun t k => XS.icmpYes X0.here hx rfl (pc0 := 16) (pc' := 43) rfl (hb hby d1_16) rfl (flt hc2).2.2.2 (by decide) (by decide) k) ?_
        exact b1_43 hw hx hby hml hown hZ hret hlk X0 e0 hc hs v0 hq
  · rw [if_neg hc0] at hq
    refine go_step (T' := T0) (g' := (mkF m 52 #[.val (.int v0), .unset] [])) (fun t k => XS.icmpYes X0.here hx rfl (pc0 := 3) (pc' := 52) rfl (hb hby d1_3) rfl (flt hc0).2.1 (by decide) (by decide) k) ?_
    refine go_step (T' := T0) (g' := (mkF m 53 #[.val (.int v0), .unset] [(.int v0)])) (fun t k => XS.iloadN X0.here hx rfl (hb hby d1_52) rfl  k) ?_
    refine go_step (T' := T0) (g' := (mkF m 55 #[.val (.int v0), .unset] [(.int (983037 : Int32)), (.int v0)])) (X0.ldcInt hx hown (mvT hZ (hw _ (List.mem_of_getElem? (i := 61) rfl))) (g := (mkF m 53 #[.val (.int v0), .unset] [(.int v0)])) rfl (hb hby d1_53)) ?_
    by_cases hc3 : (983037 : Int32) < v0
    · rw [if_pos hc3] at hq
      refine go_step (T' := T0) (g' := (mkF m 83 #[.val (.int v0), .unset] [])) (fun t k => XS.icmpYes X0.here hx rfl (pc0 := 55) (pc' := 83) rfl (hb hby d1_55) rfl (tlt hc3).2.2.1 (by decide) (by decide) k) ?_
      refine go_step (T' := T0) (g' := (mkF m 84 #[.val (.int v0), .unset] [(.int (0 : Int32))])) (fun t k => XS.iconst X0.here hx rfl (hb hby d1_83) k) ?_
      refine go_step (T' := T0) (g' := (mkF m 85 #[.val (.int v0), .val (.int (0 : Int32))] [])) (fun t k => XS.istoreN X0.here hx rfl (hb hby d1_84) rfl (l' := #[.val (.int v0), .val (.int (0 : Int32))]) rfl k) ?_
      refine go_step (T' := T0) (g' := (mkF m 86 #[.val (.int v0), .val (.int (0 : Int32))] [(.int (0 : Int32))])) (fun t k => XS.iloadN X0.here hx rfl (hb hby d1_85) rfl  k) ?_
      exact go_retZ X0 hx hlk hret (hb hby d1_86) e0 hq hc hs
    · rw [if_neg hc3] at hq
      refine go_step (T' := T0) (g' := (mkF m 58 #[.val (.int v0), .unset] [])) (fun t k => XS.icmpNo X0.here hx rfl (hb hby d1_55) rfl (flt hc3).2.2.1 k) ?_
      refine go_step (T' := T0) (g' := (mkF m 59 #[.val (.int v0), .unset] [(.int v0)])) (fun t k => XS.iloadN X0.here hx rfl (hb hby d1_58) rfl  k) ?_
      refine go_step (T' := T0) (g' := (mkF m 61 #[.val (.int v0), .unset] [(.int (65535 : Int32)), (.int v0)])) (X0.ldcInt hx hown (mvT hZ (hw _ (List.mem_of_getElem? (i := 62) rfl))) (g := (mkF m 59 #[.val (.int v0), .unset] [(.int v0)])) rfl (hb hby d1_59)) ?_
      refine go_step (T' := T0) (g' := (mkF m 62 #[.val (.int v0), .unset] [(.int (v0 &&& (65535 : Int32)))])) (fun t k => XS.iand X0.here hx rfl (hb hby d1_61) rfl k) ?_
      refine go_step (T' := T0) (g' := (mkF m 64 #[.val (.int v0), .unset] [(.int (65533 : Int32)), (.int (v0 &&& (65535 : Int32)))])) (X0.ldcInt hx hown (mvT hZ (hw _ (List.mem_of_getElem? (i := 63) rfl))) (g := (mkF m 62 #[.val (.int v0), .unset] [(.int (v0 &&& (65535 : Int32)))])) rfl (hb hby d1_62)) ?_
      by_cases hc4 : (65533 : Int32) < (v0 &&& (65535 : Int32))
      · rw [if_pos hc4] at hq
        refine go_step (T' := T0) (g' := (mkF m 83 #[.val (.int v0), .unset] [])) (fun t k => XS.icmpYes X0.here hx rfl (pc0 := 64) (pc' := 83) rfl (hb hby d1_64) rfl (tlt hc4).2.2.1 (by decide) (by decide) k) ?_
        refine go_step (T' := T0) (g' := (mkF m 84 #[.val (.int v0), .unset] [(.int (0 : Int32))])) (fun t k => XS.iconst X0.here hx rfl (hb hby d1_83) k) ?_
        refine go_step (T' := T0) (g' := (mkF m 85 #[.val (.int v0), .val (.int (0 : Int32))] [])) (fun t k => XS.istoreN X0.here hx rfl (hb hby d1_84) rfl (l' := #[.val (.int v0), .val (.int (0 : Int32))]) rfl k) ?_
        refine go_step (T' := T0) (g' := (mkF m 86 #[.val (.int v0), .val (.int (0 : Int32))] [(.int (0 : Int32))])) (fun t k => XS.iloadN X0.here hx rfl (hb hby d1_85) rfl  k) ?_
        exact go_retZ X0 hx hlk hret (hb hby d1_86) e0 hq hc hs
      · rw [if_neg hc4] at hq
        refine go_step (T' := T0) (g' := (mkF m 67 #[.val (.int v0), .unset] [])) (fun t k => XS.icmpNo X0.here hx rfl (hb hby d1_64) rfl (flt hc4).2.2.1 k) ?_
        refine go_step (T' := T0) (g' := (mkF m 68 #[.val (.int v0), .unset] [(.int v0)])) (fun t k => XS.iloadN X0.here hx rfl (hb hby d1_67) rfl  k) ?_
        refine go_step (T' := T0) (g' := (mkF m 70 #[.val (.int v0), .unset] [(.int (917504 : Int32)), (.int v0)])) (X0.ldcInt hx hown (mvT hZ (hw _ (List.mem_of_getElem? (i := 64) rfl))) (g := (mkF m 68 #[.val (.int v0), .unset] [(.int v0)])) rfl (hb hby d1_68)) ?_
        by_cases hc5 : v0 < (917504 : Int32)
        · rw [if_pos hc5] at hq
          refine go_step (T' := T0) (g' := (mkF m 79 #[.val (.int v0), .unset] [])) (fun t k => XS.icmpYes X0.here hx rfl (pc0 := 70) (pc' := 79) rfl (hb hby d1_70) rfl (tlt hc5).1 (by decide) (by decide) k) ?_
          exact b1_79 hw hx hby hml hown hZ hret hlk X0 e0 hc hs v0 hq
        · rw [if_neg hc5] at hq
          refine go_step (T' := T0) (g' := (mkF m 73 #[.val (.int v0), .unset] [])) (fun t k => XS.icmpNo X0.here hx rfl (hb hby d1_70) rfl (flt hc5).1 k) ?_
          refine go_step (T' := T0) (g' := (mkF m 74 #[.val (.int v0), .unset] [(.int v0)])) (fun t k => XS.iloadN X0.here hx rfl (hb hby d1_73) rfl  k) ?_
          refine go_step (T' := T0) (g' := (mkF m 76 #[.val (.int v0), .unset] [(.int (921600 : Int32)), (.int v0)])) (X0.ldcInt hx hown (mvT hZ (hw _ (List.mem_of_getElem? (i := 67) rfl))) (g := (mkF m 74 #[.val (.int v0), .unset] [(.int v0)])) rfl (hb hby d1_74)) ?_
          by_cases hc6 : v0 < (921600 : Int32)
          · rw [if_pos hc6] at hq
            refine go_step (T' := T0) (g' := (mkF m 83 #[.val (.int v0), .unset] [])) (fun t k => XS.icmpYes X0.here hx rfl (pc0 := 76) (pc' := 83) rfl (hb hby d1_76) rfl (tlt hc6).1 (by decide) (by decide) k) ?_
            refine go_step (T' := T0) (g' := (mkF m 84 #[.val (.int v0), .unset] [(.int (0 : Int32))])) (fun t k => XS.iconst X0.here hx rfl (hb hby d1_83) k) ?_
            refine go_step (T' := T0) (g' := (mkF m 85 #[.val (.int v0), .val (.int (0 : Int32))] [])) (fun t k => XS.istoreN X0.here hx rfl (hb hby d1_84) rfl (l' := #[.val (.int v0), .val (.int (0 : Int32))]) rfl k) ?_
            refine go_step (T' := T0) (g' := (mkF m 86 #[.val (.int v0), .val (.int (0 : Int32))] [(.int (0 : Int32))])) (fun t k => XS.iloadN X0.here hx rfl (hb hby d1_85) rfl  k) ?_
            exact go_retZ X0 hx hlk hret (hb hby d1_86) e0 hq hc hs
          · rw [if_neg hc6] at hq
            refine go_step (T' := T0) (g' := (mkF m 79 #[.val (.int v0), .unset] [])) (fun t k => XS.icmpNo X0.here hx rfl (hb hby d1_76) rfl (flt hc6).1 k) ?_
            exact b1_79 hw hx hby hml hown hZ hret hlk X0 e0 hc hs v0 hq
theorem ef1 (m : MethodId) (v0 : Int32) : entryFrame m #[(.int v0)] 2 = (mkF m 0 #[.val (.int v0), .unset] []) := by first | (simp [entryFrame, mkF, argsToLocals, Value.category]; done) | rfl
theorem pn1 : plainName "com/example/map21/map21/util/IriCharacters" = true := by first | (simp [plainName, overriddenIn]; done) | decide +kernel
set_option maxRecDepth 65536 in
theorem mq1 (l : Launch) (Z : State) (a0 : Array Value) (hw : ∀ d ∈ tables_1, d.before a0 Z = true) (v0 : Int32) (h0 : Heap) : MQ l Z (⟨"com/example/map21/map21/util/IriCharacters", "isUcschar", "(I)Z"⟩ : MethodName) prog_38_method_4_code 2 (some .boolean) [] ({ frames := 0, cells := 0, slots := 0, locals := 0 } : Room) #[(.int v0)] h0 (QP (some (.int (f1_0 v0))) h0) := by
  refine mq_of (plainFor_of_name pn1) ?_
  intro p e s m below meth c T0 X0 hx hby hml hown hnm hZ e0 hret hlk
  rw [ef1]
  exact b1_0 hw hx hby hml hown hZ hret hlk X0 e0 (Nat.zero_le _) (Nat.zero_le _) v0 ⟨rfl, rfl, rfl⟩
theorem d3_0 : decode method_2_code 0 = .ok (.iload_n 0, 1) := by decide +kernel
theorem d3_1 : decode method_2_code 1 = .ok (.iload_n 1, 1) := by decide +kernel
theorem d3_2 : decode method_2_code 2 = .ok (.if_icmp .lt 12, 3) := by decide +kernel
theorem d3_5 : decode method_2_code 5 = .ok (.iload_n 0, 1) := by decide +kernel
theorem d3_6 : decode method_2_code 6 = .ok (.iload_n 2, 1) := by decide +kernel
theorem d3_7 : decode method_2_code 7 = .ok (.if_icmp .gt 7, 3) := by decide +kernel
theorem d3_10 : decode method_2_code 10 = .ok (.iconst 1, 1) := by decide +kernel
theorem d3_11 : decode method_2_code 11 = .ok (.goto 4, 3) := by decide +kernel
theorem d3_14 : decode method_2_code 14 = .ok (.iconst 0, 1) := by decide +kernel
theorem d3_15 : decode method_2_code 15 = .ok (.ireturn, 1) := by decide +kernel
def f3_0 (v0 : Int32) (v1 : Int32) (v2 : Int32) : Int32 := (if v0 < v1 then (0 : Int32) else (if v2 < v0 then (0 : Int32) else (1 : Int32)))
set_option maxRecDepth 65536 in
set_option maxHeartbeats 4000000 in
theorem b3_0 {p : Program} {l : Launch} {e : Env} {s : State} {m : MethodId} {args : Array Value} {below : List Frame} {meth : Method} {c : Code} {T0 : State} {Z : State} {a0 : Array Value} {h0 : Heap} {locs : List Loc} {cells slots : Nat} {Q : Option Value → Heap → List Loc → Prop} (hw : ∀ d ∈ tables_1, d.before a0 Z = true) (hx : p.tables.exec = Jvm.exec) (hby : c.code = method_2_code) (hml : c.maxLocals = 3) (hown : s.vm.findClass "com/example/map21/map21/util/IriCharactersIsUcscharPinLaw" = some m.cls) (hZ : Z.Warmed39 s.vm) (hret : meth.sig.returnType = some .boolean) (hlk : meth.locks = false) (X0 : Stand p l e ({ frames := 0, cells := 0, slots := 0, locals := 0 } : Room) s m args below meth c T0 locs cells slots) (e0 : T0.heap = h0) (hc : cells ≤ ({ frames := 0, cells := 0, slots := 0, locals := 0 } : Room).cells) (hs : slots ≤ ({ frames := 0, cells := 0, slots := 0, locals := 0 } : Room).slots) (v0 : Int32) (v1 : Int32) (v2 : Int32) (hq : Q (some (.int (f3_0 v0 v1 v2))) h0 locs) :
    Go p e below s ({ frames := 0, cells := 0, slots := 0, locals := 0 } : Room).cells ({ frames := 0, cells := 0, slots := 0, locals := 0 } : Room).slots Q T0 (mkF m 0 #[.val (.int v0), .val (.int v1), .val (.int v2)] []) := by
  unfold f3_0 at hq
  refine go_step (T' := T0) (g' := (mkF m 1 #[.val (.int v0), .val (.int v1), .val (.int v2)] [(.int v0)])) (fun t k => XS.iloadN X0.here hx rfl (hb hby d3_0) rfl  k) ?_
  refine go_step (T' := T0) (g' := (mkF m 2 #[.val (.int v0), .val (.int v1), .val (.int v2)] [(.int v1), (.int v0)])) (fun t k => XS.iloadN X0.here hx rfl (hb hby d3_1) rfl  k) ?_
  by_cases hc0 : v0 < v1
  · rw [if_pos hc0] at hq
    refine go_step (T' := T0) (g' := (mkF m 14 #[.val (.int v0), .val (.int v1), .val (.int v2)] [])) (fun t k => XS.icmpYes X0.here hx rfl (pc0 := 2) (pc' := 14) rfl (hb hby d3_2) rfl (tlt hc0).1 (by decide) (by decide) k) ?_
    refine go_step (T' := T0) (g' := (mkF m 15 #[.val (.int v0), .val (.int v1), .val (.int v2)] [(.int (0 : Int32))])) (fun t k => XS.iconst X0.here hx rfl (hb hby d3_14) k) ?_
    exact go_retZ X0 hx hlk hret (hb hby d3_15) e0 hq hc hs
  · rw [if_neg hc0] at hq
    refine go_step (T' := T0) (g' := (mkF m 5 #[.val (.int v0), .val (.int v1), .val (.int v2)] [])) (fun t k => XS.icmpNo X0.here hx rfl (hb hby d3_2) rfl (flt hc0).1 k) ?_
    refine go_step (T' := T0) (g' := (mkF m 6 #[.val (.int v0), .val (.int v1), .val (.int v2)] [(.int v0)])) (fun t k => XS.iloadN X0.here hx rfl (hb hby d3_5) rfl  k) ?_
    refine go_step (T' := T0) (g' := (mkF m 7 #[.val (.int v0), .val (.int v1), .val (.int v2)] [(.int v2), (.int v0)])) (fun t k => XS.iloadN X0.here hx rfl (hb hby d3_6) rfl  k) ?_
    by_cases hc1 : v2 < v0
    · rw [if_pos hc1] at hq
      refine go_step (T' := T0) (g' := (mkF m 14 #[.val (.int v0), .val (.int v1), .val (.int v2)] [])) (fun t k => XS.icmpYes X0.here hx rfl (pc0 := 7) (pc' := 14) rfl (hb hby d3_7) rfl (tlt hc1).2.2.1 (by decide) (by decide) k) ?_
      refine go_step (T' := T0) (g' := (mkF m 15 #[.val (.int v0), .val (.int v1), .val (.int v2)] [(.int (0 : Int32))])) (fun t k => XS.iconst X0.here hx rfl (hb hby d3_14) k) ?_
      exact go_retZ X0 hx hlk hret (hb hby d3_15) e0 hq hc hs
    · rw [if_neg hc1] at hq
      refine go_step (T' := T0) (g' := (mkF m 10 #[.val (.int v0), .val (.int v1), .val (.int v2)] [])) (fun t k => XS.icmpNo X0.here hx rfl (hb hby d3_7) rfl (flt hc1).2.2.1 k) ?_
      refine go_step (T' := T0) (g' := (mkF m 11 #[.val (.int v0), .val (.int v1), .val (.int v2)] [(.int (1 : Int32))])) (fun t k => XS.iconst X0.here hx rfl (hb hby d3_10) k) ?_
      refine go_step (T' := T0) (g' := (mkF m 15 #[.val (.int v0), .val (.int v1), .val (.int v2)] [(.int (1 : Int32))])) (fun t k => XS.goto X0.here hx rfl (pc0 := 11) (pc' := 15) rfl (hb hby d3_11) (by decide) (by decide) k) ?_
      exact go_retZ X0 hx hlk hret (hb hby d3_15) e0 hq hc hs
theorem ef3 (m : MethodId) (v0 : Int32) (v1 : Int32) (v2 : Int32) : entryFrame m #[(.int v0), (.int v1), (.int v2)] 3 = (mkF m 0 #[.val (.int v0), .val (.int v1), .val (.int v2)] []) := by first | (simp [entryFrame, mkF, argsToLocals, Value.category]; done) | rfl
theorem pn3 : plainName "com/example/map21/map21/util/IriCharactersIsUcscharPinLaw" = true := by first | (simp [plainName, overriddenIn]; done) | decide +kernel
set_option maxRecDepth 65536 in
theorem mq3 (l : Launch) (Z : State) (a0 : Array Value) (hw : ∀ d ∈ tables_1, d.before a0 Z = true) (v0 : Int32) (v1 : Int32) (v2 : Int32) (h0 : Heap) : MQ l Z (⟨"com/example/map21/map21/util/IriCharactersIsUcscharPinLaw", "in", "(III)Z"⟩ : MethodName) method_2_code 3 (some .boolean) [] ({ frames := 0, cells := 0, slots := 0, locals := 0 } : Room) #[(.int v0), (.int v1), (.int v2)] h0 (QP (some (.int (f3_0 v0 v1 v2))) h0) := by
  refine mq_of (plainFor_of_name pn3) ?_
  intro p e s m below meth c T0 X0 hx hby hml hown hnm hZ e0 hret hlk
  rw [ef3]
  exact b3_0 hw hx hby hml hown hZ hret hlk X0 e0 (Nat.zero_le _) (Nat.zero_le _) v0 v1 v2 ⟨rfl, rfl, rfl⟩
theorem d2_0 : decode method_3_code 0 = .ok (.iload_n 0, 1) := by decide +kernel
theorem d2_1 : decode method_3_code 1 = .ok (.sipush 160, 3) := by decide +kernel
theorem d2_4 : decode method_3_code 4 = .ok (.ldc 7, 2) := by decide +kernel
theorem d2_6 : decode method_3_code 6 = .ok (.invokestatic 8, 3) := by decide +kernel
theorem d2_9 : decode method_3_code 9 = .ok (.ifCond .ne 179, 3) := by decide +kernel
theorem d2_12 : decode method_3_code 12 = .ok (.iload_n 0, 1) := by decide +kernel
theorem d2_13 : decode method_3_code 13 = .ok (.ldc 14, 2) := by decide +kernel
theorem d2_15 : decode method_3_code 15 = .ok (.ldc 15, 2) := by decide +kernel
theorem d2_17 : decode method_3_code 17 = .ok (.invokestatic 8, 3) := by decide +kernel
theorem d2_20 : decode method_3_code 20 = .ok (.ifCond .ne 168, 3) := by decide +kernel
theorem d2_23 : decode method_3_code 23 = .ok (.iload_n 0, 1) := by decide +kernel
theorem d2_24 : decode method_3_code 24 = .ok (.ldc 16, 2) := by decide +kernel
theorem d2_26 : decode method_3_code 26 = .ok (.ldc 17, 2) := by decide +kernel
theorem d2_28 : decode method_3_code 28 = .ok (.invokestatic 8, 3) := by decide +kernel
theorem d2_31 : decode method_3_code 31 = .ok (.ifCond .ne 157, 3) := by decide +kernel
theorem d2_34 : decode method_3_code 34 = .ok (.iload_n 0, 1) := by decide +kernel
theorem d2_35 : decode method_3_code 35 = .ok (.ldc 18, 2) := by decide +kernel
theorem d2_37 : decode method_3_code 37 = .ok (.ldc 19, 2) := by decide +kernel
theorem d2_39 : decode method_3_code 39 = .ok (.invokestatic 8, 3) := by decide +kernel
theorem d2_42 : decode method_3_code 42 = .ok (.ifCond .ne 146, 3) := by decide +kernel
theorem d2_45 : decode method_3_code 45 = .ok (.iload_n 0, 1) := by decide +kernel
theorem d2_46 : decode method_3_code 46 = .ok (.ldc 20, 2) := by decide +kernel
theorem d2_48 : decode method_3_code 48 = .ok (.ldc 21, 2) := by decide +kernel
theorem d2_50 : decode method_3_code 50 = .ok (.invokestatic 8, 3) := by decide +kernel
theorem d2_53 : decode method_3_code 53 = .ok (.ifCond .ne 135, 3) := by decide +kernel
theorem d2_56 : decode method_3_code 56 = .ok (.iload_n 0, 1) := by decide +kernel
theorem d2_57 : decode method_3_code 57 = .ok (.ldc 22, 2) := by decide +kernel
theorem d2_59 : decode method_3_code 59 = .ok (.ldc 23, 2) := by decide +kernel
theorem d2_61 : decode method_3_code 61 = .ok (.invokestatic 8, 3) := by decide +kernel
theorem d2_64 : decode method_3_code 64 = .ok (.ifCond .ne 124, 3) := by decide +kernel
theorem d2_67 : decode method_3_code 67 = .ok (.iload_n 0, 1) := by decide +kernel
theorem d2_68 : decode method_3_code 68 = .ok (.ldc 24, 2) := by decide +kernel
theorem d2_70 : decode method_3_code 70 = .ok (.ldc 25, 2) := by decide +kernel
theorem d2_72 : decode method_3_code 72 = .ok (.invokestatic 8, 3) := by decide +kernel
theorem d2_75 : decode method_3_code 75 = .ok (.ifCond .ne 113, 3) := by decide +kernel
theorem d2_78 : decode method_3_code 78 = .ok (.iload_n 0, 1) := by decide +kernel
theorem d2_79 : decode method_3_code 79 = .ok (.ldc 26, 2) := by decide +kernel
theorem d2_81 : decode method_3_code 81 = .ok (.ldc 27, 2) := by decide +kernel
theorem d2_83 : decode method_3_code 83 = .ok (.invokestatic 8, 3) := by decide +kernel
theorem d2_86 : decode method_3_code 86 = .ok (.ifCond .ne 102, 3) := by decide +kernel
theorem d2_89 : decode method_3_code 89 = .ok (.iload_n 0, 1) := by decide +kernel
theorem d2_90 : decode method_3_code 90 = .ok (.ldc 28, 2) := by decide +kernel
theorem d2_92 : decode method_3_code 92 = .ok (.ldc 29, 2) := by decide +kernel
theorem d2_94 : decode method_3_code 94 = .ok (.invokestatic 8, 3) := by decide +kernel
theorem d2_97 : decode method_3_code 97 = .ok (.ifCond .ne 91, 3) := by decide +kernel
theorem d2_100 : decode method_3_code 100 = .ok (.iload_n 0, 1) := by decide +kernel
theorem d2_101 : decode method_3_code 101 = .ok (.ldc 30, 2) := by decide +kernel
theorem d2_103 : decode method_3_code 103 = .ok (.ldc 31, 2) := by decide +kernel
theorem d2_105 : decode method_3_code 105 = .ok (.invokestatic 8, 3) := by decide +kernel
theorem d2_108 : decode method_3_code 108 = .ok (.ifCond .ne 80, 3) := by decide +kernel
theorem d2_111 : decode method_3_code 111 = .ok (.iload_n 0, 1) := by decide +kernel
theorem d2_112 : decode method_3_code 112 = .ok (.ldc 32, 2) := by decide +kernel
theorem d2_114 : decode method_3_code 114 = .ok (.ldc 33, 2) := by decide +kernel
theorem d2_116 : decode method_3_code 116 = .ok (.invokestatic 8, 3) := by decide +kernel
theorem d2_119 : decode method_3_code 119 = .ok (.ifCond .ne 69, 3) := by decide +kernel
theorem d2_122 : decode method_3_code 122 = .ok (.iload_n 0, 1) := by decide +kernel
theorem d2_123 : decode method_3_code 123 = .ok (.ldc 34, 2) := by decide +kernel
theorem d2_125 : decode method_3_code 125 = .ok (.ldc 35, 2) := by decide +kernel
theorem d2_127 : decode method_3_code 127 = .ok (.invokestatic 8, 3) := by decide +kernel
theorem d2_130 : decode method_3_code 130 = .ok (.ifCond .ne 58, 3) := by decide +kernel
theorem d2_133 : decode method_3_code 133 = .ok (.iload_n 0, 1) := by decide +kernel
theorem d2_134 : decode method_3_code 134 = .ok (.ldc 36, 2) := by decide +kernel
theorem d2_136 : decode method_3_code 136 = .ok (.ldc 37, 2) := by decide +kernel
theorem d2_138 : decode method_3_code 138 = .ok (.invokestatic 8, 3) := by decide +kernel
theorem d2_141 : decode method_3_code 141 = .ok (.ifCond .ne 47, 3) := by decide +kernel
theorem d2_144 : decode method_3_code 144 = .ok (.iload_n 0, 1) := by decide +kernel
theorem d2_145 : decode method_3_code 145 = .ok (.ldc 38, 2) := by decide +kernel
theorem d2_147 : decode method_3_code 147 = .ok (.ldc 39, 2) := by decide +kernel
theorem d2_149 : decode method_3_code 149 = .ok (.invokestatic 8, 3) := by decide +kernel
theorem d2_152 : decode method_3_code 152 = .ok (.ifCond .ne 36, 3) := by decide +kernel
theorem d2_155 : decode method_3_code 155 = .ok (.iload_n 0, 1) := by decide +kernel
theorem d2_156 : decode method_3_code 156 = .ok (.ldc 40, 2) := by decide +kernel
theorem d2_158 : decode method_3_code 158 = .ok (.ldc 41, 2) := by decide +kernel
theorem d2_160 : decode method_3_code 160 = .ok (.invokestatic 8, 3) := by decide +kernel
theorem d2_163 : decode method_3_code 163 = .ok (.ifCond .ne 25, 3) := by decide +kernel
theorem d2_166 : decode method_3_code 166 = .ok (.iload_n 0, 1) := by decide +kernel
theorem d2_167 : decode method_3_code 167 = .ok (.ldc 42, 2) := by decide +kernel
theorem d2_169 : decode method_3_code 169 = .ok (.ldc 43, 2) := by decide +kernel
theorem d2_171 : decode method_3_code 171 = .ok (.invokestatic 8, 3) := by decide +kernel
theorem d2_174 : decode method_3_code 174 = .ok (.ifCond .ne 14, 3) := by decide +kernel
theorem d2_177 : decode method_3_code 177 = .ok (.iload_n 0, 1) := by decide +kernel
theorem d2_178 : decode method_3_code 178 = .ok (.ldc 44, 2) := by decide +kernel
theorem d2_180 : decode method_3_code 180 = .ok (.ldc 45, 2) := by decide +kernel
theorem d2_182 : decode method_3_code 182 = .ok (.invokestatic 8, 3) := by decide +kernel
theorem d2_185 : decode method_3_code 185 = .ok (.ifCond .eq 7, 3) := by decide +kernel
theorem d2_188 : decode method_3_code 188 = .ok (.iconst 1, 1) := by decide +kernel
theorem d2_189 : decode method_3_code 189 = .ok (.goto 4, 3) := by decide +kernel
theorem d2_192 : decode method_3_code 192 = .ok (.iconst 0, 1) := by decide +kernel
theorem d2_193 : decode method_3_code 193 = .ok (.ireturn, 1) := by decide +kernel
def f2_0 (v0 : Int32) : Int32 := (if (f3_0 v0 (160 : Int32) (55295 : Int32)) = (0 : Int32) then (if (f3_0 v0 (63744 : Int32) (64975 : Int32)) = (0 : Int32) then (if (f3_0 v0 (65008 : Int32) (65519 : Int32)) = (0 : Int32) then (if (f3_0 v0 (65536 : Int32) (131069 : Int32)) = (0 : Int32) then (if (f3_0 v0 (131072 : Int32) (196605 : Int32)) = (0 : Int32) then (if (f3_0 v0 (196608 : Int32) (262141 : Int32)) = (0 : Int32) then (if (f3_0 v0 (262144 : Int32) (327677 : Int32)) = (0 : Int32) then (if (f3_0 v0 (327680 : Int32) (393213 : Int32)) = (0 : Int32) then (if (f3_0 v0 (393216 : Int32) (458749 : Int32)) = (0 : Int32) then (if (f3_0 v0 (458752 : Int32) (524285 : Int32)) = (0 : Int32) then (if (f3_0 v0 (524288 : Int32) (589821 : Int32)) = (0 : Int32) then (if (f3_0 v0 (589824 : Int32) (655357 : Int32)) = (0 : Int32) then (if (f3_0 v0 (655360 : Int32) (720893 : Int32)) = (0 : Int32) then (if (f3_0 v0 (720896 : Int32) (786429 : Int32)) = (0 : Int32) then (if (f3_0 v0 (786432 : Int32) (851965 : Int32)) = (0 : Int32) then (if (f3_0 v0 (851968 : Int32) (917501 : Int32)) = (0 : Int32) then (if (f3_0 v0 (921600 : Int32) (983037 : Int32)) = (0 : Int32) then (0 : Int32) else (1 : Int32)) else (1 : Int32)) else (1 : Int32)) else (1 : Int32)) else (1 : Int32)) else (1 : Int32)) else (1 : Int32)) else (1 : Int32)) else (1 : Int32)) else (1 : Int32)) else (1 : Int32)) else (1 : Int32)) else (1 : Int32)) else (1 : Int32)) else (1 : Int32)) else (1 : Int32)) else (1 : Int32))
set_option maxRecDepth 65536 in
set_option maxHeartbeats 4000000 in
theorem b2_0 {p : Program} {l : Launch} {e : Env} {s : State} {m : MethodId} {args : Array Value} {below : List Frame} {meth : Method} {c : Code} {T0 : State} {Z : State} {a0 : Array Value} {h0 : Heap} {locs : List Loc} {cells slots : Nat} {Q : Option Value → Heap → List Loc → Prop} (hw : ∀ d ∈ tables_1, d.before a0 Z = true) (hx : p.tables.exec = Jvm.exec) (hby : c.code = method_3_code) (hml : c.maxLocals = 1) (hown : s.vm.findClass "com/example/map21/map21/util/IriCharactersIsUcscharPinLaw" = some m.cls) (hZ : Z.Warmed39 s.vm) (hret : meth.sig.returnType = some .boolean) (hlk : meth.locks = false) (X0 : Stand p l e ({ frames := 1, cells := 0, slots := 0, locals := 14 } : Room) s m args below meth c T0 locs cells slots) (e0 : T0.heap = h0) (hc : cells ≤ ({ frames := 1, cells := 0, slots := 0, locals := 14 } : Room).cells) (hs : slots ≤ ({ frames := 1, cells := 0, slots := 0, locals := 14 } : Room).slots) (v0 : Int32) (hq : Q (some (.int (f2_0 v0))) h0 locs) :
    Go p e below s ({ frames := 1, cells := 0, slots := 0, locals := 14 } : Room).cells ({ frames := 1, cells := 0, slots := 0, locals := 14 } : Room).slots Q T0 (mkF m 0 #[.val (.int v0)] []) := by
  unfold f2_0 at hq
  refine go_step (T' := T0) (g' := (mkF m 1 #[.val (.int v0)] [(.int v0)])) (fun t k => XS.iloadN X0.here hx rfl (hb hby d2_0) rfl  k) ?_
  refine go_step (T' := T0) (g' := (mkF m 4 #[.val (.int v0)] [(.int (160 : Int32)), (.int v0)])) (fun t k => XS.sipush X0.here hx rfl (hb hby d2_1) k) ?_
  refine go_step (T' := T0) (g' := (mkF m 6 #[.val (.int v0)] [(.int (55295 : Int32)), (.int (160 : Int32)), (.int v0)])) (X0.ldcInt hx hown (mvT hZ (hw _ (List.mem_of_getElem? (i := 1) rfl))) (g := (mkF m 4 #[.val (.int v0)] [(.int (160 : Int32)), (.int v0)])) rfl (hb hby d2_4)) ?_
  refine go_callSP X0 hx hZ hown (hw _ (List.mem_of_getElem? (i := 56) rfl)) (hw _ (List.mem_of_getElem? (i := 57) rfl)) (hw _ (List.mem_of_getElem? (i := 54) rfl)) (hw _ (List.mem_of_getElem? (i := 58) rfl)) (by decide) e0 (mq3 l Z a0 hw v0 (160 : Int32) (55295 : Int32) h0) 0 (by decide) (by decide) (g := (mkF m 6 #[.val (.int v0)] [(.int (55295 : Int32)), (.int (160 : Int32)), (.int v0)])) rfl (by rw [hml]; rfl) (argsL := [(.int v0), (.int (160 : Int32)), (.int (55295 : Int32))]) (rest := []) (lenOf pd_0 rfl) rfl (by show 2 * 0 + _ ≤ _; exact Nat.le_of_eq rfl) (hb hby d2_6) rfl rfl rfl hc hs (fun T1 X1 e1 => ?_)
  show Go p e below s _ _ _ T1 (mkF m 9 #[.val (.int v0)] [(.int (f3_0 v0 (160 : Int32) (55295 : Int32)))])
  by_cases hc1 : (f3_0 v0 (160 : Int32) (55295 : Int32)) = (0 : Int32)
  · rw [if_pos hc1] at hq
    refine go_step (T' := T1) (g' := (mkF m 12 #[.val (.int v0)] [])) (fun t k => XS.ifNo X1.here hx rfl (hb hby d2_9) rfl ((if0 _ _).trans (teq hc1).2) k) ?_
    refine go_step (T' := T1) (g' := (mkF m 13 #[.val (.int v0)] [(.int v0)])) (fun t k => XS.iloadN X1.here hx rfl (hb hby d2_12) rfl  k) ?_
    refine go_step (T' := T1) (g' := (mkF m 15 #[.val (.int v0)] [(.int (63744 : Int32)), (.int v0)])) (X1.ldcInt hx hown (mvT hZ (hw _ (List.mem_of_getElem? (i := 2) rfl))) (g := (mkF m 13 #[.val (.int v0)] [(.int v0)])) rfl (hb hby d2_13)) ?_
    refine go_step (T' := T1) (g' := (mkF m 17 #[.val (.int v0)] [(.int (64975 : Int32)), (.int (63744 : Int32)), (.int v0)])) (X1.ldcInt hx hown (mvT hZ (hw _ (List.mem_of_getElem? (i := 3) rfl))) (g := (mkF m 15 #[.val (.int v0)] [(.int (63744 : Int32)), (.int v0)])) rfl (hb hby d2_15)) ?_
    refine go_callSP X1 hx hZ hown (hw _ (List.mem_of_getElem? (i := 56) rfl)) (hw _ (List.mem_of_getElem? (i := 57) rfl)) (hw _ (List.mem_of_getElem? (i := 54) rfl)) (hw _ (List.mem_of_getElem? (i := 58) rfl)) (by decide) e1 (mq3 l Z a0 hw v0 (63744 : Int32) (64975 : Int32) h0) 0 (by decide) (by decide) (g := (mkF m 17 #[.val (.int v0)] [(.int (64975 : Int32)), (.int (63744 : Int32)), (.int v0)])) rfl (by rw [hml]; rfl) (argsL := [(.int v0), (.int (63744 : Int32)), (.int (64975 : Int32))]) (rest := []) (lenOf pd_0 rfl) rfl (by show 2 * 0 + _ ≤ _; exact Nat.le_of_eq rfl) (hb hby d2_17) rfl rfl rfl hc hs (fun T3 X3 e3 => ?_)
    show Go p e below s _ _ _ T3 (mkF m 20 #[.val (.int v0)] [(.int (f3_0 v0 (63744 : Int32) (64975 : Int32)))])
    by_cases hc3 : (f3_0 v0 (63744 : Int32) (64975 : Int32)) = (0 : Int32)
    · rw [if_pos hc3] at hq
      refine go_step (T' := T3) (g' := (mkF m 23 #[.val (.int v0)] [])) (fun t k => XS.ifNo X3.here hx rfl (hb hby d2_20) rfl ((if0 _ _).trans (teq hc3).2) k) ?_
      refine go_step (T' := T3) (g' := (mkF m 24 #[.val (.int v0)] [(.int v0)])) (fun t k => XS.iloadN X3.here hx rfl (hb hby d2_23) rfl  k) ?_
      refine go_step (T' := T3) (g' := (mkF m 26 #[.val (.int v0)] [(.int (65008 : Int32)), (.int v0)])) (X3.ldcInt hx hown (mvT hZ (hw _ (List.mem_of_getElem? (i := 4) rfl))) (g := (mkF m 24 #[.val (.int v0)] [(.int v0)])) rfl (hb hby d2_24)) ?_
      refine go_step (T' := T3) (g' := (mkF m 28 #[.val (.int v0)] [(.int (65519 : Int32)), (.int (65008 : Int32)), (.int v0)])) (X3.ldcInt hx hown (mvT hZ (hw _ (List.mem_of_getElem? (i := 5) rfl))) (g := (mkF m 26 #[.val (.int v0)] [(.int (65008 : Int32)), (.int v0)])) rfl (hb hby d2_26)) ?_
      refine go_callSP X3 hx hZ hown (hw _ (List.mem_of_getElem? (i := 56) rfl)) (hw _ (List.mem_of_getElem? (i := 57) rfl)) (hw _ (List.mem_of_getElem? (i := 54) rfl)) (hw _ (List.mem_of_getElem? (i := 58) rfl)) (by decide) e3 (mq3 l Z a0 hw v0 (65008 : Int32) (65519 : Int32) h0) 0 (by decide) (by decide) (g := (mkF m 28 #[.val (.int v0)] [(.int (65519 : Int32)), (.int (65008 : Int32)), (.int v0)])) rfl (by rw [hml]; rfl) (argsL := [(.int v0), (.int (65008 : Int32)), (.int (65519 : Int32))]) (rest := []) (lenOf pd_0 rfl) rfl (by show 2 * 0 + _ ≤ _; exact Nat.le_of_eq rfl) (hb hby d2_28) rfl rfl rfl hc hs (fun T5 X5 e5 => ?_)
      show Go p e below s _ _ _ T5 (mkF m 31 #[.val (.int v0)] [(.int (f3_0 v0 (65008 : Int32) (65519 : Int32)))])
      by_cases hc5 : (f3_0 v0 (65008 : Int32) (65519 : Int32)) = (0 : Int32)
      · rw [if_pos hc5] at hq
        refine go_step (T' := T5) (g' := (mkF m 34 #[.val (.int v0)] [])) (fun t k => XS.ifNo X5.here hx rfl (hb hby d2_31) rfl ((if0 _ _).trans (teq hc5).2) k) ?_
        refine go_step (T' := T5) (g' := (mkF m 35 #[.val (.int v0)] [(.int v0)])) (fun t k => XS.iloadN X5.here hx rfl (hb hby d2_34) rfl  k) ?_
        refine go_step (T' := T5) (g' := (mkF m 37 #[.val (.int v0)] [(.int (65536 : Int32)), (.int v0)])) (X5.ldcInt hx hown (mvT hZ (hw _ (List.mem_of_getElem? (i := 7) rfl))) (g := (mkF m 35 #[.val (.int v0)] [(.int v0)])) rfl (hb hby d2_35)) ?_
        refine go_step (T' := T5) (g' := (mkF m 39 #[.val (.int v0)] [(.int (131069 : Int32)), (.int (65536 : Int32)), (.int v0)])) (X5.ldcInt hx hown (mvT hZ (hw _ (List.mem_of_getElem? (i := 8) rfl))) (g := (mkF m 37 #[.val (.int v0)] [(.int (65536 : Int32)), (.int v0)])) rfl (hb hby d2_37)) ?_
        refine go_callSP X5 hx hZ hown (hw _ (List.mem_of_getElem? (i := 56) rfl)) (hw _ (List.mem_of_getElem? (i := 57) rfl)) (hw _ (List.mem_of_getElem? (i := 54) rfl)) (hw _ (List.mem_of_getElem? (i := 58) rfl)) (by decide) e5 (mq3 l Z a0 hw v0 (65536 : Int32) (131069 : Int32) h0) 0 (by decide) (by decide) (g := (mkF m 39 #[.val (.int v0)] [(.int (131069 : Int32)), (.int (65536 : Int32)), (.int v0)])) rfl (by rw [hml]; rfl) (argsL := [(.int v0), (.int (65536 : Int32)), (.int (131069 : Int32))]) (rest := []) (lenOf pd_0 rfl) rfl (by show 2 * 0 + _ ≤ _; exact Nat.le_of_eq rfl) (hb hby d2_39) rfl rfl rfl hc hs (fun T7 X7 e7 => ?_)
        show Go p e below s _ _ _ T7 (mkF m 42 #[.val (.int v0)] [(.int (f3_0 v0 (65536 : Int32) (131069 : Int32)))])
        by_cases hc7 : (f3_0 v0 (65536 : Int32) (131069 : Int32)) = (0 : Int32)
        · rw [if_pos hc7] at hq
          refine go_step (T' := T7) (g' := (mkF m 45 #[.val (.int v0)] [])) (fun t k => XS.ifNo X7.here hx rfl (hb hby d2_42) rfl ((if0 _ _).trans (teq hc7).2) k) ?_
          refine go_step (T' := T7) (g' := (mkF m 46 #[.val (.int v0)] [(.int v0)])) (fun t k => XS.iloadN X7.here hx rfl (hb hby d2_45) rfl  k) ?_
          refine go_step (T' := T7) (g' := (mkF m 48 #[.val (.int v0)] [(.int (131072 : Int32)), (.int v0)])) (X7.ldcInt hx hown (mvT hZ (hw _ (List.mem_of_getElem? (i := 9) rfl))) (g := (mkF m 46 #[.val (.int v0)] [(.int v0)])) rfl (hb hby d2_46)) ?_
          refine go_step (T' := T7) (g' := (mkF m 50 #[.val (.int v0)] [(.int (196605 : Int32)), (.int (131072 : Int32)), (.int v0)])) (X7.ldcInt hx hown (mvT hZ (hw _ (List.mem_of_getElem? (i := 10) rfl))) (g := (mkF m 48 #[.val (.int v0)] [(.int (131072 : Int32)), (.int v0)])) rfl (hb hby d2_48)) ?_
          refine go_callSP X7 hx hZ hown (hw _ (List.mem_of_getElem? (i := 56) rfl)) (hw _ (List.mem_of_getElem? (i := 57) rfl)) (hw _ (List.mem_of_getElem? (i := 54) rfl)) (hw _ (List.mem_of_getElem? (i := 58) rfl)) (by decide) e7 (mq3 l Z a0 hw v0 (131072 : Int32) (196605 : Int32) h0) 0 (by decide) (by decide) (g := (mkF m 50 #[.val (.int v0)] [(.int (196605 : Int32)), (.int (131072 : Int32)), (.int v0)])) rfl (by rw [hml]; rfl) (argsL := [(.int v0), (.int (131072 : Int32)), (.int (196605 : Int32))]) (rest := []) (lenOf pd_0 rfl) rfl (by show 2 * 0 + _ ≤ _; exact Nat.le_of_eq rfl) (hb hby d2_50) rfl rfl rfl hc hs (fun T9 X9 e9 => ?_)
          show Go p e below s _ _ _ T9 (mkF m 53 #[.val (.int v0)] [(.int (f3_0 v0 (131072 : Int32) (196605 : Int32)))])
          by_cases hc9 : (f3_0 v0 (131072 : Int32) (196605 : Int32)) = (0 : Int32)
          · rw [if_pos hc9] at hq
            refine go_step (T' := T9) (g' := (mkF m 56 #[.val (.int v0)] [])) (fun t k => XS.ifNo X9.here hx rfl (hb hby d2_53) rfl ((if0 _ _).trans (teq hc9).2) k) ?_
            refine go_step (T' := T9) (g' := (mkF m 57 #[.val (.int v0)] [(.int v0)])) (fun t k => XS.iloadN X9.here hx rfl (hb hby d2_56) rfl  k) ?_
            refine go_step (T' := T9) (g' := (mkF m 59 #[.val (.int v0)] [(.int (196608 : Int32)), (.int v0)])) (X9.ldcInt hx hown (mvT hZ (hw _ (List.mem_of_getElem? (i := 11) rfl))) (g := (mkF m 57 #[.val (.int v0)] [(.int v0)])) rfl (hb hby d2_57)) ?_
            refine go_step (T' := T9) (g' := (mkF m 61 #[.val (.int v0)] [(.int (262141 : Int32)), (.int (196608 : Int32)), (.int v0)])) (X9.ldcInt hx hown (mvT hZ (hw _ (List.mem_of_getElem? (i := 12) rfl))) (g := (mkF m 59 #[.val (.int v0)] [(.int (196608 : Int32)), (.int v0)])) rfl (hb hby d2_59)) ?_
            refine go_callSP X9 hx hZ hown (hw _ (List.mem_of_getElem? (i := 56) rfl)) (hw _ (List.mem_of_getElem? (i := 57) rfl)) (hw _ (List.mem_of_getElem? (i := 54) rfl)) (hw _ (List.mem_of_getElem? (i := 58) rfl)) (by decide) e9 (mq3 l Z a0 hw v0 (196608 : Int32) (262141 : Int32) h0) 0 (by decide) (by decide) (g := (mkF m 61 #[.val (.int v0)] [(.int (262141 : Int32)), (.int (196608 : Int32)), (.int v0)])) rfl (by rw [hml]; rfl) (argsL := [(.int v0), (.int (196608 : Int32)), (.int (262141 : Int32))]) (rest := []) (lenOf pd_0 rfl) rfl (by show 2 * 0 + _ ≤ _; exact Nat.le_of_eq rfl) (hb hby d2_61) rfl rfl rfl hc hs (fun T11 X11 e11 => ?_)
            show Go p e below s _ _ _ T11 (mkF m 64 #[.val (.int v0)] [(.int (f3_0 v0 (196608 : Int32) (262141 : Int32)))])
            by_cases hc11 : (f3_0 v0 (196608 : Int32) (262141 : Int32)) = (0 : Int32)
            · rw [if_pos hc11] at hq
              refine go_step (T' := T11) (g' := (mkF m 67 #[.val (.int v0)] [])) (fun t k => XS.ifNo X11.here hx rfl (hb hby d2_64) rfl ((if0 _ _).trans (teq hc11).2) k) ?_
              refine go_step (T' := T11) (g' := (mkF m 68 #[.val (.int v0)] [(.int v0)])) (fun t k => XS.iloadN X11.here hx rfl (hb hby d2_67) rfl  k) ?_
              refine go_step (T' := T11) (g' := (mkF m 70 #[.val (.int v0)] [(.int (262144 : Int32)), (.int v0)])) (X11.ldcInt hx hown (mvT hZ (hw _ (List.mem_of_getElem? (i := 13) rfl))) (g := (mkF m 68 #[.val (.int v0)] [(.int v0)])) rfl (hb hby d2_68)) ?_
              refine go_step (T' := T11) (g' := (mkF m 72 #[.val (.int v0)] [(.int (327677 : Int32)), (.int (262144 : Int32)), (.int v0)])) (X11.ldcInt hx hown (mvT hZ (hw _ (List.mem_of_getElem? (i := 14) rfl))) (g := (mkF m 70 #[.val (.int v0)] [(.int (262144 : Int32)), (.int v0)])) rfl (hb hby d2_70)) ?_
              refine go_callSP X11 hx hZ hown (hw _ (List.mem_of_getElem? (i := 56) rfl)) (hw _ (List.mem_of_getElem? (i := 57) rfl)) (hw _ (List.mem_of_getElem? (i := 54) rfl)) (hw _ (List.mem_of_getElem? (i := 58) rfl)) (by decide) e11 (mq3 l Z a0 hw v0 (262144 : Int32) (327677 : Int32) h0) 0 (by decide) (by decide) (g := (mkF m 72 #[.val (.int v0)] [(.int (327677 : Int32)), (.int (262144 : Int32)), (.int v0)])) rfl (by rw [hml]; rfl) (argsL := [(.int v0), (.int (262144 : Int32)), (.int (327677 : Int32))]) (rest := []) (lenOf pd_0 rfl) rfl (by show 2 * 0 + _ ≤ _; exact Nat.le_of_eq rfl) (hb hby d2_72) rfl rfl rfl hc hs (fun T13 X13 e13 => ?_)
              show Go p e below s _ _ _ T13 (mkF m 75 #[.val (.int v0)] [(.int (f3_0 v0 (262144 : Int32) (327677 : Int32)))])
              by_cases hc13 : (f3_0 v0 (262144 : Int32) (327677 : Int32)) = (0 : Int32)
              · rw [if_pos hc13] at hq
                refine go_step (T' := T13) (g' := (mkF m 78 #[.val (.int v0)] [])) (fun t k => XS.ifNo X13.here hx rfl (hb hby d2_75) rfl ((if0 _ _).trans (teq hc13).2) k) ?_
                refine go_step (T' := T13) (g' := (mkF m 79 #[.val (.int v0)] [(.int v0)])) (fun t k => XS.iloadN X13.here hx rfl (hb hby d2_78) rfl  k) ?_
                refine go_step (T' := T13) (g' := (mkF m 81 #[.val (.int v0)] [(.int (327680 : Int32)), (.int v0)])) (X13.ldcInt hx hown (mvT hZ (hw _ (List.mem_of_getElem? (i := 15) rfl))) (g := (mkF m 79 #[.val (.int v0)] [(.int v0)])) rfl (hb hby d2_79)) ?_
                refine go_step (T' := T13) (g' := (mkF m 83 #[.val (.int v0)] [(.int (393213 : Int32)), (.int (327680 : Int32)), (.int v0)])) (X13.ldcInt hx hown (mvT hZ (hw _ (List.mem_of_getElem? (i := 16) rfl))) (g := (mkF m 81 #[.val (.int v0)] [(.int (327680 : Int32)), (.int v0)])) rfl (hb hby d2_81)) ?_
                refine go_callSP X13 hx hZ hown (hw _ (List.mem_of_getElem? (i := 56) rfl)) (hw _ (List.mem_of_getElem? (i := 57) rfl)) (hw _ (List.mem_of_getElem? (i := 54) rfl)) (hw _ (List.mem_of_getElem? (i := 58) rfl)) (by decide) e13 (mq3 l Z a0 hw v0 (327680 : Int32) (393213 : Int32) h0) 0 (by decide) (by decide) (g := (mkF m 83 #[.val (.int v0)] [(.int (393213 : Int32)), (.int (327680 : Int32)), (.int v0)])) rfl (by rw [hml]; rfl) (argsL := [(.int v0), (.int (327680 : Int32)), (.int (393213 : Int32))]) (rest := []) (lenOf pd_0 rfl) rfl (by show 2 * 0 + _ ≤ _; exact Nat.le_of_eq rfl) (hb hby d2_83) rfl rfl rfl hc hs (fun T15 X15 e15 => ?_)
                show Go p e below s _ _ _ T15 (mkF m 86 #[.val (.int v0)] [(.int (f3_0 v0 (327680 : Int32) (393213 : Int32)))])
                by_cases hc15 : (f3_0 v0 (327680 : Int32) (393213 : Int32)) = (0 : Int32)
                · rw [if_pos hc15] at hq
                  refine go_step (T' := T15) (g' := (mkF m 89 #[.val (.int v0)] [])) (fun t k => XS.ifNo X15.here hx rfl (hb hby d2_86) rfl ((if0 _ _).trans (teq hc15).2) k) ?_
                  refine go_step (T' := T15) (g' := (mkF m 90 #[.val (.int v0)] [(.int v0)])) (fun t k => XS.iloadN X15.here hx rfl (hb hby d2_89) rfl  k) ?_
                  refine go_step (T' := T15) (g' := (mkF m 92 #[.val (.int v0)] [(.int (393216 : Int32)), (.int v0)])) (X15.ldcInt hx hown (mvT hZ (hw _ (List.mem_of_getElem? (i := 17) rfl))) (g := (mkF m 90 #[.val (.int v0)] [(.int v0)])) rfl (hb hby d2_90)) ?_
                  refine go_step (T' := T15) (g' := (mkF m 94 #[.val (.int v0)] [(.int (458749 : Int32)), (.int (393216 : Int32)), (.int v0)])) (X15.ldcInt hx hown (mvT hZ (hw _ (List.mem_of_getElem? (i := 18) rfl))) (g := (mkF m 92 #[.val (.int v0)] [(.int (393216 : Int32)), (.int v0)])) rfl (hb hby d2_92)) ?_
                  refine go_callSP X15 hx hZ hown (hw _ (List.mem_of_getElem? (i := 56) rfl)) (hw _ (List.mem_of_getElem? (i := 57) rfl)) (hw _ (List.mem_of_getElem? (i := 54) rfl)) (hw _ (List.mem_of_getElem? (i := 58) rfl)) (by decide) e15 (mq3 l Z a0 hw v0 (393216 : Int32) (458749 : Int32) h0) 0 (by decide) (by decide) (g := (mkF m 94 #[.val (.int v0)] [(.int (458749 : Int32)), (.int (393216 : Int32)), (.int v0)])) rfl (by rw [hml]; rfl) (argsL := [(.int v0), (.int (393216 : Int32)), (.int (458749 : Int32))]) (rest := []) (lenOf pd_0 rfl) rfl (by show 2 * 0 + _ ≤ _; exact Nat.le_of_eq rfl) (hb hby d2_94) rfl rfl rfl hc hs (fun T17 X17 e17 => ?_)
                  show Go p e below s _ _ _ T17 (mkF m 97 #[.val (.int v0)] [(.int (f3_0 v0 (393216 : Int32) (458749 : Int32)))])
                  by_cases hc17 : (f3_0 v0 (393216 : Int32) (458749 : Int32)) = (0 : Int32)
                  · rw [if_pos hc17] at hq
                    refine go_step (T' := T17) (g' := (mkF m 100 #[.val (.int v0)] [])) (fun t k => XS.ifNo X17.here hx rfl (hb hby d2_97) rfl ((if0 _ _).trans (teq hc17).2) k) ?_
                    refine go_step (T' := T17) (g' := (mkF m 101 #[.val (.int v0)] [(.int v0)])) (fun t k => XS.iloadN X17.here hx rfl (hb hby d2_100) rfl  k) ?_
                    refine go_step (T' := T17) (g' := (mkF m 103 #[.val (.int v0)] [(.int (458752 : Int32)), (.int v0)])) (X17.ldcInt hx hown (mvT hZ (hw _ (List.mem_of_getElem? (i := 19) rfl))) (g := (mkF m 101 #[.val (.int v0)] [(.int v0)])) rfl (hb hby d2_101)) ?_
                    refine go_step (T' := T17) (g' := (mkF m 105 #[.val (.int v0)] [(.int (524285 : Int32)), (.int (458752 : Int32)), (.int v0)])) (X17.ldcInt hx hown (mvT hZ (hw _ (List.mem_of_getElem? (i := 20) rfl))) (g := (mkF m 103 #[.val (.int v0)] [(.int (458752 : Int32)), (.int v0)])) rfl (hb hby d2_103)) ?_
                    refine go_callSP X17 hx hZ hown (hw _ (List.mem_of_getElem? (i := 56) rfl)) (hw _ (List.mem_of_getElem? (i := 57) rfl)) (hw _ (List.mem_of_getElem? (i := 54) rfl)) (hw _ (List.mem_of_getElem? (i := 58) rfl)) (by decide) e17 (mq3 l Z a0 hw v0 (458752 : Int32) (524285 : Int32) h0) 0 (by decide) (by decide) (g := (mkF m 105 #[.val (.int v0)] [(.int (524285 : Int32)), (.int (458752 : Int32)), (.int v0)])) rfl (by rw [hml]; rfl) (argsL := [(.int v0), (.int (458752 : Int32)), (.int (524285 : Int32))]) (rest := []) (lenOf pd_0 rfl) rfl (by show 2 * 0 + _ ≤ _; exact Nat.le_of_eq rfl) (hb hby d2_105) rfl rfl rfl hc hs (fun T19 X19 e19 => ?_)
                    show Go p e below s _ _ _ T19 (mkF m 108 #[.val (.int v0)] [(.int (f3_0 v0 (458752 : Int32) (524285 : Int32)))])
                    by_cases hc19 : (f3_0 v0 (458752 : Int32) (524285 : Int32)) = (0 : Int32)
                    · rw [if_pos hc19] at hq
                      refine go_step (T' := T19) (g' := (mkF m 111 #[.val (.int v0)] [])) (fun t k => XS.ifNo X19.here hx rfl (hb hby d2_108) rfl ((if0 _ _).trans (teq hc19).2) k) ?_
                      refine go_step (T' := T19) (g' := (mkF m 112 #[.val (.int v0)] [(.int v0)])) (fun t k => XS.iloadN X19.here hx rfl (hb hby d2_111) rfl  k) ?_
                      refine go_step (T' := T19) (g' := (mkF m 114 #[.val (.int v0)] [(.int (524288 : Int32)), (.int v0)])) (X19.ldcInt hx hown (mvT hZ (hw _ (List.mem_of_getElem? (i := 21) rfl))) (g := (mkF m 112 #[.val (.int v0)] [(.int v0)])) rfl (hb hby d2_112)) ?_
                      refine go_step (T' := T19) (g' := (mkF m 116 #[.val (.int v0)] [(.int (589821 : Int32)), (.int (524288 : Int32)), (.int v0)])) (X19.ldcInt hx hown (mvT hZ (hw _ (List.mem_of_getElem? (i := 22) rfl))) (g := (mkF m 114 #[.val (.int v0)] [(.int (524288 : Int32)), (.int v0)])) rfl (hb hby d2_114)) ?_
                      refine go_callSP X19 hx hZ hown (hw _ (List.mem_of_getElem? (i := 56) rfl)) (hw _ (List.mem_of_getElem? (i := 57) rfl)) (hw _ (List.mem_of_getElem? (i := 54) rfl)) (hw _ (List.mem_of_getElem? (i := 58) rfl)) (by decide) e19 (mq3 l Z a0 hw v0 (524288 : Int32) (589821 : Int32) h0) 0 (by decide) (by decide) (g := (mkF m 116 #[.val (.int v0)] [(.int (589821 : Int32)), (.int (524288 : Int32)), (.int v0)])) rfl (by rw [hml]; rfl) (argsL := [(.int v0), (.int (524288 : Int32)), (.int (589821 : Int32))]) (rest := []) (lenOf pd_0 rfl) rfl (by show 2 * 0 + _ ≤ _; exact Nat.le_of_eq rfl) (hb hby d2_116) rfl rfl rfl hc hs (fun T21 X21 e21 => ?_)
                      show Go p e below s _ _ _ T21 (mkF m 119 #[.val (.int v0)] [(.int (f3_0 v0 (524288 : Int32) (589821 : Int32)))])
                      by_cases hc21 : (f3_0 v0 (524288 : Int32) (589821 : Int32)) = (0 : Int32)
                      · rw [if_pos hc21] at hq
                        refine go_step (T' := T21) (g' := (mkF m 122 #[.val (.int v0)] [])) (fun t k => XS.ifNo X21.here hx rfl (hb hby d2_119) rfl ((if0 _ _).trans (teq hc21).2) k) ?_
                        refine go_step (T' := T21) (g' := (mkF m 123 #[.val (.int v0)] [(.int v0)])) (fun t k => XS.iloadN X21.here hx rfl (hb hby d2_122) rfl  k) ?_
                        refine go_step (T' := T21) (g' := (mkF m 125 #[.val (.int v0)] [(.int (589824 : Int32)), (.int v0)])) (X21.ldcInt hx hown (mvT hZ (hw _ (List.mem_of_getElem? (i := 23) rfl))) (g := (mkF m 123 #[.val (.int v0)] [(.int v0)])) rfl (hb hby d2_123)) ?_
                        refine go_step (T' := T21) (g' := (mkF m 127 #[.val (.int v0)] [(.int (655357 : Int32)), (.int (589824 : Int32)), (.int v0)])) (X21.ldcInt hx hown (mvT hZ (hw _ (List.mem_of_getElem? (i := 24) rfl))) (g := (mkF m 125 #[.val (.int v0)] [(.int (589824 : Int32)), (.int v0)])) rfl (hb hby d2_125)) ?_
                        refine go_callSP X21 hx hZ hown (hw _ (List.mem_of_getElem? (i := 56) rfl)) (hw _ (List.mem_of_getElem? (i := 57) rfl)) (hw _ (List.mem_of_getElem? (i := 54) rfl)) (hw _ (List.mem_of_getElem? (i := 58) rfl)) (by decide) e21 (mq3 l Z a0 hw v0 (589824 : Int32) (655357 : Int32) h0) 0 (by decide) (by decide) (g := (mkF m 127 #[.val (.int v0)] [(.int (655357 : Int32)), (.int (589824 : Int32)), (.int v0)])) rfl (by rw [hml]; rfl) (argsL := [(.int v0), (.int (589824 : Int32)), (.int (655357 : Int32))]) (rest := []) (lenOf pd_0 rfl) rfl (by show 2 * 0 + _ ≤ _; exact Nat.le_of_eq rfl) (hb hby d2_127) rfl rfl rfl hc hs (fun T23 X23 e23 => ?_)
                        show Go p e below s _ _ _ T23 (mkF m 130 #[.val (.int v0)] [(.int (f3_0 v0 (589824 : Int32) (655357 : Int32)))])
                        by_cases hc23 : (f3_0 v0 (589824 : Int32) (655357 : Int32)) = (0 : Int32)
                        · rw [if_pos hc23] at hq
                          refine go_step (T' := T23) (g' := (mkF m 133 #[.val (.int v0)] [])) (fun t k => XS.ifNo X23.here hx rfl (hb hby d2_130) rfl ((if0 _ _).trans (teq hc23).2) k) ?_
                          refine go_step (T' := T23) (g' := (mkF m 134 #[.val (.int v0)] [(.int v0)])) (fun t k => XS.iloadN X23.here hx rfl (hb hby d2_133) rfl  k) ?_
                          refine go_step (T' := T23) (g' := (mkF m 136 #[.val (.int v0)] [(.int (655360 : Int32)), (.int v0)])) (X23.ldcInt hx hown (mvT hZ (hw _ (List.mem_of_getElem? (i := 25) rfl))) (g := (mkF m 134 #[.val (.int v0)] [(.int v0)])) rfl (hb hby d2_134)) ?_
                          refine go_step (T' := T23) (g' := (mkF m 138 #[.val (.int v0)] [(.int (720893 : Int32)), (.int (655360 : Int32)), (.int v0)])) (X23.ldcInt hx hown (mvT hZ (hw _ (List.mem_of_getElem? (i := 26) rfl))) (g := (mkF m 136 #[.val (.int v0)] [(.int (655360 : Int32)), (.int v0)])) rfl (hb hby d2_136)) ?_
                          refine go_callSP X23 hx hZ hown (hw _ (List.mem_of_getElem? (i := 56) rfl)) (hw _ (List.mem_of_getElem? (i := 57) rfl)) (hw _ (List.mem_of_getElem? (i := 54) rfl)) (hw _ (List.mem_of_getElem? (i := 58) rfl)) (by decide) e23 (mq3 l Z a0 hw v0 (655360 : Int32) (720893 : Int32) h0) 0 (by decide) (by decide) (g := (mkF m 138 #[.val (.int v0)] [(.int (720893 : Int32)), (.int (655360 : Int32)), (.int v0)])) rfl (by rw [hml]; rfl) (argsL := [(.int v0), (.int (655360 : Int32)), (.int (720893 : Int32))]) (rest := []) (lenOf pd_0 rfl) rfl (by show 2 * 0 + _ ≤ _; exact Nat.le_of_eq rfl) (hb hby d2_138) rfl rfl rfl hc hs (fun T25 X25 e25 => ?_)
                          show Go p e below s _ _ _ T25 (mkF m 141 #[.val (.int v0)] [(.int (f3_0 v0 (655360 : Int32) (720893 : Int32)))])
                          by_cases hc25 : (f3_0 v0 (655360 : Int32) (720893 : Int32)) = (0 : Int32)
                          · rw [if_pos hc25] at hq
                            refine go_step (T' := T25) (g' := (mkF m 144 #[.val (.int v0)] [])) (fun t k => XS.ifNo X25.here hx rfl (hb hby d2_141) rfl ((if0 _ _).trans (teq hc25).2) k) ?_
                            refine go_step (T' := T25) (g' := (mkF m 145 #[.val (.int v0)] [(.int v0)])) (fun t k => XS.iloadN X25.here hx rfl (hb hby d2_144) rfl  k) ?_
                            refine go_step (T' := T25) (g' := (mkF m 147 #[.val (.int v0)] [(.int (720896 : Int32)), (.int v0)])) (X25.ldcInt hx hown (mvT hZ (hw _ (List.mem_of_getElem? (i := 27) rfl))) (g := (mkF m 145 #[.val (.int v0)] [(.int v0)])) rfl (hb hby d2_145)) ?_
                            refine go_step (T' := T25) (g' := (mkF m 149 #[.val (.int v0)] [(.int (786429 : Int32)), (.int (720896 : Int32)), (.int v0)])) (X25.ldcInt hx hown (mvT hZ (hw _ (List.mem_of_getElem? (i := 28) rfl))) (g := (mkF m 147 #[.val (.int v0)] [(.int (720896 : Int32)), (.int v0)])) rfl (hb hby d2_147)) ?_
                            refine go_callSP X25 hx hZ hown (hw _ (List.mem_of_getElem? (i := 56) rfl)) (hw _ (List.mem_of_getElem? (i := 57) rfl)) (hw _ (List.mem_of_getElem? (i := 54) rfl)) (hw _ (List.mem_of_getElem? (i := 58) rfl)) (by decide) e25 (mq3 l Z a0 hw v0 (720896 : Int32) (786429 : Int32) h0) 0 (by decide) (by decide) (g := (mkF m 149 #[.val (.int v0)] [(.int (786429 : Int32)), (.int (720896 : Int32)), (.int v0)])) rfl (by rw [hml]; rfl) (argsL := [(.int v0), (.int (720896 : Int32)), (.int (786429 : Int32))]) (rest := []) (lenOf pd_0 rfl) rfl (by show 2 * 0 + _ ≤ _; exact Nat.le_of_eq rfl) (hb hby d2_149) rfl rfl rfl hc hs (fun T27 X27 e27 => ?_)
                            show Go p e below s _ _ _ T27 (mkF m 152 #[.val (.int v0)] [(.int (f3_0 v0 (720896 : Int32) (786429 : Int32)))])
                            by_cases hc27 : (f3_0 v0 (720896 : Int32) (786429 : Int32)) = (0 : Int32)
                            · rw [if_pos hc27] at hq
                              refine go_step (T' := T27) (g' := (mkF m 155 #[.val (.int v0)] [])) (fun t k => XS.ifNo X27.here hx rfl (hb hby d2_152) rfl ((if0 _ _).trans (teq hc27).2) k) ?_
                              refine go_step (T' := T27) (g' := (mkF m 156 #[.val (.int v0)] [(.int v0)])) (fun t k => XS.iloadN X27.here hx rfl (hb hby d2_155) rfl  k) ?_
                              refine go_step (T' := T27) (g' := (mkF m 158 #[.val (.int v0)] [(.int (786432 : Int32)), (.int v0)])) (X27.ldcInt hx hown (mvT hZ (hw _ (List.mem_of_getElem? (i := 29) rfl))) (g := (mkF m 156 #[.val (.int v0)] [(.int v0)])) rfl (hb hby d2_156)) ?_
                              refine go_step (T' := T27) (g' := (mkF m 160 #[.val (.int v0)] [(.int (851965 : Int32)), (.int (786432 : Int32)), (.int v0)])) (X27.ldcInt hx hown (mvT hZ (hw _ (List.mem_of_getElem? (i := 30) rfl))) (g := (mkF m 158 #[.val (.int v0)] [(.int (786432 : Int32)), (.int v0)])) rfl (hb hby d2_158)) ?_
                              refine go_callSP X27 hx hZ hown (hw _ (List.mem_of_getElem? (i := 56) rfl)) (hw _ (List.mem_of_getElem? (i := 57) rfl)) (hw _ (List.mem_of_getElem? (i := 54) rfl)) (hw _ (List.mem_of_getElem? (i := 58) rfl)) (by decide) e27 (mq3 l Z a0 hw v0 (786432 : Int32) (851965 : Int32) h0) 0 (by decide) (by decide) (g := (mkF m 160 #[.val (.int v0)] [(.int (851965 : Int32)), (.int (786432 : Int32)), (.int v0)])) rfl (by rw [hml]; rfl) (argsL := [(.int v0), (.int (786432 : Int32)), (.int (851965 : Int32))]) (rest := []) (lenOf pd_0 rfl) rfl (by show 2 * 0 + _ ≤ _; exact Nat.le_of_eq rfl) (hb hby d2_160) rfl rfl rfl hc hs (fun T29 X29 e29 => ?_)
                              show Go p e below s _ _ _ T29 (mkF m 163 #[.val (.int v0)] [(.int (f3_0 v0 (786432 : Int32) (851965 : Int32)))])
                              by_cases hc29 : (f3_0 v0 (786432 : Int32) (851965 : Int32)) = (0 : Int32)
                              · rw [if_pos hc29] at hq
                                refine go_step (T' := T29) (g' := (mkF m 166 #[.val (.int v0)] [])) (fun t k => XS.ifNo X29.here hx rfl (hb hby d2_163) rfl ((if0 _ _).trans (teq hc29).2) k) ?_
                                refine go_step (T' := T29) (g' := (mkF m 167 #[.val (.int v0)] [(.int v0)])) (fun t k => XS.iloadN X29.here hx rfl (hb hby d2_166) rfl  k) ?_
                                refine go_step (T' := T29) (g' := (mkF m 169 #[.val (.int v0)] [(.int (851968 : Int32)), (.int v0)])) (X29.ldcInt hx hown (mvT hZ (hw _ (List.mem_of_getElem? (i := 31) rfl))) (g := (mkF m 167 #[.val (.int v0)] [(.int v0)])) rfl (hb hby d2_167)) ?_
                                refine go_step (T' := T29) (g' := (mkF m 171 #[.val (.int v0)] [(.int (917501 : Int32)), (.int (851968 : Int32)), (.int v0)])) (X29.ldcInt hx hown (mvT hZ (hw _ (List.mem_of_getElem? (i := 32) rfl))) (g := (mkF m 169 #[.val (.int v0)] [(.int (851968 : Int32)), (.int v0)])) rfl (hb hby d2_169)) ?_
                                refine go_callSP X29 hx hZ hown (hw _ (List.mem_of_getElem? (i := 56) rfl)) (hw _ (List.mem_of_getElem? (i := 57) rfl)) (hw _ (List.mem_of_getElem? (i := 54) rfl)) (hw _ (List.mem_of_getElem? (i := 58) rfl)) (by decide) e29 (mq3 l Z a0 hw v0 (851968 : Int32) (917501 : Int32) h0) 0 (by decide) (by decide) (g := (mkF m 171 #[.val (.int v0)] [(.int (917501 : Int32)), (.int (851968 : Int32)), (.int v0)])) rfl (by rw [hml]; rfl) (argsL := [(.int v0), (.int (851968 : Int32)), (.int (917501 : Int32))]) (rest := []) (lenOf pd_0 rfl) rfl (by show 2 * 0 + _ ≤ _; exact Nat.le_of_eq rfl) (hb hby d2_171) rfl rfl rfl hc hs (fun T31 X31 e31 => ?_)
                                show Go p e below s _ _ _ T31 (mkF m 174 #[.val (.int v0)] [(.int (f3_0 v0 (851968 : Int32) (917501 : Int32)))])
                                by_cases hc31 : (f3_0 v0 (851968 : Int32) (917501 : Int32)) = (0 : Int32)
                                · rw [if_pos hc31] at hq
                                  refine go_step (T' := T31) (g' := (mkF m 177 #[.val (.int v0)] [])) (fun t k => XS.ifNo X31.here hx rfl (hb hby d2_174) rfl ((if0 _ _).trans (teq hc31).2) k) ?_
                                  refine go_step (T' := T31) (g' := (mkF m 178 #[.val (.int v0)] [(.int v0)])) (fun t k => XS.iloadN X31.here hx rfl (hb hby d2_177) rfl  k) ?_
                                  refine go_step (T' := T31) (g' := (mkF m 180 #[.val (.int v0)] [(.int (921600 : Int32)), (.int v0)])) (X31.ldcInt hx hown (mvT hZ (hw _ (List.mem_of_getElem? (i := 35) rfl))) (g := (mkF m 178 #[.val (.int v0)] [(.int v0)])) rfl (hb hby d2_178)) ?_
                                  refine go_step (T' := T31) (g' := (mkF m 182 #[.val (.int v0)] [(.int (983037 : Int32)), (.int (921600 : Int32)), (.int v0)])) (X31.ldcInt hx hown (mvT hZ (hw _ (List.mem_of_getElem? (i := 36) rfl))) (g := (mkF m 180 #[.val (.int v0)] [(.int (921600 : Int32)), (.int v0)])) rfl (hb hby d2_180)) ?_
                                  refine go_callSP X31 hx hZ hown (hw _ (List.mem_of_getElem? (i := 56) rfl)) (hw _ (List.mem_of_getElem? (i := 57) rfl)) (hw _ (List.mem_of_getElem? (i := 54) rfl)) (hw _ (List.mem_of_getElem? (i := 58) rfl)) (by decide) e31 (mq3 l Z a0 hw v0 (921600 : Int32) (983037 : Int32) h0) 0 (by decide) (by decide) (g := (mkF m 182 #[.val (.int v0)] [(.int (983037 : Int32)), (.int (921600 : Int32)), (.int v0)])) rfl (by rw [hml]; rfl) (argsL := [(.int v0), (.int (921600 : Int32)), (.int (983037 : Int32))]) (rest := []) (lenOf pd_0 rfl) rfl (by show 2 * 0 + _ ≤ _; exact Nat.le_of_eq rfl) (hb hby d2_182) rfl rfl rfl hc hs (fun T33 X33 e33 => ?_)
                                  show Go p e below s _ _ _ T33 (mkF m 185 #[.val (.int v0)] [(.int (f3_0 v0 (921600 : Int32) (983037 : Int32)))])
                                  by_cases hc33 : (f3_0 v0 (921600 : Int32) (983037 : Int32)) = (0 : Int32)
                                  · rw [if_pos hc33] at hq
                                    refine go_step (T' := T33) (g' := (mkF m 192 #[.val (.int v0)] [])) (fun t k => XS.ifYes X33.here hx rfl (pc0 := 185) (pc' := 192) rfl (hb hby d2_185) rfl ((if0 _ _).trans (teq hc33).1) (by decide) (by decide) k) ?_
                                    refine go_step (T' := T33) (g' := (mkF m 193 #[.val (.int v0)] [(.int (0 : Int32))])) (fun t k => XS.iconst X33.here hx rfl (hb hby d2_192) k) ?_
                                    exact go_retZ X33 hx hlk hret (hb hby d2_193) e33 hq hc hs
                                  · rw [if_neg hc33] at hq
                                    refine go_step (T' := T33) (g' := (mkF m 188 #[.val (.int v0)] [])) (fun t k => XS.ifNo X33.here hx rfl (hb hby d2_185) rfl ((if0 _ _).trans (feq hc33).1) k) ?_
                                    refine go_step (T' := T33) (g' := (mkF m 189 #[.val (.int v0)] [(.int (1 : Int32))])) (fun t k => XS.iconst X33.here hx rfl (hb hby d2_188) k) ?_
                                    refine go_step (T' := T33) (g' := (mkF m 193 #[.val (.int v0)] [(.int (1 : Int32))])) (fun t k => XS.goto X33.here hx rfl (pc0 := 189) (pc' := 193) rfl (hb hby d2_189) (by decide) (by decide) k) ?_
                                    exact go_retZ X33 hx hlk hret (hb hby d2_193) e33 hq hc hs
                                · rw [if_neg hc31] at hq
                                  refine go_step (T' := T31) (g' := (mkF m 188 #[.val (.int v0)] [])) (fun t k => XS.ifYes X31.here hx rfl (pc0 := 174) (pc' := 188) rfl (hb hby d2_174) rfl ((if0 _ _).trans (feq hc31).2) (by decide) (by decide) k) ?_
                                  refine go_step (T' := T31) (g' := (mkF m 189 #[.val (.int v0)] [(.int (1 : Int32))])) (fun t k => XS.iconst X31.here hx rfl (hb hby d2_188) k) ?_
                                  refine go_step (T' := T31) (g' := (mkF m 193 #[.val (.int v0)] [(.int (1 : Int32))])) (fun t k => XS.goto X31.here hx rfl (pc0 := 189) (pc' := 193) rfl (hb hby d2_189) (by decide) (by decide) k) ?_
                                  exact go_retZ X31 hx hlk hret (hb hby d2_193) e31 hq hc hs
                              · rw [if_neg hc29] at hq
                                refine go_step (T' := T29) (g' := (mkF m 188 #[.val (.int v0)] [])) (fun t k => XS.ifYes X29.here hx rfl (pc0 := 163) (pc' := 188) rfl (hb hby d2_163) rfl ((if0 _ _).trans (feq hc29).2) (by decide) (by decide) k) ?_
                                refine go_step (T' := T29) (g' := (mkF m 189 #[.val (.int v0)] [(.int (1 : Int32))])) (fun t k => XS.iconst X29.here hx rfl (hb hby d2_188) k) ?_
                                refine go_step (T' := T29) (g' := (mkF m 193 #[.val (.int v0)] [(.int (1 : Int32))])) (fun t k => XS.goto X29.here hx rfl (pc0 := 189) (pc' := 193) rfl (hb hby d2_189) (by decide) (by decide) k) ?_
                                exact go_retZ X29 hx hlk hret (hb hby d2_193) e29 hq hc hs
                            · rw [if_neg hc27] at hq
                              refine go_step (T' := T27) (g' := (mkF m 188 #[.val (.int v0)] [])) (fun t k => XS.ifYes X27.here hx rfl (pc0 := 152) (pc' := 188) rfl (hb hby d2_152) rfl ((if0 _ _).trans (feq hc27).2) (by decide) (by decide) k) ?_
                              refine go_step (T' := T27) (g' := (mkF m 189 #[.val (.int v0)] [(.int (1 : Int32))])) (fun t k => XS.iconst X27.here hx rfl (hb hby d2_188) k) ?_
                              refine go_step (T' := T27) (g' := (mkF m 193 #[.val (.int v0)] [(.int (1 : Int32))])) (fun t k => XS.goto X27.here hx rfl (pc0 := 189) (pc' := 193) rfl (hb hby d2_189) (by decide) (by decide) k) ?_
                              exact go_retZ X27 hx hlk hret (hb hby d2_193) e27 hq hc hs
                          · rw [if_neg hc25] at hq
                            refine go_step (T' := T25) (g' := (mkF m 188 #[.val (.int v0)] [])) (fun t k => XS.ifYes X25.here hx rfl (pc0 := 141) (pc' := 188) rfl (hb hby d2_141) rfl ((if0 _ _).trans (feq hc25).2) (by decide) (by decide) k) ?_
                            refine go_step (T' := T25) (g' := (mkF m 189 #[.val (.int v0)] [(.int (1 : Int32))])) (fun t k => XS.iconst X25.here hx rfl (hb hby d2_188) k) ?_
                            refine go_step (T' := T25) (g' := (mkF m 193 #[.val (.int v0)] [(.int (1 : Int32))])) (fun t k => XS.goto X25.here hx rfl (pc0 := 189) (pc' := 193) rfl (hb hby d2_189) (by decide) (by decide) k) ?_
                            exact go_retZ X25 hx hlk hret (hb hby d2_193) e25 hq hc hs
                        · rw [if_neg hc23] at hq
                          refine go_step (T' := T23) (g' := (mkF m 188 #[.val (.int v0)] [])) (fun t k => XS.ifYes X23.here hx rfl (pc0 := 130) (pc' := 188) rfl (hb hby d2_130) rfl ((if0 _ _).trans (feq hc23).2) (by decide) (by decide) k) ?_
                          refine go_step (T' := T23) (g' := (mkF m 189 #[.val (.int v0)] [(.int (1 : Int32))])) (fun t k => XS.iconst X23.here hx rfl (hb hby d2_188) k) ?_
                          refine go_step (T' := T23) (g' := (mkF m 193 #[.val (.int v0)] [(.int (1 : Int32))])) (fun t k => XS.goto X23.here hx rfl (pc0 := 189) (pc' := 193) rfl (hb hby d2_189) (by decide) (by decide) k) ?_
                          exact go_retZ X23 hx hlk hret (hb hby d2_193) e23 hq hc hs
                      · rw [if_neg hc21] at hq
                        refine go_step (T' := T21) (g' := (mkF m 188 #[.val (.int v0)] [])) (fun t k => XS.ifYes X21.here hx rfl (pc0 := 119) (pc' := 188) rfl (hb hby d2_119) rfl ((if0 _ _).trans (feq hc21).2) (by decide) (by decide) k) ?_
                        refine go_step (T' := T21) (g' := (mkF m 189 #[.val (.int v0)] [(.int (1 : Int32))])) (fun t k => XS.iconst X21.here hx rfl (hb hby d2_188) k) ?_
                        refine go_step (T' := T21) (g' := (mkF m 193 #[.val (.int v0)] [(.int (1 : Int32))])) (fun t k => XS.goto X21.here hx rfl (pc0 := 189) (pc' := 193) rfl (hb hby d2_189) (by decide) (by decide) k) ?_
                        exact go_retZ X21 hx hlk hret (hb hby d2_193) e21 hq hc hs
                    · rw [if_neg hc19] at hq
                      refine go_step (T' := T19) (g' := (mkF m 188 #[.val (.int v0)] [])) (fun t k => XS.ifYes X19.here hx rfl (pc0 := 108) (pc' := 188) rfl (hb hby d2_108) rfl ((if0 _ _).trans (feq hc19).2) (by decide) (by decide) k) ?_
                      refine go_step (T' := T19) (g' := (mkF m 189 #[.val (.int v0)] [(.int (1 : Int32))])) (fun t k => XS.iconst X19.here hx rfl (hb hby d2_188) k) ?_
                      refine go_step (T' := T19) (g' := (mkF m 193 #[.val (.int v0)] [(.int (1 : Int32))])) (fun t k => XS.goto X19.here hx rfl (pc0 := 189) (pc' := 193) rfl (hb hby d2_189) (by decide) (by decide) k) ?_
                      exact go_retZ X19 hx hlk hret (hb hby d2_193) e19 hq hc hs
                  · rw [if_neg hc17] at hq
                    refine go_step (T' := T17) (g' := (mkF m 188 #[.val (.int v0)] [])) (fun t k => XS.ifYes X17.here hx rfl (pc0 := 97) (pc' := 188) rfl (hb hby d2_97) rfl ((if0 _ _).trans (feq hc17).2) (by decide) (by decide) k) ?_
                    refine go_step (T' := T17) (g' := (mkF m 189 #[.val (.int v0)] [(.int (1 : Int32))])) (fun t k => XS.iconst X17.here hx rfl (hb hby d2_188) k) ?_
                    refine go_step (T' := T17) (g' := (mkF m 193 #[.val (.int v0)] [(.int (1 : Int32))])) (fun t k => XS.goto X17.here hx rfl (pc0 := 189) (pc' := 193) rfl (hb hby d2_189) (by decide) (by decide) k) ?_
                    exact go_retZ X17 hx hlk hret (hb hby d2_193) e17 hq hc hs
                · rw [if_neg hc15] at hq
                  refine go_step (T' := T15) (g' := (mkF m 188 #[.val (.int v0)] [])) (fun t k => XS.ifYes X15.here hx rfl (pc0 := 86) (pc' := 188) rfl (hb hby d2_86) rfl ((if0 _ _).trans (feq hc15).2) (by decide) (by decide) k) ?_
                  refine go_step (T' := T15) (g' := (mkF m 189 #[.val (.int v0)] [(.int (1 : Int32))])) (fun t k => XS.iconst X15.here hx rfl (hb hby d2_188) k) ?_
                  refine go_step (T' := T15) (g' := (mkF m 193 #[.val (.int v0)] [(.int (1 : Int32))])) (fun t k => XS.goto X15.here hx rfl (pc0 := 189) (pc' := 193) rfl (hb hby d2_189) (by decide) (by decide) k) ?_
                  exact go_retZ X15 hx hlk hret (hb hby d2_193) e15 hq hc hs
              · rw [if_neg hc13] at hq
                refine go_step (T' := T13) (g' := (mkF m 188 #[.val (.int v0)] [])) (fun t k => XS.ifYes X13.here hx rfl (pc0 := 75) (pc' := 188) rfl (hb hby d2_75) rfl ((if0 _ _).trans (feq hc13).2) (by decide) (by decide) k) ?_
                refine go_step (T' := T13) (g' := (mkF m 189 #[.val (.int v0)] [(.int (1 : Int32))])) (fun t k => XS.iconst X13.here hx rfl (hb hby d2_188) k) ?_
                refine go_step (T' := T13) (g' := (mkF m 193 #[.val (.int v0)] [(.int (1 : Int32))])) (fun t k => XS.goto X13.here hx rfl (pc0 := 189) (pc' := 193) rfl (hb hby d2_189) (by decide) (by decide) k) ?_
                exact go_retZ X13 hx hlk hret (hb hby d2_193) e13 hq hc hs
            · rw [if_neg hc11] at hq
              refine go_step (T' := T11) (g' := (mkF m 188 #[.val (.int v0)] [])) (fun t k => XS.ifYes X11.here hx rfl (pc0 := 64) (pc' := 188) rfl (hb hby d2_64) rfl ((if0 _ _).trans (feq hc11).2) (by decide) (by decide) k) ?_
              refine go_step (T' := T11) (g' := (mkF m 189 #[.val (.int v0)] [(.int (1 : Int32))])) (fun t k => XS.iconst X11.here hx rfl (hb hby d2_188) k) ?_
              refine go_step (T' := T11) (g' := (mkF m 193 #[.val (.int v0)] [(.int (1 : Int32))])) (fun t k => XS.goto X11.here hx rfl (pc0 := 189) (pc' := 193) rfl (hb hby d2_189) (by decide) (by decide) k) ?_
              exact go_retZ X11 hx hlk hret (hb hby d2_193) e11 hq hc hs
          · rw [if_neg hc9] at hq
            refine go_step (T' := T9) (g' := (mkF m 188 #[.val (.int v0)] [])) (fun t k => XS.ifYes X9.here hx rfl (pc0 := 53) (pc' := 188) rfl (hb hby d2_53) rfl ((if0 _ _).trans (feq hc9).2) (by decide) (by decide) k) ?_
            refine go_step (T' := T9) (g' := (mkF m 189 #[.val (.int v0)] [(.int (1 : Int32))])) (fun t k => XS.iconst X9.here hx rfl (hb hby d2_188) k) ?_
            refine go_step (T' := T9) (g' := (mkF m 193 #[.val (.int v0)] [(.int (1 : Int32))])) (fun t k => XS.goto X9.here hx rfl (pc0 := 189) (pc' := 193) rfl (hb hby d2_189) (by decide) (by decide) k) ?_
            exact go_retZ X9 hx hlk hret (hb hby d2_193) e9 hq hc hs
        · rw [if_neg hc7] at hq
          refine go_step (T' := T7) (g' := (mkF m 188 #[.val (.int v0)] [])) (fun t k => XS.ifYes X7.here hx rfl (pc0 := 42) (pc' := 188) rfl (hb hby d2_42) rfl ((if0 _ _).trans (feq hc7).2) (by decide) (by decide) k) ?_
          refine go_step (T' := T7) (g' := (mkF m 189 #[.val (.int v0)] [(.int (1 : Int32))])) (fun t k => XS.iconst X7.here hx rfl (hb hby d2_188) k) ?_
          refine go_step (T' := T7) (g' := (mkF m 193 #[.val (.int v0)] [(.int (1 : Int32))])) (fun t k => XS.goto X7.here hx rfl (pc0 := 189) (pc' := 193) rfl (hb hby d2_189) (by decide) (by decide) k) ?_
          exact go_retZ X7 hx hlk hret (hb hby d2_193) e7 hq hc hs
      · rw [if_neg hc5] at hq
        refine go_step (T' := T5) (g' := (mkF m 188 #[.val (.int v0)] [])) (fun t k => XS.ifYes X5.here hx rfl (pc0 := 31) (pc' := 188) rfl (hb hby d2_31) rfl ((if0 _ _).trans (feq hc5).2) (by decide) (by decide) k) ?_
        refine go_step (T' := T5) (g' := (mkF m 189 #[.val (.int v0)] [(.int (1 : Int32))])) (fun t k => XS.iconst X5.here hx rfl (hb hby d2_188) k) ?_
        refine go_step (T' := T5) (g' := (mkF m 193 #[.val (.int v0)] [(.int (1 : Int32))])) (fun t k => XS.goto X5.here hx rfl (pc0 := 189) (pc' := 193) rfl (hb hby d2_189) (by decide) (by decide) k) ?_
        exact go_retZ X5 hx hlk hret (hb hby d2_193) e5 hq hc hs
    · rw [if_neg hc3] at hq
      refine go_step (T' := T3) (g' := (mkF m 188 #[.val (.int v0)] [])) (fun t k => XS.ifYes X3.here hx rfl (pc0 := 20) (pc' := 188) rfl (hb hby d2_20) rfl ((if0 _ _).trans (feq hc3).2) (by decide) (by decide) k) ?_
      refine go_step (T' := T3) (g' := (mkF m 189 #[.val (.int v0)] [(.int (1 : Int32))])) (fun t k => XS.iconst X3.here hx rfl (hb hby d2_188) k) ?_
      refine go_step (T' := T3) (g' := (mkF m 193 #[.val (.int v0)] [(.int (1 : Int32))])) (fun t k => XS.goto X3.here hx rfl (pc0 := 189) (pc' := 193) rfl (hb hby d2_189) (by decide) (by decide) k) ?_
      exact go_retZ X3 hx hlk hret (hb hby d2_193) e3 hq hc hs
  · rw [if_neg hc1] at hq
    refine go_step (T' := T1) (g' := (mkF m 188 #[.val (.int v0)] [])) (fun t k => XS.ifYes X1.here hx rfl (pc0 := 9) (pc' := 188) rfl (hb hby d2_9) rfl ((if0 _ _).trans (feq hc1).2) (by decide) (by decide) k) ?_
    refine go_step (T' := T1) (g' := (mkF m 189 #[.val (.int v0)] [(.int (1 : Int32))])) (fun t k => XS.iconst X1.here hx rfl (hb hby d2_188) k) ?_
    refine go_step (T' := T1) (g' := (mkF m 193 #[.val (.int v0)] [(.int (1 : Int32))])) (fun t k => XS.goto X1.here hx rfl (pc0 := 189) (pc' := 193) rfl (hb hby d2_189) (by decide) (by decide) k) ?_
    exact go_retZ X1 hx hlk hret (hb hby d2_193) e1 hq hc hs
theorem ef2 (m : MethodId) (v0 : Int32) : entryFrame m #[(.int v0)] 1 = (mkF m 0 #[.val (.int v0)] []) := by first | (simp [entryFrame, mkF, argsToLocals, Value.category]; done) | rfl
theorem pn2 : plainName "com/example/map21/map21/util/IriCharactersIsUcscharPinLaw" = true := by first | (simp [plainName, overriddenIn]; done) | decide +kernel
set_option maxRecDepth 65536 in
theorem mq2 (l : Launch) (Z : State) (a0 : Array Value) (hw : ∀ d ∈ tables_1, d.before a0 Z = true) (v0 : Int32) (h0 : Heap) : MQ l Z (⟨"com/example/map21/map21/util/IriCharactersIsUcscharPinLaw", "ref", "(I)Z"⟩ : MethodName) method_3_code 1 (some .boolean) [] ({ frames := 1, cells := 0, slots := 0, locals := 14 } : Room) #[(.int v0)] h0 (QP (some (.int (f2_0 v0))) h0) := by
  refine mq_of (plainFor_of_name pn2) ?_
  intro p e s m below meth c T0 X0 hx hby hml hown hnm hZ e0 hret hlk
  rw [ef2]
  exact b2_0 hw hx hby hml hown hZ hret hlk X0 e0 (Nat.zero_le _) (Nat.zero_le _) v0 ⟨rfl, rfl, rfl⟩
def s0_0 (v0 : Int32) (v1 : Int32) (v2 : Int32) : Int32 := ((([(160 : Int32), (55295 : Int32), (63744 : Int32), (64975 : Int32), (65008 : Int32), (65519 : Int32), (65535 : Int32), (65536 : Int32), (131069 : Int32), (131072 : Int32), (196605 : Int32), (196608 : Int32), (262141 : Int32), (262144 : Int32), (327677 : Int32), (327680 : Int32), (393213 : Int32), (393216 : Int32), (458749 : Int32), (458752 : Int32), (524285 : Int32), (524288 : Int32), (589821 : Int32), (589824 : Int32), (655357 : Int32), (655360 : Int32), (720893 : Int32), (720896 : Int32), (786429 : Int32), (786432 : Int32), (851965 : Int32), (851968 : Int32), (917501 : Int32), (917504 : Int32), (921599 : Int32), (921600 : Int32), (983037 : Int32), (983040 : Int32), (1114109 : Int32), (1114111 : Int32), (1114112 : Int32), (0 : Int32), (55296 : Int32), (57344 : Int32), (-2147483648 : Int32), (2147483647 : Int32), (524285 : Int32), (268500989 : Int32)] : List Int32).getD (((ush v1 (1 : Int32)) % (48 : Int32))).toNatClampNeg 0) + ((v2 &&& (7 : Int32)) - (4 : Int32)))
def z0_290_0 (v0 : Int32) (v1 : Int32) (v2 : Int32) : Int32 := (if (v1 &&& (1 : Int32)) = (0 : Int32) then v0 else (s0_0 v0 v1 v2))
def z0_326_0 (v0 : Int32) (v1 : Int32) (v2 : Int32) : Int32 := (if (f1_0 (z0_290_0 v0 v1 v2)) = (f2_0 (z0_290_0 v0 v1 v2)) then (1 : Int32) else (0 : Int32))
def f0_ret (v0 : Int32) (v1 : Int32) (v2 : Int32) : Int32 := ((z0_326_0 v0 v1 v2) &&& (1 : Int32))
theorem ef0 (m : MethodId) (v0 : Int32) (v1 : Int32) (v2 : Int32) : entryFrame m #[(.int v0), (.int v1), (.int v2)] maxLocals = (mkF m 0 #[.val (.int v0), .val (.int v1), .val (.int v2), .unset, .unset] []) := by first | (simp [entryFrame, mkF, argsToLocals, Value.category, maxLocals]; done) | rfl
theorem pn0 : plainName "com/example/map21/map21/util/IriCharactersIsUcscharPinLaw" = true := by first | (simp [plainName, overriddenIn]; done) | decide +kernel
def Q0 (Z : State) (v0 : Int32) (v1 : Int32) (v2 : Int32) (h0 : Heap) (n0 : Nat) (v : Option Value) (h : Heap) (L : List Loc) : Prop := v = some (.int (f0_ret v0 v1 v2)) ∧ Fr n0 L
set_option maxRecDepth 65536 in
set_option maxHeartbeats 40000000 in
theorem mq0 (l : Launch) (Z : State) (a0 : Array Value) (hw : ∀ d ∈ tables_1, d.before a0 Z = true) (ws : List Jvm.Cond) (v0 : Int32) (v1 : Int32) (v2 : Int32)  (h0 : Heap) (n0 : Nat) (Z0 : n0 ≤ h0.size)  : MQ l Z x code maxLocals ret ws room_1 #[(.int v0), (.int v1), (.int v2)] h0 (Q0 Z v0 v1 v2 h0 n0) := by
  refine mq_of (plainFor_of_name pn0) ?_
  intro p e s m below meth c T0 X0 hx hby hml hown hnm hZ e0 hret hlk
  rw [ef0]
  have N0 := Fr.nil n0
  have K0 := Keep.refl h0 []
  refine go_step (T' := T0) (g' := (mkF m 2 #[.val (.int v0), .val (.int v1), .val (.int v2), .unset, .unset] [(.int (48 : Int32))])) (fun t k => XS.bipush X0.here hx rfl (hb hby at_0) k) ?_
  refine go_newP X0 hx hZ (hw _ (List.mem_of_getElem? (i := 0) rfl)) e0 48 (by decide) (by decide) (by decide) (by decide) (by decide) (g := (mkF m 2 #[.val (.int v0), .val (.int v1), .val (.int v2), .unset, .unset] [(.int (48 : Int32))])) rfl rfl (hb hby at_2) (fun T1 h2 b3 X4 e5 E6 q7 A8 => ?_)
  have sz9 : h0.size ≤ b3 := Nat.le_trans K0.1 (Nat.le_of_eq q7.symm)
  have g10 : n0 ≤ b3 := Nat.le_trans Z0 sz9
  have K11 := K0.ext E6
  have A12 : IA Z h2 b3 [(0 : Int32), (0 : Int32), (0 : Int32), (0 : Int32), (0 : Int32), (0 : Int32), (0 : Int32), (0 : Int32), (0 : Int32), (0 : Int32), (0 : Int32), (0 : Int32), (0 : Int32), (0 : Int32), (0 : Int32), (0 : Int32), (0 : Int32), (0 : Int32), (0 : Int32), (0 : Int32), (0 : Int32), (0 : Int32), (0 : Int32), (0 : Int32), (0 : Int32), (0 : Int32), (0 : Int32), (0 : Int32), (0 : Int32), (0 : Int32), (0 : Int32), (0 : Int32), (0 : Int32), (0 : Int32), (0 : Int32), (0 : Int32), (0 : Int32), (0 : Int32), (0 : Int32), (0 : Int32), (0 : Int32), (0 : Int32), (0 : Int32), (0 : Int32), (0 : Int32), (0 : Int32), (0 : Int32), (0 : Int32)] := A8
  show Go p e below s _ _ _ T1 (mkF m 4 #[.val (.int v0), .val (.int v1), .val (.int v2), .unset, .unset] [(.ref b3)])
  refine go_step (T' := T1) (g' := (mkF m 5 #[.val (.int v0), .val (.int v1), .val (.int v2), .unset, .unset] [(.ref b3), (.ref b3)])) (fun t k => XS.dup X4.here hx rfl (hb hby at_4) rfl rfl k) ?_
  refine go_step (T' := T1) (g' := (mkF m 6 #[.val (.int v0), .val (.int v1), .val (.int v2), .unset, .unset] [(.int (0 : Int32)), (.ref b3), (.ref b3)])) (fun t k => XS.iconst X4.here hx rfl (hb hby at_5) k) ?_
  refine go_step (T' := T1) (g' := (mkF m 9 #[.val (.int v0), .val (.int v1), .val (.int v2), .unset, .unset] [(.int (160 : Int32)), (.int (0 : Int32)), (.ref b3), (.ref b3)])) (fun t k => XS.sipush X4.here hx rfl (hb hby at_6) k) ?_
  refine go_iastore X4 hx hZ e5 A12 (by decide) (show ((0 : Int32)).toNatClampNeg < 48 by decide) (g := (mkF m 9 #[.val (.int v0), .val (.int v1), .val (.int v2), .unset, .unset] [(.int (160 : Int32)), (.int (0 : Int32)), (.ref b3), (.ref b3)])) rfl rfl (hb hby at_9) (fun T13 h14 X15 e16 W17 A18 => ?_)
  have K19 := K11.wr W17 (Or.inr sz9)
  have N20 := Fr.snoc X15 N0 g10
  have A21 : IA Z h14 b3 [(160 : Int32), (0 : Int32), (0 : Int32), (0 : Int32), (0 : Int32), (0 : Int32), (0 : Int32), (0 : Int32), (0 : Int32), (0 : Int32), (0 : Int32), (0 : Int32), (0 : Int32), (0 : Int32), (0 : Int32), (0 : Int32), (0 : Int32), (0 : Int32), (0 : Int32), (0 : Int32), (0 : Int32), (0 : Int32), (0 : Int32), (0 : Int32), (0 : Int32), (0 : Int32), (0 : Int32), (0 : Int32), (0 : Int32), (0 : Int32), (0 : Int32), (0 : Int32), (0 : Int32), (0 : Int32), (0 : Int32), (0 : Int32), (0 : Int32), (0 : Int32), (0 : Int32), (0 : Int32), (0 : Int32), (0 : Int32), (0 : Int32), (0 : Int32), (0 : Int32), (0 : Int32), (0 : Int32), (0 : Int32)] := A18
  show Go p e below s _ _ _ T13 (mkF m 10 #[.val (.int v0), .val (.int v1), .val (.int v2), .unset, .unset] [(.ref b3)])
  refine go_step (T' := T13) (g' := (mkF m 11 #[.val (.int v0), .val (.int v1), .val (.int v2), .unset, .unset] [(.ref b3), (.ref b3)])) (fun t k => XS.dup X15.here hx rfl (hb hby at_10) rfl rfl k) ?_
  refine go_step (T' := T13) (g' := (mkF m 12 #[.val (.int v0), .val (.int v1), .val (.int v2), .unset, .unset] [(.int (1 : Int32)), (.ref b3), (.ref b3)])) (fun t k => XS.iconst X15.here hx rfl (hb hby at_11) k) ?_
  refine go_step (T' := T13) (g' := (mkF m 14 #[.val (.int v0), .val (.int v1), .val (.int v2), .unset, .unset] [(.int (55295 : Int32)), (.int (1 : Int32)), (.ref b3), (.ref b3)])) (X15.ldcInt hx hown (mvT hZ (hw _ (List.mem_of_getElem? (i := 1) rfl))) (g := (mkF m 12 #[.val (.int v0), .val (.int v1), .val (.int v2), .unset, .unset] [(.int (1 : Int32)), (.ref b3), (.ref b3)])) rfl (hb hby at_12)) ?_
  refine go_iastore X15 hx hZ e16 A21 (by decide) (show ((1 : Int32)).toNatClampNeg < 48 by decide) (g := (mkF m 14 #[.val (.int v0), .val (.int v1), .val (.int v2), .unset, .unset] [(.int (55295 : Int32)), (.int (1 : Int32)), (.ref b3), (.ref b3)])) rfl rfl (hb hby at_14) (fun T22 h23 X24 e25 W26 A27 => ?_)
  have K28 := K19.wr W26 (Or.inr sz9)
  have N29 := Fr.snoc X24 N20 g10
  have A30 : IA Z h23 b3 [(160 : Int32), (55295 : Int32), (0 : Int32), (0 : Int32), (0 : Int32), (0 : Int32), (0 : Int32), (0 : Int32), (0 : Int32), (0 : Int32), (0 : Int32), (0 : Int32), (0 : Int32), (0 : Int32), (0 : Int32), (0 : Int32), (0 : Int32), (0 : Int32), (0 : Int32), (0 : Int32), (0 : Int32), (0 : Int32), (0 : Int32), (0 : Int32), (0 : Int32), (0 : Int32), (0 : Int32), (0 : Int32), (0 : Int32), (0 : Int32), (0 : Int32), (0 : Int32), (0 : Int32), (0 : Int32), (0 : Int32), (0 : Int32), (0 : Int32), (0 : Int32), (0 : Int32), (0 : Int32), (0 : Int32), (0 : Int32), (0 : Int32), (0 : Int32), (0 : Int32), (0 : Int32), (0 : Int32), (0 : Int32)] := A27
  show Go p e below s _ _ _ T22 (mkF m 15 #[.val (.int v0), .val (.int v1), .val (.int v2), .unset, .unset] [(.ref b3)])
  refine go_step (T' := T22) (g' := (mkF m 16 #[.val (.int v0), .val (.int v1), .val (.int v2), .unset, .unset] [(.ref b3), (.ref b3)])) (fun t k => XS.dup X24.here hx rfl (hb hby at_15) rfl rfl k) ?_
  refine go_step (T' := T22) (g' := (mkF m 17 #[.val (.int v0), .val (.int v1), .val (.int v2), .unset, .unset] [(.int (2 : Int32)), (.ref b3), (.ref b3)])) (fun t k => XS.iconst X24.here hx rfl (hb hby at_16) k) ?_
  refine go_step (T' := T22) (g' := (mkF m 19 #[.val (.int v0), .val (.int v1), .val (.int v2), .unset, .unset] [(.int (63744 : Int32)), (.int (2 : Int32)), (.ref b3), (.ref b3)])) (X24.ldcInt hx hown (mvT hZ (hw _ (List.mem_of_getElem? (i := 2) rfl))) (g := (mkF m 17 #[.val (.int v0), .val (.int v1), .val (.int v2), .unset, .unset] [(.int (2 : Int32)), (.ref b3), (.ref b3)])) rfl (hb hby at_17)) ?_
  refine go_iastore X24 hx hZ e25 A30 (by decide) (show ((2 : Int32)).toNatClampNeg < 48 by decide) (g := (mkF m 19 #[.val (.int v0), .val (.int v1), .val (.int v2), .unset, .unset] [(.int (63744 : Int32)), (.int (2 : Int32)), (.ref b3), (.ref b3)])) rfl rfl (hb hby at_19) (fun T31 h32 X33 e34 W35 A36 => ?_)
  have K37 := K28.wr W35 (Or.inr sz9)
  have N38 := Fr.snoc X33 N29 g10
  have A39 : IA Z h32 b3 [(160 : Int32), (55295 : Int32), (63744 : Int32), (0 : Int32), (0 : Int32), (0 : Int32), (0 : Int32), (0 : Int32), (0 : Int32), (0 : Int32), (0 : Int32), (0 : Int32), (0 : Int32), (0 : Int32), (0 : Int32), (0 : Int32), (0 : Int32), (0 : Int32), (0 : Int32), (0 : Int32), (0 : Int32), (0 : Int32), (0 : Int32), (0 : Int32), (0 : Int32), (0 : Int32), (0 : Int32), (0 : Int32), (0 : Int32), (0 : Int32), (0 : Int32), (0 : Int32), (0 : Int32), (0 : Int32), (0 : Int32), (0 : Int32), (0 : Int32), (0 : Int32), (0 : Int32), (0 : Int32), (0 : Int32), (0 : Int32), (0 : Int32), (0 : Int32), (0 : Int32), (0 : Int32), (0 : Int32), (0 : Int32)] := A36
  show Go p e below s _ _ _ T31 (mkF m 20 #[.val (.int v0), .val (.int v1), .val (.int v2), .unset, .unset] [(.ref b3)])
  refine go_step (T' := T31) (g' := (mkF m 21 #[.val (.int v0), .val (.int v1), .val (.int v2), .unset, .unset] [(.ref b3), (.ref b3)])) (fun t k => XS.dup X33.here hx rfl (hb hby at_20) rfl rfl k) ?_
  refine go_step (T' := T31) (g' := (mkF m 22 #[.val (.int v0), .val (.int v1), .val (.int v2), .unset, .unset] [(.int (3 : Int32)), (.ref b3), (.ref b3)])) (fun t k => XS.iconst X33.here hx rfl (hb hby at_21) k) ?_
  refine go_step (T' := T31) (g' := (mkF m 24 #[.val (.int v0), .val (.int v1), .val (.int v2), .unset, .unset] [(.int (64975 : Int32)), (.int (3 : Int32)), (.ref b3), (.ref b3)])) (X33.ldcInt hx hown (mvT hZ (hw _ (List.mem_of_getElem? (i := 3) rfl))) (g := (mkF m 22 #[.val (.int v0), .val (.int v1), .val (.int v2), .unset, .unset] [(.int (3 : Int32)), (.ref b3), (.ref b3)])) rfl (hb hby at_22)) ?_
  refine go_iastore X33 hx hZ e34 A39 (by decide) (show ((3 : Int32)).toNatClampNeg < 48 by decide) (g := (mkF m 24 #[.val (.int v0), .val (.int v1), .val (.int v2), .unset, .unset] [(.int (64975 : Int32)), (.int (3 : Int32)), (.ref b3), (.ref b3)])) rfl rfl (hb hby at_24) (fun T40 h41 X42 e43 W44 A45 => ?_)
  have K46 := K37.wr W44 (Or.inr sz9)
  have N47 := Fr.snoc X42 N38 g10
  have A48 : IA Z h41 b3 [(160 : Int32), (55295 : Int32), (63744 : Int32), (64975 : Int32), (0 : Int32), (0 : Int32), (0 : Int32), (0 : Int32), (0 : Int32), (0 : Int32), (0 : Int32), (0 : Int32), (0 : Int32), (0 : Int32), (0 : Int32), (0 : Int32), (0 : Int32), (0 : Int32), (0 : Int32), (0 : Int32), (0 : Int32), (0 : Int32), (0 : Int32), (0 : Int32), (0 : Int32), (0 : Int32), (0 : Int32), (0 : Int32), (0 : Int32), (0 : Int32), (0 : Int32), (0 : Int32), (0 : Int32), (0 : Int32), (0 : Int32), (0 : Int32), (0 : Int32), (0 : Int32), (0 : Int32), (0 : Int32), (0 : Int32), (0 : Int32), (0 : Int32), (0 : Int32), (0 : Int32), (0 : Int32), (0 : Int32), (0 : Int32)] := A45
  show Go p e below s _ _ _ T40 (mkF m 25 #[.val (.int v0), .val (.int v1), .val (.int v2), .unset, .unset] [(.ref b3)])
  refine go_step (T' := T40) (g' := (mkF m 26 #[.val (.int v0), .val (.int v1), .val (.int v2), .unset, .unset] [(.ref b3), (.ref b3)])) (fun t k => XS.dup X42.here hx rfl (hb hby at_25) rfl rfl k) ?_
  refine go_step (T' := T40) (g' := (mkF m 27 #[.val (.int v0), .val (.int v1), .val (.int v2), .unset, .unset] [(.int (4 : Int32)), (.ref b3), (.ref b3)])) (fun t k => XS.iconst X42.here hx rfl (hb hby at_26) k) ?_
  refine go_step (T' := T40) (g' := (mkF m 29 #[.val (.int v0), .val (.int v1), .val (.int v2), .unset, .unset] [(.int (65008 : Int32)), (.int (4 : Int32)), (.ref b3), (.ref b3)])) (X42.ldcInt hx hown (mvT hZ (hw _ (List.mem_of_getElem? (i := 4) rfl))) (g := (mkF m 27 #[.val (.int v0), .val (.int v1), .val (.int v2), .unset, .unset] [(.int (4 : Int32)), (.ref b3), (.ref b3)])) rfl (hb hby at_27)) ?_
  refine go_iastore X42 hx hZ e43 A48 (by decide) (show ((4 : Int32)).toNatClampNeg < 48 by decide) (g := (mkF m 29 #[.val (.int v0), .val (.int v1), .val (.int v2), .unset, .unset] [(.int (65008 : Int32)), (.int (4 : Int32)), (.ref b3), (.ref b3)])) rfl rfl (hb hby at_29) (fun T49 h50 X51 e52 W53 A54 => ?_)
  have K55 := K46.wr W53 (Or.inr sz9)
  have N56 := Fr.snoc X51 N47 g10
  have A57 : IA Z h50 b3 [(160 : Int32), (55295 : Int32), (63744 : Int32), (64975 : Int32), (65008 : Int32), (0 : Int32), (0 : Int32), (0 : Int32), (0 : Int32), (0 : Int32), (0 : Int32), (0 : Int32), (0 : Int32), (0 : Int32), (0 : Int32), (0 : Int32), (0 : Int32), (0 : Int32), (0 : Int32), (0 : Int32), (0 : Int32), (0 : Int32), (0 : Int32), (0 : Int32), (0 : Int32), (0 : Int32), (0 : Int32), (0 : Int32), (0 : Int32), (0 : Int32), (0 : Int32), (0 : Int32), (0 : Int32), (0 : Int32), (0 : Int32), (0 : Int32), (0 : Int32), (0 : Int32), (0 : Int32), (0 : Int32), (0 : Int32), (0 : Int32), (0 : Int32), (0 : Int32), (0 : Int32), (0 : Int32), (0 : Int32), (0 : Int32)] := A54
  show Go p e below s _ _ _ T49 (mkF m 30 #[.val (.int v0), .val (.int v1), .val (.int v2), .unset, .unset] [(.ref b3)])
  refine go_step (T' := T49) (g' := (mkF m 31 #[.val (.int v0), .val (.int v1), .val (.int v2), .unset, .unset] [(.ref b3), (.ref b3)])) (fun t k => XS.dup X51.here hx rfl (hb hby at_30) rfl rfl k) ?_
  refine go_step (T' := T49) (g' := (mkF m 32 #[.val (.int v0), .val (.int v1), .val (.int v2), .unset, .unset] [(.int (5 : Int32)), (.ref b3), (.ref b3)])) (fun t k => XS.iconst X51.here hx rfl (hb hby at_31) k) ?_
  refine go_step (T' := T49) (g' := (mkF m 34 #[.val (.int v0), .val (.int v1), .val (.int v2), .unset, .unset] [(.int (65519 : Int32)), (.int (5 : Int32)), (.ref b3), (.ref b3)])) (X51.ldcInt hx hown (mvT hZ (hw _ (List.mem_of_getElem? (i := 5) rfl))) (g := (mkF m 32 #[.val (.int v0), .val (.int v1), .val (.int v2), .unset, .unset] [(.int (5 : Int32)), (.ref b3), (.ref b3)])) rfl (hb hby at_32)) ?_
  refine go_iastore X51 hx hZ e52 A57 (by decide) (show ((5 : Int32)).toNatClampNeg < 48 by decide) (g := (mkF m 34 #[.val (.int v0), .val (.int v1), .val (.int v2), .unset, .unset] [(.int (65519 : Int32)), (.int (5 : Int32)), (.ref b3), (.ref b3)])) rfl rfl (hb hby at_34) (fun T58 h59 X60 e61 W62 A63 => ?_)
  have K64 := K55.wr W62 (Or.inr sz9)
  have N65 := Fr.snoc X60 N56 g10
  have A66 : IA Z h59 b3 [(160 : Int32), (55295 : Int32), (63744 : Int32), (64975 : Int32), (65008 : Int32), (65519 : Int32), (0 : Int32), (0 : Int32), (0 : Int32), (0 : Int32), (0 : Int32), (0 : Int32), (0 : Int32), (0 : Int32), (0 : Int32), (0 : Int32), (0 : Int32), (0 : Int32), (0 : Int32), (0 : Int32), (0 : Int32), (0 : Int32), (0 : Int32), (0 : Int32), (0 : Int32), (0 : Int32), (0 : Int32), (0 : Int32), (0 : Int32), (0 : Int32), (0 : Int32), (0 : Int32), (0 : Int32), (0 : Int32), (0 : Int32), (0 : Int32), (0 : Int32), (0 : Int32), (0 : Int32), (0 : Int32), (0 : Int32), (0 : Int32), (0 : Int32), (0 : Int32), (0 : Int32), (0 : Int32), (0 : Int32), (0 : Int32)] := A63
  show Go p e below s _ _ _ T58 (mkF m 35 #[.val (.int v0), .val (.int v1), .val (.int v2), .unset, .unset] [(.ref b3)])
  refine go_step (T' := T58) (g' := (mkF m 36 #[.val (.int v0), .val (.int v1), .val (.int v2), .unset, .unset] [(.ref b3), (.ref b3)])) (fun t k => XS.dup X60.here hx rfl (hb hby at_35) rfl rfl k) ?_
  refine go_step (T' := T58) (g' := (mkF m 38 #[.val (.int v0), .val (.int v1), .val (.int v2), .unset, .unset] [(.int (6 : Int32)), (.ref b3), (.ref b3)])) (fun t k => XS.bipush X60.here hx rfl (hb hby at_36) k) ?_
  refine go_step (T' := T58) (g' := (mkF m 40 #[.val (.int v0), .val (.int v1), .val (.int v2), .unset, .unset] [(.int (65535 : Int32)), (.int (6 : Int32)), (.ref b3), (.ref b3)])) (X60.ldcInt hx hown (mvT hZ (hw _ (List.mem_of_getElem? (i := 6) rfl))) (g := (mkF m 38 #[.val (.int v0), .val (.int v1), .val (.int v2), .unset, .unset] [(.int (6 : Int32)), (.ref b3), (.ref b3)])) rfl (hb hby at_38)) ?_
  refine go_iastore X60 hx hZ e61 A66 (by decide) (show ((6 : Int32)).toNatClampNeg < 48 by decide) (g := (mkF m 40 #[.val (.int v0), .val (.int v1), .val (.int v2), .unset, .unset] [(.int (65535 : Int32)), (.int (6 : Int32)), (.ref b3), (.ref b3)])) rfl rfl (hb hby at_40) (fun T67 h68 X69 e70 W71 A72 => ?_)
  have K73 := K64.wr W71 (Or.inr sz9)
  have N74 := Fr.snoc X69 N65 g10
  have A75 : IA Z h68 b3 [(160 : Int32), (55295 : Int32), (63744 : Int32), (64975 : Int32), (65008 : Int32), (65519 : Int32), (65535 : Int32), (0 : Int32), (0 : Int32), (0 : Int32), (0 : Int32), (0 : Int32), (0 : Int32), (0 : Int32), (0 : Int32), (0 : Int32), (0 : Int32), (0 : Int32), (0 : Int32), (0 : Int32), (0 : Int32), (0 : Int32), (0 : Int32), (0 : Int32), (0 : Int32), (0 : Int32), (0 : Int32), (0 : Int32), (0 : Int32), (0 : Int32), (0 : Int32), (0 : Int32), (0 : Int32), (0 : Int32), (0 : Int32), (0 : Int32), (0 : Int32), (0 : Int32), (0 : Int32), (0 : Int32), (0 : Int32), (0 : Int32), (0 : Int32), (0 : Int32), (0 : Int32), (0 : Int32), (0 : Int32), (0 : Int32)] := A72
  show Go p e below s _ _ _ T67 (mkF m 41 #[.val (.int v0), .val (.int v1), .val (.int v2), .unset, .unset] [(.ref b3)])
  refine go_step (T' := T67) (g' := (mkF m 42 #[.val (.int v0), .val (.int v1), .val (.int v2), .unset, .unset] [(.ref b3), (.ref b3)])) (fun t k => XS.dup X69.here hx rfl (hb hby at_41) rfl rfl k) ?_
  refine go_step (T' := T67) (g' := (mkF m 44 #[.val (.int v0), .val (.int v1), .val (.int v2), .unset, .unset] [(.int (7 : Int32)), (.ref b3), (.ref b3)])) (fun t k => XS.bipush X69.here hx rfl (hb hby at_42) k) ?_
  refine go_step (T' := T67) (g' := (mkF m 46 #[.val (.int v0), .val (.int v1), .val (.int v2), .unset, .unset] [(.int (65536 : Int32)), (.int (7 : Int32)), (.ref b3), (.ref b3)])) (X69.ldcInt hx hown (mvT hZ (hw _ (List.mem_of_getElem? (i := 7) rfl))) (g := (mkF m 44 #[.val (.int v0), .val (.int v1), .val (.int v2), .unset, .unset] [(.int (7 : Int32)), (.ref b3), (.ref b3)])) rfl (hb hby at_44)) ?_
  refine go_iastore X69 hx hZ e70 A75 (by decide) (show ((7 : Int32)).toNatClampNeg < 48 by decide) (g := (mkF m 46 #[.val (.int v0), .val (.int v1), .val (.int v2), .unset, .unset] [(.int (65536 : Int32)), (.int (7 : Int32)), (.ref b3), (.ref b3)])) rfl rfl (hb hby at_46) (fun T76 h77 X78 e79 W80 A81 => ?_)
  have K82 := K73.wr W80 (Or.inr sz9)
  have N83 := Fr.snoc X78 N74 g10
  have A84 : IA Z h77 b3 [(160 : Int32), (55295 : Int32), (63744 : Int32), (64975 : Int32), (65008 : Int32), (65519 : Int32), (65535 : Int32), (65536 : Int32), (0 : Int32), (0 : Int32), (0 : Int32), (0 : Int32), (0 : Int32), (0 : Int32), (0 : Int32), (0 : Int32), (0 : Int32), (0 : Int32), (0 : Int32), (0 : Int32), (0 : Int32), (0 : Int32), (0 : Int32), (0 : Int32), (0 : Int32), (0 : Int32), (0 : Int32), (0 : Int32), (0 : Int32), (0 : Int32), (0 : Int32), (0 : Int32), (0 : Int32), (0 : Int32), (0 : Int32), (0 : Int32), (0 : Int32), (0 : Int32), (0 : Int32), (0 : Int32), (0 : Int32), (0 : Int32), (0 : Int32), (0 : Int32), (0 : Int32), (0 : Int32), (0 : Int32), (0 : Int32)] := A81
  show Go p e below s _ _ _ T76 (mkF m 47 #[.val (.int v0), .val (.int v1), .val (.int v2), .unset, .unset] [(.ref b3)])
  refine go_step (T' := T76) (g' := (mkF m 48 #[.val (.int v0), .val (.int v1), .val (.int v2), .unset, .unset] [(.ref b3), (.ref b3)])) (fun t k => XS.dup X78.here hx rfl (hb hby at_47) rfl rfl k) ?_
  refine go_step (T' := T76) (g' := (mkF m 50 #[.val (.int v0), .val (.int v1), .val (.int v2), .unset, .unset] [(.int (8 : Int32)), (.ref b3), (.ref b3)])) (fun t k => XS.bipush X78.here hx rfl (hb hby at_48) k) ?_
  refine go_step (T' := T76) (g' := (mkF m 52 #[.val (.int v0), .val (.int v1), .val (.int v2), .unset, .unset] [(.int (131069 : Int32)), (.int (8 : Int32)), (.ref b3), (.ref b3)])) (X78.ldcInt hx hown (mvT hZ (hw _ (List.mem_of_getElem? (i := 8) rfl))) (g := (mkF m 50 #[.val (.int v0), .val (.int v1), .val (.int v2), .unset, .unset] [(.int (8 : Int32)), (.ref b3), (.ref b3)])) rfl (hb hby at_50)) ?_
  refine go_iastore X78 hx hZ e79 A84 (by decide) (show ((8 : Int32)).toNatClampNeg < 48 by decide) (g := (mkF m 52 #[.val (.int v0), .val (.int v1), .val (.int v2), .unset, .unset] [(.int (131069 : Int32)), (.int (8 : Int32)), (.ref b3), (.ref b3)])) rfl rfl (hb hby at_52) (fun T85 h86 X87 e88 W89 A90 => ?_)
  have K91 := K82.wr W89 (Or.inr sz9)
  have N92 := Fr.snoc X87 N83 g10
  have A93 : IA Z h86 b3 [(160 : Int32), (55295 : Int32), (63744 : Int32), (64975 : Int32), (65008 : Int32), (65519 : Int32), (65535 : Int32), (65536 : Int32), (131069 : Int32), (0 : Int32), (0 : Int32), (0 : Int32), (0 : Int32), (0 : Int32), (0 : Int32), (0 : Int32), (0 : Int32), (0 : Int32), (0 : Int32), (0 : Int32), (0 : Int32), (0 : Int32), (0 : Int32), (0 : Int32), (0 : Int32), (0 : Int32), (0 : Int32), (0 : Int32), (0 : Int32), (0 : Int32), (0 : Int32), (0 : Int32), (0 : Int32), (0 : Int32), (0 : Int32), (0 : Int32), (0 : Int32), (0 : Int32), (0 : Int32), (0 : Int32), (0 : Int32), (0 : Int32), (0 : Int32), (0 : Int32), (0 : Int32), (0 : Int32), (0 : Int32), (0 : Int32)] := A90
  show Go p e below s _ _ _ T85 (mkF m 53 #[.val (.int v0), .val (.int v1), .val (.int v2), .unset, .unset] [(.ref b3)])
  refine go_step (T' := T85) (g' := (mkF m 54 #[.val (.int v0), .val (.int v1), .val (.int v2), .unset, .unset] [(.ref b3), (.ref b3)])) (fun t k => XS.dup X87.here hx rfl (hb hby at_53) rfl rfl k) ?_
  refine go_step (T' := T85) (g' := (mkF m 56 #[.val (.int v0), .val (.int v1), .val (.int v2), .unset, .unset] [(.int (9 : Int32)), (.ref b3), (.ref b3)])) (fun t k => XS.bipush X87.here hx rfl (hb hby at_54) k) ?_
  refine go_step (T' := T85) (g' := (mkF m 58 #[.val (.int v0), .val (.int v1), .val (.int v2), .unset, .unset] [(.int (131072 : Int32)), (.int (9 : Int32)), (.ref b3), (.ref b3)])) (X87.ldcInt hx hown (mvT hZ (hw _ (List.mem_of_getElem? (i := 9) rfl))) (g := (mkF m 56 #[.val (.int v0), .val (.int v1), .val (.int v2), .unset, .unset] [(.int (9 : Int32)), (.ref b3), (.ref b3)])) rfl (hb hby at_56)) ?_
  refine go_iastore X87 hx hZ e88 A93 (by decide) (show ((9 : Int32)).toNatClampNeg < 48 by decide) (g := (mkF m 58 #[.val (.int v0), .val (.int v1), .val (.int v2), .unset, .unset] [(.int (131072 : Int32)), (.int (9 : Int32)), (.ref b3), (.ref b3)])) rfl rfl (hb hby at_58) (fun T94 h95 X96 e97 W98 A99 => ?_)
  have K100 := K91.wr W98 (Or.inr sz9)
  have N101 := Fr.snoc X96 N92 g10
  have A102 : IA Z h95 b3 [(160 : Int32), (55295 : Int32), (63744 : Int32), (64975 : Int32), (65008 : Int32), (65519 : Int32), (65535 : Int32), (65536 : Int32), (131069 : Int32), (131072 : Int32), (0 : Int32), (0 : Int32), (0 : Int32), (0 : Int32), (0 : Int32), (0 : Int32), (0 : Int32), (0 : Int32), (0 : Int32), (0 : Int32), (0 : Int32), (0 : Int32), (0 : Int32), (0 : Int32), (0 : Int32), (0 : Int32), (0 : Int32), (0 : Int32), (0 : Int32), (0 : Int32), (0 : Int32), (0 : Int32), (0 : Int32), (0 : Int32), (0 : Int32), (0 : Int32), (0 : Int32), (0 : Int32), (0 : Int32), (0 : Int32), (0 : Int32), (0 : Int32), (0 : Int32), (0 : Int32), (0 : Int32), (0 : Int32), (0 : Int32), (0 : Int32)] := A99
  show Go p e below s _ _ _ T94 (mkF m 59 #[.val (.int v0), .val (.int v1), .val (.int v2), .unset, .unset] [(.ref b3)])
  refine go_step (T' := T94) (g' := (mkF m 60 #[.val (.int v0), .val (.int v1), .val (.int v2), .unset, .unset] [(.ref b3), (.ref b3)])) (fun t k => XS.dup X96.here hx rfl (hb hby at_59) rfl rfl k) ?_
  refine go_step (T' := T94) (g' := (mkF m 62 #[.val (.int v0), .val (.int v1), .val (.int v2), .unset, .unset] [(.int (10 : Int32)), (.ref b3), (.ref b3)])) (fun t k => XS.bipush X96.here hx rfl (hb hby at_60) k) ?_
  refine go_step (T' := T94) (g' := (mkF m 64 #[.val (.int v0), .val (.int v1), .val (.int v2), .unset, .unset] [(.int (196605 : Int32)), (.int (10 : Int32)), (.ref b3), (.ref b3)])) (X96.ldcInt hx hown (mvT hZ (hw _ (List.mem_of_getElem? (i := 10) rfl))) (g := (mkF m 62 #[.val (.int v0), .val (.int v1), .val (.int v2), .unset, .unset] [(.int (10 : Int32)), (.ref b3), (.ref b3)])) rfl (hb hby at_62)) ?_
  refine go_iastore X96 hx hZ e97 A102 (by decide) (show ((10 : Int32)).toNatClampNeg < 48 by decide) (g := (mkF m 64 #[.val (.int v0), .val (.int v1), .val (.int v2), .unset, .unset] [(.int (196605 : Int32)), (.int (10 : Int32)), (.ref b3), (.ref b3)])) rfl rfl (hb hby at_64) (fun T103 h104 X105 e106 W107 A108 => ?_)
  have K109 := K100.wr W107 (Or.inr sz9)
  have N110 := Fr.snoc X105 N101 g10
  have A111 : IA Z h104 b3 [(160 : Int32), (55295 : Int32), (63744 : Int32), (64975 : Int32), (65008 : Int32), (65519 : Int32), (65535 : Int32), (65536 : Int32), (131069 : Int32), (131072 : Int32), (196605 : Int32), (0 : Int32), (0 : Int32), (0 : Int32), (0 : Int32), (0 : Int32), (0 : Int32), (0 : Int32), (0 : Int32), (0 : Int32), (0 : Int32), (0 : Int32), (0 : Int32), (0 : Int32), (0 : Int32), (0 : Int32), (0 : Int32), (0 : Int32), (0 : Int32), (0 : Int32), (0 : Int32), (0 : Int32), (0 : Int32), (0 : Int32), (0 : Int32), (0 : Int32), (0 : Int32), (0 : Int32), (0 : Int32), (0 : Int32), (0 : Int32), (0 : Int32), (0 : Int32), (0 : Int32), (0 : Int32), (0 : Int32), (0 : Int32), (0 : Int32)] := A108
  show Go p e below s _ _ _ T103 (mkF m 65 #[.val (.int v0), .val (.int v1), .val (.int v2), .unset, .unset] [(.ref b3)])
  refine go_step (T' := T103) (g' := (mkF m 66 #[.val (.int v0), .val (.int v1), .val (.int v2), .unset, .unset] [(.ref b3), (.ref b3)])) (fun t k => XS.dup X105.here hx rfl (hb hby at_65) rfl rfl k) ?_
  refine go_step (T' := T103) (g' := (mkF m 68 #[.val (.int v0), .val (.int v1), .val (.int v2), .unset, .unset] [(.int (11 : Int32)), (.ref b3), (.ref b3)])) (fun t k => XS.bipush X105.here hx rfl (hb hby at_66) k) ?_
  refine go_step (T' := T103) (g' := (mkF m 70 #[.val (.int v0), .val (.int v1), .val (.int v2), .unset, .unset] [(.int (196608 : Int32)), (.int (11 : Int32)), (.ref b3), (.ref b3)])) (X105.ldcInt hx hown (mvT hZ (hw _ (List.mem_of_getElem? (i := 11) rfl))) (g := (mkF m 68 #[.val (.int v0), .val (.int v1), .val (.int v2), .unset, .unset] [(.int (11 : Int32)), (.ref b3), (.ref b3)])) rfl (hb hby at_68)) ?_
  refine go_iastore X105 hx hZ e106 A111 (by decide) (show ((11 : Int32)).toNatClampNeg < 48 by decide) (g := (mkF m 70 #[.val (.int v0), .val (.int v1), .val (.int v2), .unset, .unset] [(.int (196608 : Int32)), (.int (11 : Int32)), (.ref b3), (.ref b3)])) rfl rfl (hb hby at_70) (fun T112 h113 X114 e115 W116 A117 => ?_)
  have K118 := K109.wr W116 (Or.inr sz9)
  have N119 := Fr.snoc X114 N110 g10
  have A120 : IA Z h113 b3 [(160 : Int32), (55295 : Int32), (63744 : Int32), (64975 : Int32), (65008 : Int32), (65519 : Int32), (65535 : Int32), (65536 : Int32), (131069 : Int32), (131072 : Int32), (196605 : Int32), (196608 : Int32), (0 : Int32), (0 : Int32), (0 : Int32), (0 : Int32), (0 : Int32), (0 : Int32), (0 : Int32), (0 : Int32), (0 : Int32), (0 : Int32), (0 : Int32), (0 : Int32), (0 : Int32), (0 : Int32), (0 : Int32), (0 : Int32), (0 : Int32), (0 : Int32), (0 : Int32), (0 : Int32), (0 : Int32), (0 : Int32), (0 : Int32), (0 : Int32), (0 : Int32), (0 : Int32), (0 : Int32), (0 : Int32), (0 : Int32), (0 : Int32), (0 : Int32), (0 : Int32), (0 : Int32), (0 : Int32), (0 : Int32), (0 : Int32)] := A117
  show Go p e below s _ _ _ T112 (mkF m 71 #[.val (.int v0), .val (.int v1), .val (.int v2), .unset, .unset] [(.ref b3)])
  refine go_step (T' := T112) (g' := (mkF m 72 #[.val (.int v0), .val (.int v1), .val (.int v2), .unset, .unset] [(.ref b3), (.ref b3)])) (fun t k => XS.dup X114.here hx rfl (hb hby at_71) rfl rfl k) ?_
  refine go_step (T' := T112) (g' := (mkF m 74 #[.val (.int v0), .val (.int v1), .val (.int v2), .unset, .unset] [(.int (12 : Int32)), (.ref b3), (.ref b3)])) (fun t k => XS.bipush X114.here hx rfl (hb hby at_72) k) ?_
  refine go_step (T' := T112) (g' := (mkF m 76 #[.val (.int v0), .val (.int v1), .val (.int v2), .unset, .unset] [(.int (262141 : Int32)), (.int (12 : Int32)), (.ref b3), (.ref b3)])) (X114.ldcInt hx hown (mvT hZ (hw _ (List.mem_of_getElem? (i := 12) rfl))) (g := (mkF m 74 #[.val (.int v0), .val (.int v1), .val (.int v2), .unset, .unset] [(.int (12 : Int32)), (.ref b3), (.ref b3)])) rfl (hb hby at_74)) ?_
  refine go_iastore X114 hx hZ e115 A120 (by decide) (show ((12 : Int32)).toNatClampNeg < 48 by decide) (g := (mkF m 76 #[.val (.int v0), .val (.int v1), .val (.int v2), .unset, .unset] [(.int (262141 : Int32)), (.int (12 : Int32)), (.ref b3), (.ref b3)])) rfl rfl (hb hby at_76) (fun T121 h122 X123 e124 W125 A126 => ?_)
  have K127 := K118.wr W125 (Or.inr sz9)
  have N128 := Fr.snoc X123 N119 g10
  have A129 : IA Z h122 b3 [(160 : Int32), (55295 : Int32), (63744 : Int32), (64975 : Int32), (65008 : Int32), (65519 : Int32), (65535 : Int32), (65536 : Int32), (131069 : Int32), (131072 : Int32), (196605 : Int32), (196608 : Int32), (262141 : Int32), (0 : Int32), (0 : Int32), (0 : Int32), (0 : Int32), (0 : Int32), (0 : Int32), (0 : Int32), (0 : Int32), (0 : Int32), (0 : Int32), (0 : Int32), (0 : Int32), (0 : Int32), (0 : Int32), (0 : Int32), (0 : Int32), (0 : Int32), (0 : Int32), (0 : Int32), (0 : Int32), (0 : Int32), (0 : Int32), (0 : Int32), (0 : Int32), (0 : Int32), (0 : Int32), (0 : Int32), (0 : Int32), (0 : Int32), (0 : Int32), (0 : Int32), (0 : Int32), (0 : Int32), (0 : Int32), (0 : Int32)] := A126
  show Go p e below s _ _ _ T121 (mkF m 77 #[.val (.int v0), .val (.int v1), .val (.int v2), .unset, .unset] [(.ref b3)])
  refine go_step (T' := T121) (g' := (mkF m 78 #[.val (.int v0), .val (.int v1), .val (.int v2), .unset, .unset] [(.ref b3), (.ref b3)])) (fun t k => XS.dup X123.here hx rfl (hb hby at_77) rfl rfl k) ?_
  refine go_step (T' := T121) (g' := (mkF m 80 #[.val (.int v0), .val (.int v1), .val (.int v2), .unset, .unset] [(.int (13 : Int32)), (.ref b3), (.ref b3)])) (fun t k => XS.bipush X123.here hx rfl (hb hby at_78) k) ?_
  refine go_step (T' := T121) (g' := (mkF m 82 #[.val (.int v0), .val (.int v1), .val (.int v2), .unset, .unset] [(.int (262144 : Int32)), (.int (13 : Int32)), (.ref b3), (.ref b3)])) (X123.ldcInt hx hown (mvT hZ (hw _ (List.mem_of_getElem? (i := 13) rfl))) (g := (mkF m 80 #[.val (.int v0), .val (.int v1), .val (.int v2), .unset, .unset] [(.int (13 : Int32)), (.ref b3), (.ref b3)])) rfl (hb hby at_80)) ?_
  refine go_iastore X123 hx hZ e124 A129 (by decide) (show ((13 : Int32)).toNatClampNeg < 48 by decide) (g := (mkF m 82 #[.val (.int v0), .val (.int v1), .val (.int v2), .unset, .unset] [(.int (262144 : Int32)), (.int (13 : Int32)), (.ref b3), (.ref b3)])) rfl rfl (hb hby at_82) (fun T130 h131 X132 e133 W134 A135 => ?_)
  have K136 := K127.wr W134 (Or.inr sz9)
  have N137 := Fr.snoc X132 N128 g10
  have A138 : IA Z h131 b3 [(160 : Int32), (55295 : Int32), (63744 : Int32), (64975 : Int32), (65008 : Int32), (65519 : Int32), (65535 : Int32), (65536 : Int32), (131069 : Int32), (131072 : Int32), (196605 : Int32), (196608 : Int32), (262141 : Int32), (262144 : Int32), (0 : Int32), (0 : Int32), (0 : Int32), (0 : Int32), (0 : Int32), (0 : Int32), (0 : Int32), (0 : Int32), (0 : Int32), (0 : Int32), (0 : Int32), (0 : Int32), (0 : Int32), (0 : Int32), (0 : Int32), (0 : Int32), (0 : Int32), (0 : Int32), (0 : Int32), (0 : Int32), (0 : Int32), (0 : Int32), (0 : Int32), (0 : Int32), (0 : Int32), (0 : Int32), (0 : Int32), (0 : Int32), (0 : Int32), (0 : Int32), (0 : Int32), (0 : Int32), (0 : Int32), (0 : Int32)] := A135
  show Go p e below s _ _ _ T130 (mkF m 83 #[.val (.int v0), .val (.int v1), .val (.int v2), .unset, .unset] [(.ref b3)])
  refine go_step (T' := T130) (g' := (mkF m 84 #[.val (.int v0), .val (.int v1), .val (.int v2), .unset, .unset] [(.ref b3), (.ref b3)])) (fun t k => XS.dup X132.here hx rfl (hb hby at_83) rfl rfl k) ?_
  refine go_step (T' := T130) (g' := (mkF m 86 #[.val (.int v0), .val (.int v1), .val (.int v2), .unset, .unset] [(.int (14 : Int32)), (.ref b3), (.ref b3)])) (fun t k => XS.bipush X132.here hx rfl (hb hby at_84) k) ?_
  refine go_step (T' := T130) (g' := (mkF m 88 #[.val (.int v0), .val (.int v1), .val (.int v2), .unset, .unset] [(.int (327677 : Int32)), (.int (14 : Int32)), (.ref b3), (.ref b3)])) (X132.ldcInt hx hown (mvT hZ (hw _ (List.mem_of_getElem? (i := 14) rfl))) (g := (mkF m 86 #[.val (.int v0), .val (.int v1), .val (.int v2), .unset, .unset] [(.int (14 : Int32)), (.ref b3), (.ref b3)])) rfl (hb hby at_86)) ?_
  refine go_iastore X132 hx hZ e133 A138 (by decide) (show ((14 : Int32)).toNatClampNeg < 48 by decide) (g := (mkF m 88 #[.val (.int v0), .val (.int v1), .val (.int v2), .unset, .unset] [(.int (327677 : Int32)), (.int (14 : Int32)), (.ref b3), (.ref b3)])) rfl rfl (hb hby at_88) (fun T139 h140 X141 e142 W143 A144 => ?_)
  have K145 := K136.wr W143 (Or.inr sz9)
  have N146 := Fr.snoc X141 N137 g10
  have A147 : IA Z h140 b3 [(160 : Int32), (55295 : Int32), (63744 : Int32), (64975 : Int32), (65008 : Int32), (65519 : Int32), (65535 : Int32), (65536 : Int32), (131069 : Int32), (131072 : Int32), (196605 : Int32), (196608 : Int32), (262141 : Int32), (262144 : Int32), (327677 : Int32), (0 : Int32), (0 : Int32), (0 : Int32), (0 : Int32), (0 : Int32), (0 : Int32), (0 : Int32), (0 : Int32), (0 : Int32), (0 : Int32), (0 : Int32), (0 : Int32), (0 : Int32), (0 : Int32), (0 : Int32), (0 : Int32), (0 : Int32), (0 : Int32), (0 : Int32), (0 : Int32), (0 : Int32), (0 : Int32), (0 : Int32), (0 : Int32), (0 : Int32), (0 : Int32), (0 : Int32), (0 : Int32), (0 : Int32), (0 : Int32), (0 : Int32), (0 : Int32), (0 : Int32)] := A144
  show Go p e below s _ _ _ T139 (mkF m 89 #[.val (.int v0), .val (.int v1), .val (.int v2), .unset, .unset] [(.ref b3)])
  refine go_step (T' := T139) (g' := (mkF m 90 #[.val (.int v0), .val (.int v1), .val (.int v2), .unset, .unset] [(.ref b3), (.ref b3)])) (fun t k => XS.dup X141.here hx rfl (hb hby at_89) rfl rfl k) ?_
  refine go_step (T' := T139) (g' := (mkF m 92 #[.val (.int v0), .val (.int v1), .val (.int v2), .unset, .unset] [(.int (15 : Int32)), (.ref b3), (.ref b3)])) (fun t k => XS.bipush X141.here hx rfl (hb hby at_90) k) ?_
  refine go_step (T' := T139) (g' := (mkF m 94 #[.val (.int v0), .val (.int v1), .val (.int v2), .unset, .unset] [(.int (327680 : Int32)), (.int (15 : Int32)), (.ref b3), (.ref b3)])) (X141.ldcInt hx hown (mvT hZ (hw _ (List.mem_of_getElem? (i := 15) rfl))) (g := (mkF m 92 #[.val (.int v0), .val (.int v1), .val (.int v2), .unset, .unset] [(.int (15 : Int32)), (.ref b3), (.ref b3)])) rfl (hb hby at_92)) ?_
  refine go_iastore X141 hx hZ e142 A147 (by decide) (show ((15 : Int32)).toNatClampNeg < 48 by decide) (g := (mkF m 94 #[.val (.int v0), .val (.int v1), .val (.int v2), .unset, .unset] [(.int (327680 : Int32)), (.int (15 : Int32)), (.ref b3), (.ref b3)])) rfl rfl (hb hby at_94) (fun T148 h149 X150 e151 W152 A153 => ?_)
  have K154 := K145.wr W152 (Or.inr sz9)
  have N155 := Fr.snoc X150 N146 g10
  have A156 : IA Z h149 b3 [(160 : Int32), (55295 : Int32), (63744 : Int32), (64975 : Int32), (65008 : Int32), (65519 : Int32), (65535 : Int32), (65536 : Int32), (131069 : Int32), (131072 : Int32), (196605 : Int32), (196608 : Int32), (262141 : Int32), (262144 : Int32), (327677 : Int32), (327680 : Int32), (0 : Int32), (0 : Int32), (0 : Int32), (0 : Int32), (0 : Int32), (0 : Int32), (0 : Int32), (0 : Int32), (0 : Int32), (0 : Int32), (0 : Int32), (0 : Int32), (0 : Int32), (0 : Int32), (0 : Int32), (0 : Int32), (0 : Int32), (0 : Int32), (0 : Int32), (0 : Int32), (0 : Int32), (0 : Int32), (0 : Int32), (0 : Int32), (0 : Int32), (0 : Int32), (0 : Int32), (0 : Int32), (0 : Int32), (0 : Int32), (0 : Int32), (0 : Int32)] := A153
  show Go p e below s _ _ _ T148 (mkF m 95 #[.val (.int v0), .val (.int v1), .val (.int v2), .unset, .unset] [(.ref b3)])
  refine go_step (T' := T148) (g' := (mkF m 96 #[.val (.int v0), .val (.int v1), .val (.int v2), .unset, .unset] [(.ref b3), (.ref b3)])) (fun t k => XS.dup X150.here hx rfl (hb hby at_95) rfl rfl k) ?_
  refine go_step (T' := T148) (g' := (mkF m 98 #[.val (.int v0), .val (.int v1), .val (.int v2), .unset, .unset] [(.int (16 : Int32)), (.ref b3), (.ref b3)])) (fun t k => XS.bipush X150.here hx rfl (hb hby at_96) k) ?_
  refine go_step (T' := T148) (g' := (mkF m 100 #[.val (.int v0), .val (.int v1), .val (.int v2), .unset, .unset] [(.int (393213 : Int32)), (.int (16 : Int32)), (.ref b3), (.ref b3)])) (X150.ldcInt hx hown (mvT hZ (hw _ (List.mem_of_getElem? (i := 16) rfl))) (g := (mkF m 98 #[.val (.int v0), .val (.int v1), .val (.int v2), .unset, .unset] [(.int (16 : Int32)), (.ref b3), (.ref b3)])) rfl (hb hby at_98)) ?_
  refine go_iastore X150 hx hZ e151 A156 (by decide) (show ((16 : Int32)).toNatClampNeg < 48 by decide) (g := (mkF m 100 #[.val (.int v0), .val (.int v1), .val (.int v2), .unset, .unset] [(.int (393213 : Int32)), (.int (16 : Int32)), (.ref b3), (.ref b3)])) rfl rfl (hb hby at_100) (fun T157 h158 X159 e160 W161 A162 => ?_)
  have K163 := K154.wr W161 (Or.inr sz9)
  have N164 := Fr.snoc X159 N155 g10
  have A165 : IA Z h158 b3 [(160 : Int32), (55295 : Int32), (63744 : Int32), (64975 : Int32), (65008 : Int32), (65519 : Int32), (65535 : Int32), (65536 : Int32), (131069 : Int32), (131072 : Int32), (196605 : Int32), (196608 : Int32), (262141 : Int32), (262144 : Int32), (327677 : Int32), (327680 : Int32), (393213 : Int32), (0 : Int32), (0 : Int32), (0 : Int32), (0 : Int32), (0 : Int32), (0 : Int32), (0 : Int32), (0 : Int32), (0 : Int32), (0 : Int32), (0 : Int32), (0 : Int32), (0 : Int32), (0 : Int32), (0 : Int32), (0 : Int32), (0 : Int32), (0 : Int32), (0 : Int32), (0 : Int32), (0 : Int32), (0 : Int32), (0 : Int32), (0 : Int32), (0 : Int32), (0 : Int32), (0 : Int32), (0 : Int32), (0 : Int32), (0 : Int32), (0 : Int32)] := A162
  show Go p e below s _ _ _ T157 (mkF m 101 #[.val (.int v0), .val (.int v1), .val (.int v2), .unset, .unset] [(.ref b3)])
  refine go_step (T' := T157) (g' := (mkF m 102 #[.val (.int v0), .val (.int v1), .val (.int v2), .unset, .unset] [(.ref b3), (.ref b3)])) (fun t k => XS.dup X159.here hx rfl (hb hby at_101) rfl rfl k) ?_
  refine go_step (T' := T157) (g' := (mkF m 104 #[.val (.int v0), .val (.int v1), .val (.int v2), .unset, .unset] [(.int (17 : Int32)), (.ref b3), (.ref b3)])) (fun t k => XS.bipush X159.here hx rfl (hb hby at_102) k) ?_
  refine go_step (T' := T157) (g' := (mkF m 106 #[.val (.int v0), .val (.int v1), .val (.int v2), .unset, .unset] [(.int (393216 : Int32)), (.int (17 : Int32)), (.ref b3), (.ref b3)])) (X159.ldcInt hx hown (mvT hZ (hw _ (List.mem_of_getElem? (i := 17) rfl))) (g := (mkF m 104 #[.val (.int v0), .val (.int v1), .val (.int v2), .unset, .unset] [(.int (17 : Int32)), (.ref b3), (.ref b3)])) rfl (hb hby at_104)) ?_
  refine go_iastore X159 hx hZ e160 A165 (by decide) (show ((17 : Int32)).toNatClampNeg < 48 by decide) (g := (mkF m 106 #[.val (.int v0), .val (.int v1), .val (.int v2), .unset, .unset] [(.int (393216 : Int32)), (.int (17 : Int32)), (.ref b3), (.ref b3)])) rfl rfl (hb hby at_106) (fun T166 h167 X168 e169 W170 A171 => ?_)
  have K172 := K163.wr W170 (Or.inr sz9)
  have N173 := Fr.snoc X168 N164 g10
  have A174 : IA Z h167 b3 [(160 : Int32), (55295 : Int32), (63744 : Int32), (64975 : Int32), (65008 : Int32), (65519 : Int32), (65535 : Int32), (65536 : Int32), (131069 : Int32), (131072 : Int32), (196605 : Int32), (196608 : Int32), (262141 : Int32), (262144 : Int32), (327677 : Int32), (327680 : Int32), (393213 : Int32), (393216 : Int32), (0 : Int32), (0 : Int32), (0 : Int32), (0 : Int32), (0 : Int32), (0 : Int32), (0 : Int32), (0 : Int32), (0 : Int32), (0 : Int32), (0 : Int32), (0 : Int32), (0 : Int32), (0 : Int32), (0 : Int32), (0 : Int32), (0 : Int32), (0 : Int32), (0 : Int32), (0 : Int32), (0 : Int32), (0 : Int32), (0 : Int32), (0 : Int32), (0 : Int32), (0 : Int32), (0 : Int32), (0 : Int32), (0 : Int32), (0 : Int32)] := A171
  show Go p e below s _ _ _ T166 (mkF m 107 #[.val (.int v0), .val (.int v1), .val (.int v2), .unset, .unset] [(.ref b3)])
  refine go_step (T' := T166) (g' := (mkF m 108 #[.val (.int v0), .val (.int v1), .val (.int v2), .unset, .unset] [(.ref b3), (.ref b3)])) (fun t k => XS.dup X168.here hx rfl (hb hby at_107) rfl rfl k) ?_
  refine go_step (T' := T166) (g' := (mkF m 110 #[.val (.int v0), .val (.int v1), .val (.int v2), .unset, .unset] [(.int (18 : Int32)), (.ref b3), (.ref b3)])) (fun t k => XS.bipush X168.here hx rfl (hb hby at_108) k) ?_
  refine go_step (T' := T166) (g' := (mkF m 112 #[.val (.int v0), .val (.int v1), .val (.int v2), .unset, .unset] [(.int (458749 : Int32)), (.int (18 : Int32)), (.ref b3), (.ref b3)])) (X168.ldcInt hx hown (mvT hZ (hw _ (List.mem_of_getElem? (i := 18) rfl))) (g := (mkF m 110 #[.val (.int v0), .val (.int v1), .val (.int v2), .unset, .unset] [(.int (18 : Int32)), (.ref b3), (.ref b3)])) rfl (hb hby at_110)) ?_
  refine go_iastore X168 hx hZ e169 A174 (by decide) (show ((18 : Int32)).toNatClampNeg < 48 by decide) (g := (mkF m 112 #[.val (.int v0), .val (.int v1), .val (.int v2), .unset, .unset] [(.int (458749 : Int32)), (.int (18 : Int32)), (.ref b3), (.ref b3)])) rfl rfl (hb hby at_112) (fun T175 h176 X177 e178 W179 A180 => ?_)
  have K181 := K172.wr W179 (Or.inr sz9)
  have N182 := Fr.snoc X177 N173 g10
  have A183 : IA Z h176 b3 [(160 : Int32), (55295 : Int32), (63744 : Int32), (64975 : Int32), (65008 : Int32), (65519 : Int32), (65535 : Int32), (65536 : Int32), (131069 : Int32), (131072 : Int32), (196605 : Int32), (196608 : Int32), (262141 : Int32), (262144 : Int32), (327677 : Int32), (327680 : Int32), (393213 : Int32), (393216 : Int32), (458749 : Int32), (0 : Int32), (0 : Int32), (0 : Int32), (0 : Int32), (0 : Int32), (0 : Int32), (0 : Int32), (0 : Int32), (0 : Int32), (0 : Int32), (0 : Int32), (0 : Int32), (0 : Int32), (0 : Int32), (0 : Int32), (0 : Int32), (0 : Int32), (0 : Int32), (0 : Int32), (0 : Int32), (0 : Int32), (0 : Int32), (0 : Int32), (0 : Int32), (0 : Int32), (0 : Int32), (0 : Int32), (0 : Int32), (0 : Int32)] := A180
  show Go p e below s _ _ _ T175 (mkF m 113 #[.val (.int v0), .val (.int v1), .val (.int v2), .unset, .unset] [(.ref b3)])
  refine go_step (T' := T175) (g' := (mkF m 114 #[.val (.int v0), .val (.int v1), .val (.int v2), .unset, .unset] [(.ref b3), (.ref b3)])) (fun t k => XS.dup X177.here hx rfl (hb hby at_113) rfl rfl k) ?_
  refine go_step (T' := T175) (g' := (mkF m 116 #[.val (.int v0), .val (.int v1), .val (.int v2), .unset, .unset] [(.int (19 : Int32)), (.ref b3), (.ref b3)])) (fun t k => XS.bipush X177.here hx rfl (hb hby at_114) k) ?_
  refine go_step (T' := T175) (g' := (mkF m 118 #[.val (.int v0), .val (.int v1), .val (.int v2), .unset, .unset] [(.int (458752 : Int32)), (.int (19 : Int32)), (.ref b3), (.ref b3)])) (X177.ldcInt hx hown (mvT hZ (hw _ (List.mem_of_getElem? (i := 19) rfl))) (g := (mkF m 116 #[.val (.int v0), .val (.int v1), .val (.int v2), .unset, .unset] [(.int (19 : Int32)), (.ref b3), (.ref b3)])) rfl (hb hby at_116)) ?_
  refine go_iastore X177 hx hZ e178 A183 (by decide) (show ((19 : Int32)).toNatClampNeg < 48 by decide) (g := (mkF m 118 #[.val (.int v0), .val (.int v1), .val (.int v2), .unset, .unset] [(.int (458752 : Int32)), (.int (19 : Int32)), (.ref b3), (.ref b3)])) rfl rfl (hb hby at_118) (fun T184 h185 X186 e187 W188 A189 => ?_)
  have K190 := K181.wr W188 (Or.inr sz9)
  have N191 := Fr.snoc X186 N182 g10
  have A192 : IA Z h185 b3 [(160 : Int32), (55295 : Int32), (63744 : Int32), (64975 : Int32), (65008 : Int32), (65519 : Int32), (65535 : Int32), (65536 : Int32), (131069 : Int32), (131072 : Int32), (196605 : Int32), (196608 : Int32), (262141 : Int32), (262144 : Int32), (327677 : Int32), (327680 : Int32), (393213 : Int32), (393216 : Int32), (458749 : Int32), (458752 : Int32), (0 : Int32), (0 : Int32), (0 : Int32), (0 : Int32), (0 : Int32), (0 : Int32), (0 : Int32), (0 : Int32), (0 : Int32), (0 : Int32), (0 : Int32), (0 : Int32), (0 : Int32), (0 : Int32), (0 : Int32), (0 : Int32), (0 : Int32), (0 : Int32), (0 : Int32), (0 : Int32), (0 : Int32), (0 : Int32), (0 : Int32), (0 : Int32), (0 : Int32), (0 : Int32), (0 : Int32), (0 : Int32)] := A189
  show Go p e below s _ _ _ T184 (mkF m 119 #[.val (.int v0), .val (.int v1), .val (.int v2), .unset, .unset] [(.ref b3)])
  refine go_step (T' := T184) (g' := (mkF m 120 #[.val (.int v0), .val (.int v1), .val (.int v2), .unset, .unset] [(.ref b3), (.ref b3)])) (fun t k => XS.dup X186.here hx rfl (hb hby at_119) rfl rfl k) ?_
  refine go_step (T' := T184) (g' := (mkF m 122 #[.val (.int v0), .val (.int v1), .val (.int v2), .unset, .unset] [(.int (20 : Int32)), (.ref b3), (.ref b3)])) (fun t k => XS.bipush X186.here hx rfl (hb hby at_120) k) ?_
  refine go_step (T' := T184) (g' := (mkF m 124 #[.val (.int v0), .val (.int v1), .val (.int v2), .unset, .unset] [(.int (524285 : Int32)), (.int (20 : Int32)), (.ref b3), (.ref b3)])) (X186.ldcInt hx hown (mvT hZ (hw _ (List.mem_of_getElem? (i := 20) rfl))) (g := (mkF m 122 #[.val (.int v0), .val (.int v1), .val (.int v2), .unset, .unset] [(.int (20 : Int32)), (.ref b3), (.ref b3)])) rfl (hb hby at_122)) ?_
  refine go_iastore X186 hx hZ e187 A192 (by decide) (show ((20 : Int32)).toNatClampNeg < 48 by decide) (g := (mkF m 124 #[.val (.int v0), .val (.int v1), .val (.int v2), .unset, .unset] [(.int (524285 : Int32)), (.int (20 : Int32)), (.ref b3), (.ref b3)])) rfl rfl (hb hby at_124) (fun T193 h194 X195 e196 W197 A198 => ?_)
  have K199 := K190.wr W197 (Or.inr sz9)
  have N200 := Fr.snoc X195 N191 g10
  have A201 : IA Z h194 b3 [(160 : Int32), (55295 : Int32), (63744 : Int32), (64975 : Int32), (65008 : Int32), (65519 : Int32), (65535 : Int32), (65536 : Int32), (131069 : Int32), (131072 : Int32), (196605 : Int32), (196608 : Int32), (262141 : Int32), (262144 : Int32), (327677 : Int32), (327680 : Int32), (393213 : Int32), (393216 : Int32), (458749 : Int32), (458752 : Int32), (524285 : Int32), (0 : Int32), (0 : Int32), (0 : Int32), (0 : Int32), (0 : Int32), (0 : Int32), (0 : Int32), (0 : Int32), (0 : Int32), (0 : Int32), (0 : Int32), (0 : Int32), (0 : Int32), (0 : Int32), (0 : Int32), (0 : Int32), (0 : Int32), (0 : Int32), (0 : Int32), (0 : Int32), (0 : Int32), (0 : Int32), (0 : Int32), (0 : Int32), (0 : Int32), (0 : Int32), (0 : Int32)] := A198
  show Go p e below s _ _ _ T193 (mkF m 125 #[.val (.int v0), .val (.int v1), .val (.int v2), .unset, .unset] [(.ref b3)])
  refine go_step (T' := T193) (g' := (mkF m 126 #[.val (.int v0), .val (.int v1), .val (.int v2), .unset, .unset] [(.ref b3), (.ref b3)])) (fun t k => XS.dup X195.here hx rfl (hb hby at_125) rfl rfl k) ?_
  refine go_step (T' := T193) (g' := (mkF m 128 #[.val (.int v0), .val (.int v1), .val (.int v2), .unset, .unset] [(.int (21 : Int32)), (.ref b3), (.ref b3)])) (fun t k => XS.bipush X195.here hx rfl (hb hby at_126) k) ?_
  refine go_step (T' := T193) (g' := (mkF m 130 #[.val (.int v0), .val (.int v1), .val (.int v2), .unset, .unset] [(.int (524288 : Int32)), (.int (21 : Int32)), (.ref b3), (.ref b3)])) (X195.ldcInt hx hown (mvT hZ (hw _ (List.mem_of_getElem? (i := 21) rfl))) (g := (mkF m 128 #[.val (.int v0), .val (.int v1), .val (.int v2), .unset, .unset] [(.int (21 : Int32)), (.ref b3), (.ref b3)])) rfl (hb hby at_128)) ?_
  refine go_iastore X195 hx hZ e196 A201 (by decide) (show ((21 : Int32)).toNatClampNeg < 48 by decide) (g := (mkF m 130 #[.val (.int v0), .val (.int v1), .val (.int v2), .unset, .unset] [(.int (524288 : Int32)), (.int (21 : Int32)), (.ref b3), (.ref b3)])) rfl rfl (hb hby at_130) (fun T202 h203 X204 e205 W206 A207 => ?_)
  have K208 := K199.wr W206 (Or.inr sz9)
  have N209 := Fr.snoc X204 N200 g10
  have A210 : IA Z h203 b3 [(160 : Int32), (55295 : Int32), (63744 : Int32), (64975 : Int32), (65008 : Int32), (65519 : Int32), (65535 : Int32), (65536 : Int32), (131069 : Int32), (131072 : Int32), (196605 : Int32), (196608 : Int32), (262141 : Int32), (262144 : Int32), (327677 : Int32), (327680 : Int32), (393213 : Int32), (393216 : Int32), (458749 : Int32), (458752 : Int32), (524285 : Int32), (524288 : Int32), (0 : Int32), (0 : Int32), (0 : Int32), (0 : Int32), (0 : Int32), (0 : Int32), (0 : Int32), (0 : Int32), (0 : Int32), (0 : Int32), (0 : Int32), (0 : Int32), (0 : Int32), (0 : Int32), (0 : Int32), (0 : Int32), (0 : Int32), (0 : Int32), (0 : Int32), (0 : Int32), (0 : Int32), (0 : Int32), (0 : Int32), (0 : Int32), (0 : Int32), (0 : Int32)] := A207
  show Go p e below s _ _ _ T202 (mkF m 131 #[.val (.int v0), .val (.int v1), .val (.int v2), .unset, .unset] [(.ref b3)])
  refine go_step (T' := T202) (g' := (mkF m 132 #[.val (.int v0), .val (.int v1), .val (.int v2), .unset, .unset] [(.ref b3), (.ref b3)])) (fun t k => XS.dup X204.here hx rfl (hb hby at_131) rfl rfl k) ?_
  refine go_step (T' := T202) (g' := (mkF m 134 #[.val (.int v0), .val (.int v1), .val (.int v2), .unset, .unset] [(.int (22 : Int32)), (.ref b3), (.ref b3)])) (fun t k => XS.bipush X204.here hx rfl (hb hby at_132) k) ?_
  refine go_step (T' := T202) (g' := (mkF m 136 #[.val (.int v0), .val (.int v1), .val (.int v2), .unset, .unset] [(.int (589821 : Int32)), (.int (22 : Int32)), (.ref b3), (.ref b3)])) (X204.ldcInt hx hown (mvT hZ (hw _ (List.mem_of_getElem? (i := 22) rfl))) (g := (mkF m 134 #[.val (.int v0), .val (.int v1), .val (.int v2), .unset, .unset] [(.int (22 : Int32)), (.ref b3), (.ref b3)])) rfl (hb hby at_134)) ?_
  refine go_iastore X204 hx hZ e205 A210 (by decide) (show ((22 : Int32)).toNatClampNeg < 48 by decide) (g := (mkF m 136 #[.val (.int v0), .val (.int v1), .val (.int v2), .unset, .unset] [(.int (589821 : Int32)), (.int (22 : Int32)), (.ref b3), (.ref b3)])) rfl rfl (hb hby at_136) (fun T211 h212 X213 e214 W215 A216 => ?_)
  have K217 := K208.wr W215 (Or.inr sz9)
  have N218 := Fr.snoc X213 N209 g10
  have A219 : IA Z h212 b3 [(160 : Int32), (55295 : Int32), (63744 : Int32), (64975 : Int32), (65008 : Int32), (65519 : Int32), (65535 : Int32), (65536 : Int32), (131069 : Int32), (131072 : Int32), (196605 : Int32), (196608 : Int32), (262141 : Int32), (262144 : Int32), (327677 : Int32), (327680 : Int32), (393213 : Int32), (393216 : Int32), (458749 : Int32), (458752 : Int32), (524285 : Int32), (524288 : Int32), (589821 : Int32), (0 : Int32), (0 : Int32), (0 : Int32), (0 : Int32), (0 : Int32), (0 : Int32), (0 : Int32), (0 : Int32), (0 : Int32), (0 : Int32), (0 : Int32), (0 : Int32), (0 : Int32), (0 : Int32), (0 : Int32), (0 : Int32), (0 : Int32), (0 : Int32), (0 : Int32), (0 : Int32), (0 : Int32), (0 : Int32), (0 : Int32), (0 : Int32), (0 : Int32)] := A216
  show Go p e below s _ _ _ T211 (mkF m 137 #[.val (.int v0), .val (.int v1), .val (.int v2), .unset, .unset] [(.ref b3)])
  refine go_step (T' := T211) (g' := (mkF m 138 #[.val (.int v0), .val (.int v1), .val (.int v2), .unset, .unset] [(.ref b3), (.ref b3)])) (fun t k => XS.dup X213.here hx rfl (hb hby at_137) rfl rfl k) ?_
  refine go_step (T' := T211) (g' := (mkF m 140 #[.val (.int v0), .val (.int v1), .val (.int v2), .unset, .unset] [(.int (23 : Int32)), (.ref b3), (.ref b3)])) (fun t k => XS.bipush X213.here hx rfl (hb hby at_138) k) ?_
  refine go_step (T' := T211) (g' := (mkF m 142 #[.val (.int v0), .val (.int v1), .val (.int v2), .unset, .unset] [(.int (589824 : Int32)), (.int (23 : Int32)), (.ref b3), (.ref b3)])) (X213.ldcInt hx hown (mvT hZ (hw _ (List.mem_of_getElem? (i := 23) rfl))) (g := (mkF m 140 #[.val (.int v0), .val (.int v1), .val (.int v2), .unset, .unset] [(.int (23 : Int32)), (.ref b3), (.ref b3)])) rfl (hb hby at_140)) ?_
  refine go_iastore X213 hx hZ e214 A219 (by decide) (show ((23 : Int32)).toNatClampNeg < 48 by decide) (g := (mkF m 142 #[.val (.int v0), .val (.int v1), .val (.int v2), .unset, .unset] [(.int (589824 : Int32)), (.int (23 : Int32)), (.ref b3), (.ref b3)])) rfl rfl (hb hby at_142) (fun T220 h221 X222 e223 W224 A225 => ?_)
  have K226 := K217.wr W224 (Or.inr sz9)
  have N227 := Fr.snoc X222 N218 g10
  have A228 : IA Z h221 b3 [(160 : Int32), (55295 : Int32), (63744 : Int32), (64975 : Int32), (65008 : Int32), (65519 : Int32), (65535 : Int32), (65536 : Int32), (131069 : Int32), (131072 : Int32), (196605 : Int32), (196608 : Int32), (262141 : Int32), (262144 : Int32), (327677 : Int32), (327680 : Int32), (393213 : Int32), (393216 : Int32), (458749 : Int32), (458752 : Int32), (524285 : Int32), (524288 : Int32), (589821 : Int32), (589824 : Int32), (0 : Int32), (0 : Int32), (0 : Int32), (0 : Int32), (0 : Int32), (0 : Int32), (0 : Int32), (0 : Int32), (0 : Int32), (0 : Int32), (0 : Int32), (0 : Int32), (0 : Int32), (0 : Int32), (0 : Int32), (0 : Int32), (0 : Int32), (0 : Int32), (0 : Int32), (0 : Int32), (0 : Int32), (0 : Int32), (0 : Int32), (0 : Int32)] := A225
  show Go p e below s _ _ _ T220 (mkF m 143 #[.val (.int v0), .val (.int v1), .val (.int v2), .unset, .unset] [(.ref b3)])
  refine go_step (T' := T220) (g' := (mkF m 144 #[.val (.int v0), .val (.int v1), .val (.int v2), .unset, .unset] [(.ref b3), (.ref b3)])) (fun t k => XS.dup X222.here hx rfl (hb hby at_143) rfl rfl k) ?_
  refine go_step (T' := T220) (g' := (mkF m 146 #[.val (.int v0), .val (.int v1), .val (.int v2), .unset, .unset] [(.int (24 : Int32)), (.ref b3), (.ref b3)])) (fun t k => XS.bipush X222.here hx rfl (hb hby at_144) k) ?_
  refine go_step (T' := T220) (g' := (mkF m 148 #[.val (.int v0), .val (.int v1), .val (.int v2), .unset, .unset] [(.int (655357 : Int32)), (.int (24 : Int32)), (.ref b3), (.ref b3)])) (X222.ldcInt hx hown (mvT hZ (hw _ (List.mem_of_getElem? (i := 24) rfl))) (g := (mkF m 146 #[.val (.int v0), .val (.int v1), .val (.int v2), .unset, .unset] [(.int (24 : Int32)), (.ref b3), (.ref b3)])) rfl (hb hby at_146)) ?_
  refine go_iastore X222 hx hZ e223 A228 (by decide) (show ((24 : Int32)).toNatClampNeg < 48 by decide) (g := (mkF m 148 #[.val (.int v0), .val (.int v1), .val (.int v2), .unset, .unset] [(.int (655357 : Int32)), (.int (24 : Int32)), (.ref b3), (.ref b3)])) rfl rfl (hb hby at_148) (fun T229 h230 X231 e232 W233 A234 => ?_)
  have K235 := K226.wr W233 (Or.inr sz9)
  have N236 := Fr.snoc X231 N227 g10
  have A237 : IA Z h230 b3 [(160 : Int32), (55295 : Int32), (63744 : Int32), (64975 : Int32), (65008 : Int32), (65519 : Int32), (65535 : Int32), (65536 : Int32), (131069 : Int32), (131072 : Int32), (196605 : Int32), (196608 : Int32), (262141 : Int32), (262144 : Int32), (327677 : Int32), (327680 : Int32), (393213 : Int32), (393216 : Int32), (458749 : Int32), (458752 : Int32), (524285 : Int32), (524288 : Int32), (589821 : Int32), (589824 : Int32), (655357 : Int32), (0 : Int32), (0 : Int32), (0 : Int32), (0 : Int32), (0 : Int32), (0 : Int32), (0 : Int32), (0 : Int32), (0 : Int32), (0 : Int32), (0 : Int32), (0 : Int32), (0 : Int32), (0 : Int32), (0 : Int32), (0 : Int32), (0 : Int32), (0 : Int32), (0 : Int32), (0 : Int32), (0 : Int32), (0 : Int32), (0 : Int32)] := A234
  show Go p e below s _ _ _ T229 (mkF m 149 #[.val (.int v0), .val (.int v1), .val (.int v2), .unset, .unset] [(.ref b3)])
  refine go_step (T' := T229) (g' := (mkF m 150 #[.val (.int v0), .val (.int v1), .val (.int v2), .unset, .unset] [(.ref b3), (.ref b3)])) (fun t k => XS.dup X231.here hx rfl (hb hby at_149) rfl rfl k) ?_
  refine go_step (T' := T229) (g' := (mkF m 152 #[.val (.int v0), .val (.int v1), .val (.int v2), .unset, .unset] [(.int (25 : Int32)), (.ref b3), (.ref b3)])) (fun t k => XS.bipush X231.here hx rfl (hb hby at_150) k) ?_
  refine go_step (T' := T229) (g' := (mkF m 154 #[.val (.int v0), .val (.int v1), .val (.int v2), .unset, .unset] [(.int (655360 : Int32)), (.int (25 : Int32)), (.ref b3), (.ref b3)])) (X231.ldcInt hx hown (mvT hZ (hw _ (List.mem_of_getElem? (i := 25) rfl))) (g := (mkF m 152 #[.val (.int v0), .val (.int v1), .val (.int v2), .unset, .unset] [(.int (25 : Int32)), (.ref b3), (.ref b3)])) rfl (hb hby at_152)) ?_
  refine go_iastore X231 hx hZ e232 A237 (by decide) (show ((25 : Int32)).toNatClampNeg < 48 by decide) (g := (mkF m 154 #[.val (.int v0), .val (.int v1), .val (.int v2), .unset, .unset] [(.int (655360 : Int32)), (.int (25 : Int32)), (.ref b3), (.ref b3)])) rfl rfl (hb hby at_154) (fun T238 h239 X240 e241 W242 A243 => ?_)
  have K244 := K235.wr W242 (Or.inr sz9)
  have N245 := Fr.snoc X240 N236 g10
  have A246 : IA Z h239 b3 [(160 : Int32), (55295 : Int32), (63744 : Int32), (64975 : Int32), (65008 : Int32), (65519 : Int32), (65535 : Int32), (65536 : Int32), (131069 : Int32), (131072 : Int32), (196605 : Int32), (196608 : Int32), (262141 : Int32), (262144 : Int32), (327677 : Int32), (327680 : Int32), (393213 : Int32), (393216 : Int32), (458749 : Int32), (458752 : Int32), (524285 : Int32), (524288 : Int32), (589821 : Int32), (589824 : Int32), (655357 : Int32), (655360 : Int32), (0 : Int32), (0 : Int32), (0 : Int32), (0 : Int32), (0 : Int32), (0 : Int32), (0 : Int32), (0 : Int32), (0 : Int32), (0 : Int32), (0 : Int32), (0 : Int32), (0 : Int32), (0 : Int32), (0 : Int32), (0 : Int32), (0 : Int32), (0 : Int32), (0 : Int32), (0 : Int32), (0 : Int32), (0 : Int32)] := A243
  show Go p e below s _ _ _ T238 (mkF m 155 #[.val (.int v0), .val (.int v1), .val (.int v2), .unset, .unset] [(.ref b3)])
  refine go_step (T' := T238) (g' := (mkF m 156 #[.val (.int v0), .val (.int v1), .val (.int v2), .unset, .unset] [(.ref b3), (.ref b3)])) (fun t k => XS.dup X240.here hx rfl (hb hby at_155) rfl rfl k) ?_
  refine go_step (T' := T238) (g' := (mkF m 158 #[.val (.int v0), .val (.int v1), .val (.int v2), .unset, .unset] [(.int (26 : Int32)), (.ref b3), (.ref b3)])) (fun t k => XS.bipush X240.here hx rfl (hb hby at_156) k) ?_
  refine go_step (T' := T238) (g' := (mkF m 160 #[.val (.int v0), .val (.int v1), .val (.int v2), .unset, .unset] [(.int (720893 : Int32)), (.int (26 : Int32)), (.ref b3), (.ref b3)])) (X240.ldcInt hx hown (mvT hZ (hw _ (List.mem_of_getElem? (i := 26) rfl))) (g := (mkF m 158 #[.val (.int v0), .val (.int v1), .val (.int v2), .unset, .unset] [(.int (26 : Int32)), (.ref b3), (.ref b3)])) rfl (hb hby at_158)) ?_
  refine go_iastore X240 hx hZ e241 A246 (by decide) (show ((26 : Int32)).toNatClampNeg < 48 by decide) (g := (mkF m 160 #[.val (.int v0), .val (.int v1), .val (.int v2), .unset, .unset] [(.int (720893 : Int32)), (.int (26 : Int32)), (.ref b3), (.ref b3)])) rfl rfl (hb hby at_160) (fun T247 h248 X249 e250 W251 A252 => ?_)
  have K253 := K244.wr W251 (Or.inr sz9)
  have N254 := Fr.snoc X249 N245 g10
  have A255 : IA Z h248 b3 [(160 : Int32), (55295 : Int32), (63744 : Int32), (64975 : Int32), (65008 : Int32), (65519 : Int32), (65535 : Int32), (65536 : Int32), (131069 : Int32), (131072 : Int32), (196605 : Int32), (196608 : Int32), (262141 : Int32), (262144 : Int32), (327677 : Int32), (327680 : Int32), (393213 : Int32), (393216 : Int32), (458749 : Int32), (458752 : Int32), (524285 : Int32), (524288 : Int32), (589821 : Int32), (589824 : Int32), (655357 : Int32), (655360 : Int32), (720893 : Int32), (0 : Int32), (0 : Int32), (0 : Int32), (0 : Int32), (0 : Int32), (0 : Int32), (0 : Int32), (0 : Int32), (0 : Int32), (0 : Int32), (0 : Int32), (0 : Int32), (0 : Int32), (0 : Int32), (0 : Int32), (0 : Int32), (0 : Int32), (0 : Int32), (0 : Int32), (0 : Int32), (0 : Int32)] := A252
  show Go p e below s _ _ _ T247 (mkF m 161 #[.val (.int v0), .val (.int v1), .val (.int v2), .unset, .unset] [(.ref b3)])
  refine go_step (T' := T247) (g' := (mkF m 162 #[.val (.int v0), .val (.int v1), .val (.int v2), .unset, .unset] [(.ref b3), (.ref b3)])) (fun t k => XS.dup X249.here hx rfl (hb hby at_161) rfl rfl k) ?_
  refine go_step (T' := T247) (g' := (mkF m 164 #[.val (.int v0), .val (.int v1), .val (.int v2), .unset, .unset] [(.int (27 : Int32)), (.ref b3), (.ref b3)])) (fun t k => XS.bipush X249.here hx rfl (hb hby at_162) k) ?_
  refine go_step (T' := T247) (g' := (mkF m 166 #[.val (.int v0), .val (.int v1), .val (.int v2), .unset, .unset] [(.int (720896 : Int32)), (.int (27 : Int32)), (.ref b3), (.ref b3)])) (X249.ldcInt hx hown (mvT hZ (hw _ (List.mem_of_getElem? (i := 27) rfl))) (g := (mkF m 164 #[.val (.int v0), .val (.int v1), .val (.int v2), .unset, .unset] [(.int (27 : Int32)), (.ref b3), (.ref b3)])) rfl (hb hby at_164)) ?_
  refine go_iastore X249 hx hZ e250 A255 (by decide) (show ((27 : Int32)).toNatClampNeg < 48 by decide) (g := (mkF m 166 #[.val (.int v0), .val (.int v1), .val (.int v2), .unset, .unset] [(.int (720896 : Int32)), (.int (27 : Int32)), (.ref b3), (.ref b3)])) rfl rfl (hb hby at_166) (fun T256 h257 X258 e259 W260 A261 => ?_)
  have K262 := K253.wr W260 (Or.inr sz9)
  have N263 := Fr.snoc X258 N254 g10
  have A264 : IA Z h257 b3 [(160 : Int32), (55295 : Int32), (63744 : Int32), (64975 : Int32), (65008 : Int32), (65519 : Int32), (65535 : Int32), (65536 : Int32), (131069 : Int32), (131072 : Int32), (196605 : Int32), (196608 : Int32), (262141 : Int32), (262144 : Int32), (327677 : Int32), (327680 : Int32), (393213 : Int32), (393216 : Int32), (458749 : Int32), (458752 : Int32), (524285 : Int32), (524288 : Int32), (589821 : Int32), (589824 : Int32), (655357 : Int32), (655360 : Int32), (720893 : Int32), (720896 : Int32), (0 : Int32), (0 : Int32), (0 : Int32), (0 : Int32), (0 : Int32), (0 : Int32), (0 : Int32), (0 : Int32), (0 : Int32), (0 : Int32), (0 : Int32), (0 : Int32), (0 : Int32), (0 : Int32), (0 : Int32), (0 : Int32), (0 : Int32), (0 : Int32), (0 : Int32), (0 : Int32)] := A261
  show Go p e below s _ _ _ T256 (mkF m 167 #[.val (.int v0), .val (.int v1), .val (.int v2), .unset, .unset] [(.ref b3)])
  refine go_step (T' := T256) (g' := (mkF m 168 #[.val (.int v0), .val (.int v1), .val (.int v2), .unset, .unset] [(.ref b3), (.ref b3)])) (fun t k => XS.dup X258.here hx rfl (hb hby at_167) rfl rfl k) ?_
  refine go_step (T' := T256) (g' := (mkF m 170 #[.val (.int v0), .val (.int v1), .val (.int v2), .unset, .unset] [(.int (28 : Int32)), (.ref b3), (.ref b3)])) (fun t k => XS.bipush X258.here hx rfl (hb hby at_168) k) ?_
  refine go_step (T' := T256) (g' := (mkF m 172 #[.val (.int v0), .val (.int v1), .val (.int v2), .unset, .unset] [(.int (786429 : Int32)), (.int (28 : Int32)), (.ref b3), (.ref b3)])) (X258.ldcInt hx hown (mvT hZ (hw _ (List.mem_of_getElem? (i := 28) rfl))) (g := (mkF m 170 #[.val (.int v0), .val (.int v1), .val (.int v2), .unset, .unset] [(.int (28 : Int32)), (.ref b3), (.ref b3)])) rfl (hb hby at_170)) ?_
  refine go_iastore X258 hx hZ e259 A264 (by decide) (show ((28 : Int32)).toNatClampNeg < 48 by decide) (g := (mkF m 172 #[.val (.int v0), .val (.int v1), .val (.int v2), .unset, .unset] [(.int (786429 : Int32)), (.int (28 : Int32)), (.ref b3), (.ref b3)])) rfl rfl (hb hby at_172) (fun T265 h266 X267 e268 W269 A270 => ?_)
  have K271 := K262.wr W269 (Or.inr sz9)
  have N272 := Fr.snoc X267 N263 g10
  have A273 : IA Z h266 b3 [(160 : Int32), (55295 : Int32), (63744 : Int32), (64975 : Int32), (65008 : Int32), (65519 : Int32), (65535 : Int32), (65536 : Int32), (131069 : Int32), (131072 : Int32), (196605 : Int32), (196608 : Int32), (262141 : Int32), (262144 : Int32), (327677 : Int32), (327680 : Int32), (393213 : Int32), (393216 : Int32), (458749 : Int32), (458752 : Int32), (524285 : Int32), (524288 : Int32), (589821 : Int32), (589824 : Int32), (655357 : Int32), (655360 : Int32), (720893 : Int32), (720896 : Int32), (786429 : Int32), (0 : Int32), (0 : Int32), (0 : Int32), (0 : Int32), (0 : Int32), (0 : Int32), (0 : Int32), (0 : Int32), (0 : Int32), (0 : Int32), (0 : Int32), (0 : Int32), (0 : Int32), (0 : Int32), (0 : Int32), (0 : Int32), (0 : Int32), (0 : Int32), (0 : Int32)] := A270
  show Go p e below s _ _ _ T265 (mkF m 173 #[.val (.int v0), .val (.int v1), .val (.int v2), .unset, .unset] [(.ref b3)])
  refine go_step (T' := T265) (g' := (mkF m 174 #[.val (.int v0), .val (.int v1), .val (.int v2), .unset, .unset] [(.ref b3), (.ref b3)])) (fun t k => XS.dup X267.here hx rfl (hb hby at_173) rfl rfl k) ?_
  refine go_step (T' := T265) (g' := (mkF m 176 #[.val (.int v0), .val (.int v1), .val (.int v2), .unset, .unset] [(.int (29 : Int32)), (.ref b3), (.ref b3)])) (fun t k => XS.bipush X267.here hx rfl (hb hby at_174) k) ?_
  refine go_step (T' := T265) (g' := (mkF m 178 #[.val (.int v0), .val (.int v1), .val (.int v2), .unset, .unset] [(.int (786432 : Int32)), (.int (29 : Int32)), (.ref b3), (.ref b3)])) (X267.ldcInt hx hown (mvT hZ (hw _ (List.mem_of_getElem? (i := 29) rfl))) (g := (mkF m 176 #[.val (.int v0), .val (.int v1), .val (.int v2), .unset, .unset] [(.int (29 : Int32)), (.ref b3), (.ref b3)])) rfl (hb hby at_176)) ?_
  refine go_iastore X267 hx hZ e268 A273 (by decide) (show ((29 : Int32)).toNatClampNeg < 48 by decide) (g := (mkF m 178 #[.val (.int v0), .val (.int v1), .val (.int v2), .unset, .unset] [(.int (786432 : Int32)), (.int (29 : Int32)), (.ref b3), (.ref b3)])) rfl rfl (hb hby at_178) (fun T274 h275 X276 e277 W278 A279 => ?_)
  have K280 := K271.wr W278 (Or.inr sz9)
  have N281 := Fr.snoc X276 N272 g10
  have A282 : IA Z h275 b3 [(160 : Int32), (55295 : Int32), (63744 : Int32), (64975 : Int32), (65008 : Int32), (65519 : Int32), (65535 : Int32), (65536 : Int32), (131069 : Int32), (131072 : Int32), (196605 : Int32), (196608 : Int32), (262141 : Int32), (262144 : Int32), (327677 : Int32), (327680 : Int32), (393213 : Int32), (393216 : Int32), (458749 : Int32), (458752 : Int32), (524285 : Int32), (524288 : Int32), (589821 : Int32), (589824 : Int32), (655357 : Int32), (655360 : Int32), (720893 : Int32), (720896 : Int32), (786429 : Int32), (786432 : Int32), (0 : Int32), (0 : Int32), (0 : Int32), (0 : Int32), (0 : Int32), (0 : Int32), (0 : Int32), (0 : Int32), (0 : Int32), (0 : Int32), (0 : Int32), (0 : Int32), (0 : Int32), (0 : Int32), (0 : Int32), (0 : Int32), (0 : Int32), (0 : Int32)] := A279
  show Go p e below s _ _ _ T274 (mkF m 179 #[.val (.int v0), .val (.int v1), .val (.int v2), .unset, .unset] [(.ref b3)])
  refine go_step (T' := T274) (g' := (mkF m 180 #[.val (.int v0), .val (.int v1), .val (.int v2), .unset, .unset] [(.ref b3), (.ref b3)])) (fun t k => XS.dup X276.here hx rfl (hb hby at_179) rfl rfl k) ?_
  refine go_step (T' := T274) (g' := (mkF m 182 #[.val (.int v0), .val (.int v1), .val (.int v2), .unset, .unset] [(.int (30 : Int32)), (.ref b3), (.ref b3)])) (fun t k => XS.bipush X276.here hx rfl (hb hby at_180) k) ?_
  refine go_step (T' := T274) (g' := (mkF m 184 #[.val (.int v0), .val (.int v1), .val (.int v2), .unset, .unset] [(.int (851965 : Int32)), (.int (30 : Int32)), (.ref b3), (.ref b3)])) (X276.ldcInt hx hown (mvT hZ (hw _ (List.mem_of_getElem? (i := 30) rfl))) (g := (mkF m 182 #[.val (.int v0), .val (.int v1), .val (.int v2), .unset, .unset] [(.int (30 : Int32)), (.ref b3), (.ref b3)])) rfl (hb hby at_182)) ?_
  refine go_iastore X276 hx hZ e277 A282 (by decide) (show ((30 : Int32)).toNatClampNeg < 48 by decide) (g := (mkF m 184 #[.val (.int v0), .val (.int v1), .val (.int v2), .unset, .unset] [(.int (851965 : Int32)), (.int (30 : Int32)), (.ref b3), (.ref b3)])) rfl rfl (hb hby at_184) (fun T283 h284 X285 e286 W287 A288 => ?_)
  have K289 := K280.wr W287 (Or.inr sz9)
  have N290 := Fr.snoc X285 N281 g10
  have A291 : IA Z h284 b3 [(160 : Int32), (55295 : Int32), (63744 : Int32), (64975 : Int32), (65008 : Int32), (65519 : Int32), (65535 : Int32), (65536 : Int32), (131069 : Int32), (131072 : Int32), (196605 : Int32), (196608 : Int32), (262141 : Int32), (262144 : Int32), (327677 : Int32), (327680 : Int32), (393213 : Int32), (393216 : Int32), (458749 : Int32), (458752 : Int32), (524285 : Int32), (524288 : Int32), (589821 : Int32), (589824 : Int32), (655357 : Int32), (655360 : Int32), (720893 : Int32), (720896 : Int32), (786429 : Int32), (786432 : Int32), (851965 : Int32), (0 : Int32), (0 : Int32), (0 : Int32), (0 : Int32), (0 : Int32), (0 : Int32), (0 : Int32), (0 : Int32), (0 : Int32), (0 : Int32), (0 : Int32), (0 : Int32), (0 : Int32), (0 : Int32), (0 : Int32), (0 : Int32), (0 : Int32)] := A288
  show Go p e below s _ _ _ T283 (mkF m 185 #[.val (.int v0), .val (.int v1), .val (.int v2), .unset, .unset] [(.ref b3)])
  refine go_step (T' := T283) (g' := (mkF m 186 #[.val (.int v0), .val (.int v1), .val (.int v2), .unset, .unset] [(.ref b3), (.ref b3)])) (fun t k => XS.dup X285.here hx rfl (hb hby at_185) rfl rfl k) ?_
  refine go_step (T' := T283) (g' := (mkF m 188 #[.val (.int v0), .val (.int v1), .val (.int v2), .unset, .unset] [(.int (31 : Int32)), (.ref b3), (.ref b3)])) (fun t k => XS.bipush X285.here hx rfl (hb hby at_186) k) ?_
  refine go_step (T' := T283) (g' := (mkF m 190 #[.val (.int v0), .val (.int v1), .val (.int v2), .unset, .unset] [(.int (851968 : Int32)), (.int (31 : Int32)), (.ref b3), (.ref b3)])) (X285.ldcInt hx hown (mvT hZ (hw _ (List.mem_of_getElem? (i := 31) rfl))) (g := (mkF m 188 #[.val (.int v0), .val (.int v1), .val (.int v2), .unset, .unset] [(.int (31 : Int32)), (.ref b3), (.ref b3)])) rfl (hb hby at_188)) ?_
  refine go_iastore X285 hx hZ e286 A291 (by decide) (show ((31 : Int32)).toNatClampNeg < 48 by decide) (g := (mkF m 190 #[.val (.int v0), .val (.int v1), .val (.int v2), .unset, .unset] [(.int (851968 : Int32)), (.int (31 : Int32)), (.ref b3), (.ref b3)])) rfl rfl (hb hby at_190) (fun T292 h293 X294 e295 W296 A297 => ?_)
  have K298 := K289.wr W296 (Or.inr sz9)
  have N299 := Fr.snoc X294 N290 g10
  have A300 : IA Z h293 b3 [(160 : Int32), (55295 : Int32), (63744 : Int32), (64975 : Int32), (65008 : Int32), (65519 : Int32), (65535 : Int32), (65536 : Int32), (131069 : Int32), (131072 : Int32), (196605 : Int32), (196608 : Int32), (262141 : Int32), (262144 : Int32), (327677 : Int32), (327680 : Int32), (393213 : Int32), (393216 : Int32), (458749 : Int32), (458752 : Int32), (524285 : Int32), (524288 : Int32), (589821 : Int32), (589824 : Int32), (655357 : Int32), (655360 : Int32), (720893 : Int32), (720896 : Int32), (786429 : Int32), (786432 : Int32), (851965 : Int32), (851968 : Int32), (0 : Int32), (0 : Int32), (0 : Int32), (0 : Int32), (0 : Int32), (0 : Int32), (0 : Int32), (0 : Int32), (0 : Int32), (0 : Int32), (0 : Int32), (0 : Int32), (0 : Int32), (0 : Int32), (0 : Int32), (0 : Int32)] := A297
  show Go p e below s _ _ _ T292 (mkF m 191 #[.val (.int v0), .val (.int v1), .val (.int v2), .unset, .unset] [(.ref b3)])
  refine go_step (T' := T292) (g' := (mkF m 192 #[.val (.int v0), .val (.int v1), .val (.int v2), .unset, .unset] [(.ref b3), (.ref b3)])) (fun t k => XS.dup X294.here hx rfl (hb hby at_191) rfl rfl k) ?_
  refine go_step (T' := T292) (g' := (mkF m 194 #[.val (.int v0), .val (.int v1), .val (.int v2), .unset, .unset] [(.int (32 : Int32)), (.ref b3), (.ref b3)])) (fun t k => XS.bipush X294.here hx rfl (hb hby at_192) k) ?_
  refine go_step (T' := T292) (g' := (mkF m 196 #[.val (.int v0), .val (.int v1), .val (.int v2), .unset, .unset] [(.int (917501 : Int32)), (.int (32 : Int32)), (.ref b3), (.ref b3)])) (X294.ldcInt hx hown (mvT hZ (hw _ (List.mem_of_getElem? (i := 32) rfl))) (g := (mkF m 194 #[.val (.int v0), .val (.int v1), .val (.int v2), .unset, .unset] [(.int (32 : Int32)), (.ref b3), (.ref b3)])) rfl (hb hby at_194)) ?_
  refine go_iastore X294 hx hZ e295 A300 (by decide) (show ((32 : Int32)).toNatClampNeg < 48 by decide) (g := (mkF m 196 #[.val (.int v0), .val (.int v1), .val (.int v2), .unset, .unset] [(.int (917501 : Int32)), (.int (32 : Int32)), (.ref b3), (.ref b3)])) rfl rfl (hb hby at_196) (fun T301 h302 X303 e304 W305 A306 => ?_)
  have K307 := K298.wr W305 (Or.inr sz9)
  have N308 := Fr.snoc X303 N299 g10
  have A309 : IA Z h302 b3 [(160 : Int32), (55295 : Int32), (63744 : Int32), (64975 : Int32), (65008 : Int32), (65519 : Int32), (65535 : Int32), (65536 : Int32), (131069 : Int32), (131072 : Int32), (196605 : Int32), (196608 : Int32), (262141 : Int32), (262144 : Int32), (327677 : Int32), (327680 : Int32), (393213 : Int32), (393216 : Int32), (458749 : Int32), (458752 : Int32), (524285 : Int32), (524288 : Int32), (589821 : Int32), (589824 : Int32), (655357 : Int32), (655360 : Int32), (720893 : Int32), (720896 : Int32), (786429 : Int32), (786432 : Int32), (851965 : Int32), (851968 : Int32), (917501 : Int32), (0 : Int32), (0 : Int32), (0 : Int32), (0 : Int32), (0 : Int32), (0 : Int32), (0 : Int32), (0 : Int32), (0 : Int32), (0 : Int32), (0 : Int32), (0 : Int32), (0 : Int32), (0 : Int32), (0 : Int32)] := A306
  show Go p e below s _ _ _ T301 (mkF m 197 #[.val (.int v0), .val (.int v1), .val (.int v2), .unset, .unset] [(.ref b3)])
  refine go_step (T' := T301) (g' := (mkF m 198 #[.val (.int v0), .val (.int v1), .val (.int v2), .unset, .unset] [(.ref b3), (.ref b3)])) (fun t k => XS.dup X303.here hx rfl (hb hby at_197) rfl rfl k) ?_
  refine go_step (T' := T301) (g' := (mkF m 200 #[.val (.int v0), .val (.int v1), .val (.int v2), .unset, .unset] [(.int (33 : Int32)), (.ref b3), (.ref b3)])) (fun t k => XS.bipush X303.here hx rfl (hb hby at_198) k) ?_
  refine go_step (T' := T301) (g' := (mkF m 202 #[.val (.int v0), .val (.int v1), .val (.int v2), .unset, .unset] [(.int (917504 : Int32)), (.int (33 : Int32)), (.ref b3), (.ref b3)])) (X303.ldcInt hx hown (mvT hZ (hw _ (List.mem_of_getElem? (i := 33) rfl))) (g := (mkF m 200 #[.val (.int v0), .val (.int v1), .val (.int v2), .unset, .unset] [(.int (33 : Int32)), (.ref b3), (.ref b3)])) rfl (hb hby at_200)) ?_
  refine go_iastore X303 hx hZ e304 A309 (by decide) (show ((33 : Int32)).toNatClampNeg < 48 by decide) (g := (mkF m 202 #[.val (.int v0), .val (.int v1), .val (.int v2), .unset, .unset] [(.int (917504 : Int32)), (.int (33 : Int32)), (.ref b3), (.ref b3)])) rfl rfl (hb hby at_202) (fun T310 h311 X312 e313 W314 A315 => ?_)
  have K316 := K307.wr W314 (Or.inr sz9)
  have N317 := Fr.snoc X312 N308 g10
  have A318 : IA Z h311 b3 [(160 : Int32), (55295 : Int32), (63744 : Int32), (64975 : Int32), (65008 : Int32), (65519 : Int32), (65535 : Int32), (65536 : Int32), (131069 : Int32), (131072 : Int32), (196605 : Int32), (196608 : Int32), (262141 : Int32), (262144 : Int32), (327677 : Int32), (327680 : Int32), (393213 : Int32), (393216 : Int32), (458749 : Int32), (458752 : Int32), (524285 : Int32), (524288 : Int32), (589821 : Int32), (589824 : Int32), (655357 : Int32), (655360 : Int32), (720893 : Int32), (720896 : Int32), (786429 : Int32), (786432 : Int32), (851965 : Int32), (851968 : Int32), (917501 : Int32), (917504 : Int32), (0 : Int32), (0 : Int32), (0 : Int32), (0 : Int32), (0 : Int32), (0 : Int32), (0 : Int32), (0 : Int32), (0 : Int32), (0 : Int32), (0 : Int32), (0 : Int32), (0 : Int32), (0 : Int32)] := A315
  show Go p e below s _ _ _ T310 (mkF m 203 #[.val (.int v0), .val (.int v1), .val (.int v2), .unset, .unset] [(.ref b3)])
  refine go_step (T' := T310) (g' := (mkF m 204 #[.val (.int v0), .val (.int v1), .val (.int v2), .unset, .unset] [(.ref b3), (.ref b3)])) (fun t k => XS.dup X312.here hx rfl (hb hby at_203) rfl rfl k) ?_
  refine go_step (T' := T310) (g' := (mkF m 206 #[.val (.int v0), .val (.int v1), .val (.int v2), .unset, .unset] [(.int (34 : Int32)), (.ref b3), (.ref b3)])) (fun t k => XS.bipush X312.here hx rfl (hb hby at_204) k) ?_
  refine go_step (T' := T310) (g' := (mkF m 208 #[.val (.int v0), .val (.int v1), .val (.int v2), .unset, .unset] [(.int (921599 : Int32)), (.int (34 : Int32)), (.ref b3), (.ref b3)])) (X312.ldcInt hx hown (mvT hZ (hw _ (List.mem_of_getElem? (i := 34) rfl))) (g := (mkF m 206 #[.val (.int v0), .val (.int v1), .val (.int v2), .unset, .unset] [(.int (34 : Int32)), (.ref b3), (.ref b3)])) rfl (hb hby at_206)) ?_
  refine go_iastore X312 hx hZ e313 A318 (by decide) (show ((34 : Int32)).toNatClampNeg < 48 by decide) (g := (mkF m 208 #[.val (.int v0), .val (.int v1), .val (.int v2), .unset, .unset] [(.int (921599 : Int32)), (.int (34 : Int32)), (.ref b3), (.ref b3)])) rfl rfl (hb hby at_208) (fun T319 h320 X321 e322 W323 A324 => ?_)
  have K325 := K316.wr W323 (Or.inr sz9)
  have N326 := Fr.snoc X321 N317 g10
  have A327 : IA Z h320 b3 [(160 : Int32), (55295 : Int32), (63744 : Int32), (64975 : Int32), (65008 : Int32), (65519 : Int32), (65535 : Int32), (65536 : Int32), (131069 : Int32), (131072 : Int32), (196605 : Int32), (196608 : Int32), (262141 : Int32), (262144 : Int32), (327677 : Int32), (327680 : Int32), (393213 : Int32), (393216 : Int32), (458749 : Int32), (458752 : Int32), (524285 : Int32), (524288 : Int32), (589821 : Int32), (589824 : Int32), (655357 : Int32), (655360 : Int32), (720893 : Int32), (720896 : Int32), (786429 : Int32), (786432 : Int32), (851965 : Int32), (851968 : Int32), (917501 : Int32), (917504 : Int32), (921599 : Int32), (0 : Int32), (0 : Int32), (0 : Int32), (0 : Int32), (0 : Int32), (0 : Int32), (0 : Int32), (0 : Int32), (0 : Int32), (0 : Int32), (0 : Int32), (0 : Int32), (0 : Int32)] := A324
  show Go p e below s _ _ _ T319 (mkF m 209 #[.val (.int v0), .val (.int v1), .val (.int v2), .unset, .unset] [(.ref b3)])
  refine go_step (T' := T319) (g' := (mkF m 210 #[.val (.int v0), .val (.int v1), .val (.int v2), .unset, .unset] [(.ref b3), (.ref b3)])) (fun t k => XS.dup X321.here hx rfl (hb hby at_209) rfl rfl k) ?_
  refine go_step (T' := T319) (g' := (mkF m 212 #[.val (.int v0), .val (.int v1), .val (.int v2), .unset, .unset] [(.int (35 : Int32)), (.ref b3), (.ref b3)])) (fun t k => XS.bipush X321.here hx rfl (hb hby at_210) k) ?_
  refine go_step (T' := T319) (g' := (mkF m 214 #[.val (.int v0), .val (.int v1), .val (.int v2), .unset, .unset] [(.int (921600 : Int32)), (.int (35 : Int32)), (.ref b3), (.ref b3)])) (X321.ldcInt hx hown (mvT hZ (hw _ (List.mem_of_getElem? (i := 35) rfl))) (g := (mkF m 212 #[.val (.int v0), .val (.int v1), .val (.int v2), .unset, .unset] [(.int (35 : Int32)), (.ref b3), (.ref b3)])) rfl (hb hby at_212)) ?_
  refine go_iastore X321 hx hZ e322 A327 (by decide) (show ((35 : Int32)).toNatClampNeg < 48 by decide) (g := (mkF m 214 #[.val (.int v0), .val (.int v1), .val (.int v2), .unset, .unset] [(.int (921600 : Int32)), (.int (35 : Int32)), (.ref b3), (.ref b3)])) rfl rfl (hb hby at_214) (fun T328 h329 X330 e331 W332 A333 => ?_)
  have K334 := K325.wr W332 (Or.inr sz9)
  have N335 := Fr.snoc X330 N326 g10
  have A336 : IA Z h329 b3 [(160 : Int32), (55295 : Int32), (63744 : Int32), (64975 : Int32), (65008 : Int32), (65519 : Int32), (65535 : Int32), (65536 : Int32), (131069 : Int32), (131072 : Int32), (196605 : Int32), (196608 : Int32), (262141 : Int32), (262144 : Int32), (327677 : Int32), (327680 : Int32), (393213 : Int32), (393216 : Int32), (458749 : Int32), (458752 : Int32), (524285 : Int32), (524288 : Int32), (589821 : Int32), (589824 : Int32), (655357 : Int32), (655360 : Int32), (720893 : Int32), (720896 : Int32), (786429 : Int32), (786432 : Int32), (851965 : Int32), (851968 : Int32), (917501 : Int32), (917504 : Int32), (921599 : Int32), (921600 : Int32), (0 : Int32), (0 : Int32), (0 : Int32), (0 : Int32), (0 : Int32), (0 : Int32), (0 : Int32), (0 : Int32), (0 : Int32), (0 : Int32), (0 : Int32), (0 : Int32)] := A333
  show Go p e below s _ _ _ T328 (mkF m 215 #[.val (.int v0), .val (.int v1), .val (.int v2), .unset, .unset] [(.ref b3)])
  refine go_step (T' := T328) (g' := (mkF m 216 #[.val (.int v0), .val (.int v1), .val (.int v2), .unset, .unset] [(.ref b3), (.ref b3)])) (fun t k => XS.dup X330.here hx rfl (hb hby at_215) rfl rfl k) ?_
  refine go_step (T' := T328) (g' := (mkF m 218 #[.val (.int v0), .val (.int v1), .val (.int v2), .unset, .unset] [(.int (36 : Int32)), (.ref b3), (.ref b3)])) (fun t k => XS.bipush X330.here hx rfl (hb hby at_216) k) ?_
  refine go_step (T' := T328) (g' := (mkF m 220 #[.val (.int v0), .val (.int v1), .val (.int v2), .unset, .unset] [(.int (983037 : Int32)), (.int (36 : Int32)), (.ref b3), (.ref b3)])) (X330.ldcInt hx hown (mvT hZ (hw _ (List.mem_of_getElem? (i := 36) rfl))) (g := (mkF m 218 #[.val (.int v0), .val (.int v1), .val (.int v2), .unset, .unset] [(.int (36 : Int32)), (.ref b3), (.ref b3)])) rfl (hb hby at_218)) ?_
  refine go_iastore X330 hx hZ e331 A336 (by decide) (show ((36 : Int32)).toNatClampNeg < 48 by decide) (g := (mkF m 220 #[.val (.int v0), .val (.int v1), .val (.int v2), .unset, .unset] [(.int (983037 : Int32)), (.int (36 : Int32)), (.ref b3), (.ref b3)])) rfl rfl (hb hby at_220) (fun T337 h338 X339 e340 W341 A342 => ?_)
  have K343 := K334.wr W341 (Or.inr sz9)
  have N344 := Fr.snoc X339 N335 g10
  have A345 : IA Z h338 b3 [(160 : Int32), (55295 : Int32), (63744 : Int32), (64975 : Int32), (65008 : Int32), (65519 : Int32), (65535 : Int32), (65536 : Int32), (131069 : Int32), (131072 : Int32), (196605 : Int32), (196608 : Int32), (262141 : Int32), (262144 : Int32), (327677 : Int32), (327680 : Int32), (393213 : Int32), (393216 : Int32), (458749 : Int32), (458752 : Int32), (524285 : Int32), (524288 : Int32), (589821 : Int32), (589824 : Int32), (655357 : Int32), (655360 : Int32), (720893 : Int32), (720896 : Int32), (786429 : Int32), (786432 : Int32), (851965 : Int32), (851968 : Int32), (917501 : Int32), (917504 : Int32), (921599 : Int32), (921600 : Int32), (983037 : Int32), (0 : Int32), (0 : Int32), (0 : Int32), (0 : Int32), (0 : Int32), (0 : Int32), (0 : Int32), (0 : Int32), (0 : Int32), (0 : Int32), (0 : Int32)] := A342
  show Go p e below s _ _ _ T337 (mkF m 221 #[.val (.int v0), .val (.int v1), .val (.int v2), .unset, .unset] [(.ref b3)])
  refine go_step (T' := T337) (g' := (mkF m 222 #[.val (.int v0), .val (.int v1), .val (.int v2), .unset, .unset] [(.ref b3), (.ref b3)])) (fun t k => XS.dup X339.here hx rfl (hb hby at_221) rfl rfl k) ?_
  refine go_step (T' := T337) (g' := (mkF m 224 #[.val (.int v0), .val (.int v1), .val (.int v2), .unset, .unset] [(.int (37 : Int32)), (.ref b3), (.ref b3)])) (fun t k => XS.bipush X339.here hx rfl (hb hby at_222) k) ?_
  refine go_step (T' := T337) (g' := (mkF m 226 #[.val (.int v0), .val (.int v1), .val (.int v2), .unset, .unset] [(.int (983040 : Int32)), (.int (37 : Int32)), (.ref b3), (.ref b3)])) (X339.ldcInt hx hown (mvT hZ (hw _ (List.mem_of_getElem? (i := 37) rfl))) (g := (mkF m 224 #[.val (.int v0), .val (.int v1), .val (.int v2), .unset, .unset] [(.int (37 : Int32)), (.ref b3), (.ref b3)])) rfl (hb hby at_224)) ?_
  refine go_iastore X339 hx hZ e340 A345 (by decide) (show ((37 : Int32)).toNatClampNeg < 48 by decide) (g := (mkF m 226 #[.val (.int v0), .val (.int v1), .val (.int v2), .unset, .unset] [(.int (983040 : Int32)), (.int (37 : Int32)), (.ref b3), (.ref b3)])) rfl rfl (hb hby at_226) (fun T346 h347 X348 e349 W350 A351 => ?_)
  have K352 := K343.wr W350 (Or.inr sz9)
  have N353 := Fr.snoc X348 N344 g10
  have A354 : IA Z h347 b3 [(160 : Int32), (55295 : Int32), (63744 : Int32), (64975 : Int32), (65008 : Int32), (65519 : Int32), (65535 : Int32), (65536 : Int32), (131069 : Int32), (131072 : Int32), (196605 : Int32), (196608 : Int32), (262141 : Int32), (262144 : Int32), (327677 : Int32), (327680 : Int32), (393213 : Int32), (393216 : Int32), (458749 : Int32), (458752 : Int32), (524285 : Int32), (524288 : Int32), (589821 : Int32), (589824 : Int32), (655357 : Int32), (655360 : Int32), (720893 : Int32), (720896 : Int32), (786429 : Int32), (786432 : Int32), (851965 : Int32), (851968 : Int32), (917501 : Int32), (917504 : Int32), (921599 : Int32), (921600 : Int32), (983037 : Int32), (983040 : Int32), (0 : Int32), (0 : Int32), (0 : Int32), (0 : Int32), (0 : Int32), (0 : Int32), (0 : Int32), (0 : Int32), (0 : Int32), (0 : Int32)] := A351
  show Go p e below s _ _ _ T346 (mkF m 227 #[.val (.int v0), .val (.int v1), .val (.int v2), .unset, .unset] [(.ref b3)])
  refine go_step (T' := T346) (g' := (mkF m 228 #[.val (.int v0), .val (.int v1), .val (.int v2), .unset, .unset] [(.ref b3), (.ref b3)])) (fun t k => XS.dup X348.here hx rfl (hb hby at_227) rfl rfl k) ?_
  refine go_step (T' := T346) (g' := (mkF m 230 #[.val (.int v0), .val (.int v1), .val (.int v2), .unset, .unset] [(.int (38 : Int32)), (.ref b3), (.ref b3)])) (fun t k => XS.bipush X348.here hx rfl (hb hby at_228) k) ?_
  refine go_step (T' := T346) (g' := (mkF m 232 #[.val (.int v0), .val (.int v1), .val (.int v2), .unset, .unset] [(.int (1114109 : Int32)), (.int (38 : Int32)), (.ref b3), (.ref b3)])) (X348.ldcInt hx hown (mvT hZ (hw _ (List.mem_of_getElem? (i := 38) rfl))) (g := (mkF m 230 #[.val (.int v0), .val (.int v1), .val (.int v2), .unset, .unset] [(.int (38 : Int32)), (.ref b3), (.ref b3)])) rfl (hb hby at_230)) ?_
  refine go_iastore X348 hx hZ e349 A354 (by decide) (show ((38 : Int32)).toNatClampNeg < 48 by decide) (g := (mkF m 232 #[.val (.int v0), .val (.int v1), .val (.int v2), .unset, .unset] [(.int (1114109 : Int32)), (.int (38 : Int32)), (.ref b3), (.ref b3)])) rfl rfl (hb hby at_232) (fun T355 h356 X357 e358 W359 A360 => ?_)
  have K361 := K352.wr W359 (Or.inr sz9)
  have N362 := Fr.snoc X357 N353 g10
  have A363 : IA Z h356 b3 [(160 : Int32), (55295 : Int32), (63744 : Int32), (64975 : Int32), (65008 : Int32), (65519 : Int32), (65535 : Int32), (65536 : Int32), (131069 : Int32), (131072 : Int32), (196605 : Int32), (196608 : Int32), (262141 : Int32), (262144 : Int32), (327677 : Int32), (327680 : Int32), (393213 : Int32), (393216 : Int32), (458749 : Int32), (458752 : Int32), (524285 : Int32), (524288 : Int32), (589821 : Int32), (589824 : Int32), (655357 : Int32), (655360 : Int32), (720893 : Int32), (720896 : Int32), (786429 : Int32), (786432 : Int32), (851965 : Int32), (851968 : Int32), (917501 : Int32), (917504 : Int32), (921599 : Int32), (921600 : Int32), (983037 : Int32), (983040 : Int32), (1114109 : Int32), (0 : Int32), (0 : Int32), (0 : Int32), (0 : Int32), (0 : Int32), (0 : Int32), (0 : Int32), (0 : Int32), (0 : Int32)] := A360
  show Go p e below s _ _ _ T355 (mkF m 233 #[.val (.int v0), .val (.int v1), .val (.int v2), .unset, .unset] [(.ref b3)])
  refine go_step (T' := T355) (g' := (mkF m 234 #[.val (.int v0), .val (.int v1), .val (.int v2), .unset, .unset] [(.ref b3), (.ref b3)])) (fun t k => XS.dup X357.here hx rfl (hb hby at_233) rfl rfl k) ?_
  refine go_step (T' := T355) (g' := (mkF m 236 #[.val (.int v0), .val (.int v1), .val (.int v2), .unset, .unset] [(.int (39 : Int32)), (.ref b3), (.ref b3)])) (fun t k => XS.bipush X357.here hx rfl (hb hby at_234) k) ?_
  refine go_step (T' := T355) (g' := (mkF m 238 #[.val (.int v0), .val (.int v1), .val (.int v2), .unset, .unset] [(.int (1114111 : Int32)), (.int (39 : Int32)), (.ref b3), (.ref b3)])) (X357.ldcInt hx hown (mvT hZ (hw _ (List.mem_of_getElem? (i := 39) rfl))) (g := (mkF m 236 #[.val (.int v0), .val (.int v1), .val (.int v2), .unset, .unset] [(.int (39 : Int32)), (.ref b3), (.ref b3)])) rfl (hb hby at_236)) ?_
  refine go_iastore X357 hx hZ e358 A363 (by decide) (show ((39 : Int32)).toNatClampNeg < 48 by decide) (g := (mkF m 238 #[.val (.int v0), .val (.int v1), .val (.int v2), .unset, .unset] [(.int (1114111 : Int32)), (.int (39 : Int32)), (.ref b3), (.ref b3)])) rfl rfl (hb hby at_238) (fun T364 h365 X366 e367 W368 A369 => ?_)
  have K370 := K361.wr W368 (Or.inr sz9)
  have N371 := Fr.snoc X366 N362 g10
  have A372 : IA Z h365 b3 [(160 : Int32), (55295 : Int32), (63744 : Int32), (64975 : Int32), (65008 : Int32), (65519 : Int32), (65535 : Int32), (65536 : Int32), (131069 : Int32), (131072 : Int32), (196605 : Int32), (196608 : Int32), (262141 : Int32), (262144 : Int32), (327677 : Int32), (327680 : Int32), (393213 : Int32), (393216 : Int32), (458749 : Int32), (458752 : Int32), (524285 : Int32), (524288 : Int32), (589821 : Int32), (589824 : Int32), (655357 : Int32), (655360 : Int32), (720893 : Int32), (720896 : Int32), (786429 : Int32), (786432 : Int32), (851965 : Int32), (851968 : Int32), (917501 : Int32), (917504 : Int32), (921599 : Int32), (921600 : Int32), (983037 : Int32), (983040 : Int32), (1114109 : Int32), (1114111 : Int32), (0 : Int32), (0 : Int32), (0 : Int32), (0 : Int32), (0 : Int32), (0 : Int32), (0 : Int32), (0 : Int32)] := A369
  show Go p e below s _ _ _ T364 (mkF m 239 #[.val (.int v0), .val (.int v1), .val (.int v2), .unset, .unset] [(.ref b3)])
  refine go_step (T' := T364) (g' := (mkF m 240 #[.val (.int v0), .val (.int v1), .val (.int v2), .unset, .unset] [(.ref b3), (.ref b3)])) (fun t k => XS.dup X366.here hx rfl (hb hby at_239) rfl rfl k) ?_
  refine go_step (T' := T364) (g' := (mkF m 242 #[.val (.int v0), .val (.int v1), .val (.int v2), .unset, .unset] [(.int (40 : Int32)), (.ref b3), (.ref b3)])) (fun t k => XS.bipush X366.here hx rfl (hb hby at_240) k) ?_
  refine go_step (T' := T364) (g' := (mkF m 244 #[.val (.int v0), .val (.int v1), .val (.int v2), .unset, .unset] [(.int (1114112 : Int32)), (.int (40 : Int32)), (.ref b3), (.ref b3)])) (X366.ldcInt hx hown (mvT hZ (hw _ (List.mem_of_getElem? (i := 40) rfl))) (g := (mkF m 242 #[.val (.int v0), .val (.int v1), .val (.int v2), .unset, .unset] [(.int (40 : Int32)), (.ref b3), (.ref b3)])) rfl (hb hby at_242)) ?_
  refine go_iastore X366 hx hZ e367 A372 (by decide) (show ((40 : Int32)).toNatClampNeg < 48 by decide) (g := (mkF m 244 #[.val (.int v0), .val (.int v1), .val (.int v2), .unset, .unset] [(.int (1114112 : Int32)), (.int (40 : Int32)), (.ref b3), (.ref b3)])) rfl rfl (hb hby at_244) (fun T373 h374 X375 e376 W377 A378 => ?_)
  have K379 := K370.wr W377 (Or.inr sz9)
  have N380 := Fr.snoc X375 N371 g10
  have A381 : IA Z h374 b3 [(160 : Int32), (55295 : Int32), (63744 : Int32), (64975 : Int32), (65008 : Int32), (65519 : Int32), (65535 : Int32), (65536 : Int32), (131069 : Int32), (131072 : Int32), (196605 : Int32), (196608 : Int32), (262141 : Int32), (262144 : Int32), (327677 : Int32), (327680 : Int32), (393213 : Int32), (393216 : Int32), (458749 : Int32), (458752 : Int32), (524285 : Int32), (524288 : Int32), (589821 : Int32), (589824 : Int32), (655357 : Int32), (655360 : Int32), (720893 : Int32), (720896 : Int32), (786429 : Int32), (786432 : Int32), (851965 : Int32), (851968 : Int32), (917501 : Int32), (917504 : Int32), (921599 : Int32), (921600 : Int32), (983037 : Int32), (983040 : Int32), (1114109 : Int32), (1114111 : Int32), (1114112 : Int32), (0 : Int32), (0 : Int32), (0 : Int32), (0 : Int32), (0 : Int32), (0 : Int32), (0 : Int32)] := A378
  show Go p e below s _ _ _ T373 (mkF m 245 #[.val (.int v0), .val (.int v1), .val (.int v2), .unset, .unset] [(.ref b3)])
  refine go_step (T' := T373) (g' := (mkF m 246 #[.val (.int v0), .val (.int v1), .val (.int v2), .unset, .unset] [(.ref b3), (.ref b3)])) (fun t k => XS.dup X375.here hx rfl (hb hby at_245) rfl rfl k) ?_
  refine go_step (T' := T373) (g' := (mkF m 248 #[.val (.int v0), .val (.int v1), .val (.int v2), .unset, .unset] [(.int (41 : Int32)), (.ref b3), (.ref b3)])) (fun t k => XS.bipush X375.here hx rfl (hb hby at_246) k) ?_
  refine go_step (T' := T373) (g' := (mkF m 249 #[.val (.int v0), .val (.int v1), .val (.int v2), .unset, .unset] [(.int (0 : Int32)), (.int (41 : Int32)), (.ref b3), (.ref b3)])) (fun t k => XS.iconst X375.here hx rfl (hb hby at_248) k) ?_
  refine go_iastore X375 hx hZ e376 A381 (by decide) (show ((41 : Int32)).toNatClampNeg < 48 by decide) (g := (mkF m 249 #[.val (.int v0), .val (.int v1), .val (.int v2), .unset, .unset] [(.int (0 : Int32)), (.int (41 : Int32)), (.ref b3), (.ref b3)])) rfl rfl (hb hby at_249) (fun T382 h383 X384 e385 W386 A387 => ?_)
  have K388 := K379.wr W386 (Or.inr sz9)
  have N389 := Fr.snoc X384 N380 g10
  have A390 : IA Z h383 b3 [(160 : Int32), (55295 : Int32), (63744 : Int32), (64975 : Int32), (65008 : Int32), (65519 : Int32), (65535 : Int32), (65536 : Int32), (131069 : Int32), (131072 : Int32), (196605 : Int32), (196608 : Int32), (262141 : Int32), (262144 : Int32), (327677 : Int32), (327680 : Int32), (393213 : Int32), (393216 : Int32), (458749 : Int32), (458752 : Int32), (524285 : Int32), (524288 : Int32), (589821 : Int32), (589824 : Int32), (655357 : Int32), (655360 : Int32), (720893 : Int32), (720896 : Int32), (786429 : Int32), (786432 : Int32), (851965 : Int32), (851968 : Int32), (917501 : Int32), (917504 : Int32), (921599 : Int32), (921600 : Int32), (983037 : Int32), (983040 : Int32), (1114109 : Int32), (1114111 : Int32), (1114112 : Int32), (0 : Int32), (0 : Int32), (0 : Int32), (0 : Int32), (0 : Int32), (0 : Int32), (0 : Int32)] := A387
  show Go p e below s _ _ _ T382 (mkF m 250 #[.val (.int v0), .val (.int v1), .val (.int v2), .unset, .unset] [(.ref b3)])
  refine go_step (T' := T382) (g' := (mkF m 251 #[.val (.int v0), .val (.int v1), .val (.int v2), .unset, .unset] [(.ref b3), (.ref b3)])) (fun t k => XS.dup X384.here hx rfl (hb hby at_250) rfl rfl k) ?_
  refine go_step (T' := T382) (g' := (mkF m 253 #[.val (.int v0), .val (.int v1), .val (.int v2), .unset, .unset] [(.int (42 : Int32)), (.ref b3), (.ref b3)])) (fun t k => XS.bipush X384.here hx rfl (hb hby at_251) k) ?_
  refine go_step (T' := T382) (g' := (mkF m 255 #[.val (.int v0), .val (.int v1), .val (.int v2), .unset, .unset] [(.int (55296 : Int32)), (.int (42 : Int32)), (.ref b3), (.ref b3)])) (X384.ldcInt hx hown (mvT hZ (hw _ (List.mem_of_getElem? (i := 41) rfl))) (g := (mkF m 253 #[.val (.int v0), .val (.int v1), .val (.int v2), .unset, .unset] [(.int (42 : Int32)), (.ref b3), (.ref b3)])) rfl (hb hby at_253)) ?_
  refine go_iastore X384 hx hZ e385 A390 (by decide) (show ((42 : Int32)).toNatClampNeg < 48 by decide) (g := (mkF m 255 #[.val (.int v0), .val (.int v1), .val (.int v2), .unset, .unset] [(.int (55296 : Int32)), (.int (42 : Int32)), (.ref b3), (.ref b3)])) rfl rfl (hb hby at_255) (fun T391 h392 X393 e394 W395 A396 => ?_)
  have K397 := K388.wr W395 (Or.inr sz9)
  have N398 := Fr.snoc X393 N389 g10
  have A399 : IA Z h392 b3 [(160 : Int32), (55295 : Int32), (63744 : Int32), (64975 : Int32), (65008 : Int32), (65519 : Int32), (65535 : Int32), (65536 : Int32), (131069 : Int32), (131072 : Int32), (196605 : Int32), (196608 : Int32), (262141 : Int32), (262144 : Int32), (327677 : Int32), (327680 : Int32), (393213 : Int32), (393216 : Int32), (458749 : Int32), (458752 : Int32), (524285 : Int32), (524288 : Int32), (589821 : Int32), (589824 : Int32), (655357 : Int32), (655360 : Int32), (720893 : Int32), (720896 : Int32), (786429 : Int32), (786432 : Int32), (851965 : Int32), (851968 : Int32), (917501 : Int32), (917504 : Int32), (921599 : Int32), (921600 : Int32), (983037 : Int32), (983040 : Int32), (1114109 : Int32), (1114111 : Int32), (1114112 : Int32), (0 : Int32), (55296 : Int32), (0 : Int32), (0 : Int32), (0 : Int32), (0 : Int32), (0 : Int32)] := A396
  show Go p e below s _ _ _ T391 (mkF m 256 #[.val (.int v0), .val (.int v1), .val (.int v2), .unset, .unset] [(.ref b3)])
  refine go_step (T' := T391) (g' := (mkF m 257 #[.val (.int v0), .val (.int v1), .val (.int v2), .unset, .unset] [(.ref b3), (.ref b3)])) (fun t k => XS.dup X393.here hx rfl (hb hby at_256) rfl rfl k) ?_
  refine go_step (T' := T391) (g' := (mkF m 259 #[.val (.int v0), .val (.int v1), .val (.int v2), .unset, .unset] [(.int (43 : Int32)), (.ref b3), (.ref b3)])) (fun t k => XS.bipush X393.here hx rfl (hb hby at_257) k) ?_
  refine go_step (T' := T391) (g' := (mkF m 261 #[.val (.int v0), .val (.int v1), .val (.int v2), .unset, .unset] [(.int (57344 : Int32)), (.int (43 : Int32)), (.ref b3), (.ref b3)])) (X393.ldcInt hx hown (mvT hZ (hw _ (List.mem_of_getElem? (i := 42) rfl))) (g := (mkF m 259 #[.val (.int v0), .val (.int v1), .val (.int v2), .unset, .unset] [(.int (43 : Int32)), (.ref b3), (.ref b3)])) rfl (hb hby at_259)) ?_
  refine go_iastore X393 hx hZ e394 A399 (by decide) (show ((43 : Int32)).toNatClampNeg < 48 by decide) (g := (mkF m 261 #[.val (.int v0), .val (.int v1), .val (.int v2), .unset, .unset] [(.int (57344 : Int32)), (.int (43 : Int32)), (.ref b3), (.ref b3)])) rfl rfl (hb hby at_261) (fun T400 h401 X402 e403 W404 A405 => ?_)
  have K406 := K397.wr W404 (Or.inr sz9)
  have N407 := Fr.snoc X402 N398 g10
  have A408 : IA Z h401 b3 [(160 : Int32), (55295 : Int32), (63744 : Int32), (64975 : Int32), (65008 : Int32), (65519 : Int32), (65535 : Int32), (65536 : Int32), (131069 : Int32), (131072 : Int32), (196605 : Int32), (196608 : Int32), (262141 : Int32), (262144 : Int32), (327677 : Int32), (327680 : Int32), (393213 : Int32), (393216 : Int32), (458749 : Int32), (458752 : Int32), (524285 : Int32), (524288 : Int32), (589821 : Int32), (589824 : Int32), (655357 : Int32), (655360 : Int32), (720893 : Int32), (720896 : Int32), (786429 : Int32), (786432 : Int32), (851965 : Int32), (851968 : Int32), (917501 : Int32), (917504 : Int32), (921599 : Int32), (921600 : Int32), (983037 : Int32), (983040 : Int32), (1114109 : Int32), (1114111 : Int32), (1114112 : Int32), (0 : Int32), (55296 : Int32), (57344 : Int32), (0 : Int32), (0 : Int32), (0 : Int32), (0 : Int32)] := A405
  show Go p e below s _ _ _ T400 (mkF m 262 #[.val (.int v0), .val (.int v1), .val (.int v2), .unset, .unset] [(.ref b3)])
  refine go_step (T' := T400) (g' := (mkF m 263 #[.val (.int v0), .val (.int v1), .val (.int v2), .unset, .unset] [(.ref b3), (.ref b3)])) (fun t k => XS.dup X402.here hx rfl (hb hby at_262) rfl rfl k) ?_
  refine go_step (T' := T400) (g' := (mkF m 265 #[.val (.int v0), .val (.int v1), .val (.int v2), .unset, .unset] [(.int (44 : Int32)), (.ref b3), (.ref b3)])) (fun t k => XS.bipush X402.here hx rfl (hb hby at_263) k) ?_
  refine go_step (T' := T400) (g' := (mkF m 267 #[.val (.int v0), .val (.int v1), .val (.int v2), .unset, .unset] [(.int (-2147483648 : Int32)), (.int (44 : Int32)), (.ref b3), (.ref b3)])) (X402.ldcInt hx hown (mvT hZ (hw _ (List.mem_of_getElem? (i := 43) rfl))) (g := (mkF m 265 #[.val (.int v0), .val (.int v1), .val (.int v2), .unset, .unset] [(.int (44 : Int32)), (.ref b3), (.ref b3)])) rfl (hb hby at_265)) ?_
  refine go_iastore X402 hx hZ e403 A408 (by decide) (show ((44 : Int32)).toNatClampNeg < 48 by decide) (g := (mkF m 267 #[.val (.int v0), .val (.int v1), .val (.int v2), .unset, .unset] [(.int (-2147483648 : Int32)), (.int (44 : Int32)), (.ref b3), (.ref b3)])) rfl rfl (hb hby at_267) (fun T409 h410 X411 e412 W413 A414 => ?_)
  have K415 := K406.wr W413 (Or.inr sz9)
  have N416 := Fr.snoc X411 N407 g10
  have A417 : IA Z h410 b3 [(160 : Int32), (55295 : Int32), (63744 : Int32), (64975 : Int32), (65008 : Int32), (65519 : Int32), (65535 : Int32), (65536 : Int32), (131069 : Int32), (131072 : Int32), (196605 : Int32), (196608 : Int32), (262141 : Int32), (262144 : Int32), (327677 : Int32), (327680 : Int32), (393213 : Int32), (393216 : Int32), (458749 : Int32), (458752 : Int32), (524285 : Int32), (524288 : Int32), (589821 : Int32), (589824 : Int32), (655357 : Int32), (655360 : Int32), (720893 : Int32), (720896 : Int32), (786429 : Int32), (786432 : Int32), (851965 : Int32), (851968 : Int32), (917501 : Int32), (917504 : Int32), (921599 : Int32), (921600 : Int32), (983037 : Int32), (983040 : Int32), (1114109 : Int32), (1114111 : Int32), (1114112 : Int32), (0 : Int32), (55296 : Int32), (57344 : Int32), (-2147483648 : Int32), (0 : Int32), (0 : Int32), (0 : Int32)] := A414
  show Go p e below s _ _ _ T409 (mkF m 268 #[.val (.int v0), .val (.int v1), .val (.int v2), .unset, .unset] [(.ref b3)])
  refine go_step (T' := T409) (g' := (mkF m 269 #[.val (.int v0), .val (.int v1), .val (.int v2), .unset, .unset] [(.ref b3), (.ref b3)])) (fun t k => XS.dup X411.here hx rfl (hb hby at_268) rfl rfl k) ?_
  refine go_step (T' := T409) (g' := (mkF m 271 #[.val (.int v0), .val (.int v1), .val (.int v2), .unset, .unset] [(.int (45 : Int32)), (.ref b3), (.ref b3)])) (fun t k => XS.bipush X411.here hx rfl (hb hby at_269) k) ?_
  refine go_step (T' := T409) (g' := (mkF m 273 #[.val (.int v0), .val (.int v1), .val (.int v2), .unset, .unset] [(.int (2147483647 : Int32)), (.int (45 : Int32)), (.ref b3), (.ref b3)])) (X411.ldcInt hx hown (mvT hZ (hw _ (List.mem_of_getElem? (i := 44) rfl))) (g := (mkF m 271 #[.val (.int v0), .val (.int v1), .val (.int v2), .unset, .unset] [(.int (45 : Int32)), (.ref b3), (.ref b3)])) rfl (hb hby at_271)) ?_
  refine go_iastore X411 hx hZ e412 A417 (by decide) (show ((45 : Int32)).toNatClampNeg < 48 by decide) (g := (mkF m 273 #[.val (.int v0), .val (.int v1), .val (.int v2), .unset, .unset] [(.int (2147483647 : Int32)), (.int (45 : Int32)), (.ref b3), (.ref b3)])) rfl rfl (hb hby at_273) (fun T418 h419 X420 e421 W422 A423 => ?_)
  have K424 := K415.wr W422 (Or.inr sz9)
  have N425 := Fr.snoc X420 N416 g10
  have A426 : IA Z h419 b3 [(160 : Int32), (55295 : Int32), (63744 : Int32), (64975 : Int32), (65008 : Int32), (65519 : Int32), (65535 : Int32), (65536 : Int32), (131069 : Int32), (131072 : Int32), (196605 : Int32), (196608 : Int32), (262141 : Int32), (262144 : Int32), (327677 : Int32), (327680 : Int32), (393213 : Int32), (393216 : Int32), (458749 : Int32), (458752 : Int32), (524285 : Int32), (524288 : Int32), (589821 : Int32), (589824 : Int32), (655357 : Int32), (655360 : Int32), (720893 : Int32), (720896 : Int32), (786429 : Int32), (786432 : Int32), (851965 : Int32), (851968 : Int32), (917501 : Int32), (917504 : Int32), (921599 : Int32), (921600 : Int32), (983037 : Int32), (983040 : Int32), (1114109 : Int32), (1114111 : Int32), (1114112 : Int32), (0 : Int32), (55296 : Int32), (57344 : Int32), (-2147483648 : Int32), (2147483647 : Int32), (0 : Int32), (0 : Int32)] := A423
  show Go p e below s _ _ _ T418 (mkF m 274 #[.val (.int v0), .val (.int v1), .val (.int v2), .unset, .unset] [(.ref b3)])
  refine go_step (T' := T418) (g' := (mkF m 275 #[.val (.int v0), .val (.int v1), .val (.int v2), .unset, .unset] [(.ref b3), (.ref b3)])) (fun t k => XS.dup X420.here hx rfl (hb hby at_274) rfl rfl k) ?_
  refine go_step (T' := T418) (g' := (mkF m 277 #[.val (.int v0), .val (.int v1), .val (.int v2), .unset, .unset] [(.int (46 : Int32)), (.ref b3), (.ref b3)])) (fun t k => XS.bipush X420.here hx rfl (hb hby at_275) k) ?_
  refine go_step (T' := T418) (g' := (mkF m 279 #[.val (.int v0), .val (.int v1), .val (.int v2), .unset, .unset] [(.int (524285 : Int32)), (.int (46 : Int32)), (.ref b3), (.ref b3)])) (X420.ldcInt hx hown (mvT hZ (hw _ (List.mem_of_getElem? (i := 20) rfl))) (g := (mkF m 277 #[.val (.int v0), .val (.int v1), .val (.int v2), .unset, .unset] [(.int (46 : Int32)), (.ref b3), (.ref b3)])) rfl (hb hby at_277)) ?_
  refine go_iastore X420 hx hZ e421 A426 (by decide) (show ((46 : Int32)).toNatClampNeg < 48 by decide) (g := (mkF m 279 #[.val (.int v0), .val (.int v1), .val (.int v2), .unset, .unset] [(.int (524285 : Int32)), (.int (46 : Int32)), (.ref b3), (.ref b3)])) rfl rfl (hb hby at_279) (fun T427 h428 X429 e430 W431 A432 => ?_)
  have K433 := K424.wr W431 (Or.inr sz9)
  have N434 := Fr.snoc X429 N425 g10
  have A435 : IA Z h428 b3 [(160 : Int32), (55295 : Int32), (63744 : Int32), (64975 : Int32), (65008 : Int32), (65519 : Int32), (65535 : Int32), (65536 : Int32), (131069 : Int32), (131072 : Int32), (196605 : Int32), (196608 : Int32), (262141 : Int32), (262144 : Int32), (327677 : Int32), (327680 : Int32), (393213 : Int32), (393216 : Int32), (458749 : Int32), (458752 : Int32), (524285 : Int32), (524288 : Int32), (589821 : Int32), (589824 : Int32), (655357 : Int32), (655360 : Int32), (720893 : Int32), (720896 : Int32), (786429 : Int32), (786432 : Int32), (851965 : Int32), (851968 : Int32), (917501 : Int32), (917504 : Int32), (921599 : Int32), (921600 : Int32), (983037 : Int32), (983040 : Int32), (1114109 : Int32), (1114111 : Int32), (1114112 : Int32), (0 : Int32), (55296 : Int32), (57344 : Int32), (-2147483648 : Int32), (2147483647 : Int32), (524285 : Int32), (0 : Int32)] := A432
  show Go p e below s _ _ _ T427 (mkF m 280 #[.val (.int v0), .val (.int v1), .val (.int v2), .unset, .unset] [(.ref b3)])
  refine go_step (T' := T427) (g' := (mkF m 281 #[.val (.int v0), .val (.int v1), .val (.int v2), .unset, .unset] [(.ref b3), (.ref b3)])) (fun t k => XS.dup X429.here hx rfl (hb hby at_280) rfl rfl k) ?_
  refine go_step (T' := T427) (g' := (mkF m 283 #[.val (.int v0), .val (.int v1), .val (.int v2), .unset, .unset] [(.int (47 : Int32)), (.ref b3), (.ref b3)])) (fun t k => XS.bipush X429.here hx rfl (hb hby at_281) k) ?_
  refine go_step (T' := T427) (g' := (mkF m 285 #[.val (.int v0), .val (.int v1), .val (.int v2), .unset, .unset] [(.int (268500989 : Int32)), (.int (47 : Int32)), (.ref b3), (.ref b3)])) (X429.ldcInt hx hown (mvT hZ (hw _ (List.mem_of_getElem? (i := 45) rfl))) (g := (mkF m 283 #[.val (.int v0), .val (.int v1), .val (.int v2), .unset, .unset] [(.int (47 : Int32)), (.ref b3), (.ref b3)])) rfl (hb hby at_283)) ?_
  refine go_iastore X429 hx hZ e430 A435 (by decide) (show ((47 : Int32)).toNatClampNeg < 48 by decide) (g := (mkF m 285 #[.val (.int v0), .val (.int v1), .val (.int v2), .unset, .unset] [(.int (268500989 : Int32)), (.int (47 : Int32)), (.ref b3), (.ref b3)])) rfl rfl (hb hby at_285) (fun T436 h437 X438 e439 W440 A441 => ?_)
  have K442 := K433.wr W440 (Or.inr sz9)
  have N443 := Fr.snoc X438 N434 g10
  have A444 : IA Z h437 b3 [(160 : Int32), (55295 : Int32), (63744 : Int32), (64975 : Int32), (65008 : Int32), (65519 : Int32), (65535 : Int32), (65536 : Int32), (131069 : Int32), (131072 : Int32), (196605 : Int32), (196608 : Int32), (262141 : Int32), (262144 : Int32), (327677 : Int32), (327680 : Int32), (393213 : Int32), (393216 : Int32), (458749 : Int32), (458752 : Int32), (524285 : Int32), (524288 : Int32), (589821 : Int32), (589824 : Int32), (655357 : Int32), (655360 : Int32), (720893 : Int32), (720896 : Int32), (786429 : Int32), (786432 : Int32), (851965 : Int32), (851968 : Int32), (917501 : Int32), (917504 : Int32), (921599 : Int32), (921600 : Int32), (983037 : Int32), (983040 : Int32), (1114109 : Int32), (1114111 : Int32), (1114112 : Int32), (0 : Int32), (55296 : Int32), (57344 : Int32), (-2147483648 : Int32), (2147483647 : Int32), (524285 : Int32), (268500989 : Int32)] := A441
  show Go p e below s _ _ _ T436 (mkF m 286 #[.val (.int v0), .val (.int v1), .val (.int v2), .unset, .unset] [(.ref b3)])
  refine go_step (T' := T436) (g' := (mkF m 287 #[.val (.int v0), .val (.int v1), .val (.int v2), .val (.ref b3), .unset] [])) (fun t k => XS.astoreN X438.here hx rfl (hb hby at_286) rfl rfl (l' := #[.val (.int v0), .val (.int v1), .val (.int v2), .val (.ref b3), .unset]) rfl k) ?_
  refine go_step (T' := T436) (g' := (mkF m 288 #[.val (.int v0), .val (.int v1), .val (.int v2), .val (.ref b3), .unset] [(.int v1)])) (fun t k => XS.iloadN X438.here hx rfl (hb hby at_287) rfl  k) ?_
  refine go_step (T' := T436) (g' := (mkF m 289 #[.val (.int v0), .val (.int v1), .val (.int v2), .val (.ref b3), .unset] [(.int (1 : Int32)), (.int v1)])) (fun t k => XS.iconst X438.here hx rfl (hb hby at_288) k) ?_
  refine go_step (T' := T436) (g' := (mkF m 290 #[.val (.int v0), .val (.int v1), .val (.int v2), .val (.ref b3), .unset] [(.int (v1 &&& (1 : Int32)))])) (fun t k => XS.iand X438.here hx rfl (hb hby at_289) rfl k) ?_
  refine go_join X438 (h := h437) (g' := (mkF m 316 #[.val (.int v0), .val (.int v1), .val (.int v2), .val (.ref b3), .val (.int (z0_290_0 v0 v1 v2))] [])) (fun kk => ?_) (fun T446 X447 e448 => ?_)
  · by_cases hj445 : (v1 &&& (1 : Int32)) = (0 : Int32)
    · refine go_step (T' := T436) (g' := (mkF m 293 #[.val (.int v0), .val (.int v1), .val (.int v2), .val (.ref b3), .unset] [])) (fun t k => XS.ifNo X438.here hx rfl (hb hby at_290) rfl ((if0 _ _).trans (teq hj445).2) k) ?_
      refine go_step (T' := T436) (g' := (mkF m 294 #[.val (.int v0), .val (.int v1), .val (.int v2), .val (.ref b3), .unset] [(.int v0)])) (fun t k => XS.iloadN X438.here hx rfl (hb hby at_293) rfl  k) ?_
      refine go_step (T' := T436) (g' := (mkF m 296 #[.val (.int v0), .val (.int v1), .val (.int v2), .val (.ref b3), .val (.int v0)] [])) (fun t k => XS.istore X438.here hx rfl (hb hby at_294) rfl (l' := #[.val (.int v0), .val (.int v1), .val (.int v2), .val (.ref b3), .val (.int v0)]) rfl k) ?_
      refine go_step (T' := T436) (g' := (mkF m 316 #[.val (.int v0), .val (.int v1), .val (.int v2), .val (.ref b3), .val (.int v0)] [])) (fun t k => XS.goto X438.here hx rfl (pc0 := 296) (pc' := 316) rfl (hb hby at_296) (by decide) (by decide) k) ?_
      have k2 := kk T436 X438 e439
      rw [show (z0_290_0 v0 v1 v2) = v0 by unfold z0_290_0; rw [if_pos hj445]] at k2
      exact k2
    · refine go_step (T' := T436) (g' := (mkF m 299 #[.val (.int v0), .val (.int v1), .val (.int v2), .val (.ref b3), .unset] [])) (fun t k => XS.ifYes X438.here hx rfl (pc0 := 290) (pc' := 299) rfl (hb hby at_290) rfl ((if0 _ _).trans (feq hj445).2) (by decide) (by decide) k) ?_
      refine go_step (T' := T436) (g' := (mkF m 300 #[.val (.int v0), .val (.int v1), .val (.int v2), .val (.ref b3), .unset] [(.ref b3)])) (fun t k => XS.aloadN X438.here hx rfl (hb hby at_299) rfl rfl k) ?_
      refine go_step (T' := T436) (g' := (mkF m 301 #[.val (.int v0), .val (.int v1), .val (.int v2), .val (.ref b3), .unset] [(.int v1), (.ref b3)])) (fun t k => XS.iloadN X438.here hx rfl (hb hby at_300) rfl  k) ?_
      refine go_step (T' := T436) (g' := (mkF m 302 #[.val (.int v0), .val (.int v1), .val (.int v2), .val (.ref b3), .unset] [(.int (1 : Int32)), (.int v1), (.ref b3)])) (fun t k => XS.iconst X438.here hx rfl (hb hby at_301) k) ?_
      refine go_step (T' := T436) (g' := (mkF m 303 #[.val (.int v0), .val (.int v1), .val (.int v2), .val (.ref b3), .unset] [(.int (ush v1 (1 : Int32))), (.ref b3)])) (fun t k => XS.iushr X438.here hx rfl (hb hby at_302) rfl k) ?_
      refine go_step (T' := T436) (g' := (mkF m 304 #[.val (.int v0), .val (.int v1), .val (.int v2), .val (.ref b3), .unset] [(.ref b3), (.int (ush v1 (1 : Int32))), (.ref b3)])) (fun t k => XS.aloadN X438.here hx rfl (hb hby at_303) rfl rfl k) ?_
      refine go_alen X438 hx hZ e439 A444 rfl (g := (mkF m 304 #[.val (.int v0), .val (.int v1), .val (.int v2), .val (.ref b3), .unset] [(.ref b3), (.int (ush v1 (1 : Int32))), (.ref b3)])) rfl rfl (hb hby at_304) ?_
      show Go p e below s _ _ _ T436 (mkF m 305 #[.val (.int v0), .val (.int v1), .val (.int v2), .val (.ref b3), .unset] [(.int (48 : Int32)), (.int (ush v1 (1 : Int32))), (.ref b3)])
      refine go_step (T' := T436) (g' := (mkF m 306 #[.val (.int v0), .val (.int v1), .val (.int v2), .val (.ref b3), .unset] [(.int ((ush v1 (1 : Int32)) % (48 : Int32))), (.ref b3)])) (fun t k => iremM X438 hx rfl (hb hby at_305) rfl (by decide) k) ?_
      refine go_iaload X438 hx hZ e439 A444 (own_idx v1).1 (getD_some (d := 0) (own_idx v1).2) (g := (mkF m 306 #[.val (.int v0), .val (.int v1), .val (.int v2), .val (.ref b3), .unset] [(.int ((ush v1 (1 : Int32)) % (48 : Int32))), (.ref b3)])) rfl rfl (hb hby at_306) ?_
      show Go p e below s _ _ _ T436 (mkF m 307 #[.val (.int v0), .val (.int v1), .val (.int v2), .val (.ref b3), .unset] [(.int (([(160 : Int32), (55295 : Int32), (63744 : Int32), (64975 : Int32), (65008 : Int32), (65519 : Int32), (65535 : Int32), (65536 : Int32), (131069 : Int32), (131072 : Int32), (196605 : Int32), (196608 : Int32), (262141 : Int32), (262144 : Int32), (327677 : Int32), (327680 : Int32), (393213 : Int32), (393216 : Int32), (458749 : Int32), (458752 : Int32), (524285 : Int32), (524288 : Int32), (589821 : Int32), (589824 : Int32), (655357 : Int32), (655360 : Int32), (720893 : Int32), (720896 : Int32), (786429 : Int32), (786432 : Int32), (851965 : Int32), (851968 : Int32), (917501 : Int32), (917504 : Int32), (921599 : Int32), (921600 : Int32), (983037 : Int32), (983040 : Int32), (1114109 : Int32), (1114111 : Int32), (1114112 : Int32), (0 : Int32), (55296 : Int32), (57344 : Int32), (-2147483648 : Int32), (2147483647 : Int32), (524285 : Int32), (268500989 : Int32)] : List Int32).getD (((ush v1 (1 : Int32)) % (48 : Int32))).toNatClampNeg 0))])
      refine go_step (T' := T436) (g' := (mkF m 308 #[.val (.int v0), .val (.int v1), .val (.int v2), .val (.ref b3), .unset] [(.int v2), (.int (([(160 : Int32), (55295 : Int32), (63744 : Int32), (64975 : Int32), (65008 : Int32), (65519 : Int32), (65535 : Int32), (65536 : Int32), (131069 : Int32), (131072 : Int32), (196605 : Int32), (196608 : Int32), (262141 : Int32), (262144 : Int32), (327677 : Int32), (327680 : Int32), (393213 : Int32), (393216 : Int32), (458749 : Int32), (458752 : Int32), (524285 : Int32), (524288 : Int32), (589821 : Int32), (589824 : Int32), (655357 : Int32), (655360 : Int32), (720893 : Int32), (720896 : Int32), (786429 : Int32), (786432 : Int32), (851965 : Int32), (851968 : Int32), (917501 : Int32), (917504 : Int32), (921599 : Int32), (921600 : Int32), (983037 : Int32), (983040 : Int32), (1114109 : Int32), (1114111 : Int32), (1114112 : Int32), (0 : Int32), (55296 : Int32), (57344 : Int32), (-2147483648 : Int32), (2147483647 : Int32), (524285 : Int32), (268500989 : Int32)] : List Int32).getD (((ush v1 (1 : Int32)) % (48 : Int32))).toNatClampNeg 0))])) (fun t k => XS.iloadN X438.here hx rfl (hb hby at_307) rfl  k) ?_
      refine go_step (T' := T436) (g' := (mkF m 310 #[.val (.int v0), .val (.int v1), .val (.int v2), .val (.ref b3), .unset] [(.int (7 : Int32)), (.int v2), (.int (([(160 : Int32), (55295 : Int32), (63744 : Int32), (64975 : Int32), (65008 : Int32), (65519 : Int32), (65535 : Int32), (65536 : Int32), (131069 : Int32), (131072 : Int32), (196605 : Int32), (196608 : Int32), (262141 : Int32), (262144 : Int32), (327677 : Int32), (327680 : Int32), (393213 : Int32), (393216 : Int32), (458749 : Int32), (458752 : Int32), (524285 : Int32), (524288 : Int32), (589821 : Int32), (589824 : Int32), (655357 : Int32), (655360 : Int32), (720893 : Int32), (720896 : Int32), (786429 : Int32), (786432 : Int32), (851965 : Int32), (851968 : Int32), (917501 : Int32), (917504 : Int32), (921599 : Int32), (921600 : Int32), (983037 : Int32), (983040 : Int32), (1114109 : Int32), (1114111 : Int32), (1114112 : Int32), (0 : Int32), (55296 : Int32), (57344 : Int32), (-2147483648 : Int32), (2147483647 : Int32), (524285 : Int32), (268500989 : Int32)] : List Int32).getD (((ush v1 (1 : Int32)) % (48 : Int32))).toNatClampNeg 0))])) (fun t k => XS.bipush X438.here hx rfl (hb hby at_308) k) ?_
      refine go_step (T' := T436) (g' := (mkF m 311 #[.val (.int v0), .val (.int v1), .val (.int v2), .val (.ref b3), .unset] [(.int (v2 &&& (7 : Int32))), (.int (([(160 : Int32), (55295 : Int32), (63744 : Int32), (64975 : Int32), (65008 : Int32), (65519 : Int32), (65535 : Int32), (65536 : Int32), (131069 : Int32), (131072 : Int32), (196605 : Int32), (196608 : Int32), (262141 : Int32), (262144 : Int32), (327677 : Int32), (327680 : Int32), (393213 : Int32), (393216 : Int32), (458749 : Int32), (458752 : Int32), (524285 : Int32), (524288 : Int32), (589821 : Int32), (589824 : Int32), (655357 : Int32), (655360 : Int32), (720893 : Int32), (720896 : Int32), (786429 : Int32), (786432 : Int32), (851965 : Int32), (851968 : Int32), (917501 : Int32), (917504 : Int32), (921599 : Int32), (921600 : Int32), (983037 : Int32), (983040 : Int32), (1114109 : Int32), (1114111 : Int32), (1114112 : Int32), (0 : Int32), (55296 : Int32), (57344 : Int32), (-2147483648 : Int32), (2147483647 : Int32), (524285 : Int32), (268500989 : Int32)] : List Int32).getD (((ush v1 (1 : Int32)) % (48 : Int32))).toNatClampNeg 0))])) (fun t k => XS.iand X438.here hx rfl (hb hby at_310) rfl k) ?_
      refine go_step (T' := T436) (g' := (mkF m 312 #[.val (.int v0), .val (.int v1), .val (.int v2), .val (.ref b3), .unset] [(.int (4 : Int32)), (.int (v2 &&& (7 : Int32))), (.int (([(160 : Int32), (55295 : Int32), (63744 : Int32), (64975 : Int32), (65008 : Int32), (65519 : Int32), (65535 : Int32), (65536 : Int32), (131069 : Int32), (131072 : Int32), (196605 : Int32), (196608 : Int32), (262141 : Int32), (262144 : Int32), (327677 : Int32), (327680 : Int32), (393213 : Int32), (393216 : Int32), (458749 : Int32), (458752 : Int32), (524285 : Int32), (524288 : Int32), (589821 : Int32), (589824 : Int32), (655357 : Int32), (655360 : Int32), (720893 : Int32), (720896 : Int32), (786429 : Int32), (786432 : Int32), (851965 : Int32), (851968 : Int32), (917501 : Int32), (917504 : Int32), (921599 : Int32), (921600 : Int32), (983037 : Int32), (983040 : Int32), (1114109 : Int32), (1114111 : Int32), (1114112 : Int32), (0 : Int32), (55296 : Int32), (57344 : Int32), (-2147483648 : Int32), (2147483647 : Int32), (524285 : Int32), (268500989 : Int32)] : List Int32).getD (((ush v1 (1 : Int32)) % (48 : Int32))).toNatClampNeg 0))])) (fun t k => XS.iconst X438.here hx rfl (hb hby at_311) k) ?_
      refine go_step (T' := T436) (g' := (mkF m 313 #[.val (.int v0), .val (.int v1), .val (.int v2), .val (.ref b3), .unset] [(.int ((v2 &&& (7 : Int32)) - (4 : Int32))), (.int (([(160 : Int32), (55295 : Int32), (63744 : Int32), (64975 : Int32), (65008 : Int32), (65519 : Int32), (65535 : Int32), (65536 : Int32), (131069 : Int32), (131072 : Int32), (196605 : Int32), (196608 : Int32), (262141 : Int32), (262144 : Int32), (327677 : Int32), (327680 : Int32), (393213 : Int32), (393216 : Int32), (458749 : Int32), (458752 : Int32), (524285 : Int32), (524288 : Int32), (589821 : Int32), (589824 : Int32), (655357 : Int32), (655360 : Int32), (720893 : Int32), (720896 : Int32), (786429 : Int32), (786432 : Int32), (851965 : Int32), (851968 : Int32), (917501 : Int32), (917504 : Int32), (921599 : Int32), (921600 : Int32), (983037 : Int32), (983040 : Int32), (1114109 : Int32), (1114111 : Int32), (1114112 : Int32), (0 : Int32), (55296 : Int32), (57344 : Int32), (-2147483648 : Int32), (2147483647 : Int32), (524285 : Int32), (268500989 : Int32)] : List Int32).getD (((ush v1 (1 : Int32)) % (48 : Int32))).toNatClampNeg 0))])) (fun t k => XS.isub X438.here hx rfl (hb hby at_312) rfl k) ?_
      refine go_step (T' := T436) (g' := (mkF m 314 #[.val (.int v0), .val (.int v1), .val (.int v2), .val (.ref b3), .unset] [(.int ((([(160 : Int32), (55295 : Int32), (63744 : Int32), (64975 : Int32), (65008 : Int32), (65519 : Int32), (65535 : Int32), (65536 : Int32), (131069 : Int32), (131072 : Int32), (196605 : Int32), (196608 : Int32), (262141 : Int32), (262144 : Int32), (327677 : Int32), (327680 : Int32), (393213 : Int32), (393216 : Int32), (458749 : Int32), (458752 : Int32), (524285 : Int32), (524288 : Int32), (589821 : Int32), (589824 : Int32), (655357 : Int32), (655360 : Int32), (720893 : Int32), (720896 : Int32), (786429 : Int32), (786432 : Int32), (851965 : Int32), (851968 : Int32), (917501 : Int32), (917504 : Int32), (921599 : Int32), (921600 : Int32), (983037 : Int32), (983040 : Int32), (1114109 : Int32), (1114111 : Int32), (1114112 : Int32), (0 : Int32), (55296 : Int32), (57344 : Int32), (-2147483648 : Int32), (2147483647 : Int32), (524285 : Int32), (268500989 : Int32)] : List Int32).getD (((ush v1 (1 : Int32)) % (48 : Int32))).toNatClampNeg 0) + ((v2 &&& (7 : Int32)) - (4 : Int32))))])) (fun t k => XS.iadd X438.here hx rfl (hb hby at_313) rfl k) ?_
      refine go_step (T' := T436) (g' := (mkF m 316 #[.val (.int v0), .val (.int v1), .val (.int v2), .val (.ref b3), .val (.int ((([(160 : Int32), (55295 : Int32), (63744 : Int32), (64975 : Int32), (65008 : Int32), (65519 : Int32), (65535 : Int32), (65536 : Int32), (131069 : Int32), (131072 : Int32), (196605 : Int32), (196608 : Int32), (262141 : Int32), (262144 : Int32), (327677 : Int32), (327680 : Int32), (393213 : Int32), (393216 : Int32), (458749 : Int32), (458752 : Int32), (524285 : Int32), (524288 : Int32), (589821 : Int32), (589824 : Int32), (655357 : Int32), (655360 : Int32), (720893 : Int32), (720896 : Int32), (786429 : Int32), (786432 : Int32), (851965 : Int32), (851968 : Int32), (917501 : Int32), (917504 : Int32), (921599 : Int32), (921600 : Int32), (983037 : Int32), (983040 : Int32), (1114109 : Int32), (1114111 : Int32), (1114112 : Int32), (0 : Int32), (55296 : Int32), (57344 : Int32), (-2147483648 : Int32), (2147483647 : Int32), (524285 : Int32), (268500989 : Int32)] : List Int32).getD (((ush v1 (1 : Int32)) % (48 : Int32))).toNatClampNeg 0) + ((v2 &&& (7 : Int32)) - (4 : Int32))))] [])) (fun t k => XS.istore X438.here hx rfl (hb hby at_314) rfl (l' := #[.val (.int v0), .val (.int v1), .val (.int v2), .val (.ref b3), .val (.int ((([(160 : Int32), (55295 : Int32), (63744 : Int32), (64975 : Int32), (65008 : Int32), (65519 : Int32), (65535 : Int32), (65536 : Int32), (131069 : Int32), (131072 : Int32), (196605 : Int32), (196608 : Int32), (262141 : Int32), (262144 : Int32), (327677 : Int32), (327680 : Int32), (393213 : Int32), (393216 : Int32), (458749 : Int32), (458752 : Int32), (524285 : Int32), (524288 : Int32), (589821 : Int32), (589824 : Int32), (655357 : Int32), (655360 : Int32), (720893 : Int32), (720896 : Int32), (786429 : Int32), (786432 : Int32), (851965 : Int32), (851968 : Int32), (917501 : Int32), (917504 : Int32), (921599 : Int32), (921600 : Int32), (983037 : Int32), (983040 : Int32), (1114109 : Int32), (1114111 : Int32), (1114112 : Int32), (0 : Int32), (55296 : Int32), (57344 : Int32), (-2147483648 : Int32), (2147483647 : Int32), (524285 : Int32), (268500989 : Int32)] : List Int32).getD (((ush v1 (1 : Int32)) % (48 : Int32))).toNatClampNeg 0) + ((v2 &&& (7 : Int32)) - (4 : Int32))))]) rfl k) ?_
      show Go p e below s _ _ _ T436 (mkF m 316 #[.val (.int v0), .val (.int v1), .val (.int v2), .val (.ref b3), .val (.int (s0_0 v0 v1 v2))] [])
      have k2 := kk T436 X438 e439
      rw [show (z0_290_0 v0 v1 v2) = (s0_0 v0 v1 v2) by unfold z0_290_0; rw [if_neg hj445]] at k2
      exact k2
  refine go_step (T' := T446) (g' := (mkF m 318 #[.val (.int v0), .val (.int v1), .val (.int v2), .val (.ref b3), .val (.int (z0_290_0 v0 v1 v2))] [(.int (z0_290_0 v0 v1 v2))])) (fun t k => XS.iload X447.here hx rfl (hb hby at_316) rfl  k) ?_
  refine go_callSP X447 hx hZ hown (hw _ (List.mem_of_getElem? (i := 46) rfl)) (hw _ (List.mem_of_getElem? (i := 47) rfl)) (hw _ (List.mem_of_getElem? (i := 48) rfl)) (hw _ (List.mem_of_getElem? (i := 49) rfl)) (by decide) e448 (mq1 l Z a0 hw (z0_290_0 v0 v1 v2) h437) 0 (by decide) (by decide) (g := (mkF m 318 #[.val (.int v0), .val (.int v1), .val (.int v2), .val (.ref b3), .val (.int (z0_290_0 v0 v1 v2))] [(.int (z0_290_0 v0 v1 v2))])) rfl (by rw [hml]; rfl) (argsL := [(.int (z0_290_0 v0 v1 v2))]) (rest := []) (lenOf pd_1 rfl) rfl (by show 2 * 0 + _ ≤ _; exact Nat.le_of_eq rfl) (hb hby at_318) rfl rfl rfl (by decide) (by decide) (fun T449 X450 e451 => ?_)
  show Go p e below s _ _ _ T449 (mkF m 321 #[.val (.int v0), .val (.int v1), .val (.int v2), .val (.ref b3), .val (.int (z0_290_0 v0 v1 v2))] [(.int (f1_0 (z0_290_0 v0 v1 v2)))])
  refine go_step (T' := T449) (g' := (mkF m 323 #[.val (.int v0), .val (.int v1), .val (.int v2), .val (.ref b3), .val (.int (z0_290_0 v0 v1 v2))] [(.int (z0_290_0 v0 v1 v2)), (.int (f1_0 (z0_290_0 v0 v1 v2)))])) (fun t k => XS.iload X450.here hx rfl (hb hby at_321) rfl  k) ?_
  refine go_callSP X450 hx hZ hown (hw _ (List.mem_of_getElem? (i := 52) rfl)) (hw _ (List.mem_of_getElem? (i := 53) rfl)) (hw _ (List.mem_of_getElem? (i := 54) rfl)) (hw _ (List.mem_of_getElem? (i := 55) rfl)) (by decide) e451 (mq2 l Z a0 hw (z0_290_0 v0 v1 v2) h437) 1 (by decide) (by decide) (g := (mkF m 323 #[.val (.int v0), .val (.int v1), .val (.int v2), .val (.ref b3), .val (.int (z0_290_0 v0 v1 v2))] [(.int (z0_290_0 v0 v1 v2)), (.int (f1_0 (z0_290_0 v0 v1 v2)))])) rfl (by rw [hml]; rfl) (argsL := [(.int (z0_290_0 v0 v1 v2))]) (rest := [(.int (f1_0 (z0_290_0 v0 v1 v2)))]) (lenOf pd_1 rfl) rfl (by show 2 * 0 + _ ≤ _; exact Nat.le_of_eq rfl) (hb hby at_323) rfl rfl rfl (by decide) (by decide) (fun T452 X453 e454 => ?_)
  show Go p e below s _ _ _ T452 (mkF m 326 #[.val (.int v0), .val (.int v1), .val (.int v2), .val (.ref b3), .val (.int (z0_290_0 v0 v1 v2))] [(.int (f2_0 (z0_290_0 v0 v1 v2))), (.int (f1_0 (z0_290_0 v0 v1 v2)))])
  refine go_join X453 (h := h437) (g' := (mkF m 334 #[.val (.int v0), .val (.int v1), .val (.int v2), .val (.ref b3), .val (.int (z0_290_0 v0 v1 v2))] [(.int (z0_326_0 v0 v1 v2))])) (fun kk => ?_) (fun T456 X457 e458 => ?_)
  · by_cases hj455 : (f1_0 (z0_290_0 v0 v1 v2)) = (f2_0 (z0_290_0 v0 v1 v2))
    · refine go_step (T' := T452) (g' := (mkF m 329 #[.val (.int v0), .val (.int v1), .val (.int v2), .val (.ref b3), .val (.int (z0_290_0 v0 v1 v2))] [])) (fun t k => XS.icmpNo X453.here hx rfl (hb hby at_326) rfl (teq hj455).2 k) ?_
      refine go_step (T' := T452) (g' := (mkF m 330 #[.val (.int v0), .val (.int v1), .val (.int v2), .val (.ref b3), .val (.int (z0_290_0 v0 v1 v2))] [(.int (1 : Int32))])) (fun t k => XS.iconst X453.here hx rfl (hb hby at_329) k) ?_
      refine go_step (T' := T452) (g' := (mkF m 334 #[.val (.int v0), .val (.int v1), .val (.int v2), .val (.ref b3), .val (.int (z0_290_0 v0 v1 v2))] [(.int (1 : Int32))])) (fun t k => XS.goto X453.here hx rfl (pc0 := 330) (pc' := 334) rfl (hb hby at_330) (by decide) (by decide) k) ?_
      have k2 := kk T452 X453 e454
      rw [show (z0_326_0 v0 v1 v2) = (1 : Int32) by unfold z0_326_0; rw [if_pos hj455]] at k2
      exact k2
    · refine go_step (T' := T452) (g' := (mkF m 333 #[.val (.int v0), .val (.int v1), .val (.int v2), .val (.ref b3), .val (.int (z0_290_0 v0 v1 v2))] [])) (fun t k => XS.icmpYes X453.here hx rfl (pc0 := 326) (pc' := 333) rfl (hb hby at_326) rfl (feq hj455).2 (by decide) (by decide) k) ?_
      refine go_step (T' := T452) (g' := (mkF m 334 #[.val (.int v0), .val (.int v1), .val (.int v2), .val (.ref b3), .val (.int (z0_290_0 v0 v1 v2))] [(.int (0 : Int32))])) (fun t k => XS.iconst X453.here hx rfl (hb hby at_333) k) ?_
      have k2 := kk T452 X453 e454
      rw [show (z0_326_0 v0 v1 v2) = (0 : Int32) by unfold z0_326_0; rw [if_neg hj455]] at k2
      exact k2
  exact go_retZ X457 hx hlk hret (hb hby at_334) e458 ⟨(by unfold f0_ret; rfl), N443⟩ (by decide) (by decide)
/-! the plain law: the two tests say the same of every int -/
theorem own_in (c lo hi : Int32) : f3_0 c lo hi = if lo.toInt ≤ c.toInt ∧ c.toInt ≤ hi.toInt then 1 else 0 := by
  unfold f3_0
  simp only [Int32.lt_iff_toInt_lt]
  by_cases h1 : c.toInt < lo.toInt
  · rw [if_pos h1, if_neg (by omega)]
  · rw [if_neg h1]
    by_cases h2 : hi.toInt < c.toInt
    · rw [if_pos h2, if_neg (by omega)]
    · rw [if_neg h2, if_pos (by omega)]
theorem own_b (P : Prop) [Decidable P] : ((if P then (1 : Int32) else 0) = (0 : Int32)) ↔ ¬ P := by
  by_cases h : P
  · simp [h]
  · simp [h]
theorem own_or (P Q : Prop) [Decidable P] [Decidable Q] : (if P then (1 : Int32) else if Q then 1 else 0) = if P ∨ Q then 1 else 0 := by
  by_cases p : P <;> by_cases q : Q <;> simp [p, q]
theorem own_iff (P Q : Prop) [Decidable P] [Decidable Q] (h : P ↔ Q) : (if P then (1 : Int32) else 0) = if Q then 1 else 0 := by
  by_cases p : P
  · rw [if_pos p, if_pos (h.mp p)]
  · rw [if_neg p, if_neg (fun q => p (h.mpr q))]
set_option maxRecDepth 4096 in
theorem own_same (c : Int32) : f1_0 c = f2_0 c := by
  have m := c_mask c (65535 : Int32) 16 (by decide) (by decide)
  rw [show ((2 ^ 16 : Nat) : Int) = 65536 by decide] at m
  have e1 : f1_0 c = if (160 ≤ c.toInt ∧ c.toInt ≤ 55295) ∨ (63744 ≤ c.toInt ∧ c.toInt ≤ 64975) ∨ (65008 ≤ c.toInt ∧ c.toInt ≤ 65519) ∨ (65536 ≤ c.toInt ∧ c.toInt ≤ 983037 ∧ c.toInt % 65536 ≤ 65533 ∧ ¬ (917504 ≤ c.toInt ∧ c.toInt < 921600)) then 1 else 0 := by
    unfold f1_0 f1_19 f1_31 f1_43 f1_47 f1_79
    simp only [Int32.lt_iff_toInt_lt, m, show (65536 : Int32).toInt = 65536 by decide, show (160 : Int32).toInt = 160 by decide, show (55295 : Int32).toInt = 55295 by decide, show (63744 : Int32).toInt = 63744 by decide, show (64975 : Int32).toInt = 64975 by decide, show (65008 : Int32).toInt = 65008 by decide, show (65519 : Int32).toInt = 65519 by decide, show (983037 : Int32).toInt = 983037 by decide, show (65533 : Int32).toInt = 65533 by decide, show (917504 : Int32).toInt = 917504 by decide, show (921600 : Int32).toInt = 921600 by decide]
    generalize c.toInt = n at *
    repeat' split
    all_goals first | rfl | (exfalso; omega)
  rw [e1]
  unfold f2_0
  simp only [own_in, own_b, ite_not, show (160 : Int32).toInt = 160 by decide, show (55295 : Int32).toInt = 55295 by decide, show (63744 : Int32).toInt = 63744 by decide, show (64975 : Int32).toInt = 64975 by decide, show (65008 : Int32).toInt = 65008 by decide, show (65519 : Int32).toInt = 65519 by decide,
    show (65536 : Int32).toInt = 65536 by decide, show (131069 : Int32).toInt = 131069 by decide, show (131072 : Int32).toInt = 131072 by decide, show (196605 : Int32).toInt = 196605 by decide, show (196608 : Int32).toInt = 196608 by decide, show (262141 : Int32).toInt = 262141 by decide,
    show (262144 : Int32).toInt = 262144 by decide, show (327677 : Int32).toInt = 327677 by decide, show (327680 : Int32).toInt = 327680 by decide, show (393213 : Int32).toInt = 393213 by decide, show (393216 : Int32).toInt = 393216 by decide, show (458749 : Int32).toInt = 458749 by decide,
    show (458752 : Int32).toInt = 458752 by decide, show (524285 : Int32).toInt = 524285 by decide, show (524288 : Int32).toInt = 524288 by decide, show (589821 : Int32).toInt = 589821 by decide, show (589824 : Int32).toInt = 589824 by decide, show (655357 : Int32).toInt = 655357 by decide,
    show (655360 : Int32).toInt = 655360 by decide, show (720893 : Int32).toInt = 720893 by decide, show (720896 : Int32).toInt = 720896 by decide, show (786429 : Int32).toInt = 786429 by decide, show (786432 : Int32).toInt = 786432 by decide, show (851965 : Int32).toInt = 851965 by decide,
    show (851968 : Int32).toInt = 851968 by decide, show (917501 : Int32).toInt = 917501 by decide, show (921600 : Int32).toInt = 921600 by decide, show (983037 : Int32).toInt = 983037 by decide]
  simp only [own_or]
  refine own_iff _ _ ?_
  clear e1 m
  generalize c.toInt = n
  constructor
  · intro h; omega
  · intro h; omega
theorem plain_law (a sel off : Int32) : f0_ret a sel off = 1 := by
  unfold f0_ret z0_326_0
  rw [if_pos (own_same _)]
  rfl

set_option maxRecDepth 65536 in
set_option maxHeartbeats 40000000 in
theorem comes_1 {Post : Tables → Env → Array Value → State → Outcome → State → Prop} (hpost : ∀ tb e args s v u, (limb_1_1.after args s (.returned v) u = true ∧ limb_1_2.after args s (.returned v) u = true ∧ True) → FrameEnd s (.returned v) u (Jvm.fieldLocs frame_1_writes args s ++ Jvm.arrayLocs frame_1_arrays args s ++ Jvm.staticLocs frame_1_statics s) 16 192 → Post tb e args s (.returned v) u) :
    ArmFor flags0 classFile x code maxLocals ret World_1 tables_1 room_1 Calls_1 rest_1 Pre_1 Post := by
  intro l hfl _ _ p e ha hc hk s m args below hf hA hF happ hP
  obtain ⟨hcalls, hrest, hpre⟩ := hP
  obtain ⟨-, -, -, hnamed, -, -, -, hat⟩ := (Spec.applies_iff hf).mp happ
  obtain ⟨hg, hn⟩ := and_e (Cond.before_iff.mp (show (Jvm.Cond.and given_1 narrow_1).before args s = true from hpre))
  obtain ⟨hcount, hg0⟩ := and_e hg
  obtain ⟨ga0, hg1⟩ := and_e hg0
  obtain ⟨ga1, hg2⟩ := and_e hg1
  have ga2 := hg2
  obtain ⟨w0, w1, w2, rfl⟩ : ∃ w0 w1 w2 : Value, args = #[w0, w1, w2] := by
    have hs : args.size = 3 := by simpa [Cond.value, given_1] using hcount
    obtain ⟨L⟩ := args
    match L, hs with
    | [w0, w1, w2], _ => exact ⟨w0, w1, w2, rfl⟩
  have hw := fun d (hd : d ∈ tables_1) => atoms_spec (ws := Jvm.Cond.code x code maxLocals ret :: tables_1) hat d (List.mem_cons_of_mem _ hd)
  obtain ⟨i0, ei0⟩ := is_v ga0
  obtain rfl : w0 = (.int i0) := Option.some.inj ei0
  obtain ⟨i1, ei1⟩ := is_v ga1
  obtain rfl : w1 = (.int i1) := Option.some.inj ei1
  obtain ⟨i2, ei2⟩ := is_v ga2
  obtain rfl : w2 = (.int i2) := Option.some.inj ei2
  obtain ⟨n, o, h1, h2, h3, _, L, rfl, ⟨rfl, N⟩, hq⟩ := mq0 l s _ hw tables_1 i0 i1 i2 s.heap s.heap.size (Nat.le_refl _) p e ha hc hk s m _ below hf ((Spec.applies_iff_loose hf).mp happ).1 ⟨rfl, State.Warmed39.refl s, rfl⟩ trivial
  rw [plain_law] at h3 hq
  refine ⟨n, _, h1, h2, h3, hpost _ _ _ _ _ _ ⟨Cond.after_iff.mpr rfl, Cond.after_iff.mpr (eq_i res_at (Term.int_eval (1)) rfl), trivial⟩ ⟨hq.1, hq.2.1, (hq.2.2.sift fun y hy => Or.inr (N y hy)).mono (by decide) (by decide)⟩⟩
theorem main_1_1 : Claimed_1_1 := comes_1 fun _ _ _ _ _ _ h hF => ⟨h.1, hF⟩
theorem main_1_2 : Claimed_1_2 := comes_1 fun _ _ _ _ _ _ h hF => ⟨h.2.1, hF⟩
end Jvm.Pilot.@@N@@
namespace Jvm.Pilot.@@N@@
open Jvm Jvm.ClassFile Sem Op Lib Jvm.Free Jvm.Stand Jvm.Pilot.@@N@@.Jvm.D
/-! MADE BY PROGRAM (witnessworld.py) out of the Statement's table words and the real class files: 9 classes; the members and pool entries that the words name. The judged class is class 1, her method 3. -/
namespace start1
open Jvm.ClassFile
def u (s : String) : CpInfo := .utf8 (stringToUtf16 s)
/-- a pool by its gaps: so many unusable entries, then the entry; so many at the end -/
def gap : Nat → List CpInfo → List CpInfo
  | 0, r => r
  | n + 1, r => .unusable :: gap n r
def poolList (es : List (Nat × CpInfo)) (last : Nat) : List CpInfo := es.foldr (fun e r => gap e.1 (e.2 :: r)) (gap last [])
def pool (es : List (Nat × CpInfo)) (last : Nat) : Array CpInfo := ⟨poolList es last⟩
def fileOf (pool : Array CpInfo) (this : Nat) (attrs : Array Attribute := #[]) (ms : Array MethodInfo := #[]) (fl : Nat := 33) (sup : Nat := 0) (ifs : Array Nat := #[]) (fds : Array FieldInfo := #[]) : ClassFile where
  minorVersion := 0
  majorVersion := 65
  constantPool := pool
  accessFlags := fl
  thisClass := this
  superClass := sup
  interfaces := ifs
  fields := fds
  methods := ms
  attributes := attrs
def plain (name : String) (sup : Option ClassId) : Class where
  name := name
  kind := .ordinary
  loader := none
  accessFlags := 33
  super := sup
  interfaces := #[]
  cf := none
  fields := #[]
  methods := #[]
  instanceTypes := #[]
  staticTypes := #[]
  resolved := #[]
  callSites := []
  init := .initialized
  statics := none
  mirror := none

def pool0 : Array CpInfo := pool [(5, u "<init>"), (0, u "()V"), (1, .class_ 10), (1, u "java/lang/Object")] 113

def k0m0 : Method := { name := "<init>", desc := "()V", sig := { parameters := [], returnType := none }, accessFlags := 1, code := none }
/-- java/lang/Object -/
def k0 : Class := { plain "java/lang/Object" none with
  accessFlags := 33
  interfaces := #[]
  cf := some (fileOf pool0 8 #[] #[{ accessFlags := 1, nameIndex := 5, descriptorIndex := 6, attributes := #[] }] 33 0 #[] #[])
  fields := #[]
  methods := #[k0m0]
  instanceTypes := #[]
  staticTypes := #[]
  resolved := Array.replicate 124 none
  statics := none }

def pool1 : Array CpInfo := pool [(2, .class_ 4), (1, u "java/lang/Object"), (0, u "<init>"), (0, u "()V"), (0, .integer 55295), (0, .methodref 9 10), (0, .class_ 11), (0, .nameAndType 12 13), (0, u "com/example/map21/map21/util/IriCharactersIsUcscharPinLaw"), (0, u "in"), (0, u "(III)Z"), (0, .integer 63744), (0, .integer 64975), (0, .integer 65008), (0, .integer 65519), (0, .integer 65536), (0, .integer 131069), (0, .integer 131072), (0, .integer 196605), (0, .integer 196608), (0, .integer 262141), (0, .integer 262144), (0, .integer 327677), (0, .integer 327680), (0, .integer 393213), (0, .integer 393216), (0, .integer 458749), (0, .integer 458752), (0, .integer 524285), (0, .integer 524288), (0, .integer 589821), (0, .integer 589824), (0, .integer 655357), (0, .integer 655360), (0, .integer 720893), (0, .integer 720896), (0, .integer 786429), (0, .integer 786432), (0, .integer 851965), (0, .integer 851968), (0, .integer 917501), (0, .integer 921600), (0, .integer 983037), (0, .integer 65535), (0, .integer 917504), (0, .integer 921599), (0, .integer 983040), (0, .integer 1114109), (0, .integer 1114111), (0, .integer 1114112), (0, .integer 55296), (0, .integer 57344), (2, .integer 2147483648), (0, .integer 2147483647), (0, .integer 268500989), (0, .methodref 61 62), (0, .class_ 63), (0, .nameAndType 64 65), (0, u "com/example/map21/map21/util/IriCharacters"), (0, u "isUcschar"), (0, u "(I)Z"), (0, .methodref 9 67), (0, .nameAndType 68 65), (0, u "ref"), (3, u "law")] 4

def k1m0 : Method := { name := "<init>", desc := "()V", sig := { parameters := [], returnType := none }, accessFlags := 1, code := none }
def k1c1 : Code := { maxStack := 2, maxLocals := 3, code := method_2_code, exceptionTable := #[], attributes := #[] }
def k1m1 : Method := { name := "in", desc := "(III)Z", sig := { parameters := [.int, .int, .int], returnType := some .boolean }, accessFlags := 10, code := some k1c1 }
def k1c2 : Code := { maxStack := 3, maxLocals := 1, code := method_3_code, exceptionTable := #[], attributes := #[] }
def k1m2 : Method := { name := "ref", desc := "(I)Z", sig := { parameters := [.int], returnType := some .boolean }, accessFlags := 10, code := some k1c2 }
def k1c3 : Code := { maxStack := 4, maxLocals := 5, code := code, exceptionTable := #[], attributes := #[] }
def k1m3 : Method := { name := "law", desc := "(III)Z", sig := { parameters := [.int, .int, .int], returnType := some .boolean }, accessFlags := 9, code := some k1c3 }
/-- com/example/map21/map21/util/IriCharactersIsUcscharPinLaw -/
def k1 : Class := { plain "com/example/map21/map21/util/IriCharactersIsUcscharPinLaw" (some 0) with
  accessFlags := 49
  interfaces := #[]
  cf := some (fileOf pool1 9 #[] #[{ accessFlags := 1, nameIndex := 5, descriptorIndex := 6, attributes := #[] }, { accessFlags := 10, nameIndex := 12, descriptorIndex := 13, attributes := #[] }, { accessFlags := 10, nameIndex := 68, descriptorIndex := 65, attributes := #[] }, { accessFlags := 9, nameIndex := 72, descriptorIndex := 13, attributes := #[] }] 49 2 #[] #[])
  fields := #[]
  methods := #[k1m0, k1m1, k1m2, k1m3]
  instanceTypes := #[]
  staticTypes := #[]
  resolved := Array.replicate 77 none
  statics := none }

def pool2 : Array CpInfo := pool [(2, .class_ 4), (1, u "java/lang/Object"), (0, u "<init>"), (0, u "()V"), (5, u "(I)Z"), (3, .class_ 18), (1, u "com/example/map21/map21/util/IriCharacters"), (2, .integer 65535), (0, .integer 65536), (0, .integer 55295), (0, .integer 63744), (0, .integer 64975), (0, .integer 65008), (0, .integer 65519), (0, .integer 983037), (0, .integer 65533), (0, .integer 917504), (0, .integer 921600), (16, u "isUcschar")] 7

def k2m0 : Method := { name := "<init>", desc := "()V", sig := { parameters := [], returnType := none }, accessFlags := 2, code := none }
def k2c1 : Code := { maxStack := 2, maxLocals := 2, code := prog_38_method_4_code, exceptionTable := #[], attributes := #[] }
def k2m1 : Method := { name := "isUcschar", desc := "(I)Z", sig := { parameters := [.int], returnType := some .boolean }, accessFlags := 9, code := some k2c1 }
/-- com/example/map21/map21/util/IriCharacters -/
def k2 : Class := { plain "com/example/map21/map21/util/IriCharacters" (some 0) with
  accessFlags := 33
  interfaces := #[]
  cf := some (fileOf pool2 16 #[] #[{ accessFlags := 2, nameIndex := 5, descriptorIndex := 6, attributes := #[] }, { accessFlags := 9, nameIndex := 48, descriptorIndex := 12, attributes := #[] }] 33 2 #[] #[])
  fields := #[]
  methods := #[k2m0, k2m1]
  instanceTypes := #[]
  staticTypes := #[]
  resolved := Array.replicate 56 none
  statics := none }

def pool3 : Array CpInfo := pool [(1, u "java/lang/Cloneable"), (0, .class_ 1), (0, u "java/lang/Object"), (0, .class_ 3)] 3

/-- java/lang/Cloneable -/
def k3 : Class := { plain "java/lang/Cloneable" (some 0) with
  accessFlags := 1537
  interfaces := #[]
  cf := some (fileOf pool3 2 #[] #[] 1537 4 #[] #[])
  fields := #[]
  methods := #[]
  instanceTypes := #[]
  staticTypes := #[]
  resolved := Array.replicate 8 none
  statics := none }

def pool4 : Array CpInfo := pool [(1, u "java/io/Serializable"), (0, .class_ 1), (0, u "java/lang/Object"), (0, .class_ 3)] 3

/-- java/io/Serializable -/
def k4 : Class := { plain "java/io/Serializable" (some 0) with
  accessFlags := 1537
  interfaces := #[]
  cf := some (fileOf pool4 2 #[] #[] 1537 4 #[] #[])
  fields := #[]
  methods := #[]
  instanceTypes := #[]
  staticTypes := #[]
  resolved := Array.replicate 8 none
  statics := none }

/-- the primitive byte -/
def k5 : Class := { plain "byte" none with kind := .primitive 'B', accessFlags := 0x411 }
/-- [B -/
def k6 : Class := { plain "[B" (some 0) with kind := .array 5 .byte, interfaces := #[3, 4], accessFlags := 1041 }

/-- the primitive int -/
def k7 : Class := { plain "int" none with kind := .primitive 'I', accessFlags := 0x411 }
/-- [I -/
def k8 : Class := { plain "[I" (some 0) with kind := .array 7 .int, interfaces := #[3, 4], accessFlags := 1041 }

def heap : Heap := #[]
def classes : Array Class := #[k0, k1, k2, k3, k4, k5, k6, k7, k8]
def interned : List (Array UInt16 × Addr) := []
def slotsUsed : Nat := 0
def theMethod : MethodId := ⟨1, 3⟩
def args0 : Array Value := #[.int 5, .int 5, .int 5]
def aboutOver (below : List Frame) : State where
  vm := { classes := classes, interned := interned.toArray }
  heap := heap
  slotsUsed := slotsUsed
  threads := #[{ frames := .invoking theMethod args0 :: below }]
def below0 : List Frame := [.native { method := ⟨0, 0⟩, args := #[] }]
def about1 : State := aboutOver below0
def p0 : Program := .bare "" "" ""
def e0 : Env := launch0.env 0 0 0
theorem w_frames : about1.frames = Frame.invoking theMethod args0 :: below0 := rfl
set_option maxRecDepth 65536 in
theorem w_args : argsFit about1.vm theMethod args0 = true := by decide +kernel
set_option maxRecDepth 65536 in
theorem w_heap : heapFits about1 = true := by decide +kernel
set_option maxRecDepth 65536 in
theorem w_runnable : about1.curStatus? = some .runnable := by decide +kernel
set_option maxRecDepth 65536 in
theorem w_alone : about1.alone = true := by decide +kernel
set_option maxRecDepth 65536 in
theorem w_named : about1.methodNamed? x = some theMethod := by decide +kernel
set_option maxRecDepth 65536 in
theorem w_hears : about1.hears theMethod below0 = true := by decide +kernel
set_option maxRecDepth 65536 in
theorem w_ripe : about1.ripe theMethod args0 below0 = true := by decide +kernel
theorem w_running : about1.status = .running := rfl
set_option maxRecDepth 65536 in
theorem w_room : about1.hasRoom e0.platform room_1 = true :=
  launch0.hasRoom_least _ room_1 (by decide +kernel) (by decide +kernel) (by decide +kernel) (by decide +kernel) (by decide +kernel) (by decide +kernel)
theorem allAtoms_all (ts : List Jvm.Cond) (a : Array Jvm.Value) (st : Jvm.State) : (allAtoms ts).before a st = ts.all (fun c => c.before a st) := by
  induction ts with
  | nil => rfl
  | cons c t ih =>
    show (Jvm.Cond.and c (allAtoms t)).before a st = _
    rw [Jvm.Cond.before_and, ih, List.all_cons]
def words1 : List Jvm.Cond := Jvm.Cond.code x code maxLocals ret :: tables_1
/-- a 'code' word, met by the world's own term for the bytes: nothing is compared byte by byte -/
theorem code_word {y : MethodName} {bytes : ByteArray} {mx : Nat} {rt : Option FieldType} {a : Array Value} {s : State} {m : MethodId} {meth : Method} {c : Code} (h1 : s.methodNamed? y = some m) (h2 : s.vm.method? m = some meth) (h3 : meth.code = some c) (h4 : c.code = bytes)
    (h5 : (c.maxLocals == mx && c.exceptionTable.isEmpty && decide (c.maxStack ≤ mostOperands) && decide (meth.sig.returnType = rt) && !meth.locks && decide (parseMethodDescriptor y.desc = some meth.sig)) = true) : (Jvm.Cond.code y bytes mx rt).before a s = true := by
  simp only [Bool.and_eq_true, beq_iff_eq, Bool.not_eq_true', decide_eq_true_eq] at h5
  obtain ⟨⟨⟨⟨⟨g1, g2⟩, g3⟩, g4⟩, g5⟩, g6⟩ := h5
  simp [Cond.before, Cond.holds, Cond.value, h1, h2, h3, h4, g1, g2, g3, g4, g5, g6]
def isCode : Jvm.Cond → Bool
  | .code _ _ _ _ => true
  | _ => false
theorem all_split {L : List Jvm.Cond} {P : Jvm.Cond → Bool} (h1 : L.all (fun c => isCode c || P c) = true) (h2 : ∀ c ∈ L.filter isCode, P c = true) : L.all P = true := by
  refine List.all_eq_true.mpr fun c hc => ?_
  have h := List.all_eq_true.mp h1 c hc
  rcases Bool.eq_false_or_eq_true (isCode c) with hi | hi
  · exact h2 c (List.mem_filter.mpr ⟨hc, hi⟩)
  · simpa [hi] using h
set_option maxRecDepth 65536 in
theorem w_c0 : (Jvm.Cond.code x code maxLocals ret).before args0 about1 = true := code_word (m := ⟨1, 3⟩) (meth := k1m3) (c := k1c3) (by decide +kernel) rfl rfl rfl (by decide +kernel)
set_option maxRecDepth 65536 in
theorem w_c1 : (Jvm.Cond.code ({ cls := "com/example/map21/map21/util/IriCharacters", name := "isUcschar", desc := "(I)Z" } : Jvm.MethodName) prog_38_method_4_code (2 : Nat) (Option.some Jvm.ClassFile.FieldType.boolean)).before args0 about1 = true := code_word (m := ⟨2, 1⟩) (meth := k2m1) (c := k2c1) (by decide +kernel) rfl rfl rfl (by decide +kernel)
set_option maxRecDepth 65536 in
theorem w_c2 : (Jvm.Cond.code ({ cls := "com/example/map21/map21/util/IriCharactersIsUcscharPinLaw", name := "ref", desc := "(I)Z" } : Jvm.MethodName) method_3_code (1 : Nat) (Option.some Jvm.ClassFile.FieldType.boolean)).before args0 about1 = true := code_word (m := ⟨1, 2⟩) (meth := k1m2) (c := k1c2) (by decide +kernel) rfl rfl rfl (by decide +kernel)
set_option maxRecDepth 65536 in
theorem w_c3 : (Jvm.Cond.code ({ cls := "com/example/map21/map21/util/IriCharactersIsUcscharPinLaw", name := "in", desc := "(III)Z" } : Jvm.MethodName) method_2_code (3 : Nat) (Option.some Jvm.ClassFile.FieldType.boolean)).before args0 about1 = true := code_word (m := ⟨1, 1⟩) (meth := k1m1) (c := k1c1) (by decide +kernel) rfl rfl rfl (by decide +kernel)
def codes1 : List Jvm.Cond := [Jvm.Cond.code x code maxLocals ret, Jvm.Cond.code ({ cls := "com/example/map21/map21/util/IriCharacters", name := "isUcschar", desc := "(I)Z" } : Jvm.MethodName) prog_38_method_4_code (2 : Nat) (Option.some Jvm.ClassFile.FieldType.boolean), Jvm.Cond.code ({ cls := "com/example/map21/map21/util/IriCharactersIsUcscharPinLaw", name := "ref", desc := "(I)Z" } : Jvm.MethodName) method_3_code (1 : Nat) (Option.some Jvm.ClassFile.FieldType.boolean), Jvm.Cond.code ({ cls := "com/example/map21/map21/util/IriCharactersIsUcscharPinLaw", name := "in", desc := "(III)Z" } : Jvm.MethodName) method_2_code (3 : Nat) (Option.some Jvm.ClassFile.FieldType.boolean)]
set_option maxRecDepth 65536 in
theorem codes_eq : words1.filter isCode = codes1 := rfl
theorem w_codes : ∀ c ∈ words1.filter isCode, c.before args0 about1 = true := by
  rw [codes_eq]
  intro c hc
  simp only [codes1, List.mem_cons, List.not_mem_nil, or_false] at hc
  rcases hc with rfl | rfl | rfl | rfl
  · exact w_c0
  · exact w_c1
  · exact w_c2
  · exact w_c3
set_option maxRecDepth 65536 in
theorem w_t1 : (words1.take 24).all (fun c => isCode c || c.before args0 about1) = true := by decide +kernel
set_option maxRecDepth 65536 in
theorem w_t2 : ((words1.drop 24).take 24).all (fun c => isCode c || c.before args0 about1) = true := by decide +kernel
set_option maxRecDepth 65536 in
theorem w_t3 : ((words1.drop 24).drop 24).all (fun c => isCode c || c.before args0 about1) = true := by decide +kernel
theorem w_tables : (allAtoms (Jvm.Cond.code x code maxLocals ret :: tables_1)).before args0 about1 = true := by
  rw [allAtoms_all]
  show words1.all (fun c => c.before args0 about1) = true
  refine all_split ?_ w_codes
  rw [← List.take_append_drop 24 words1, List.all_append, w_t1, ← List.take_append_drop 24 (words1.drop 24), List.all_append, w_t2, w_t3]
  rfl
set_option maxRecDepth 65536 in
theorem w_case : (Jvm.Cond.and given_1 narrow_1).before args0 about1 = true := by decide +kernel
theorem w_applies : (headSpec (Jvm.Cond.code x code maxLocals ret :: tables_1) room_1).applies x e0.platform about1 = true :=
  (Spec.applies_iff w_frames).mpr ⟨w_running, w_runnable, w_alone, w_named, w_hears, w_ripe, w_room, w_tables⟩
theorem atStart : AtStart classFile x code maxLocals ret World_1 tables_1 room_1 Calls_1 rest_1 Pre_1 launch0 p0 e0 about1 theMethod args0 below0 :=
  ⟨lists_1, trivial, launch0.admits_env _ _ _, launch0.least_env, fairChoices_fair.cas, fairChoices_fair.clock, w_frames, w_args, w_heap, w_applies, trivial, trivial, w_case⟩
end start1
theorem witness_1 : WitnessClaimed_1 := ⟨start1.p0, start1.e0, start1.about1, start1.theMethod, start1.args0, start1.below0, start1.atStart⟩
end Jvm.Pilot.@@N@@
