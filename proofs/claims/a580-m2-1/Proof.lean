import JvmDerived
import JvmDerived.Pilot.@@N@@Statement
import JvmDerived.Pilot.@@N@@Code
set_option linter.unusedVariables false
set_option linter.unusedSimpArgs false
namespace Jvm.Pilot.@@N@@
open Jvm Jvm.ClassFile Sem Op Lib Jvm.Free Jvm.Stand Jvm.LawKit Jvm.RoadKit Bundle Jvm.Pilot.@@N@@.Jvm.D
/-! the walk's own small layer: 'Go' (from this frame the run comes to an end that Q tells of), one law a return, one law a call -/
def Go (p : Program) (e : Env) (below : List Frame) (s : State) (C S : Nat) (Q : Option Value → Heap → List Loc → Prop) (T : State) (g : JFrame) : Prop :=
  ∃ s₂ o, Steps p.tables e below (T.setTop g) s₂ ∧ s₂.status = .running ∧ Ended s₂ below o ∧ ∃ v L, o = .returned v ∧ Q v s₂.heap L ∧ FrameEnd s o s₂ L C S
/-- a contract: called with these arguments over this heap, the method ends as Q says -/
def MQ (l : Launch) (Z : State) (y : MethodName) (bytes : ByteArray) (maxL : Nat) (rt : Option FieldType) (ws : List Jvm.Cond) (rm : Room) (as : Array Value) (h0 : Heap) (Q : Option Value → Heap → List Loc → Prop) : Prop :=
  MetFree l y (head1 (Jvm.Cond.code y bytes maxL rt :: ws) rm) (fun a U => a = as ∧ Z.Warmed39 U.vm ∧ U.heap = h0) (fun _ _ _ _ _ => True) (fun _ U o U' => ∃ v L, o = .returned v ∧ Q v U'.heap L ∧ FrameEnd U o U' L rm.cells rm.slots)
/-- what a method that writes nothing leaves -/
def QP (r : Option Value) (h0 : Heap) (v : Option Value) (h : Heap) (L : List Loc) : Prop := v = r ∧ h = h0 ∧ L = []
/-- Java's x >>> y, on ints and on longs -/
def ush (x y : Int32) : Int32 := (x.toUInt32 >>> (y &&& 31).toUInt32).toInt32
def ushL (x : Int64) (y : Int32) : Int64 := (x.toUInt64 >>> (y &&& 0x3f).toInt64.toUInt64).toInt64
section Layer
variable {p : Program} {l : Launch} {e : Env} {R : Room} {s : State} {m : MethodId} {args : Array Value} {below : List Frame} {meth : Method} {c : Code} {T T' : State} {locs : List Loc} {cells slots C S : Nat} {Q : Option Value → Heap → List Loc → Prop} {g g' : JFrame} {h : Heap} {Z : State} {a0 : Array Value}
theorem go_step (st : ∀ t, Steps p.tables e below (T'.setTop g') t → Steps p.tables e below (T.setTop g) t) (k : Go p e below s C S Q T' g') : Go p e below s C S Q T g := by
  obtain ⟨s₂, o, h1, r⟩ := k
  exact ⟨s₂, o, st _ h1, r⟩
theorem go_mono {C' S' : Nat} (hc : C ≤ C') (hs : S ≤ S') (k : Go p e below s C S Q T g) : Go p e below s C' S' Q T g := by
  obtain ⟨s₂, o, h1, h2, h3, v, L, h4, h5, h6, h7, h8⟩ := k
  exact ⟨s₂, o, h1, h2, h3, v, L, h4, h5, h6, h7, h8.mono hc hs⟩
theorem lremM {target : State} (X : Stand p l e R s m args below meth c T locs cells slots) (hx : p.tables.exec = Jvm.exec) (hg : g.method = m) {x y : Int64} {rest : List Value} (hd : decode c.code g.pc = .ok (.lrem, 1)) (hs : g.stack = .long y :: .long x :: rest) (hy : y ≠ 0)
    (hr : Steps p.tables e below (T.setTop { g with pc := g.pc + 1, stack := .long (x % y) :: rest }) target) : Steps p.tables e below (T.setTop g) target :=
  XS.lrem X.here hx hg hd hs hy (by rw [lrem_mod]; exact hr)
theorem lookYes {target : State} (X : Stand p l e R s m args below meth c T locs cells slots) (hx : p.tables.exec = Jvm.exec) (hg : g.method = m) {key : Int32} {rest : List Value} {d o kv : Int} {prs : Array (Int × Int)} {len pc0 pc' : Nat} (hpc : g.pc = pc0) (hd : decode c.code g.pc = .ok (.lookupswitch d prs, len)) (hs : g.stack = .int key :: rest) (hso : (prs.toList.zip (prs.toList.drop 1)).all (fun (a, next) => a.1 < next.1) = true) (hf : prs.find? (·.1 == key.toInt) = some (kv, o)) (ho : 0 ≤ (pc0 : Int) + o) (hp : ((pc0 : Int) + o).toNat = pc')
    (hr : Steps p.tables e below (T.setTop { g with pc := pc', stack := rest }) target) : Steps p.tables e below (T.setTop g) target := by
  subst hg hpc hp
  jvm_step X.here [X.here.top, hx, hd, hs, lookupswitch.wp_whole, hso, hf, ho]
  exact ⟨by simpa using hso, hr⟩
theorem lookNo {target : State} (X : Stand p l e R s m args below meth c T locs cells slots) (hx : p.tables.exec = Jvm.exec) (hg : g.method = m) {key : Int32} {rest : List Value} {d : Int} {prs : Array (Int × Int)} {len pc0 pc' : Nat} (hpc : g.pc = pc0) (hd : decode c.code g.pc = .ok (.lookupswitch d prs, len)) (hs : g.stack = .int key :: rest) (hso : (prs.toList.zip (prs.toList.drop 1)).all (fun (a, next) => a.1 < next.1) = true) (hf : prs.find? (·.1 == key.toInt) = none) (ho : 0 ≤ (pc0 : Int) + d) (hp : ((pc0 : Int) + d).toNat = pc')
    (hr : Steps p.tables e below (T.setTop { g with pc := pc', stack := rest }) target) : Steps p.tables e below (T.setTop g) target := by
  subst hg hpc hp
  jvm_step X.here [X.here.top, hx, hd, hs, lookupswitch.wp_whole, hso, hf, ho]
  exact ⟨by simpa using hso, hr⟩
theorem go_cast {r r' : Option Value} {h0 : Heap} (q : r = r') (k : Go p e below s C S (QP r' h0) T g) : Go p e below s C S (QP r h0) T g := q ▸ k
theorem mq_of {y : MethodName} {bytes : ByteArray} {maxL : Nat} {rt : Option FieldType} {ws : List Jvm.Cond} {rm : Room} {as : Array Value} {h0 : Heap} {Q : Option Value → Heap → List Loc → Prop} (hp : plainFor y = true)
    (body : ∀ (p : Program) (e : Env) (s : State) (m : MethodId) (below : List Frame) (meth : Method) (c : Code) (T : State), Stand p l e rm s m as below meth c T [] 0 0 → p.tables.exec = Jvm.exec → c.code = bytes → c.maxLocals = maxL → s.vm.findClass y.cls = some m.cls → meth.name = y.name → Z.Warmed39 s.vm → T.heap = h0 → meth.sig.returnType = rt → meth.locks = false → Go p e below s rm.cells rm.slots Q T (entryFrame m as maxL)) :
    MQ l Z y bytes maxL rt ws rm as h0 Q := by
  refine MetFree.of_bodySF hp hisR ?_
  intro p e s m args below meth c s₁ Bd hml0 hP hK
  obtain ⟨rfl, hZ, hh⟩ := hP
  exact body p e s m below meth c s₁ (Stand.of_body Bd) Bd.exec Bd.bytes hml0 (findClass_of_methodNamed Bd.named) (name_of_methodNamed Bd.named Bd.method).1 hZ (by rw [← hh, Bd.state]; rfl) Bd.returns Bd.notSynchronized
theorem go_retI (X : Stand p l e R s m args below meth c T locs cells slots) (hx : p.tables.exec = Jvm.exec) (hlk : meth.locks = false) (hret : meth.sig.returnType = some .int) {pc : Nat} {Ls : Array Slot} {z : Int32} {rest : List Value} (hd : decode c.code pc = .ok (.ireturn, 1)) (eT : T.heap = h) (hq : Q (some (.int z)) h locs) (hc : cells ≤ C) (hs : slots ≤ S) :
    Go p e below s C S Q T (mkF m pc Ls (.int z :: rest)) := by
  obtain ⟨fs, hr, hrun, hended, hW, hsame⟩ := X.leave (v := some (.int z)) (fun h => by rw [hret] at h; cases h) hlk
  exact ⟨_, _, retOut X hx hret rfl (Or.inl ⟨rfl, Or.inl rfl, z, rfl⟩) hd hr, hrun, hended, _, _, rfl, by (show Q _ T.heap _); rw [eT]; exact hq, ⟨_, rfl⟩, hW, hsame.mono hc hs⟩
theorem go_retZ (X : Stand p l e R s m args below meth c T locs cells slots) (hx : p.tables.exec = Jvm.exec) (hlk : meth.locks = false) (hret : meth.sig.returnType = some .boolean) {pc : Nat} {Ls : Array Slot} {z : Int32} {rest : List Value} (hd : decode c.code pc = .ok (.ireturn, 1)) (eT : T.heap = h) (hq : Q (some (.int (z &&& 1))) h locs) (hc : cells ≤ C) (hs : slots ≤ S) :
    Go p e below s C S Q T (mkF m pc Ls (.int z :: rest)) := by
  obtain ⟨fs, hr, hrun, hended, hW, hsame⟩ := X.leave (v := some (.int (z &&& 1))) (fun h => by rw [hret] at h; cases h) hlk
  exact ⟨_, _, retN X hx (t := .boolean) hret (by simp) hd hr, hrun, hended, _, _, rfl, by (show Q _ T.heap _); rw [eT]; exact hq, ⟨_, rfl⟩, hW, hsame.mono hc hs⟩
theorem go_retJ (X : Stand p l e R s m args below meth c T locs cells slots) (hx : p.tables.exec = Jvm.exec) (hlk : meth.locks = false) (hret : meth.sig.returnType = some .long) {pc : Nat} {Ls : Array Slot} {z : Int64} {rest : List Value} (hd : decode c.code pc = .ok (.lreturn, 1)) (eT : T.heap = h) (hq : Q (some (.long z)) h locs) (hc : cells ≤ C) (hs : slots ≤ S) :
    Go p e below s C S Q T (mkF m pc Ls (.long z :: rest)) := by
  obtain ⟨fs, hr, hrun, hended, hW, hsame⟩ := X.leave (v := some (.long z)) (fun h => by rw [hret] at h; cases h) hlk
  exact ⟨_, _, retOut X hx hret rfl (Or.inr (Or.inl ⟨rfl, rfl, z, rfl⟩)) hd hr, hrun, hended, _, _, rfl, by (show Q _ T.heap _); rw [eT]; exact hq, ⟨_, rfl⟩, hW, hsame.mono hc hs⟩
theorem go_retA (X : Stand p l e R s m args below meth c T locs cells slots) (hx : p.tables.exec = Jvm.exec) (hlk : meth.locks = false) {ty : FieldType} (hret : meth.sig.returnType = some ty) (hty : ty.isReference = true) {pc : Nat} {Ls : Array Slot} {a : Addr} {rest : List Value} (hd : decode c.code pc = .ok (.areturn, 1)) (eT : T.heap = h) (hq : Q (some (.ref a)) h locs) (hc : cells ≤ C) (hs : slots ≤ S) :
    Go p e below s C S Q T (mkF m pc Ls (.ref a :: rest)) := by
  obtain ⟨fs, hr, hrun, hended, hW, hsame⟩ := X.leave (v := some (.ref a)) (fun h => by rw [hret] at h; cases h) hlk
  exact ⟨_, _, retOut X hx hret (by cases ty <;> first | rfl | cases hty) (Or.inr (Or.inr (Or.inr (Or.inr ⟨rfl, hty, rfl⟩)))) hd hr, hrun, hended, _, _, rfl, by (show Q _ T.heap _); rw [eT]; exact hq, ⟨_, rfl⟩, hW, hsame.mono hc hs⟩
theorem go_retV (X : Stand p l e R s m args below meth c T locs cells slots) (hx : p.tables.exec = Jvm.exec) (hlk : meth.locks = false) (hret : meth.sig.returnType = none) {pc : Nat} {Ls : Array Slot} (hd : decode c.code pc = .ok (.return_, 1)) (eT : T.heap = h) (hq : Q none h locs) (hc : cells ≤ C) (hs : slots ≤ S) :
    Go p e below s C S Q T (mkF m pc Ls []) := by
  obtain ⟨fs, hr, hrun, hended, hW, hsame⟩ := X.leave (v := none) (fun _ => rfl) hlk
  exact ⟨_, _, X.returnOut hx hret hd hr, hrun, hended, _, _, rfl, by (show Q _ T.heap _); rw [eT]; exact hq, ⟨_, rfl⟩, hW, hsame.mono hc hs⟩
/-- invokestatic by the callee's contract -/
theorem go_callS (X : Stand p l e R s m args below meth c T locs cells slots) (hx : p.tables.exec = Jvm.exec) (hZ : Z.Warmed39 s.vm) {own : String} {index : Nat} {y : MethodName} {bytes : ByteArray} {maxL : Nat} {rt : Option FieldType} {rm : Room} {as : Array Value} {Q' : Option Value → Heap → List Loc → Prop}
    (hown : s.vm.findClass own = some m.cls) (w1 : (Cond.methodLink own index y).before a0 Z = true) (w2 : (Cond.static y).before a0 Z = true) (w3 : (Cond.initialized y.cls).before a0 Z = true) (w4 : (Cond.code y bytes maxL rt).before a0 Z = true)
    (hy : y.cls ≠ "java/lang/invoke/MethodHandle" ∧ y.cls ≠ "java/lang/invoke/VarHandle") (eT : T.heap = h) (hM : MQ l Z y bytes maxL rt [] rm as h Q') (W : Nat) (hf : rm.frames + 1 ≤ R.frames) (hl : W + (maxL + 11) + rm.locals ≤ R.locals)
    (hg : g.method = m) (hsize : g.locals.size = c.maxLocals) {argsL rest : List Value} (hlen : ∀ sig, parseMethodDescriptor y.desc = some sig → argsL.length = sig.parameters.length)
    (hstack : g.stack = argsL.reverse ++ rest) (hW : 2 * g.monitorRoom + (rest.map fun v => v.category).sum ≤ W) (hdg : decode c.code g.pc = .ok (.invokestatic index, 3)) (has : argsL.toArray = as) (hcells : cells + rm.cells ≤ R.cells) (hslots : slots + rm.slots ≤ R.slots)
    (k : ∀ (T' : State) (v : Option Value) (L : List Loc), Stand p l e R s m args below meth c T' (locs ++ L) (cells + rm.cells) (slots + rm.slots) → Q' v T'.heap L → Go p e below s C S Q T' { g with pc := g.pc + 3, stack := v.toList ++ rest }) :
    Go p e below s C S Q T g := by
  obtain ⟨v, _, ⟨T', L', k', n'⟩, -, X', ⟨Lc, hQ, l1, y1, z1⟩, st⟩ := Jvm.LawKit.callS X hx (y := y) hown (mvT hZ w1) (mvT hZ w2) (mvT hZ w3) (mvT hZ w4) hy (backOf (W := W) hM hZ w4 w3 hf hl) hg hsize (argsL := argsL) (rest := rest) hlen hstack hW hdg (fun _ _ => ⟨has, eT, hcells, hslots⟩)
  dsimp only [Pt.U, Pt.locs, Pt.cells, Pt.slots] at X' l1 y1 z1 st hQ
  subst l1 y1 z1
  exact go_step st (k T' v Lc X' hQ)
theorem go_callSP (X : Stand p l e R s m args below meth c T locs cells slots) (hx : p.tables.exec = Jvm.exec) (hZ : Z.Warmed39 s.vm) {own : String} {index : Nat} {y : MethodName} {bytes : ByteArray} {maxL : Nat} {rt : Option FieldType} {rm : Room} {as : Array Value} {r : Option Value}
    (hown : s.vm.findClass own = some m.cls) (w1 : (Cond.methodLink own index y).before a0 Z = true) (w2 : (Cond.static y).before a0 Z = true) (w3 : (Cond.initialized y.cls).before a0 Z = true) (w4 : (Cond.code y bytes maxL rt).before a0 Z = true)
    (hy : y.cls ≠ "java/lang/invoke/MethodHandle" ∧ y.cls ≠ "java/lang/invoke/VarHandle") (eT : T.heap = h) (hM : MQ l Z y bytes maxL rt [] rm as h (QP r h)) (W : Nat) (hf : rm.frames + 1 ≤ R.frames) (hl : W + (maxL + 11) + rm.locals ≤ R.locals)
    (hg : g.method = m) (hsize : g.locals.size = c.maxLocals) {argsL rest : List Value} (hlen : ∀ sig, parseMethodDescriptor y.desc = some sig → argsL.length = sig.parameters.length)
    (hstack : g.stack = argsL.reverse ++ rest) (hW : 2 * g.monitorRoom + (rest.map fun v => v.category).sum ≤ W) (hdg : decode c.code g.pc = .ok (.invokestatic index, 3)) (has : argsL.toArray = as) (hrc : rm.cells = 0) (hrs : rm.slots = 0) (hcells : cells ≤ R.cells) (hslots : slots ≤ R.slots)
    (k : ∀ (T' : State), Stand p l e R s m args below meth c T' locs cells slots → T'.heap = h → Go p e below s C S Q T' { g with pc := g.pc + 3, stack := r.toList ++ rest }) :
    Go p e below s C S Q T g :=
  go_callS X hx hZ hown w1 w2 w3 w4 hy eT hM W hf hl hg hsize hlen hstack hW hdg has (by rw [hrc]; exact hcells) (by rw [hrs]; exact hslots) fun T' v L X' hQ => by
    obtain ⟨rfl, e', rfl⟩ := hQ
    rw [hrc, hrs, List.append_nil] at X'
    exact k T' X' e'
end Layer
/-! the heap's part of the layer: arrays of numbers as lists, one law a step, in the 'Go' form -/
def PA (Z : State) (h : Heap) (a : Addr) (ty : FieldType) (vs : List Value) : Prop := ∃ c : Cell, Arr Z h a c ty ∧ c.slots = vs.toArray ∧ vs.length < 2 ^ 31
def IA (Z : State) (h : Heap) (a : Addr) (xs : List Int32) : Prop := PA Z h a .int (xs.map Value.int)
def JA (Z : State) (h : Heap) (a : Addr) (xs : List Int64) : Prop := PA Z h a .long (xs.map Value.long)
def BA (Z : State) (h : Heap) (a : Addr) (xs : List Int32) : Prop := PA Z h a .byte (xs.map Value.int)
theorem getD_some {α : Type} {xs : List α} {i : Nat} {d : α} (h : i < xs.length) : xs[i]? = some (xs.getD i d) := by simp [List.getD, h]
section Heapy
variable {p : Program} {l : Launch} {e : Env} {R : Room} {s : State} {m : MethodId} {args : Array Value} {below : List Frame} {meth : Method} {c : Code} {T T' : State} {locs : List Loc} {cells slots C S : Nat} {Q : Option Value → Heap → List Loc → Prop} {g g' : JFrame} {h h' h0 : Heap} {Z : State} {a0 : Array Value} {a b : Addr} {ty ty' : FieldType} {vs vs' : List Value} {ws : List Addr} {sl : Nat} {v : Value}
theorem PA.lt (A : PA Z h a ty vs) : a < h.size := by obtain ⟨c, A, -⟩ := A; exact A.lt
theorem PA.ext (A : PA Z h a ty vs) (E : Ext h h') : PA Z h' a ty vs := by obtain ⟨c, A, r⟩ := A; exact ⟨c, A.ext E, r⟩
theorem PA.other (A : PA Z h b ty vs) (W : Wr h h' a sl v) (q : b ≠ a) : PA Z h' b ty vs := by obtain ⟨c, A, r⟩ := A; exact ⟨c, A.other W q, r⟩
theorem PA.keep (A : PA Z h a ty vs) (K : Keep h h' ws) (q : a ∉ ws) : PA Z h' a ty vs := by obtain ⟨c, A, r⟩ := A; exact ⟨c, ⟨K.2.1 a c A.1 q, A.2⟩, r⟩
theorem PA.set {i : Nat} (A : PA Z h a ty vs) (W : Wr h h' a i v) : PA Z h' a ty (vs.set i v) := by
  obtain ⟨c, A, r, r2⟩ := A
  refine ⟨_, A.same W, ?_, by simpa using r2⟩
  simp [Cell.setSlot, r]
theorem IA.lt {xs : List Int32} (A : IA Z h a xs) : a < h.size := PA.lt A
theorem IA.ext {xs : List Int32} (A : IA Z h a xs) (E : Ext h h') : IA Z h' a xs := PA.ext A E
theorem IA.other {xs : List Int32} (A : IA Z h b xs) (W : Wr h h' a sl v) (q : b ≠ a) : IA Z h' b xs := PA.other A W q
theorem IA.keep {xs : List Int32} (A : IA Z h a xs) (K : Keep h h' ws) (q : a ∉ ws) : IA Z h' a xs := PA.keep A K q
theorem JA.lt {xs : List Int64} (A : JA Z h a xs) : a < h.size := PA.lt A
theorem JA.ext {xs : List Int64} (A : JA Z h a xs) (E : Ext h h') : JA Z h' a xs := PA.ext A E
theorem JA.other {xs : List Int64} (A : JA Z h b xs) (W : Wr h h' a sl v) (q : b ≠ a) : JA Z h' b xs := PA.other A W q
theorem JA.keep {xs : List Int64} (A : JA Z h a xs) (K : Keep h h' ws) (q : a ∉ ws) : JA Z h' a xs := PA.keep A K q
theorem BA.lt {xs : List Int32} (A : BA Z h a xs) : a < h.size := PA.lt A
theorem BA.ext {xs : List Int32} (A : BA Z h a xs) (E : Ext h h') : BA Z h' a xs := PA.ext A E
theorem BA.other {xs : List Int32} (A : BA Z h b xs) (W : Wr h h' a sl v) (q : b ≠ a) : BA Z h' b xs := PA.other A W q
theorem BA.keep {xs : List Int32} (A : BA Z h a xs) (K : Keep h h' ws) (q : a ∉ ws) : BA Z h' a xs := PA.keep A K q
theorem Exa.keepK {K : String} (F : Exa Z h a K) (q : Keep h h' ws) : Exa Z h' a K := Exa.keep F q
/-- arrays of two kinds are two arrays; an object of a class is none -/
theorem pa_ne (A : PA Z h a ty vs) (B : PA Z h b ty' vs') (hn : ty ≠ ty') : a ≠ b := fun q => by
  subst q
  obtain ⟨c1, A1, -⟩ := A
  obtain ⟨c2, B1, -⟩ := B
  cases A1.1.symm.trans B1.1
  obtain ⟨-, k1, j1, comp1, q1⟩ := A1.2.1
  obtain ⟨-, k2, j2, comp2, q2⟩ := B1.2.1
  cases j1.symm.trans j2
  rw [q1] at q2
  cases q2
  exact hn rfl
theorem exa_pa {K : String} {k : Nat} (F : Exa Z h a K) (wi : (Cond.instantiable K k).before a0 Z = true) (A : PA Z h b ty vs) : a ≠ b := by
  obtain ⟨c, A, -⟩ := A
  exact ne_arr F wi A
theorem PA.slot {i : Nat} (A : PA Z h a ty vs) {w : Value} (hv : vs[i]? = some w) : ∃ c : Cell, Arr Z h a c ty ∧ i < c.slots.size ∧ c.slots[i]? = some w := by
  obtain ⟨c, A, r, -⟩ := A
  have hi := (List.getElem?_eq_some_iff.mp hv).1
  exact ⟨c, A, by rw [r]; simpa using hi, by rw [r]; simpa using hv⟩
theorem go_iaload (X : Stand p l e R s m args below meth c T locs cells slots) (hx : p.tables.exec = Jvm.exec) (hZ : Z.Warmed39 s.vm) (eT : T.heap = h) {xs : List Int32} (A : IA Z h a xs) {j w : Int32} (hj : ¬ j < 0) (hv : xs[j.toNatClampNeg]? = some w) {rest : List Value} (hg : g.method = m) (hs : g.stack = .int j :: .ref a :: rest) (hd : decode c.code g.pc = .ok (.iaload, 1))
    (k : Go p e below s C S Q T { g with pc := g.pc + 1, stack := .int w :: rest }) : Go p e below s C S Q T g := by
  obtain ⟨cl, A, hi, hv'⟩ := PA.slot A (w := .int w) (by rw [List.getElem?_map, hv]; rfl)
  exact go_step (X.iaload hx (j := j) (v := .int w) (by rw [eT]; exact A.1) (State.isArrayOf_alike hZ.alike A.2.1) A.2.2 (fun q => q.elim hj (fun q => Nat.not_le_of_lt hi q)) hv' hg hs hd) k
theorem go_laload (X : Stand p l e R s m args below meth c T locs cells slots) (hx : p.tables.exec = Jvm.exec) (hZ : Z.Warmed39 s.vm) (eT : T.heap = h) {xs : List Int64} (A : JA Z h a xs) {j : Int32} {w : Int64} (hj : ¬ j < 0) (hv : xs[j.toNatClampNeg]? = some w) {rest : List Value} (hg : g.method = m) (hs : g.stack = .int j :: .ref a :: rest) (hd : decode c.code g.pc = .ok (.laload, 1))
    (k : Go p e below s C S Q T { g with pc := g.pc + 1, stack := .long w :: rest }) : Go p e below s C S Q T g := by
  obtain ⟨cl, A, hi, hv'⟩ := PA.slot A (w := .long w) (by rw [List.getElem?_map, hv]; rfl)
  exact go_step (X.laload hx (j := j) (v := .long w) (by rw [eT]; exact A.1) (State.isArrayOf_alike hZ.alike A.2.1) A.2.2 (fun q => q.elim hj (fun q => Nat.not_le_of_lt hi q)) hv' hg hs hd) k
theorem go_baload (X : Stand p l e R s m args below meth c T locs cells slots) (hx : p.tables.exec = Jvm.exec) (hZ : Z.Warmed39 s.vm) (eT : T.heap = h) {xs : List Int32} (A : BA Z h a xs) {j w : Int32} (hj : ¬ j < 0) (hv : xs[j.toNatClampNeg]? = some w) {rest : List Value} (hg : g.method = m) (hs : g.stack = .int j :: .ref a :: rest) (hd : decode c.code g.pc = .ok (.baload, 1))
    (k : Go p e below s C S Q T { g with pc := g.pc + 1, stack := .int w :: rest }) : Go p e below s C S Q T g := by
  obtain ⟨cl, A, hi, hv'⟩ := PA.slot A (w := .int w) (by rw [List.getElem?_map, hv]; rfl)
  exact go_step (X.baloadBytes hx (j := j) (v := .int w) (by rw [eT]; exact A.1) (State.isArrayOf_alike hZ.alike A.2.1) A.2.2 (fun q => q.elim hj (fun q => Nat.not_le_of_lt hi q)) hv' hg hs hd) k
theorem go_alen (X : Stand p l e R s m args below meth c T locs cells slots) (hx : p.tables.exec = Jvm.exec) (hZ : Z.Warmed39 s.vm) (eT : T.heap = h) (A : PA Z h a ty vs) {z : Int32} (hz : vs.length.toInt32 = z) {rest : List Value} (hg : g.method = m) (hs : g.stack = .ref a :: rest) (hd : decode c.code g.pc = .ok (.arraylength, 1))
    (k : Go p e below s C S Q T { g with pc := g.pc + 1, stack := .int z :: rest }) : Go p e below s C S Q T g := by
  obtain ⟨cl, A, r, -⟩ := A
  have q : cl.slots.size.toInt32 = z := by rw [r]; simpa using hz
  subst q
  exact go_step (X.arraylength hx (by rw [eT]; exact A.1) (State.isArrayOf_alike hZ.alike A.2.1) hg hs hd) k
theorem go_iastore (X : Stand p l e R s m args below meth c T locs cells slots) (hx : p.tables.exec = Jvm.exec) (hZ : Z.Warmed39 s.vm) (eT : T.heap = h) {xs : List Int32} (A : IA Z h a xs) {j w : Int32} (hj : ¬ j < 0) (hl : j.toNatClampNeg < xs.length) {rest : List Value} (hg : g.method = m) (hs : g.stack = .int w :: .int j :: .ref a :: rest) (hd : decode c.code g.pc = .ok (.iastore, 1))
    (k : ∀ (T' : State) (h' : Heap), Stand p l e R s m args below meth c T' (locs ++ [⟨a, j.toNatClampNeg⟩]) cells slots → T'.heap = h' → Wr h h' a j.toNatClampNeg (.int w) → IA Z h' a (xs.set j.toNatClampNeg w) → Go p e below s C S Q T' { g with pc := g.pc + 1, stack := rest }) : Go p e below s C S Q T g := by
  have A' := A
  obtain ⟨cl, A, r, -⟩ := A
  obtain ⟨T', h', X', e', W, st⟩ := stI X hx hZ eT A (j := j) (x := w) (fun q => q.elim hj (fun q => by rw [r] at q; simp at q; omega)) hg hs hd
  exact go_step st (k T' h' X' e' W (by rw [IA, List.map_set]; exact PA.set A' W))
theorem go_lastore (X : Stand p l e R s m args below meth c T locs cells slots) (hx : p.tables.exec = Jvm.exec) (hZ : Z.Warmed39 s.vm) (eT : T.heap = h) {xs : List Int64} (A : JA Z h a xs) {j : Int32} {w : Int64} (hj : ¬ j < 0) (hl : j.toNatClampNeg < xs.length) {rest : List Value} (hg : g.method = m) (hs : g.stack = .long w :: .int j :: .ref a :: rest) (hd : decode c.code g.pc = .ok (.lastore, 1))
    (k : ∀ (T' : State) (h' : Heap), Stand p l e R s m args below meth c T' (locs ++ [⟨a, j.toNatClampNeg⟩]) cells slots → T'.heap = h' → Wr h h' a j.toNatClampNeg (.long w) → JA Z h' a (xs.set j.toNatClampNeg w) → Go p e below s C S Q T' { g with pc := g.pc + 1, stack := rest }) : Go p e below s C S Q T g := by
  have A' := A
  obtain ⟨cl, A, r, -⟩ := A
  obtain ⟨T', h', X', e', W, st⟩ := stJ X hx hZ eT A (j := j) (x := w) (fun q => q.elim hj (fun q => by rw [r] at q; simp at q; omega)) hg hs hd
  exact go_step st (k T' h' X' e' W (by rw [JA, List.map_set]; exact PA.set A' W))
theorem go_bastore (X : Stand p l e R s m args below meth c T locs cells slots) (hx : p.tables.exec = Jvm.exec) (hZ : Z.Warmed39 s.vm) (eT : T.heap = h) {xs : List Int32} (A : BA Z h a xs) {j w : Int32} (hj : ¬ j < 0) (hl : j.toNatClampNeg < xs.length) {rest : List Value} (hg : g.method = m) (hs : g.stack = .int w :: .int j :: .ref a :: rest) (hd : decode c.code g.pc = .ok (.bastore, 1))
    (k : ∀ (T' : State) (h' : Heap), Stand p l e R s m args below meth c T' (locs ++ [⟨a, j.toNatClampNeg⟩]) cells slots → T'.heap = h' → Wr h h' a j.toNatClampNeg (.int w.toInt8.toInt32) → BA Z h' a (xs.set j.toNatClampNeg w.toInt8.toInt32) → Go p e below s C S Q T' { g with pc := g.pc + 1, stack := rest }) : Go p e below s C S Q T g := by
  have A' := A
  obtain ⟨cl, A, r, -⟩ := A
  obtain ⟨T', h', X', e', W, st⟩ := stB X hx hZ eT A (j := j) (x := w) (fun q => q.elim hj (fun q => by rw [r] at q; simp at q; omega)) hg hs hd
  exact go_step st (k T' h' X' e' W (by rw [BA, List.map_set]; exact PA.set A' W))
/-- newarray of a kind of numbers: 'n' of them at most 'cap' -/
theorem go_newP (X : Stand p l e R s m args below meth c T locs cells slots) (hx : p.tables.exec = Jvm.exec) (hZ : Z.Warmed39 s.vm) {aty : ArrayType} (w : (Cond.arrayClass (newarray.typeOf aty)).before a0 Z = true) (eT : T.heap = h) {n : Int32} {rest : List Value} (cap : Nat) (hn : ¬ n < 0) (hcap : n.toNatClampNeg ≤ cap) (hb : cap * 8 ≤ 536870912) (hc : cells + 1 ≤ R.cells) (hl : slots + cap ≤ R.slots) (hg : g.method = m) (hs : g.stack = .int n :: rest) (hd : decode c.code g.pc = .ok (.newarray aty, 2))
    (k : ∀ (T' : State) (h' : Heap) (b : Addr), Stand p l e R s m args below meth c T' locs (cells + 1) (slots + cap) → T'.heap = h' → Ext h h' → b = h.size → PA Z h' b (newarray.typeOf aty) (List.replicate n.toNatClampNeg (defaultValue (newarray.typeOf aty))) → Go p e below s C S Q T' { g with pc := g.pc + 2, stack := .ref b :: rest }) : Go p e below s C S Q T g := by
  obtain ⟨T', h', cA, X', e', E, A, st⟩ := newP X hx hZ w eT hg hd hs hn hcap hb hc hl
  refine go_step st (k T' h' _ X' e' E rfl ⟨_, A, by simp [newA], ?_⟩)
  have := n.toInt_lt
  simp only [List.length_replicate, Int32.toNatClampNeg]; omega
theorem go_new (X : Stand p l e R s m args below meth c T locs cells slots) (hx : p.tables.exec = Jvm.exec) (hZ : Z.Warmed39 s.vm) {own K : String} {index n : Nat} (hown : s.vm.findClass own = some m.cls) (w : (Cond.classLink own index K).before a0 Z = true) (wi : (Cond.instantiable K n).before a0 Z = true) (wz : (Cond.initialized K).before a0 Z = true) (eT : T.heap = h) (hc : cells + 1 ≤ R.cells) (hl : slots + n ≤ R.slots) (hg : g.method = m) (hd : decode c.code g.pc = .ok (.new index, 3))
    (k : ∀ (T' : State) (h' : Heap) (b : Addr), Stand p l e R s m args below meth c T' locs (cells + 1) (slots + n) → T'.heap = h' → Ext h h' → b = h.size → Exa Z h' b K → (∀ {O nm d : String} {ty : FieldType}, Laid Z a0 K O nm d → parseFieldDescriptor d = some ty → Fld Z h' b O nm d (defaultValue ty)) → Go p e below s C S Q T' { g with pc := g.pc + 3, stack := .ref b :: g.stack }) : Go p e below s C S Q T g := by
  obtain ⟨T', h', X', e', E, A, D, -, st⟩ := newO X hx hZ hown w wi wz eT hg hd hc hl
  exact go_step st (k T' h' _ X' e' E rfl A D)
theorem go_getF (X : Stand p l e R s m args below meth c T locs cells slots) (hx : p.tables.exec = Jvm.exec) (hZ : Z.Warmed39 s.vm) {own O n d : String} {index : Nat} (hown : s.vm.findClass own = some m.cls) (w : (Cond.fieldLink own index O n d).before a0 Z = true) (eT : T.heap = h) {w0 : Value} (F : Fld Z h a O n d w0) {rest : List Value} (hg : g.method = m) (hs : g.stack = .ref a :: rest) (hd : decode c.code g.pc = .ok (.getfield index, 3))
    (k : ∀ (T' : State), Stand p l e R s m args below meth c T' locs cells slots → T'.heap = h → Go p e below s C S Q T' { g with pc := g.pc + 3, stack := w0 :: rest }) : Go p e below s C S Q T g := by
  obtain ⟨T', X', e', st⟩ := getF X hx hZ hown (host := "") (Or.inl w) Via.refl eT F hg hs hd
  exact go_step st (k T' X' e')
theorem go_putF (X : Stand p l e R s m args below meth c T locs cells slots) (hx : p.tables.exec = Jvm.exec) (hZ : Z.Warmed39 s.vm) {own O n d K : String} {index kk : Nat} {ty : FieldType} (hown : s.vm.findClass own = some m.cls) (w : (Cond.fieldLink own index O n d).before a0 Z = true) (eT : T.heap = h) {w0 old : Value} (F : Fld Z h a O n d old) (E : Exa Z h a K) (L : (Cond.lays K O n d).before a0 Z = true ∨ ((Cond.laysFinal K O n d).before a0 Z = true ∧ own = O ∧ meth.name = "<init>")) (wi : (Cond.instantiable K kk).before a0 Z = true) (hty : parseFieldDescriptor d = some ty) (hn : narrow ty w0 = w0) (hf : fits ty w0 = true) {rest : List Value} (hg : g.method = m) (hs : g.stack = w0 :: .ref a :: rest) (hd : decode c.code g.pc = .ok (.putfield index, 3))
    (k : ∀ (T' : State) (h' : Heap), Stand p l e R s m args below meth c T' (locs ++ [⟨a, Jvm.RoadKit.slotOf Z O n d⟩]) cells slots → T'.heap = h' → Wr h h' a (Jvm.RoadKit.slotOf Z O n d) w0 → Fld Z h' a O n d w0 → Go p e below s C S Q T' { g with pc := g.pc + 3, stack := rest }) : Go p e below s C S Q T g := by
  obtain ⟨T', h', X', e', W, st⟩ := putF X hx hZ hown (host := "") (Or.inl w) Via.refl eT F E L wi hty hn hf hg hs hd
  exact go_step st (k T' h' X' e' W (F.same W))
theorem go_init (X : Stand p l e R s m args below meth c T locs cells slots) (hx : p.tables.exec = Jvm.exec) (hZ : Z.Warmed39 s.vm) {own : String} {idx : Nat} (hown : s.vm.findClass own = some m.cls) (w1 : (Cond.methodLink own idx Lib.objectInit).before a0 Z = true) (w2 : (Cond.instanceMethod Lib.objectInit).before a0 Z = true) (w3 : (Cond.code Lib.objectInit ⟨#[0xb1]⟩ 1 none).before a0 Z = true) (eT : T.heap = h) (hg : g.method = m) (hsize : g.locals.size = c.maxLocals) {rest : List Value} (hs : g.stack = .ref a :: rest) (hd : decode c.code g.pc = .ok (.invokespecial idx, 3)) (hf : 1 ≤ R.frames) (W : Nat) (hW : 2 * g.monitorRoom + (rest.map fun v => v.category).sum ≤ W) (hl : W + 12 ≤ R.locals)
    (k : ∀ (T' : State), Stand p l e R s m args below meth c T' locs cells slots → T'.heap = h → Go p e below s C S Q T' { g with pc := g.pc + 3, stack := rest }) : Go p e below s C S Q T g := by
  obtain ⟨T', X', e', st⟩ := initO X hx hZ hown w1 w2 w3 eT hg hsize hs hd hf (W := W) hW hl
  exact go_step st (k T' X' e')
/-- a constructor by its contract -/
theorem go_callC (X : Stand p l e R s m args below meth c T locs cells slots) (hx : p.tables.exec = Jvm.exec) (hZ : Z.Warmed39 s.vm) {own : String} {index : Nat} {y : MethodName} {bytes : ByteArray} {maxL : Nat} {rm : Room} {as : Array Value} {Q' : Option Value → Heap → List Loc → Prop} (hy1 : y.name = "<init>")
    (hown : s.vm.findClass own = some m.cls) (w1 : (Cond.methodLink own index y).before a0 Z = true) (w2 : (Cond.instanceMethod y).before a0 Z = true) (w3 : (Cond.initialized y.cls).before a0 Z = true) (w4 : (Cond.code y bytes maxL none).before a0 Z = true)
    (hy : y.cls ≠ "java/lang/invoke/MethodHandle" ∧ y.cls ≠ "java/lang/invoke/VarHandle") (eT : T.heap = h) (hM : MQ l Z y bytes maxL none [] rm as h Q') (W : Nat) (hf : rm.frames + 1 ≤ R.frames) (hl : W + (maxL + 11) + rm.locals ≤ R.locals)
    (hg : g.method = m) (hsize : g.locals.size = c.maxLocals) {argsL rest : List Value} (hlen : ∀ sig, parseMethodDescriptor y.desc = some sig → argsL.length = sig.parameters.length)
    (hstack : g.stack = argsL.reverse ++ .ref a :: rest) (hW : 2 * g.monitorRoom + (rest.map fun v => v.category).sum ≤ W) (hdg : decode c.code g.pc = .ok (.invokespecial index, 3)) (has : (.ref a :: argsL).toArray = as) (hcells : cells + rm.cells ≤ R.cells) (hslots : slots + rm.slots ≤ R.slots)
    (k : ∀ (T' : State) (v : Option Value) (L : List Loc), Stand p l e R s m args below meth c T' (locs ++ L) (cells + rm.cells) (slots + rm.slots) → Q' v T'.heap L → Go p e below s C S Q T' { g with pc := g.pc + 3, stack := v.toList ++ rest }) :
    Go p e below s C S Q T g := by
  obtain ⟨v, _, ⟨T', L', k', n'⟩, -, X', ⟨Lc, hQ, l1, y1, z1⟩, st⟩ := X.specialBack hx (y := y) hy1 hown (mvT hZ w1) (mvT hZ w2) (mvT hZ w4) hy (backOf (W := W) hM hZ w4 w3 hf hl) hg hsize (Steps.refl _) (a := a) (argsL := argsL) (rest := rest) hlen hstack hW hdg (fun _ _ => ⟨has, eT, hcells, hslots⟩)
  dsimp only [Pt.U, Pt.locs, Pt.cells, Pt.slots] at X' l1 y1 z1 st hQ
  subst l1 y1 z1
  exact go_step (fun t k => st.trans k) (k T' v Lc X' hQ)
/-- an instance method by its contract -/
theorem go_callV (X : Stand p l e R s m args below meth c T locs cells slots) (hx : p.tables.exec = Jvm.exec) (hZ : Z.Warmed39 s.vm) {own : String} {index : Nat} {y : MethodName} {bytes : ByteArray} {maxL : Nat} {rt : Option FieldType} {rm : Room} {as : Array Value} {Q' : Option Value → Heap → List Loc → Prop}
    (hown : s.vm.findClass own = some m.cls) (w1 : (Cond.methodLink own index y).before a0 Z = true) (w2 : (Cond.declares y).before a0 Z = true) (w5 : (Cond.selects y.cls y y).before a0 Z = true) (w6 : (Cond.instanceMethod y).before a0 Z = true) (w3 : (Cond.initialized y.cls).before a0 Z = true) (w4 : (Cond.code y bytes maxL rt).before a0 Z = true)
    (hy : y.cls ≠ "java/lang/invoke/MethodHandle" ∧ y.cls ≠ "java/lang/invoke/VarHandle") (eT : T.heap = h) (E : Exa Z h a y.cls) (hM : MQ l Z y bytes maxL rt [] rm as h Q') (W : Nat) (hf : rm.frames + 1 ≤ R.frames) (hl : W + (maxL + 11) + rm.locals ≤ R.locals)
    (hg : g.method = m) (hsize : g.locals.size = c.maxLocals) {argsL rest : List Value} (hlen : ∀ sig, parseMethodDescriptor y.desc = some sig → argsL.length = sig.parameters.length)
    (hstack : g.stack = argsL.reverse ++ .ref a :: rest) (hW : 2 * g.monitorRoom + (rest.map fun v => v.category).sum ≤ W) (hdg : decode c.code g.pc = .ok (.invokevirtual index, 3)) (has : (.ref a :: argsL).toArray = as) (hcells : cells + rm.cells ≤ R.cells) (hslots : slots + rm.slots ≤ R.slots)
    (k : ∀ (T' : State) (v : Option Value) (L : List Loc), Stand p l e R s m args below meth c T' (locs ++ L) (cells + rm.cells) (slots + rm.slots) → Q' v T'.heap L → Go p e below s C S Q T' { g with pc := g.pc + 3, stack := v.toList ++ rest }) :
    Go p e below s C S Q T g := by
  obtain ⟨cq, kq, qa, qb, qc⟩ := isOf hZ eT E
  obtain ⟨v, _, ⟨T', L', k', n'⟩, -, X', ⟨Lc, hQ, l1, y1, z1⟩, st⟩ := X.virtualBack hx (y := y) (z := y) hown (mvT hZ w1) (mvT hZ w2) (notFace_of_selects (args := #[]) (mvT hZ w5)) (mvT hZ w5) (mvT hZ w6) hy (backOf (W := W) hM hZ w4 w3 hf hl) qa qc hg hsize (Steps.refl _) (argsL := argsL) (rest := rest) hlen hstack hW hdg (fun _ _ => ⟨has, eT, hcells, hslots⟩)
  dsimp only [Pt.U, Pt.locs, Pt.cells, Pt.slots] at X' l1 y1 z1 st hQ
  subst l1 y1 z1
  exact go_step (fun t k => st.trans k) (k T' v Lc X' hQ)
theorem go_callVP (X : Stand p l e R s m args below meth c T locs cells slots) (hx : p.tables.exec = Jvm.exec) (hZ : Z.Warmed39 s.vm) {own : String} {index : Nat} {y : MethodName} {bytes : ByteArray} {maxL : Nat} {rt : Option FieldType} {rm : Room} {as : Array Value} {r : Option Value}
    (hown : s.vm.findClass own = some m.cls) (w1 : (Cond.methodLink own index y).before a0 Z = true) (w2 : (Cond.declares y).before a0 Z = true) (w5 : (Cond.selects y.cls y y).before a0 Z = true) (w6 : (Cond.instanceMethod y).before a0 Z = true) (w3 : (Cond.initialized y.cls).before a0 Z = true) (w4 : (Cond.code y bytes maxL rt).before a0 Z = true)
    (hy : y.cls ≠ "java/lang/invoke/MethodHandle" ∧ y.cls ≠ "java/lang/invoke/VarHandle") (eT : T.heap = h) (E : Exa Z h a y.cls) (hM : MQ l Z y bytes maxL rt [] rm as h (QP r h)) (W : Nat) (hf : rm.frames + 1 ≤ R.frames) (hl : W + (maxL + 11) + rm.locals ≤ R.locals)
    (hg : g.method = m) (hsize : g.locals.size = c.maxLocals) {argsL rest : List Value} (hlen : ∀ sig, parseMethodDescriptor y.desc = some sig → argsL.length = sig.parameters.length)
    (hstack : g.stack = argsL.reverse ++ .ref a :: rest) (hW : 2 * g.monitorRoom + (rest.map fun v => v.category).sum ≤ W) (hdg : decode c.code g.pc = .ok (.invokevirtual index, 3)) (has : (.ref a :: argsL).toArray = as) (hrc : rm.cells = 0) (hrs : rm.slots = 0) (hcells : cells ≤ R.cells) (hslots : slots ≤ R.slots)
    (k : ∀ (T' : State), Stand p l e R s m args below meth c T' locs cells slots → T'.heap = h → Go p e below s C S Q T' { g with pc := g.pc + 3, stack := r.toList ++ rest }) :
    Go p e below s C S Q T g :=
  go_callV X hx hZ hown w1 w2 w5 w6 w3 w4 hy eT E hM W hf hl hg hsize hlen hstack hW hdg has (by rw [hrc]; exact hcells) (by rw [hrs]; exact hslots) fun T' v L X' hQ => by
    obtain ⟨rfl, e', rfl⟩ := hQ
    rw [hrc, hrs, List.append_nil] at X'
    exact k T' X' e'
/-- a private instance method by its contract -/
theorem go_callR (X : Stand p l e R s m args below meth c T locs cells slots) (hx : p.tables.exec = Jvm.exec) (hZ : Z.Warmed39 s.vm) {own : String} {index : Nat} {y : MethodName} {bytes : ByteArray} {maxL : Nat} {rt : Option FieldType} {rm : Room} {as : Array Value} {Q' : Option Value → Heap → List Loc → Prop}
    (hown : s.vm.findClass own = some m.cls) (w1 : (Cond.methodLink own index y).before a0 Z = true) (w6 : (Cond.instanceMethod y).before a0 Z = true) (w5 : (Cond.selects y.cls y y).before a0 Z = true) (w7 : (Cond.privateMethod y).before a0 Z = true) (w3 : (Cond.initialized y.cls).before a0 Z = true) (w4 : (Cond.code y bytes maxL rt).before a0 Z = true)
    (hy : y.cls ≠ "java/lang/invoke/MethodHandle" ∧ y.cls ≠ "java/lang/invoke/VarHandle") (eT : T.heap = h) {K : String} (E : Exa Z h a K) (hM : MQ l Z y bytes maxL rt [] rm as h Q') (W : Nat) (hf : rm.frames + 1 ≤ R.frames) (hl : W + (maxL + 11) + rm.locals ≤ R.locals)
    (hg : g.method = m) (hsize : g.locals.size = c.maxLocals) {argsL rest : List Value} (hlen : ∀ sig, parseMethodDescriptor y.desc = some sig → argsL.length = sig.parameters.length)
    (hstack : g.stack = argsL.reverse ++ .ref a :: rest) (hW : 2 * g.monitorRoom + (rest.map fun v => v.category).sum ≤ W) (hdg : decode c.code g.pc = .ok (.invokevirtual index, 3)) (has : (.ref a :: argsL).toArray = as) (hcells : cells + rm.cells ≤ R.cells) (hslots : slots + rm.slots ≤ R.slots)
    (k : ∀ (T' : State) (v : Option Value) (L : List Loc), Stand p l e R s m args below meth c T' (locs ++ L) (cells + rm.cells) (slots + rm.slots) → Q' v T'.heap L → Go p e below s C S Q T' { g with pc := g.pc + 3, stack := v.toList ++ rest }) :
    Go p e below s C S Q T g := by
  obtain ⟨cq, q1, q2⟩ := E.cell
  obtain ⟨v, _, ⟨T', L', k', n'⟩, -, X', ⟨Lc, hQ, l1, y1, z1⟩, st⟩ := X.privateBack hx (y := y) hown (mvT hZ w1) (mvT hZ w6) (mvT hZ w5) (Cond.privateMethod_at (mvP hZ w7 (args := #[]))) (mvT hZ w4) hy (backOf (W := W) hM hZ w4 w3 hf hl) hg hsize (Steps.refl _) (a := a) (by rw [eT]; exact q1) q2 (argsL := argsL) (rest := rest) hlen hstack hW hdg (fun _ _ => ⟨has, eT, hcells, hslots⟩)
  dsimp only [Pt.U, Pt.locs, Pt.cells, Pt.slots] at X' l1 y1 z1 st hQ
  subst l1 y1 z1
  exact go_step (fun t k => st.trans k) (k T' v Lc X' hQ)
theorem go_callRP (X : Stand p l e R s m args below meth c T locs cells slots) (hx : p.tables.exec = Jvm.exec) (hZ : Z.Warmed39 s.vm) {own : String} {index : Nat} {y : MethodName} {bytes : ByteArray} {maxL : Nat} {rt : Option FieldType} {rm : Room} {as : Array Value} {r : Option Value}
    (hown : s.vm.findClass own = some m.cls) (w1 : (Cond.methodLink own index y).before a0 Z = true) (w6 : (Cond.instanceMethod y).before a0 Z = true) (w5 : (Cond.selects y.cls y y).before a0 Z = true) (w7 : (Cond.privateMethod y).before a0 Z = true) (w3 : (Cond.initialized y.cls).before a0 Z = true) (w4 : (Cond.code y bytes maxL rt).before a0 Z = true)
    (hy : y.cls ≠ "java/lang/invoke/MethodHandle" ∧ y.cls ≠ "java/lang/invoke/VarHandle") (eT : T.heap = h) {K : String} (E : Exa Z h a K) (hM : MQ l Z y bytes maxL rt [] rm as h (QP r h)) (W : Nat) (hf : rm.frames + 1 ≤ R.frames) (hl : W + (maxL + 11) + rm.locals ≤ R.locals)
    (hg : g.method = m) (hsize : g.locals.size = c.maxLocals) {argsL rest : List Value} (hlen : ∀ sig, parseMethodDescriptor y.desc = some sig → argsL.length = sig.parameters.length)
    (hstack : g.stack = argsL.reverse ++ .ref a :: rest) (hW : 2 * g.monitorRoom + (rest.map fun v => v.category).sum ≤ W) (hdg : decode c.code g.pc = .ok (.invokevirtual index, 3)) (has : (.ref a :: argsL).toArray = as) (hrc : rm.cells = 0) (hrs : rm.slots = 0) (hcells : cells ≤ R.cells) (hslots : slots ≤ R.slots)
    (k : ∀ (T' : State), Stand p l e R s m args below meth c T' locs cells slots → T'.heap = h → Go p e below s C S Q T' { g with pc := g.pc + 3, stack := r.toList ++ rest }) :
    Go p e below s C S Q T g :=
  go_callR X hx hZ hown w1 w6 w5 w7 w3 w4 hy eT E hM W hf hl hg hsize hlen hstack hW hdg has (by rw [hrc]; exact hcells) (by rw [hrs]; exact hslots) fun T' v L X' hQ => by
    obtain ⟨rfl, e', rfl⟩ := hQ
    rw [hrc, hrs, List.append_nil] at X'
    exact k T' X' e'
theorem go_join (X : Stand p l e R s m args below meth c T locs cells slots) (k1 : (∀ (T' : State), Stand p l e R s m args below meth c T' locs cells slots → T'.heap = h → Go p e below s C S Q T' g') → Go p e below s C S Q T g) (k2 : ∀ (T' : State), Stand p l e R s m args below meth c T' locs cells slots → T'.heap = h → Go p e below s C S Q T' g') : Go p e below s C S Q T g := k1 k2
end Heapy

theorem pd_0 : parseMethodDescriptor "(I)Z" = some ⟨[.int], some .boolean⟩ := by decide +kernel
theorem own_idx (v : Int32) : ¬ ((ush v (2 : Int32)) &&& (15 : Int32)) < 0 ∧ ((ush v (2 : Int32)) &&& (15 : Int32)).toNatClampNeg < 16 := by
  have m2 := c_and (ush v (2 : Int32)) (15 : Int32) (by decide)
  rw [show (15 : Int32).toInt = 15 by decide] at m2
  constructor
  · rw [Int32.lt_iff_toInt_lt, show (0 : Int32).toInt = 0 by decide]; omega
  · unfold Int32.toNatClampNeg; omega

theorem d1_0 : decode prog_38_method_5_code 0 = .ok (.iload_n 0, 1) := by decide +kernel
theorem d1_1 : decode prog_38_method_5_code 1 = .ok (.ldc 32, 2) := by decide +kernel
theorem d1_3 : decode prog_38_method_5_code 3 = .ok (.if_icmp .lt 9, 3) := by decide +kernel
theorem d1_6 : decode prog_38_method_5_code 6 = .ok (.iload_n 0, 1) := by decide +kernel
theorem d1_7 : decode prog_38_method_5_code 7 = .ok (.ldc 33, 2) := by decide +kernel
theorem d1_9 : decode prog_38_method_5_code 9 = .ok (.if_icmp .le 24, 3) := by decide +kernel
theorem d1_12 : decode prog_38_method_5_code 12 = .ok (.iload_n 0, 1) := by decide +kernel
theorem d1_13 : decode prog_38_method_5_code 13 = .ok (.ldc 34, 2) := by decide +kernel
theorem d1_15 : decode prog_38_method_5_code 15 = .ok (.if_icmp .lt 22, 3) := by decide +kernel
theorem d1_18 : decode prog_38_method_5_code 18 = .ok (.iload_n 0, 1) := by decide +kernel
theorem d1_19 : decode prog_38_method_5_code 19 = .ok (.ldc 35, 2) := by decide +kernel
theorem d1_21 : decode prog_38_method_5_code 21 = .ok (.if_icmp .gt 16, 3) := by decide +kernel
theorem d1_24 : decode prog_38_method_5_code 24 = .ok (.iload_n 0, 1) := by decide +kernel
theorem d1_25 : decode prog_38_method_5_code 25 = .ok (.ldc 21, 2) := by decide +kernel
theorem d1_27 : decode prog_38_method_5_code 27 = .ok (.iand, 1) := by decide +kernel
theorem d1_28 : decode prog_38_method_5_code 28 = .ok (.ldc 29, 2) := by decide +kernel
theorem d1_30 : decode prog_38_method_5_code 30 = .ok (.if_icmp .gt 7, 3) := by decide +kernel
theorem d1_33 : decode prog_38_method_5_code 33 = .ok (.iconst 1, 1) := by decide +kernel
theorem d1_34 : decode prog_38_method_5_code 34 = .ok (.goto 4, 3) := by decide +kernel
theorem d1_37 : decode prog_38_method_5_code 37 = .ok (.iconst 0, 1) := by decide +kernel
theorem d1_38 : decode prog_38_method_5_code 38 = .ok (.ireturn, 1) := by decide +kernel
def f1_12 (v0 : Int32) : Int32 := (if v0 < (983040 : Int32) then (0 : Int32) else (if (1114109 : Int32) < v0 then (0 : Int32) else (if (65533 : Int32) < (v0 &&& (65535 : Int32)) then (0 : Int32) else (1 : Int32))))
set_option maxRecDepth 65536 in
set_option maxHeartbeats 4000000 in
theorem b1_12 {p : Program} {l : Launch} {e : Env} {s : State} {m : MethodId} {args : Array Value} {below : List Frame} {meth : Method} {c : Code} {T0 : State} {Z : State} {a0 : Array Value} {h0 : Heap} {locs : List Loc} {cells slots : Nat} {Q : Option Value → Heap → List Loc → Prop} (hw : ∀ d ∈ tables_1, d.before a0 Z = true) (hx : p.tables.exec = Jvm.exec) (hby : c.code = prog_38_method_5_code) (hml : c.maxLocals = 1) (hown : s.vm.findClass "com/example/map21/map21/util/IriCharacters" = some m.cls) (hZ : Z.Warmed39 s.vm) (hret : meth.sig.returnType = some .boolean) (hlk : meth.locks = false) (X0 : Stand p l e ({ frames := 0, cells := 0, slots := 0, locals := 0 } : Room) s m args below meth c T0 locs cells slots) (e0 : T0.heap = h0) (hc : cells ≤ ({ frames := 0, cells := 0, slots := 0, locals := 0 } : Room).cells) (hs : slots ≤ ({ frames := 0, cells := 0, slots := 0, locals := 0 } : Room).slots) (v0 : Int32) (hq : Q (some (.int (f1_12 v0))) h0 locs) :
    Go p e below s ({ frames := 0, cells := 0, slots := 0, locals := 0 } : Room).cells ({ frames := 0, cells := 0, slots := 0, locals := 0 } : Room).slots Q T0 (mkF m 12 #[.val (.int v0)] []) := by
  unfold f1_12 at hq
  refine go_step (T' := T0) (g' := (mkF m 13 #[.val (.int v0)] [(.int v0)])) (fun t k => XS.iloadN X0.here hx rfl (hb hby d1_12) rfl  k) ?_
  refine go_step (T' := T0) (g' := (mkF m 15 #[.val (.int v0)] [(.int (983040 : Int32)), (.int v0)])) (X0.ldcInt hx hown (mvT hZ (hw _ (List.mem_of_getElem? (i := 23) rfl))) (g := (mkF m 13 #[.val (.int v0)] [(.int v0)])) rfl (hb hby d1_13)) ?_
  by_cases hc0 : v0 < (983040 : Int32)
  · rw [if_pos hc0] at hq
    refine go_step (T' := T0) (g' := (mkF m 37 #[.val (.int v0)] [])) (fun t k => XS.icmpYes X0.here hx rfl (pc0 := 15) (pc' := 37) rfl (hb hby d1_15) rfl (tlt hc0).1 (by decide) (by decide) k) ?_
    refine go_step (T' := T0) (g' := (mkF m 38 #[.val (.int v0)] [(.int (0 : Int32))])) (fun t k => XS.iconst X0.here hx rfl (hb hby d1_37) k) ?_
    exact go_retZ X0 hx hlk hret (hb hby d1_38) e0 hq hc hs
  · rw [if_neg hc0] at hq
    refine go_step (T' := T0) (g' := (mkF m 18 #[.val (.int v0)] [])) (fun t k => XS.icmpNo X0.here hx rfl (hb hby d1_15) rfl (flt hc0).1 k) ?_
    refine go_step (T' := T0) (g' := (mkF m 19 #[.val (.int v0)] [(.int v0)])) (fun t k => XS.iloadN X0.here hx rfl (hb hby d1_18) rfl  k) ?_
    refine go_step (T' := T0) (g' := (mkF m 21 #[.val (.int v0)] [(.int (1114109 : Int32)), (.int v0)])) (X0.ldcInt hx hown (mvT hZ (hw _ (List.mem_of_getElem? (i := 24) rfl))) (g := (mkF m 19 #[.val (.int v0)] [(.int v0)])) rfl (hb hby d1_19)) ?_
    by_cases hc1 : (1114109 : Int32) < v0
    · rw [if_pos hc1] at hq
      refine go_step (T' := T0) (g' := (mkF m 37 #[.val (.int v0)] [])) (fun t k => XS.icmpYes X0.here hx rfl (pc0 := 21) (pc' := 37) rfl (hb hby d1_21) rfl (tlt hc1).2.2.1 (by decide) (by decide) k) ?_
      refine go_step (T' := T0) (g' := (mkF m 38 #[.val (.int v0)] [(.int (0 : Int32))])) (fun t k => XS.iconst X0.here hx rfl (hb hby d1_37) k) ?_
      exact go_retZ X0 hx hlk hret (hb hby d1_38) e0 hq hc hs
    · rw [if_neg hc1] at hq
      refine go_step (T' := T0) (g' := (mkF m 24 #[.val (.int v0)] [])) (fun t k => XS.icmpNo X0.here hx rfl (hb hby d1_21) rfl (flt hc1).2.2.1 k) ?_
      refine go_step (T' := T0) (g' := (mkF m 25 #[.val (.int v0)] [(.int v0)])) (fun t k => XS.iloadN X0.here hx rfl (hb hby d1_24) rfl  k) ?_
      refine go_step (T' := T0) (g' := (mkF m 27 #[.val (.int v0)] [(.int (65535 : Int32)), (.int v0)])) (X0.ldcInt hx hown (mvT hZ (hw _ (List.mem_of_getElem? (i := 25) rfl))) (g := (mkF m 25 #[.val (.int v0)] [(.int v0)])) rfl (hb hby d1_25)) ?_
      refine go_step (T' := T0) (g' := (mkF m 28 #[.val (.int v0)] [(.int (v0 &&& (65535 : Int32)))])) (fun t k => XS.iand X0.here hx rfl (hb hby d1_27) rfl k) ?_
      refine go_step (T' := T0) (g' := (mkF m 30 #[.val (.int v0)] [(.int (65533 : Int32)), (.int (v0 &&& (65535 : Int32)))])) (X0.ldcInt hx hown (mvT hZ (hw _ (List.mem_of_getElem? (i := 26) rfl))) (g := (mkF m 28 #[.val (.int v0)] [(.int (v0 &&& (65535 : Int32)))])) rfl (hb hby d1_28)) ?_
      by_cases hc2 : (65533 : Int32) < (v0 &&& (65535 : Int32))
      · rw [if_pos hc2] at hq
        refine go_step (T' := T0) (g' := (mkF m 37 #[.val (.int v0)] [])) (fun t k => XS.icmpYes X0.here hx rfl (pc0 := 30) (pc' := 37) rfl (hb hby d1_30) rfl (tlt hc2).2.2.1 (by decide) (by decide) k) ?_
        refine go_step (T' := T0) (g' := (mkF m 38 #[.val (.int v0)] [(.int (0 : Int32))])) (fun t k => XS.iconst X0.here hx rfl (hb hby d1_37) k) ?_
        exact go_retZ X0 hx hlk hret (hb hby d1_38) e0 hq hc hs
      · rw [if_neg hc2] at hq
        refine go_step (T' := T0) (g' := (mkF m 33 #[.val (.int v0)] [])) (fun t k => XS.icmpNo X0.here hx rfl (hb hby d1_30) rfl (flt hc2).2.2.1 k) ?_
        refine go_step (T' := T0) (g' := (mkF m 34 #[.val (.int v0)] [(.int (1 : Int32))])) (fun t k => XS.iconst X0.here hx rfl (hb hby d1_33) k) ?_
        refine go_step (T' := T0) (g' := (mkF m 38 #[.val (.int v0)] [(.int (1 : Int32))])) (fun t k => XS.goto X0.here hx rfl (pc0 := 34) (pc' := 38) rfl (hb hby d1_34) (by decide) (by decide) k) ?_
        exact go_retZ X0 hx hlk hret (hb hby d1_38) e0 hq hc hs
def f1_0 (v0 : Int32) : Int32 := (if v0 < (57344 : Int32) then (f1_12 v0) else (if (63743 : Int32) < v0 then (f1_12 v0) else (1 : Int32)))
set_option maxRecDepth 65536 in
set_option maxHeartbeats 4000000 in
theorem b1_0 {p : Program} {l : Launch} {e : Env} {s : State} {m : MethodId} {args : Array Value} {below : List Frame} {meth : Method} {c : Code} {T0 : State} {Z : State} {a0 : Array Value} {h0 : Heap} {locs : List Loc} {cells slots : Nat} {Q : Option Value → Heap → List Loc → Prop} (hw : ∀ d ∈ tables_1, d.before a0 Z = true) (hx : p.tables.exec = Jvm.exec) (hby : c.code = prog_38_method_5_code) (hml : c.maxLocals = 1) (hown : s.vm.findClass "com/example/map21/map21/util/IriCharacters" = some m.cls) (hZ : Z.Warmed39 s.vm) (hret : meth.sig.returnType = some .boolean) (hlk : meth.locks = false) (X0 : Stand p l e ({ frames := 0, cells := 0, slots := 0, locals := 0 } : Room) s m args below meth c T0 locs cells slots) (e0 : T0.heap = h0) (hc : cells ≤ ({ frames := 0, cells := 0, slots := 0, locals := 0 } : Room).cells) (hs : slots ≤ ({ frames := 0, cells := 0, slots := 0, locals := 0 } : Room).slots) (v0 : Int32) (hq : Q (some (.int (f1_0 v0))) h0 locs) :
    Go p e below s ({ frames := 0, cells := 0, slots := 0, locals := 0 } : Room).cells ({ frames := 0, cells := 0, slots := 0, locals := 0 } : Room).slots Q T0 (mkF m 0 #[.val (.int v0)] []) := by
  unfold f1_0 at hq
  refine go_step (T' := T0) (g' := (mkF m 1 #[.val (.int v0)] [(.int v0)])) (fun t k => XS.iloadN X0.here hx rfl (hb hby d1_0) rfl  k) ?_
  refine go_step (T' := T0) (g' := (mkF m 3 #[.val (.int v0)] [(.int (57344 : Int32)), (.int v0)])) (X0.ldcInt hx hown (mvT hZ (hw _ (List.mem_of_getElem? (i := 21) rfl))) (g := (mkF m 1 #[.val (.int v0)] [(.int v0)])) rfl (hb hby d1_1)) ?_
  by_cases hc0 : v0 < (57344 : Int32)
  · rw [if_pos hc0] at hq
    refine go_step (T' := T0) (g' := (mkF m 12 #[.val (.int v0)] [])) (fun t k => XS.icmpYes X0.here hx rfl (pc0 := 3) (pc' := 12) rfl (hb hby d1_3) rfl (tlt hc0).1 (by decide) (by decide) k) ?_
    exact b1_12 hw hx hby hml hown hZ hret hlk X0 e0 hc hs v0 hq
  · rw [if_neg hc0] at hq
    refine go_step (T' := T0) (g' := (mkF m 6 #[.val (.int v0)] [])) (fun t k => XS.icmpNo X0.here hx rfl (hb hby d1_3) rfl (flt hc0).1 k) ?_
    refine go_step (T' := T0) (g' := (mkF m 7 #[.val (.int v0)] [(.int v0)])) (fun t k => XS.iloadN X0.here hx rfl (hb hby d1_6) rfl  k) ?_
    refine go_step (T' := T0) (g' := (mkF m 9 #[.val (.int v0)] [(.int (63743 : Int32)), (.int v0)])) (X0.ldcInt hx hown (mvT hZ (hw _ (List.mem_of_getElem? (i := 22) rfl))) (g := (mkF m 7 #[.val (.int v0)] [(.int v0)])) rfl (hb hby d1_7)) ?_
    by_cases hc1 : (63743 : Int32) < v0
    · rw [if_pos hc1] at hq
      refine go_step (T' := T0) (g' := (mkF m 12 #[.val (.int v0)] [])) (fun t k => XS.icmpNo X0.here hx rfl (hb hby d1_9) rfl (tlt hc1).2.2.2 k) ?_
      exact b1_12 hw hx hby hml hown hZ hret hlk X0 e0 hc hs v0 hq
    · rw [if_neg hc1] at hq
      refine go_step (T' := T0) (g' := (mkF m 33 #[.val (.int v0)] [])) (fun t k => XS.icmpYes X0.here hx rfl (pc0 := 9) (pc' := 33) rfl (hb hby d1_9) rfl (flt hc1).2.2.2 (by decide) (by decide) k) ?_
      refine go_step (T' := T0) (g' := (mkF m 34 #[.val (.int v0)] [(.int (1 : Int32))])) (fun t k => XS.iconst X0.here hx rfl (hb hby d1_33) k) ?_
      refine go_step (T' := T0) (g' := (mkF m 38 #[.val (.int v0)] [(.int (1 : Int32))])) (fun t k => XS.goto X0.here hx rfl (pc0 := 34) (pc' := 38) rfl (hb hby d1_34) (by decide) (by decide) k) ?_
      exact go_retZ X0 hx hlk hret (hb hby d1_38) e0 hq hc hs
theorem ef1 (m : MethodId) (v0 : Int32) : entryFrame m #[(.int v0)] 1 = (mkF m 0 #[.val (.int v0)] []) := by first | (simp [entryFrame, mkF, argsToLocals, Value.category]; done) | rfl
theorem pn1 : plainName "com/example/map21/map21/util/IriCharacters" = true := by first | (simp [plainName, overriddenIn]; done) | decide +kernel
set_option maxRecDepth 65536 in
theorem mq1 (l : Launch) (Z : State) (a0 : Array Value) (hw : ∀ d ∈ tables_1, d.before a0 Z = true) (v0 : Int32) (h0 : Heap) : MQ l Z (⟨"com/example/map21/map21/util/IriCharacters", "isIprivate", "(I)Z"⟩ : MethodName) prog_38_method_5_code 1 (some .boolean) [] ({ frames := 0, cells := 0, slots := 0, locals := 0 } : Room) #[(.int v0)] h0 (QP (some (.int (f1_0 v0))) h0) := by
  refine mq_of (plainFor_of_name pn1) ?_
  intro p e s m below meth c T0 X0 hx hby hml hown hnm hZ e0 hret hlk
  rw [ef1]
  exact b1_0 hw hx hby hml hown hZ hret hlk X0 e0 (Nat.zero_le _) (Nat.zero_le _) v0 ⟨rfl, rfl, rfl⟩
theorem d2_0 : decode method_2_code 0 = .ok (.iload_n 0, 1) := by decide +kernel
theorem d2_1 : decode method_2_code 1 = .ok (.ldc 7, 2) := by decide +kernel
theorem d2_3 : decode method_2_code 3 = .ok (.if_icmp .lt 13, 3) := by decide +kernel
theorem d2_6 : decode method_2_code 6 = .ok (.iload_n 0, 1) := by decide +kernel
theorem d2_7 : decode method_2_code 7 = .ok (.ldc 8, 2) := by decide +kernel
theorem d2_9 : decode method_2_code 9 = .ok (.if_icmp .gt 7, 3) := by decide +kernel
theorem d2_12 : decode method_2_code 12 = .ok (.iconst 1, 1) := by decide +kernel
theorem d2_13 : decode method_2_code 13 = .ok (.goto 4, 3) := by decide +kernel
theorem d2_16 : decode method_2_code 16 = .ok (.iconst 0, 1) := by decide +kernel
theorem d2_17 : decode method_2_code 17 = .ok (.istore_n 1, 1) := by decide +kernel
theorem d2_18 : decode method_2_code 18 = .ok (.iload_n 0, 1) := by decide +kernel
theorem d2_19 : decode method_2_code 19 = .ok (.ldc 9, 2) := by decide +kernel
theorem d2_21 : decode method_2_code 21 = .ok (.if_icmp .lt 13, 3) := by decide +kernel
theorem d2_24 : decode method_2_code 24 = .ok (.iload_n 0, 1) := by decide +kernel
theorem d2_25 : decode method_2_code 25 = .ok (.ldc 10, 2) := by decide +kernel
theorem d2_27 : decode method_2_code 27 = .ok (.if_icmp .gt 7, 3) := by decide +kernel
theorem d2_30 : decode method_2_code 30 = .ok (.iconst 1, 1) := by decide +kernel
theorem d2_31 : decode method_2_code 31 = .ok (.goto 4, 3) := by decide +kernel
theorem d2_34 : decode method_2_code 34 = .ok (.iconst 0, 1) := by decide +kernel
theorem d2_35 : decode method_2_code 35 = .ok (.istore_n 2, 1) := by decide +kernel
theorem d2_36 : decode method_2_code 36 = .ok (.iload_n 0, 1) := by decide +kernel
theorem d2_37 : decode method_2_code 37 = .ok (.ldc 11, 2) := by decide +kernel
theorem d2_39 : decode method_2_code 39 = .ok (.if_icmp .lt 13, 3) := by decide +kernel
theorem d2_42 : decode method_2_code 42 = .ok (.iload_n 0, 1) := by decide +kernel
theorem d2_43 : decode method_2_code 43 = .ok (.ldc 12, 2) := by decide +kernel
theorem d2_45 : decode method_2_code 45 = .ok (.if_icmp .gt 7, 3) := by decide +kernel
theorem d2_48 : decode method_2_code 48 = .ok (.iconst 1, 1) := by decide +kernel
theorem d2_49 : decode method_2_code 49 = .ok (.goto 4, 3) := by decide +kernel
theorem d2_52 : decode method_2_code 52 = .ok (.iconst 0, 1) := by decide +kernel
theorem d2_53 : decode method_2_code 53 = .ok (.istore_n 3, 1) := by decide +kernel
theorem d2_54 : decode method_2_code 54 = .ok (.iload_n 1, 1) := by decide +kernel
theorem d2_55 : decode method_2_code 55 = .ok (.ifCond .ne 11, 3) := by decide +kernel
theorem d2_58 : decode method_2_code 58 = .ok (.iload_n 2, 1) := by decide +kernel
theorem d2_59 : decode method_2_code 59 = .ok (.ifCond .ne 7, 3) := by decide +kernel
theorem d2_62 : decode method_2_code 62 = .ok (.iload_n 3, 1) := by decide +kernel
theorem d2_63 : decode method_2_code 63 = .ok (.ifCond .eq 7, 3) := by decide +kernel
theorem d2_66 : decode method_2_code 66 = .ok (.iconst 1, 1) := by decide +kernel
theorem d2_67 : decode method_2_code 67 = .ok (.goto 4, 3) := by decide +kernel
theorem d2_70 : decode method_2_code 70 = .ok (.iconst 0, 1) := by decide +kernel
theorem d2_71 : decode method_2_code 71 = .ok (.ireturn, 1) := by decide +kernel
def f2_53 (v0 : Int32) (v1 : Int32) (v2 : Int32) (t0 : Int32) : Int32 := (if v1 = (0 : Int32) then (if v2 = (0 : Int32) then (if t0 = (0 : Int32) then (0 : Int32) else (1 : Int32)) else (1 : Int32)) else (1 : Int32))
set_option maxRecDepth 65536 in
set_option maxHeartbeats 4000000 in
theorem b2_53 {p : Program} {l : Launch} {e : Env} {s : State} {m : MethodId} {args : Array Value} {below : List Frame} {meth : Method} {c : Code} {T0 : State} {Z : State} {a0 : Array Value} {h0 : Heap} {locs : List Loc} {cells slots : Nat} {Q : Option Value → Heap → List Loc → Prop} (hw : ∀ d ∈ tables_1, d.before a0 Z = true) (hx : p.tables.exec = Jvm.exec) (hby : c.code = method_2_code) (hml : c.maxLocals = 4) (hown : s.vm.findClass "com/example/map21/map21/util/IriCharactersIsIprivatePinLaw" = some m.cls) (hZ : Z.Warmed39 s.vm) (hret : meth.sig.returnType = some .boolean) (hlk : meth.locks = false) (X0 : Stand p l e ({ frames := 0, cells := 0, slots := 0, locals := 0 } : Room) s m args below meth c T0 locs cells slots) (e0 : T0.heap = h0) (hc : cells ≤ ({ frames := 0, cells := 0, slots := 0, locals := 0 } : Room).cells) (hs : slots ≤ ({ frames := 0, cells := 0, slots := 0, locals := 0 } : Room).slots) (v0 : Int32) (v1 : Int32) (v2 : Int32) (t0 : Int32) (hq : Q (some (.int (f2_53 v0 v1 v2 t0))) h0 locs) :
    Go p e below s ({ frames := 0, cells := 0, slots := 0, locals := 0 } : Room).cells ({ frames := 0, cells := 0, slots := 0, locals := 0 } : Room).slots Q T0 (mkF m 53 #[.val (.int v0), .val (.int v1), .val (.int v2), .unset] [(.int t0)]) := by
  unfold f2_53 at hq
  refine go_step (T' := T0) (g' := (mkF m 54 #[.val (.int v0), .val (.int v1), .val (.int v2), .val (.int t0)] [])) (fun t k => XS.istoreN X0.here hx rfl (hb hby d2_53) rfl (l' := #[.val (.int v0), .val (.int v1), .val (.int v2), .val (.int t0)]) rfl k) ?_
  refine go_step (T' := T0) (g' := (mkF m 55 #[.val (.int v0), .val (.int v1), .val (.int v2), .val (.int t0)] [(.int v1)])) (fun t k => XS.iloadN X0.here hx rfl (hb hby d2_54) rfl  k) ?_
  by_cases hc0 : v1 = (0 : Int32)
  · rw [if_pos hc0] at hq
    refine go_step (T' := T0) (g' := (mkF m 58 #[.val (.int v0), .val (.int v1), .val (.int v2), .val (.int t0)] [])) (fun t k => XS.ifNo X0.here hx rfl (hb hby d2_55) rfl ((if0 _ _).trans (teq hc0).2) k) ?_
    refine go_step (T' := T0) (g' := (mkF m 59 #[.val (.int v0), .val (.int v1), .val (.int v2), .val (.int t0)] [(.int v2)])) (fun t k => XS.iloadN X0.here hx rfl (hb hby d2_58) rfl  k) ?_
    by_cases hc1 : v2 = (0 : Int32)
    · rw [if_pos hc1] at hq
      refine go_step (T' := T0) (g' := (mkF m 62 #[.val (.int v0), .val (.int v1), .val (.int v2), .val (.int t0)] [])) (fun t k => XS.ifNo X0.here hx rfl (hb hby d2_59) rfl ((if0 _ _).trans (teq hc1).2) k) ?_
      refine go_step (T' := T0) (g' := (mkF m 63 #[.val (.int v0), .val (.int v1), .val (.int v2), .val (.int t0)] [(.int t0)])) (fun t k => XS.iloadN X0.here hx rfl (hb hby d2_62) rfl  k) ?_
      by_cases hc2 : t0 = (0 : Int32)
      · rw [if_pos hc2] at hq
        refine go_step (T' := T0) (g' := (mkF m 70 #[.val (.int v0), .val (.int v1), .val (.int v2), .val (.int t0)] [])) (fun t k => XS.ifYes X0.here hx rfl (pc0 := 63) (pc' := 70) rfl (hb hby d2_63) rfl ((if0 _ _).trans (teq hc2).1) (by decide) (by decide) k) ?_
        refine go_step (T' := T0) (g' := (mkF m 71 #[.val (.int v0), .val (.int v1), .val (.int v2), .val (.int t0)] [(.int (0 : Int32))])) (fun t k => XS.iconst X0.here hx rfl (hb hby d2_70) k) ?_
        exact go_retZ X0 hx hlk hret (hb hby d2_71) e0 hq hc hs
      · rw [if_neg hc2] at hq
        refine go_step (T' := T0) (g' := (mkF m 66 #[.val (.int v0), .val (.int v1), .val (.int v2), .val (.int t0)] [])) (fun t k => XS.ifNo X0.here hx rfl (hb hby d2_63) rfl ((if0 _ _).trans (feq hc2).1) k) ?_
        refine go_step (T' := T0) (g' := (mkF m 67 #[.val (.int v0), .val (.int v1), .val (.int v2), .val (.int t0)] [(.int (1 : Int32))])) (fun t k => XS.iconst X0.here hx rfl (hb hby d2_66) k) ?_
        refine go_step (T' := T0) (g' := (mkF m 71 #[.val (.int v0), .val (.int v1), .val (.int v2), .val (.int t0)] [(.int (1 : Int32))])) (fun t k => XS.goto X0.here hx rfl (pc0 := 67) (pc' := 71) rfl (hb hby d2_67) (by decide) (by decide) k) ?_
        exact go_retZ X0 hx hlk hret (hb hby d2_71) e0 hq hc hs
    · rw [if_neg hc1] at hq
      refine go_step (T' := T0) (g' := (mkF m 66 #[.val (.int v0), .val (.int v1), .val (.int v2), .val (.int t0)] [])) (fun t k => XS.ifYes X0.here hx rfl (pc0 := 59) (pc' := 66) rfl (hb hby d2_59) rfl ((if0 _ _).trans (feq hc1).2) (by decide) (by decide) k) ?_
      refine go_step (T' := T0) (g' := (mkF m 67 #[.val (.int v0), .val (.int v1), .val (.int v2), .val (.int t0)] [(.int (1 : Int32))])) (fun t k => XS.iconst X0.here hx rfl (hb hby d2_66) k) ?_
      refine go_step (T' := T0) (g' := (mkF m 71 #[.val (.int v0), .val (.int v1), .val (.int v2), .val (.int t0)] [(.int (1 : Int32))])) (fun t k => XS.goto X0.here hx rfl (pc0 := 67) (pc' := 71) rfl (hb hby d2_67) (by decide) (by decide) k) ?_
      exact go_retZ X0 hx hlk hret (hb hby d2_71) e0 hq hc hs
  · rw [if_neg hc0] at hq
    refine go_step (T' := T0) (g' := (mkF m 66 #[.val (.int v0), .val (.int v1), .val (.int v2), .val (.int t0)] [])) (fun t k => XS.ifYes X0.here hx rfl (pc0 := 55) (pc' := 66) rfl (hb hby d2_55) rfl ((if0 _ _).trans (feq hc0).2) (by decide) (by decide) k) ?_
    refine go_step (T' := T0) (g' := (mkF m 67 #[.val (.int v0), .val (.int v1), .val (.int v2), .val (.int t0)] [(.int (1 : Int32))])) (fun t k => XS.iconst X0.here hx rfl (hb hby d2_66) k) ?_
    refine go_step (T' := T0) (g' := (mkF m 71 #[.val (.int v0), .val (.int v1), .val (.int v2), .val (.int t0)] [(.int (1 : Int32))])) (fun t k => XS.goto X0.here hx rfl (pc0 := 67) (pc' := 71) rfl (hb hby d2_67) (by decide) (by decide) k) ?_
    exact go_retZ X0 hx hlk hret (hb hby d2_71) e0 hq hc hs
def f2_52 (v0 : Int32) (v1 : Int32) (v2 : Int32) : Int32 := (f2_53 v0 v1 v2 (0 : Int32))
set_option maxRecDepth 65536 in
set_option maxHeartbeats 4000000 in
theorem b2_52 {p : Program} {l : Launch} {e : Env} {s : State} {m : MethodId} {args : Array Value} {below : List Frame} {meth : Method} {c : Code} {T0 : State} {Z : State} {a0 : Array Value} {h0 : Heap} {locs : List Loc} {cells slots : Nat} {Q : Option Value → Heap → List Loc → Prop} (hw : ∀ d ∈ tables_1, d.before a0 Z = true) (hx : p.tables.exec = Jvm.exec) (hby : c.code = method_2_code) (hml : c.maxLocals = 4) (hown : s.vm.findClass "com/example/map21/map21/util/IriCharactersIsIprivatePinLaw" = some m.cls) (hZ : Z.Warmed39 s.vm) (hret : meth.sig.returnType = some .boolean) (hlk : meth.locks = false) (X0 : Stand p l e ({ frames := 0, cells := 0, slots := 0, locals := 0 } : Room) s m args below meth c T0 locs cells slots) (e0 : T0.heap = h0) (hc : cells ≤ ({ frames := 0, cells := 0, slots := 0, locals := 0 } : Room).cells) (hs : slots ≤ ({ frames := 0, cells := 0, slots := 0, locals := 0 } : Room).slots) (v0 : Int32) (v1 : Int32) (v2 : Int32) (hq : Q (some (.int (f2_52 v0 v1 v2))) h0 locs) :
    Go p e below s ({ frames := 0, cells := 0, slots := 0, locals := 0 } : Room).cells ({ frames := 0, cells := 0, slots := 0, locals := 0 } : Room).slots Q T0 (mkF m 52 #[.val (.int v0), .val (.int v1), .val (.int v2), .unset] []) := by
  unfold f2_52 at hq
  refine go_step (T' := T0) (g' := (mkF m 53 #[.val (.int v0), .val (.int v1), .val (.int v2), .unset] [(.int (0 : Int32))])) (fun t k => XS.iconst X0.here hx rfl (hb hby d2_52) k) ?_
  exact b2_53 hw hx hby hml hown hZ hret hlk X0 e0 hc hs v0 v1 v2 (0 : Int32) hq
def f2_35 (v0 : Int32) (v1 : Int32) (t0 : Int32) : Int32 := (if v0 < (1048576 : Int32) then (f2_52 v0 v1 t0) else (if (1114109 : Int32) < v0 then (f2_52 v0 v1 t0) else (f2_53 v0 v1 t0 (1 : Int32))))
set_option maxRecDepth 65536 in
set_option maxHeartbeats 4000000 in
theorem b2_35 {p : Program} {l : Launch} {e : Env} {s : State} {m : MethodId} {args : Array Value} {below : List Frame} {meth : Method} {c : Code} {T0 : State} {Z : State} {a0 : Array Value} {h0 : Heap} {locs : List Loc} {cells slots : Nat} {Q : Option Value → Heap → List Loc → Prop} (hw : ∀ d ∈ tables_1, d.before a0 Z = true) (hx : p.tables.exec = Jvm.exec) (hby : c.code = method_2_code) (hml : c.maxLocals = 4) (hown : s.vm.findClass "com/example/map21/map21/util/IriCharactersIsIprivatePinLaw" = some m.cls) (hZ : Z.Warmed39 s.vm) (hret : meth.sig.returnType = some .boolean) (hlk : meth.locks = false) (X0 : Stand p l e ({ frames := 0, cells := 0, slots := 0, locals := 0 } : Room) s m args below meth c T0 locs cells slots) (e0 : T0.heap = h0) (hc : cells ≤ ({ frames := 0, cells := 0, slots := 0, locals := 0 } : Room).cells) (hs : slots ≤ ({ frames := 0, cells := 0, slots := 0, locals := 0 } : Room).slots) (v0 : Int32) (v1 : Int32) (t0 : Int32) (hq : Q (some (.int (f2_35 v0 v1 t0))) h0 locs) :
    Go p e below s ({ frames := 0, cells := 0, slots := 0, locals := 0 } : Room).cells ({ frames := 0, cells := 0, slots := 0, locals := 0 } : Room).slots Q T0 (mkF m 35 #[.val (.int v0), .val (.int v1), .unset, .unset] [(.int t0)]) := by
  unfold f2_35 at hq
  refine go_step (T' := T0) (g' := (mkF m 36 #[.val (.int v0), .val (.int v1), .val (.int t0), .unset] [])) (fun t k => XS.istoreN X0.here hx rfl (hb hby d2_35) rfl (l' := #[.val (.int v0), .val (.int v1), .val (.int t0), .unset]) rfl k) ?_
  refine go_step (T' := T0) (g' := (mkF m 37 #[.val (.int v0), .val (.int v1), .val (.int t0), .unset] [(.int v0)])) (fun t k => XS.iloadN X0.here hx rfl (hb hby d2_36) rfl  k) ?_
  refine go_step (T' := T0) (g' := (mkF m 39 #[.val (.int v0), .val (.int v1), .val (.int t0), .unset] [(.int (1048576 : Int32)), (.int v0)])) (X0.ldcInt hx hown (mvT hZ (hw _ (List.mem_of_getElem? (i := 9) rfl))) (g := (mkF m 37 #[.val (.int v0), .val (.int v1), .val (.int t0), .unset] [(.int v0)])) rfl (hb hby d2_37)) ?_
  by_cases hc0 : v0 < (1048576 : Int32)
  · rw [if_pos hc0] at hq
    refine go_step (T' := T0) (g' := (mkF m 52 #[.val (.int v0), .val (.int v1), .val (.int t0), .unset] [])) (fun t k => XS.icmpYes X0.here hx rfl (pc0 := 39) (pc' := 52) rfl (hb hby d2_39) rfl (tlt hc0).1 (by decide) (by decide) k) ?_
    exact b2_52 hw hx hby hml hown hZ hret hlk X0 e0 hc hs v0 v1 t0 hq
  · rw [if_neg hc0] at hq
    refine go_step (T' := T0) (g' := (mkF m 42 #[.val (.int v0), .val (.int v1), .val (.int t0), .unset] [])) (fun t k => XS.icmpNo X0.here hx rfl (hb hby d2_39) rfl (flt hc0).1 k) ?_
    refine go_step (T' := T0) (g' := (mkF m 43 #[.val (.int v0), .val (.int v1), .val (.int t0), .unset] [(.int v0)])) (fun t k => XS.iloadN X0.here hx rfl (hb hby d2_42) rfl  k) ?_
    refine go_step (T' := T0) (g' := (mkF m 45 #[.val (.int v0), .val (.int v1), .val (.int t0), .unset] [(.int (1114109 : Int32)), (.int v0)])) (X0.ldcInt hx hown (mvT hZ (hw _ (List.mem_of_getElem? (i := 10) rfl))) (g := (mkF m 43 #[.val (.int v0), .val (.int v1), .val (.int t0), .unset] [(.int v0)])) rfl (hb hby d2_43)) ?_
    by_cases hc1 : (1114109 : Int32) < v0
    · rw [if_pos hc1] at hq
      refine go_step (T' := T0) (g' := (mkF m 52 #[.val (.int v0), .val (.int v1), .val (.int t0), .unset] [])) (fun t k => XS.icmpYes X0.here hx rfl (pc0 := 45) (pc' := 52) rfl (hb hby d2_45) rfl (tlt hc1).2.2.1 (by decide) (by decide) k) ?_
      exact b2_52 hw hx hby hml hown hZ hret hlk X0 e0 hc hs v0 v1 t0 hq
    · rw [if_neg hc1] at hq
      refine go_step (T' := T0) (g' := (mkF m 48 #[.val (.int v0), .val (.int v1), .val (.int t0), .unset] [])) (fun t k => XS.icmpNo X0.here hx rfl (hb hby d2_45) rfl (flt hc1).2.2.1 k) ?_
      refine go_step (T' := T0) (g' := (mkF m 49 #[.val (.int v0), .val (.int v1), .val (.int t0), .unset] [(.int (1 : Int32))])) (fun t k => XS.iconst X0.here hx rfl (hb hby d2_48) k) ?_
      refine go_step (T' := T0) (g' := (mkF m 53 #[.val (.int v0), .val (.int v1), .val (.int t0), .unset] [(.int (1 : Int32))])) (fun t k => XS.goto X0.here hx rfl (pc0 := 49) (pc' := 53) rfl (hb hby d2_49) (by decide) (by decide) k) ?_
      exact b2_53 hw hx hby hml hown hZ hret hlk X0 e0 hc hs v0 v1 t0 (1 : Int32) hq
def f2_34 (v0 : Int32) (v1 : Int32) : Int32 := (f2_35 v0 v1 (0 : Int32))
set_option maxRecDepth 65536 in
set_option maxHeartbeats 4000000 in
theorem b2_34 {p : Program} {l : Launch} {e : Env} {s : State} {m : MethodId} {args : Array Value} {below : List Frame} {meth : Method} {c : Code} {T0 : State} {Z : State} {a0 : Array Value} {h0 : Heap} {locs : List Loc} {cells slots : Nat} {Q : Option Value → Heap → List Loc → Prop} (hw : ∀ d ∈ tables_1, d.before a0 Z = true) (hx : p.tables.exec = Jvm.exec) (hby : c.code = method_2_code) (hml : c.maxLocals = 4) (hown : s.vm.findClass "com/example/map21/map21/util/IriCharactersIsIprivatePinLaw" = some m.cls) (hZ : Z.Warmed39 s.vm) (hret : meth.sig.returnType = some .boolean) (hlk : meth.locks = false) (X0 : Stand p l e ({ frames := 0, cells := 0, slots := 0, locals := 0 } : Room) s m args below meth c T0 locs cells slots) (e0 : T0.heap = h0) (hc : cells ≤ ({ frames := 0, cells := 0, slots := 0, locals := 0 } : Room).cells) (hs : slots ≤ ({ frames := 0, cells := 0, slots := 0, locals := 0 } : Room).slots) (v0 : Int32) (v1 : Int32) (hq : Q (some (.int (f2_34 v0 v1))) h0 locs) :
    Go p e below s ({ frames := 0, cells := 0, slots := 0, locals := 0 } : Room).cells ({ frames := 0, cells := 0, slots := 0, locals := 0 } : Room).slots Q T0 (mkF m 34 #[.val (.int v0), .val (.int v1), .unset, .unset] []) := by
  unfold f2_34 at hq
  refine go_step (T' := T0) (g' := (mkF m 35 #[.val (.int v0), .val (.int v1), .unset, .unset] [(.int (0 : Int32))])) (fun t k => XS.iconst X0.here hx rfl (hb hby d2_34) k) ?_
  exact b2_35 hw hx hby hml hown hZ hret hlk X0 e0 hc hs v0 v1 (0 : Int32) hq
def f2_17 (v0 : Int32) (t0 : Int32) : Int32 := (if v0 < (983040 : Int32) then (f2_34 v0 t0) else (if (1048573 : Int32) < v0 then (f2_34 v0 t0) else (f2_35 v0 t0 (1 : Int32))))
set_option maxRecDepth 65536 in
set_option maxHeartbeats 4000000 in
theorem b2_17 {p : Program} {l : Launch} {e : Env} {s : State} {m : MethodId} {args : Array Value} {below : List Frame} {meth : Method} {c : Code} {T0 : State} {Z : State} {a0 : Array Value} {h0 : Heap} {locs : List Loc} {cells slots : Nat} {Q : Option Value → Heap → List Loc → Prop} (hw : ∀ d ∈ tables_1, d.before a0 Z = true) (hx : p.tables.exec = Jvm.exec) (hby : c.code = method_2_code) (hml : c.maxLocals = 4) (hown : s.vm.findClass "com/example/map21/map21/util/IriCharactersIsIprivatePinLaw" = some m.cls) (hZ : Z.Warmed39 s.vm) (hret : meth.sig.returnType = some .boolean) (hlk : meth.locks = false) (X0 : Stand p l e ({ frames := 0, cells := 0, slots := 0, locals := 0 } : Room) s m args below meth c T0 locs cells slots) (e0 : T0.heap = h0) (hc : cells ≤ ({ frames := 0, cells := 0, slots := 0, locals := 0 } : Room).cells) (hs : slots ≤ ({ frames := 0, cells := 0, slots := 0, locals := 0 } : Room).slots) (v0 : Int32) (t0 : Int32) (hq : Q (some (.int (f2_17 v0 t0))) h0 locs) :
    Go p e below s ({ frames := 0, cells := 0, slots := 0, locals := 0 } : Room).cells ({ frames := 0, cells := 0, slots := 0, locals := 0 } : Room).slots Q T0 (mkF m 17 #[.val (.int v0), .unset, .unset, .unset] [(.int t0)]) := by
  unfold f2_17 at hq
  refine go_step (T' := T0) (g' := (mkF m 18 #[.val (.int v0), .val (.int t0), .unset, .unset] [])) (fun t k => XS.istoreN X0.here hx rfl (hb hby d2_17) rfl (l' := #[.val (.int v0), .val (.int t0), .unset, .unset]) rfl k) ?_
  refine go_step (T' := T0) (g' := (mkF m 19 #[.val (.int v0), .val (.int t0), .unset, .unset] [(.int v0)])) (fun t k => XS.iloadN X0.here hx rfl (hb hby d2_18) rfl  k) ?_
  refine go_step (T' := T0) (g' := (mkF m 21 #[.val (.int v0), .val (.int t0), .unset, .unset] [(.int (983040 : Int32)), (.int v0)])) (X0.ldcInt hx hown (mvT hZ (hw _ (List.mem_of_getElem? (i := 6) rfl))) (g := (mkF m 19 #[.val (.int v0), .val (.int t0), .unset, .unset] [(.int v0)])) rfl (hb hby d2_19)) ?_
  by_cases hc0 : v0 < (983040 : Int32)
  · rw [if_pos hc0] at hq
    refine go_step (T' := T0) (g' := (mkF m 34 #[.val (.int v0), .val (.int t0), .unset, .unset] [])) (fun t k => XS.icmpYes X0.here hx rfl (pc0 := 21) (pc' := 34) rfl (hb hby d2_21) rfl (tlt hc0).1 (by decide) (by decide) k) ?_
    exact b2_34 hw hx hby hml hown hZ hret hlk X0 e0 hc hs v0 t0 hq
  · rw [if_neg hc0] at hq
    refine go_step (T' := T0) (g' := (mkF m 24 #[.val (.int v0), .val (.int t0), .unset, .unset] [])) (fun t k => XS.icmpNo X0.here hx rfl (hb hby d2_21) rfl (flt hc0).1 k) ?_
    refine go_step (T' := T0) (g' := (mkF m 25 #[.val (.int v0), .val (.int t0), .unset, .unset] [(.int v0)])) (fun t k => XS.iloadN X0.here hx rfl (hb hby d2_24) rfl  k) ?_
    refine go_step (T' := T0) (g' := (mkF m 27 #[.val (.int v0), .val (.int t0), .unset, .unset] [(.int (1048573 : Int32)), (.int v0)])) (X0.ldcInt hx hown (mvT hZ (hw _ (List.mem_of_getElem? (i := 7) rfl))) (g := (mkF m 25 #[.val (.int v0), .val (.int t0), .unset, .unset] [(.int v0)])) rfl (hb hby d2_25)) ?_
    by_cases hc1 : (1048573 : Int32) < v0
    · rw [if_pos hc1] at hq
      refine go_step (T' := T0) (g' := (mkF m 34 #[.val (.int v0), .val (.int t0), .unset, .unset] [])) (fun t k => XS.icmpYes X0.here hx rfl (pc0 := 27) (pc' := 34) rfl (hb hby d2_27) rfl (tlt hc1).2.2.1 (by decide) (by decide) k) ?_
      exact b2_34 hw hx hby hml hown hZ hret hlk X0 e0 hc hs v0 t0 hq
    · rw [if_neg hc1] at hq
      refine go_step (T' := T0) (g' := (mkF m 30 #[.val (.int v0), .val (.int t0), .unset, .unset] [])) (fun t k => XS.icmpNo X0.here hx rfl (hb hby d2_27) rfl (flt hc1).2.2.1 k) ?_
      refine go_step (T' := T0) (g' := (mkF m 31 #[.val (.int v0), .val (.int t0), .unset, .unset] [(.int (1 : Int32))])) (fun t k => XS.iconst X0.here hx rfl (hb hby d2_30) k) ?_
      refine go_step (T' := T0) (g' := (mkF m 35 #[.val (.int v0), .val (.int t0), .unset, .unset] [(.int (1 : Int32))])) (fun t k => XS.goto X0.here hx rfl (pc0 := 31) (pc' := 35) rfl (hb hby d2_31) (by decide) (by decide) k) ?_
      exact b2_35 hw hx hby hml hown hZ hret hlk X0 e0 hc hs v0 t0 (1 : Int32) hq
def f2_16 (v0 : Int32) : Int32 := (f2_17 v0 (0 : Int32))
set_option maxRecDepth 65536 in
set_option maxHeartbeats 4000000 in
theorem b2_16 {p : Program} {l : Launch} {e : Env} {s : State} {m : MethodId} {args : Array Value} {below : List Frame} {meth : Method} {c : Code} {T0 : State} {Z : State} {a0 : Array Value} {h0 : Heap} {locs : List Loc} {cells slots : Nat} {Q : Option Value → Heap → List Loc → Prop} (hw : ∀ d ∈ tables_1, d.before a0 Z = true) (hx : p.tables.exec = Jvm.exec) (hby : c.code = method_2_code) (hml : c.maxLocals = 4) (hown : s.vm.findClass "com/example/map21/map21/util/IriCharactersIsIprivatePinLaw" = some m.cls) (hZ : Z.Warmed39 s.vm) (hret : meth.sig.returnType = some .boolean) (hlk : meth.locks = false) (X0 : Stand p l e ({ frames := 0, cells := 0, slots := 0, locals := 0 } : Room) s m args below meth c T0 locs cells slots) (e0 : T0.heap = h0) (hc : cells ≤ ({ frames := 0, cells := 0, slots := 0, locals := 0 } : Room).cells) (hs : slots ≤ ({ frames := 0, cells := 0, slots := 0, locals := 0 } : Room).slots) (v0 : Int32) (hq : Q (some (.int (f2_16 v0))) h0 locs) :
    Go p e below s ({ frames := 0, cells := 0, slots := 0, locals := 0 } : Room).cells ({ frames := 0, cells := 0, slots := 0, locals := 0 } : Room).slots Q T0 (mkF m 16 #[.val (.int v0), .unset, .unset, .unset] []) := by
  unfold f2_16 at hq
  refine go_step (T' := T0) (g' := (mkF m 17 #[.val (.int v0), .unset, .unset, .unset] [(.int (0 : Int32))])) (fun t k => XS.iconst X0.here hx rfl (hb hby d2_16) k) ?_
  exact b2_17 hw hx hby hml hown hZ hret hlk X0 e0 hc hs v0 (0 : Int32) hq
def f2_0 (v0 : Int32) : Int32 := (if v0 < (57344 : Int32) then (f2_16 v0) else (if (63743 : Int32) < v0 then (f2_16 v0) else (f2_17 v0 (1 : Int32))))
set_option maxRecDepth 65536 in
set_option maxHeartbeats 4000000 in
theorem b2_0 {p : Program} {l : Launch} {e : Env} {s : State} {m : MethodId} {args : Array Value} {below : List Frame} {meth : Method} {c : Code} {T0 : State} {Z : State} {a0 : Array Value} {h0 : Heap} {locs : List Loc} {cells slots : Nat} {Q : Option Value → Heap → List Loc → Prop} (hw : ∀ d ∈ tables_1, d.before a0 Z = true) (hx : p.tables.exec = Jvm.exec) (hby : c.code = method_2_code) (hml : c.maxLocals = 4) (hown : s.vm.findClass "com/example/map21/map21/util/IriCharactersIsIprivatePinLaw" = some m.cls) (hZ : Z.Warmed39 s.vm) (hret : meth.sig.returnType = some .boolean) (hlk : meth.locks = false) (X0 : Stand p l e ({ frames := 0, cells := 0, slots := 0, locals := 0 } : Room) s m args below meth c T0 locs cells slots) (e0 : T0.heap = h0) (hc : cells ≤ ({ frames := 0, cells := 0, slots := 0, locals := 0 } : Room).cells) (hs : slots ≤ ({ frames := 0, cells := 0, slots := 0, locals := 0 } : Room).slots) (v0 : Int32) (hq : Q (some (.int (f2_0 v0))) h0 locs) :
    Go p e below s ({ frames := 0, cells := 0, slots := 0, locals := 0 } : Room).cells ({ frames := 0, cells := 0, slots := 0, locals := 0 } : Room).slots Q T0 (mkF m 0 #[.val (.int v0), .unset, .unset, .unset] []) := by
  unfold f2_0 at hq
  refine go_step (T' := T0) (g' := (mkF m 1 #[.val (.int v0), .unset, .unset, .unset] [(.int v0)])) (fun t k => XS.iloadN X0.here hx rfl (hb hby d2_0) rfl  k) ?_
  refine go_step (T' := T0) (g' := (mkF m 3 #[.val (.int v0), .unset, .unset, .unset] [(.int (57344 : Int32)), (.int v0)])) (X0.ldcInt hx hown (mvT hZ (hw _ (List.mem_of_getElem? (i := 2) rfl))) (g := (mkF m 1 #[.val (.int v0), .unset, .unset, .unset] [(.int v0)])) rfl (hb hby d2_1)) ?_
  by_cases hc0 : v0 < (57344 : Int32)
  · rw [if_pos hc0] at hq
    refine go_step (T' := T0) (g' := (mkF m 16 #[.val (.int v0), .unset, .unset, .unset] [])) (fun t k => XS.icmpYes X0.here hx rfl (pc0 := 3) (pc' := 16) rfl (hb hby d2_3) rfl (tlt hc0).1 (by decide) (by decide) k) ?_
    exact b2_16 hw hx hby hml hown hZ hret hlk X0 e0 hc hs v0 hq
  · rw [if_neg hc0] at hq
    refine go_step (T' := T0) (g' := (mkF m 6 #[.val (.int v0), .unset, .unset, .unset] [])) (fun t k => XS.icmpNo X0.here hx rfl (hb hby d2_3) rfl (flt hc0).1 k) ?_
    refine go_step (T' := T0) (g' := (mkF m 7 #[.val (.int v0), .unset, .unset, .unset] [(.int v0)])) (fun t k => XS.iloadN X0.here hx rfl (hb hby d2_6) rfl  k) ?_
    refine go_step (T' := T0) (g' := (mkF m 9 #[.val (.int v0), .unset, .unset, .unset] [(.int (63743 : Int32)), (.int v0)])) (X0.ldcInt hx hown (mvT hZ (hw _ (List.mem_of_getElem? (i := 3) rfl))) (g := (mkF m 7 #[.val (.int v0), .unset, .unset, .unset] [(.int v0)])) rfl (hb hby d2_7)) ?_
    by_cases hc1 : (63743 : Int32) < v0
    · rw [if_pos hc1] at hq
      refine go_step (T' := T0) (g' := (mkF m 16 #[.val (.int v0), .unset, .unset, .unset] [])) (fun t k => XS.icmpYes X0.here hx rfl (pc0 := 9) (pc' := 16) rfl (hb hby d2_9) rfl (tlt hc1).2.2.1 (by decide) (by decide) k) ?_
      exact b2_16 hw hx hby hml hown hZ hret hlk X0 e0 hc hs v0 hq
    · rw [if_neg hc1] at hq
      refine go_step (T' := T0) (g' := (mkF m 12 #[.val (.int v0), .unset, .unset, .unset] [])) (fun t k => XS.icmpNo X0.here hx rfl (hb hby d2_9) rfl (flt hc1).2.2.1 k) ?_
      refine go_step (T' := T0) (g' := (mkF m 13 #[.val (.int v0), .unset, .unset, .unset] [(.int (1 : Int32))])) (fun t k => XS.iconst X0.here hx rfl (hb hby d2_12) k) ?_
      refine go_step (T' := T0) (g' := (mkF m 17 #[.val (.int v0), .unset, .unset, .unset] [(.int (1 : Int32))])) (fun t k => XS.goto X0.here hx rfl (pc0 := 13) (pc' := 17) rfl (hb hby d2_13) (by decide) (by decide) k) ?_
      exact b2_17 hw hx hby hml hown hZ hret hlk X0 e0 hc hs v0 (1 : Int32) hq
theorem ef2 (m : MethodId) (v0 : Int32) : entryFrame m #[(.int v0)] 4 = (mkF m 0 #[.val (.int v0), .unset, .unset, .unset] []) := by first | (simp [entryFrame, mkF, argsToLocals, Value.category]; done) | rfl
theorem pn2 : plainName "com/example/map21/map21/util/IriCharactersIsIprivatePinLaw" = true := by first | (simp [plainName, overriddenIn]; done) | decide +kernel
set_option maxRecDepth 65536 in
theorem mq2 (l : Launch) (Z : State) (a0 : Array Value) (hw : ∀ d ∈ tables_1, d.before a0 Z = true) (v0 : Int32) (h0 : Heap) : MQ l Z (⟨"com/example/map21/map21/util/IriCharactersIsIprivatePinLaw", "reference", "(I)Z"⟩ : MethodName) method_2_code 4 (some .boolean) [] ({ frames := 0, cells := 0, slots := 0, locals := 0 } : Room) #[(.int v0)] h0 (QP (some (.int (f2_0 v0))) h0) := by
  refine mq_of (plainFor_of_name pn2) ?_
  intro p e s m below meth c T0 X0 hx hby hml hown hnm hZ e0 hret hlk
  rw [ef2]
  exact b2_0 hw hx hby hml hown hZ hret hlk X0 e0 (Nat.zero_le _) (Nat.zero_le _) v0 ⟨rfl, rfl, rfl⟩
def f0_167 (v0 : Int32) (v1 : Int32) (v3 : Int32) (v4 : Int32) : Int32 := (if (f1_0 v4) = (f2_0 v4) then (1 : Int32) else (0 : Int32))
set_option maxRecDepth 65536 in
set_option maxHeartbeats 4000000 in
theorem b0_167 {p : Program} {l : Launch} {e : Env} {s : State} {m : MethodId} {args : Array Value} {below : List Frame} {meth : Method} {c : Code} {T0 : State} {Z : State} {a0 : Array Value} {h0 : Heap} {locs : List Loc} {cells slots : Nat} {Q : Option Value → Heap → List Loc → Prop} (hw : ∀ d ∈ tables_1, d.before a0 Z = true) (hx : p.tables.exec = Jvm.exec) (hby : c.code = code) (hml : c.maxLocals = 7) (hown : s.vm.findClass "com/example/map21/map21/util/IriCharactersIsIprivatePinLaw" = some m.cls) (hZ : Z.Warmed39 s.vm) (hret : meth.sig.returnType = some .boolean) (hlk : meth.locks = false) (X0 : Stand p l e room_1 s m args below meth c T0 locs cells slots) (e0 : T0.heap = h0) (hc : cells ≤ room_1.cells) (hs : slots ≤ room_1.slots) (v0 : Int32) (v1 : Int32) (o2 : Slot) (ho2 : One o2) (v3 : Int32) (v4 : Int32) (o5 : Slot) (ho5 : One o5) (o6 : Slot) (ho6 : One o6) (hq : Q (some (.int (f0_167 v0 v1 v3 v4))) h0 locs) :
    Go p e below s room_1.cells room_1.slots Q T0 (mkF m 167 #[.val (.int v0), .val (.int v1), o2, .val (.int v3), .val (.int v4), o5, o6] []) := by
  unfold f0_167 at hq
  refine go_step (T' := T0) (g' := (mkF m 169 #[.val (.int v0), .val (.int v1), o2, .val (.int v3), .val (.int v4), o5, o6] [(.int v4)])) (fun t k => XS.iload X0.here hx rfl (hb hby at_167) rfl  k) ?_
  refine go_callSP X0 hx hZ hown (hw _ (List.mem_of_getElem? (i := 17) rfl)) (hw _ (List.mem_of_getElem? (i := 18) rfl)) (hw _ (List.mem_of_getElem? (i := 19) rfl)) (hw _ (List.mem_of_getElem? (i := 20) rfl)) (by decide) e0 (mq1 l Z a0 hw v4 h0) 0 (by decide) (by decide) (g := (mkF m 169 #[.val (.int v0), .val (.int v1), o2, .val (.int v3), .val (.int v4), o5, o6] [(.int v4)])) rfl (by rw [hml]; rfl) (argsL := [(.int v4)]) (rest := []) (lenOf pd_0 rfl) rfl (by show 2 * 0 + _ ≤ _; exact Nat.le_of_eq rfl) (hb hby at_169) rfl rfl rfl hc hs (fun T1 X1 e1 => ?_)
  show Go p e below s _ _ _ T1 (mkF m 172 #[.val (.int v0), .val (.int v1), o2, .val (.int v3), .val (.int v4), o5, o6] [(.int (f1_0 v4))])
  refine go_step (T' := T1) (g' := (mkF m 174 #[.val (.int v0), .val (.int v1), o2, .val (.int v3), .val (.int v4), o5, o6] [(.int v4), (.int (f1_0 v4))])) (fun t k => XS.iload X1.here hx rfl (hb hby at_172) rfl  k) ?_
  refine go_callSP X1 hx hZ hown (hw _ (List.mem_of_getElem? (i := 27) rfl)) (hw _ (List.mem_of_getElem? (i := 28) rfl)) (hw _ (List.mem_of_getElem? (i := 29) rfl)) (hw _ (List.mem_of_getElem? (i := 30) rfl)) (by decide) e1 (mq2 l Z a0 hw v4 h0) 1 (by decide) (by decide) (g := (mkF m 174 #[.val (.int v0), .val (.int v1), o2, .val (.int v3), .val (.int v4), o5, o6] [(.int v4), (.int (f1_0 v4))])) rfl (by rw [hml]; rfl) (argsL := [(.int v4)]) (rest := [(.int (f1_0 v4))]) (lenOf pd_0 rfl) rfl (by show 2 * 0 + _ ≤ _; exact Nat.le_of_eq rfl) (hb hby at_174) rfl rfl rfl hc hs (fun T2 X2 e2 => ?_)
  show Go p e below s _ _ _ T2 (mkF m 177 #[.val (.int v0), .val (.int v1), o2, .val (.int v3), .val (.int v4), o5, o6] [(.int (f2_0 v4)), (.int (f1_0 v4))])
  by_cases hc2 : (f1_0 v4) = (f2_0 v4)
  · rw [if_pos hc2] at hq
    refine go_step (T' := T2) (g' := (mkF m 180 #[.val (.int v0), .val (.int v1), o2, .val (.int v3), .val (.int v4), o5, o6] [])) (fun t k => XS.icmpNo X2.here hx rfl (hb hby at_177) rfl (teq hc2).2 k) ?_
    refine go_step (T' := T2) (g' := (mkF m 181 #[.val (.int v0), .val (.int v1), o2, .val (.int v3), .val (.int v4), o5, o6] [(.int (1 : Int32))])) (fun t k => XS.iconst X2.here hx rfl (hb hby at_180) k) ?_
    refine go_step (T' := T2) (g' := (mkF m 185 #[.val (.int v0), .val (.int v1), o2, .val (.int v3), .val (.int v4), o5, o6] [(.int (1 : Int32))])) (fun t k => XS.goto X2.here hx rfl (pc0 := 181) (pc' := 185) rfl (hb hby at_181) (by decide) (by decide) k) ?_
    exact go_retZ X2 hx hlk hret (hb hby at_185) e2 hq hc hs
  · rw [if_neg hc2] at hq
    refine go_step (T' := T2) (g' := (mkF m 184 #[.val (.int v0), .val (.int v1), o2, .val (.int v3), .val (.int v4), o5, o6] [])) (fun t k => XS.icmpYes X2.here hx rfl (pc0 := 177) (pc' := 184) rfl (hb hby at_177) rfl (feq hc2).2 (by decide) (by decide) k) ?_
    refine go_step (T' := T2) (g' := (mkF m 185 #[.val (.int v0), .val (.int v1), o2, .val (.int v3), .val (.int v4), o5, o6] [(.int (0 : Int32))])) (fun t k => XS.iconst X2.here hx rfl (hb hby at_184) k) ?_
    exact go_retZ X2 hx hlk hret (hb hby at_185) e2 hq hc hs
def s0_0 (v0 : Int32) (v1 : Int32) : Int32 := ((([(0 : Int32), (57343 : Int32), (57344 : Int32), (63743 : Int32), (63744 : Int32), (983039 : Int32), (983040 : Int32), (1048573 : Int32), (1048575 : Int32), (1048576 : Int32), (1114109 : Int32), (1114111 : Int32), (1114112 : Int32), (131069 : Int32), (-2147483648 : Int32), (2147483647 : Int32)] : List Int32).getD (((ush v1 (2 : Int32)) &&& (15 : Int32))).toNatClampNeg 0) + (((ush v1 (6 : Int32)) &&& (7 : Int32)) - (4 : Int32)))
def f0_ret (v0 : Int32) (v1 : Int32) : Int32 := (if (v1 &&& (3 : Int32)) = (0 : Int32) then (f0_167 v0 v1 (v1 &&& (3 : Int32)) v0) else (if (v1 &&& (3 : Int32)) = (1 : Int32) then (f0_167 v0 v1 (v1 &&& (3 : Int32)) (v0 &&& (2097151 : Int32))) else (if (v1 &&& (3 : Int32)) = (2 : Int32) then (f0_167 v0 v1 (v1 &&& (3 : Int32)) (s0_0 v0 v1)) else (f0_167 v0 v1 (v1 &&& (3 : Int32)) ((983040 : Int32) + (v0 &&& (262143 : Int32)))))))
theorem ef0 (m : MethodId) (v0 : Int32) (v1 : Int32) : entryFrame m #[(.int v0), (.int v1)] maxLocals = (mkF m 0 #[.val (.int v0), .val (.int v1), .unset, .unset, .unset, .unset, .unset] []) := by first | (simp [entryFrame, mkF, argsToLocals, Value.category, maxLocals]; done) | rfl
theorem pn0 : plainName "com/example/map21/map21/util/IriCharactersIsIprivatePinLaw" = true := by first | (simp [plainName, overriddenIn]; done) | decide +kernel
def Q0 (Z : State) (v0 : Int32) (v1 : Int32) (h0 : Heap) (n0 : Nat) (v : Option Value) (h : Heap) (L : List Loc) : Prop := v = some (.int (f0_ret v0 v1)) ∧ Fr n0 L
set_option maxRecDepth 65536 in
set_option maxHeartbeats 40000000 in
theorem mq0 (l : Launch) (Z : State) (a0 : Array Value) (hw : ∀ d ∈ tables_1, d.before a0 Z = true) (ws : List Jvm.Cond) (v0 : Int32) (v1 : Int32)  (h0 : Heap) (n0 : Nat) (Z0 : n0 ≤ h0.size)  : MQ l Z x code maxLocals ret ws room_1 #[(.int v0), (.int v1)] h0 (Q0 Z v0 v1 h0 n0) := by
  refine mq_of (plainFor_of_name pn0) ?_
  intro p e s m below meth c T0 X0 hx hby hml hown hnm hZ e0 hret hlk
  rw [ef0]
  have N0 := Fr.nil n0
  have K0 := Keep.refl h0 []
  refine go_step (T' := T0) (g' := (mkF m 2 #[.val (.int v0), .val (.int v1), .unset, .unset, .unset, .unset, .unset] [(.int (16 : Int32))])) (fun t k => XS.bipush X0.here hx rfl (hb hby at_0) k) ?_
  refine go_newP X0 hx hZ (hw _ (List.mem_of_getElem? (i := 0) rfl)) e0 16 (by decide) (by decide) (by decide) (by decide) (by decide) (g := (mkF m 2 #[.val (.int v0), .val (.int v1), .unset, .unset, .unset, .unset, .unset] [(.int (16 : Int32))])) rfl rfl (hb hby at_2) (fun T1 h2 b3 X4 e5 E6 q7 A8 => ?_)
  have sz9 : h0.size ≤ b3 := Nat.le_trans K0.1 (Nat.le_of_eq q7.symm)
  have g10 : n0 ≤ b3 := Nat.le_trans Z0 sz9
  have K11 := K0.ext E6
  have A12 : IA Z h2 b3 [(0 : Int32), (0 : Int32), (0 : Int32), (0 : Int32), (0 : Int32), (0 : Int32), (0 : Int32), (0 : Int32), (0 : Int32), (0 : Int32), (0 : Int32), (0 : Int32), (0 : Int32), (0 : Int32), (0 : Int32), (0 : Int32)] := A8
  show Go p e below s _ _ _ T1 (mkF m 4 #[.val (.int v0), .val (.int v1), .unset, .unset, .unset, .unset, .unset] [(.ref b3)])
  refine go_step (T' := T1) (g' := (mkF m 5 #[.val (.int v0), .val (.int v1), .unset, .unset, .unset, .unset, .unset] [(.ref b3), (.ref b3)])) (fun t k => XS.dup X4.here hx rfl (hb hby at_4) rfl rfl k) ?_
  refine go_step (T' := T1) (g' := (mkF m 6 #[.val (.int v0), .val (.int v1), .unset, .unset, .unset, .unset, .unset] [(.int (0 : Int32)), (.ref b3), (.ref b3)])) (fun t k => XS.iconst X4.here hx rfl (hb hby at_5) k) ?_
  refine go_step (T' := T1) (g' := (mkF m 7 #[.val (.int v0), .val (.int v1), .unset, .unset, .unset, .unset, .unset] [(.int (0 : Int32)), (.int (0 : Int32)), (.ref b3), (.ref b3)])) (fun t k => XS.iconst X4.here hx rfl (hb hby at_6) k) ?_
  refine go_iastore X4 hx hZ e5 A12 (by decide) (show ((0 : Int32)).toNatClampNeg < 16 by decide) (g := (mkF m 7 #[.val (.int v0), .val (.int v1), .unset, .unset, .unset, .unset, .unset] [(.int (0 : Int32)), (.int (0 : Int32)), (.ref b3), (.ref b3)])) rfl rfl (hb hby at_7) (fun T13 h14 X15 e16 W17 A18 => ?_)
  have K19 := K11.wr W17 (Or.inr sz9)
  have N20 := Fr.snoc X15 N0 g10
  have A21 : IA Z h14 b3 [(0 : Int32), (0 : Int32), (0 : Int32), (0 : Int32), (0 : Int32), (0 : Int32), (0 : Int32), (0 : Int32), (0 : Int32), (0 : Int32), (0 : Int32), (0 : Int32), (0 : Int32), (0 : Int32), (0 : Int32), (0 : Int32)] := A18
  show Go p e below s _ _ _ T13 (mkF m 8 #[.val (.int v0), .val (.int v1), .unset, .unset, .unset, .unset, .unset] [(.ref b3)])
  refine go_step (T' := T13) (g' := (mkF m 9 #[.val (.int v0), .val (.int v1), .unset, .unset, .unset, .unset, .unset] [(.ref b3), (.ref b3)])) (fun t k => XS.dup X15.here hx rfl (hb hby at_8) rfl rfl k) ?_
  refine go_step (T' := T13) (g' := (mkF m 10 #[.val (.int v0), .val (.int v1), .unset, .unset, .unset, .unset, .unset] [(.int (1 : Int32)), (.ref b3), (.ref b3)])) (fun t k => XS.iconst X15.here hx rfl (hb hby at_9) k) ?_
  refine go_step (T' := T13) (g' := (mkF m 12 #[.val (.int v0), .val (.int v1), .unset, .unset, .unset, .unset, .unset] [(.int (57343 : Int32)), (.int (1 : Int32)), (.ref b3), (.ref b3)])) (X15.ldcInt hx hown (mvT hZ (hw _ (List.mem_of_getElem? (i := 1) rfl))) (g := (mkF m 10 #[.val (.int v0), .val (.int v1), .unset, .unset, .unset, .unset, .unset] [(.int (1 : Int32)), (.ref b3), (.ref b3)])) rfl (hb hby at_10)) ?_
  refine go_iastore X15 hx hZ e16 A21 (by decide) (show ((1 : Int32)).toNatClampNeg < 16 by decide) (g := (mkF m 12 #[.val (.int v0), .val (.int v1), .unset, .unset, .unset, .unset, .unset] [(.int (57343 : Int32)), (.int (1 : Int32)), (.ref b3), (.ref b3)])) rfl rfl (hb hby at_12) (fun T22 h23 X24 e25 W26 A27 => ?_)
  have K28 := K19.wr W26 (Or.inr sz9)
  have N29 := Fr.snoc X24 N20 g10
  have A30 : IA Z h23 b3 [(0 : Int32), (57343 : Int32), (0 : Int32), (0 : Int32), (0 : Int32), (0 : Int32), (0 : Int32), (0 : Int32), (0 : Int32), (0 : Int32), (0 : Int32), (0 : Int32), (0 : Int32), (0 : Int32), (0 : Int32), (0 : Int32)] := A27
  show Go p e below s _ _ _ T22 (mkF m 13 #[.val (.int v0), .val (.int v1), .unset, .unset, .unset, .unset, .unset] [(.ref b3)])
  refine go_step (T' := T22) (g' := (mkF m 14 #[.val (.int v0), .val (.int v1), .unset, .unset, .unset, .unset, .unset] [(.ref b3), (.ref b3)])) (fun t k => XS.dup X24.here hx rfl (hb hby at_13) rfl rfl k) ?_
  refine go_step (T' := T22) (g' := (mkF m 15 #[.val (.int v0), .val (.int v1), .unset, .unset, .unset, .unset, .unset] [(.int (2 : Int32)), (.ref b3), (.ref b3)])) (fun t k => XS.iconst X24.here hx rfl (hb hby at_14) k) ?_
  refine go_step (T' := T22) (g' := (mkF m 17 #[.val (.int v0), .val (.int v1), .unset, .unset, .unset, .unset, .unset] [(.int (57344 : Int32)), (.int (2 : Int32)), (.ref b3), (.ref b3)])) (X24.ldcInt hx hown (mvT hZ (hw _ (List.mem_of_getElem? (i := 2) rfl))) (g := (mkF m 15 #[.val (.int v0), .val (.int v1), .unset, .unset, .unset, .unset, .unset] [(.int (2 : Int32)), (.ref b3), (.ref b3)])) rfl (hb hby at_15)) ?_
  refine go_iastore X24 hx hZ e25 A30 (by decide) (show ((2 : Int32)).toNatClampNeg < 16 by decide) (g := (mkF m 17 #[.val (.int v0), .val (.int v1), .unset, .unset, .unset, .unset, .unset] [(.int (57344 : Int32)), (.int (2 : Int32)), (.ref b3), (.ref b3)])) rfl rfl (hb hby at_17) (fun T31 h32 X33 e34 W35 A36 => ?_)
  have K37 := K28.wr W35 (Or.inr sz9)
  have N38 := Fr.snoc X33 N29 g10
  have A39 : IA Z h32 b3 [(0 : Int32), (57343 : Int32), (57344 : Int32), (0 : Int32), (0 : Int32), (0 : Int32), (0 : Int32), (0 : Int32), (0 : Int32), (0 : Int32), (0 : Int32), (0 : Int32), (0 : Int32), (0 : Int32), (0 : Int32), (0 : Int32)] := A36
  show Go p e below s _ _ _ T31 (mkF m 18 #[.val (.int v0), .val (.int v1), .unset, .unset, .unset, .unset, .unset] [(.ref b3)])
  refine go_step (T' := T31) (g' := (mkF m 19 #[.val (.int v0), .val (.int v1), .unset, .unset, .unset, .unset, .unset] [(.ref b3), (.ref b3)])) (fun t k => XS.dup X33.here hx rfl (hb hby at_18) rfl rfl k) ?_
  refine go_step (T' := T31) (g' := (mkF m 20 #[.val (.int v0), .val (.int v1), .unset, .unset, .unset, .unset, .unset] [(.int (3 : Int32)), (.ref b3), (.ref b3)])) (fun t k => XS.iconst X33.here hx rfl (hb hby at_19) k) ?_
  refine go_step (T' := T31) (g' := (mkF m 22 #[.val (.int v0), .val (.int v1), .unset, .unset, .unset, .unset, .unset] [(.int (63743 : Int32)), (.int (3 : Int32)), (.ref b3), (.ref b3)])) (X33.ldcInt hx hown (mvT hZ (hw _ (List.mem_of_getElem? (i := 3) rfl))) (g := (mkF m 20 #[.val (.int v0), .val (.int v1), .unset, .unset, .unset, .unset, .unset] [(.int (3 : Int32)), (.ref b3), (.ref b3)])) rfl (hb hby at_20)) ?_
  refine go_iastore X33 hx hZ e34 A39 (by decide) (show ((3 : Int32)).toNatClampNeg < 16 by decide) (g := (mkF m 22 #[.val (.int v0), .val (.int v1), .unset, .unset, .unset, .unset, .unset] [(.int (63743 : Int32)), (.int (3 : Int32)), (.ref b3), (.ref b3)])) rfl rfl (hb hby at_22) (fun T40 h41 X42 e43 W44 A45 => ?_)
  have K46 := K37.wr W44 (Or.inr sz9)
  have N47 := Fr.snoc X42 N38 g10
  have A48 : IA Z h41 b3 [(0 : Int32), (57343 : Int32), (57344 : Int32), (63743 : Int32), (0 : Int32), (0 : Int32), (0 : Int32), (0 : Int32), (0 : Int32), (0 : Int32), (0 : Int32), (0 : Int32), (0 : Int32), (0 : Int32), (0 : Int32), (0 : Int32)] := A45
  show Go p e below s _ _ _ T40 (mkF m 23 #[.val (.int v0), .val (.int v1), .unset, .unset, .unset, .unset, .unset] [(.ref b3)])
  refine go_step (T' := T40) (g' := (mkF m 24 #[.val (.int v0), .val (.int v1), .unset, .unset, .unset, .unset, .unset] [(.ref b3), (.ref b3)])) (fun t k => XS.dup X42.here hx rfl (hb hby at_23) rfl rfl k) ?_
  refine go_step (T' := T40) (g' := (mkF m 25 #[.val (.int v0), .val (.int v1), .unset, .unset, .unset, .unset, .unset] [(.int (4 : Int32)), (.ref b3), (.ref b3)])) (fun t k => XS.iconst X42.here hx rfl (hb hby at_24) k) ?_
  refine go_step (T' := T40) (g' := (mkF m 27 #[.val (.int v0), .val (.int v1), .unset, .unset, .unset, .unset, .unset] [(.int (63744 : Int32)), (.int (4 : Int32)), (.ref b3), (.ref b3)])) (X42.ldcInt hx hown (mvT hZ (hw _ (List.mem_of_getElem? (i := 4) rfl))) (g := (mkF m 25 #[.val (.int v0), .val (.int v1), .unset, .unset, .unset, .unset, .unset] [(.int (4 : Int32)), (.ref b3), (.ref b3)])) rfl (hb hby at_25)) ?_
  refine go_iastore X42 hx hZ e43 A48 (by decide) (show ((4 : Int32)).toNatClampNeg < 16 by decide) (g := (mkF m 27 #[.val (.int v0), .val (.int v1), .unset, .unset, .unset, .unset, .unset] [(.int (63744 : Int32)), (.int (4 : Int32)), (.ref b3), (.ref b3)])) rfl rfl (hb hby at_27) (fun T49 h50 X51 e52 W53 A54 => ?_)
  have K55 := K46.wr W53 (Or.inr sz9)
  have N56 := Fr.snoc X51 N47 g10
  have A57 : IA Z h50 b3 [(0 : Int32), (57343 : Int32), (57344 : Int32), (63743 : Int32), (63744 : Int32), (0 : Int32), (0 : Int32), (0 : Int32), (0 : Int32), (0 : Int32), (0 : Int32), (0 : Int32), (0 : Int32), (0 : Int32), (0 : Int32), (0 : Int32)] := A54
  show Go p e below s _ _ _ T49 (mkF m 28 #[.val (.int v0), .val (.int v1), .unset, .unset, .unset, .unset, .unset] [(.ref b3)])
  refine go_step (T' := T49) (g' := (mkF m 29 #[.val (.int v0), .val (.int v1), .unset, .unset, .unset, .unset, .unset] [(.ref b3), (.ref b3)])) (fun t k => XS.dup X51.here hx rfl (hb hby at_28) rfl rfl k) ?_
  refine go_step (T' := T49) (g' := (mkF m 30 #[.val (.int v0), .val (.int v1), .unset, .unset, .unset, .unset, .unset] [(.int (5 : Int32)), (.ref b3), (.ref b3)])) (fun t k => XS.iconst X51.here hx rfl (hb hby at_29) k) ?_
  refine go_step (T' := T49) (g' := (mkF m 32 #[.val (.int v0), .val (.int v1), .unset, .unset, .unset, .unset, .unset] [(.int (983039 : Int32)), (.int (5 : Int32)), (.ref b3), (.ref b3)])) (X51.ldcInt hx hown (mvT hZ (hw _ (List.mem_of_getElem? (i := 5) rfl))) (g := (mkF m 30 #[.val (.int v0), .val (.int v1), .unset, .unset, .unset, .unset, .unset] [(.int (5 : Int32)), (.ref b3), (.ref b3)])) rfl (hb hby at_30)) ?_
  refine go_iastore X51 hx hZ e52 A57 (by decide) (show ((5 : Int32)).toNatClampNeg < 16 by decide) (g := (mkF m 32 #[.val (.int v0), .val (.int v1), .unset, .unset, .unset, .unset, .unset] [(.int (983039 : Int32)), (.int (5 : Int32)), (.ref b3), (.ref b3)])) rfl rfl (hb hby at_32) (fun T58 h59 X60 e61 W62 A63 => ?_)
  have K64 := K55.wr W62 (Or.inr sz9)
  have N65 := Fr.snoc X60 N56 g10
  have A66 : IA Z h59 b3 [(0 : Int32), (57343 : Int32), (57344 : Int32), (63743 : Int32), (63744 : Int32), (983039 : Int32), (0 : Int32), (0 : Int32), (0 : Int32), (0 : Int32), (0 : Int32), (0 : Int32), (0 : Int32), (0 : Int32), (0 : Int32), (0 : Int32)] := A63
  show Go p e below s _ _ _ T58 (mkF m 33 #[.val (.int v0), .val (.int v1), .unset, .unset, .unset, .unset, .unset] [(.ref b3)])
  refine go_step (T' := T58) (g' := (mkF m 34 #[.val (.int v0), .val (.int v1), .unset, .unset, .unset, .unset, .unset] [(.ref b3), (.ref b3)])) (fun t k => XS.dup X60.here hx rfl (hb hby at_33) rfl rfl k) ?_
  refine go_step (T' := T58) (g' := (mkF m 36 #[.val (.int v0), .val (.int v1), .unset, .unset, .unset, .unset, .unset] [(.int (6 : Int32)), (.ref b3), (.ref b3)])) (fun t k => XS.bipush X60.here hx rfl (hb hby at_34) k) ?_
  refine go_step (T' := T58) (g' := (mkF m 38 #[.val (.int v0), .val (.int v1), .unset, .unset, .unset, .unset, .unset] [(.int (983040 : Int32)), (.int (6 : Int32)), (.ref b3), (.ref b3)])) (X60.ldcInt hx hown (mvT hZ (hw _ (List.mem_of_getElem? (i := 6) rfl))) (g := (mkF m 36 #[.val (.int v0), .val (.int v1), .unset, .unset, .unset, .unset, .unset] [(.int (6 : Int32)), (.ref b3), (.ref b3)])) rfl (hb hby at_36)) ?_
  refine go_iastore X60 hx hZ e61 A66 (by decide) (show ((6 : Int32)).toNatClampNeg < 16 by decide) (g := (mkF m 38 #[.val (.int v0), .val (.int v1), .unset, .unset, .unset, .unset, .unset] [(.int (983040 : Int32)), (.int (6 : Int32)), (.ref b3), (.ref b3)])) rfl rfl (hb hby at_38) (fun T67 h68 X69 e70 W71 A72 => ?_)
  have K73 := K64.wr W71 (Or.inr sz9)
  have N74 := Fr.snoc X69 N65 g10
  have A75 : IA Z h68 b3 [(0 : Int32), (57343 : Int32), (57344 : Int32), (63743 : Int32), (63744 : Int32), (983039 : Int32), (983040 : Int32), (0 : Int32), (0 : Int32), (0 : Int32), (0 : Int32), (0 : Int32), (0 : Int32), (0 : Int32), (0 : Int32), (0 : Int32)] := A72
  show Go p e below s _ _ _ T67 (mkF m 39 #[.val (.int v0), .val (.int v1), .unset, .unset, .unset, .unset, .unset] [(.ref b3)])
  refine go_step (T' := T67) (g' := (mkF m 40 #[.val (.int v0), .val (.int v1), .unset, .unset, .unset, .unset, .unset] [(.ref b3), (.ref b3)])) (fun t k => XS.dup X69.here hx rfl (hb hby at_39) rfl rfl k) ?_
  refine go_step (T' := T67) (g' := (mkF m 42 #[.val (.int v0), .val (.int v1), .unset, .unset, .unset, .unset, .unset] [(.int (7 : Int32)), (.ref b3), (.ref b3)])) (fun t k => XS.bipush X69.here hx rfl (hb hby at_40) k) ?_
  refine go_step (T' := T67) (g' := (mkF m 44 #[.val (.int v0), .val (.int v1), .unset, .unset, .unset, .unset, .unset] [(.int (1048573 : Int32)), (.int (7 : Int32)), (.ref b3), (.ref b3)])) (X69.ldcInt hx hown (mvT hZ (hw _ (List.mem_of_getElem? (i := 7) rfl))) (g := (mkF m 42 #[.val (.int v0), .val (.int v1), .unset, .unset, .unset, .unset, .unset] [(.int (7 : Int32)), (.ref b3), (.ref b3)])) rfl (hb hby at_42)) ?_
  refine go_iastore X69 hx hZ e70 A75 (by decide) (show ((7 : Int32)).toNatClampNeg < 16 by decide) (g := (mkF m 44 #[.val (.int v0), .val (.int v1), .unset, .unset, .unset, .unset, .unset] [(.int (1048573 : Int32)), (.int (7 : Int32)), (.ref b3), (.ref b3)])) rfl rfl (hb hby at_44) (fun T76 h77 X78 e79 W80 A81 => ?_)
  have K82 := K73.wr W80 (Or.inr sz9)
  have N83 := Fr.snoc X78 N74 g10
  have A84 : IA Z h77 b3 [(0 : Int32), (57343 : Int32), (57344 : Int32), (63743 : Int32), (63744 : Int32), (983039 : Int32), (983040 : Int32), (1048573 : Int32), (0 : Int32), (0 : Int32), (0 : Int32), (0 : Int32), (0 : Int32), (0 : Int32), (0 : Int32), (0 : Int32)] := A81
  show Go p e below s _ _ _ T76 (mkF m 45 #[.val (.int v0), .val (.int v1), .unset, .unset, .unset, .unset, .unset] [(.ref b3)])
  refine go_step (T' := T76) (g' := (mkF m 46 #[.val (.int v0), .val (.int v1), .unset, .unset, .unset, .unset, .unset] [(.ref b3), (.ref b3)])) (fun t k => XS.dup X78.here hx rfl (hb hby at_45) rfl rfl k) ?_
  refine go_step (T' := T76) (g' := (mkF m 48 #[.val (.int v0), .val (.int v1), .unset, .unset, .unset, .unset, .unset] [(.int (8 : Int32)), (.ref b3), (.ref b3)])) (fun t k => XS.bipush X78.here hx rfl (hb hby at_46) k) ?_
  refine go_step (T' := T76) (g' := (mkF m 50 #[.val (.int v0), .val (.int v1), .unset, .unset, .unset, .unset, .unset] [(.int (1048575 : Int32)), (.int (8 : Int32)), (.ref b3), (.ref b3)])) (X78.ldcInt hx hown (mvT hZ (hw _ (List.mem_of_getElem? (i := 8) rfl))) (g := (mkF m 48 #[.val (.int v0), .val (.int v1), .unset, .unset, .unset, .unset, .unset] [(.int (8 : Int32)), (.ref b3), (.ref b3)])) rfl (hb hby at_48)) ?_
  refine go_iastore X78 hx hZ e79 A84 (by decide) (show ((8 : Int32)).toNatClampNeg < 16 by decide) (g := (mkF m 50 #[.val (.int v0), .val (.int v1), .unset, .unset, .unset, .unset, .unset] [(.int (1048575 : Int32)), (.int (8 : Int32)), (.ref b3), (.ref b3)])) rfl rfl (hb hby at_50) (fun T85 h86 X87 e88 W89 A90 => ?_)
  have K91 := K82.wr W89 (Or.inr sz9)
  have N92 := Fr.snoc X87 N83 g10
  have A93 : IA Z h86 b3 [(0 : Int32), (57343 : Int32), (57344 : Int32), (63743 : Int32), (63744 : Int32), (983039 : Int32), (983040 : Int32), (1048573 : Int32), (1048575 : Int32), (0 : Int32), (0 : Int32), (0 : Int32), (0 : Int32), (0 : Int32), (0 : Int32), (0 : Int32)] := A90
  show Go p e below s _ _ _ T85 (mkF m 51 #[.val (.int v0), .val (.int v1), .unset, .unset, .unset, .unset, .unset] [(.ref b3)])
  refine go_step (T' := T85) (g' := (mkF m 52 #[.val (.int v0), .val (.int v1), .unset, .unset, .unset, .unset, .unset] [(.ref b3), (.ref b3)])) (fun t k => XS.dup X87.here hx rfl (hb hby at_51) rfl rfl k) ?_
  refine go_step (T' := T85) (g' := (mkF m 54 #[.val (.int v0), .val (.int v1), .unset, .unset, .unset, .unset, .unset] [(.int (9 : Int32)), (.ref b3), (.ref b3)])) (fun t k => XS.bipush X87.here hx rfl (hb hby at_52) k) ?_
  refine go_step (T' := T85) (g' := (mkF m 56 #[.val (.int v0), .val (.int v1), .unset, .unset, .unset, .unset, .unset] [(.int (1048576 : Int32)), (.int (9 : Int32)), (.ref b3), (.ref b3)])) (X87.ldcInt hx hown (mvT hZ (hw _ (List.mem_of_getElem? (i := 9) rfl))) (g := (mkF m 54 #[.val (.int v0), .val (.int v1), .unset, .unset, .unset, .unset, .unset] [(.int (9 : Int32)), (.ref b3), (.ref b3)])) rfl (hb hby at_54)) ?_
  refine go_iastore X87 hx hZ e88 A93 (by decide) (show ((9 : Int32)).toNatClampNeg < 16 by decide) (g := (mkF m 56 #[.val (.int v0), .val (.int v1), .unset, .unset, .unset, .unset, .unset] [(.int (1048576 : Int32)), (.int (9 : Int32)), (.ref b3), (.ref b3)])) rfl rfl (hb hby at_56) (fun T94 h95 X96 e97 W98 A99 => ?_)
  have K100 := K91.wr W98 (Or.inr sz9)
  have N101 := Fr.snoc X96 N92 g10
  have A102 : IA Z h95 b3 [(0 : Int32), (57343 : Int32), (57344 : Int32), (63743 : Int32), (63744 : Int32), (983039 : Int32), (983040 : Int32), (1048573 : Int32), (1048575 : Int32), (1048576 : Int32), (0 : Int32), (0 : Int32), (0 : Int32), (0 : Int32), (0 : Int32), (0 : Int32)] := A99
  show Go p e below s _ _ _ T94 (mkF m 57 #[.val (.int v0), .val (.int v1), .unset, .unset, .unset, .unset, .unset] [(.ref b3)])
  refine go_step (T' := T94) (g' := (mkF m 58 #[.val (.int v0), .val (.int v1), .unset, .unset, .unset, .unset, .unset] [(.ref b3), (.ref b3)])) (fun t k => XS.dup X96.here hx rfl (hb hby at_57) rfl rfl k) ?_
  refine go_step (T' := T94) (g' := (mkF m 60 #[.val (.int v0), .val (.int v1), .unset, .unset, .unset, .unset, .unset] [(.int (10 : Int32)), (.ref b3), (.ref b3)])) (fun t k => XS.bipush X96.here hx rfl (hb hby at_58) k) ?_
  refine go_step (T' := T94) (g' := (mkF m 62 #[.val (.int v0), .val (.int v1), .unset, .unset, .unset, .unset, .unset] [(.int (1114109 : Int32)), (.int (10 : Int32)), (.ref b3), (.ref b3)])) (X96.ldcInt hx hown (mvT hZ (hw _ (List.mem_of_getElem? (i := 10) rfl))) (g := (mkF m 60 #[.val (.int v0), .val (.int v1), .unset, .unset, .unset, .unset, .unset] [(.int (10 : Int32)), (.ref b3), (.ref b3)])) rfl (hb hby at_60)) ?_
  refine go_iastore X96 hx hZ e97 A102 (by decide) (show ((10 : Int32)).toNatClampNeg < 16 by decide) (g := (mkF m 62 #[.val (.int v0), .val (.int v1), .unset, .unset, .unset, .unset, .unset] [(.int (1114109 : Int32)), (.int (10 : Int32)), (.ref b3), (.ref b3)])) rfl rfl (hb hby at_62) (fun T103 h104 X105 e106 W107 A108 => ?_)
  have K109 := K100.wr W107 (Or.inr sz9)
  have N110 := Fr.snoc X105 N101 g10
  have A111 : IA Z h104 b3 [(0 : Int32), (57343 : Int32), (57344 : Int32), (63743 : Int32), (63744 : Int32), (983039 : Int32), (983040 : Int32), (1048573 : Int32), (1048575 : Int32), (1048576 : Int32), (1114109 : Int32), (0 : Int32), (0 : Int32), (0 : Int32), (0 : Int32), (0 : Int32)] := A108
  show Go p e below s _ _ _ T103 (mkF m 63 #[.val (.int v0), .val (.int v1), .unset, .unset, .unset, .unset, .unset] [(.ref b3)])
  refine go_step (T' := T103) (g' := (mkF m 64 #[.val (.int v0), .val (.int v1), .unset, .unset, .unset, .unset, .unset] [(.ref b3), (.ref b3)])) (fun t k => XS.dup X105.here hx rfl (hb hby at_63) rfl rfl k) ?_
  refine go_step (T' := T103) (g' := (mkF m 66 #[.val (.int v0), .val (.int v1), .unset, .unset, .unset, .unset, .unset] [(.int (11 : Int32)), (.ref b3), (.ref b3)])) (fun t k => XS.bipush X105.here hx rfl (hb hby at_64) k) ?_
  refine go_step (T' := T103) (g' := (mkF m 68 #[.val (.int v0), .val (.int v1), .unset, .unset, .unset, .unset, .unset] [(.int (1114111 : Int32)), (.int (11 : Int32)), (.ref b3), (.ref b3)])) (X105.ldcInt hx hown (mvT hZ (hw _ (List.mem_of_getElem? (i := 11) rfl))) (g := (mkF m 66 #[.val (.int v0), .val (.int v1), .unset, .unset, .unset, .unset, .unset] [(.int (11 : Int32)), (.ref b3), (.ref b3)])) rfl (hb hby at_66)) ?_
  refine go_iastore X105 hx hZ e106 A111 (by decide) (show ((11 : Int32)).toNatClampNeg < 16 by decide) (g := (mkF m 68 #[.val (.int v0), .val (.int v1), .unset, .unset, .unset, .unset, .unset] [(.int (1114111 : Int32)), (.int (11 : Int32)), (.ref b3), (.ref b3)])) rfl rfl (hb hby at_68) (fun T112 h113 X114 e115 W116 A117 => ?_)
  have K118 := K109.wr W116 (Or.inr sz9)
  have N119 := Fr.snoc X114 N110 g10
  have A120 : IA Z h113 b3 [(0 : Int32), (57343 : Int32), (57344 : Int32), (63743 : Int32), (63744 : Int32), (983039 : Int32), (983040 : Int32), (1048573 : Int32), (1048575 : Int32), (1048576 : Int32), (1114109 : Int32), (1114111 : Int32), (0 : Int32), (0 : Int32), (0 : Int32), (0 : Int32)] := A117
  show Go p e below s _ _ _ T112 (mkF m 69 #[.val (.int v0), .val (.int v1), .unset, .unset, .unset, .unset, .unset] [(.ref b3)])
  refine go_step (T' := T112) (g' := (mkF m 70 #[.val (.int v0), .val (.int v1), .unset, .unset, .unset, .unset, .unset] [(.ref b3), (.ref b3)])) (fun t k => XS.dup X114.here hx rfl (hb hby at_69) rfl rfl k) ?_
  refine go_step (T' := T112) (g' := (mkF m 72 #[.val (.int v0), .val (.int v1), .unset, .unset, .unset, .unset, .unset] [(.int (12 : Int32)), (.ref b3), (.ref b3)])) (fun t k => XS.bipush X114.here hx rfl (hb hby at_70) k) ?_
  refine go_step (T' := T112) (g' := (mkF m 74 #[.val (.int v0), .val (.int v1), .unset, .unset, .unset, .unset, .unset] [(.int (1114112 : Int32)), (.int (12 : Int32)), (.ref b3), (.ref b3)])) (X114.ldcInt hx hown (mvT hZ (hw _ (List.mem_of_getElem? (i := 12) rfl))) (g := (mkF m 72 #[.val (.int v0), .val (.int v1), .unset, .unset, .unset, .unset, .unset] [(.int (12 : Int32)), (.ref b3), (.ref b3)])) rfl (hb hby at_72)) ?_
  refine go_iastore X114 hx hZ e115 A120 (by decide) (show ((12 : Int32)).toNatClampNeg < 16 by decide) (g := (mkF m 74 #[.val (.int v0), .val (.int v1), .unset, .unset, .unset, .unset, .unset] [(.int (1114112 : Int32)), (.int (12 : Int32)), (.ref b3), (.ref b3)])) rfl rfl (hb hby at_74) (fun T121 h122 X123 e124 W125 A126 => ?_)
  have K127 := K118.wr W125 (Or.inr sz9)
  have N128 := Fr.snoc X123 N119 g10
  have A129 : IA Z h122 b3 [(0 : Int32), (57343 : Int32), (57344 : Int32), (63743 : Int32), (63744 : Int32), (983039 : Int32), (983040 : Int32), (1048573 : Int32), (1048575 : Int32), (1048576 : Int32), (1114109 : Int32), (1114111 : Int32), (1114112 : Int32), (0 : Int32), (0 : Int32), (0 : Int32)] := A126
  show Go p e below s _ _ _ T121 (mkF m 75 #[.val (.int v0), .val (.int v1), .unset, .unset, .unset, .unset, .unset] [(.ref b3)])
  refine go_step (T' := T121) (g' := (mkF m 76 #[.val (.int v0), .val (.int v1), .unset, .unset, .unset, .unset, .unset] [(.ref b3), (.ref b3)])) (fun t k => XS.dup X123.here hx rfl (hb hby at_75) rfl rfl k) ?_
  refine go_step (T' := T121) (g' := (mkF m 78 #[.val (.int v0), .val (.int v1), .unset, .unset, .unset, .unset, .unset] [(.int (13 : Int32)), (.ref b3), (.ref b3)])) (fun t k => XS.bipush X123.here hx rfl (hb hby at_76) k) ?_
  refine go_step (T' := T121) (g' := (mkF m 80 #[.val (.int v0), .val (.int v1), .unset, .unset, .unset, .unset, .unset] [(.int (131069 : Int32)), (.int (13 : Int32)), (.ref b3), (.ref b3)])) (X123.ldcInt hx hown (mvT hZ (hw _ (List.mem_of_getElem? (i := 13) rfl))) (g := (mkF m 78 #[.val (.int v0), .val (.int v1), .unset, .unset, .unset, .unset, .unset] [(.int (13 : Int32)), (.ref b3), (.ref b3)])) rfl (hb hby at_78)) ?_
  refine go_iastore X123 hx hZ e124 A129 (by decide) (show ((13 : Int32)).toNatClampNeg < 16 by decide) (g := (mkF m 80 #[.val (.int v0), .val (.int v1), .unset, .unset, .unset, .unset, .unset] [(.int (131069 : Int32)), (.int (13 : Int32)), (.ref b3), (.ref b3)])) rfl rfl (hb hby at_80) (fun T130 h131 X132 e133 W134 A135 => ?_)
  have K136 := K127.wr W134 (Or.inr sz9)
  have N137 := Fr.snoc X132 N128 g10
  have A138 : IA Z h131 b3 [(0 : Int32), (57343 : Int32), (57344 : Int32), (63743 : Int32), (63744 : Int32), (983039 : Int32), (983040 : Int32), (1048573 : Int32), (1048575 : Int32), (1048576 : Int32), (1114109 : Int32), (1114111 : Int32), (1114112 : Int32), (131069 : Int32), (0 : Int32), (0 : Int32)] := A135
  show Go p e below s _ _ _ T130 (mkF m 81 #[.val (.int v0), .val (.int v1), .unset, .unset, .unset, .unset, .unset] [(.ref b3)])
  refine go_step (T' := T130) (g' := (mkF m 82 #[.val (.int v0), .val (.int v1), .unset, .unset, .unset, .unset, .unset] [(.ref b3), (.ref b3)])) (fun t k => XS.dup X132.here hx rfl (hb hby at_81) rfl rfl k) ?_
  refine go_step (T' := T130) (g' := (mkF m 84 #[.val (.int v0), .val (.int v1), .unset, .unset, .unset, .unset, .unset] [(.int (14 : Int32)), (.ref b3), (.ref b3)])) (fun t k => XS.bipush X132.here hx rfl (hb hby at_82) k) ?_
  refine go_step (T' := T130) (g' := (mkF m 86 #[.val (.int v0), .val (.int v1), .unset, .unset, .unset, .unset, .unset] [(.int (-2147483648 : Int32)), (.int (14 : Int32)), (.ref b3), (.ref b3)])) (X132.ldcInt hx hown (mvT hZ (hw _ (List.mem_of_getElem? (i := 14) rfl))) (g := (mkF m 84 #[.val (.int v0), .val (.int v1), .unset, .unset, .unset, .unset, .unset] [(.int (14 : Int32)), (.ref b3), (.ref b3)])) rfl (hb hby at_84)) ?_
  refine go_iastore X132 hx hZ e133 A138 (by decide) (show ((14 : Int32)).toNatClampNeg < 16 by decide) (g := (mkF m 86 #[.val (.int v0), .val (.int v1), .unset, .unset, .unset, .unset, .unset] [(.int (-2147483648 : Int32)), (.int (14 : Int32)), (.ref b3), (.ref b3)])) rfl rfl (hb hby at_86) (fun T139 h140 X141 e142 W143 A144 => ?_)
  have K145 := K136.wr W143 (Or.inr sz9)
  have N146 := Fr.snoc X141 N137 g10
  have A147 : IA Z h140 b3 [(0 : Int32), (57343 : Int32), (57344 : Int32), (63743 : Int32), (63744 : Int32), (983039 : Int32), (983040 : Int32), (1048573 : Int32), (1048575 : Int32), (1048576 : Int32), (1114109 : Int32), (1114111 : Int32), (1114112 : Int32), (131069 : Int32), (-2147483648 : Int32), (0 : Int32)] := A144
  show Go p e below s _ _ _ T139 (mkF m 87 #[.val (.int v0), .val (.int v1), .unset, .unset, .unset, .unset, .unset] [(.ref b3)])
  refine go_step (T' := T139) (g' := (mkF m 88 #[.val (.int v0), .val (.int v1), .unset, .unset, .unset, .unset, .unset] [(.ref b3), (.ref b3)])) (fun t k => XS.dup X141.here hx rfl (hb hby at_87) rfl rfl k) ?_
  refine go_step (T' := T139) (g' := (mkF m 90 #[.val (.int v0), .val (.int v1), .unset, .unset, .unset, .unset, .unset] [(.int (15 : Int32)), (.ref b3), (.ref b3)])) (fun t k => XS.bipush X141.here hx rfl (hb hby at_88) k) ?_
  refine go_step (T' := T139) (g' := (mkF m 92 #[.val (.int v0), .val (.int v1), .unset, .unset, .unset, .unset, .unset] [(.int (2147483647 : Int32)), (.int (15 : Int32)), (.ref b3), (.ref b3)])) (X141.ldcInt hx hown (mvT hZ (hw _ (List.mem_of_getElem? (i := 15) rfl))) (g := (mkF m 90 #[.val (.int v0), .val (.int v1), .unset, .unset, .unset, .unset, .unset] [(.int (15 : Int32)), (.ref b3), (.ref b3)])) rfl (hb hby at_90)) ?_
  refine go_iastore X141 hx hZ e142 A147 (by decide) (show ((15 : Int32)).toNatClampNeg < 16 by decide) (g := (mkF m 92 #[.val (.int v0), .val (.int v1), .unset, .unset, .unset, .unset, .unset] [(.int (2147483647 : Int32)), (.int (15 : Int32)), (.ref b3), (.ref b3)])) rfl rfl (hb hby at_92) (fun T148 h149 X150 e151 W152 A153 => ?_)
  have K154 := K145.wr W152 (Or.inr sz9)
  have N155 := Fr.snoc X150 N146 g10
  have A156 : IA Z h149 b3 [(0 : Int32), (57343 : Int32), (57344 : Int32), (63743 : Int32), (63744 : Int32), (983039 : Int32), (983040 : Int32), (1048573 : Int32), (1048575 : Int32), (1048576 : Int32), (1114109 : Int32), (1114111 : Int32), (1114112 : Int32), (131069 : Int32), (-2147483648 : Int32), (2147483647 : Int32)] := A153
  show Go p e below s _ _ _ T148 (mkF m 93 #[.val (.int v0), .val (.int v1), .unset, .unset, .unset, .unset, .unset] [(.ref b3)])
  refine go_step (T' := T148) (g' := (mkF m 94 #[.val (.int v0), .val (.int v1), .val (.ref b3), .unset, .unset, .unset, .unset] [])) (fun t k => XS.astoreN X150.here hx rfl (hb hby at_93) rfl rfl (l' := #[.val (.int v0), .val (.int v1), .val (.ref b3), .unset, .unset, .unset, .unset]) rfl k) ?_
  refine go_step (T' := T148) (g' := (mkF m 95 #[.val (.int v0), .val (.int v1), .val (.ref b3), .unset, .unset, .unset, .unset] [(.int v1)])) (fun t k => XS.iloadN X150.here hx rfl (hb hby at_94) rfl  k) ?_
  refine go_step (T' := T148) (g' := (mkF m 96 #[.val (.int v0), .val (.int v1), .val (.ref b3), .unset, .unset, .unset, .unset] [(.int (3 : Int32)), (.int v1)])) (fun t k => XS.iconst X150.here hx rfl (hb hby at_95) k) ?_
  refine go_step (T' := T148) (g' := (mkF m 97 #[.val (.int v0), .val (.int v1), .val (.ref b3), .unset, .unset, .unset, .unset] [(.int (v1 &&& (3 : Int32)))])) (fun t k => XS.iand X150.here hx rfl (hb hby at_96) rfl k) ?_
  refine go_step (T' := T148) (g' := (mkF m 98 #[.val (.int v0), .val (.int v1), .val (.ref b3), .val (.int (v1 &&& (3 : Int32))), .unset, .unset, .unset] [])) (fun t k => XS.istoreN X150.here hx rfl (hb hby at_97) rfl (l' := #[.val (.int v0), .val (.int v1), .val (.ref b3), .val (.int (v1 &&& (3 : Int32))), .unset, .unset, .unset]) rfl k) ?_
  refine go_step (T' := T148) (g' := (mkF m 99 #[.val (.int v0), .val (.int v1), .val (.ref b3), .val (.int (v1 &&& (3 : Int32))), .unset, .unset, .unset] [(.int (v1 &&& (3 : Int32)))])) (fun t k => XS.iloadN X150.here hx rfl (hb hby at_98) rfl  k) ?_
  by_cases hc157 : (v1 &&& (3 : Int32)) = (0 : Int32)
  · refine go_step (T' := T148) (g' := (mkF m 102 #[.val (.int v0), .val (.int v1), .val (.ref b3), .val (.int (v1 &&& (3 : Int32))), .unset, .unset, .unset] [])) (fun t k => XS.ifNo X150.here hx rfl (hb hby at_99) rfl ((if0 _ _).trans (teq hc157).2) k) ?_
    refine go_step (T' := T148) (g' := (mkF m 103 #[.val (.int v0), .val (.int v1), .val (.ref b3), .val (.int (v1 &&& (3 : Int32))), .unset, .unset, .unset] [(.int v0)])) (fun t k => XS.iloadN X150.here hx rfl (hb hby at_102) rfl  k) ?_
    refine go_step (T' := T148) (g' := (mkF m 105 #[.val (.int v0), .val (.int v1), .val (.ref b3), .val (.int (v1 &&& (3 : Int32))), .val (.int v0), .unset, .unset] [])) (fun t k => XS.istore X150.here hx rfl (hb hby at_103) rfl (l' := #[.val (.int v0), .val (.int v1), .val (.ref b3), .val (.int (v1 &&& (3 : Int32))), .val (.int v0), .unset, .unset]) rfl k) ?_
    refine go_step (T' := T148) (g' := (mkF m 167 #[.val (.int v0), .val (.int v1), .val (.ref b3), .val (.int (v1 &&& (3 : Int32))), .val (.int v0), .unset, .unset] [])) (fun t k => XS.goto X150.here hx rfl (pc0 := 105) (pc' := 167) rfl (hb hby at_105) (by decide) (by decide) k) ?_
    exact b0_167 hw hx hby hml hown hZ hret hlk X150 e151 (by decide) (by decide) v0 v1 (.val (.ref b3)) (One.val rfl) (v1 &&& (3 : Int32)) v0 (.unset) One.u (.unset) One.u ⟨(by unfold f0_ret; first | (rw [if_pos hc157]; done) | (rw [if_pos hc157]; rfl)), N155⟩
  · refine go_step (T' := T148) (g' := (mkF m 108 #[.val (.int v0), .val (.int v1), .val (.ref b3), .val (.int (v1 &&& (3 : Int32))), .unset, .unset, .unset] [])) (fun t k => XS.ifYes X150.here hx rfl (pc0 := 99) (pc' := 108) rfl (hb hby at_99) rfl ((if0 _ _).trans (feq hc157).2) (by decide) (by decide) k) ?_
    refine go_step (T' := T148) (g' := (mkF m 109 #[.val (.int v0), .val (.int v1), .val (.ref b3), .val (.int (v1 &&& (3 : Int32))), .unset, .unset, .unset] [(.int (v1 &&& (3 : Int32)))])) (fun t k => XS.iloadN X150.here hx rfl (hb hby at_108) rfl  k) ?_
    refine go_step (T' := T148) (g' := (mkF m 110 #[.val (.int v0), .val (.int v1), .val (.ref b3), .val (.int (v1 &&& (3 : Int32))), .unset, .unset, .unset] [(.int (1 : Int32)), (.int (v1 &&& (3 : Int32)))])) (fun t k => XS.iconst X150.here hx rfl (hb hby at_109) k) ?_
    by_cases hc158 : (v1 &&& (3 : Int32)) = (1 : Int32)
    · refine go_step (T' := T148) (g' := (mkF m 113 #[.val (.int v0), .val (.int v1), .val (.ref b3), .val (.int (v1 &&& (3 : Int32))), .unset, .unset, .unset] [])) (fun t k => XS.icmpNo X150.here hx rfl (hb hby at_110) rfl (teq hc158).2 k) ?_
      refine go_step (T' := T148) (g' := (mkF m 114 #[.val (.int v0), .val (.int v1), .val (.ref b3), .val (.int (v1 &&& (3 : Int32))), .unset, .unset, .unset] [(.int v0)])) (fun t k => XS.iloadN X150.here hx rfl (hb hby at_113) rfl  k) ?_
      refine go_step (T' := T148) (g' := (mkF m 116 #[.val (.int v0), .val (.int v1), .val (.ref b3), .val (.int (v1 &&& (3 : Int32))), .unset, .unset, .unset] [(.int (2097151 : Int32)), (.int v0)])) (X150.ldcInt hx hown (mvT hZ (hw _ (List.mem_of_getElem? (i := 31) rfl))) (g := (mkF m 114 #[.val (.int v0), .val (.int v1), .val (.ref b3), .val (.int (v1 &&& (3 : Int32))), .unset, .unset, .unset] [(.int v0)])) rfl (hb hby at_114)) ?_
      refine go_step (T' := T148) (g' := (mkF m 117 #[.val (.int v0), .val (.int v1), .val (.ref b3), .val (.int (v1 &&& (3 : Int32))), .unset, .unset, .unset] [(.int (v0 &&& (2097151 : Int32)))])) (fun t k => XS.iand X150.here hx rfl (hb hby at_116) rfl k) ?_
      refine go_step (T' := T148) (g' := (mkF m 119 #[.val (.int v0), .val (.int v1), .val (.ref b3), .val (.int (v1 &&& (3 : Int32))), .val (.int (v0 &&& (2097151 : Int32))), .unset, .unset] [])) (fun t k => XS.istore X150.here hx rfl (hb hby at_117) rfl (l' := #[.val (.int v0), .val (.int v1), .val (.ref b3), .val (.int (v1 &&& (3 : Int32))), .val (.int (v0 &&& (2097151 : Int32))), .unset, .unset]) rfl k) ?_
      refine go_step (T' := T148) (g' := (mkF m 167 #[.val (.int v0), .val (.int v1), .val (.ref b3), .val (.int (v1 &&& (3 : Int32))), .val (.int (v0 &&& (2097151 : Int32))), .unset, .unset] [])) (fun t k => XS.goto X150.here hx rfl (pc0 := 119) (pc' := 167) rfl (hb hby at_119) (by decide) (by decide) k) ?_
      exact b0_167 hw hx hby hml hown hZ hret hlk X150 e151 (by decide) (by decide) v0 v1 (.val (.ref b3)) (One.val rfl) (v1 &&& (3 : Int32)) (v0 &&& (2097151 : Int32)) (.unset) One.u (.unset) One.u ⟨(by unfold f0_ret; first | (rw [if_neg hc157, if_pos hc158]; done) | (rw [if_neg hc157, if_pos hc158]; rfl)), N155⟩
    · refine go_step (T' := T148) (g' := (mkF m 122 #[.val (.int v0), .val (.int v1), .val (.ref b3), .val (.int (v1 &&& (3 : Int32))), .unset, .unset, .unset] [])) (fun t k => XS.icmpYes X150.here hx rfl (pc0 := 110) (pc' := 122) rfl (hb hby at_110) rfl (feq hc158).2 (by decide) (by decide) k) ?_
      refine go_step (T' := T148) (g' := (mkF m 123 #[.val (.int v0), .val (.int v1), .val (.ref b3), .val (.int (v1 &&& (3 : Int32))), .unset, .unset, .unset] [(.int (v1 &&& (3 : Int32)))])) (fun t k => XS.iloadN X150.here hx rfl (hb hby at_122) rfl  k) ?_
      refine go_step (T' := T148) (g' := (mkF m 124 #[.val (.int v0), .val (.int v1), .val (.ref b3), .val (.int (v1 &&& (3 : Int32))), .unset, .unset, .unset] [(.int (2 : Int32)), (.int (v1 &&& (3 : Int32)))])) (fun t k => XS.iconst X150.here hx rfl (hb hby at_123) k) ?_
      by_cases hc159 : (v1 &&& (3 : Int32)) = (2 : Int32)
      · refine go_step (T' := T148) (g' := (mkF m 127 #[.val (.int v0), .val (.int v1), .val (.ref b3), .val (.int (v1 &&& (3 : Int32))), .unset, .unset, .unset] [])) (fun t k => XS.icmpNo X150.here hx rfl (hb hby at_124) rfl (teq hc159).2 k) ?_
        refine go_step (T' := T148) (g' := (mkF m 128 #[.val (.int v0), .val (.int v1), .val (.ref b3), .val (.int (v1 &&& (3 : Int32))), .unset, .unset, .unset] [(.int v1)])) (fun t k => XS.iloadN X150.here hx rfl (hb hby at_127) rfl  k) ?_
        refine go_step (T' := T148) (g' := (mkF m 129 #[.val (.int v0), .val (.int v1), .val (.ref b3), .val (.int (v1 &&& (3 : Int32))), .unset, .unset, .unset] [(.int (2 : Int32)), (.int v1)])) (fun t k => XS.iconst X150.here hx rfl (hb hby at_128) k) ?_
        refine go_step (T' := T148) (g' := (mkF m 130 #[.val (.int v0), .val (.int v1), .val (.ref b3), .val (.int (v1 &&& (3 : Int32))), .unset, .unset, .unset] [(.int (ush v1 (2 : Int32)))])) (fun t k => XS.iushr X150.here hx rfl (hb hby at_129) rfl k) ?_
        refine go_step (T' := T148) (g' := (mkF m 132 #[.val (.int v0), .val (.int v1), .val (.ref b3), .val (.int (v1 &&& (3 : Int32))), .unset, .unset, .unset] [(.int (15 : Int32)), (.int (ush v1 (2 : Int32)))])) (fun t k => XS.bipush X150.here hx rfl (hb hby at_130) k) ?_
        refine go_step (T' := T148) (g' := (mkF m 133 #[.val (.int v0), .val (.int v1), .val (.ref b3), .val (.int (v1 &&& (3 : Int32))), .unset, .unset, .unset] [(.int ((ush v1 (2 : Int32)) &&& (15 : Int32)))])) (fun t k => XS.iand X150.here hx rfl (hb hby at_132) rfl k) ?_
        refine go_step (T' := T148) (g' := (mkF m 135 #[.val (.int v0), .val (.int v1), .val (.ref b3), .val (.int (v1 &&& (3 : Int32))), .unset, .val (.int ((ush v1 (2 : Int32)) &&& (15 : Int32))), .unset] [])) (fun t k => XS.istore X150.here hx rfl (hb hby at_133) rfl (l' := #[.val (.int v0), .val (.int v1), .val (.ref b3), .val (.int (v1 &&& (3 : Int32))), .unset, .val (.int ((ush v1 (2 : Int32)) &&& (15 : Int32))), .unset]) rfl k) ?_
        refine go_step (T' := T148) (g' := (mkF m 136 #[.val (.int v0), .val (.int v1), .val (.ref b3), .val (.int (v1 &&& (3 : Int32))), .unset, .val (.int ((ush v1 (2 : Int32)) &&& (15 : Int32))), .unset] [(.int v1)])) (fun t k => XS.iloadN X150.here hx rfl (hb hby at_135) rfl  k) ?_
        refine go_step (T' := T148) (g' := (mkF m 138 #[.val (.int v0), .val (.int v1), .val (.ref b3), .val (.int (v1 &&& (3 : Int32))), .unset, .val (.int ((ush v1 (2 : Int32)) &&& (15 : Int32))), .unset] [(.int (6 : Int32)), (.int v1)])) (fun t k => XS.bipush X150.here hx rfl (hb hby at_136) k) ?_
        refine go_step (T' := T148) (g' := (mkF m 139 #[.val (.int v0), .val (.int v1), .val (.ref b3), .val (.int (v1 &&& (3 : Int32))), .unset, .val (.int ((ush v1 (2 : Int32)) &&& (15 : Int32))), .unset] [(.int (ush v1 (6 : Int32)))])) (fun t k => XS.iushr X150.here hx rfl (hb hby at_138) rfl k) ?_
        refine go_step (T' := T148) (g' := (mkF m 141 #[.val (.int v0), .val (.int v1), .val (.ref b3), .val (.int (v1 &&& (3 : Int32))), .unset, .val (.int ((ush v1 (2 : Int32)) &&& (15 : Int32))), .unset] [(.int (7 : Int32)), (.int (ush v1 (6 : Int32)))])) (fun t k => XS.bipush X150.here hx rfl (hb hby at_139) k) ?_
        refine go_step (T' := T148) (g' := (mkF m 142 #[.val (.int v0), .val (.int v1), .val (.ref b3), .val (.int (v1 &&& (3 : Int32))), .unset, .val (.int ((ush v1 (2 : Int32)) &&& (15 : Int32))), .unset] [(.int ((ush v1 (6 : Int32)) &&& (7 : Int32)))])) (fun t k => XS.iand X150.here hx rfl (hb hby at_141) rfl k) ?_
        refine go_step (T' := T148) (g' := (mkF m 143 #[.val (.int v0), .val (.int v1), .val (.ref b3), .val (.int (v1 &&& (3 : Int32))), .unset, .val (.int ((ush v1 (2 : Int32)) &&& (15 : Int32))), .unset] [(.int (4 : Int32)), (.int ((ush v1 (6 : Int32)) &&& (7 : Int32)))])) (fun t k => XS.iconst X150.here hx rfl (hb hby at_142) k) ?_
        refine go_step (T' := T148) (g' := (mkF m 144 #[.val (.int v0), .val (.int v1), .val (.ref b3), .val (.int (v1 &&& (3 : Int32))), .unset, .val (.int ((ush v1 (2 : Int32)) &&& (15 : Int32))), .unset] [(.int (((ush v1 (6 : Int32)) &&& (7 : Int32)) - (4 : Int32)))])) (fun t k => XS.isub X150.here hx rfl (hb hby at_143) rfl k) ?_
        refine go_step (T' := T148) (g' := (mkF m 146 #[.val (.int v0), .val (.int v1), .val (.ref b3), .val (.int (v1 &&& (3 : Int32))), .unset, .val (.int ((ush v1 (2 : Int32)) &&& (15 : Int32))), .val (.int (((ush v1 (6 : Int32)) &&& (7 : Int32)) - (4 : Int32)))] [])) (fun t k => XS.istore X150.here hx rfl (hb hby at_144) rfl (l' := #[.val (.int v0), .val (.int v1), .val (.ref b3), .val (.int (v1 &&& (3 : Int32))), .unset, .val (.int ((ush v1 (2 : Int32)) &&& (15 : Int32))), .val (.int (((ush v1 (6 : Int32)) &&& (7 : Int32)) - (4 : Int32)))]) rfl k) ?_
        refine go_step (T' := T148) (g' := (mkF m 147 #[.val (.int v0), .val (.int v1), .val (.ref b3), .val (.int (v1 &&& (3 : Int32))), .unset, .val (.int ((ush v1 (2 : Int32)) &&& (15 : Int32))), .val (.int (((ush v1 (6 : Int32)) &&& (7 : Int32)) - (4 : Int32)))] [(.ref b3)])) (fun t k => XS.aloadN X150.here hx rfl (hb hby at_146) rfl rfl k) ?_
        refine go_step (T' := T148) (g' := (mkF m 149 #[.val (.int v0), .val (.int v1), .val (.ref b3), .val (.int (v1 &&& (3 : Int32))), .unset, .val (.int ((ush v1 (2 : Int32)) &&& (15 : Int32))), .val (.int (((ush v1 (6 : Int32)) &&& (7 : Int32)) - (4 : Int32)))] [(.int ((ush v1 (2 : Int32)) &&& (15 : Int32))), (.ref b3)])) (fun t k => XS.iload X150.here hx rfl (hb hby at_147) rfl  k) ?_
        refine go_iaload X150 hx hZ e151 A156 (own_idx v1).1 (getD_some (d := 0) (own_idx v1).2) (g := (mkF m 149 #[.val (.int v0), .val (.int v1), .val (.ref b3), .val (.int (v1 &&& (3 : Int32))), .unset, .val (.int ((ush v1 (2 : Int32)) &&& (15 : Int32))), .val (.int (((ush v1 (6 : Int32)) &&& (7 : Int32)) - (4 : Int32)))] [(.int ((ush v1 (2 : Int32)) &&& (15 : Int32))), (.ref b3)])) rfl rfl (hb hby at_149) ?_
        show Go p e below s _ _ _ T148 (mkF m 150 #[.val (.int v0), .val (.int v1), .val (.ref b3), .val (.int (v1 &&& (3 : Int32))), .unset, .val (.int ((ush v1 (2 : Int32)) &&& (15 : Int32))), .val (.int (((ush v1 (6 : Int32)) &&& (7 : Int32)) - (4 : Int32)))] [(.int (([(0 : Int32), (57343 : Int32), (57344 : Int32), (63743 : Int32), (63744 : Int32), (983039 : Int32), (983040 : Int32), (1048573 : Int32), (1048575 : Int32), (1048576 : Int32), (1114109 : Int32), (1114111 : Int32), (1114112 : Int32), (131069 : Int32), (-2147483648 : Int32), (2147483647 : Int32)] : List Int32).getD (((ush v1 (2 : Int32)) &&& (15 : Int32))).toNatClampNeg 0))])
        refine go_step (T' := T148) (g' := (mkF m 152 #[.val (.int v0), .val (.int v1), .val (.ref b3), .val (.int (v1 &&& (3 : Int32))), .unset, .val (.int ((ush v1 (2 : Int32)) &&& (15 : Int32))), .val (.int (((ush v1 (6 : Int32)) &&& (7 : Int32)) - (4 : Int32)))] [(.int (((ush v1 (6 : Int32)) &&& (7 : Int32)) - (4 : Int32))), (.int (([(0 : Int32), (57343 : Int32), (57344 : Int32), (63743 : Int32), (63744 : Int32), (983039 : Int32), (983040 : Int32), (1048573 : Int32), (1048575 : Int32), (1048576 : Int32), (1114109 : Int32), (1114111 : Int32), (1114112 : Int32), (131069 : Int32), (-2147483648 : Int32), (2147483647 : Int32)] : List Int32).getD (((ush v1 (2 : Int32)) &&& (15 : Int32))).toNatClampNeg 0))])) (fun t k => XS.iload X150.here hx rfl (hb hby at_150) rfl  k) ?_
        refine go_step (T' := T148) (g' := (mkF m 153 #[.val (.int v0), .val (.int v1), .val (.ref b3), .val (.int (v1 &&& (3 : Int32))), .unset, .val (.int ((ush v1 (2 : Int32)) &&& (15 : Int32))), .val (.int (((ush v1 (6 : Int32)) &&& (7 : Int32)) - (4 : Int32)))] [(.int ((([(0 : Int32), (57343 : Int32), (57344 : Int32), (63743 : Int32), (63744 : Int32), (983039 : Int32), (983040 : Int32), (1048573 : Int32), (1048575 : Int32), (1048576 : Int32), (1114109 : Int32), (1114111 : Int32), (1114112 : Int32), (131069 : Int32), (-2147483648 : Int32), (2147483647 : Int32)] : List Int32).getD (((ush v1 (2 : Int32)) &&& (15 : Int32))).toNatClampNeg 0) + (((ush v1 (6 : Int32)) &&& (7 : Int32)) - (4 : Int32))))])) (fun t k => XS.iadd X150.here hx rfl (hb hby at_152) rfl k) ?_
        refine go_step (T' := T148) (g' := (mkF m 155 #[.val (.int v0), .val (.int v1), .val (.ref b3), .val (.int (v1 &&& (3 : Int32))), .val (.int ((([(0 : Int32), (57343 : Int32), (57344 : Int32), (63743 : Int32), (63744 : Int32), (983039 : Int32), (983040 : Int32), (1048573 : Int32), (1048575 : Int32), (1048576 : Int32), (1114109 : Int32), (1114111 : Int32), (1114112 : Int32), (131069 : Int32), (-2147483648 : Int32), (2147483647 : Int32)] : List Int32).getD (((ush v1 (2 : Int32)) &&& (15 : Int32))).toNatClampNeg 0) + (((ush v1 (6 : Int32)) &&& (7 : Int32)) - (4 : Int32)))), .val (.int ((ush v1 (2 : Int32)) &&& (15 : Int32))), .val (.int (((ush v1 (6 : Int32)) &&& (7 : Int32)) - (4 : Int32)))] [])) (fun t k => XS.istore X150.here hx rfl (hb hby at_153) rfl (l' := #[.val (.int v0), .val (.int v1), .val (.ref b3), .val (.int (v1 &&& (3 : Int32))), .val (.int ((([(0 : Int32), (57343 : Int32), (57344 : Int32), (63743 : Int32), (63744 : Int32), (983039 : Int32), (983040 : Int32), (1048573 : Int32), (1048575 : Int32), (1048576 : Int32), (1114109 : Int32), (1114111 : Int32), (1114112 : Int32), (131069 : Int32), (-2147483648 : Int32), (2147483647 : Int32)] : List Int32).getD (((ush v1 (2 : Int32)) &&& (15 : Int32))).toNatClampNeg 0) + (((ush v1 (6 : Int32)) &&& (7 : Int32)) - (4 : Int32)))), .val (.int ((ush v1 (2 : Int32)) &&& (15 : Int32))), .val (.int (((ush v1 (6 : Int32)) &&& (7 : Int32)) - (4 : Int32)))]) rfl k) ?_
        show Go p e below s _ _ _ T148 (mkF m 155 #[.val (.int v0), .val (.int v1), .val (.ref b3), .val (.int (v1 &&& (3 : Int32))), .val (.int (s0_0 v0 v1)), .val (.int ((ush v1 (2 : Int32)) &&& (15 : Int32))), .val (.int (((ush v1 (6 : Int32)) &&& (7 : Int32)) - (4 : Int32)))] [])
        refine go_step (T' := T148) (g' := (mkF m 167 #[.val (.int v0), .val (.int v1), .val (.ref b3), .val (.int (v1 &&& (3 : Int32))), .val (.int (s0_0 v0 v1)), .val (.int ((ush v1 (2 : Int32)) &&& (15 : Int32))), .val (.int (((ush v1 (6 : Int32)) &&& (7 : Int32)) - (4 : Int32)))] [])) (fun t k => XS.goto X150.here hx rfl (pc0 := 155) (pc' := 167) rfl (hb hby at_155) (by decide) (by decide) k) ?_
        exact b0_167 hw hx hby hml hown hZ hret hlk X150 e151 (by decide) (by decide) v0 v1 (.val (.ref b3)) (One.val rfl) (v1 &&& (3 : Int32)) (s0_0 v0 v1) (.val (.int ((ush v1 (2 : Int32)) &&& (15 : Int32)))) (One.val rfl) (.val (.int (((ush v1 (6 : Int32)) &&& (7 : Int32)) - (4 : Int32)))) (One.val rfl) ⟨(by unfold f0_ret; first | (rw [if_neg hc157, if_neg hc158, if_pos hc159]; done) | (rw [if_neg hc157, if_neg hc158, if_pos hc159]; rfl)), N155⟩
      · refine go_step (T' := T148) (g' := (mkF m 158 #[.val (.int v0), .val (.int v1), .val (.ref b3), .val (.int (v1 &&& (3 : Int32))), .unset, .unset, .unset] [])) (fun t k => XS.icmpYes X150.here hx rfl (pc0 := 124) (pc' := 158) rfl (hb hby at_124) rfl (feq hc159).2 (by decide) (by decide) k) ?_
        refine go_step (T' := T148) (g' := (mkF m 160 #[.val (.int v0), .val (.int v1), .val (.ref b3), .val (.int (v1 &&& (3 : Int32))), .unset, .unset, .unset] [(.int (983040 : Int32))])) (X150.ldcInt hx hown (mvT hZ (hw _ (List.mem_of_getElem? (i := 6) rfl))) (g := (mkF m 158 #[.val (.int v0), .val (.int v1), .val (.ref b3), .val (.int (v1 &&& (3 : Int32))), .unset, .unset, .unset] [])) rfl (hb hby at_158)) ?_
        refine go_step (T' := T148) (g' := (mkF m 161 #[.val (.int v0), .val (.int v1), .val (.ref b3), .val (.int (v1 &&& (3 : Int32))), .unset, .unset, .unset] [(.int v0), (.int (983040 : Int32))])) (fun t k => XS.iloadN X150.here hx rfl (hb hby at_160) rfl  k) ?_
        refine go_step (T' := T148) (g' := (mkF m 163 #[.val (.int v0), .val (.int v1), .val (.ref b3), .val (.int (v1 &&& (3 : Int32))), .unset, .unset, .unset] [(.int (262143 : Int32)), (.int v0), (.int (983040 : Int32))])) (X150.ldcInt hx hown (mvT hZ (hw _ (List.mem_of_getElem? (i := 16) rfl))) (g := (mkF m 161 #[.val (.int v0), .val (.int v1), .val (.ref b3), .val (.int (v1 &&& (3 : Int32))), .unset, .unset, .unset] [(.int v0), (.int (983040 : Int32))])) rfl (hb hby at_161)) ?_
        refine go_step (T' := T148) (g' := (mkF m 164 #[.val (.int v0), .val (.int v1), .val (.ref b3), .val (.int (v1 &&& (3 : Int32))), .unset, .unset, .unset] [(.int (v0 &&& (262143 : Int32))), (.int (983040 : Int32))])) (fun t k => XS.iand X150.here hx rfl (hb hby at_163) rfl k) ?_
        refine go_step (T' := T148) (g' := (mkF m 165 #[.val (.int v0), .val (.int v1), .val (.ref b3), .val (.int (v1 &&& (3 : Int32))), .unset, .unset, .unset] [(.int ((983040 : Int32) + (v0 &&& (262143 : Int32))))])) (fun t k => XS.iadd X150.here hx rfl (hb hby at_164) rfl k) ?_
        refine go_step (T' := T148) (g' := (mkF m 167 #[.val (.int v0), .val (.int v1), .val (.ref b3), .val (.int (v1 &&& (3 : Int32))), .val (.int ((983040 : Int32) + (v0 &&& (262143 : Int32)))), .unset, .unset] [])) (fun t k => XS.istore X150.here hx rfl (hb hby at_165) rfl (l' := #[.val (.int v0), .val (.int v1), .val (.ref b3), .val (.int (v1 &&& (3 : Int32))), .val (.int ((983040 : Int32) + (v0 &&& (262143 : Int32)))), .unset, .unset]) rfl k) ?_
        exact b0_167 hw hx hby hml hown hZ hret hlk X150 e151 (by decide) (by decide) v0 v1 (.val (.ref b3)) (One.val rfl) (v1 &&& (3 : Int32)) ((983040 : Int32) + (v0 &&& (262143 : Int32))) (.unset) One.u (.unset) One.u ⟨(by unfold f0_ret; first | (rw [if_neg hc157, if_neg hc158, if_neg hc159]; done) | (rw [if_neg hc157, if_neg hc158, if_neg hc159]; rfl)), N155⟩
/-! the plain law: the two tests say the same of every int -/
theorem own_53 (a v1 v2 t : Int32) : f2_53 a v1 v2 t = if v1 = (0 : Int32) then (if v2 = (0 : Int32) then (if t = (0 : Int32) then 0 else 1) else 1) else 1 := rfl
theorem own_35 (c v1 t : Int32) : f2_35 c v1 t = if v1 = (0 : Int32) then (if t = (0 : Int32) then (if 1048576 ≤ c.toInt ∧ c.toInt ≤ 1114109 then 1 else 0) else 1) else 1 := by
  have k4 : (1114109 : Int32).toInt = 1114109 := by decide
  have k7 : (1048576 : Int32).toInt = 1048576 := by decide
  unfold f2_35 f2_52
  simp only [own_53, Int32.lt_iff_toInt_lt, k4, k7]
  by_cases h1 : c.toInt < 1048576
  · rw [if_pos h1, if_neg (by omega : ¬ (1048576 ≤ c.toInt ∧ c.toInt ≤ 1114109))]; simp
  · rw [if_neg h1]
    by_cases h2 : 1114109 < c.toInt
    · rw [if_pos h2, if_neg (by omega : ¬ (1048576 ≤ c.toInt ∧ c.toInt ≤ 1114109))]; simp
    · rw [if_neg h2, if_pos (by omega : 1048576 ≤ c.toInt ∧ c.toInt ≤ 1114109)]; simp
theorem own_17 (c t : Int32) : f2_17 c t = if t = (0 : Int32) then (if (983040 ≤ c.toInt ∧ c.toInt ≤ 1048573) ∨ (1048576 ≤ c.toInt ∧ c.toInt ≤ 1114109) then 1 else 0) else 1 := by
  have k3 : (983040 : Int32).toInt = 983040 := by decide
  have k6 : (1048573 : Int32).toInt = 1048573 := by decide
  unfold f2_17 f2_34
  simp only [own_35, Int32.lt_iff_toInt_lt, k3, k6]
  generalize c.toInt = n
  by_cases h1 : n < 983040
  · rw [if_pos h1, if_neg (by omega : ¬ (1048576 ≤ n ∧ n ≤ 1114109)), if_neg (by omega : ¬ ((983040 ≤ n ∧ n ≤ 1048573) ∨ (1048576 ≤ n ∧ n ≤ 1114109)))]; simp
  · rw [if_neg h1]
    by_cases h2 : 1048573 < n
    · rw [if_pos h2]
      by_cases h3 : 1048576 ≤ n ∧ n ≤ 1114109
      · rw [if_pos h3, if_pos (Or.inr h3)]; simp
      · rw [if_neg h3, if_neg (by omega : ¬ ((983040 ≤ n ∧ n ≤ 1048573) ∨ (1048576 ≤ n ∧ n ≤ 1114109)))]; simp
    · rw [if_neg h2, if_pos (by omega : (983040 ≤ n ∧ n ≤ 1048573) ∨ (1048576 ≤ n ∧ n ≤ 1114109))]; simp
theorem own_ref (c : Int32) : f2_0 c = if (57344 ≤ c.toInt ∧ c.toInt ≤ 63743) ∨ (983040 ≤ c.toInt ∧ c.toInt ≤ 1048573) ∨ (1048576 ≤ c.toInt ∧ c.toInt ≤ 1114109) then 1 else 0 := by
  have k1 : (57344 : Int32).toInt = 57344 := by decide
  have k2 : (63743 : Int32).toInt = 63743 := by decide
  unfold f2_0 f2_16
  simp only [own_17, Int32.lt_iff_toInt_lt, k1, k2]
  generalize c.toInt = n
  by_cases h3 : (983040 ≤ n ∧ n ≤ 1048573) ∨ (1048576 ≤ n ∧ n ≤ 1114109)
  · rw [if_pos (Or.inr h3)]
    by_cases h1 : n < 57344
    · simp [h1, h3]
    · by_cases h2 : 63743 < n
      · simp [h1, h2, h3]
      · simp [h1, h2]
  · by_cases h1 : n < 57344
    · rw [if_pos h1, if_neg h3, if_neg (by omega : ¬ ((57344 ≤ n ∧ n ≤ 63743) ∨ (983040 ≤ n ∧ n ≤ 1048573) ∨ (1048576 ≤ n ∧ n ≤ 1114109)))]; simp
    · rw [if_neg h1]
      by_cases h2 : 63743 < n
      · rw [if_pos h2, if_neg h3, if_neg (by omega : ¬ ((57344 ≤ n ∧ n ≤ 63743) ∨ (983040 ≤ n ∧ n ≤ 1048573) ∨ (1048576 ≤ n ∧ n ≤ 1114109)))]; simp
      · rw [if_neg h2, if_pos (by omega : (57344 ≤ n ∧ n ≤ 63743) ∨ (983040 ≤ n ∧ n ≤ 1048573) ∨ (1048576 ≤ n ∧ n ≤ 1114109))]; simp
theorem own_same (c : Int32) : f1_0 c = f2_0 c := by
  have m := c_mask c (65535 : Int32) 16 (by decide) (by decide)
  rw [show ((2 ^ 16 : Nat) : Int) = 65536 by decide] at m
  have k1 : (57344 : Int32).toInt = 57344 := by decide
  have k2 : (63743 : Int32).toInt = 63743 := by decide
  have k3 : (983040 : Int32).toInt = 983040 := by decide
  have k4 : (1114109 : Int32).toInt = 1114109 := by decide
  have k5 : (65533 : Int32).toInt = 65533 := by decide
  rw [own_ref]
  unfold f1_0 f1_12
  simp only [Int32.lt_iff_toInt_lt, m, k1, k2, k3, k4, k5]
  generalize c.toInt = n
  repeat' split
  all_goals first | rfl | (exfalso; omega)
theorem own_t (a b d c : Int32) : f0_167 a b d c = 1 := by
  unfold f0_167
  rw [if_pos (own_same c)]
theorem plain_law (x sel : Int32) : f0_ret x sel = 1 := by
  unfold f0_ret
  simp only [own_t]
  repeat' split
  all_goals rfl

set_option maxRecDepth 65536 in
set_option maxHeartbeats 40000000 in
theorem comes_1 {Post : Tables → Env → Array Value → State → Outcome → State → Prop} (hpost : ∀ tb e args s v u, (limb_1_1.after args s (.returned v) u = true ∧ limb_1_2.after args s (.returned v) u = true ∧ True) → FrameEnd s (.returned v) u (Jvm.fieldLocs frame_1_writes args s ++ Jvm.arrayLocs frame_1_arrays args s ++ Jvm.staticLocs frame_1_statics s) 16 128 → Post tb e args s (.returned v) u) :
    ArmFor flags0 classFile x code maxLocals ret World_1 tables_1 room_1 Calls_1 rest_1 Pre_1 Post := by
  intro l hfl _ _ p e ha hc hk s m args below hf hA hF happ hP
  obtain ⟨hcalls, hrest, hpre⟩ := hP
  obtain ⟨-, -, -, hnamed, -, -, -, hat⟩ := (Spec.applies_iff hf).mp happ
  obtain ⟨hg, hn⟩ := and_e (Cond.before_iff.mp (show (Jvm.Cond.and given_1 narrow_1).before args s = true from hpre))
  obtain ⟨hcount, hg0⟩ := and_e hg
  obtain ⟨ga0, hg1⟩ := and_e hg0
  have ga1 := hg1
  obtain ⟨w0, w1, rfl⟩ : ∃ w0 w1 : Value, args = #[w0, w1] := by
    have hs : args.size = 2 := by simpa [Cond.value, given_1] using hcount
    obtain ⟨L⟩ := args
    match L, hs with
    | [w0, w1], _ => exact ⟨w0, w1, rfl⟩
  have hw := fun d (hd : d ∈ tables_1) => atoms_spec (ws := Jvm.Cond.code x code maxLocals ret :: tables_1) hat d (List.mem_cons_of_mem _ hd)
  obtain ⟨i0, ei0⟩ := is_v ga0
  obtain rfl : w0 = (.int i0) := Option.some.inj ei0
  obtain ⟨i1, ei1⟩ := is_v ga1
  obtain rfl : w1 = (.int i1) := Option.some.inj ei1
  obtain ⟨n, o, h1, h2, h3, _, L, rfl, ⟨rfl, N⟩, hq⟩ := mq0 l s _ hw tables_1 i0 i1 s.heap s.heap.size (Nat.le_refl _) p e ha hc hk s m _ below hf ((Spec.applies_iff_loose hf).mp happ).1 ⟨rfl, State.Warmed39.refl s, rfl⟩ trivial
  rw [plain_law] at h3 hq
  refine ⟨n, _, h1, h2, h3, hpost _ _ _ _ _ _ ⟨Cond.after_iff.mpr rfl, Cond.after_iff.mpr (eq_i res_at (Term.int_eval (1)) rfl), trivial⟩ ⟨hq.1, hq.2.1, (hq.2.2.sift fun y hy => Or.inr (N y hy)).mono (by decide) (by decide)⟩⟩
theorem main_1_1 : Claimed_1_1 := comes_1 fun _ _ _ _ _ _ h hF => ⟨h.1, hF⟩
theorem main_1_2 : Claimed_1_2 := comes_1 fun _ _ _ _ _ _ h hF => ⟨h.2.1, hF⟩
end Jvm.Pilot.@@N@@
namespace Jvm.Pilot.@@N@@
open Jvm Jvm.ClassFile Sem Op Lib Jvm.Free Jvm.Stand Jvm.Pilot.@@N@@.Jvm.D
/-! MADE BY PROGRAM (witnessworld.py) out of the Statement's table words and the real class files: 9 classes; the members and pool entries that the words name. The judged class is class 1, her method 2. -/
namespace start1
open Jvm.ClassFile
def u (s : String) : CpInfo := .utf8 (stringToUtf16 s)
/-- a pool by its gaps: so many unusable entries, then the entry; so many at the end -/
def gap : Nat → List CpInfo → List CpInfo
  | 0, r => r
  | n + 1, r => .unusable :: gap n r
def poolList (es : List (Nat × CpInfo)) (last : Nat) : List CpInfo := es.foldr (fun e r => gap e.1 (e.2 :: r)) (gap last [])
def pool (es : List (Nat × CpInfo)) (last : Nat) : Array CpInfo := ⟨poolList es last⟩
def fileOf (pool : Array CpInfo) (this : Nat) (attrs : Array Attribute := #[]) (ms : Array MethodInfo := #[]) (fl : Nat := 33) (sup : Nat := 0) (ifs : Array Nat := #[]) (fds : Array FieldInfo := #[]) : ClassFile where
  minorVersion := 0
  majorVersion := 65
  constantPool := pool
  accessFlags := fl
  thisClass := this
  superClass := sup
  interfaces := ifs
  fields := fds
  methods := ms
  attributes := attrs
def plain (name : String) (sup : Option ClassId) : Class where
  name := name
  kind := .ordinary
  loader := none
  accessFlags := 33
  super := sup
  interfaces := #[]
  cf := none
  fields := #[]
  methods := #[]
  instanceTypes := #[]
  staticTypes := #[]
  resolved := #[]
  callSites := []
  init := .initialized
  statics := none
  mirror := none

def pool0 : Array CpInfo := pool [(5, u "<init>"), (0, u "()V"), (1, .class_ 10), (1, u "java/lang/Object")] 113

def k0m0 : Method := { name := "<init>", desc := "()V", sig := { parameters := [], returnType := none }, accessFlags := 1, code := none }
/-- java/lang/Object -/
def k0 : Class := { plain "java/lang/Object" none with
  accessFlags := 33
  interfaces := #[]
  cf := some (fileOf pool0 8 #[] #[{ accessFlags := 1, nameIndex := 5, descriptorIndex := 6, attributes := #[] }] 33 0 #[] #[])
  fields := #[]
  methods := #[k0m0]
  instanceTypes := #[]
  staticTypes := #[]
  resolved := Array.replicate 124 none
  statics := none }

def pool1 : Array CpInfo := pool [(2, .class_ 4), (1, u "java/lang/Object"), (0, u "<init>"), (0, u "()V"), (0, .integer 57344), (0, .integer 63743), (0, .integer 983040), (0, .integer 1048573), (0, .integer 1048576), (0, .integer 1114109), (0, .integer 57343), (0, .integer 63744), (0, .integer 983039), (0, .integer 1048575), (0, .integer 1114111), (0, .integer 1114112), (0, .integer 131069), (2, .integer 2147483648), (0, .integer 2147483647), (0, .integer 2097151), (0, .integer 262143), (0, .methodref 27 28), (0, .class_ 29), (0, .nameAndType 30 31), (0, u "com/example/map21/map21/util/IriCharacters"), (0, u "isIprivate"), (0, u "(I)Z"), (0, .methodref 33 34), (0, .class_ 35), (0, .nameAndType 36 31), (0, u "com/example/map21/map21/util/IriCharactersIsIprivatePinLaw"), (0, u "reference"), (3, u "law"), (0, u "(II)Z")] 4

def k1m0 : Method := { name := "<init>", desc := "()V", sig := { parameters := [], returnType := none }, accessFlags := 2, code := none }
def k1c1 : Code := { maxStack := 2, maxLocals := 4, code := method_2_code, exceptionTable := #[], attributes := #[] }
def k1m1 : Method := { name := "reference", desc := "(I)Z", sig := { parameters := [.int], returnType := some .boolean }, accessFlags := 10, code := some k1c1 }
def k1c2 : Code := { maxStack := 4, maxLocals := 7, code := code, exceptionTable := #[], attributes := #[] }
def k1m2 : Method := { name := "law", desc := "(II)Z", sig := { parameters := [.int, .int], returnType := some .boolean }, accessFlags := 9, code := some k1c2 }
/-- com/example/map21/map21/util/IriCharactersIsIprivatePinLaw -/
def k1 : Class := { plain "com/example/map21/map21/util/IriCharactersIsIprivatePinLaw" (some 0) with
  accessFlags := 49
  interfaces := #[]
  cf := some (fileOf pool1 33 #[] #[{ accessFlags := 2, nameIndex := 5, descriptorIndex := 6, attributes := #[] }, { accessFlags := 10, nameIndex := 36, descriptorIndex := 31, attributes := #[] }, { accessFlags := 9, nameIndex := 40, descriptorIndex := 41, attributes := #[] }] 49 2 #[] #[])
  fields := #[]
  methods := #[k1m0, k1m1, k1m2]
  instanceTypes := #[]
  staticTypes := #[]
  resolved := Array.replicate 46 none
  statics := none }

def pool2 : Array CpInfo := pool [(2, .class_ 4), (1, u "java/lang/Object"), (0, u "<init>"), (0, u "()V"), (5, u "(I)Z"), (3, .class_ 18), (1, u "com/example/map21/map21/util/IriCharacters"), (2, .integer 65535), (7, .integer 65533), (2, .integer 57344), (0, .integer 63743), (0, .integer 983040), (0, .integer 1114109), (13, u "isIprivate")] 6

def k2m0 : Method := { name := "<init>", desc := "()V", sig := { parameters := [], returnType := none }, accessFlags := 2, code := none }
def k2c1 : Code := { maxStack := 2, maxLocals := 1, code := prog_38_method_5_code, exceptionTable := #[], attributes := #[] }
def k2m1 : Method := { name := "isIprivate", desc := "(I)Z", sig := { parameters := [.int], returnType := some .boolean }, accessFlags := 9, code := some k2c1 }
/-- com/example/map21/map21/util/IriCharacters -/
def k2 : Class := { plain "com/example/map21/map21/util/IriCharacters" (some 0) with
  accessFlags := 33
  interfaces := #[]
  cf := some (fileOf pool2 16 #[] #[{ accessFlags := 2, nameIndex := 5, descriptorIndex := 6, attributes := #[] }, { accessFlags := 9, nameIndex := 49, descriptorIndex := 12, attributes := #[] }] 33 2 #[] #[])
  fields := #[]
  methods := #[k2m0, k2m1]
  instanceTypes := #[]
  staticTypes := #[]
  resolved := Array.replicate 56 none
  statics := none }

def pool3 : Array CpInfo := pool [(1, u "java/lang/Cloneable"), (0, .class_ 1), (0, u "java/lang/Object"), (0, .class_ 3)] 3

/-- java/lang/Cloneable -/
def k3 : Class := { plain "java/lang/Cloneable" (some 0) with
  accessFlags := 1537
  interfaces := #[]
  cf := some (fileOf pool3 2 #[] #[] 1537 4 #[] #[])
  fields := #[]
  methods := #[]
  instanceTypes := #[]
  staticTypes := #[]
  resolved := Array.replicate 8 none
  statics := none }

def pool4 : Array CpInfo := pool [(1, u "java/io/Serializable"), (0, .class_ 1), (0, u "java/lang/Object"), (0, .class_ 3)] 3

/-- java/io/Serializable -/
def k4 : Class := { plain "java/io/Serializable" (some 0) with
  accessFlags := 1537
  interfaces := #[]
  cf := some (fileOf pool4 2 #[] #[] 1537 4 #[] #[])
  fields := #[]
  methods := #[]
  instanceTypes := #[]
  staticTypes := #[]
  resolved := Array.replicate 8 none
  statics := none }

/-- the primitive byte -/
def k5 : Class := { plain "byte" none with kind := .primitive 'B', accessFlags := 0x411 }
/-- [B -/
def k6 : Class := { plain "[B" (some 0) with kind := .array 5 .byte, interfaces := #[3, 4], accessFlags := 1041 }

/-- the primitive int -/
def k7 : Class := { plain "int" none with kind := .primitive 'I', accessFlags := 0x411 }
/-- [I -/
def k8 : Class := { plain "[I" (some 0) with kind := .array 7 .int, interfaces := #[3, 4], accessFlags := 1041 }

def heap : Heap := #[]
def classes : Array Class := #[k0, k1, k2, k3, k4, k5, k6, k7, k8]
def interned : List (Array UInt16 × Addr) := []
def slotsUsed : Nat := 0
def theMethod : MethodId := ⟨1, 2⟩
def args0 : Array Value := #[.int 5, .int 5]
def aboutOver (below : List Frame) : State where
  vm := { classes := classes, interned := interned.toArray }
  heap := heap
  slotsUsed := slotsUsed
  threads := #[{ frames := .invoking theMethod args0 :: below }]
def below0 : List Frame := [.native { method := ⟨0, 0⟩, args := #[] }]
def about1 : State := aboutOver below0
def p0 : Program := .bare "" "" ""
def e0 : Env := launch0.env 0 0 0
theorem w_frames : about1.frames = Frame.invoking theMethod args0 :: below0 := rfl
set_option maxRecDepth 65536 in
theorem w_args : argsFit about1.vm theMethod args0 = true := by decide +kernel
set_option maxRecDepth 65536 in
theorem w_heap : heapFits about1 = true := by decide +kernel
set_option maxRecDepth 65536 in
theorem w_runnable : about1.curStatus? = some .runnable := by decide +kernel
set_option maxRecDepth 65536 in
theorem w_alone : about1.alone = true := by decide +kernel
set_option maxRecDepth 65536 in
theorem w_named : about1.methodNamed? x = some theMethod := by decide +kernel
set_option maxRecDepth 65536 in
theorem w_hears : about1.hears theMethod below0 = true := by decide +kernel
set_option maxRecDepth 65536 in
theorem w_ripe : about1.ripe theMethod args0 below0 = true := by decide +kernel
theorem w_running : about1.status = .running := rfl
set_option maxRecDepth 65536 in
theorem w_room : about1.hasRoom e0.platform room_1 = true :=
  launch0.hasRoom_least _ room_1 (by decide +kernel) (by decide +kernel) (by decide +kernel) (by decide +kernel) (by decide +kernel) (by decide +kernel)
theorem allAtoms_all (ts : List Jvm.Cond) (a : Array Jvm.Value) (st : Jvm.State) : (allAtoms ts).before a st = ts.all (fun c => c.before a st) := by
  induction ts with
  | nil => rfl
  | cons c t ih =>
    show (Jvm.Cond.and c (allAtoms t)).before a st = _
    rw [Jvm.Cond.before_and, ih, List.all_cons]
def words1 : List Jvm.Cond := Jvm.Cond.code x code maxLocals ret :: tables_1
/-- a 'code' word, met by the world's own term for the bytes: nothing is compared byte by byte -/
theorem code_word {y : MethodName} {bytes : ByteArray} {mx : Nat} {rt : Option FieldType} {a : Array Value} {s : State} {m : MethodId} {meth : Method} {c : Code} (h1 : s.methodNamed? y = some m) (h2 : s.vm.method? m = some meth) (h3 : meth.code = some c) (h4 : c.code = bytes)
    (h5 : (c.maxLocals == mx && c.exceptionTable.isEmpty && decide (c.maxStack ≤ mostOperands) && decide (meth.sig.returnType = rt) && !meth.locks && decide (parseMethodDescriptor y.desc = some meth.sig)) = true) : (Jvm.Cond.code y bytes mx rt).before a s = true := by
  simp only [Bool.and_eq_true, beq_iff_eq, Bool.not_eq_true', decide_eq_true_eq] at h5
  obtain ⟨⟨⟨⟨⟨g1, g2⟩, g3⟩, g4⟩, g5⟩, g6⟩ := h5
  simp [Cond.before, Cond.holds, Cond.value, h1, h2, h3, h4, g1, g2, g3, g4, g5, g6]
def isCode : Jvm.Cond → Bool
  | .code _ _ _ _ => true
  | _ => false
theorem all_split {L : List Jvm.Cond} {P : Jvm.Cond → Bool} (h1 : L.all (fun c => isCode c || P c) = true) (h2 : ∀ c ∈ L.filter isCode, P c = true) : L.all P = true := by
  refine List.all_eq_true.mpr fun c hc => ?_
  have h := List.all_eq_true.mp h1 c hc
  rcases Bool.eq_false_or_eq_true (isCode c) with hi | hi
  · exact h2 c (List.mem_filter.mpr ⟨hc, hi⟩)
  · simpa [hi] using h
set_option maxRecDepth 65536 in
theorem w_c0 : (Jvm.Cond.code x code maxLocals ret).before args0 about1 = true := code_word (m := ⟨1, 2⟩) (meth := k1m2) (c := k1c2) (by decide +kernel) rfl rfl rfl (by decide +kernel)
set_option maxRecDepth 65536 in
theorem w_c1 : (Jvm.Cond.code ({ cls := "com/example/map21/map21/util/IriCharacters", name := "isIprivate", desc := "(I)Z" } : Jvm.MethodName) prog_38_method_5_code (1 : Nat) (Option.some Jvm.ClassFile.FieldType.boolean)).before args0 about1 = true := code_word (m := ⟨2, 1⟩) (meth := k2m1) (c := k2c1) (by decide +kernel) rfl rfl rfl (by decide +kernel)
set_option maxRecDepth 65536 in
theorem w_c2 : (Jvm.Cond.code ({ cls := "com/example/map21/map21/util/IriCharactersIsIprivatePinLaw", name := "reference", desc := "(I)Z" } : Jvm.MethodName) method_2_code (4 : Nat) (Option.some Jvm.ClassFile.FieldType.boolean)).before args0 about1 = true := code_word (m := ⟨1, 1⟩) (meth := k1m1) (c := k1c1) (by decide +kernel) rfl rfl rfl (by decide +kernel)
def codes1 : List Jvm.Cond := [Jvm.Cond.code x code maxLocals ret, Jvm.Cond.code ({ cls := "com/example/map21/map21/util/IriCharacters", name := "isIprivate", desc := "(I)Z" } : Jvm.MethodName) prog_38_method_5_code (1 : Nat) (Option.some Jvm.ClassFile.FieldType.boolean), Jvm.Cond.code ({ cls := "com/example/map21/map21/util/IriCharactersIsIprivatePinLaw", name := "reference", desc := "(I)Z" } : Jvm.MethodName) method_2_code (4 : Nat) (Option.some Jvm.ClassFile.FieldType.boolean)]
set_option maxRecDepth 65536 in
theorem codes_eq : words1.filter isCode = codes1 := rfl
theorem w_codes : ∀ c ∈ words1.filter isCode, c.before args0 about1 = true := by
  rw [codes_eq]
  intro c hc
  simp only [codes1, List.mem_cons, List.not_mem_nil, or_false] at hc
  rcases hc with rfl | rfl | rfl
  · exact w_c0
  · exact w_c1
  · exact w_c2
set_option maxRecDepth 65536 in
theorem w_t1 : (words1.take 24).all (fun c => isCode c || c.before args0 about1) = true := by decide +kernel
set_option maxRecDepth 65536 in
theorem w_t2 : (words1.drop 24).all (fun c => isCode c || c.before args0 about1) = true := by decide +kernel
theorem w_tables : (allAtoms (Jvm.Cond.code x code maxLocals ret :: tables_1)).before args0 about1 = true := by
  rw [allAtoms_all]
  show words1.all (fun c => c.before args0 about1) = true
  refine all_split ?_ w_codes
  rw [← List.take_append_drop 24 words1, List.all_append, w_t1, w_t2]
  rfl
set_option maxRecDepth 65536 in
theorem w_case : (Jvm.Cond.and given_1 narrow_1).before args0 about1 = true := by decide +kernel
theorem w_applies : (headSpec (Jvm.Cond.code x code maxLocals ret :: tables_1) room_1).applies x e0.platform about1 = true :=
  (Spec.applies_iff w_frames).mpr ⟨w_running, w_runnable, w_alone, w_named, w_hears, w_ripe, w_room, w_tables⟩
theorem atStart : AtStart classFile x code maxLocals ret World_1 tables_1 room_1 Calls_1 rest_1 Pre_1 launch0 p0 e0 about1 theMethod args0 below0 :=
  ⟨lists_1, trivial, launch0.admits_env _ _ _, launch0.least_env, fairChoices_fair.cas, fairChoices_fair.clock, w_frames, w_args, w_heap, w_applies, trivial, trivial, w_case⟩
end start1
theorem witness_1 : WitnessClaimed_1 := ⟨start1.p0, start1.e0, start1.about1, start1.theMethod, start1.args0, start1.below0, start1.atStart⟩
end Jvm.Pilot.@@N@@
