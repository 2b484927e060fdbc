import JvmDerived
import JvmDerived.Pilot.@@N@@Statement
import JvmDerived.Pilot.@@N@@Code
set_option linter.unusedVariables false
set_option linter.unusedSimpArgs false
namespace Jvm.Pilot.@@N@@
open Jvm Jvm.ClassFile Sem Op Lib Jvm.Free Jvm.Stand Jvm.LawKit Jvm.RoadKit Bundle Jvm.Pilot.@@N@@.Jvm.D
/-! the walk's own small layer: 'Go' (from this frame the run comes to an end that Q tells of), one law a return, one law a call -/
def Go (p : Program) (e : Env) (below : List Frame) (s : State) (C S : Nat) (Q : Option Value → Heap → List Loc → Prop) (T : State) (g : JFrame) : Prop :=
  ∃ s₂ o, Steps p.tables e below (T.setTop g) s₂ ∧ s₂.status = .running ∧ Ended s₂ below o ∧ ∃ v L, o = .returned v ∧ Q v s₂.heap L ∧ FrameEnd s o s₂ L C S
/-- a contract: called with these arguments over this heap, the method ends as Q says -/
def MQ (l : Launch) (Z : State) (y : MethodName) (bytes : ByteArray) (maxL : Nat) (rt : Option FieldType) (ws : List Jvm.Cond) (rm : Room) (as : Array Value) (h0 : Heap) (Q : Option Value → Heap → List Loc → Prop) : Prop :=
  MetFree l y (head1 (Jvm.Cond.code y bytes maxL rt :: ws) rm) (fun a U => a = as ∧ Z.Warmed39 U.vm ∧ U.heap = h0) (fun _ _ _ _ _ => True) (fun _ U o U' => ∃ v L, o = .returned v ∧ Q v U'.heap L ∧ FrameEnd U o U' L rm.cells rm.slots)
/-- what a method that writes nothing leaves -/
def QP (r : Option Value) (h0 : Heap) (v : Option Value) (h : Heap) (L : List Loc) : Prop := v = r ∧ h = h0 ∧ L = []
/-- Java's x >>> y, on ints and on longs -/
def ush (x y : Int32) : Int32 := (x.toUInt32 >>> (y &&& 31).toUInt32).toInt32
def ushL (x : Int64) (y : Int32) : Int64 := (x.toUInt64 >>> (y &&& 0x3f).toInt64.toUInt64).toInt64
section Layer
variable {p : Program} {l : Launch} {e : Env} {R : Room} {s : State} {m : MethodId} {args : Array Value} {below : List Frame} {meth : Method} {c : Code} {T T' : State} {locs : List Loc} {cells slots C S : Nat} {Q : Option Value → Heap → List Loc → Prop} {g g' : JFrame} {h : Heap} {Z : State} {a0 : Array Value}
theorem go_step (st : ∀ t, Steps p.tables e below (T'.setTop g') t → Steps p.tables e below (T.setTop g) t) (k : Go p e below s C S Q T' g') : Go p e below s C S Q T g := by
  obtain ⟨s₂, o, h1, r⟩ := k
  exact ⟨s₂, o, st _ h1, r⟩
theorem go_mono {C' S' : Nat} (hc : C ≤ C') (hs : S ≤ S') (k : Go p e below s C S Q T g) : Go p e below s C' S' Q T g := by
  obtain ⟨s₂, o, h1, h2, h3, v, L, h4, h5, h6, h7, h8⟩ := k
  exact ⟨s₂, o, h1, h2, h3, v, L, h4, h5, h6, h7, h8.mono hc hs⟩
theorem lremM {target : State} (X : Stand p l e R s m args below meth c T locs cells slots) (hx : p.tables.exec = Jvm.exec) (hg : g.method = m) {x y : Int64} {rest : List Value} (hd : decode c.code g.pc = .ok (.lrem, 1)) (hs : g.stack = .long y :: .long x :: rest) (hy : y ≠ 0)
    (hr : Steps p.tables e below (T.setTop { g with pc := g.pc + 1, stack := .long (x % y) :: rest }) target) : Steps p.tables e below (T.setTop g) target :=
  XS.lrem X.here hx hg hd hs hy (by rw [lrem_mod]; exact hr)
theorem lookYes {target : State} (X : Stand p l e R s m args below meth c T locs cells slots) (hx : p.tables.exec = Jvm.exec) (hg : g.method = m) {key : Int32} {rest : List Value} {d o kv : Int} {prs : Array (Int × Int)} {len pc0 pc' : Nat} (hpc : g.pc = pc0) (hd : decode c.code g.pc = .ok (.lookupswitch d prs, len)) (hs : g.stack = .int key :: rest) (hso : (prs.toList.zip (prs.toList.drop 1)).all (fun (a, next) => a.1 < next.1) = true) (hf : prs.find? (·.1 == key.toInt) = some (kv, o)) (ho : 0 ≤ (pc0 : Int) + o) (hp : ((pc0 : Int) + o).toNat = pc')
    (hr : Steps p.tables e below (T.setTop { g with pc := pc', stack := rest }) target) : Steps p.tables e below (T.setTop g) target := by
  subst hg hpc hp
  jvm_step X.here [X.here.top, hx, hd, hs, lookupswitch.wp_whole, hso, hf, ho]
  exact ⟨by simpa using hso, hr⟩
theorem lookNo {target : State} (X : Stand p l e R s m args below meth c T locs cells slots) (hx : p.tables.exec = Jvm.exec) (hg : g.method = m) {key : Int32} {rest : List Value} {d : Int} {prs : Array (Int × Int)} {len pc0 pc' : Nat} (hpc : g.pc = pc0) (hd : decode c.code g.pc = .ok (.lookupswitch d prs, len)) (hs : g.stack = .int key :: rest) (hso : (prs.toList.zip (prs.toList.drop 1)).all (fun (a, next) => a.1 < next.1) = true) (hf : prs.find? (·.1 == key.toInt) = none) (ho : 0 ≤ (pc0 : Int) + d) (hp : ((pc0 : Int) + d).toNat = pc')
    (hr : Steps p.tables e below (T.setTop { g with pc := pc', stack := rest }) target) : Steps p.tables e below (T.setTop g) target := by
  subst hg hpc hp
  jvm_step X.here [X.here.top, hx, hd, hs, lookupswitch.wp_whole, hso, hf, ho]
  exact ⟨by simpa using hso, hr⟩
theorem go_cast {r r' : Option Value} {h0 : Heap} (q : r = r') (k : Go p e below s C S (QP r' h0) T g) : Go p e below s C S (QP r h0) T g := q ▸ k
theorem mq_of {y : MethodName} {bytes : ByteArray} {maxL : Nat} {rt : Option FieldType} {ws : List Jvm.Cond} {rm : Room} {as : Array Value} {h0 : Heap} {Q : Option Value → Heap → List Loc → Prop} (hp : plainFor y = true)
    (body : ∀ (p : Program) (e : Env) (s : State) (m : MethodId) (below : List Frame) (meth : Method) (c : Code) (T : State), Stand p l e rm s m as below meth c T [] 0 0 → p.tables.exec = Jvm.exec → c.code = bytes → c.maxLocals = maxL → s.vm.findClass y.cls = some m.cls → meth.name = y.name → Z.Warmed39 s.vm → T.heap = h0 → meth.sig.returnType = rt → meth.locks = false → Go p e below s rm.cells rm.slots Q T (entryFrame m as maxL)) :
    MQ l Z y bytes maxL rt ws rm as h0 Q := by
  refine MetFree.of_bodySF hp hisR ?_
  intro p e s m args below meth c s₁ Bd hml0 hP hK
  obtain ⟨rfl, hZ, hh⟩ := hP
  exact body p e s m below meth c s₁ (Stand.of_body Bd) Bd.exec Bd.bytes hml0 (findClass_of_methodNamed Bd.named) (name_of_methodNamed Bd.named Bd.method).1 hZ (by rw [← hh, Bd.state]; rfl) Bd.returns Bd.notSynchronized
theorem go_retI (X : Stand p l e R s m args below meth c T locs cells slots) (hx : p.tables.exec = Jvm.exec) (hlk : meth.locks = false) (hret : meth.sig.returnType = some .int) {pc : Nat} {Ls : Array Slot} {z : Int32} {rest : List Value} (hd : decode c.code pc = .ok (.ireturn, 1)) (eT : T.heap = h) (hq : Q (some (.int z)) h locs) (hc : cells ≤ C) (hs : slots ≤ S) :
    Go p e below s C S Q T (mkF m pc Ls (.int z :: rest)) := by
  obtain ⟨fs, hr, hrun, hended, hW, hsame⟩ := X.leave (v := some (.int z)) (fun h => by rw [hret] at h; cases h) hlk
  exact ⟨_, _, retOut X hx hret rfl (Or.inl ⟨rfl, Or.inl rfl, z, rfl⟩) hd hr, hrun, hended, _, _, rfl, by (show Q _ T.heap _); rw [eT]; exact hq, ⟨_, rfl⟩, hW, hsame.mono hc hs⟩
theorem go_retZ (X : Stand p l e R s m args below meth c T locs cells slots) (hx : p.tables.exec = Jvm.exec) (hlk : meth.locks = false) (hret : meth.sig.returnType = some .boolean) {pc : Nat} {Ls : Array Slot} {z : Int32} {rest : List Value} (hd : decode c.code pc = .ok (.ireturn, 1)) (eT : T.heap = h) (hq : Q (some (.int (z &&& 1))) h locs) (hc : cells ≤ C) (hs : slots ≤ S) :
    Go p e below s C S Q T (mkF m pc Ls (.int z :: rest)) := by
  obtain ⟨fs, hr, hrun, hended, hW, hsame⟩ := X.leave (v := some (.int (z &&& 1))) (fun h => by rw [hret] at h; cases h) hlk
  exact ⟨_, _, retN X hx (t := .boolean) hret (by simp) hd hr, hrun, hended, _, _, rfl, by (show Q _ T.heap _); rw [eT]; exact hq, ⟨_, rfl⟩, hW, hsame.mono hc hs⟩
theorem go_retJ (X : Stand p l e R s m args below meth c T locs cells slots) (hx : p.tables.exec = Jvm.exec) (hlk : meth.locks = false) (hret : meth.sig.returnType = some .long) {pc : Nat} {Ls : Array Slot} {z : Int64} {rest : List Value} (hd : decode c.code pc = .ok (.lreturn, 1)) (eT : T.heap = h) (hq : Q (some (.long z)) h locs) (hc : cells ≤ C) (hs : slots ≤ S) :
    Go p e below s C S Q T (mkF m pc Ls (.long z :: rest)) := by
  obtain ⟨fs, hr, hrun, hended, hW, hsame⟩ := X.leave (v := some (.long z)) (fun h => by rw [hret] at h; cases h) hlk
  exact ⟨_, _, retOut X hx hret rfl (Or.inr (Or.inl ⟨rfl, rfl, z, rfl⟩)) hd hr, hrun, hended, _, _, rfl, by (show Q _ T.heap _); rw [eT]; exact hq, ⟨_, rfl⟩, hW, hsame.mono hc hs⟩
theorem go_retA (X : Stand p l e R s m args below meth c T locs cells slots) (hx : p.tables.exec = Jvm.exec) (hlk : meth.locks = false) {ty : FieldType} (hret : meth.sig.returnType = some ty) (hty : ty.isReference = true) {pc : Nat} {Ls : Array Slot} {a : Addr} {rest : List Value} (hd : decode c.code pc = .ok (.areturn, 1)) (eT : T.heap = h) (hq : Q (some (.ref a)) h locs) (hc : cells ≤ C) (hs : slots ≤ S) :
    Go p e below s C S Q T (mkF m pc Ls (.ref a :: rest)) := by
  obtain ⟨fs, hr, hrun, hended, hW, hsame⟩ := X.leave (v := some (.ref a)) (fun h => by rw [hret] at h; cases h) hlk
  exact ⟨_, _, retOut X hx hret (by cases ty <;> first | rfl | cases hty) (Or.inr (Or.inr (Or.inr (Or.inr ⟨rfl, hty, rfl⟩)))) hd hr, hrun, hended, _, _, rfl, by (show Q _ T.heap _); rw [eT]; exact hq, ⟨_, rfl⟩, hW, hsame.mono hc hs⟩
theorem go_retV (X : Stand p l e R s m args below meth c T locs cells slots) (hx : p.tables.exec = Jvm.exec) (hlk : meth.locks = false) (hret : meth.sig.returnType = none) {pc : Nat} {Ls : Array Slot} (hd : decode c.code pc = .ok (.return_, 1)) (eT : T.heap = h) (hq : Q none h locs) (hc : cells ≤ C) (hs : slots ≤ S) :
    Go p e below s C S Q T (mkF m pc Ls []) := by
  obtain ⟨fs, hr, hrun, hended, hW, hsame⟩ := X.leave (v := none) (fun _ => rfl) hlk
  exact ⟨_, _, X.returnOut hx hret hd hr, hrun, hended, _, _, rfl, by (show Q _ T.heap _); rw [eT]; exact hq, ⟨_, rfl⟩, hW, hsame.mono hc hs⟩
/-- invokestatic by the callee's contract -/
theorem go_callS (X : Stand p l e R s m args below meth c T locs cells slots) (hx : p.tables.exec = Jvm.exec) (hZ : Z.Warmed39 s.vm) {own : String} {index : Nat} {y : MethodName} {bytes : ByteArray} {maxL : Nat} {rt : Option FieldType} {rm : Room} {as : Array Value} {Q' : Option Value → Heap → List Loc → Prop}
    (hown : s.vm.findClass own = some m.cls) (w1 : (Cond.methodLink own index y).before a0 Z = true) (w2 : (Cond.static y).before a0 Z = true) (w3 : (Cond.initialized y.cls).before a0 Z = true) (w4 : (Cond.code y bytes maxL rt).before a0 Z = true)
    (hy : y.cls ≠ "java/lang/invoke/MethodHandle" ∧ y.cls ≠ "java/lang/invoke/VarHandle") (eT : T.heap = h) (hM : MQ l Z y bytes maxL rt [] rm as h Q') (W : Nat) (hf : rm.frames + 1 ≤ R.frames) (hl : W + (maxL + 11) + rm.locals ≤ R.locals)
    (hg : g.method = m) (hsize : g.locals.size = c.maxLocals) {argsL rest : List Value} (hlen : ∀ sig, parseMethodDescriptor y.desc = some sig → argsL.length = sig.parameters.length)
    (hstack : g.stack = argsL.reverse ++ rest) (hW : 2 * g.monitorRoom + (rest.map fun v => v.category).sum ≤ W) (hdg : decode c.code g.pc = .ok (.invokestatic index, 3)) (has : argsL.toArray = as) (hcells : cells + rm.cells ≤ R.cells) (hslots : slots + rm.slots ≤ R.slots)
    (k : ∀ (T' : State) (v : Option Value) (L : List Loc), Stand p l e R s m args below meth c T' (locs ++ L) (cells + rm.cells) (slots + rm.slots) → Q' v T'.heap L → Go p e below s C S Q T' { g with pc := g.pc + 3, stack := v.toList ++ rest }) :
    Go p e below s C S Q T g := by
  obtain ⟨v, _, ⟨T', L', k', n'⟩, -, X', ⟨Lc, hQ, l1, y1, z1⟩, st⟩ := Jvm.LawKit.callS X hx (y := y) hown (mvT hZ w1) (mvT hZ w2) (mvT hZ w3) (mvT hZ w4) hy (backOf (W := W) hM hZ w4 w3 hf hl) hg hsize (argsL := argsL) (rest := rest) hlen hstack hW hdg (fun _ _ => ⟨has, eT, hcells, hslots⟩)
  dsimp only [Pt.U, Pt.locs, Pt.cells, Pt.slots] at X' l1 y1 z1 st hQ
  subst l1 y1 z1
  exact go_step st (k T' v Lc X' hQ)
theorem go_callSP (X : Stand p l e R s m args below meth c T locs cells slots) (hx : p.tables.exec = Jvm.exec) (hZ : Z.Warmed39 s.vm) {own : String} {index : Nat} {y : MethodName} {bytes : ByteArray} {maxL : Nat} {rt : Option FieldType} {rm : Room} {as : Array Value} {r : Option Value}
    (hown : s.vm.findClass own = some m.cls) (w1 : (Cond.methodLink own index y).before a0 Z = true) (w2 : (Cond.static y).before a0 Z = true) (w3 : (Cond.initialized y.cls).before a0 Z = true) (w4 : (Cond.code y bytes maxL rt).before a0 Z = true)
    (hy : y.cls ≠ "java/lang/invoke/MethodHandle" ∧ y.cls ≠ "java/lang/invoke/VarHandle") (eT : T.heap = h) (hM : MQ l Z y bytes maxL rt [] rm as h (QP r h)) (W : Nat) (hf : rm.frames + 1 ≤ R.frames) (hl : W + (maxL + 11) + rm.locals ≤ R.locals)
    (hg : g.method = m) (hsize : g.locals.size = c.maxLocals) {argsL rest : List Value} (hlen : ∀ sig, parseMethodDescriptor y.desc = some sig → argsL.length = sig.parameters.length)
    (hstack : g.stack = argsL.reverse ++ rest) (hW : 2 * g.monitorRoom + (rest.map fun v => v.category).sum ≤ W) (hdg : decode c.code g.pc = .ok (.invokestatic index, 3)) (has : argsL.toArray = as) (hrc : rm.cells = 0) (hrs : rm.slots = 0) (hcells : cells ≤ R.cells) (hslots : slots ≤ R.slots)
    (k : ∀ (T' : State), Stand p l e R s m args below meth c T' locs cells slots → T'.heap = h → Go p e below s C S Q T' { g with pc := g.pc + 3, stack := r.toList ++ rest }) :
    Go p e below s C S Q T g :=
  go_callS X hx hZ hown w1 w2 w3 w4 hy eT hM W hf hl hg hsize hlen hstack hW hdg has (by rw [hrc]; exact hcells) (by rw [hrs]; exact hslots) fun T' v L X' hQ => by
    obtain ⟨rfl, e', rfl⟩ := hQ
    rw [hrc, hrs, List.append_nil] at X'
    exact k T' X' e'
end Layer

theorem pd_0 : parseMethodDescriptor "(I)Z" = some ⟨[.int], some .boolean⟩ := by decide +kernel
theorem d1_0 : decode prog_45_method_49_code 0 = .ok (.iload_n 0, 1) := by decide +kernel
theorem d1_1 : decode prog_45_method_49_code 1 = .ok (.bipush 32, 2) := by decide +kernel
theorem d1_3 : decode prog_45_method_49_code 3 = .ok (.if_icmp .eq 21, 3) := by decide +kernel
theorem d1_6 : decode prog_45_method_49_code 6 = .ok (.iload_n 0, 1) := by decide +kernel
theorem d1_7 : decode prog_45_method_49_code 7 = .ok (.bipush 9, 2) := by decide +kernel
theorem d1_9 : decode prog_45_method_49_code 9 = .ok (.if_icmp .eq 15, 3) := by decide +kernel
theorem d1_12 : decode prog_45_method_49_code 12 = .ok (.iload_n 0, 1) := by decide +kernel
theorem d1_13 : decode prog_45_method_49_code 13 = .ok (.bipush 10, 2) := by decide +kernel
theorem d1_15 : decode prog_45_method_49_code 15 = .ok (.if_icmp .eq 9, 3) := by decide +kernel
theorem d1_18 : decode prog_45_method_49_code 18 = .ok (.iload_n 0, 1) := by decide +kernel
theorem d1_19 : decode prog_45_method_49_code 19 = .ok (.bipush 13, 2) := by decide +kernel
theorem d1_21 : decode prog_45_method_49_code 21 = .ok (.if_icmp .ne 7, 3) := by decide +kernel
theorem d1_24 : decode prog_45_method_49_code 24 = .ok (.iconst 1, 1) := by decide +kernel
theorem d1_25 : decode prog_45_method_49_code 25 = .ok (.goto 4, 3) := by decide +kernel
theorem d1_28 : decode prog_45_method_49_code 28 = .ok (.iconst 0, 1) := by decide +kernel
theorem d1_29 : decode prog_45_method_49_code 29 = .ok (.ireturn, 1) := by decide +kernel
def f1_0 (v0 : Int32) : Int32 := (if v0 = (32 : Int32) then (1 : Int32) else (if v0 = (9 : Int32) then (1 : Int32) else (if v0 = (10 : Int32) then (1 : Int32) else (if v0 = (13 : Int32) then (1 : Int32) else (0 : Int32)))))
set_option maxRecDepth 65536 in
set_option maxHeartbeats 4000000 in
theorem b1_0 {p : Program} {l : Launch} {e : Env} {s : State} {m : MethodId} {args : Array Value} {below : List Frame} {meth : Method} {c : Code} {T0 : State} {Z : State} {a0 : Array Value} {h0 : Heap} {locs : List Loc} {cells slots : Nat} {Q : Option Value → Heap → List Loc → Prop} (hw : ∀ d ∈ tables_1, d.before a0 Z = true) (hx : p.tables.exec = Jvm.exec) (hby : c.code = prog_45_method_49_code) (hml : c.maxLocals = 1) (hown : s.vm.findClass "com/example/nimble_json/nimblejson/JsonInput" = some m.cls) (hZ : Z.Warmed39 s.vm) (hret : meth.sig.returnType = some .boolean) (hlk : meth.locks = false) (X0 : Stand p l e ({ frames := 0, cells := 0, slots := 0, locals := 0 } : Room) s m args below meth c T0 locs cells slots) (e0 : T0.heap = h0) (hc : cells ≤ ({ frames := 0, cells := 0, slots := 0, locals := 0 } : Room).cells) (hs : slots ≤ ({ frames := 0, cells := 0, slots := 0, locals := 0 } : Room).slots) (v0 : Int32) (hq : Q (some (.int (f1_0 v0))) h0 locs) :
    Go p e below s ({ frames := 0, cells := 0, slots := 0, locals := 0 } : Room).cells ({ frames := 0, cells := 0, slots := 0, locals := 0 } : Room).slots Q T0 (mkF m 0 #[.val (.int v0)] []) := by
  unfold f1_0 at hq
  refine go_step (T' := T0) (g' := (mkF m 1 #[.val (.int v0)] [(.int v0)])) (fun t k => XS.iloadN X0.here hx rfl (hb hby d1_0) rfl  k) ?_
  refine go_step (T' := T0) (g' := (mkF m 3 #[.val (.int v0)] [(.int (32 : Int32)), (.int v0)])) (fun t k => XS.bipush X0.here hx rfl (hb hby d1_1) k) ?_
  by_cases hc0 : v0 = (32 : Int32)
  · rw [if_pos hc0] at hq
    refine go_step (T' := T0) (g' := (mkF m 24 #[.val (.int v0)] [])) (fun t k => XS.icmpYes X0.here hx rfl (pc0 := 3) (pc' := 24) rfl (hb hby d1_3) rfl (teq hc0).1 (by decide) (by decide) k) ?_
    refine go_step (T' := T0) (g' := (mkF m 25 #[.val (.int v0)] [(.int (1 : Int32))])) (fun t k => XS.iconst X0.here hx rfl (hb hby d1_24) k) ?_
    refine go_step (T' := T0) (g' := (mkF m 29 #[.val (.int v0)] [(.int (1 : Int32))])) (fun t k => XS.goto X0.here hx rfl (pc0 := 25) (pc' := 29) rfl (hb hby d1_25) (by decide) (by decide) k) ?_
    exact go_retZ X0 hx hlk hret (hb hby d1_29) e0 hq hc hs
  · rw [if_neg hc0] at hq
    refine go_step (T' := T0) (g' := (mkF m 6 #[.val (.int v0)] [])) (fun t k => XS.icmpNo X0.here hx rfl (hb hby d1_3) rfl (feq hc0).1 k) ?_
    refine go_step (T' := T0) (g' := (mkF m 7 #[.val (.int v0)] [(.int v0)])) (fun t k => XS.iloadN X0.here hx rfl (hb hby d1_6) rfl  k) ?_
    refine go_step (T' := T0) (g' := (mkF m 9 #[.val (.int v0)] [(.int (9 : Int32)), (.int v0)])) (fun t k => XS.bipush X0.here hx rfl (hb hby d1_7) k) ?_
    by_cases hc1 : v0 = (9 : Int32)
    · rw [if_pos hc1] at hq
      refine go_step (T' := T0) (g' := (mkF m 24 #[.val (.int v0)] [])) (fun t k => XS.icmpYes X0.here hx rfl (pc0 := 9) (pc' := 24) rfl (hb hby d1_9) rfl (teq hc1).1 (by decide) (by decide) k) ?_
      refine go_step (T' := T0) (g' := (mkF m 25 #[.val (.int v0)] [(.int (1 : Int32))])) (fun t k => XS.iconst X0.here hx rfl (hb hby d1_24) k) ?_
      refine go_step (T' := T0) (g' := (mkF m 29 #[.val (.int v0)] [(.int (1 : Int32))])) (fun t k => XS.goto X0.here hx rfl (pc0 := 25) (pc' := 29) rfl (hb hby d1_25) (by decide) (by decide) k) ?_
      exact go_retZ X0 hx hlk hret (hb hby d1_29) e0 hq hc hs
    · rw [if_neg hc1] at hq
      refine go_step (T' := T0) (g' := (mkF m 12 #[.val (.int v0)] [])) (fun t k => XS.icmpNo X0.here hx rfl (hb hby d1_9) rfl (feq hc1).1 k) ?_
      refine go_step (T' := T0) (g' := (mkF m 13 #[.val (.int v0)] [(.int v0)])) (fun t k => XS.iloadN X0.here hx rfl (hb hby d1_12) rfl  k) ?_
      refine go_step (T' := T0) (g' := (mkF m 15 #[.val (.int v0)] [(.int (10 : Int32)), (.int v0)])) (fun t k => XS.bipush X0.here hx rfl (hb hby d1_13) k) ?_
      by_cases hc2 : v0 = (10 : Int32)
      · rw [if_pos hc2] at hq
        refine go_step (T' := T0) (g' := (mkF m 24 #[.val (.int v0)] [])) (fun t k => XS.icmpYes X0.here hx rfl (pc0 := 15) (pc' := 24) rfl (hb hby d1_15) rfl (teq hc2).1 (by decide) (by decide) k) ?_
        refine go_step (T' := T0) (g' := (mkF m 25 #[.val (.int v0)] [(.int (1 : Int32))])) (fun t k => XS.iconst X0.here hx rfl (hb hby d1_24) k) ?_
        refine go_step (T' := T0) (g' := (mkF m 29 #[.val (.int v0)] [(.int (1 : Int32))])) (fun t k => XS.goto X0.here hx rfl (pc0 := 25) (pc' := 29) rfl (hb hby d1_25) (by decide) (by decide) k) ?_
        exact go_retZ X0 hx hlk hret (hb hby d1_29) e0 hq hc hs
      · rw [if_neg hc2] at hq
        refine go_step (T' := T0) (g' := (mkF m 18 #[.val (.int v0)] [])) (fun t k => XS.icmpNo X0.here hx rfl (hb hby d1_15) rfl (feq hc2).1 k) ?_
        refine go_step (T' := T0) (g' := (mkF m 19 #[.val (.int v0)] [(.int v0)])) (fun t k => XS.iloadN X0.here hx rfl (hb hby d1_18) rfl  k) ?_
        refine go_step (T' := T0) (g' := (mkF m 21 #[.val (.int v0)] [(.int (13 : Int32)), (.int v0)])) (fun t k => XS.bipush X0.here hx rfl (hb hby d1_19) k) ?_
        by_cases hc3 : v0 = (13 : Int32)
        · rw [if_pos hc3] at hq
          refine go_step (T' := T0) (g' := (mkF m 24 #[.val (.int v0)] [])) (fun t k => XS.icmpNo X0.here hx rfl (hb hby d1_21) rfl (teq hc3).2 k) ?_
          refine go_step (T' := T0) (g' := (mkF m 25 #[.val (.int v0)] [(.int (1 : Int32))])) (fun t k => XS.iconst X0.here hx rfl (hb hby d1_24) k) ?_
          refine go_step (T' := T0) (g' := (mkF m 29 #[.val (.int v0)] [(.int (1 : Int32))])) (fun t k => XS.goto X0.here hx rfl (pc0 := 25) (pc' := 29) rfl (hb hby d1_25) (by decide) (by decide) k) ?_
          exact go_retZ X0 hx hlk hret (hb hby d1_29) e0 hq hc hs
        · rw [if_neg hc3] at hq
          refine go_step (T' := T0) (g' := (mkF m 28 #[.val (.int v0)] [])) (fun t k => XS.icmpYes X0.here hx rfl (pc0 := 21) (pc' := 28) rfl (hb hby d1_21) rfl (feq hc3).2 (by decide) (by decide) k) ?_
          refine go_step (T' := T0) (g' := (mkF m 29 #[.val (.int v0)] [(.int (0 : Int32))])) (fun t k => XS.iconst X0.here hx rfl (hb hby d1_28) k) ?_
          exact go_retZ X0 hx hlk hret (hb hby d1_29) e0 hq hc hs
theorem ef1 (m : MethodId) (v0 : Int32) : entryFrame m #[(.int v0)] 1 = (mkF m 0 #[.val (.int v0)] []) := by first | (simp [entryFrame, mkF, argsToLocals, Value.category]; done) | rfl
theorem pn1 : plainName "com/example/nimble_json/nimblejson/JsonInput" = true := by first | (simp [plainName, overriddenIn]; done) | decide +kernel
set_option maxRecDepth 65536 in
theorem mq1 (l : Launch) (Z : State) (a0 : Array Value) (hw : ∀ d ∈ tables_1, d.before a0 Z = true) (v0 : Int32) (h0 : Heap) : MQ l Z (⟨"com/example/nimble_json/nimblejson/JsonInput", "isWhitespace", "(I)Z"⟩ : MethodName) prog_45_method_49_code 1 (some .boolean) [] ({ frames := 0, cells := 0, slots := 0, locals := 0 } : Room) #[(.int v0)] h0 (QP (some (.int (f1_0 v0))) h0) := by
  refine mq_of (plainFor_of_name pn1) ?_
  intro p e s m below meth c T0 X0 hx hby hml hown hnm hZ e0 hret hlk
  rw [ef1]
  exact b1_0 hw hx hby hml hown hZ hret hlk X0 e0 (Nat.zero_le _) (Nat.zero_le _) v0 ⟨rfl, rfl, rfl⟩
def f0_121 (v0 : Int32) (v1 : Int32) (v2 : Int32) (v3 : Int32) (v4 : Int64) (t0 : Int32) : Int32 := (if (f1_0 v3) = t0 then (1 : Int32) else (0 : Int32))
set_option maxRecDepth 65536 in
set_option maxHeartbeats 4000000 in
theorem b0_121 {p : Program} {l : Launch} {e : Env} {s : State} {m : MethodId} {args : Array Value} {below : List Frame} {meth : Method} {c : Code} {T0 : State} {Z : State} {a0 : Array Value} {h0 : Heap} {locs : List Loc} {cells slots : Nat} {Q : Option Value → Heap → List Loc → Prop} (hw : ∀ d ∈ tables_1, d.before a0 Z = true) (hx : p.tables.exec = Jvm.exec) (hby : c.code = code) (hml : c.maxLocals = 7) (hown : s.vm.findClass "com/example/nimble_json/nimblejson/JsonInputIsWhitespacePinLaw" = some m.cls) (hZ : Z.Warmed39 s.vm) (hret : meth.sig.returnType = some .boolean) (hlk : meth.locks = false) (X0 : Stand p l e room_1 s m args below meth c T0 locs cells slots) (e0 : T0.heap = h0) (hc : cells ≤ room_1.cells) (hs : slots ≤ room_1.slots) (v0 : Int32) (v1 : Int32) (v2 : Int32) (v3 : Int32) (v4 : Int64) (t0 : Int32) (hq : Q (some (.int (f0_121 v0 v1 v2 v3 v4 t0))) h0 locs) :
    Go p e below s room_1.cells room_1.slots Q T0 (mkF m 121 #[.val (.int v0), .val (.int v1), .val (.int v2), .val (.int v3), .val (.long v4), .second, .unset] [(.int t0)]) := by
  unfold f0_121 at hq
  refine go_step (T' := T0) (g' := (mkF m 123 #[.val (.int v0), .val (.int v1), .val (.int v2), .val (.int v3), .val (.long v4), .second, .val (.int t0)] [])) (fun t k => XS.istore X0.here hx rfl (hb hby at_121) rfl (l' := #[.val (.int v0), .val (.int v1), .val (.int v2), .val (.int v3), .val (.long v4), .second, .val (.int t0)]) rfl k) ?_
  refine go_step (T' := T0) (g' := (mkF m 124 #[.val (.int v0), .val (.int v1), .val (.int v2), .val (.int v3), .val (.long v4), .second, .val (.int t0)] [(.int v3)])) (fun t k => XS.iloadN X0.here hx rfl (hb hby at_123) rfl  k) ?_
  refine go_callSP X0 hx hZ hown (hw _ (List.mem_of_getElem? (i := 1) rfl)) (hw _ (List.mem_of_getElem? (i := 2) rfl)) (hw _ (List.mem_of_getElem? (i := 3) rfl)) (hw _ (List.mem_of_getElem? (i := 4) rfl)) (by decide) e0 (mq1 l Z a0 hw v3 h0) 0 (by decide) (by decide) (g := (mkF m 124 #[.val (.int v0), .val (.int v1), .val (.int v2), .val (.int v3), .val (.long v4), .second, .val (.int t0)] [(.int v3)])) rfl (by rw [hml]; rfl) (argsL := [(.int v3)]) (rest := []) (lenOf pd_0 rfl) rfl (by show 2 * 0 + _ ≤ _; exact Nat.le_of_eq rfl) (hb hby at_124) rfl rfl rfl hc hs (fun T1 X1 e1 => ?_)
  show Go p e below s _ _ _ T1 (mkF m 127 #[.val (.int v0), .val (.int v1), .val (.int v2), .val (.int v3), .val (.long v4), .second, .val (.int t0)] [(.int (f1_0 v3))])
  refine go_step (T' := T1) (g' := (mkF m 129 #[.val (.int v0), .val (.int v1), .val (.int v2), .val (.int v3), .val (.long v4), .second, .val (.int t0)] [(.int t0), (.int (f1_0 v3))])) (fun t k => XS.iload X1.here hx rfl (hb hby at_127) rfl  k) ?_
  by_cases hc1 : (f1_0 v3) = t0
  · rw [if_pos hc1] at hq
    refine go_step (T' := T1) (g' := (mkF m 132 #[.val (.int v0), .val (.int v1), .val (.int v2), .val (.int v3), .val (.long v4), .second, .val (.int t0)] [])) (fun t k => XS.icmpNo X1.here hx rfl (hb hby at_129) rfl (teq hc1).2 k) ?_
    refine go_step (T' := T1) (g' := (mkF m 133 #[.val (.int v0), .val (.int v1), .val (.int v2), .val (.int v3), .val (.long v4), .second, .val (.int t0)] [(.int (1 : Int32))])) (fun t k => XS.iconst X1.here hx rfl (hb hby at_132) k) ?_
    refine go_step (T' := T1) (g' := (mkF m 137 #[.val (.int v0), .val (.int v1), .val (.int v2), .val (.int v3), .val (.long v4), .second, .val (.int t0)] [(.int (1 : Int32))])) (fun t k => XS.goto X1.here hx rfl (pc0 := 133) (pc' := 137) rfl (hb hby at_133) (by decide) (by decide) k) ?_
    exact go_retZ X1 hx hlk hret (hb hby at_137) e1 hq hc hs
  · rw [if_neg hc1] at hq
    refine go_step (T' := T1) (g' := (mkF m 136 #[.val (.int v0), .val (.int v1), .val (.int v2), .val (.int v3), .val (.long v4), .second, .val (.int t0)] [])) (fun t k => XS.icmpYes X1.here hx rfl (pc0 := 129) (pc' := 136) rfl (hb hby at_129) rfl (feq hc1).2 (by decide) (by decide) k) ?_
    refine go_step (T' := T1) (g' := (mkF m 137 #[.val (.int v0), .val (.int v1), .val (.int v2), .val (.int v3), .val (.long v4), .second, .val (.int t0)] [(.int (0 : Int32))])) (fun t k => XS.iconst X1.here hx rfl (hb hby at_136) k) ?_
    exact go_retZ X1 hx hlk hret (hb hby at_137) e1 hq hc hs
def f0_120 (v0 : Int32) (v1 : Int32) (v2 : Int32) (v3 : Int32) (v4 : Int64) : Int32 := (f0_121 v0 v1 v2 v3 v4 (0 : Int32))
set_option maxRecDepth 65536 in
set_option maxHeartbeats 4000000 in
theorem b0_120 {p : Program} {l : Launch} {e : Env} {s : State} {m : MethodId} {args : Array Value} {below : List Frame} {meth : Method} {c : Code} {T0 : State} {Z : State} {a0 : Array Value} {h0 : Heap} {locs : List Loc} {cells slots : Nat} {Q : Option Value → Heap → List Loc → Prop} (hw : ∀ d ∈ tables_1, d.before a0 Z = true) (hx : p.tables.exec = Jvm.exec) (hby : c.code = code) (hml : c.maxLocals = 7) (hown : s.vm.findClass "com/example/nimble_json/nimblejson/JsonInputIsWhitespacePinLaw" = some m.cls) (hZ : Z.Warmed39 s.vm) (hret : meth.sig.returnType = some .boolean) (hlk : meth.locks = false) (X0 : Stand p l e room_1 s m args below meth c T0 locs cells slots) (e0 : T0.heap = h0) (hc : cells ≤ room_1.cells) (hs : slots ≤ room_1.slots) (v0 : Int32) (v1 : Int32) (v2 : Int32) (v3 : Int32) (v4 : Int64) (hq : Q (some (.int (f0_120 v0 v1 v2 v3 v4))) h0 locs) :
    Go p e below s room_1.cells room_1.slots Q T0 (mkF m 120 #[.val (.int v0), .val (.int v1), .val (.int v2), .val (.int v3), .val (.long v4), .second, .unset] []) := by
  unfold f0_120 at hq
  refine go_step (T' := T0) (g' := (mkF m 121 #[.val (.int v0), .val (.int v1), .val (.int v2), .val (.int v3), .val (.long v4), .second, .unset] [(.int (0 : Int32))])) (fun t k => XS.iconst X0.here hx rfl (hb hby at_120) k) ?_
  exact b0_121 hw hx hby hml hown hZ hret hlk X0 e0 hc hs v0 v1 v2 v3 v4 (0 : Int32) hq
def f0_90 (v0 : Int32) (v1 : Int32) (v2 : Int32) (v3 : Int32) : Int32 := (if v3 < (0 : Int32) then (f0_120 v0 v1 v2 v3 (4294977024 : Int64)) else (if v3 < (64 : Int32) then (if ((ushL (4294977024 : Int64) v3) &&& (1 : Int64)) = (0 : Int64) then (f0_120 v0 v1 v2 v3 (4294977024 : Int64)) else (f0_121 v0 v1 v2 v3 (4294977024 : Int64) (1 : Int32))) else (f0_120 v0 v1 v2 v3 (4294977024 : Int64))))
set_option maxRecDepth 65536 in
set_option maxHeartbeats 4000000 in
theorem b0_90 {p : Program} {l : Launch} {e : Env} {s : State} {m : MethodId} {args : Array Value} {below : List Frame} {meth : Method} {c : Code} {T0 : State} {Z : State} {a0 : Array Value} {h0 : Heap} {locs : List Loc} {cells slots : Nat} {Q : Option Value → Heap → List Loc → Prop} (hw : ∀ d ∈ tables_1, d.before a0 Z = true) (hx : p.tables.exec = Jvm.exec) (hby : c.code = code) (hml : c.maxLocals = 7) (hown : s.vm.findClass "com/example/nimble_json/nimblejson/JsonInputIsWhitespacePinLaw" = some m.cls) (hZ : Z.Warmed39 s.vm) (hret : meth.sig.returnType = some .boolean) (hlk : meth.locks = false) (X0 : Stand p l e room_1 s m args below meth c T0 locs cells slots) (e0 : T0.heap = h0) (hc : cells ≤ room_1.cells) (hs : slots ≤ room_1.slots) (v0 : Int32) (v1 : Int32) (v2 : Int32) (v3 : Int32) (hq : Q (some (.int (f0_90 v0 v1 v2 v3))) h0 locs) :
    Go p e below s room_1.cells room_1.slots Q T0 (mkF m 90 #[.val (.int v0), .val (.int v1), .val (.int v2), .val (.int v3), .unset, .unset, .unset] []) := by
  unfold f0_90 at hq
  refine go_step (T' := T0) (g' := (mkF m 93 #[.val (.int v0), .val (.int v1), .val (.int v2), .val (.int v3), .unset, .unset, .unset] [(.long (4294977024 : Int64))])) (X0.ldc2Long hx hown (mvT hZ (hw _ (List.mem_of_getElem? (i := 0) rfl))) (g := (mkF m 90 #[.val (.int v0), .val (.int v1), .val (.int v2), .val (.int v3), .unset, .unset, .unset] [])) rfl (hb hby at_90)) ?_
  refine go_step (T' := T0) (g' := (mkF m 95 #[.val (.int v0), .val (.int v1), .val (.int v2), .val (.int v3), .val (.long (4294977024 : Int64)), .second, .unset] [])) (fun t k => XS.lstore X0.here hx rfl (hb hby at_93) rfl (l' := #[.val (.int v0), .val (.int v1), .val (.int v2), .val (.int v3), .val (.long (4294977024 : Int64)), .second, .unset]) rfl k) ?_
  refine go_step (T' := T0) (g' := (mkF m 96 #[.val (.int v0), .val (.int v1), .val (.int v2), .val (.int v3), .val (.long (4294977024 : Int64)), .second, .unset] [(.int v3)])) (fun t k => XS.iloadN X0.here hx rfl (hb hby at_95) rfl  k) ?_
  by_cases hc0 : v3 < (0 : Int32)
  · rw [if_pos hc0] at hq
    refine go_step (T' := T0) (g' := (mkF m 120 #[.val (.int v0), .val (.int v1), .val (.int v2), .val (.int v3), .val (.long (4294977024 : Int64)), .second, .unset] [])) (fun t k => XS.ifYes X0.here hx rfl (pc0 := 96) (pc' := 120) rfl (hb hby at_96) rfl ((if0 _ _).trans (tlt hc0).1) (by decide) (by decide) k) ?_
    exact b0_120 hw hx hby hml hown hZ hret hlk X0 e0 hc hs v0 v1 v2 v3 (4294977024 : Int64) hq
  · rw [if_neg hc0] at hq
    refine go_step (T' := T0) (g' := (mkF m 99 #[.val (.int v0), .val (.int v1), .val (.int v2), .val (.int v3), .val (.long (4294977024 : Int64)), .second, .unset] [])) (fun t k => XS.ifNo X0.here hx rfl (hb hby at_96) rfl ((if0 _ _).trans (flt hc0).1) k) ?_
    refine go_step (T' := T0) (g' := (mkF m 100 #[.val (.int v0), .val (.int v1), .val (.int v2), .val (.int v3), .val (.long (4294977024 : Int64)), .second, .unset] [(.int v3)])) (fun t k => XS.iloadN X0.here hx rfl (hb hby at_99) rfl  k) ?_
    refine go_step (T' := T0) (g' := (mkF m 102 #[.val (.int v0), .val (.int v1), .val (.int v2), .val (.int v3), .val (.long (4294977024 : Int64)), .second, .unset] [(.int (64 : Int32)), (.int v3)])) (fun t k => XS.bipush X0.here hx rfl (hb hby at_100) k) ?_
    by_cases hc1 : v3 < (64 : Int32)
    · rw [if_pos hc1] at hq
      refine go_step (T' := T0) (g' := (mkF m 105 #[.val (.int v0), .val (.int v1), .val (.int v2), .val (.int v3), .val (.long (4294977024 : Int64)), .second, .unset] [])) (fun t k => XS.icmpNo X0.here hx rfl (hb hby at_102) rfl (tlt hc1).2.1 k) ?_
      refine go_step (T' := T0) (g' := (mkF m 107 #[.val (.int v0), .val (.int v1), .val (.int v2), .val (.int v3), .val (.long (4294977024 : Int64)), .second, .unset] [(.long (4294977024 : Int64))])) (fun t k => XS.lload X0.here hx rfl (hb hby at_105) rfl  k) ?_
      refine go_step (T' := T0) (g' := (mkF m 108 #[.val (.int v0), .val (.int v1), .val (.int v2), .val (.int v3), .val (.long (4294977024 : Int64)), .second, .unset] [(.int v3), (.long (4294977024 : Int64))])) (fun t k => XS.iloadN X0.here hx rfl (hb hby at_107) rfl  k) ?_
      refine go_step (T' := T0) (g' := (mkF m 109 #[.val (.int v0), .val (.int v1), .val (.int v2), .val (.int v3), .val (.long (4294977024 : Int64)), .second, .unset] [(.long (ushL (4294977024 : Int64) v3))])) (fun t k => XS.lushr X0.here hx rfl (hb hby at_108) rfl k) ?_
      refine go_step (T' := T0) (g' := (mkF m 110 #[.val (.int v0), .val (.int v1), .val (.int v2), .val (.int v3), .val (.long (4294977024 : Int64)), .second, .unset] [(.long (1 : Int64)), (.long (ushL (4294977024 : Int64) v3))])) (fun t k => XS.lconst X0.here hx rfl (hb hby at_109) k) ?_
      refine go_step (T' := T0) (g' := (mkF m 111 #[.val (.int v0), .val (.int v1), .val (.int v2), .val (.int v3), .val (.long (4294977024 : Int64)), .second, .unset] [(.long ((ushL (4294977024 : Int64) v3) &&& (1 : Int64)))])) (fun t k => XS.land X0.here hx rfl (hb hby at_110) rfl k) ?_
      refine go_step (T' := T0) (g' := (mkF m 112 #[.val (.int v0), .val (.int v1), .val (.int v2), .val (.int v3), .val (.long (4294977024 : Int64)), .second, .unset] [(.long (0 : Int64)), (.long ((ushL (4294977024 : Int64) v3) &&& (1 : Int64)))])) (fun t k => XS.lconst X0.here hx rfl (hb hby at_111) k) ?_
      refine go_step (T' := T0) (g' := (mkF m 113 #[.val (.int v0), .val (.int v1), .val (.int v2), .val (.int v3), .val (.long (4294977024 : Int64)), .second, .unset] [(.int (lcmpW ((ushL (4294977024 : Int64) v3) &&& (1 : Int64)) (0 : Int64)))])) (fun t k => XS.lcmp X0.here hx rfl (hb hby at_112) rfl k) ?_
      by_cases hc2 : ((ushL (4294977024 : Int64) v3) &&& (1 : Int64)) = (0 : Int64)
      · rw [if_pos hc2] at hq
        refine go_step (T' := T0) (g' := (mkF m 120 #[.val (.int v0), .val (.int v1), .val (.int v2), .val (.int v3), .val (.long (4294977024 : Int64)), .second, .unset] [])) (fun t k => XS.ifYes X0.here hx rfl (pc0 := 113) (pc' := 120) rfl (hb hby at_113) rfl ((if0 _ _).trans (teq ((lw_eq _ _).mpr hc2)).1) (by decide) (by decide) k) ?_
        exact b0_120 hw hx hby hml hown hZ hret hlk X0 e0 hc hs v0 v1 v2 v3 (4294977024 : Int64) hq
      · rw [if_neg hc2] at hq
        refine go_step (T' := T0) (g' := (mkF m 116 #[.val (.int v0), .val (.int v1), .val (.int v2), .val (.int v3), .val (.long (4294977024 : Int64)), .second, .unset] [])) (fun t k => XS.ifNo X0.here hx rfl (hb hby at_113) rfl ((if0 _ _).trans (feq (fun q => hc2 ((lw_eq _ _).mp q))).1) k) ?_
        refine go_step (T' := T0) (g' := (mkF m 117 #[.val (.int v0), .val (.int v1), .val (.int v2), .val (.int v3), .val (.long (4294977024 : Int64)), .second, .unset] [(.int (1 : Int32))])) (fun t k => XS.iconst X0.here hx rfl (hb hby at_116) k) ?_
        refine go_step (T' := T0) (g' := (mkF m 121 #[.val (.int v0), .val (.int v1), .val (.int v2), .val (.int v3), .val (.long (4294977024 : Int64)), .second, .unset] [(.int (1 : Int32))])) (fun t k => XS.goto X0.here hx rfl (pc0 := 117) (pc' := 121) rfl (hb hby at_117) (by decide) (by decide) k) ?_
        exact b0_121 hw hx hby hml hown hZ hret hlk X0 e0 hc hs v0 v1 v2 v3 (4294977024 : Int64) (1 : Int32) hq
    · rw [if_neg hc1] at hq
      refine go_step (T' := T0) (g' := (mkF m 120 #[.val (.int v0), .val (.int v1), .val (.int v2), .val (.int v3), .val (.long (4294977024 : Int64)), .second, .unset] [])) (fun t k => XS.icmpYes X0.here hx rfl (pc0 := 102) (pc' := 120) rfl (hb hby at_102) rfl (flt hc1).2.1 (by decide) (by decide) k) ?_
      exact b0_120 hw hx hby hml hown hZ hret hlk X0 e0 hc hs v0 v1 v2 v3 (4294977024 : Int64) hq
def f0_0 (v0 : Int32) (v1 : Int32) : Int32 := (if (v1 &&& (7 : Int32)) = (0 : Int32) then (f0_90 v0 v1 (v1 &&& (7 : Int32)) (32 : Int32)) else (if (v1 &&& (7 : Int32)) = (1 : Int32) then (f0_90 v0 v1 (v1 &&& (7 : Int32)) (9 : Int32)) else (if (v1 &&& (7 : Int32)) = (2 : Int32) then (f0_90 v0 v1 (v1 &&& (7 : Int32)) (10 : Int32)) else (if (v1 &&& (7 : Int32)) = (3 : Int32) then (f0_90 v0 v1 (v1 &&& (7 : Int32)) (13 : Int32)) else (if (v1 &&& (7 : Int32)) = (4 : Int32) then (f0_90 v0 v1 (v1 &&& (7 : Int32)) (v0 &&& (127 : Int32))) else (if (v1 &&& (7 : Int32)) = (5 : Int32) then (f0_90 v0 v1 (v1 &&& (7 : Int32)) (v0 &&& (65535 : Int32))) else (if (v1 &&& (7 : Int32)) = (6 : Int32) then (f0_90 v0 v1 (v1 &&& (7 : Int32)) v0) else (f0_90 v0 v1 (v1 &&& (7 : Int32)) (v0 &&& (63 : Int32))))))))))
set_option maxRecDepth 65536 in
set_option maxHeartbeats 4000000 in
theorem b0_0 {p : Program} {l : Launch} {e : Env} {s : State} {m : MethodId} {args : Array Value} {below : List Frame} {meth : Method} {c : Code} {T0 : State} {Z : State} {a0 : Array Value} {h0 : Heap} {locs : List Loc} {cells slots : Nat} {Q : Option Value → Heap → List Loc → Prop} (hw : ∀ d ∈ tables_1, d.before a0 Z = true) (hx : p.tables.exec = Jvm.exec) (hby : c.code = code) (hml : c.maxLocals = 7) (hown : s.vm.findClass "com/example/nimble_json/nimblejson/JsonInputIsWhitespacePinLaw" = some m.cls) (hZ : Z.Warmed39 s.vm) (hret : meth.sig.returnType = some .boolean) (hlk : meth.locks = false) (X0 : Stand p l e room_1 s m args below meth c T0 locs cells slots) (e0 : T0.heap = h0) (hc : cells ≤ room_1.cells) (hs : slots ≤ room_1.slots) (v0 : Int32) (v1 : Int32) (hq : Q (some (.int (f0_0 v0 v1))) h0 locs) :
    Go p e below s room_1.cells room_1.slots Q T0 (mkF m 0 #[.val (.int v0), .val (.int v1), .unset, .unset, .unset, .unset, .unset] []) := by
  unfold f0_0 at hq
  refine go_step (T' := T0) (g' := (mkF m 1 #[.val (.int v0), .val (.int v1), .unset, .unset, .unset, .unset, .unset] [(.int v1)])) (fun t k => XS.iloadN X0.here hx rfl (hb hby at_0) rfl  k) ?_
  refine go_step (T' := T0) (g' := (mkF m 3 #[.val (.int v0), .val (.int v1), .unset, .unset, .unset, .unset, .unset] [(.int (7 : Int32)), (.int v1)])) (fun t k => XS.bipush X0.here hx rfl (hb hby at_1) k) ?_
  refine go_step (T' := T0) (g' := (mkF m 4 #[.val (.int v0), .val (.int v1), .unset, .unset, .unset, .unset, .unset] [(.int (v1 &&& (7 : Int32)))])) (fun t k => XS.iand X0.here hx rfl (hb hby at_3) rfl k) ?_
  refine go_step (T' := T0) (g' := (mkF m 5 #[.val (.int v0), .val (.int v1), .val (.int (v1 &&& (7 : Int32))), .unset, .unset, .unset, .unset] [])) (fun t k => XS.istoreN X0.here hx rfl (hb hby at_4) rfl (l' := #[.val (.int v0), .val (.int v1), .val (.int (v1 &&& (7 : Int32))), .unset, .unset, .unset, .unset]) rfl k) ?_
  refine go_step (T' := T0) (g' := (mkF m 6 #[.val (.int v0), .val (.int v1), .val (.int (v1 &&& (7 : Int32))), .unset, .unset, .unset, .unset] [(.int (v1 &&& (7 : Int32)))])) (fun t k => XS.iloadN X0.here hx rfl (hb hby at_5) rfl  k) ?_
  by_cases hc0 : (v1 &&& (7 : Int32)) = (0 : Int32)
  · rw [if_pos hc0] at hq
    refine go_step (T' := T0) (g' := (mkF m 9 #[.val (.int v0), .val (.int v1), .val (.int (v1 &&& (7 : Int32))), .unset, .unset, .unset, .unset] [])) (fun t k => XS.ifNo X0.here hx rfl (hb hby at_6) rfl ((if0 _ _).trans (teq hc0).2) k) ?_
    refine go_step (T' := T0) (g' := (mkF m 11 #[.val (.int v0), .val (.int v1), .val (.int (v1 &&& (7 : Int32))), .unset, .unset, .unset, .unset] [(.int (32 : Int32))])) (fun t k => XS.bipush X0.here hx rfl (hb hby at_9) k) ?_
    refine go_step (T' := T0) (g' := (mkF m 12 #[.val (.int v0), .val (.int v1), .val (.int (v1 &&& (7 : Int32))), .val (.int (32 : Int32)), .unset, .unset, .unset] [])) (fun t k => XS.istoreN X0.here hx rfl (hb hby at_11) rfl (l' := #[.val (.int v0), .val (.int v1), .val (.int (v1 &&& (7 : Int32))), .val (.int (32 : Int32)), .unset, .unset, .unset]) rfl k) ?_
    refine go_step (T' := T0) (g' := (mkF m 90 #[.val (.int v0), .val (.int v1), .val (.int (v1 &&& (7 : Int32))), .val (.int (32 : Int32)), .unset, .unset, .unset] [])) (fun t k => XS.goto X0.here hx rfl (pc0 := 12) (pc' := 90) rfl (hb hby at_12) (by decide) (by decide) k) ?_
    exact b0_90 hw hx hby hml hown hZ hret hlk X0 e0 hc hs v0 v1 (v1 &&& (7 : Int32)) (32 : Int32) hq
  · rw [if_neg hc0] at hq
    refine go_step (T' := T0) (g' := (mkF m 15 #[.val (.int v0), .val (.int v1), .val (.int (v1 &&& (7 : Int32))), .unset, .unset, .unset, .unset] [])) (fun t k => XS.ifYes X0.here hx rfl (pc0 := 6) (pc' := 15) rfl (hb hby at_6) rfl ((if0 _ _).trans (feq hc0).2) (by decide) (by decide) k) ?_
    refine go_step (T' := T0) (g' := (mkF m 16 #[.val (.int v0), .val (.int v1), .val (.int (v1 &&& (7 : Int32))), .unset, .unset, .unset, .unset] [(.int (v1 &&& (7 : Int32)))])) (fun t k => XS.iloadN X0.here hx rfl (hb hby at_15) rfl  k) ?_
    refine go_step (T' := T0) (g' := (mkF m 17 #[.val (.int v0), .val (.int v1), .val (.int (v1 &&& (7 : Int32))), .unset, .unset, .unset, .unset] [(.int (1 : Int32)), (.int (v1 &&& (7 : Int32)))])) (fun t k => XS.iconst X0.here hx rfl (hb hby at_16) k) ?_
    by_cases hc1 : (v1 &&& (7 : Int32)) = (1 : Int32)
    · rw [if_pos hc1] at hq
      refine go_step (T' := T0) (g' := (mkF m 20 #[.val (.int v0), .val (.int v1), .val (.int (v1 &&& (7 : Int32))), .unset, .unset, .unset, .unset] [])) (fun t k => XS.icmpNo X0.here hx rfl (hb hby at_17) rfl (teq hc1).2 k) ?_
      refine go_step (T' := T0) (g' := (mkF m 22 #[.val (.int v0), .val (.int v1), .val (.int (v1 &&& (7 : Int32))), .unset, .unset, .unset, .unset] [(.int (9 : Int32))])) (fun t k => XS.bipush X0.here hx rfl (hb hby at_20) k) ?_
      refine go_step (T' := T0) (g' := (mkF m 23 #[.val (.int v0), .val (.int v1), .val (.int (v1 &&& (7 : Int32))), .val (.int (9 : Int32)), .unset, .unset, .unset] [])) (fun t k => XS.istoreN X0.here hx rfl (hb hby at_22) rfl (l' := #[.val (.int v0), .val (.int v1), .val (.int (v1 &&& (7 : Int32))), .val (.int (9 : Int32)), .unset, .unset, .unset]) rfl k) ?_
      refine go_step (T' := T0) (g' := (mkF m 90 #[.val (.int v0), .val (.int v1), .val (.int (v1 &&& (7 : Int32))), .val (.int (9 : Int32)), .unset, .unset, .unset] [])) (fun t k => XS.goto X0.here hx rfl (pc0 := 23) (pc' := 90) rfl (hb hby at_23) (by decide) (by decide) k) ?_
      exact b0_90 hw hx hby hml hown hZ hret hlk X0 e0 hc hs v0 v1 (v1 &&& (7 : Int32)) (9 : Int32) hq
    · rw [if_neg hc1] at hq
      refine go_step (T' := T0) (g' := (mkF m 26 #[.val (.int v0), .val (.int v1), .val (.int (v1 &&& (7 : Int32))), .unset, .unset, .unset, .unset] [])) (fun t k => XS.icmpYes X0.here hx rfl (pc0 := 17) (pc' := 26) rfl (hb hby at_17) rfl (feq hc1).2 (by decide) (by decide) k) ?_
      refine go_step (T' := T0) (g' := (mkF m 27 #[.val (.int v0), .val (.int v1), .val (.int (v1 &&& (7 : Int32))), .unset, .unset, .unset, .unset] [(.int (v1 &&& (7 : Int32)))])) (fun t k => XS.iloadN X0.here hx rfl (hb hby at_26) rfl  k) ?_
      refine go_step (T' := T0) (g' := (mkF m 28 #[.val (.int v0), .val (.int v1), .val (.int (v1 &&& (7 : Int32))), .unset, .unset, .unset, .unset] [(.int (2 : Int32)), (.int (v1 &&& (7 : Int32)))])) (fun t k => XS.iconst X0.here hx rfl (hb hby at_27) k) ?_
      by_cases hc2 : (v1 &&& (7 : Int32)) = (2 : Int32)
      · rw [if_pos hc2] at hq
        refine go_step (T' := T0) (g' := (mkF m 31 #[.val (.int v0), .val (.int v1), .val (.int (v1 &&& (7 : Int32))), .unset, .unset, .unset, .unset] [])) (fun t k => XS.icmpNo X0.here hx rfl (hb hby at_28) rfl (teq hc2).2 k) ?_
        refine go_step (T' := T0) (g' := (mkF m 33 #[.val (.int v0), .val (.int v1), .val (.int (v1 &&& (7 : Int32))), .unset, .unset, .unset, .unset] [(.int (10 : Int32))])) (fun t k => XS.bipush X0.here hx rfl (hb hby at_31) k) ?_
        refine go_step (T' := T0) (g' := (mkF m 34 #[.val (.int v0), .val (.int v1), .val (.int (v1 &&& (7 : Int32))), .val (.int (10 : Int32)), .unset, .unset, .unset] [])) (fun t k => XS.istoreN X0.here hx rfl (hb hby at_33) rfl (l' := #[.val (.int v0), .val (.int v1), .val (.int (v1 &&& (7 : Int32))), .val (.int (10 : Int32)), .unset, .unset, .unset]) rfl k) ?_
        refine go_step (T' := T0) (g' := (mkF m 90 #[.val (.int v0), .val (.int v1), .val (.int (v1 &&& (7 : Int32))), .val (.int (10 : Int32)), .unset, .unset, .unset] [])) (fun t k => XS.goto X0.here hx rfl (pc0 := 34) (pc' := 90) rfl (hb hby at_34) (by decide) (by decide) k) ?_
        exact b0_90 hw hx hby hml hown hZ hret hlk X0 e0 hc hs v0 v1 (v1 &&& (7 : Int32)) (10 : Int32) hq
      · rw [if_neg hc2] at hq
        refine go_step (T' := T0) (g' := (mkF m 37 #[.val (.int v0), .val (.int v1), .val (.int (v1 &&& (7 : Int32))), .unset, .unset, .unset, .unset] [])) (fun t k => XS.icmpYes X0.here hx rfl (pc0 := 28) (pc' := 37) rfl (hb hby at_28) rfl (feq hc2).2 (by decide) (by decide) k) ?_
        refine go_step (T' := T0) (g' := (mkF m 38 #[.val (.int v0), .val (.int v1), .val (.int (v1 &&& (7 : Int32))), .unset, .unset, .unset, .unset] [(.int (v1 &&& (7 : Int32)))])) (fun t k => XS.iloadN X0.here hx rfl (hb hby at_37) rfl  k) ?_
        refine go_step (T' := T0) (g' := (mkF m 39 #[.val (.int v0), .val (.int v1), .val (.int (v1 &&& (7 : Int32))), .unset, .unset, .unset, .unset] [(.int (3 : Int32)), (.int (v1 &&& (7 : Int32)))])) (fun t k => XS.iconst X0.here hx rfl (hb hby at_38) k) ?_
        by_cases hc3 : (v1 &&& (7 : Int32)) = (3 : Int32)
        · rw [if_pos hc3] at hq
          refine go_step (T' := T0) (g' := (mkF m 42 #[.val (.int v0), .val (.int v1), .val (.int (v1 &&& (7 : Int32))), .unset, .unset, .unset, .unset] [])) (fun t k => XS.icmpNo X0.here hx rfl (hb hby at_39) rfl (teq hc3).2 k) ?_
          refine go_step (T' := T0) (g' := (mkF m 44 #[.val (.int v0), .val (.int v1), .val (.int (v1 &&& (7 : Int32))), .unset, .unset, .unset, .unset] [(.int (13 : Int32))])) (fun t k => XS.bipush X0.here hx rfl (hb hby at_42) k) ?_
          refine go_step (T' := T0) (g' := (mkF m 45 #[.val (.int v0), .val (.int v1), .val (.int (v1 &&& (7 : Int32))), .val (.int (13 : Int32)), .unset, .unset, .unset] [])) (fun t k => XS.istoreN X0.here hx rfl (hb hby at_44) rfl (l' := #[.val (.int v0), .val (.int v1), .val (.int (v1 &&& (7 : Int32))), .val (.int (13 : Int32)), .unset, .unset, .unset]) rfl k) ?_
          refine go_step (T' := T0) (g' := (mkF m 90 #[.val (.int v0), .val (.int v1), .val (.int (v1 &&& (7 : Int32))), .val (.int (13 : Int32)), .unset, .unset, .unset] [])) (fun t k => XS.goto X0.here hx rfl (pc0 := 45) (pc' := 90) rfl (hb hby at_45) (by decide) (by decide) k) ?_
          exact b0_90 hw hx hby hml hown hZ hret hlk X0 e0 hc hs v0 v1 (v1 &&& (7 : Int32)) (13 : Int32) hq
        · rw [if_neg hc3] at hq
          refine go_step (T' := T0) (g' := (mkF m 48 #[.val (.int v0), .val (.int v1), .val (.int (v1 &&& (7 : Int32))), .unset, .unset, .unset, .unset] [])) (fun t k => XS.icmpYes X0.here hx rfl (pc0 := 39) (pc' := 48) rfl (hb hby at_39) rfl (feq hc3).2 (by decide) (by decide) k) ?_
          refine go_step (T' := T0) (g' := (mkF m 49 #[.val (.int v0), .val (.int v1), .val (.int (v1 &&& (7 : Int32))), .unset, .unset, .unset, .unset] [(.int (v1 &&& (7 : Int32)))])) (fun t k => XS.iloadN X0.here hx rfl (hb hby at_48) rfl  k) ?_
          refine go_step (T' := T0) (g' := (mkF m 50 #[.val (.int v0), .val (.int v1), .val (.int (v1 &&& (7 : Int32))), .unset, .unset, .unset, .unset] [(.int (4 : Int32)), (.int (v1 &&& (7 : Int32)))])) (fun t k => XS.iconst X0.here hx rfl (hb hby at_49) k) ?_
          by_cases hc4 : (v1 &&& (7 : Int32)) = (4 : Int32)
          · rw [if_pos hc4] at hq
            refine go_step (T' := T0) (g' := (mkF m 53 #[.val (.int v0), .val (.int v1), .val (.int (v1 &&& (7 : Int32))), .unset, .unset, .unset, .unset] [])) (fun t k => XS.icmpNo X0.here hx rfl (hb hby at_50) rfl (teq hc4).2 k) ?_
            refine go_step (T' := T0) (g' := (mkF m 54 #[.val (.int v0), .val (.int v1), .val (.int (v1 &&& (7 : Int32))), .unset, .unset, .unset, .unset] [(.int v0)])) (fun t k => XS.iloadN X0.here hx rfl (hb hby at_53) rfl  k) ?_
            refine go_step (T' := T0) (g' := (mkF m 56 #[.val (.int v0), .val (.int v1), .val (.int (v1 &&& (7 : Int32))), .unset, .unset, .unset, .unset] [(.int (127 : Int32)), (.int v0)])) (fun t k => XS.bipush X0.here hx rfl (hb hby at_54) k) ?_
            refine go_step (T' := T0) (g' := (mkF m 57 #[.val (.int v0), .val (.int v1), .val (.int (v1 &&& (7 : Int32))), .unset, .unset, .unset, .unset] [(.int (v0 &&& (127 : Int32)))])) (fun t k => XS.iand X0.here hx rfl (hb hby at_56) rfl k) ?_
            refine go_step (T' := T0) (g' := (mkF m 58 #[.val (.int v0), .val (.int v1), .val (.int (v1 &&& (7 : Int32))), .val (.int (v0 &&& (127 : Int32))), .unset, .unset, .unset] [])) (fun t k => XS.istoreN X0.here hx rfl (hb hby at_57) rfl (l' := #[.val (.int v0), .val (.int v1), .val (.int (v1 &&& (7 : Int32))), .val (.int (v0 &&& (127 : Int32))), .unset, .unset, .unset]) rfl k) ?_
            refine go_step (T' := T0) (g' := (mkF m 90 #[.val (.int v0), .val (.int v1), .val (.int (v1 &&& (7 : Int32))), .val (.int (v0 &&& (127 : Int32))), .unset, .unset, .unset] [])) (fun t k => XS.goto X0.here hx rfl (pc0 := 58) (pc' := 90) rfl (hb hby at_58) (by decide) (by decide) k) ?_
            exact b0_90 hw hx hby hml hown hZ hret hlk X0 e0 hc hs v0 v1 (v1 &&& (7 : Int32)) (v0 &&& (127 : Int32)) hq
          · rw [if_neg hc4] at hq
            refine go_step (T' := T0) (g' := (mkF m 61 #[.val (.int v0), .val (.int v1), .val (.int (v1 &&& (7 : Int32))), .unset, .unset, .unset, .unset] [])) (fun t k => XS.icmpYes X0.here hx rfl (pc0 := 50) (pc' := 61) rfl (hb hby at_50) rfl (feq hc4).2 (by decide) (by decide) k) ?_
            refine go_step (T' := T0) (g' := (mkF m 62 #[.val (.int v0), .val (.int v1), .val (.int (v1 &&& (7 : Int32))), .unset, .unset, .unset, .unset] [(.int (v1 &&& (7 : Int32)))])) (fun t k => XS.iloadN X0.here hx rfl (hb hby at_61) rfl  k) ?_
            refine go_step (T' := T0) (g' := (mkF m 63 #[.val (.int v0), .val (.int v1), .val (.int (v1 &&& (7 : Int32))), .unset, .unset, .unset, .unset] [(.int (5 : Int32)), (.int (v1 &&& (7 : Int32)))])) (fun t k => XS.iconst X0.here hx rfl (hb hby at_62) k) ?_
            by_cases hc5 : (v1 &&& (7 : Int32)) = (5 : Int32)
            · rw [if_pos hc5] at hq
              refine go_step (T' := T0) (g' := (mkF m 66 #[.val (.int v0), .val (.int v1), .val (.int (v1 &&& (7 : Int32))), .unset, .unset, .unset, .unset] [])) (fun t k => XS.icmpNo X0.here hx rfl (hb hby at_63) rfl (teq hc5).2 k) ?_
              refine go_step (T' := T0) (g' := (mkF m 67 #[.val (.int v0), .val (.int v1), .val (.int (v1 &&& (7 : Int32))), .unset, .unset, .unset, .unset] [(.int v0)])) (fun t k => XS.iloadN X0.here hx rfl (hb hby at_66) rfl  k) ?_
              refine go_step (T' := T0) (g' := (mkF m 69 #[.val (.int v0), .val (.int v1), .val (.int (v1 &&& (7 : Int32))), .unset, .unset, .unset, .unset] [(.int (65535 : Int32)), (.int v0)])) (X0.ldcInt hx hown (mvT hZ (hw _ (List.mem_of_getElem? (i := 5) rfl))) (g := (mkF m 67 #[.val (.int v0), .val (.int v1), .val (.int (v1 &&& (7 : Int32))), .unset, .unset, .unset, .unset] [(.int v0)])) rfl (hb hby at_67)) ?_
              refine go_step (T' := T0) (g' := (mkF m 70 #[.val (.int v0), .val (.int v1), .val (.int (v1 &&& (7 : Int32))), .unset, .unset, .unset, .unset] [(.int (v0 &&& (65535 : Int32)))])) (fun t k => XS.iand X0.here hx rfl (hb hby at_69) rfl k) ?_
              refine go_step (T' := T0) (g' := (mkF m 71 #[.val (.int v0), .val (.int v1), .val (.int (v1 &&& (7 : Int32))), .val (.int (v0 &&& (65535 : Int32))), .unset, .unset, .unset] [])) (fun t k => XS.istoreN X0.here hx rfl (hb hby at_70) rfl (l' := #[.val (.int v0), .val (.int v1), .val (.int (v1 &&& (7 : Int32))), .val (.int (v0 &&& (65535 : Int32))), .unset, .unset, .unset]) rfl k) ?_
              refine go_step (T' := T0) (g' := (mkF m 90 #[.val (.int v0), .val (.int v1), .val (.int (v1 &&& (7 : Int32))), .val (.int (v0 &&& (65535 : Int32))), .unset, .unset, .unset] [])) (fun t k => XS.goto X0.here hx rfl (pc0 := 71) (pc' := 90) rfl (hb hby at_71) (by decide) (by decide) k) ?_
              exact b0_90 hw hx hby hml hown hZ hret hlk X0 e0 hc hs v0 v1 (v1 &&& (7 : Int32)) (v0 &&& (65535 : Int32)) hq
            · rw [if_neg hc5] at hq
              refine go_step (T' := T0) (g' := (mkF m 74 #[.val (.int v0), .val (.int v1), .val (.int (v1 &&& (7 : Int32))), .unset, .unset, .unset, .unset] [])) (fun t k => XS.icmpYes X0.here hx rfl (pc0 := 63) (pc' := 74) rfl (hb hby at_63) rfl (feq hc5).2 (by decide) (by decide) k) ?_
              refine go_step (T' := T0) (g' := (mkF m 75 #[.val (.int v0), .val (.int v1), .val (.int (v1 &&& (7 : Int32))), .unset, .unset, .unset, .unset] [(.int (v1 &&& (7 : Int32)))])) (fun t k => XS.iloadN X0.here hx rfl (hb hby at_74) rfl  k) ?_
              refine go_step (T' := T0) (g' := (mkF m 77 #[.val (.int v0), .val (.int v1), .val (.int (v1 &&& (7 : Int32))), .unset, .unset, .unset, .unset] [(.int (6 : Int32)), (.int (v1 &&& (7 : Int32)))])) (fun t k => XS.bipush X0.here hx rfl (hb hby at_75) k) ?_
              by_cases hc6 : (v1 &&& (7 : Int32)) = (6 : Int32)
              · rw [if_pos hc6] at hq
                refine go_step (T' := T0) (g' := (mkF m 80 #[.val (.int v0), .val (.int v1), .val (.int (v1 &&& (7 : Int32))), .unset, .unset, .unset, .unset] [])) (fun t k => XS.icmpNo X0.here hx rfl (hb hby at_77) rfl (teq hc6).2 k) ?_
                refine go_step (T' := T0) (g' := (mkF m 81 #[.val (.int v0), .val (.int v1), .val (.int (v1 &&& (7 : Int32))), .unset, .unset, .unset, .unset] [(.int v0)])) (fun t k => XS.iloadN X0.here hx rfl (hb hby at_80) rfl  k) ?_
                refine go_step (T' := T0) (g' := (mkF m 82 #[.val (.int v0), .val (.int v1), .val (.int (v1 &&& (7 : Int32))), .val (.int v0), .unset, .unset, .unset] [])) (fun t k => XS.istoreN X0.here hx rfl (hb hby at_81) rfl (l' := #[.val (.int v0), .val (.int v1), .val (.int (v1 &&& (7 : Int32))), .val (.int v0), .unset, .unset, .unset]) rfl k) ?_
                refine go_step (T' := T0) (g' := (mkF m 90 #[.val (.int v0), .val (.int v1), .val (.int (v1 &&& (7 : Int32))), .val (.int v0), .unset, .unset, .unset] [])) (fun t k => XS.goto X0.here hx rfl (pc0 := 82) (pc' := 90) rfl (hb hby at_82) (by decide) (by decide) k) ?_
                exact b0_90 hw hx hby hml hown hZ hret hlk X0 e0 hc hs v0 v1 (v1 &&& (7 : Int32)) v0 hq
              · rw [if_neg hc6] at hq
                refine go_step (T' := T0) (g' := (mkF m 85 #[.val (.int v0), .val (.int v1), .val (.int (v1 &&& (7 : Int32))), .unset, .unset, .unset, .unset] [])) (fun t k => XS.icmpYes X0.here hx rfl (pc0 := 77) (pc' := 85) rfl (hb hby at_77) rfl (feq hc6).2 (by decide) (by decide) k) ?_
                refine go_step (T' := T0) (g' := (mkF m 86 #[.val (.int v0), .val (.int v1), .val (.int (v1 &&& (7 : Int32))), .unset, .unset, .unset, .unset] [(.int v0)])) (fun t k => XS.iloadN X0.here hx rfl (hb hby at_85) rfl  k) ?_
                refine go_step (T' := T0) (g' := (mkF m 88 #[.val (.int v0), .val (.int v1), .val (.int (v1 &&& (7 : Int32))), .unset, .unset, .unset, .unset] [(.int (63 : Int32)), (.int v0)])) (fun t k => XS.bipush X0.here hx rfl (hb hby at_86) k) ?_
                refine go_step (T' := T0) (g' := (mkF m 89 #[.val (.int v0), .val (.int v1), .val (.int (v1 &&& (7 : Int32))), .unset, .unset, .unset, .unset] [(.int (v0 &&& (63 : Int32)))])) (fun t k => XS.iand X0.here hx rfl (hb hby at_88) rfl k) ?_
                refine go_step (T' := T0) (g' := (mkF m 90 #[.val (.int v0), .val (.int v1), .val (.int (v1 &&& (7 : Int32))), .val (.int (v0 &&& (63 : Int32))), .unset, .unset, .unset] [])) (fun t k => XS.istoreN X0.here hx rfl (hb hby at_89) rfl (l' := #[.val (.int v0), .val (.int v1), .val (.int (v1 &&& (7 : Int32))), .val (.int (v0 &&& (63 : Int32))), .unset, .unset, .unset]) rfl k) ?_
                exact b0_90 hw hx hby hml hown hZ hret hlk X0 e0 hc hs v0 v1 (v1 &&& (7 : Int32)) (v0 &&& (63 : Int32)) hq
theorem ef0 (m : MethodId) (v0 : Int32) (v1 : Int32) : entryFrame m #[(.int v0), (.int v1)] maxLocals = (mkF m 0 #[.val (.int v0), .val (.int v1), .unset, .unset, .unset, .unset, .unset] []) := by first | (simp [entryFrame, mkF, argsToLocals, Value.category, maxLocals]; done) | rfl
theorem pn0 : plainName "com/example/nimble_json/nimblejson/JsonInputIsWhitespacePinLaw" = true := by first | (simp [plainName, overriddenIn]; done) | decide +kernel
set_option maxRecDepth 65536 in
theorem mq0 (l : Launch) (Z : State) (a0 : Array Value) (hw : ∀ d ∈ tables_1, d.before a0 Z = true) (ws : List Jvm.Cond) (v0 : Int32) (v1 : Int32) (h0 : Heap) : MQ l Z x code maxLocals ret ws room_1 #[(.int v0), (.int v1)] h0 (QP (some (.int (f0_0 v0 v1))) h0) := by
  refine mq_of (plainFor_of_name pn0) ?_
  intro p e s m below meth c T0 X0 hx hby hml hown hnm hZ e0 hret hlk
  rw [ef0]
  exact b0_0 hw hx hby hml hown hZ hret hlk X0 e0 (Nat.zero_le _) (Nat.zero_le _) v0 v1 ⟨rfl, rfl, rfl⟩
/-! the plain law: below 64 one by one -/
theorem own_all : ∀ i : Fin 64, f0_90 0 0 0 (Int32.ofNat i.val) = 1 := by decide +kernel
theorem own_90 (a b s u : Int32) : f0_90 a b s u = 1 := by
  have e0 : f0_90 a b s u = f0_90 0 0 0 u := rfl
  rw [e0]
  have k0 : (0 : Int32).toInt = 0 := by decide
  have k2 : (64 : Int32).toInt = 64 := by decide
  by_cases c1 : u < (0 : Int32)
  · have ne : ∀ k : Int32, ¬ k < 0 → ¬ u = k := fun k hk q => hk (q ▸ c1)
    unfold f0_90 f0_120 f0_121 f1_0
    rw [if_pos c1, if_neg (ne _ (by decide)), if_neg (ne _ (by decide)), if_neg (ne _ (by decide)), if_neg (ne _ (by decide))]
    rfl
  · by_cases c2 : u < (64 : Int32)
    · rw [Int32.lt_iff_toInt_lt] at c1 c2
      have q := own_all ⟨u.toInt.toNat, by omega⟩
      have e : Int32.ofNat u.toInt.toNat = u := by
        apply Int32.toInt_inj.mp
        rw [Int32.toInt_ofNat_of_lt (by omega)]
        omega
      rw [← e]; exact q
    · have ne : ∀ k : Int32, k < 64 → ¬ u = k := fun k hk q => c2 (q ▸ hk)
      unfold f0_90 f0_120 f0_121 f1_0
      rw [if_neg c1, if_neg c2, if_neg (ne _ (by decide)), if_neg (ne _ (by decide)), if_neg (ne _ (by decide)), if_neg (ne _ (by decide))]
      rfl
theorem plain_law (x sel : Int32) : f0_0 x sel = 1 := by
  unfold f0_0
  simp only [own_90]
  repeat' split
  all_goals rfl

set_option maxRecDepth 65536 in
set_option maxHeartbeats 40000000 in
theorem comes_1 {Post : Tables → Env → Array Value → State → Outcome → State → Prop} (hpost : ∀ tb e args s v u, (limb_1_1.after args s (.returned v) u = true ∧ limb_1_2.after args s (.returned v) u = true ∧ True) → FrameEnd s (.returned v) u (Jvm.fieldLocs frame_1_writes args s ++ Jvm.arrayLocs frame_1_arrays args s ++ Jvm.staticLocs frame_1_statics s) 0 0 → Post tb e args s (.returned v) u) :
    ArmFor flags0 classFile x code maxLocals ret World_1 tables_1 room_1 Calls_1 rest_1 Pre_1 Post := by
  intro l hfl _ _ p e ha hc hk s m args below hf hA hF happ hP
  obtain ⟨hcalls, hrest, hpre⟩ := hP
  obtain ⟨-, -, -, hnamed, -, -, -, hat⟩ := (Spec.applies_iff hf).mp happ
  obtain ⟨hg, hn⟩ := and_e (Cond.before_iff.mp (show (Jvm.Cond.and given_1 narrow_1).before args s = true from hpre))
  obtain ⟨hcount, hg0⟩ := and_e hg
  obtain ⟨ga0, hg1⟩ := and_e hg0
  have ga1 := hg1
  obtain ⟨w0, w1, rfl⟩ : ∃ w0 w1 : Value, args = #[w0, w1] := by
    have hs : args.size = 2 := by simpa [Cond.value, given_1] using hcount
    obtain ⟨L⟩ := args
    match L, hs with
    | [w0, w1], _ => exact ⟨w0, w1, rfl⟩
  have hw := fun d (hd : d ∈ tables_1) => atoms_spec (ws := Jvm.Cond.code x code maxLocals ret :: tables_1) hat d (List.mem_cons_of_mem _ hd)
  obtain ⟨i0, ei0⟩ := is_v ga0
  obtain rfl : w0 = (.int i0) := Option.some.inj ei0
  obtain ⟨i1, ei1⟩ := is_v ga1
  obtain rfl : w1 = (.int i1) := Option.some.inj ei1
  obtain ⟨n, o, h1, h2, h3, _, L, rfl, ⟨rfl, -, rfl⟩, hq⟩ := mq0 l s _ hw tables_1 i0 i1 s.heap p e ha hc hk s m _ below hf ((Spec.applies_iff_loose hf).mp happ).1 ⟨rfl, State.Warmed39.refl s, rfl⟩ trivial
  rw [plain_law] at h3 hq
  refine ⟨n, _, h1, h2, h3, hpost _ _ _ _ _ _ ⟨Cond.after_iff.mpr rfl, Cond.after_iff.mpr (eq_i res_at (Term.int_eval (1)) rfl), trivial⟩ ⟨hq.1, hq.2.1, (hq.2.2.sift fun y hy => nomatch hy).mono (by decide) (by decide)⟩⟩
theorem main_1_1 : Claimed_1_1 := comes_1 fun _ _ _ _ _ _ h hF => ⟨h.1, hF⟩
theorem main_1_2 : Claimed_1_2 := comes_1 fun _ _ _ _ _ _ h hF => ⟨h.2.1, hF⟩
end Jvm.Pilot.@@N@@
namespace Jvm.Pilot.@@N@@
open Jvm Jvm.ClassFile Sem Op Lib Jvm.Free Jvm.Stand Jvm.Pilot.@@N@@.Jvm.D
/-! MADE BY PROGRAM (witnessworld.py) out of the Statement's table words and the real class files: 9 classes; the members and pool entries that the words name. The judged class is class 1, her method 1. -/
namespace start1
open Jvm.ClassFile
def u (s : String) : CpInfo := .utf8 (stringToUtf16 s)
/-- a pool by its gaps: so many unusable entries, then the entry; so many at the end -/
def gap : Nat → List CpInfo → List CpInfo
  | 0, r => r
  | n + 1, r => .unusable :: gap n r
def poolList (es : List (Nat × CpInfo)) (last : Nat) : List CpInfo := es.foldr (fun e r => gap e.1 (e.2 :: r)) (gap last [])
def pool (es : List (Nat × CpInfo)) (last : Nat) : Array CpInfo := ⟨poolList es last⟩
def fileOf (pool : Array CpInfo) (this : Nat) (attrs : Array Attribute := #[]) (ms : Array MethodInfo := #[]) (fl : Nat := 33) (sup : Nat := 0) (ifs : Array Nat := #[]) (fds : Array FieldInfo := #[]) : ClassFile where
  minorVersion := 0
  majorVersion := 65
  constantPool := pool
  accessFlags := fl
  thisClass := this
  superClass := sup
  interfaces := ifs
  fields := fds
  methods := ms
  attributes := attrs
def plain (name : String) (sup : Option ClassId) : Class where
  name := name
  kind := .ordinary
  loader := none
  accessFlags := 33
  super := sup
  interfaces := #[]
  cf := none
  fields := #[]
  methods := #[]
  instanceTypes := #[]
  staticTypes := #[]
  resolved := #[]
  callSites := []
  init := .initialized
  statics := none
  mirror := none

def pool0 : Array CpInfo := pool [(5, u "<init>"), (0, u "()V"), (1, .class_ 10), (1, u "java/lang/Object")] 113

def k0m0 : Method := { name := "<init>", desc := "()V", sig := { parameters := [], returnType := none }, accessFlags := 1, code := none }
/-- java/lang/Object -/
def k0 : Class := { plain "java/lang/Object" none with
  accessFlags := 33
  interfaces := #[]
  cf := some (fileOf pool0 8 #[] #[{ accessFlags := 1, nameIndex := 5, descriptorIndex := 6, attributes := #[] }] 33 0 #[] #[])
  fields := #[]
  methods := #[k0m0]
  instanceTypes := #[]
  staticTypes := #[]
  resolved := Array.replicate 124 none
  statics := none }

def pool1 : Array CpInfo := pool [(2, .class_ 4), (1, u "java/lang/Object"), (0, u "<init>"), (0, u "()V"), (0, .integer 65535), (0, .long 4294977024), (1, .methodref 11 12), (0, .class_ 13), (0, .nameAndType 14 15), (0, u "com/example/nimble_json/nimblejson/JsonInput"), (0, u "isWhitespace"), (0, u "(I)Z"), (0, .class_ 17), (0, u "com/example/nimble_json/nimblejson/JsonInputIsWhitespacePinLaw"), (2, u "law"), (0, u "(II)Z")] 3

def k1m0 : Method := { name := "<init>", desc := "()V", sig := { parameters := [], returnType := none }, accessFlags := 1, code := none }
def k1c1 : Code := { maxStack := 4, maxLocals := 7, code := code, exceptionTable := #[], attributes := #[] }
def k1m1 : Method := { name := "law", desc := "(II)Z", sig := { parameters := [.int, .int], returnType := some .boolean }, accessFlags := 9, code := some k1c1 }
/-- com/example/nimble_json/nimblejson/JsonInputIsWhitespacePinLaw -/
def k1 : Class := { plain "com/example/nimble_json/nimblejson/JsonInputIsWhitespacePinLaw" (some 0) with
  accessFlags := 49
  interfaces := #[]
  cf := some (fileOf pool1 16 #[] #[{ accessFlags := 1, nameIndex := 5, descriptorIndex := 6, attributes := #[] }, { accessFlags := 9, nameIndex := 20, descriptorIndex := 21, attributes := #[] }] 49 2 #[] #[])
  fields := #[]
  methods := #[k1m0, k1m1]
  instanceTypes := #[]
  staticTypes := #[]
  resolved := Array.replicate 25 none
  statics := none }

def pool2 : Array CpInfo := pool [(7, .class_ 8), (0, u "com/example/nimble_json/nimblejson/JsonInput"), (1, .class_ 12), (1, u "java/lang/Object"), (4, u "mark"), (0, u "I"), (0, .class_ 20), (0, u "com/example/nimble_json/nimblejson/JsonInput$InPlace"), (5, u "inPlace"), (0, u "Lcom/example/nimble_json/nimblejson/JsonInput$InPlace;"), (0, .class_ 29), (0, u "com/example/nimble_json/nimblejson/JsonInput$LineCount"), (3, u "lines"), (0, u "Lcom/example/nimble_json/nimblejson/JsonInput$LineCount;"), (2, u "notedLine"), (0, u "J"), (2, u "notedColumn"), (2, u "limit"), (2, u "ended"), (0, u "Z"), (2, u "pos"), (6, u "isWhitespace"), (0, u "(I)Z"), (17, u "base"), (35, .class_ 115), (1, u "com/example/nimble_json/nimblejson/JsonInput$Units"), (41, u "countedTo"), (19, .class_ 179), (1, u "com/example/nimble_json/nimblejson/JsonInput$Place"), (17, u "noted"), (2, u "CLASSES"), (0, u "[B"), (58, u "END"), (2, u "END_OF_TEXT"), (0, u "Ljava/lang/String;"), (0, u "BUFFER_SIZE"), (1, u "NOT_QUICK"), (0, u "QUICK_DIGITS"), (1, u "QUICK_LENGTH"), (1, u "BYTE_ORDER_MARK"), (0, u "MAX_BUFFER"), (1, u "NO_MARK"), (0, u "WHITESPACE"), (1, u "DIGIT"), (1, u "IN_DOUBLE_QUOTES"), (1, u "IN_SINGLE_QUOTES"), (1, u "IN_NUMBER"), (1, u "ABOVE_ASCII"), (1, u "plainForm"), (0, u "B")] 66

def k2c0 : Code := { maxStack := 2, maxLocals := 1, code := prog_45_method_49_code, exceptionTable := #[], attributes := #[] }
def k2m0 : Method := { name := "isWhitespace", desc := "(I)Z", sig := { parameters := [.int], returnType := some .boolean }, accessFlags := 8, code := some k2c0 }
/-- com/example/nimble_json/nimblejson/JsonInput -/
def k2 : Class := { plain "com/example/nimble_json/nimblejson/JsonInput" (some 0) with
  accessFlags := 1056
  interfaces := #[]
  cf := some (fileOf pool2 7 #[.nestMembers #[177, 113, 28, 19]] #[{ accessFlags := 8, nameIndex := 58, descriptorIndex := 59, attributes := #[] }] 1056 10 #[] #[{ accessFlags := 24, nameIndex := 260, descriptorIndex := 18, attributes := #[] }, { accessFlags := 24, nameIndex := 263, descriptorIndex := 264, attributes := #[] }, { accessFlags := 24, nameIndex := 265, descriptorIndex := 18, attributes := #[] }, { accessFlags := 24, nameIndex := 267, descriptorIndex := 38, attributes := #[] }, { accessFlags := 24, nameIndex := 268, descriptorIndex := 18, attributes := #[] }, { accessFlags := 24, nameIndex := 270, descriptorIndex := 18, attributes := #[] }, { accessFlags := 26, nameIndex := 272, descriptorIndex := 18, attributes := #[] }, { accessFlags := 26, nameIndex := 273, descriptorIndex := 18, attributes := #[] }, { accessFlags := 26, nameIndex := 275, descriptorIndex := 18, attributes := #[] }, { accessFlags := 24, nameIndex := 276, descriptorIndex := 18, attributes := #[] }, { accessFlags := 24, nameIndex := 278, descriptorIndex := 18, attributes := #[] }, { accessFlags := 24, nameIndex := 280, descriptorIndex := 18, attributes := #[] }, { accessFlags := 24, nameIndex := 282, descriptorIndex := 18, attributes := #[] }, { accessFlags := 24, nameIndex := 284, descriptorIndex := 18, attributes := #[] }, { accessFlags := 26, nameIndex := 286, descriptorIndex := 18, attributes := #[] }, { accessFlags := 26, nameIndex := 200, descriptorIndex := 201, attributes := #[] }, { accessFlags := 0, nameIndex := 288, descriptorIndex := 289, attributes := #[] }, { accessFlags := 2, nameIndex := 77, descriptorIndex := 38, attributes := #[] }, { accessFlags := 2, nameIndex := 51, descriptorIndex := 18, attributes := #[] }, { accessFlags := 2, nameIndex := 44, descriptorIndex := 18, attributes := #[] }, { accessFlags := 2, nameIndex := 47, descriptorIndex := 48, attributes := #[] }, { accessFlags := 2, nameIndex := 17, descriptorIndex := 18, attributes := #[] }, { accessFlags := 18, nameIndex := 26, descriptorIndex := 27, attributes := #[] }, { accessFlags := 18, nameIndex := 33, descriptorIndex := 34, attributes := #[] }, { accessFlags := 2, nameIndex := 157, descriptorIndex := 38, attributes := #[] }, { accessFlags := 2, nameIndex := 197, descriptorIndex := 38, attributes := #[] }, { accessFlags := 2, nameIndex := 37, descriptorIndex := 38, attributes := #[] }, { accessFlags := 2, nameIndex := 41, descriptorIndex := 38, attributes := #[] }])
  fields := #[{ name := "END", type := .int, accessFlags := 24, slot := 0, constantValue := 0 }, { name := "END_OF_TEXT", type := (.object "java/lang/String"), accessFlags := 24, slot := 1, constantValue := 0 }, { name := "BUFFER_SIZE", type := .int, accessFlags := 24, slot := 2, constantValue := 0 }, { name := "NOT_QUICK", type := .long, accessFlags := 24, slot := 3, constantValue := 0 }, { name := "QUICK_DIGITS", type := .int, accessFlags := 24, slot := 4, constantValue := 0 }, { name := "QUICK_LENGTH", type := .int, accessFlags := 24, slot := 5, constantValue := 0 }, { name := "BYTE_ORDER_MARK", type := .int, accessFlags := 26, slot := 6, constantValue := 0 }, { name := "MAX_BUFFER", type := .int, accessFlags := 26, slot := 7, constantValue := 0 }, { name := "NO_MARK", type := .int, accessFlags := 26, slot := 8, constantValue := 0 }, { name := "WHITESPACE", type := .int, accessFlags := 24, slot := 9, constantValue := 0 }, { name := "DIGIT", type := .int, accessFlags := 24, slot := 10, constantValue := 0 }, { name := "IN_DOUBLE_QUOTES", type := .int, accessFlags := 24, slot := 11, constantValue := 0 }, { name := "IN_SINGLE_QUOTES", type := .int, accessFlags := 24, slot := 12, constantValue := 0 }, { name := "IN_NUMBER", type := .int, accessFlags := 24, slot := 13, constantValue := 0 }, { name := "ABOVE_ASCII", type := .int, accessFlags := 26, slot := 14, constantValue := 0 }, { name := "CLASSES", type := (.array .byte), accessFlags := 26, slot := 15, constantValue := 0 }, { name := "plainForm", type := .byte, accessFlags := 0, slot := 0, constantValue := 0 }, { name := "base", type := .long, accessFlags := 2, slot := 1, constantValue := 0 }, { name := "pos", type := .int, accessFlags := 2, slot := 2, constantValue := 0 }, { name := "limit", type := .int, accessFlags := 2, slot := 3, constantValue := 0 }, { name := "ended", type := .boolean, accessFlags := 2, slot := 4, constantValue := 0 }, { name := "mark", type := .int, accessFlags := 2, slot := 5, constantValue := 0 }, { name := "inPlace", type := (.object "com/example/nimble_json/nimblejson/JsonInput$InPlace"), accessFlags := 18, slot := 6, constantValue := 0 }, { name := "lines", type := (.object "com/example/nimble_json/nimblejson/JsonInput$LineCount"), accessFlags := 18, slot := 7, constantValue := 0 }, { name := "countedTo", type := .long, accessFlags := 2, slot := 8, constantValue := 0 }, { name := "noted", type := .long, accessFlags := 2, slot := 9, constantValue := 0 }, { name := "notedLine", type := .long, accessFlags := 2, slot := 10, constantValue := 0 }, { name := "notedColumn", type := .long, accessFlags := 2, slot := 11, constantValue := 0 }]
  methods := #[k2m0]
  instanceTypes := #[.byte, .long, .int, .int, .boolean, .int, (.object "com/example/nimble_json/nimblejson/JsonInput$InPlace"), (.object "com/example/nimble_json/nimblejson/JsonInput$LineCount"), .long, .long, .long, .long]
  staticTypes := #[.int, (.object "java/lang/String"), .int, .long, .int, .int, .int, .int, .int, .int, .int, .int, .int, .int, .int, (.array .byte)]
  resolved := Array.replicate 356 none
  statics := none }

def pool3 : Array CpInfo := pool [(1, u "java/lang/Cloneable"), (0, .class_ 1), (0, u "java/lang/Object"), (0, .class_ 3)] 3

/-- java/lang/Cloneable -/
def k3 : Class := { plain "java/lang/Cloneable" (some 0) with
  accessFlags := 1537
  interfaces := #[]
  cf := some (fileOf pool3 2 #[] #[] 1537 4 #[] #[])
  fields := #[]
  methods := #[]
  instanceTypes := #[]
  staticTypes := #[]
  resolved := Array.replicate 8 none
  statics := none }

def pool4 : Array CpInfo := pool [(1, u "java/io/Serializable"), (0, .class_ 1), (0, u "java/lang/Object"), (0, .class_ 3)] 3

/-- java/io/Serializable -/
def k4 : Class := { plain "java/io/Serializable" (some 0) with
  accessFlags := 1537
  interfaces := #[]
  cf := some (fileOf pool4 2 #[] #[] 1537 4 #[] #[])
  fields := #[]
  methods := #[]
  instanceTypes := #[]
  staticTypes := #[]
  resolved := Array.replicate 8 none
  statics := none }

/-- the primitive byte -/
def k5 : Class := { plain "byte" none with kind := .primitive 'B', accessFlags := 0x411 }
/-- [B -/
def k6 : Class := { plain "[B" (some 0) with kind := .array 5 .byte, interfaces := #[3, 4], accessFlags := 1041 }

/-- the primitive int -/
def k7 : Class := { plain "int" none with kind := .primitive 'I', accessFlags := 0x411 }
/-- [I -/
def k8 : Class := { plain "[I" (some 0) with kind := .array 7 .int, interfaces := #[3, 4], accessFlags := 1041 }

def heap : Heap := #[]
def classes : Array Class := #[k0, k1, k2, k3, k4, k5, k6, k7, k8]
def interned : List (Array UInt16 × Addr) := []
def slotsUsed : Nat := 0
def theMethod : MethodId := ⟨1, 1⟩
def args0 : Array Value := #[.int 5, .int 5]
def aboutOver (below : List Frame) : State where
  vm := { classes := classes, interned := interned.toArray }
  heap := heap
  slotsUsed := slotsUsed
  threads := #[{ frames := .invoking theMethod args0 :: below }]
def below0 : List Frame := [.native { method := ⟨0, 0⟩, args := #[] }]
def about1 : State := aboutOver below0
def p0 : Program := .bare "" "" ""
def e0 : Env := launch0.env 0 0 0
theorem w_frames : about1.frames = Frame.invoking theMethod args0 :: below0 := rfl
set_option maxRecDepth 65536 in
theorem w_args : argsFit about1.vm theMethod args0 = true := by decide +kernel
set_option maxRecDepth 65536 in
theorem w_heap : heapFits about1 = true := by decide +kernel
set_option maxRecDepth 65536 in
theorem w_runnable : about1.curStatus? = some .runnable := by decide +kernel
set_option maxRecDepth 65536 in
theorem w_alone : about1.alone = true := by decide +kernel
set_option maxRecDepth 65536 in
theorem w_named : about1.methodNamed? x = some theMethod := by decide +kernel
set_option maxRecDepth 65536 in
theorem w_hears : about1.hears theMethod below0 = true := by decide +kernel
set_option maxRecDepth 65536 in
theorem w_ripe : about1.ripe theMethod args0 below0 = true := by decide +kernel
theorem w_running : about1.status = .running := rfl
set_option maxRecDepth 65536 in
theorem w_room : about1.hasRoom e0.platform room_1 = true :=
  launch0.hasRoom_least _ room_1 (by decide +kernel) (by decide +kernel) (by decide +kernel) (by decide +kernel) (by decide +kernel) (by decide +kernel)
theorem allAtoms_all (ts : List Jvm.Cond) (a : Array Jvm.Value) (st : Jvm.State) : (allAtoms ts).before a st = ts.all (fun c => c.before a st) := by
  induction ts with
  | nil => rfl
  | cons c t ih =>
    show (Jvm.Cond.and c (allAtoms t)).before a st = _
    rw [Jvm.Cond.before_and, ih, List.all_cons]
def words1 : List Jvm.Cond := Jvm.Cond.code x code maxLocals ret :: tables_1
/-- a 'code' word, met by the world's own term for the bytes: nothing is compared byte by byte -/
theorem code_word {y : MethodName} {bytes : ByteArray} {mx : Nat} {rt : Option FieldType} {a : Array Value} {s : State} {m : MethodId} {meth : Method} {c : Code} (h1 : s.methodNamed? y = some m) (h2 : s.vm.method? m = some meth) (h3 : meth.code = some c) (h4 : c.code = bytes)
    (h5 : (c.maxLocals == mx && c.exceptionTable.isEmpty && decide (c.maxStack ≤ mostOperands) && decide (meth.sig.returnType = rt) && !meth.locks && decide (parseMethodDescriptor y.desc = some meth.sig)) = true) : (Jvm.Cond.code y bytes mx rt).before a s = true := by
  simp only [Bool.and_eq_true, beq_iff_eq, Bool.not_eq_true', decide_eq_true_eq] at h5
  obtain ⟨⟨⟨⟨⟨g1, g2⟩, g3⟩, g4⟩, g5⟩, g6⟩ := h5
  simp [Cond.before, Cond.holds, Cond.value, h1, h2, h3, h4, g1, g2, g3, g4, g5, g6]
def isCode : Jvm.Cond → Bool
  | .code _ _ _ _ => true
  | _ => false
theorem all_split {L : List Jvm.Cond} {P : Jvm.Cond → Bool} (h1 : L.all (fun c => isCode c || P c) = true) (h2 : ∀ c ∈ L.filter isCode, P c = true) : L.all P = true := by
  refine List.all_eq_true.mpr fun c hc => ?_
  have h := List.all_eq_true.mp h1 c hc
  rcases Bool.eq_false_or_eq_true (isCode c) with hi | hi
  · exact h2 c (List.mem_filter.mpr ⟨hc, hi⟩)
  · simpa [hi] using h
set_option maxRecDepth 65536 in
theorem w_c0 : (Jvm.Cond.code x code maxLocals ret).before args0 about1 = true := code_word (m := ⟨1, 1⟩) (meth := k1m1) (c := k1c1) (by decide +kernel) rfl rfl rfl (by decide +kernel)
set_option maxRecDepth 65536 in
theorem w_c1 : (Jvm.Cond.code ({ cls := "com/example/nimble_json/nimblejson/JsonInput", name := "isWhitespace", desc := "(I)Z" } : Jvm.MethodName) prog_45_method_49_code (1 : Nat) (Option.some Jvm.ClassFile.FieldType.boolean)).before args0 about1 = true := code_word (m := ⟨2, 0⟩) (meth := k2m0) (c := k2c0) (by decide +kernel) rfl rfl rfl (by decide +kernel)
def codes1 : List Jvm.Cond := [Jvm.Cond.code x code maxLocals ret, Jvm.Cond.code ({ cls := "com/example/nimble_json/nimblejson/JsonInput", name := "isWhitespace", desc := "(I)Z" } : Jvm.MethodName) prog_45_method_49_code (1 : Nat) (Option.some Jvm.ClassFile.FieldType.boolean)]
set_option maxRecDepth 65536 in
theorem codes_eq : words1.filter isCode = codes1 := rfl
theorem w_codes : ∀ c ∈ words1.filter isCode, c.before args0 about1 = true := by
  rw [codes_eq]
  intro c hc
  simp only [codes1, List.mem_cons, List.not_mem_nil, or_false] at hc
  rcases hc with rfl | rfl
  · exact w_c0
  · exact w_c1
set_option maxRecDepth 65536 in
theorem w_t1 : words1.all (fun c => isCode c || c.before args0 about1) = true := by decide +kernel
theorem w_tables : (allAtoms (Jvm.Cond.code x code maxLocals ret :: tables_1)).before args0 about1 = true := by
  rw [allAtoms_all]
  show words1.all (fun c => c.before args0 about1) = true
  refine all_split ?_ w_codes
  rw [w_t1]
set_option maxRecDepth 65536 in
theorem w_case : (Jvm.Cond.and given_1 narrow_1).before args0 about1 = true := by decide +kernel
theorem w_applies : (headSpec (Jvm.Cond.code x code maxLocals ret :: tables_1) room_1).applies x e0.platform about1 = true :=
  (Spec.applies_iff w_frames).mpr ⟨w_running, w_runnable, w_alone, w_named, w_hears, w_ripe, w_room, w_tables⟩
theorem atStart : AtStart classFile x code maxLocals ret World_1 tables_1 room_1 Calls_1 rest_1 Pre_1 launch0 p0 e0 about1 theMethod args0 below0 :=
  ⟨lists_1, trivial, launch0.admits_env _ _ _, launch0.least_env, fairChoices_fair.cas, fairChoices_fair.clock, w_frames, w_args, w_heap, w_applies, trivial, trivial, w_case⟩
end start1
theorem witness_1 : WitnessClaimed_1 := ⟨start1.p0, start1.e0, start1.about1, start1.theMethod, start1.args0, start1.below0, start1.atStart⟩
end Jvm.Pilot.@@N@@
