import JvmDerived
import JvmDerived.Pilot.@@N@@Statement
import JvmDerived.Pilot.@@N@@Code
set_option linter.unusedVariables false
set_option linter.unusedSimpArgs false
namespace Jvm.Pilot.@@N@@
open Jvm Jvm.ClassFile Sem Op Lib Jvm.Free Jvm.Stand Jvm.LawKit Jvm.RoadKit Bundle Jvm.Pilot.@@N@@.Jvm.D
/-! the walk's own small layer: 'Go' (from this frame the run comes to an end that Q tells of), one law a return, one law a call -/
def Go (p : Program) (e : Env) (below : List Frame) (s : State) (C S : Nat) (Q : Option Value → Heap → List Loc → Prop) (T : State) (g : JFrame) : Prop :=
  ∃ s₂ o, Steps p.tables e below (T.setTop g) s₂ ∧ s₂.status = .running ∧ Ended s₂ below o ∧ ∃ v L, o = .returned v ∧ Q v s₂.heap L ∧ FrameEnd s o s₂ L C S
/-- a contract: called with these arguments over this heap, the method ends as Q says -/
def MQ (l : Launch) (Z : State) (y : MethodName) (bytes : ByteArray) (maxL : Nat) (rt : Option FieldType) (ws : List Jvm.Cond) (rm : Room) (as : Array Value) (h0 : Heap) (Q : Option Value → Heap → List Loc → Prop) : Prop :=
  MetFree l y (head1 (Jvm.Cond.code y bytes maxL rt :: ws) rm) (fun a U => a = as ∧ Z.Warmed39 U.vm ∧ U.heap = h0) (fun _ _ _ _ _ => True) (fun _ U o U' => ∃ v L, o = .returned v ∧ Q v U'.heap L ∧ FrameEnd U o U' L rm.cells rm.slots)
/-- what a method that writes nothing leaves -/
def QP (r : Option Value) (h0 : Heap) (v : Option Value) (h : Heap) (L : List Loc) : Prop := v = r ∧ h = h0 ∧ L = []
/-- Java's x >>> y, on ints and on longs -/
def ush (x y : Int32) : Int32 := (x.toUInt32 >>> (y &&& 31).toUInt32).toInt32
def ushL (x : Int64) (y : Int32) : Int64 := (x.toUInt64 >>> (y &&& 0x3f).toInt64.toUInt64).toInt64
section Layer
variable {p : Program} {l : Launch} {e : Env} {R : Room} {s : State} {m : MethodId} {args : Array Value} {below : List Frame} {meth : Method} {c : Code} {T T' : State} {locs : List Loc} {cells slots C S : Nat} {Q : Option Value → Heap → List Loc → Prop} {g g' : JFrame} {h : Heap} {Z : State} {a0 : Array Value}
theorem go_step (st : ∀ t, Steps p.tables e below (T'.setTop g') t → Steps p.tables e below (T.setTop g) t) (k : Go p e below s C S Q T' g') : Go p e below s C S Q T g := by
  obtain ⟨s₂, o, h1, r⟩ := k
  exact ⟨s₂, o, st _ h1, r⟩
theorem go_mono {C' S' : Nat} (hc : C ≤ C') (hs : S ≤ S') (k : Go p e below s C S Q T g) : Go p e below s C' S' Q T g := by
  obtain ⟨s₂, o, h1, h2, h3, v, L, h4, h5, h6, h7, h8⟩ := k
  exact ⟨s₂, o, h1, h2, h3, v, L, h4, h5, h6, h7, h8.mono hc hs⟩
theorem lremM {target : State} (X : Stand p l e R s m args below meth c T locs cells slots) (hx : p.tables.exec = Jvm.exec) (hg : g.method = m) {x y : Int64} {rest : List Value} (hd : decode c.code g.pc = .ok (.lrem, 1)) (hs : g.stack = .long y :: .long x :: rest) (hy : y ≠ 0)
    (hr : Steps p.tables e below (T.setTop { g with pc := g.pc + 1, stack := .long (x % y) :: rest }) target) : Steps p.tables e below (T.setTop g) target :=
  XS.lrem X.here hx hg hd hs hy (by rw [lrem_mod]; exact hr)
theorem lookYes {target : State} (X : Stand p l e R s m args below meth c T locs cells slots) (hx : p.tables.exec = Jvm.exec) (hg : g.method = m) {key : Int32} {rest : List Value} {d o kv : Int} {prs : Array (Int × Int)} {len pc0 pc' : Nat} (hpc : g.pc = pc0) (hd : decode c.code g.pc = .ok (.lookupswitch d prs, len)) (hs : g.stack = .int key :: rest) (hso : (prs.toList.zip (prs.toList.drop 1)).all (fun (a, next) => a.1 < next.1) = true) (hf : prs.find? (·.1 == key.toInt) = some (kv, o)) (ho : 0 ≤ (pc0 : Int) + o) (hp : ((pc0 : Int) + o).toNat = pc')
    (hr : Steps p.tables e below (T.setTop { g with pc := pc', stack := rest }) target) : Steps p.tables e below (T.setTop g) target := by
  subst hg hpc hp
  jvm_step X.here [X.here.top, hx, hd, hs, lookupswitch.wp_whole, hso, hf, ho]
  exact ⟨by simpa using hso, hr⟩
theorem lookNo {target : State} (X : Stand p l e R s m args below meth c T locs cells slots) (hx : p.tables.exec = Jvm.exec) (hg : g.method = m) {key : Int32} {rest : List Value} {d : Int} {prs : Array (Int × Int)} {len pc0 pc' : Nat} (hpc : g.pc = pc0) (hd : decode c.code g.pc = .ok (.lookupswitch d prs, len)) (hs : g.stack = .int key :: rest) (hso : (prs.toList.zip (prs.toList.drop 1)).all (fun (a, next) => a.1 < next.1) = true) (hf : prs.find? (·.1 == key.toInt) = none) (ho : 0 ≤ (pc0 : Int) + d) (hp : ((pc0 : Int) + d).toNat = pc')
    (hr : Steps p.tables e below (T.setTop { g with pc := pc', stack := rest }) target) : Steps p.tables e below (T.setTop g) target := by
  subst hg hpc hp
  jvm_step X.here [X.here.top, hx, hd, hs, lookupswitch.wp_whole, hso, hf, ho]
  exact ⟨by simpa using hso, hr⟩
theorem go_cast {r r' : Option Value} {h0 : Heap} (q : r = r') (k : Go p e below s C S (QP r' h0) T g) : Go p e below s C S (QP r h0) T g := q ▸ k
theorem mq_of {y : MethodName} {bytes : ByteArray} {maxL : Nat} {rt : Option FieldType} {ws : List Jvm.Cond} {rm : Room} {as : Array Value} {h0 : Heap} {Q : Option Value → Heap → List Loc → Prop} (hp : plainFor y = true)
    (body : ∀ (p : Program) (e : Env) (s : State) (m : MethodId) (below : List Frame) (meth : Method) (c : Code) (T : State), Stand p l e rm s m as below meth c T [] 0 0 → p.tables.exec = Jvm.exec → c.code = bytes → c.maxLocals = maxL → s.vm.findClass y.cls = some m.cls → meth.name = y.name → Z.Warmed39 s.vm → T.heap = h0 → meth.sig.returnType = rt → meth.locks = false → Go p e below s rm.cells rm.slots Q T (entryFrame m as maxL)) :
    MQ l Z y bytes maxL rt ws rm as h0 Q := by
  refine MetFree.of_bodySF hp hisR ?_
  intro p e s m args below meth c s₁ Bd hml0 hP hK
  obtain ⟨rfl, hZ, hh⟩ := hP
  exact body p e s m below meth c s₁ (Stand.of_body Bd) Bd.exec Bd.bytes hml0 (findClass_of_methodNamed Bd.named) (name_of_methodNamed Bd.named Bd.method).1 hZ (by rw [← hh, Bd.state]; rfl) Bd.returns Bd.notSynchronized
theorem go_retI (X : Stand p l e R s m args below meth c T locs cells slots) (hx : p.tables.exec = Jvm.exec) (hlk : meth.locks = false) (hret : meth.sig.returnType = some .int) {pc : Nat} {Ls : Array Slot} {z : Int32} {rest : List Value} (hd : decode c.code pc = .ok (.ireturn, 1)) (eT : T.heap = h) (hq : Q (some (.int z)) h locs) (hc : cells ≤ C) (hs : slots ≤ S) :
    Go p e below s C S Q T (mkF m pc Ls (.int z :: rest)) := by
  obtain ⟨fs, hr, hrun, hended, hW, hsame⟩ := X.leave (v := some (.int z)) (fun h => by rw [hret] at h; cases h) hlk
  exact ⟨_, _, retOut X hx hret rfl (Or.inl ⟨rfl, Or.inl rfl, z, rfl⟩) hd hr, hrun, hended, _, _, rfl, by (show Q _ T.heap _); rw [eT]; exact hq, ⟨_, rfl⟩, hW, hsame.mono hc hs⟩
theorem go_retZ (X : Stand p l e R s m args below meth c T locs cells slots) (hx : p.tables.exec = Jvm.exec) (hlk : meth.locks = false) (hret : meth.sig.returnType = some .boolean) {pc : Nat} {Ls : Array Slot} {z : Int32} {rest : List Value} (hd : decode c.code pc = .ok (.ireturn, 1)) (eT : T.heap = h) (hq : Q (some (.int (z &&& 1))) h locs) (hc : cells ≤ C) (hs : slots ≤ S) :
    Go p e below s C S Q T (mkF m pc Ls (.int z :: rest)) := by
  obtain ⟨fs, hr, hrun, hended, hW, hsame⟩ := X.leave (v := some (.int (z &&& 1))) (fun h => by rw [hret] at h; cases h) hlk
  exact ⟨_, _, retN X hx (t := .boolean) hret (by simp) hd hr, hrun, hended, _, _, rfl, by (show Q _ T.heap _); rw [eT]; exact hq, ⟨_, rfl⟩, hW, hsame.mono hc hs⟩
theorem go_retJ (X : Stand p l e R s m args below meth c T locs cells slots) (hx : p.tables.exec = Jvm.exec) (hlk : meth.locks = false) (hret : meth.sig.returnType = some .long) {pc : Nat} {Ls : Array Slot} {z : Int64} {rest : List Value} (hd : decode c.code pc = .ok (.lreturn, 1)) (eT : T.heap = h) (hq : Q (some (.long z)) h locs) (hc : cells ≤ C) (hs : slots ≤ S) :
    Go p e below s C S Q T (mkF m pc Ls (.long z :: rest)) := by
  obtain ⟨fs, hr, hrun, hended, hW, hsame⟩ := X.leave (v := some (.long z)) (fun h => by rw [hret] at h; cases h) hlk
  exact ⟨_, _, retOut X hx hret rfl (Or.inr (Or.inl ⟨rfl, rfl, z, rfl⟩)) hd hr, hrun, hended, _, _, rfl, by (show Q _ T.heap _); rw [eT]; exact hq, ⟨_, rfl⟩, hW, hsame.mono hc hs⟩
theorem go_retA (X : Stand p l e R s m args below meth c T locs cells slots) (hx : p.tables.exec = Jvm.exec) (hlk : meth.locks = false) {ty : FieldType} (hret : meth.sig.returnType = some ty) (hty : ty.isReference = true) {pc : Nat} {Ls : Array Slot} {a : Addr} {rest : List Value} (hd : decode c.code pc = .ok (.areturn, 1)) (eT : T.heap = h) (hq : Q (some (.ref a)) h locs) (hc : cells ≤ C) (hs : slots ≤ S) :
    Go p e below s C S Q T (mkF m pc Ls (.ref a :: rest)) := by
  obtain ⟨fs, hr, hrun, hended, hW, hsame⟩ := X.leave (v := some (.ref a)) (fun h => by rw [hret] at h; cases h) hlk
  exact ⟨_, _, retOut X hx hret (by cases ty <;> first | rfl | cases hty) (Or.inr (Or.inr (Or.inr (Or.inr ⟨rfl, hty, rfl⟩)))) hd hr, hrun, hended, _, _, rfl, by (show Q _ T.heap _); rw [eT]; exact hq, ⟨_, rfl⟩, hW, hsame.mono hc hs⟩
theorem go_retV (X : Stand p l e R s m args below meth c T locs cells slots) (hx : p.tables.exec = Jvm.exec) (hlk : meth.locks = false) (hret : meth.sig.returnType = none) {pc : Nat} {Ls : Array Slot} (hd : decode c.code pc = .ok (.return_, 1)) (eT : T.heap = h) (hq : Q none h locs) (hc : cells ≤ C) (hs : slots ≤ S) :
    Go p e below s C S Q T (mkF m pc Ls []) := by
  obtain ⟨fs, hr, hrun, hended, hW, hsame⟩ := X.leave (v := none) (fun _ => rfl) hlk
  exact ⟨_, _, X.returnOut hx hret hd hr, hrun, hended, _, _, rfl, by (show Q _ T.heap _); rw [eT]; exact hq, ⟨_, rfl⟩, hW, hsame.mono hc hs⟩
/-- invokestatic by the callee's contract -/
theorem go_callS (X : Stand p l e R s m args below meth c T locs cells slots) (hx : p.tables.exec = Jvm.exec) (hZ : Z.Warmed39 s.vm) {own : String} {index : Nat} {y : MethodName} {bytes : ByteArray} {maxL : Nat} {rt : Option FieldType} {rm : Room} {as : Array Value} {Q' : Option Value → Heap → List Loc → Prop}
    (hown : s.vm.findClass own = some m.cls) (w1 : (Cond.methodLink own index y).before a0 Z = true) (w2 : (Cond.static y).before a0 Z = true) (w3 : (Cond.initialized y.cls).before a0 Z = true) (w4 : (Cond.code y bytes maxL rt).before a0 Z = true)
    (hy : y.cls ≠ "java/lang/invoke/MethodHandle" ∧ y.cls ≠ "java/lang/invoke/VarHandle") (eT : T.heap = h) (hM : MQ l Z y bytes maxL rt [] rm as h Q') (W : Nat) (hf : rm.frames + 1 ≤ R.frames) (hl : W + (maxL + 11) + rm.locals ≤ R.locals)
    (hg : g.method = m) (hsize : g.locals.size = c.maxLocals) {argsL rest : List Value} (hlen : ∀ sig, parseMethodDescriptor y.desc = some sig → argsL.length = sig.parameters.length)
    (hstack : g.stack = argsL.reverse ++ rest) (hW : 2 * g.monitorRoom + (rest.map fun v => v.category).sum ≤ W) (hdg : decode c.code g.pc = .ok (.invokestatic index, 3)) (has : argsL.toArray = as) (hcells : cells + rm.cells ≤ R.cells) (hslots : slots + rm.slots ≤ R.slots)
    (k : ∀ (T' : State) (v : Option Value) (L : List Loc), Stand p l e R s m args below meth c T' (locs ++ L) (cells + rm.cells) (slots + rm.slots) → Q' v T'.heap L → Go p e below s C S Q T' { g with pc := g.pc + 3, stack := v.toList ++ rest }) :
    Go p e below s C S Q T g := by
  obtain ⟨v, _, ⟨T', L', k', n'⟩, -, X', ⟨Lc, hQ, l1, y1, z1⟩, st⟩ := Jvm.LawKit.callS X hx (y := y) hown (mvT hZ w1) (mvT hZ w2) (mvT hZ w3) (mvT hZ w4) hy (backOf (W := W) hM hZ w4 w3 hf hl) hg hsize (argsL := argsL) (rest := rest) hlen hstack hW hdg (fun _ _ => ⟨has, eT, hcells, hslots⟩)
  dsimp only [Pt.U, Pt.locs, Pt.cells, Pt.slots] at X' l1 y1 z1 st hQ
  subst l1 y1 z1
  exact go_step st (k T' v Lc X' hQ)
theorem go_callSP (X : Stand p l e R s m args below meth c T locs cells slots) (hx : p.tables.exec = Jvm.exec) (hZ : Z.Warmed39 s.vm) {own : String} {index : Nat} {y : MethodName} {bytes : ByteArray} {maxL : Nat} {rt : Option FieldType} {rm : Room} {as : Array Value} {r : Option Value}
    (hown : s.vm.findClass own = some m.cls) (w1 : (Cond.methodLink own index y).before a0 Z = true) (w2 : (Cond.static y).before a0 Z = true) (w3 : (Cond.initialized y.cls).before a0 Z = true) (w4 : (Cond.code y bytes maxL rt).before a0 Z = true)
    (hy : y.cls ≠ "java/lang/invoke/MethodHandle" ∧ y.cls ≠ "java/lang/invoke/VarHandle") (eT : T.heap = h) (hM : MQ l Z y bytes maxL rt [] rm as h (QP r h)) (W : Nat) (hf : rm.frames + 1 ≤ R.frames) (hl : W + (maxL + 11) + rm.locals ≤ R.locals)
    (hg : g.method = m) (hsize : g.locals.size = c.maxLocals) {argsL rest : List Value} (hlen : ∀ sig, parseMethodDescriptor y.desc = some sig → argsL.length = sig.parameters.length)
    (hstack : g.stack = argsL.reverse ++ rest) (hW : 2 * g.monitorRoom + (rest.map fun v => v.category).sum ≤ W) (hdg : decode c.code g.pc = .ok (.invokestatic index, 3)) (has : argsL.toArray = as) (hrc : rm.cells = 0) (hrs : rm.slots = 0) (hcells : cells ≤ R.cells) (hslots : slots ≤ R.slots)
    (k : ∀ (T' : State), Stand p l e R s m args below meth c T' locs cells slots → T'.heap = h → Go p e below s C S Q T' { g with pc := g.pc + 3, stack := r.toList ++ rest }) :
    Go p e below s C S Q T g :=
  go_callS X hx hZ hown w1 w2 w3 w4 hy eT hM W hf hl hg hsize hlen hstack hW hdg has (by rw [hrc]; exact hcells) (by rw [hrs]; exact hslots) fun T' v L X' hQ => by
    obtain ⟨rfl, e', rfl⟩ := hQ
    rw [hrc, hrs, List.append_nil] at X'
    exact k T' X' e'
end Layer

theorem pd_0 : parseMethodDescriptor "(I)Z" = some ⟨[.int], some .boolean⟩ := by decide +kernel
theorem d1_0 : decode prog_38_method_13_code 0 = .ok (.iload_n 0, 1) := by decide +kernel
theorem d1_1 : decode prog_38_method_13_code 1 = .ok (.lookupswitch 88 #[(34, 83), (60, 83), (62, 83), (92, 83), (94, 83), (96, 83), (123, 83), (124, 83), (125, 83)], 83) := by decide +kernel
theorem d1_84 : decode prog_38_method_13_code 84 = .ok (.iconst 1, 1) := by decide +kernel
theorem d1_85 : decode prog_38_method_13_code 85 = .ok (.istore_n 1, 1) := by decide +kernel
theorem d1_86 : decode prog_38_method_13_code 86 = .ok (.goto 15, 3) := by decide +kernel
theorem d1_89 : decode prog_38_method_13_code 89 = .ok (.iload_n 0, 1) := by decide +kernel
theorem d1_90 : decode prog_38_method_13_code 90 = .ok (.bipush 32, 2) := by decide +kernel
theorem d1_92 : decode prog_38_method_13_code 92 = .ok (.if_icmp .gt 7, 3) := by decide +kernel
theorem d1_95 : decode prog_38_method_13_code 95 = .ok (.iconst 1, 1) := by decide +kernel
theorem d1_96 : decode prog_38_method_13_code 96 = .ok (.goto 4, 3) := by decide +kernel
theorem d1_99 : decode prog_38_method_13_code 99 = .ok (.iconst 0, 1) := by decide +kernel
theorem d1_100 : decode prog_38_method_13_code 100 = .ok (.istore_n 1, 1) := by decide +kernel
theorem d1_101 : decode prog_38_method_13_code 101 = .ok (.iload_n 1, 1) := by decide +kernel
theorem d1_102 : decode prog_38_method_13_code 102 = .ok (.ireturn, 1) := by decide +kernel
def f1_84 (v0 : Int32) : Int32 := (1 : Int32)
set_option maxRecDepth 65536 in
set_option maxHeartbeats 4000000 in
theorem b1_84 {p : Program} {l : Launch} {e : Env} {s : State} {m : MethodId} {args : Array Value} {below : List Frame} {meth : Method} {c : Code} {T0 : State} {Z : State} {a0 : Array Value} {h0 : Heap} {locs : List Loc} {cells slots : Nat} {Q : Option Value → Heap → List Loc → Prop} (hw : ∀ d ∈ tables_1, d.before a0 Z = true) (hx : p.tables.exec = Jvm.exec) (hby : c.code = prog_38_method_13_code) (hml : c.maxLocals = 2) (hown : s.vm.findClass "com/example/muset/muset/rdf/Terminals" = some m.cls) (hZ : Z.Warmed39 s.vm) (hret : meth.sig.returnType = some .boolean) (hlk : meth.locks = false) (X0 : Stand p l e ({ frames := 0, cells := 0, slots := 0, locals := 0 } : Room) s m args below meth c T0 locs cells slots) (e0 : T0.heap = h0) (hc : cells ≤ ({ frames := 0, cells := 0, slots := 0, locals := 0 } : Room).cells) (hs : slots ≤ ({ frames := 0, cells := 0, slots := 0, locals := 0 } : Room).slots) (v0 : Int32) (hq : Q (some (.int (f1_84 v0))) h0 locs) :
    Go p e below s ({ frames := 0, cells := 0, slots := 0, locals := 0 } : Room).cells ({ frames := 0, cells := 0, slots := 0, locals := 0 } : Room).slots Q T0 (mkF m 84 #[.val (.int v0), .unset] []) := by
  unfold f1_84 at hq
  refine go_step (T' := T0) (g' := (mkF m 85 #[.val (.int v0), .unset] [(.int (1 : Int32))])) (fun t k => XS.iconst X0.here hx rfl (hb hby d1_84) k) ?_
  refine go_step (T' := T0) (g' := (mkF m 86 #[.val (.int v0), .val (.int (1 : Int32))] [])) (fun t k => XS.istoreN X0.here hx rfl (hb hby d1_85) rfl (l' := #[.val (.int v0), .val (.int (1 : Int32))]) rfl k) ?_
  refine go_step (T' := T0) (g' := (mkF m 101 #[.val (.int v0), .val (.int (1 : Int32))] [])) (fun t k => XS.goto X0.here hx rfl (pc0 := 86) (pc' := 101) rfl (hb hby d1_86) (by decide) (by decide) k) ?_
  refine go_step (T' := T0) (g' := (mkF m 102 #[.val (.int v0), .val (.int (1 : Int32))] [(.int (1 : Int32))])) (fun t k => XS.iloadN X0.here hx rfl (hb hby d1_101) rfl  k) ?_
  exact go_retZ X0 hx hlk hret (hb hby d1_102) e0 hq hc hs
def f1_0 (v0 : Int32) : Int32 := (if v0 = (34 : Int32) then (f1_84 v0) else (if v0 = (60 : Int32) then (f1_84 v0) else (if v0 = (62 : Int32) then (f1_84 v0) else (if v0 = (92 : Int32) then (f1_84 v0) else (if v0 = (94 : Int32) then (f1_84 v0) else (if v0 = (96 : Int32) then (f1_84 v0) else (if v0 = (123 : Int32) then (f1_84 v0) else (if v0 = (124 : Int32) then (f1_84 v0) else (if v0 = (125 : Int32) then (f1_84 v0) else (if (32 : Int32) < v0 then (0 : Int32) else (1 : Int32)))))))))))
set_option maxRecDepth 65536 in
set_option maxHeartbeats 4000000 in
theorem b1_0 {p : Program} {l : Launch} {e : Env} {s : State} {m : MethodId} {args : Array Value} {below : List Frame} {meth : Method} {c : Code} {T0 : State} {Z : State} {a0 : Array Value} {h0 : Heap} {locs : List Loc} {cells slots : Nat} {Q : Option Value → Heap → List Loc → Prop} (hw : ∀ d ∈ tables_1, d.before a0 Z = true) (hx : p.tables.exec = Jvm.exec) (hby : c.code = prog_38_method_13_code) (hml : c.maxLocals = 2) (hown : s.vm.findClass "com/example/muset/muset/rdf/Terminals" = some m.cls) (hZ : Z.Warmed39 s.vm) (hret : meth.sig.returnType = some .boolean) (hlk : meth.locks = false) (X0 : Stand p l e ({ frames := 0, cells := 0, slots := 0, locals := 0 } : Room) s m args below meth c T0 locs cells slots) (e0 : T0.heap = h0) (hc : cells ≤ ({ frames := 0, cells := 0, slots := 0, locals := 0 } : Room).cells) (hs : slots ≤ ({ frames := 0, cells := 0, slots := 0, locals := 0 } : Room).slots) (v0 : Int32) (hq : Q (some (.int (f1_0 v0))) h0 locs) :
    Go p e below s ({ frames := 0, cells := 0, slots := 0, locals := 0 } : Room).cells ({ frames := 0, cells := 0, slots := 0, locals := 0 } : Room).slots Q T0 (mkF m 0 #[.val (.int v0), .unset] []) := by
  unfold f1_0 at hq
  refine go_step (T' := T0) (g' := (mkF m 1 #[.val (.int v0), .unset] [(.int v0)])) (fun t k => XS.iloadN X0.here hx rfl (hb hby d1_0) rfl  k) ?_
  by_cases hk1 : v0 = (34 : Int32)
  · rw [if_pos hk1] at hq
    refine go_step (T' := T0) (g' := (mkF m 84 #[.val (.int v0), .unset] [])) (fun t k => lookYes X0 hx rfl (kv := 34) (o := 83) (pc0 := 1) (pc' := 84) rfl (hb hby d1_1) rfl (by decide) (by rw [hk1]; decide +kernel) (by decide) (by decide) k) ?_
    exact b1_84 hw hx hby hml hown hZ hret hlk X0 e0 hc hs v0 hq
  · rw [if_neg hk1] at hq
    by_cases hk2 : v0 = (60 : Int32)
    · rw [if_pos hk2] at hq
      refine go_step (T' := T0) (g' := (mkF m 84 #[.val (.int v0), .unset] [])) (fun t k => lookYes X0 hx rfl (kv := 60) (o := 83) (pc0 := 1) (pc' := 84) rfl (hb hby d1_1) rfl (by decide) (by rw [hk2]; decide +kernel) (by decide) (by decide) k) ?_
      exact b1_84 hw hx hby hml hown hZ hret hlk X0 e0 hc hs v0 hq
    · rw [if_neg hk2] at hq
      by_cases hk3 : v0 = (62 : Int32)
      · rw [if_pos hk3] at hq
        refine go_step (T' := T0) (g' := (mkF m 84 #[.val (.int v0), .unset] [])) (fun t k => lookYes X0 hx rfl (kv := 62) (o := 83) (pc0 := 1) (pc' := 84) rfl (hb hby d1_1) rfl (by decide) (by rw [hk3]; decide +kernel) (by decide) (by decide) k) ?_
        exact b1_84 hw hx hby hml hown hZ hret hlk X0 e0 hc hs v0 hq
      · rw [if_neg hk3] at hq
        by_cases hk4 : v0 = (92 : Int32)
        · rw [if_pos hk4] at hq
          refine go_step (T' := T0) (g' := (mkF m 84 #[.val (.int v0), .unset] [])) (fun t k => lookYes X0 hx rfl (kv := 92) (o := 83) (pc0 := 1) (pc' := 84) rfl (hb hby d1_1) rfl (by decide) (by rw [hk4]; decide +kernel) (by decide) (by decide) k) ?_
          exact b1_84 hw hx hby hml hown hZ hret hlk X0 e0 hc hs v0 hq
        · rw [if_neg hk4] at hq
          by_cases hk5 : v0 = (94 : Int32)
          · rw [if_pos hk5] at hq
            refine go_step (T' := T0) (g' := (mkF m 84 #[.val (.int v0), .unset] [])) (fun t k => lookYes X0 hx rfl (kv := 94) (o := 83) (pc0 := 1) (pc' := 84) rfl (hb hby d1_1) rfl (by decide) (by rw [hk5]; decide +kernel) (by decide) (by decide) k) ?_
            exact b1_84 hw hx hby hml hown hZ hret hlk X0 e0 hc hs v0 hq
          · rw [if_neg hk5] at hq
            by_cases hk6 : v0 = (96 : Int32)
            · rw [if_pos hk6] at hq
              refine go_step (T' := T0) (g' := (mkF m 84 #[.val (.int v0), .unset] [])) (fun t k => lookYes X0 hx rfl (kv := 96) (o := 83) (pc0 := 1) (pc' := 84) rfl (hb hby d1_1) rfl (by decide) (by rw [hk6]; decide +kernel) (by decide) (by decide) k) ?_
              exact b1_84 hw hx hby hml hown hZ hret hlk X0 e0 hc hs v0 hq
            · rw [if_neg hk6] at hq
              by_cases hk7 : v0 = (123 : Int32)
              · rw [if_pos hk7] at hq
                refine go_step (T' := T0) (g' := (mkF m 84 #[.val (.int v0), .unset] [])) (fun t k => lookYes X0 hx rfl (kv := 123) (o := 83) (pc0 := 1) (pc' := 84) rfl (hb hby d1_1) rfl (by decide) (by rw [hk7]; decide +kernel) (by decide) (by decide) k) ?_
                exact b1_84 hw hx hby hml hown hZ hret hlk X0 e0 hc hs v0 hq
              · rw [if_neg hk7] at hq
                by_cases hk8 : v0 = (124 : Int32)
                · rw [if_pos hk8] at hq
                  refine go_step (T' := T0) (g' := (mkF m 84 #[.val (.int v0), .unset] [])) (fun t k => lookYes X0 hx rfl (kv := 124) (o := 83) (pc0 := 1) (pc' := 84) rfl (hb hby d1_1) rfl (by decide) (by rw [hk8]; decide +kernel) (by decide) (by decide) k) ?_
                  exact b1_84 hw hx hby hml hown hZ hret hlk X0 e0 hc hs v0 hq
                · rw [if_neg hk8] at hq
                  by_cases hk9 : v0 = (125 : Int32)
                  · rw [if_pos hk9] at hq
                    refine go_step (T' := T0) (g' := (mkF m 84 #[.val (.int v0), .unset] [])) (fun t k => lookYes X0 hx rfl (kv := 125) (o := 83) (pc0 := 1) (pc' := 84) rfl (hb hby d1_1) rfl (by decide) (by rw [hk9]; decide +kernel) (by decide) (by decide) k) ?_
                    exact b1_84 hw hx hby hml hown hZ hret hlk X0 e0 hc hs v0 hq
                  · rw [if_neg hk9] at hq
                    have hmiss1 : (#[(34, 83), (60, 83), (62, 83), (92, 83), (94, 83), (96, 83), (123, 83), (124, 83), (125, 83)] : Array (Int × Int)).find? (·.1 == (v0).toInt) = none := by
                      refine find_miss fun q hq => ?_
                      simp only [List.mem_cons, List.not_mem_nil, or_false] at hq
                      rcases hq with rfl | rfl | rfl | rfl | rfl | rfl | rfl | rfl | rfl
                      · exact fun z => hk1 (Int32.toInt_inj.mp (z.symm.trans (by decide)))
                      · exact fun z => hk2 (Int32.toInt_inj.mp (z.symm.trans (by decide)))
                      · exact fun z => hk3 (Int32.toInt_inj.mp (z.symm.trans (by decide)))
                      · exact fun z => hk4 (Int32.toInt_inj.mp (z.symm.trans (by decide)))
                      · exact fun z => hk5 (Int32.toInt_inj.mp (z.symm.trans (by decide)))
                      · exact fun z => hk6 (Int32.toInt_inj.mp (z.symm.trans (by decide)))
                      · exact fun z => hk7 (Int32.toInt_inj.mp (z.symm.trans (by decide)))
                      · exact fun z => hk8 (Int32.toInt_inj.mp (z.symm.trans (by decide)))
                      · exact fun z => hk9 (Int32.toInt_inj.mp (z.symm.trans (by decide)))
                    refine go_step (T' := T0) (g' := (mkF m 89 #[.val (.int v0), .unset] [])) (fun t k => lookNo X0 hx rfl (pc0 := 1) (pc' := 89) rfl (hb hby d1_1) rfl (by decide) hmiss1 (by decide) (by decide) k) ?_
                    refine go_step (T' := T0) (g' := (mkF m 90 #[.val (.int v0), .unset] [(.int v0)])) (fun t k => XS.iloadN X0.here hx rfl (hb hby d1_89) rfl  k) ?_
                    refine go_step (T' := T0) (g' := (mkF m 92 #[.val (.int v0), .unset] [(.int (32 : Int32)), (.int v0)])) (fun t k => XS.bipush X0.here hx rfl (hb hby d1_90) k) ?_
                    by_cases hc0 : (32 : Int32) < v0
                    · rw [if_pos hc0] at hq
                      refine go_step (T' := T0) (g' := (mkF m 99 #[.val (.int v0), .unset] [])) (fun t k => XS.icmpYes X0.here hx rfl (pc0 := 92) (pc' := 99) rfl (hb hby d1_92) rfl (tlt hc0).2.2.1 (by decide) (by decide) k) ?_
                      refine go_step (T' := T0) (g' := (mkF m 100 #[.val (.int v0), .unset] [(.int (0 : Int32))])) (fun t k => XS.iconst X0.here hx rfl (hb hby d1_99) k) ?_
                      refine go_step (T' := T0) (g' := (mkF m 101 #[.val (.int v0), .val (.int (0 : Int32))] [])) (fun t k => XS.istoreN X0.here hx rfl (hb hby d1_100) rfl (l' := #[.val (.int v0), .val (.int (0 : Int32))]) rfl k) ?_
                      refine go_step (T' := T0) (g' := (mkF m 102 #[.val (.int v0), .val (.int (0 : Int32))] [(.int (0 : Int32))])) (fun t k => XS.iloadN X0.here hx rfl (hb hby d1_101) rfl  k) ?_
                      exact go_retZ X0 hx hlk hret (hb hby d1_102) e0 hq hc hs
                    · rw [if_neg hc0] at hq
                      refine go_step (T' := T0) (g' := (mkF m 95 #[.val (.int v0), .unset] [])) (fun t k => XS.icmpNo X0.here hx rfl (hb hby d1_92) rfl (flt hc0).2.2.1 k) ?_
                      refine go_step (T' := T0) (g' := (mkF m 96 #[.val (.int v0), .unset] [(.int (1 : Int32))])) (fun t k => XS.iconst X0.here hx rfl (hb hby d1_95) k) ?_
                      refine go_step (T' := T0) (g' := (mkF m 100 #[.val (.int v0), .unset] [(.int (1 : Int32))])) (fun t k => XS.goto X0.here hx rfl (pc0 := 96) (pc' := 100) rfl (hb hby d1_96) (by decide) (by decide) k) ?_
                      refine go_step (T' := T0) (g' := (mkF m 101 #[.val (.int v0), .val (.int (1 : Int32))] [])) (fun t k => XS.istoreN X0.here hx rfl (hb hby d1_100) rfl (l' := #[.val (.int v0), .val (.int (1 : Int32))]) rfl k) ?_
                      refine go_step (T' := T0) (g' := (mkF m 102 #[.val (.int v0), .val (.int (1 : Int32))] [(.int (1 : Int32))])) (fun t k => XS.iloadN X0.here hx rfl (hb hby d1_101) rfl  k) ?_
                      exact go_retZ X0 hx hlk hret (hb hby d1_102) e0 hq hc hs
theorem ef1 (m : MethodId) (v0 : Int32) : entryFrame m #[(.int v0)] 2 = (mkF m 0 #[.val (.int v0), .unset] []) := by first | (simp [entryFrame, mkF, argsToLocals, Value.category]; done) | rfl
theorem pn1 : plainName "com/example/muset/muset/rdf/Terminals" = true := by first | (simp [plainName, overriddenIn]; done) | decide +kernel
set_option maxRecDepth 65536 in
theorem mq1 (l : Launch) (Z : State) (a0 : Array Value) (hw : ∀ d ∈ tables_1, d.before a0 Z = true) (v0 : Int32) (h0 : Heap) : MQ l Z (⟨"com/example/muset/muset/rdf/Terminals", "isForbiddenInIri", "(I)Z"⟩ : MethodName) prog_38_method_13_code 2 (some .boolean) [] ({ frames := 0, cells := 0, slots := 0, locals := 0 } : Room) #[(.int v0)] h0 (QP (some (.int (f1_0 v0))) h0) := by
  refine mq_of (plainFor_of_name pn1) ?_
  intro p e s m below meth c T0 X0 hx hby hml hown hnm hZ e0 hret hlk
  rw [ef1]
  exact b1_0 hw hx hby hml hown hZ hret hlk X0 e0 (Nat.zero_le _) (Nat.zero_le _) v0 ⟨rfl, rfl, rfl⟩
def f0_77 (v0 : Int32) (v1 : Int64) (v3 : Int64) (v5 : Int32) : Int32 := (if (f1_0 v0) = v5 then (1 : Int32) else (0 : Int32))
set_option maxRecDepth 65536 in
set_option maxHeartbeats 4000000 in
theorem b0_77 {p : Program} {l : Launch} {e : Env} {s : State} {m : MethodId} {args : Array Value} {below : List Frame} {meth : Method} {c : Code} {T0 : State} {Z : State} {a0 : Array Value} {h0 : Heap} {locs : List Loc} {cells slots : Nat} {Q : Option Value → Heap → List Loc → Prop} (hw : ∀ d ∈ tables_1, d.before a0 Z = true) (hx : p.tables.exec = Jvm.exec) (hby : c.code = code) (hml : c.maxLocals = 6) (hown : s.vm.findClass "com/example/muset/muset/rdf/TerminalsIsForbiddenInIriPinLaw" = some m.cls) (hZ : Z.Warmed39 s.vm) (hret : meth.sig.returnType = some .boolean) (hlk : meth.locks = false) (X0 : Stand p l e room_1 s m args below meth c T0 locs cells slots) (e0 : T0.heap = h0) (hc : cells ≤ room_1.cells) (hs : slots ≤ room_1.slots) (v0 : Int32) (v1 : Int64) (v3 : Int64) (v5 : Int32) (hq : Q (some (.int (f0_77 v0 v1 v3 v5))) h0 locs) :
    Go p e below s room_1.cells room_1.slots Q T0 (mkF m 77 #[.val (.int v0), .val (.long v1), .second, .val (.long v3), .second, .val (.int v5)] []) := by
  unfold f0_77 at hq
  refine go_step (T' := T0) (g' := (mkF m 78 #[.val (.int v0), .val (.long v1), .second, .val (.long v3), .second, .val (.int v5)] [(.int v0)])) (fun t k => XS.iloadN X0.here hx rfl (hb hby at_77) rfl  k) ?_
  refine go_callSP X0 hx hZ hown (hw _ (List.mem_of_getElem? (i := 2) rfl)) (hw _ (List.mem_of_getElem? (i := 3) rfl)) (hw _ (List.mem_of_getElem? (i := 4) rfl)) (hw _ (List.mem_of_getElem? (i := 5) rfl)) (by decide) e0 (mq1 l Z a0 hw v0 h0) 0 (by decide) (by decide) (g := (mkF m 78 #[.val (.int v0), .val (.long v1), .second, .val (.long v3), .second, .val (.int v5)] [(.int v0)])) rfl (by rw [hml]; rfl) (argsL := [(.int v0)]) (rest := []) (lenOf pd_0 rfl) rfl (by show 2 * 0 + _ ≤ _; exact Nat.le_of_eq rfl) (hb hby at_78) rfl rfl rfl hc hs (fun T1 X1 e1 => ?_)
  show Go p e below s _ _ _ T1 (mkF m 81 #[.val (.int v0), .val (.long v1), .second, .val (.long v3), .second, .val (.int v5)] [(.int (f1_0 v0))])
  refine go_step (T' := T1) (g' := (mkF m 83 #[.val (.int v0), .val (.long v1), .second, .val (.long v3), .second, .val (.int v5)] [(.int v5), (.int (f1_0 v0))])) (fun t k => XS.iload X1.here hx rfl (hb hby at_81) rfl  k) ?_
  by_cases hc1 : (f1_0 v0) = v5
  · rw [if_pos hc1] at hq
    refine go_step (T' := T1) (g' := (mkF m 86 #[.val (.int v0), .val (.long v1), .second, .val (.long v3), .second, .val (.int v5)] [])) (fun t k => XS.icmpNo X1.here hx rfl (hb hby at_83) rfl (teq hc1).2 k) ?_
    refine go_step (T' := T1) (g' := (mkF m 87 #[.val (.int v0), .val (.long v1), .second, .val (.long v3), .second, .val (.int v5)] [(.int (1 : Int32))])) (fun t k => XS.iconst X1.here hx rfl (hb hby at_86) k) ?_
    refine go_step (T' := T1) (g' := (mkF m 91 #[.val (.int v0), .val (.long v1), .second, .val (.long v3), .second, .val (.int v5)] [(.int (1 : Int32))])) (fun t k => XS.goto X1.here hx rfl (pc0 := 87) (pc' := 91) rfl (hb hby at_87) (by decide) (by decide) k) ?_
    exact go_retZ X1 hx hlk hret (hb hby at_91) e1 hq hc hs
  · rw [if_neg hc1] at hq
    refine go_step (T' := T1) (g' := (mkF m 90 #[.val (.int v0), .val (.long v1), .second, .val (.long v3), .second, .val (.int v5)] [])) (fun t k => XS.icmpYes X1.here hx rfl (pc0 := 83) (pc' := 90) rfl (hb hby at_83) rfl (feq hc1).2 (by decide) (by decide) k) ?_
    refine go_step (T' := T1) (g' := (mkF m 91 #[.val (.int v0), .val (.long v1), .second, .val (.long v3), .second, .val (.int v5)] [(.int (0 : Int32))])) (fun t k => XS.iconst X1.here hx rfl (hb hby at_90) k) ?_
    exact go_retZ X1 hx hlk hret (hb hby at_91) e1 hq hc hs
def f0_69 (v0 : Int32) (v1 : Int64) (v3 : Int64) (t0 : Int32) : Int32 := (f0_77 v0 v1 v3 t0)
set_option maxRecDepth 65536 in
set_option maxHeartbeats 4000000 in
theorem b0_69 {p : Program} {l : Launch} {e : Env} {s : State} {m : MethodId} {args : Array Value} {below : List Frame} {meth : Method} {c : Code} {T0 : State} {Z : State} {a0 : Array Value} {h0 : Heap} {locs : List Loc} {cells slots : Nat} {Q : Option Value → Heap → List Loc → Prop} (hw : ∀ d ∈ tables_1, d.before a0 Z = true) (hx : p.tables.exec = Jvm.exec) (hby : c.code = code) (hml : c.maxLocals = 6) (hown : s.vm.findClass "com/example/muset/muset/rdf/TerminalsIsForbiddenInIriPinLaw" = some m.cls) (hZ : Z.Warmed39 s.vm) (hret : meth.sig.returnType = some .boolean) (hlk : meth.locks = false) (X0 : Stand p l e room_1 s m args below meth c T0 locs cells slots) (e0 : T0.heap = h0) (hc : cells ≤ room_1.cells) (hs : slots ≤ room_1.slots) (v0 : Int32) (v1 : Int64) (v3 : Int64) (t0 : Int32) (hq : Q (some (.int (f0_69 v0 v1 v3 t0))) h0 locs) :
    Go p e below s room_1.cells room_1.slots Q T0 (mkF m 69 #[.val (.int v0), .val (.long v1), .second, .val (.long v3), .second, .unset] [(.int t0)]) := by
  unfold f0_69 at hq
  refine go_step (T' := T0) (g' := (mkF m 71 #[.val (.int v0), .val (.long v1), .second, .val (.long v3), .second, .val (.int t0)] [])) (fun t k => XS.istore X0.here hx rfl (hb hby at_69) rfl (l' := #[.val (.int v0), .val (.long v1), .second, .val (.long v3), .second, .val (.int t0)]) rfl k) ?_
  refine go_step (T' := T0) (g' := (mkF m 77 #[.val (.int v0), .val (.long v1), .second, .val (.long v3), .second, .val (.int t0)] [])) (fun t k => XS.goto X0.here hx rfl (pc0 := 71) (pc' := 77) rfl (hb hby at_71) (by decide) (by decide) k) ?_
  exact b0_77 hw hx hby hml hown hZ hret hlk X0 e0 hc hs v0 v1 v3 t0 hq
def f0_39 (v0 : Int32) (v1 : Int64) (v3 : Int64) (t0 : Int32) : Int32 := (f0_77 v0 v1 v3 t0)
set_option maxRecDepth 65536 in
set_option maxHeartbeats 4000000 in
theorem b0_39 {p : Program} {l : Launch} {e : Env} {s : State} {m : MethodId} {args : Array Value} {below : List Frame} {meth : Method} {c : Code} {T0 : State} {Z : State} {a0 : Array Value} {h0 : Heap} {locs : List Loc} {cells slots : Nat} {Q : Option Value → Heap → List Loc → Prop} (hw : ∀ d ∈ tables_1, d.before a0 Z = true) (hx : p.tables.exec = Jvm.exec) (hby : c.code = code) (hml : c.maxLocals = 6) (hown : s.vm.findClass "com/example/muset/muset/rdf/TerminalsIsForbiddenInIriPinLaw" = some m.cls) (hZ : Z.Warmed39 s.vm) (hret : meth.sig.returnType = some .boolean) (hlk : meth.locks = false) (X0 : Stand p l e room_1 s m args below meth c T0 locs cells slots) (e0 : T0.heap = h0) (hc : cells ≤ room_1.cells) (hs : slots ≤ room_1.slots) (v0 : Int32) (v1 : Int64) (v3 : Int64) (t0 : Int32) (hq : Q (some (.int (f0_39 v0 v1 v3 t0))) h0 locs) :
    Go p e below s room_1.cells room_1.slots Q T0 (mkF m 39 #[.val (.int v0), .val (.long v1), .second, .val (.long v3), .second, .unset] [(.int t0)]) := by
  unfold f0_39 at hq
  refine go_step (T' := T0) (g' := (mkF m 41 #[.val (.int v0), .val (.long v1), .second, .val (.long v3), .second, .val (.int t0)] [])) (fun t k => XS.istore X0.here hx rfl (hb hby at_39) rfl (l' := #[.val (.int v0), .val (.long v1), .second, .val (.long v3), .second, .val (.int t0)]) rfl k) ?_
  refine go_step (T' := T0) (g' := (mkF m 77 #[.val (.int v0), .val (.long v1), .second, .val (.long v3), .second, .val (.int t0)] [])) (fun t k => XS.goto X0.here hx rfl (pc0 := 41) (pc' := 77) rfl (hb hby at_41) (by decide) (by decide) k) ?_
  exact b0_77 hw hx hby hml hown hZ hret hlk X0 e0 hc hs v0 v1 v3 t0 hq
def f0_0 (v0 : Int32) : Int32 := (if v0 < (0 : Int32) then (f0_77 v0 (5764607548804038655 : Int64) (4035225271761108992 : Int64) (1 : Int32)) else (if v0 < (64 : Int32) then (if ((ushL (5764607548804038655 : Int64) v0) &&& (1 : Int64)) = (0 : Int64) then (f0_39 v0 (5764607548804038655 : Int64) (4035225271761108992 : Int64) (0 : Int32)) else (f0_39 v0 (5764607548804038655 : Int64) (4035225271761108992 : Int64) (1 : Int32))) else (if v0 < (128 : Int32) then (if ((ushL (4035225271761108992 : Int64) (v0 - (64 : Int32))) &&& (1 : Int64)) = (0 : Int64) then (f0_69 v0 (5764607548804038655 : Int64) (4035225271761108992 : Int64) (0 : Int32)) else (f0_69 v0 (5764607548804038655 : Int64) (4035225271761108992 : Int64) (1 : Int32))) else (f0_77 v0 (5764607548804038655 : Int64) (4035225271761108992 : Int64) (0 : Int32)))))
set_option maxRecDepth 65536 in
set_option maxHeartbeats 4000000 in
theorem b0_0 {p : Program} {l : Launch} {e : Env} {s : State} {m : MethodId} {args : Array Value} {below : List Frame} {meth : Method} {c : Code} {T0 : State} {Z : State} {a0 : Array Value} {h0 : Heap} {locs : List Loc} {cells slots : Nat} {Q : Option Value → Heap → List Loc → Prop} (hw : ∀ d ∈ tables_1, d.before a0 Z = true) (hx : p.tables.exec = Jvm.exec) (hby : c.code = code) (hml : c.maxLocals = 6) (hown : s.vm.findClass "com/example/muset/muset/rdf/TerminalsIsForbiddenInIriPinLaw" = some m.cls) (hZ : Z.Warmed39 s.vm) (hret : meth.sig.returnType = some .boolean) (hlk : meth.locks = false) (X0 : Stand p l e room_1 s m args below meth c T0 locs cells slots) (e0 : T0.heap = h0) (hc : cells ≤ room_1.cells) (hs : slots ≤ room_1.slots) (v0 : Int32) (hq : Q (some (.int (f0_0 v0))) h0 locs) :
    Go p e below s room_1.cells room_1.slots Q T0 (mkF m 0 #[.val (.int v0), .unset, .unset, .unset, .unset, .unset] []) := by
  unfold f0_0 at hq
  refine go_step (T' := T0) (g' := (mkF m 3 #[.val (.int v0), .unset, .unset, .unset, .unset, .unset] [(.long (5764607548804038655 : Int64))])) (X0.ldc2Long hx hown (mvT hZ (hw _ (List.mem_of_getElem? (i := 0) rfl))) (g := (mkF m 0 #[.val (.int v0), .unset, .unset, .unset, .unset, .unset] [])) rfl (hb hby at_0)) ?_
  refine go_step (T' := T0) (g' := (mkF m 4 #[.val (.int v0), .val (.long (5764607548804038655 : Int64)), .second, .unset, .unset, .unset] [])) (fun t k => XS.lstoreN X0.here hx rfl (hb hby at_3) rfl (l' := #[.val (.int v0), .val (.long (5764607548804038655 : Int64)), .second, .unset, .unset, .unset]) rfl k) ?_
  refine go_step (T' := T0) (g' := (mkF m 7 #[.val (.int v0), .val (.long (5764607548804038655 : Int64)), .second, .unset, .unset, .unset] [(.long (4035225271761108992 : Int64))])) (X0.ldc2Long hx hown (mvT hZ (hw _ (List.mem_of_getElem? (i := 1) rfl))) (g := (mkF m 4 #[.val (.int v0), .val (.long (5764607548804038655 : Int64)), .second, .unset, .unset, .unset] [])) rfl (hb hby at_4)) ?_
  refine go_step (T' := T0) (g' := (mkF m 8 #[.val (.int v0), .val (.long (5764607548804038655 : Int64)), .second, .val (.long (4035225271761108992 : Int64)), .second, .unset] [])) (fun t k => XS.lstoreN X0.here hx rfl (hb hby at_7) rfl (l' := #[.val (.int v0), .val (.long (5764607548804038655 : Int64)), .second, .val (.long (4035225271761108992 : Int64)), .second, .unset]) rfl k) ?_
  refine go_step (T' := T0) (g' := (mkF m 9 #[.val (.int v0), .val (.long (5764607548804038655 : Int64)), .second, .val (.long (4035225271761108992 : Int64)), .second, .unset] [(.int v0)])) (fun t k => XS.iloadN X0.here hx rfl (hb hby at_8) rfl  k) ?_
  by_cases hc0 : v0 < (0 : Int32)
  · rw [if_pos hc0] at hq
    refine go_step (T' := T0) (g' := (mkF m 12 #[.val (.int v0), .val (.long (5764607548804038655 : Int64)), .second, .val (.long (4035225271761108992 : Int64)), .second, .unset] [])) (fun t k => XS.ifNo X0.here hx rfl (hb hby at_9) rfl ((if0 _ _).trans (tlt hc0).2.1) k) ?_
    refine go_step (T' := T0) (g' := (mkF m 13 #[.val (.int v0), .val (.long (5764607548804038655 : Int64)), .second, .val (.long (4035225271761108992 : Int64)), .second, .unset] [(.int (1 : Int32))])) (fun t k => XS.iconst X0.here hx rfl (hb hby at_12) k) ?_
    refine go_step (T' := T0) (g' := (mkF m 15 #[.val (.int v0), .val (.long (5764607548804038655 : Int64)), .second, .val (.long (4035225271761108992 : Int64)), .second, .val (.int (1 : Int32))] [])) (fun t k => XS.istore X0.here hx rfl (hb hby at_13) rfl (l' := #[.val (.int v0), .val (.long (5764607548804038655 : Int64)), .second, .val (.long (4035225271761108992 : Int64)), .second, .val (.int (1 : Int32))]) rfl k) ?_
    refine go_step (T' := T0) (g' := (mkF m 77 #[.val (.int v0), .val (.long (5764607548804038655 : Int64)), .second, .val (.long (4035225271761108992 : Int64)), .second, .val (.int (1 : Int32))] [])) (fun t k => XS.goto X0.here hx rfl (pc0 := 15) (pc' := 77) rfl (hb hby at_15) (by decide) (by decide) k) ?_
    exact b0_77 hw hx hby hml hown hZ hret hlk X0 e0 hc hs v0 (5764607548804038655 : Int64) (4035225271761108992 : Int64) (1 : Int32) hq
  · rw [if_neg hc0] at hq
    refine go_step (T' := T0) (g' := (mkF m 18 #[.val (.int v0), .val (.long (5764607548804038655 : Int64)), .second, .val (.long (4035225271761108992 : Int64)), .second, .unset] [])) (fun t k => XS.ifYes X0.here hx rfl (pc0 := 9) (pc' := 18) rfl (hb hby at_9) rfl ((if0 _ _).trans (flt hc0).2.1) (by decide) (by decide) k) ?_
    refine go_step (T' := T0) (g' := (mkF m 19 #[.val (.int v0), .val (.long (5764607548804038655 : Int64)), .second, .val (.long (4035225271761108992 : Int64)), .second, .unset] [(.int v0)])) (fun t k => XS.iloadN X0.here hx rfl (hb hby at_18) rfl  k) ?_
    refine go_step (T' := T0) (g' := (mkF m 21 #[.val (.int v0), .val (.long (5764607548804038655 : Int64)), .second, .val (.long (4035225271761108992 : Int64)), .second, .unset] [(.int (64 : Int32)), (.int v0)])) (fun t k => XS.bipush X0.here hx rfl (hb hby at_19) k) ?_
    by_cases hc1 : v0 < (64 : Int32)
    · rw [if_pos hc1] at hq
      refine go_step (T' := T0) (g' := (mkF m 24 #[.val (.int v0), .val (.long (5764607548804038655 : Int64)), .second, .val (.long (4035225271761108992 : Int64)), .second, .unset] [])) (fun t k => XS.icmpNo X0.here hx rfl (hb hby at_21) rfl (tlt hc1).2.1 k) ?_
      refine go_step (T' := T0) (g' := (mkF m 25 #[.val (.int v0), .val (.long (5764607548804038655 : Int64)), .second, .val (.long (4035225271761108992 : Int64)), .second, .unset] [(.long (5764607548804038655 : Int64))])) (fun t k => XS.lloadN X0.here hx rfl (hb hby at_24) rfl  k) ?_
      refine go_step (T' := T0) (g' := (mkF m 26 #[.val (.int v0), .val (.long (5764607548804038655 : Int64)), .second, .val (.long (4035225271761108992 : Int64)), .second, .unset] [(.int v0), (.long (5764607548804038655 : Int64))])) (fun t k => XS.iloadN X0.here hx rfl (hb hby at_25) rfl  k) ?_
      refine go_step (T' := T0) (g' := (mkF m 27 #[.val (.int v0), .val (.long (5764607548804038655 : Int64)), .second, .val (.long (4035225271761108992 : Int64)), .second, .unset] [(.long (ushL (5764607548804038655 : Int64) v0))])) (fun t k => XS.lushr X0.here hx rfl (hb hby at_26) rfl k) ?_
      refine go_step (T' := T0) (g' := (mkF m 28 #[.val (.int v0), .val (.long (5764607548804038655 : Int64)), .second, .val (.long (4035225271761108992 : Int64)), .second, .unset] [(.long (1 : Int64)), (.long (ushL (5764607548804038655 : Int64) v0))])) (fun t k => XS.lconst X0.here hx rfl (hb hby at_27) k) ?_
      refine go_step (T' := T0) (g' := (mkF m 29 #[.val (.int v0), .val (.long (5764607548804038655 : Int64)), .second, .val (.long (4035225271761108992 : Int64)), .second, .unset] [(.long ((ushL (5764607548804038655 : Int64) v0) &&& (1 : Int64)))])) (fun t k => XS.land X0.here hx rfl (hb hby at_28) rfl k) ?_
      refine go_step (T' := T0) (g' := (mkF m 30 #[.val (.int v0), .val (.long (5764607548804038655 : Int64)), .second, .val (.long (4035225271761108992 : Int64)), .second, .unset] [(.long (0 : Int64)), (.long ((ushL (5764607548804038655 : Int64) v0) &&& (1 : Int64)))])) (fun t k => XS.lconst X0.here hx rfl (hb hby at_29) k) ?_
      refine go_step (T' := T0) (g' := (mkF m 31 #[.val (.int v0), .val (.long (5764607548804038655 : Int64)), .second, .val (.long (4035225271761108992 : Int64)), .second, .unset] [(.int (lcmpW ((ushL (5764607548804038655 : Int64) v0) &&& (1 : Int64)) (0 : Int64)))])) (fun t k => XS.lcmp X0.here hx rfl (hb hby at_30) rfl k) ?_
      by_cases hc2 : ((ushL (5764607548804038655 : Int64) v0) &&& (1 : Int64)) = (0 : Int64)
      · rw [if_pos hc2] at hq
        refine go_step (T' := T0) (g' := (mkF m 38 #[.val (.int v0), .val (.long (5764607548804038655 : Int64)), .second, .val (.long (4035225271761108992 : Int64)), .second, .unset] [])) (fun t k => XS.ifYes X0.here hx rfl (pc0 := 31) (pc' := 38) rfl (hb hby at_31) rfl ((if0 _ _).trans (teq ((lw_eq _ _).mpr hc2)).1) (by decide) (by decide) k) ?_
        refine go_step (T' := T0) (g' := (mkF m 39 #[.val (.int v0), .val (.long (5764607548804038655 : Int64)), .second, .val (.long (4035225271761108992 : Int64)), .second, .unset] [(.int (0 : Int32))])) (fun t k => XS.iconst X0.here hx rfl (hb hby at_38) k) ?_
        exact b0_39 hw hx hby hml hown hZ hret hlk X0 e0 hc hs v0 (5764607548804038655 : Int64) (4035225271761108992 : Int64) (0 : Int32) hq
      · rw [if_neg hc2] at hq
        refine go_step (T' := T0) (g' := (mkF m 34 #[.val (.int v0), .val (.long (5764607548804038655 : Int64)), .second, .val (.long (4035225271761108992 : Int64)), .second, .unset] [])) (fun t k => XS.ifNo X0.here hx rfl (hb hby at_31) rfl ((if0 _ _).trans (feq (fun q => hc2 ((lw_eq _ _).mp q))).1) k) ?_
        refine go_step (T' := T0) (g' := (mkF m 35 #[.val (.int v0), .val (.long (5764607548804038655 : Int64)), .second, .val (.long (4035225271761108992 : Int64)), .second, .unset] [(.int (1 : Int32))])) (fun t k => XS.iconst X0.here hx rfl (hb hby at_34) k) ?_
        refine go_step (T' := T0) (g' := (mkF m 39 #[.val (.int v0), .val (.long (5764607548804038655 : Int64)), .second, .val (.long (4035225271761108992 : Int64)), .second, .unset] [(.int (1 : Int32))])) (fun t k => XS.goto X0.here hx rfl (pc0 := 35) (pc' := 39) rfl (hb hby at_35) (by decide) (by decide) k) ?_
        exact b0_39 hw hx hby hml hown hZ hret hlk X0 e0 hc hs v0 (5764607548804038655 : Int64) (4035225271761108992 : Int64) (1 : Int32) hq
    · rw [if_neg hc1] at hq
      refine go_step (T' := T0) (g' := (mkF m 44 #[.val (.int v0), .val (.long (5764607548804038655 : Int64)), .second, .val (.long (4035225271761108992 : Int64)), .second, .unset] [])) (fun t k => XS.icmpYes X0.here hx rfl (pc0 := 21) (pc' := 44) rfl (hb hby at_21) rfl (flt hc1).2.1 (by decide) (by decide) k) ?_
      refine go_step (T' := T0) (g' := (mkF m 45 #[.val (.int v0), .val (.long (5764607548804038655 : Int64)), .second, .val (.long (4035225271761108992 : Int64)), .second, .unset] [(.int v0)])) (fun t k => XS.iloadN X0.here hx rfl (hb hby at_44) rfl  k) ?_
      refine go_step (T' := T0) (g' := (mkF m 48 #[.val (.int v0), .val (.long (5764607548804038655 : Int64)), .second, .val (.long (4035225271761108992 : Int64)), .second, .unset] [(.int (128 : Int32)), (.int v0)])) (fun t k => XS.sipush X0.here hx rfl (hb hby at_45) k) ?_
      by_cases hc3 : v0 < (128 : Int32)
      · rw [if_pos hc3] at hq
        refine go_step (T' := T0) (g' := (mkF m 51 #[.val (.int v0), .val (.long (5764607548804038655 : Int64)), .second, .val (.long (4035225271761108992 : Int64)), .second, .unset] [])) (fun t k => XS.icmpNo X0.here hx rfl (hb hby at_48) rfl (tlt hc3).2.1 k) ?_
        refine go_step (T' := T0) (g' := (mkF m 52 #[.val (.int v0), .val (.long (5764607548804038655 : Int64)), .second, .val (.long (4035225271761108992 : Int64)), .second, .unset] [(.long (4035225271761108992 : Int64))])) (fun t k => XS.lloadN X0.here hx rfl (hb hby at_51) rfl  k) ?_
        refine go_step (T' := T0) (g' := (mkF m 53 #[.val (.int v0), .val (.long (5764607548804038655 : Int64)), .second, .val (.long (4035225271761108992 : Int64)), .second, .unset] [(.int v0), (.long (4035225271761108992 : Int64))])) (fun t k => XS.iloadN X0.here hx rfl (hb hby at_52) rfl  k) ?_
        refine go_step (T' := T0) (g' := (mkF m 55 #[.val (.int v0), .val (.long (5764607548804038655 : Int64)), .second, .val (.long (4035225271761108992 : Int64)), .second, .unset] [(.int (64 : Int32)), (.int v0), (.long (4035225271761108992 : Int64))])) (fun t k => XS.bipush X0.here hx rfl (hb hby at_53) k) ?_
        refine go_step (T' := T0) (g' := (mkF m 56 #[.val (.int v0), .val (.long (5764607548804038655 : Int64)), .second, .val (.long (4035225271761108992 : Int64)), .second, .unset] [(.int (v0 - (64 : Int32))), (.long (4035225271761108992 : Int64))])) (fun t k => XS.isub X0.here hx rfl (hb hby at_55) rfl k) ?_
        refine go_step (T' := T0) (g' := (mkF m 57 #[.val (.int v0), .val (.long (5764607548804038655 : Int64)), .second, .val (.long (4035225271761108992 : Int64)), .second, .unset] [(.long (ushL (4035225271761108992 : Int64) (v0 - (64 : Int32))))])) (fun t k => XS.lushr X0.here hx rfl (hb hby at_56) rfl k) ?_
        refine go_step (T' := T0) (g' := (mkF m 58 #[.val (.int v0), .val (.long (5764607548804038655 : Int64)), .second, .val (.long (4035225271761108992 : Int64)), .second, .unset] [(.long (1 : Int64)), (.long (ushL (4035225271761108992 : Int64) (v0 - (64 : Int32))))])) (fun t k => XS.lconst X0.here hx rfl (hb hby at_57) k) ?_
        refine go_step (T' := T0) (g' := (mkF m 59 #[.val (.int v0), .val (.long (5764607548804038655 : Int64)), .second, .val (.long (4035225271761108992 : Int64)), .second, .unset] [(.long ((ushL (4035225271761108992 : Int64) (v0 - (64 : Int32))) &&& (1 : Int64)))])) (fun t k => XS.land X0.here hx rfl (hb hby at_58) rfl k) ?_
        refine go_step (T' := T0) (g' := (mkF m 60 #[.val (.int v0), .val (.long (5764607548804038655 : Int64)), .second, .val (.long (4035225271761108992 : Int64)), .second, .unset] [(.long (0 : Int64)), (.long ((ushL (4035225271761108992 : Int64) (v0 - (64 : Int32))) &&& (1 : Int64)))])) (fun t k => XS.lconst X0.here hx rfl (hb hby at_59) k) ?_
        refine go_step (T' := T0) (g' := (mkF m 61 #[.val (.int v0), .val (.long (5764607548804038655 : Int64)), .second, .val (.long (4035225271761108992 : Int64)), .second, .unset] [(.int (lcmpW ((ushL (4035225271761108992 : Int64) (v0 - (64 : Int32))) &&& (1 : Int64)) (0 : Int64)))])) (fun t k => XS.lcmp X0.here hx rfl (hb hby at_60) rfl k) ?_
        by_cases hc4 : ((ushL (4035225271761108992 : Int64) (v0 - (64 : Int32))) &&& (1 : Int64)) = (0 : Int64)
        · rw [if_pos hc4] at hq
          refine go_step (T' := T0) (g' := (mkF m 68 #[.val (.int v0), .val (.long (5764607548804038655 : Int64)), .second, .val (.long (4035225271761108992 : Int64)), .second, .unset] [])) (fun t k => XS.ifYes X0.here hx rfl (pc0 := 61) (pc' := 68) rfl (hb hby at_61) rfl ((if0 _ _).trans (teq ((lw_eq _ _).mpr hc4)).1) (by decide) (by decide) k) ?_
          refine go_step (T' := T0) (g' := (mkF m 69 #[.val (.int v0), .val (.long (5764607548804038655 : Int64)), .second, .val (.long (4035225271761108992 : Int64)), .second, .unset] [(.int (0 : Int32))])) (fun t k => XS.iconst X0.here hx rfl (hb hby at_68) k) ?_
          exact b0_69 hw hx hby hml hown hZ hret hlk X0 e0 hc hs v0 (5764607548804038655 : Int64) (4035225271761108992 : Int64) (0 : Int32) hq
        · rw [if_neg hc4] at hq
          refine go_step (T' := T0) (g' := (mkF m 64 #[.val (.int v0), .val (.long (5764607548804038655 : Int64)), .second, .val (.long (4035225271761108992 : Int64)), .second, .unset] [])) (fun t k => XS.ifNo X0.here hx rfl (hb hby at_61) rfl ((if0 _ _).trans (feq (fun q => hc4 ((lw_eq _ _).mp q))).1) k) ?_
          refine go_step (T' := T0) (g' := (mkF m 65 #[.val (.int v0), .val (.long (5764607548804038655 : Int64)), .second, .val (.long (4035225271761108992 : Int64)), .second, .unset] [(.int (1 : Int32))])) (fun t k => XS.iconst X0.here hx rfl (hb hby at_64) k) ?_
          refine go_step (T' := T0) (g' := (mkF m 69 #[.val (.int v0), .val (.long (5764607548804038655 : Int64)), .second, .val (.long (4035225271761108992 : Int64)), .second, .unset] [(.int (1 : Int32))])) (fun t k => XS.goto X0.here hx rfl (pc0 := 65) (pc' := 69) rfl (hb hby at_65) (by decide) (by decide) k) ?_
          exact b0_69 hw hx hby hml hown hZ hret hlk X0 e0 hc hs v0 (5764607548804038655 : Int64) (4035225271761108992 : Int64) (1 : Int32) hq
      · rw [if_neg hc3] at hq
        refine go_step (T' := T0) (g' := (mkF m 74 #[.val (.int v0), .val (.long (5764607548804038655 : Int64)), .second, .val (.long (4035225271761108992 : Int64)), .second, .unset] [])) (fun t k => XS.icmpYes X0.here hx rfl (pc0 := 48) (pc' := 74) rfl (hb hby at_48) rfl (flt hc3).2.1 (by decide) (by decide) k) ?_
        refine go_step (T' := T0) (g' := (mkF m 75 #[.val (.int v0), .val (.long (5764607548804038655 : Int64)), .second, .val (.long (4035225271761108992 : Int64)), .second, .unset] [(.int (0 : Int32))])) (fun t k => XS.iconst X0.here hx rfl (hb hby at_74) k) ?_
        refine go_step (T' := T0) (g' := (mkF m 77 #[.val (.int v0), .val (.long (5764607548804038655 : Int64)), .second, .val (.long (4035225271761108992 : Int64)), .second, .val (.int (0 : Int32))] [])) (fun t k => XS.istore X0.here hx rfl (hb hby at_75) rfl (l' := #[.val (.int v0), .val (.long (5764607548804038655 : Int64)), .second, .val (.long (4035225271761108992 : Int64)), .second, .val (.int (0 : Int32))]) rfl k) ?_
        exact b0_77 hw hx hby hml hown hZ hret hlk X0 e0 hc hs v0 (5764607548804038655 : Int64) (4035225271761108992 : Int64) (0 : Int32) hq
theorem ef0 (m : MethodId) (v0 : Int32) : entryFrame m #[(.int v0)] maxLocals = (mkF m 0 #[.val (.int v0), .unset, .unset, .unset, .unset, .unset] []) := by first | (simp [entryFrame, mkF, argsToLocals, Value.category, maxLocals]; done) | rfl
theorem pn0 : plainName "com/example/muset/muset/rdf/TerminalsIsForbiddenInIriPinLaw" = true := by first | (simp [plainName, overriddenIn]; done) | decide +kernel
set_option maxRecDepth 65536 in
theorem mq0 (l : Launch) (Z : State) (a0 : Array Value) (hw : ∀ d ∈ tables_1, d.before a0 Z = true) (ws : List Jvm.Cond) (v0 : Int32) (h0 : Heap) : MQ l Z x code maxLocals ret ws room_1 #[(.int v0)] h0 (QP (some (.int (f0_0 v0))) h0) := by
  refine mq_of (plainFor_of_name pn0) ?_
  intro p e s m below meth c T0 X0 hx hby hml hown hnm hZ e0 hret hlk
  rw [ef0]
  exact b0_0 hw hx hby hml hown hZ hret hlk X0 e0 (Nat.zero_le _) (Nat.zero_le _) v0 ⟨rfl, rfl, rfl⟩
/-! the plain law: below 128 one by one -/
theorem own_all : ∀ i : Fin 128, f0_0 (Int32.ofNat i.val) = 1 := by decide +kernel
theorem plain_law (c : Int32) : f0_0 c = 1 := by
  have k0 : (0 : Int32).toInt = 0 := by decide
  have k1 : (128 : Int32).toInt = 128 := by decide
  have k2 : (64 : Int32).toInt = 64 := by decide
  by_cases c1 : c < (0 : Int32)
  · unfold f0_0; rw [if_pos c1]
    unfold f0_77
    rw [if_pos]
    have ne : ∀ k : Int32, ¬ k < 0 → ¬ c = k := fun k hk q => hk (q ▸ c1)
    unfold f1_0 f1_84
    rw [if_neg (ne _ (by decide)), if_neg (ne _ (by decide)), if_neg (ne _ (by decide)), if_neg (ne _ (by decide)), if_neg (ne _ (by decide)), if_neg (ne _ (by decide)), if_neg (ne _ (by decide)), if_neg (ne _ (by decide)), if_neg (ne _ (by decide)), if_neg]
    rw [Int32.lt_iff_toInt_lt] at *
    have k3 : (32 : Int32).toInt = 32 := by decide
    omega
  · by_cases c2 : c < (128 : Int32)
    · rw [Int32.lt_iff_toInt_lt] at c1 c2
      have q := own_all ⟨c.toInt.toNat, by omega⟩
      have e : Int32.ofNat c.toInt.toNat = c := by
        apply Int32.toInt_inj.mp
        rw [Int32.toInt_ofNat_of_lt (by omega)]
        omega
      rw [← e]; exact q
    · have c3 : ¬ c < (64 : Int32) := by rw [Int32.lt_iff_toInt_lt] at *; omega
      unfold f0_0; rw [if_neg c1, if_neg c3, if_neg c2]
      unfold f0_77
      rw [if_pos]
      have ne : ∀ k : Int32, k < 128 → ¬ c = k := fun k hk q => c2 (q ▸ hk)
      unfold f1_0 f1_84
      rw [if_neg (ne _ (by decide)), if_neg (ne _ (by decide)), if_neg (ne _ (by decide)), if_neg (ne _ (by decide)), if_neg (ne _ (by decide)), if_neg (ne _ (by decide)), if_neg (ne _ (by decide)), if_neg (ne _ (by decide)), if_neg (ne _ (by decide)), if_pos]
      rw [Int32.lt_iff_toInt_lt] at *
      have k3 : (32 : Int32).toInt = 32 := by decide
      omega

set_option maxRecDepth 65536 in
set_option maxHeartbeats 40000000 in
theorem comes_1 {Post : Tables → Env → Array Value → State → Outcome → State → Prop} (hpost : ∀ tb e args s v u, (limb_1_1.after args s (.returned v) u = true ∧ limb_1_2.after args s (.returned v) u = true ∧ True) → FrameEnd s (.returned v) u (Jvm.fieldLocs frame_1_writes args s ++ Jvm.arrayLocs frame_1_arrays args s ++ Jvm.staticLocs frame_1_statics s) 0 0 → Post tb e args s (.returned v) u) :
    ArmFor flags0 classFile x code maxLocals ret World_1 tables_1 room_1 Calls_1 rest_1 Pre_1 Post := by
  intro l hfl _ _ p e ha hc hk s m args below hf hA hF happ hP
  obtain ⟨hcalls, hrest, hpre⟩ := hP
  obtain ⟨-, -, -, hnamed, -, -, -, hat⟩ := (Spec.applies_iff hf).mp happ
  obtain ⟨hg, hn⟩ := and_e (Cond.before_iff.mp (show (Jvm.Cond.and given_1 narrow_1).before args s = true from hpre))
  obtain ⟨hcount, hg0⟩ := and_e hg
  have ga0 := hg0
  obtain ⟨w0, rfl⟩ : ∃ w0 : Value, args = #[w0] := by
    have hs : args.size = 1 := by simpa [Cond.value, given_1] using hcount
    obtain ⟨L⟩ := args
    match L, hs with
    | [w0], _ => exact ⟨w0, rfl⟩
  have hw := fun d (hd : d ∈ tables_1) => atoms_spec (ws := Jvm.Cond.code x code maxLocals ret :: tables_1) hat d (List.mem_cons_of_mem _ hd)
  obtain ⟨i0, ei0⟩ := is_v ga0
  obtain rfl : w0 = (.int i0) := Option.some.inj ei0
  obtain ⟨n, o, h1, h2, h3, _, L, rfl, ⟨rfl, -, rfl⟩, hq⟩ := mq0 l s _ hw tables_1 i0 s.heap p e ha hc hk s m _ below hf ((Spec.applies_iff_loose hf).mp happ).1 ⟨rfl, State.Warmed39.refl s, rfl⟩ trivial
  rw [plain_law] at h3 hq
  refine ⟨n, _, h1, h2, h3, hpost _ _ _ _ _ _ ⟨Cond.after_iff.mpr rfl, Cond.after_iff.mpr (eq_i res_at (Term.int_eval (1)) rfl), trivial⟩ ⟨hq.1, hq.2.1, (hq.2.2.sift fun y hy => nomatch hy).mono (by decide) (by decide)⟩⟩
theorem main_1_1 : Claimed_1_1 := comes_1 fun _ _ _ _ _ _ h hF => ⟨h.1, hF⟩
theorem main_1_2 : Claimed_1_2 := comes_1 fun _ _ _ _ _ _ h hF => ⟨h.2.1, hF⟩
end Jvm.Pilot.@@N@@
namespace Jvm.Pilot.@@N@@
open Jvm Jvm.ClassFile Sem Op Lib Jvm.Free Jvm.Stand Jvm.Pilot.@@N@@.Jvm.D
/-! MADE BY PROGRAM (witnessworld.py) out of the Statement's table words and the real class files: 9 classes; the members and pool entries that the words name. The judged class is class 1, her method 1. -/
namespace start1
open Jvm.ClassFile
def u (s : String) : CpInfo := .utf8 (stringToUtf16 s)
/-- a pool by its gaps: so many unusable entries, then the entry; so many at the end -/
def gap : Nat → List CpInfo → List CpInfo
  | 0, r => r
  | n + 1, r => .unusable :: gap n r
def poolList (es : List (Nat × CpInfo)) (last : Nat) : List CpInfo := es.foldr (fun e r => gap e.1 (e.2 :: r)) (gap last [])
def pool (es : List (Nat × CpInfo)) (last : Nat) : Array CpInfo := ⟨poolList es last⟩
def fileOf (pool : Array CpInfo) (this : Nat) (attrs : Array Attribute := #[]) (ms : Array MethodInfo := #[]) (fl : Nat := 33) (sup : Nat := 0) (ifs : Array Nat := #[]) (fds : Array FieldInfo := #[]) : ClassFile where
  minorVersion := 0
  majorVersion := 65
  constantPool := pool
  accessFlags := fl
  thisClass := this
  superClass := sup
  interfaces := ifs
  fields := fds
  methods := ms
  attributes := attrs
def plain (name : String) (sup : Option ClassId) : Class where
  name := name
  kind := .ordinary
  loader := none
  accessFlags := 33
  super := sup
  interfaces := #[]
  cf := none
  fields := #[]
  methods := #[]
  instanceTypes := #[]
  staticTypes := #[]
  resolved := #[]
  callSites := []
  init := .initialized
  statics := none
  mirror := none

def pool0 : Array CpInfo := pool [(5, u "<init>"), (0, u "()V"), (1, .class_ 10), (1, u "java/lang/Object")] 113

def k0m0 : Method := { name := "<init>", desc := "()V", sig := { parameters := [], returnType := none }, accessFlags := 1, code := none }
/-- java/lang/Object -/
def k0 : Class := { plain "java/lang/Object" none with
  accessFlags := 33
  interfaces := #[]
  cf := some (fileOf pool0 8 #[] #[{ accessFlags := 1, nameIndex := 5, descriptorIndex := 6, attributes := #[] }] 33 0 #[] #[])
  fields := #[]
  methods := #[k0m0]
  instanceTypes := #[]
  staticTypes := #[]
  resolved := Array.replicate 124 none
  statics := none }

def pool1 : Array CpInfo := pool [(2, .class_ 4), (1, u "java/lang/Object"), (0, u "<init>"), (0, u "()V"), (0, .long 5764607548804038655), (1, .long 4035225271761108992), (1, .methodref 12 13), (0, .class_ 14), (0, .nameAndType 15 16), (0, u "com/example/muset/muset/rdf/Terminals"), (0, u "isForbiddenInIri"), (0, u "(I)Z"), (0, .class_ 18), (0, u "com/example/muset/muset/rdf/TerminalsIsForbiddenInIriPinLaw"), (2, u "law")] 3

def k1m0 : Method := { name := "<init>", desc := "()V", sig := { parameters := [], returnType := none }, accessFlags := 2, code := none }
def k1c1 : Code := { maxStack := 4, maxLocals := 6, code := code, exceptionTable := #[], attributes := #[] }
def k1m1 : Method := { name := "law", desc := "(I)Z", sig := { parameters := [.int], returnType := some .boolean }, accessFlags := 9, code := some k1c1 }
/-- com/example/muset/muset/rdf/TerminalsIsForbiddenInIriPinLaw -/
def k1 : Class := { plain "com/example/muset/muset/rdf/TerminalsIsForbiddenInIriPinLaw" (some 0) with
  accessFlags := 49
  interfaces := #[]
  cf := some (fileOf pool1 17 #[] #[{ accessFlags := 2, nameIndex := 5, descriptorIndex := 6, attributes := #[] }, { accessFlags := 9, nameIndex := 21, descriptorIndex := 16, attributes := #[] }] 49 2 #[] #[])
  fields := #[]
  methods := #[k1m0, k1m1]
  instanceTypes := #[]
  staticTypes := #[]
  resolved := Array.replicate 25 none
  statics := none }

def pool2 : Array CpInfo := pool [(2, .class_ 4), (1, u "java/lang/Object"), (0, u "<init>"), (0, u "()V"), (27, .class_ 36), (1, u "com/example/muset/muset/rdf/Terminals"), (0, u "IRI_PLAIN"), (0, u "[Z"), (33, u "isForbiddenInIri"), (0, u "(I)Z"), (33, u "DOUBLE_QUOTED_PLAIN"), (2, u "SINGLE_QUOTED_PLAIN")] 164

def k2m0 : Method := { name := "<init>", desc := "()V", sig := { parameters := [], returnType := none }, accessFlags := 2, code := none }
def k2c1 : Code := { maxStack := 2, maxLocals := 2, code := prog_38_method_13_code, exceptionTable := #[], attributes := #[] }
def k2m1 : Method := { name := "isForbiddenInIri", desc := "(I)Z", sig := { parameters := [.int], returnType := some .boolean }, accessFlags := 8, code := some k2c1 }
/-- com/example/muset/muset/rdf/Terminals -/
def k2 : Class := { plain "com/example/muset/muset/rdf/Terminals" (some 0) with
  accessFlags := 49
  interfaces := #[]
  cf := some (fileOf pool2 34 #[] #[{ accessFlags := 2, nameIndex := 5, descriptorIndex := 6, attributes := #[] }, { accessFlags := 8, nameIndex := 72, descriptorIndex := 73, attributes := #[] }] 49 2 #[] #[{ accessFlags := 26, nameIndex := 37, descriptorIndex := 38, attributes := #[] }, { accessFlags := 26, nameIndex := 107, descriptorIndex := 38, attributes := #[] }, { accessFlags := 26, nameIndex := 110, descriptorIndex := 38, attributes := #[] }])
  fields := #[{ name := "IRI_PLAIN", type := (.array .boolean), accessFlags := 26, slot := 0, constantValue := 0 }, { name := "DOUBLE_QUOTED_PLAIN", type := (.array .boolean), accessFlags := 26, slot := 1, constantValue := 0 }, { name := "SINGLE_QUOTED_PLAIN", type := (.array .boolean), accessFlags := 26, slot := 2, constantValue := 0 }]
  methods := #[k2m0, k2m1]
  instanceTypes := #[]
  staticTypes := #[(.array .boolean), (.array .boolean), (.array .boolean)]
  resolved := Array.replicate 275 none
  statics := none }

def pool3 : Array CpInfo := pool [(1, u "java/lang/Cloneable"), (0, .class_ 1), (0, u "java/lang/Object"), (0, .class_ 3)] 3

/-- java/lang/Cloneable -/
def k3 : Class := { plain "java/lang/Cloneable" (some 0) with
  accessFlags := 1537
  interfaces := #[]
  cf := some (fileOf pool3 2 #[] #[] 1537 4 #[] #[])
  fields := #[]
  methods := #[]
  instanceTypes := #[]
  staticTypes := #[]
  resolved := Array.replicate 8 none
  statics := none }

def pool4 : Array CpInfo := pool [(1, u "java/io/Serializable"), (0, .class_ 1), (0, u "java/lang/Object"), (0, .class_ 3)] 3

/-- java/io/Serializable -/
def k4 : Class := { plain "java/io/Serializable" (some 0) with
  accessFlags := 1537
  interfaces := #[]
  cf := some (fileOf pool4 2 #[] #[] 1537 4 #[] #[])
  fields := #[]
  methods := #[]
  instanceTypes := #[]
  staticTypes := #[]
  resolved := Array.replicate 8 none
  statics := none }

/-- the primitive byte -/
def k5 : Class := { plain "byte" none with kind := .primitive 'B', accessFlags := 0x411 }
/-- [B -/
def k6 : Class := { plain "[B" (some 0) with kind := .array 5 .byte, interfaces := #[3, 4], accessFlags := 1041 }

/-- the primitive int -/
def k7 : Class := { plain "int" none with kind := .primitive 'I', accessFlags := 0x411 }
/-- [I -/
def k8 : Class := { plain "[I" (some 0) with kind := .array 7 .int, interfaces := #[3, 4], accessFlags := 1041 }

def heap : Heap := #[]
def classes : Array Class := #[k0, k1, k2, k3, k4, k5, k6, k7, k8]
def interned : List (Array UInt16 × Addr) := []
def slotsUsed : Nat := 0
def theMethod : MethodId := ⟨1, 1⟩
def args0 : Array Value := #[.int 5]
def aboutOver (below : List Frame) : State where
  vm := { classes := classes, interned := interned.toArray }
  heap := heap
  slotsUsed := slotsUsed
  threads := #[{ frames := .invoking theMethod args0 :: below }]
def below0 : List Frame := [.native { method := ⟨0, 0⟩, args := #[] }]
def about1 : State := aboutOver below0
def p0 : Program := .bare "" "" ""
def e0 : Env := launch0.env 0 0 0
theorem w_frames : about1.frames = Frame.invoking theMethod args0 :: below0 := rfl
set_option maxRecDepth 65536 in
theorem w_args : argsFit about1.vm theMethod args0 = true := by decide +kernel
set_option maxRecDepth 65536 in
theorem w_heap : heapFits about1 = true := by decide +kernel
set_option maxRecDepth 65536 in
theorem w_runnable : about1.curStatus? = some .runnable := by decide +kernel
set_option maxRecDepth 65536 in
theorem w_alone : about1.alone = true := by decide +kernel
set_option maxRecDepth 65536 in
theorem w_named : about1.methodNamed? x = some theMethod := by decide +kernel
set_option maxRecDepth 65536 in
theorem w_hears : about1.hears theMethod below0 = true := by decide +kernel
set_option maxRecDepth 65536 in
theorem w_ripe : about1.ripe theMethod args0 below0 = true := by decide +kernel
theorem w_running : about1.status = .running := rfl
set_option maxRecDepth 65536 in
theorem w_room : about1.hasRoom e0.platform room_1 = true :=
  launch0.hasRoom_least _ room_1 (by decide +kernel) (by decide +kernel) (by decide +kernel) (by decide +kernel) (by decide +kernel) (by decide +kernel)
theorem allAtoms_all (ts : List Jvm.Cond) (a : Array Jvm.Value) (st : Jvm.State) : (allAtoms ts).before a st = ts.all (fun c => c.before a st) := by
  induction ts with
  | nil => rfl
  | cons c t ih =>
    show (Jvm.Cond.and c (allAtoms t)).before a st = _
    rw [Jvm.Cond.before_and, ih, List.all_cons]
def words1 : List Jvm.Cond := Jvm.Cond.code x code maxLocals ret :: tables_1
/-- a 'code' word, met by the world's own term for the bytes: nothing is compared byte by byte -/
theorem code_word {y : MethodName} {bytes : ByteArray} {mx : Nat} {rt : Option FieldType} {a : Array Value} {s : State} {m : MethodId} {meth : Method} {c : Code} (h1 : s.methodNamed? y = some m) (h2 : s.vm.method? m = some meth) (h3 : meth.code = some c) (h4 : c.code = bytes)
    (h5 : (c.maxLocals == mx && c.exceptionTable.isEmpty && decide (c.maxStack ≤ mostOperands) && decide (meth.sig.returnType = rt) && !meth.locks && decide (parseMethodDescriptor y.desc = some meth.sig)) = true) : (Jvm.Cond.code y bytes mx rt).before a s = true := by
  simp only [Bool.and_eq_true, beq_iff_eq, Bool.not_eq_true', decide_eq_true_eq] at h5
  obtain ⟨⟨⟨⟨⟨g1, g2⟩, g3⟩, g4⟩, g5⟩, g6⟩ := h5
  simp [Cond.before, Cond.holds, Cond.value, h1, h2, h3, h4, g1, g2, g3, g4, g5, g6]
def isCode : Jvm.Cond → Bool
  | .code _ _ _ _ => true
  | _ => false
theorem all_split {L : List Jvm.Cond} {P : Jvm.Cond → Bool} (h1 : L.all (fun c => isCode c || P c) = true) (h2 : ∀ c ∈ L.filter isCode, P c = true) : L.all P = true := by
  refine List.all_eq_true.mpr fun c hc => ?_
  have h := List.all_eq_true.mp h1 c hc
  rcases Bool.eq_false_or_eq_true (isCode c) with hi | hi
  · exact h2 c (List.mem_filter.mpr ⟨hc, hi⟩)
  · simpa [hi] using h
set_option maxRecDepth 65536 in
theorem w_c0 : (Jvm.Cond.code x code maxLocals ret).before args0 about1 = true := code_word (m := ⟨1, 1⟩) (meth := k1m1) (c := k1c1) (by decide +kernel) rfl rfl rfl (by decide +kernel)
set_option maxRecDepth 65536 in
theorem w_c1 : (Jvm.Cond.code ({ cls := "com/example/muset/muset/rdf/Terminals", name := "isForbiddenInIri", desc := "(I)Z" } : Jvm.MethodName) prog_38_method_13_code (2 : Nat) (Option.some Jvm.ClassFile.FieldType.boolean)).before args0 about1 = true := code_word (m := ⟨2, 1⟩) (meth := k2m1) (c := k2c1) (by decide +kernel) rfl rfl rfl (by decide +kernel)
def codes1 : List Jvm.Cond := [Jvm.Cond.code x code maxLocals ret, Jvm.Cond.code ({ cls := "com/example/muset/muset/rdf/Terminals", name := "isForbiddenInIri", desc := "(I)Z" } : Jvm.MethodName) prog_38_method_13_code (2 : Nat) (Option.some Jvm.ClassFile.FieldType.boolean)]
set_option maxRecDepth 65536 in
theorem codes_eq : words1.filter isCode = codes1 := rfl
theorem w_codes : ∀ c ∈ words1.filter isCode, c.before args0 about1 = true := by
  rw [codes_eq]
  intro c hc
  simp only [codes1, List.mem_cons, List.not_mem_nil, or_false] at hc
  rcases hc with rfl | rfl
  · exact w_c0
  · exact w_c1
set_option maxRecDepth 65536 in
theorem w_t1 : words1.all (fun c => isCode c || c.before args0 about1) = true := by decide +kernel
theorem w_tables : (allAtoms (Jvm.Cond.code x code maxLocals ret :: tables_1)).before args0 about1 = true := by
  rw [allAtoms_all]
  show words1.all (fun c => c.before args0 about1) = true
  refine all_split ?_ w_codes
  rw [w_t1]
set_option maxRecDepth 65536 in
theorem w_case : (Jvm.Cond.and given_1 narrow_1).before args0 about1 = true := by decide +kernel
theorem w_applies : (headSpec (Jvm.Cond.code x code maxLocals ret :: tables_1) room_1).applies x e0.platform about1 = true :=
  (Spec.applies_iff w_frames).mpr ⟨w_running, w_runnable, w_alone, w_named, w_hears, w_ripe, w_room, w_tables⟩
theorem atStart : AtStart classFile x code maxLocals ret World_1 tables_1 room_1 Calls_1 rest_1 Pre_1 launch0 p0 e0 about1 theMethod args0 below0 :=
  ⟨lists_1, trivial, launch0.admits_env _ _ _, launch0.least_env, fairChoices_fair.cas, fairChoices_fair.clock, w_frames, w_args, w_heap, w_applies, trivial, trivial, w_case⟩
end start1
theorem witness_1 : WitnessClaimed_1 := ⟨start1.p0, start1.e0, start1.about1, start1.theMethod, start1.args0, start1.below0, start1.atStart⟩
end Jvm.Pilot.@@N@@
