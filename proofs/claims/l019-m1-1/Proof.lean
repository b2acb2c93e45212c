import JvmDerived
import JvmDerived.Pilot.@@N@@Statement
import JvmDerived.Pilot.@@N@@Code
set_option linter.unusedVariables false
set_option linter.unusedSimpArgs false
namespace Jvm.RoadKit
open Sem ClassFile Op Lib Jvm.Stand Jvm.Free Jvm.LawKit
section New
variable {p : Program} {l : Launch} {e : Env} {R : Room} {s : State} {m : MethodId} {args : Array Value} {below : List Frame} {meth : Method} {c : Code} {T : State} {locs : List Loc} {cells slots : Nat}
theorem retI (X : Stand p l e R s m args below meth c T locs cells slots) (hx : p.tables.exec = Jvm.exec) {pc : Nat} {Ls : Array Slot} {z : Int32} {rest : List Value} (hret : meth.sig.returnType = some .int) (hd : decode c.code pc = .ok (.ireturn, 1)) {fs : List Frame}
    (hl : ∀ (f : JFrame) (acts : List Action), f.method = m → f.locked = none → f.entered = [] → (doReturn e (T.setTop f) acts (some (.int z))).1 = T.setFrames fs) : Steps p.tables e below (T.setTop (mkF m pc Ls (.int z :: rest))) (T.setFrames fs) := by
  have hm' : T.vm.method? m = some meth := X.method'
  have hn : narrow .int (.int z) = .int z := rfl
  show Steps p.tables e below (T.setTop { method := m, pc := pc, locals := Ls, stack := _ :: rest, locked := none }) _
  jvm_step X.here [X.here.top, hx, hd, hm', hret, hn]
  first | (intro acts; rw [hl _ acts rfl rfl rfl]) | rw [hl _ _ rfl rfl rfl]
  exact Steps.refl _
end New
end Jvm.RoadKit
namespace Jvm.Pilot.@@N@@
open Jvm Jvm.ClassFile Sem Op Lib Jvm.Free Jvm.Stand Jvm.LawKit Jvm.RoadKit Bundle Jvm.Pilot.@@N@@.Jvm.D
section OwnCalls
theorem own_retD {p : Program} {l : Launch} {e : Env} {R : Room} {s : State} {m : MethodId} {args : Array Value} {below : List Frame} {meth : Method} {c : Code} {T : State} {locs : List Loc} {cells slots : Nat} (X : Stand p l e R s m args below meth c T locs cells slots) (hx : p.tables.exec = Jvm.exec) {pc : Nat} {Ls : Array Slot} {z : UInt64} {rest : List Value} (hret : meth.sig.returnType = some .double) (hd : decode c.code pc = .ok (.dreturn, 1)) {fs : List Frame}
    (hl : ∀ (f : JFrame) (acts : List Action), f.method = m → f.locked = none → f.entered = [] → (doReturn e (T.setTop f) acts (some (.double z))).1 = T.setFrames fs) : Steps p.tables e below (T.setTop (mkF m pc Ls (.double z :: rest))) (T.setFrames fs) := by
  have hm' : T.vm.method? m = some meth := X.method'
  have hn : narrow .double (.double z) = .double z := rfl
  show Steps p.tables e below (T.setTop { method := m, pc := pc, locals := Ls, stack := _ :: rest, locked := none }) _
  jvm_step X.here [X.here.top, hx, hd, hm', hret, hn]
  first | (intro acts; rw [hl _ acts rfl rfl rfl]) | rw [hl _ _ rfl rfl rfl]
  exact Steps.refl _
theorem own_retJ {p : Program} {l : Launch} {e : Env} {R : Room} {s : State} {m : MethodId} {args : Array Value} {below : List Frame} {meth : Method} {c : Code} {T : State} {locs : List Loc} {cells slots : Nat} (X : Stand p l e R s m args below meth c T locs cells slots) (hx : p.tables.exec = Jvm.exec) {pc : Nat} {Ls : Array Slot} {z : Int64} {rest : List Value} (hret : meth.sig.returnType = some .long) (hd : decode c.code pc = .ok (.lreturn, 1)) {fs : List Frame}
    (hl : ∀ (f : JFrame) (acts : List Action), f.method = m → f.locked = none → f.entered = [] → (doReturn e (T.setTop f) acts (some (.long z))).1 = T.setFrames fs) : Steps p.tables e below (T.setTop (mkF m pc Ls (.long z :: rest))) (T.setFrames fs) := by
  have hm' : T.vm.method? m = some meth := X.method'
  have hn : narrow .long (.long z) = .long z := rfl
  show Steps p.tables e below (T.setTop { method := m, pc := pc, locals := Ls, stack := _ :: rest, locked := none }) _
  jvm_step X.here [X.here.top, hx, hd, hm', hret, hn]
  first | (intro acts; rw [hl _ acts rfl rfl rfl]) | rw [hl _ _ rfl rfl rfl]
  exact Steps.refl _
variable {p : Program} {l : Launch} {e : Env} {R : Room} {s : State} {m : MethodId} {args : Array Value} {below : List Frame} {meth : Method} {c : Code} {T : State} {locs : List Loc} {cells slots : Nat} {Z : State} {a0 : Array Value} {h : Heap}
/-- a static call, by the callee's contract, that answers with a value and leaves all as it was -/
theorem own_pureS (X : Stand p l e R s m args below meth c T locs cells slots) (hx : p.tables.exec = Jvm.exec) (hZ : Z.Warmed39 s.vm) {own : String} {index : Nat} {y : MethodName} {bytes : ByteArray} {maxL : Nat} {ret : Option FieldType} {rm : Room} {argsL rest : List Value} {val : Value} {W : Nat}
    (hM : MetFree l y (head1 [Cond.code y bytes maxL ret] rm) (fun a U => a = argsL.toArray ∧ Z.Warmed39 U.vm ∧ U.heap = h) (fun _ _ _ _ _ => True) (fun _ U o U' => ∃ v L, o = .returned v ∧ (v = some val ∧ L = [] ∧ U'.heap = h) ∧ FrameEnd U o U' L rm.cells rm.slots))
    (hown : s.vm.findClass own = some m.cls) (w1 : (Cond.methodLink own index y).before a0 Z = true) (w2 : (Cond.static y).before a0 Z = true) (w3 : (Cond.initialized y.cls).before a0 Z = true) (w4 : (Cond.code y bytes maxL ret).before a0 Z = true) (hy : y.cls ≠ "java/lang/invoke/MethodHandle" ∧ y.cls ≠ "java/lang/invoke/VarHandle")
    (hf : rm.frames + 1 ≤ R.frames) (hl : W + (maxL + 11) + rm.locals ≤ R.locals) (eT : T.heap = h) {g : JFrame} (hg : g.method = m) (hsize : g.locals.size = c.maxLocals) (hlen : ∀ sig, parseMethodDescriptor y.desc = some sig → argsL.length = sig.parameters.length)
    (hst : g.stack = argsL.reverse ++ rest) (hW : 2 * g.monitorRoom + (rest.map fun v => v.category).sum ≤ W) (hd : decode c.code g.pc = .ok (.invokestatic index, 3)) (hc : cells + rm.cells ≤ R.cells) (hs : slots + rm.slots ≤ R.slots) (hc0 : rm.cells = 0 := by rfl) (hs0 : rm.slots = 0 := by rfl) :
    ∃ T', Stand p l e R s m args below meth c T' locs cells slots ∧ T'.heap = h ∧ ∀ target, Steps p.tables e below (T'.setTop { g with pc := g.pc + 3, stack := val :: rest }) target → Steps p.tables e below (T.setTop g) target := by
  obtain ⟨_, _, ⟨T1, L1, k1, n1⟩, -, X1, ⟨Lc, hQ, l1, y1, z1⟩, st⟩ := Jvm.LawKit.callS X hx (y := y) hown (mvT hZ w1) (mvT hZ w2) (mvT hZ w3) (mvT hZ w4) hy (backOf (W := W) (Q := fun v h' L => v = some val ∧ L = [] ∧ h' = h) hM hZ w4 w3 hf hl) hg hsize (argsL := argsL) (rest := rest) hlen hst hW hd (fun _ _ => ⟨rfl, eT, hc, hs⟩)
  dsimp only [Pt.U, Pt.locs, Pt.cells, Pt.slots] at X1 l1 y1 z1 st hQ
  obtain ⟨rfl, rfl, hh⟩ := hQ
  rw [hc0] at y1; rw [hs0] at z1
  subst l1 y1 z1
  rw [List.append_nil] at X1
  exact ⟨T1, X1, hh, st⟩
/-- an instance call, by the contract of the body that the receiver's class selects, that answers with a value and leaves all as it was -/
theorem own_pureV (X : Stand p l e R s m args below meth c T locs cells slots) (hx : p.tables.exec = Jvm.exec) (hZ : Z.Warmed39 s.vm) {own C : String} {index : Nat} {y : MethodName} {bytes : ByteArray} {maxL : Nat} {ret : Option FieldType} {rm : Room} {a : Addr} {argsL rest : List Value} {val : Value} {W : Nat}
    (hM : MetFree l y (head1 [Cond.code y bytes maxL ret] rm) (fun a' U => a' = (.ref a :: argsL).toArray ∧ Z.Warmed39 U.vm ∧ U.heap = h) (fun _ _ _ _ _ => True) (fun _ U o U' => ∃ v L, o = .returned v ∧ (v = some val ∧ L = [] ∧ U'.heap = h) ∧ FrameEnd U o U' L rm.cells rm.slots))
    (hown : s.vm.findClass own = some m.cls) (w1 : (Cond.methodLink own index y).before a0 Z = true) (w2 : (Cond.declares y).before a0 Z = true) (w5 : (Cond.instanceMethod y).before a0 Z = true) (w6 : (Cond.selects C y y).before a0 Z = true) (w3 : (Cond.initialized y.cls).before a0 Z = true) (w4 : (Cond.code y bytes maxL ret).before a0 Z = true) (hy : y.cls ≠ "java/lang/invoke/MethodHandle" ∧ y.cls ≠ "java/lang/invoke/VarHandle") (E : Exa Z h a C)
    (hf : rm.frames + 1 ≤ R.frames) (hl : W + (maxL + 11) + rm.locals ≤ R.locals) (eT : T.heap = h) {g : JFrame} (hg : g.method = m) (hsize : g.locals.size = c.maxLocals) (hlen : ∀ sig, parseMethodDescriptor y.desc = some sig → argsL.length = sig.parameters.length)
    (hst : g.stack = argsL.reverse ++ .ref a :: rest) (hW : 2 * g.monitorRoom + (rest.map fun v => v.category).sum ≤ W) (hd : decode c.code g.pc = .ok (.invokevirtual index, 3)) (hc : cells + rm.cells ≤ R.cells) (hs : slots + rm.slots ≤ R.slots) (hc0 : rm.cells = 0 := by rfl) (hs0 : rm.slots = 0 := by rfl) :
    ∃ T', Stand p l e R s m args below meth c T' locs cells slots ∧ T'.heap = h ∧ ∀ target, Steps p.tables e below (T'.setTop { g with pc := g.pc + 3, stack := val :: rest }) target → Steps p.tables e below (T.setTop g) target := by
  obtain ⟨cq, kq, qa, qb, qc⟩ := isOf hZ eT E
  obtain ⟨_, _, ⟨T1, L1, k1, n1⟩, -, X1, ⟨Lc, hQ, l1, y1, z1⟩, st⟩ := X.virtualBack hx (y := y) (z := y) hown (mvT hZ w1) (mvT hZ w2) (notFace_of_selects (args := #[]) (mvT hZ w6)) (mvT hZ w6) (mvT hZ w5) hy (backOf (W := W) (Q := fun v h' L => v = some val ∧ L = [] ∧ h' = h) hM hZ w4 w3 hf hl) qa qc hg hsize (Steps.refl _) (argsL := argsL) (rest := rest) hlen hst hW hd (fun _ _ => ⟨rfl, eT, hc, hs⟩)
  dsimp only [Pt.U, Pt.locs, Pt.cells, Pt.slots] at X1 l1 y1 z1 st hQ
  obtain ⟨rfl, rfl, hh⟩ := hQ
  rw [hc0] at y1; rw [hs0] at z1
  subst l1 y1 z1
  rw [List.append_nil] at X1
  exact ⟨T1, X1, hh, fun target k => st.trans k⟩
end OwnCalls
def own_max (x y : Int32) : Int32 := if x < y then y else x
def own_rec (w p : Int32) : Int32 := if (0 : Int32) < p then w + 1 else w
def own_recm (w p : Int32) : Int32 := if (0 : Int32) < p then w - 1 else w
def own_tot (w : Int64) (p : Int32) : Int64 := if (0 : Int32) < p then w + p.toInt64 else w
def own_totm (w : Int64) (p : Int32) : Int64 := if (0 : Int32) < p then w - p.toInt64 else w
theorem d1_0 : decode jdk_29_method_65_code 0 = .ok (.iload_n 0, 1) := by decide +kernel
theorem d1_1 : decode jdk_29_method_65_code 1 = .ok (.iload_n 1, 1) := by decide +kernel
theorem d1_2 : decode jdk_29_method_65_code 2 = .ok (.if_icmp .lt 7, 3) := by decide +kernel
theorem d1_9 : decode jdk_29_method_65_code 9 = .ok (.iload_n 1, 1) := by decide +kernel
theorem d1_10 : decode jdk_29_method_65_code 10 = .ok (.ireturn, 1) := by decide +kernel
theorem ef_1 (m : MethodId) (x0 : Int32) (x1 : Int32) : entryFrame m #[(.int x0), (.int x1)] 2 = mkF m 0 #[.val (.int x0), .val (.int x1)] [] := by first | (simp [entryFrame, mkF, argsToLocals, Value.category]; done) | rfl
theorem d1_5 : decode jdk_29_method_65_code 5 = .ok (.iload_n 0, 1) := by decide +kernel
theorem d1_6 : decode jdk_29_method_65_code 6 = .ok (.goto 4, 3) := by decide +kernel
def Q1 (p1 p2 : Int32) (h0 : Heap) (v : Option Value) (h : Heap) (L : List Loc) : Prop := v = some (.int (own_max p1 p2)) ∧ L = [] ∧ h = h0
set_option maxRecDepth 65536 in
set_option maxHeartbeats 40000000 in
theorem rm1_t (l : Launch) (Z : State) (a0 : Array Value) (hw : ∀ d ∈ tables_1, d.before a0 Z = true) (ws : List Jvm.Cond) (p1 : Int32) (p2 : Int32) (h0 : Heap) (n0 : Nat) (Z0 : n0 ≤ h0.size) (hc2 : p1 < p2) :
    MetFree l (⟨"java/lang/Math", "max", "(II)I"⟩ : MethodName) (head1 (Jvm.Cond.code (⟨"java/lang/Math", "max", "(II)I"⟩ : MethodName) jdk_29_method_65_code 2 (some .int) :: ws) ({ frames := 0, cells := 0, slots := 0, locals := 0 } : Room)) (fun a U => a = #[(.int p1), (.int p2)] ∧ Z.Warmed39 U.vm ∧ U.heap = h0) (fun _ _ _ _ _ => True) (fun _ U o U' => ∃ v L, o = .returned v ∧ Q1 p1 p2 h0 v U'.heap L ∧ FrameEnd U o U' L ({ frames := 0, cells := 0, slots := 0, locals := 0 } : Room).cells ({ frames := 0, cells := 0, slots := 0, locals := 0 } : Room).slots) := by
  refine MetFree.of_bodySF (Jvm.Free.JP.mathPlain rfl (by decide +kernel)) hisR ?_
  intro p e s m args below meth c s₁ Bd hml0 hP hK
  obtain ⟨rfl, hZ, hh⟩ := hP
  have hx := Bd.exec
  have hby := Bd.bytes
  have hml : c.maxLocals = 2 := hml0
  have hown : s.vm.findClass "java/lang/Math" = some m.cls := findClass_of_methodNamed Bd.named
  have hnm := (name_of_methodNamed Bd.named Bd.method).1
  have X0 : Stand p l e ({ frames := 0, cells := 0, slots := 0, locals := 0 } : Room) s m #[(.int p1), (.int p2)] below meth c s₁ [] 0 0 := Stand.of_body Bd
  have e0 : s₁.heap = h0 := by rw [← hh, Bd.state]; rfl
  have N0 := Fr.nil n0
  have pre0 : ∀ t, Steps p.tables e below (s₁.setTop (mkF m 0 #[.val (.int p1), .val (.int p2)] [])) t → Steps p.tables e below (s₁.setTop (entryFrame m #[(.int p1), (.int p2)] 2)) t := fun t k => castTop (ef_1 m p1 p2) k
  -- 3. LAWS

  obtain ⟨fs, hr, hrun, hended, hW, hsame⟩ := X0.leave (v := some (.int p2)) (fun h => by rw [Bd.returns] at h; cases h)
  refine ⟨_, _, pre0 _ ?_, hrun, hended, _, _, rfl, ?_, ⟨_, rfl⟩, hW, hsame.mono (by decide) (by decide)⟩
  -- 4. STEPS
  · show Steps p.tables e below (s₁.setTop (mkF m 0 #[.val (.int p1), .val (.int p2)] [])) _
    refine XS.iloadN X0.here hx rfl (hb hby d1_0) rfl ?_
    show Steps p.tables e below (s₁.setTop (mkF m 1 #[.val (.int p1), .val (.int p2)] [(.int p1)])) _
    refine XS.iloadN X0.here hx rfl (hb hby d1_1) rfl ?_
    show Steps p.tables e below (s₁.setTop (mkF m 2 #[.val (.int p1), .val (.int p2)] [(.int p2), (.int p1)])) _
    refine XS.icmpYes X0.here hx rfl (pc0 := 2) (pc' := 9) rfl (hb hby d1_2) rfl (tlt hc2).1 (by decide) (by decide) ?_
    show Steps p.tables e below (s₁.setTop (mkF m 9 #[.val (.int p1), .val (.int p2)] [])) _
    refine XS.iloadN X0.here hx rfl (hb hby d1_9) rfl ?_
    show Steps p.tables e below (s₁.setTop (mkF m 10 #[.val (.int p1), .val (.int p2)] [(.int p2)])) _
    exact retI X0 hx Bd.returns (hb hby d1_10) hr      -- retI stands in the head ('lawwalk <made dir>' prints it)
  · show Q1 p1 p2 h0 _ s₁.heap _
    rw [e0]
    exact ⟨by rw [own_max, if_pos hc2], rfl, rfl⟩
set_option maxRecDepth 65536 in
set_option maxHeartbeats 40000000 in
theorem rm1_f (l : Launch) (Z : State) (a0 : Array Value) (hw : ∀ d ∈ tables_1, d.before a0 Z = true) (ws : List Jvm.Cond) (p1 : Int32) (p2 : Int32) (h0 : Heap) (n0 : Nat) (Z0 : n0 ≤ h0.size) (hc2 : ¬ (p1 < p2)) :
    MetFree l (⟨"java/lang/Math", "max", "(II)I"⟩ : MethodName) (head1 (Jvm.Cond.code (⟨"java/lang/Math", "max", "(II)I"⟩ : MethodName) jdk_29_method_65_code 2 (some .int) :: ws) ({ frames := 0, cells := 0, slots := 0, locals := 0 } : Room)) (fun a U => a = #[(.int p1), (.int p2)] ∧ Z.Warmed39 U.vm ∧ U.heap = h0) (fun _ _ _ _ _ => True) (fun _ U o U' => ∃ v L, o = .returned v ∧ Q1 p1 p2 h0 v U'.heap L ∧ FrameEnd U o U' L ({ frames := 0, cells := 0, slots := 0, locals := 0 } : Room).cells ({ frames := 0, cells := 0, slots := 0, locals := 0 } : Room).slots) := by
  refine MetFree.of_bodySF (Jvm.Free.JP.mathPlain rfl (by decide +kernel)) hisR ?_
  intro p e s m args below meth c s₁ Bd hml0 hP hK
  obtain ⟨rfl, hZ, hh⟩ := hP
  have hx := Bd.exec
  have hby := Bd.bytes
  have hml : c.maxLocals = 2 := hml0
  have hown : s.vm.findClass "java/lang/Math" = some m.cls := findClass_of_methodNamed Bd.named
  have hnm := (name_of_methodNamed Bd.named Bd.method).1
  have X0 : Stand p l e ({ frames := 0, cells := 0, slots := 0, locals := 0 } : Room) s m #[(.int p1), (.int p2)] below meth c s₁ [] 0 0 := Stand.of_body Bd
  have e0 : s₁.heap = h0 := by rw [← hh, Bd.state]; rfl
  have N0 := Fr.nil n0
  have pre0 : ∀ t, Steps p.tables e below (s₁.setTop (mkF m 0 #[.val (.int p1), .val (.int p2)] [])) t → Steps p.tables e below (s₁.setTop (entryFrame m #[(.int p1), (.int p2)] 2)) t := fun t k => castTop (ef_1 m p1 p2) k
  -- 3. LAWS

  obtain ⟨fs, hr, hrun, hended, hW, hsame⟩ := X0.leave (v := some (.int p1)) (fun h => by rw [Bd.returns] at h; cases h)
  refine ⟨_, _, pre0 _ ?_, hrun, hended, _, _, rfl, ?_, ⟨_, rfl⟩, hW, hsame.mono (by decide) (by decide)⟩
  -- 4. STEPS
  · show Steps p.tables e below (s₁.setTop (mkF m 0 #[.val (.int p1), .val (.int p2)] [])) _
    refine XS.iloadN X0.here hx rfl (hb hby d1_0) rfl ?_
    show Steps p.tables e below (s₁.setTop (mkF m 1 #[.val (.int p1), .val (.int p2)] [(.int p1)])) _
    refine XS.iloadN X0.here hx rfl (hb hby d1_1) rfl ?_
    show Steps p.tables e below (s₁.setTop (mkF m 2 #[.val (.int p1), .val (.int p2)] [(.int p2), (.int p1)])) _
    refine XS.icmpNo X0.here hx rfl (hb hby d1_2) rfl (flt hc2).1 ?_
    show Steps p.tables e below (s₁.setTop (mkF m 5 #[.val (.int p1), .val (.int p2)] [])) _
    refine XS.iloadN X0.here hx rfl (hb hby d1_5) rfl ?_
    show Steps p.tables e below (s₁.setTop (mkF m 6 #[.val (.int p1), .val (.int p2)] [(.int p1)])) _
    refine XS.goto X0.here hx rfl (pc0 := 6) (pc' := 10) rfl (hb hby d1_6) (by decide) (by decide) ?_
    show Steps p.tables e below (s₁.setTop (mkF m 10 #[.val (.int p1), .val (.int p2)] [(.int p1)])) _
    exact retI X0 hx Bd.returns (hb hby d1_10) hr      -- retI stands in the head ('lawwalk <made dir>' prints it)
  · show Q1 p1 p2 h0 _ s₁.heap _
    rw [e0]
    exact ⟨by rw [own_max, if_neg hc2], rfl, rfl⟩
theorem rm1 (l : Launch) (Z : State) (a0 : Array Value) (hw : ∀ d ∈ tables_1, d.before a0 Z = true) (ws : List Jvm.Cond) (p1 : Int32) (p2 : Int32) (h0 : Heap) (n0 : Nat) (Z0 : n0 ≤ h0.size) :
    MetFree l (⟨"java/lang/Math", "max", "(II)I"⟩ : MethodName) (head1 (Jvm.Cond.code (⟨"java/lang/Math", "max", "(II)I"⟩ : MethodName) jdk_29_method_65_code 2 (some .int) :: ws) ({ frames := 0, cells := 0, slots := 0, locals := 0 } : Room)) (fun a U => a = #[(.int p1), (.int p2)] ∧ Z.Warmed39 U.vm ∧ U.heap = h0) (fun _ _ _ _ _ => True) (fun _ U o U' => ∃ v L, o = .returned v ∧ Q1 p1 p2 h0 v U'.heap L ∧ FrameEnd U o U' L ({ frames := 0, cells := 0, slots := 0, locals := 0 } : Room).cells ({ frames := 0, cells := 0, slots := 0, locals := 0 } : Room).slots) := by
  by_cases h : p1 < p2
  · exact rm1_t l Z a0 hw ws p1 p2 h0 n0 Z0 h
  · exact rm1_f l Z a0 hw ws p1 p2 h0 n0 Z0 h
theorem pd_max : parseMethodDescriptor "(II)I" = some ⟨[.int, .int], some .int⟩ := by decide +kernel
theorem own_call_max {p : Program} {l : Launch} {e : Env} {R : Room} {s : State} {m : MethodId} {args : Array Value} {below : List Frame} {meth : Method} {c : Code} {T : State} {locs : List Loc} {cells slots : Nat} {Z : State} {a0 : Array Value} {h : Heap} {own : String} {index : Nat}
    (X : Stand p l e R s m args below meth c T locs cells slots) (hx : p.tables.exec = Jvm.exec) (hZ : Z.Warmed39 s.vm) (hw : ∀ d ∈ tables_1, d.before a0 Z = true) (hown : s.vm.findClass own = some m.cls) (w1 : (Cond.methodLink own index (⟨"java/lang/Math", "max", "(II)I"⟩ : MethodName)).before a0 Z = true) (x y : Int32)
    {W : Nat} {g : JFrame} (hg : g.method = m) (hsize : g.locals.size = c.maxLocals) {rest : List Value} (hst : g.stack = .int y :: .int x :: rest) (hW : 2 * g.monitorRoom + (rest.map fun v => v.category).sum ≤ W) (hd : decode c.code g.pc = .ok (.invokestatic index, 3)) (hf : 1 ≤ R.frames) (hl : W + 13 ≤ R.locals) (eT : T.heap = h) (hc : cells ≤ R.cells := by decide) (hs : slots ≤ R.slots := by decide) :
    ∃ T', Stand p l e R s m args below meth c T' locs cells slots ∧ T'.heap = h ∧ ∀ target, Steps p.tables e below (T'.setTop { g with pc := g.pc + 3, stack := .int (own_max x y) :: rest }) target → Steps p.tables e below (T.setTop g) target :=
  own_pureS X hx hZ (rm1 l Z a0 hw [] x y h 0 (Nat.zero_le _)) hown w1 (hw _ (List.mem_of_getElem? (i := 3) rfl)) (hw _ (List.mem_of_getElem? (i := 4) rfl)) (hw _ (List.mem_of_getElem? (i := 5) rfl)) (by decide) hf hl eT hg hsize (argsL := [.int x, .int y]) (lenOf pd_max rfl) hst hW hd hc hs
theorem d2_0 : decode prog_2_method_1_code 0 = .ok (.aload_n 0, 1) := by decide +kernel
theorem d2_1 : decode prog_2_method_1_code 1 = .ok (.invokespecial 1, 3) := by decide +kernel
theorem d2_4 : decode prog_2_method_1_code 4 = .ok (.aload_n 0, 1) := by decide +kernel
theorem d2_5 : decode prog_2_method_1_code 5 = .ok (.dload_n 1, 1) := by decide +kernel
theorem d2_6 : decode prog_2_method_1_code 6 = .ok (.putfield 7, 3) := by decide +kernel
theorem d2_9 : decode prog_2_method_1_code 9 = .ok (.return_, 1) := by decide +kernel
theorem pn_2 : plainName "com/example/lodestone/lodestone/index/FieldStats" = true := by first | (simp [plainName, overriddenIn]; done) | decide +kernel
theorem ef_2 (m : MethodId) (x0 : Addr) (x1 : UInt64) : entryFrame m #[(.ref x0), (.double x1)] 3 = mkF m 0 #[.val (.ref x0), .val (.double x1), .second] [] := by first | (simp [entryFrame, mkF, argsToLocals, Value.category]; done) | rfl
def Q2 (Z : State) (a1 : Addr) (d2 : UInt64) (c_records : Int32) (c_totalLength : Int64) (u_weight_a1 : Value) (h0 : Heap) (n0 : Nat) (v : Option Value) (h : Heap) (L : List Loc) : Prop := v = none ∧ Fr n0 L ∧ Keep h0 h [a1] ∧ Exa Z h a1 "com/example/lodestone/lodestone/index/FieldStats" ∧ Fld Z h a1 "com/example/lodestone/lodestone/index/FieldStats" "records" "I" (.int c_records) ∧ Fld Z h a1 "com/example/lodestone/lodestone/index/FieldStats" "totalLength" "J" (.long c_totalLength) ∧ Fld Z h a1 "com/example/lodestone/lodestone/index/FieldStats" "weight" "D" (.double d2)
set_option maxRecDepth 65536 in
set_option maxHeartbeats 40000000 in
theorem rm2 (l : Launch) (Z : State) (a0 : Array Value) (hw : ∀ d ∈ tables_1, d.before a0 Z = true) (ws : List Jvm.Cond) (a1 : Addr) (d2 : UInt64) (c_records : Int32) (c_totalLength : Int64) (u_weight_a1 : Value) (h0 : Heap) (n0 : Nat) (Z0 : n0 ≤ h0.size) (F_records_a1 : Fld Z h0 a1 "com/example/lodestone/lodestone/index/FieldStats" "records" "I" (.int c_records)) (F_totalLength_a1 : Fld Z h0 a1 "com/example/lodestone/lodestone/index/FieldStats" "totalLength" "J" (.long c_totalLength)) (E_a1 : Exa Z h0 a1 "com/example/lodestone/lodestone/index/FieldStats") (F_weight_a1 : Fld Z h0 a1 "com/example/lodestone/lodestone/index/FieldStats" "weight" "D" u_weight_a1) (g_a1 : n0 ≤ a1) :
    MetFree l (⟨"com/example/lodestone/lodestone/index/FieldStats", "<init>", "(D)V"⟩ : MethodName) (head1 (Jvm.Cond.code (⟨"com/example/lodestone/lodestone/index/FieldStats", "<init>", "(D)V"⟩ : MethodName) prog_2_method_1_code 3 none :: ws) ({ frames := 1, cells := 0, slots := 0, locals := 12 } : Room)) (fun a U => a = #[(.ref a1), (.double d2)] ∧ Z.Warmed39 U.vm ∧ U.heap = h0) (fun _ _ _ _ _ => True) (fun _ U o U' => ∃ v L, o = .returned v ∧ Q2 Z a1 d2 c_records c_totalLength u_weight_a1 h0 n0 v U'.heap L ∧ FrameEnd U o U' L ({ frames := 1, cells := 0, slots := 0, locals := 12 } : Room).cells ({ frames := 1, cells := 0, slots := 0, locals := 12 } : Room).slots) := by
  refine MetFree.of_bodySF (plainFor_of_name pn_2) hisR ?_
  intro p e s m args below meth c s₁ Bd hml0 hP hK
  obtain ⟨rfl, hZ, hh⟩ := hP
  have hx := Bd.exec
  have hby := Bd.bytes
  have hml : c.maxLocals = 3 := hml0
  have hown : s.vm.findClass "com/example/lodestone/lodestone/index/FieldStats" = some m.cls := findClass_of_methodNamed Bd.named
  have hnm := (name_of_methodNamed Bd.named Bd.method).1
  have X0 : Stand p l e ({ frames := 1, cells := 0, slots := 0, locals := 12 } : Room) s m #[(.ref a1), (.double d2)] below meth c s₁ [] 0 0 := Stand.of_body Bd
  have e0 : s₁.heap = h0 := by rw [← hh, Bd.state]; rfl
  have N0 := Fr.nil n0
  have pre0 : ∀ t, Steps p.tables e below (s₁.setTop (mkF m 0 #[.val (.ref a1), .val (.double d2), .second] [])) t → Steps p.tables e below (s₁.setTop (entryFrame m #[(.ref a1), (.double d2)] 3)) t := fun t k => castTop (ef_2 m a1 d2) k
  -- 3. LAWS
  obtain ⟨T3, X3, e3, st3⟩ := initO X0 hx hZ hown (hw _ (List.mem_of_getElem? (i := 12) rfl)) (hw _ (List.mem_of_getElem? (i := 13) rfl)) (hw _ (List.mem_of_getElem? (i := 14) rfl)) e0 (g := (mkF m 1 #[.val (.ref a1), .val (.double d2), .second] [(.ref a1)])) rfl (by rw [hml]; rfl) rfl (hb hby d2_1) (by decide) (W := 0) (by show 2 * 0 + _ ≤ _; exact Nat.le_of_eq rfl) (by decide)
  obtain ⟨T4, h4, X4, e4, W4, st4⟩ := putF X3 hx hZ hown (host := "") (Or.inl (hw _ (List.mem_of_getElem? (i := 15) rfl))) Via.refl e3 F_weight_a1 E_a1 (Or.inr ⟨(hw _ (List.mem_of_getElem? (i := 16) rfl)), rfl, hnm⟩) (hw _ (List.mem_of_getElem? (i := 7) rfl)) (ty := .double) (by decide) rfl rfl (g := (mkF m 6 #[.val (.ref a1), .val (.double d2), .second] [(.double d2), (.ref a1)])) rfl rfl (hb hby d2_6)
  have Fw4 := F_weight_a1.same W4      -- the field now holds (.double d2)
  have K4 : Keep h0 h4 [a1] := (Keep.refl h0 [a1]).wr W4 (Or.inl (List.mem_of_getElem? (i := 0) rfl))
  have N4 := Fr.snoc X4 N0 g_a1
  obtain ⟨fs, hr, hrun, hended, hW, hsame⟩ := X4.leave (v := none) (fun _ => rfl)
  refine ⟨_, _, pre0 _ ?_, hrun, hended, _, _, rfl, ?_, ⟨_, rfl⟩, hW, hsame.mono (by decide) (by decide)⟩
  -- 4. STEPS
  · show Steps p.tables e below (s₁.setTop (mkF m 0 #[.val (.ref a1), .val (.double d2), .second] [])) _
    refine XS.aloadN X0.here hx rfl (hb hby d2_0) rfl rfl ?_
    show Steps p.tables e below (s₁.setTop (mkF m 1 #[.val (.ref a1), .val (.double d2), .second] [(.ref a1)])) _
    refine st3 _ ?_
    show Steps p.tables e below (T3.setTop (mkF m 4 #[.val (.ref a1), .val (.double d2), .second] [])) _
    refine XS.aloadN X3.here hx rfl (hb hby d2_4) rfl rfl ?_
    show Steps p.tables e below (T3.setTop (mkF m 5 #[.val (.ref a1), .val (.double d2), .second] [(.ref a1)])) _
    refine XS.dloadN X3.here hx rfl (hb hby d2_5) rfl ?_
    show Steps p.tables e below (T3.setTop (mkF m 6 #[.val (.ref a1), .val (.double d2), .second] [(.double d2), (.ref a1)])) _
    refine st4 _ ?_
    show Steps p.tables e below (T4.setTop (mkF m 9 #[.val (.ref a1), .val (.double d2), .second] [])) _
    exact X4.returnOut hx Bd.returns (hb hby d2_9) hr
  · show Q2 Z a1 d2 c_records c_totalLength u_weight_a1 h0 n0 _ T4.heap _
    rw [e4]
    exact ⟨rfl, N4, K4, (E_a1.wr W4), (F_records_a1.other W4 (Or.inr (slot_ne (Or.inl (hw _ (List.mem_of_getElem? (i := 23) rfl))) (Or.inr (hw _ (List.mem_of_getElem? (i := 16) rfl))) (by decide) (t := .int) (t' := .double) (by decide) (by decide)))), (F_totalLength_a1.other W4 (Or.inr (slot_ne (Or.inl (hw _ (List.mem_of_getElem? (i := 25) rfl))) (Or.inr (hw _ (List.mem_of_getElem? (i := 16) rfl))) (by decide) (t := .long) (t' := .double) (by decide) (by decide)))), Fw4⟩
theorem d4_0 : decode prog_2_method_2_code 0 = .ok (.iload_n 1, 1) := by decide +kernel
theorem d4_1 : decode prog_2_method_2_code 1 = .ok (.ifCond .le 24, 3) := by decide +kernel
theorem d4_4 : decode prog_2_method_2_code 4 = .ok (.aload_n 0, 1) := by decide +kernel
theorem d4_5 : decode prog_2_method_2_code 5 = .ok (.dup, 1) := by decide +kernel
theorem d4_6 : decode prog_2_method_2_code 6 = .ok (.getfield 13, 3) := by decide +kernel
theorem d4_9 : decode prog_2_method_2_code 9 = .ok (.iconst 1, 1) := by decide +kernel
theorem d4_10 : decode prog_2_method_2_code 10 = .ok (.iadd, 1) := by decide +kernel
theorem d4_11 : decode prog_2_method_2_code 11 = .ok (.putfield 13, 3) := by decide +kernel
theorem d4_14 : decode prog_2_method_2_code 14 = .ok (.aload_n 0, 1) := by decide +kernel
theorem d4_15 : decode prog_2_method_2_code 15 = .ok (.dup, 1) := by decide +kernel
theorem d4_16 : decode prog_2_method_2_code 16 = .ok (.getfield 17, 3) := by decide +kernel
theorem d4_19 : decode prog_2_method_2_code 19 = .ok (.iload_n 1, 1) := by decide +kernel
theorem d4_20 : decode prog_2_method_2_code 20 = .ok (.i2l, 1) := by decide +kernel
theorem d4_21 : decode prog_2_method_2_code 21 = .ok (.ladd, 1) := by decide +kernel
theorem d4_22 : decode prog_2_method_2_code 22 = .ok (.putfield 17, 3) := by decide +kernel
theorem d4_25 : decode prog_2_method_2_code 25 = .ok (.return_, 1) := by decide +kernel
theorem pn_4 : plainName "com/example/lodestone/lodestone/index/FieldStats" = true := by first | (simp [plainName, overriddenIn]; done) | decide +kernel
theorem ef_4 (m : MethodId) (x0 : Addr) (x1 : Int32) : entryFrame m #[(.ref x0), (.int x1)] 2 = mkF m 0 #[.val (.ref x0), .val (.int x1)] [] := by first | (simp [entryFrame, mkF, argsToLocals, Value.category]; done) | rfl
def Q4 (Z : State) (a1 : Addr) (p2 : Int32) (c_weight : UInt64) (w3 : Int32) (w6 : Int64) (h0 : Heap) (n0 : Nat) (v : Option Value) (h : Heap) (L : List Loc) : Prop := v = none ∧ Fr n0 L ∧ Keep h0 h [a1] ∧ Exa Z h a1 "com/example/lodestone/lodestone/index/FieldStats" ∧ Fld Z h a1 "com/example/lodestone/lodestone/index/FieldStats" "weight" "D" (.double c_weight) ∧ Fld Z h a1 "com/example/lodestone/lodestone/index/FieldStats" "records" "I" (.int (own_rec w3 p2)) ∧ Fld Z h a1 "com/example/lodestone/lodestone/index/FieldStats" "totalLength" "J" (.long (own_tot w6 p2))
set_option maxRecDepth 65536 in
set_option maxHeartbeats 40000000 in
theorem rm4_f (l : Launch) (Z : State) (a0 : Array Value) (hw : ∀ d ∈ tables_1, d.before a0 Z = true) (ws : List Jvm.Cond) (a1 : Addr) (p2 : Int32) (c_weight : UInt64) (w3 : Int32) (w6 : Int64) (h0 : Heap) (n0 : Nat) (Z0 : n0 ≤ h0.size) (F_weight_a1 : Fld Z h0 a1 "com/example/lodestone/lodestone/index/FieldStats" "weight" "D" (.double c_weight)) (F_records_a1 : Fld Z h0 a1 "com/example/lodestone/lodestone/index/FieldStats" "records" "I" (.int w3)) (E_a1 : Exa Z h0 a1 "com/example/lodestone/lodestone/index/FieldStats") (g_a1 : n0 ≤ a1) (F_totalLength_a1 : Fld Z h0 a1 "com/example/lodestone/lodestone/index/FieldStats" "totalLength" "J" (.long w6)) (hc1 : (0 : Int32) < p2) :
    MetFree l (⟨"com/example/lodestone/lodestone/index/FieldStats", "add", "(I)V"⟩ : MethodName) (head1 (Jvm.Cond.code (⟨"com/example/lodestone/lodestone/index/FieldStats", "add", "(I)V"⟩ : MethodName) prog_2_method_2_code 2 none :: ws) ({ frames := 0, cells := 0, slots := 0, locals := 0 } : Room)) (fun a U => a = #[(.ref a1), (.int p2)] ∧ Z.Warmed39 U.vm ∧ U.heap = h0) (fun _ _ _ _ _ => True) (fun _ U o U' => ∃ v L, o = .returned v ∧ Q4 Z a1 p2 c_weight w3 w6 h0 n0 v U'.heap L ∧ FrameEnd U o U' L ({ frames := 0, cells := 0, slots := 0, locals := 0 } : Room).cells ({ frames := 0, cells := 0, slots := 0, locals := 0 } : Room).slots) := by
  refine MetFree.of_bodySF (plainFor_of_name pn_4) hisR ?_
  intro p e s m args below meth c s₁ Bd hml0 hP hK
  obtain ⟨rfl, hZ, hh⟩ := hP
  have hx := Bd.exec
  have hby := Bd.bytes
  have hml : c.maxLocals = 2 := hml0
  have hown : s.vm.findClass "com/example/lodestone/lodestone/index/FieldStats" = some m.cls := findClass_of_methodNamed Bd.named
  have hnm := (name_of_methodNamed Bd.named Bd.method).1
  have X0 : Stand p l e ({ frames := 0, cells := 0, slots := 0, locals := 0 } : Room) s m #[(.ref a1), (.int p2)] below meth c s₁ [] 0 0 := Stand.of_body Bd
  have e0 : s₁.heap = h0 := by rw [← hh, Bd.state]; rfl
  have N0 := Fr.nil n0
  have pre0 : ∀ t, Steps p.tables e below (s₁.setTop (mkF m 0 #[.val (.ref a1), .val (.int p2)] [])) t → Steps p.tables e below (s₁.setTop (entryFrame m #[(.ref a1), (.int p2)] 2)) t := fun t k => castTop (ef_4 m a1 p2) k
  -- 3. LAWS
  obtain ⟨T4, X4, e4, st4⟩ := getF X0 hx hZ hown (host := "") (Or.inl (hw _ (List.mem_of_getElem? (i := 22) rfl))) Via.refl e0 F_records_a1 (g := (mkF m 6 #[.val (.ref a1), .val (.int p2)] [(.ref a1), (.ref a1)])) rfl rfl (hb hby d4_6)
  obtain ⟨T5, h5, X5, e5, W5, st5⟩ := putF X4 hx hZ hown (host := "") (Or.inl (hw _ (List.mem_of_getElem? (i := 22) rfl))) Via.refl e4 F_records_a1 E_a1 (Or.inl (hw _ (List.mem_of_getElem? (i := 23) rfl))) (hw _ (List.mem_of_getElem? (i := 7) rfl)) (ty := .int) (by decide) rfl rfl (g := (mkF m 11 #[.val (.ref a1), .val (.int p2)] [(.int (w3 + (1 : Int32))), (.ref a1)])) rfl rfl (hb hby d4_11)
  have Fw5 := F_records_a1.same W5      -- the field now holds (.int (w3 + (1 : Int32)))
  have K5 : Keep h0 h5 [a1] := (Keep.refl h0 [a1]).wr W5 (Or.inl (List.mem_of_getElem? (i := 0) rfl))
  have N5 := Fr.snoc X5 N0 g_a1
  obtain ⟨T7, X7, e7, st7⟩ := getF X5 hx hZ hown (host := "") (Or.inl (hw _ (List.mem_of_getElem? (i := 24) rfl))) Via.refl e5 (F_totalLength_a1.other W5 (Or.inr (slot_ne (Or.inl (hw _ (List.mem_of_getElem? (i := 25) rfl))) (Or.inl (hw _ (List.mem_of_getElem? (i := 23) rfl))) (by decide) (t := .long) (t' := .int) (by decide) (by decide)))) (g := (mkF m 16 #[.val (.ref a1), .val (.int p2)] [(.ref a1), (.ref a1)])) rfl rfl (hb hby d4_16)
  obtain ⟨T8, h8, X8, e8, W8, st8⟩ := putF X7 hx hZ hown (host := "") (Or.inl (hw _ (List.mem_of_getElem? (i := 24) rfl))) Via.refl e7 (F_totalLength_a1.other W5 (Or.inr (slot_ne (Or.inl (hw _ (List.mem_of_getElem? (i := 25) rfl))) (Or.inl (hw _ (List.mem_of_getElem? (i := 23) rfl))) (by decide) (t := .long) (t' := .int) (by decide) (by decide)))) (E_a1.wr W5) (Or.inl (hw _ (List.mem_of_getElem? (i := 25) rfl))) (hw _ (List.mem_of_getElem? (i := 7) rfl)) (ty := .long) (by decide) rfl rfl (g := (mkF m 22 #[.val (.ref a1), .val (.int p2)] [(.long (w6 + (p2.toInt64))), (.ref a1)])) rfl rfl (hb hby d4_22)
  have Fw8 := (F_totalLength_a1.other W5 (Or.inr (slot_ne (Or.inl (hw _ (List.mem_of_getElem? (i := 25) rfl))) (Or.inl (hw _ (List.mem_of_getElem? (i := 23) rfl))) (by decide) (t := .long) (t' := .int) (by decide) (by decide)))).same W8      -- the field now holds (.long (w6 + (p2.toInt64)))
  have K8 : Keep h0 h8 [a1] := K5.wr W8 (Or.inl (List.mem_of_getElem? (i := 0) rfl))
  have N8 := Fr.snoc X8 N5 g_a1
  obtain ⟨fs, hr, hrun, hended, hW, hsame⟩ := X8.leave (v := none) (fun _ => rfl)
  refine ⟨_, _, pre0 _ ?_, hrun, hended, _, _, rfl, ?_, ⟨_, rfl⟩, hW, hsame.mono (by decide) (by decide)⟩
  -- 4. STEPS
  · show Steps p.tables e below (s₁.setTop (mkF m 0 #[.val (.ref a1), .val (.int p2)] [])) _
    refine XS.iloadN X0.here hx rfl (hb hby d4_0) rfl ?_
    show Steps p.tables e below (s₁.setTop (mkF m 1 #[.val (.ref a1), .val (.int p2)] [(.int p2)])) _
    refine XS.ifNo X0.here hx rfl (hb hby d4_1) rfl ((if0 _ _).trans (tlt hc1).2.2.2) ?_
    show Steps p.tables e below (s₁.setTop (mkF m 4 #[.val (.ref a1), .val (.int p2)] [])) _
    refine XS.aloadN X0.here hx rfl (hb hby d4_4) rfl rfl ?_
    show Steps p.tables e below (s₁.setTop (mkF m 5 #[.val (.ref a1), .val (.int p2)] [(.ref a1)])) _
    refine XS.dup X0.here hx rfl (hb hby d4_5) rfl rfl ?_
    show Steps p.tables e below (s₁.setTop (mkF m 6 #[.val (.ref a1), .val (.int p2)] [(.ref a1), (.ref a1)])) _
    refine st4 _ ?_
    show Steps p.tables e below (T4.setTop (mkF m 9 #[.val (.ref a1), .val (.int p2)] [(.int w3), (.ref a1)])) _
    refine XS.iconst X4.here hx rfl (hb hby d4_9) ?_
    show Steps p.tables e below (T4.setTop (mkF m 10 #[.val (.ref a1), .val (.int p2)] [(.int (1 : Int32)), (.int w3), (.ref a1)])) _
    refine XS.iadd X4.here hx rfl (hb hby d4_10) rfl ?_
    show Steps p.tables e below (T4.setTop (mkF m 11 #[.val (.ref a1), .val (.int p2)] [(.int (w3 + (1 : Int32))), (.ref a1)])) _
    refine st5 _ ?_
    show Steps p.tables e below (T5.setTop (mkF m 14 #[.val (.ref a1), .val (.int p2)] [])) _
    refine XS.aloadN X5.here hx rfl (hb hby d4_14) rfl rfl ?_
    show Steps p.tables e below (T5.setTop (mkF m 15 #[.val (.ref a1), .val (.int p2)] [(.ref a1)])) _
    refine XS.dup X5.here hx rfl (hb hby d4_15) rfl rfl ?_
    show Steps p.tables e below (T5.setTop (mkF m 16 #[.val (.ref a1), .val (.int p2)] [(.ref a1), (.ref a1)])) _
    refine st7 _ ?_
    show Steps p.tables e below (T7.setTop (mkF m 19 #[.val (.ref a1), .val (.int p2)] [(.long w6), (.ref a1)])) _
    refine XS.iloadN X7.here hx rfl (hb hby d4_19) rfl ?_
    show Steps p.tables e below (T7.setTop (mkF m 20 #[.val (.ref a1), .val (.int p2)] [(.int p2), (.long w6), (.ref a1)])) _
    refine XS.i2l X7.here hx rfl (hb hby d4_20) rfl ?_
    show Steps p.tables e below (T7.setTop (mkF m 21 #[.val (.ref a1), .val (.int p2)] [(.long (p2.toInt64)), (.long w6), (.ref a1)])) _
    refine XS.ladd X7.here hx rfl (hb hby d4_21) rfl ?_
    show Steps p.tables e below (T7.setTop (mkF m 22 #[.val (.ref a1), .val (.int p2)] [(.long (w6 + (p2.toInt64))), (.ref a1)])) _
    refine st8 _ ?_
    show Steps p.tables e below (T8.setTop (mkF m 25 #[.val (.ref a1), .val (.int p2)] [])) _
    exact X8.returnOut hx Bd.returns (hb hby d4_25) hr
  · have i1 : own_rec w3 p2 = _ := if_pos hc1
    have i2 : own_tot w6 p2 = _ := if_pos hc1
    show Q4 Z a1 p2 c_weight w3 w6 h0 n0 _ T8.heap _
    rw [e8]
    unfold Q4
    rw [i1, i2]
    exact ⟨rfl, N8, K8, ((E_a1.wr W5).wr W8), ((F_weight_a1.other W5 (Or.inr (slot_ne (Or.inr (hw _ (List.mem_of_getElem? (i := 16) rfl))) (Or.inl (hw _ (List.mem_of_getElem? (i := 23) rfl))) (by decide) (t := .double) (t' := .int) (by decide) (by decide)))).other W8 (Or.inr (slot_ne (Or.inr (hw _ (List.mem_of_getElem? (i := 16) rfl))) (Or.inl (hw _ (List.mem_of_getElem? (i := 25) rfl))) (by decide) (t := .double) (t' := .long) (by decide) (by decide)))), (Fw5.other W8 (Or.inr (slot_ne (Or.inl (hw _ (List.mem_of_getElem? (i := 23) rfl))) (Or.inl (hw _ (List.mem_of_getElem? (i := 25) rfl))) (by decide) (t := .int) (t' := .long) (by decide) (by decide)))), Fw8⟩
set_option maxRecDepth 65536 in
set_option maxHeartbeats 40000000 in
theorem rm4_t (l : Launch) (Z : State) (a0 : Array Value) (hw : ∀ d ∈ tables_1, d.before a0 Z = true) (ws : List Jvm.Cond) (a1 : Addr) (p2 : Int32) (c_weight : UInt64) (w3 : Int32) (w6 : Int64) (h0 : Heap) (n0 : Nat) (Z0 : n0 ≤ h0.size) (F_weight_a1 : Fld Z h0 a1 "com/example/lodestone/lodestone/index/FieldStats" "weight" "D" (.double c_weight)) (F_records_a1 : Fld Z h0 a1 "com/example/lodestone/lodestone/index/FieldStats" "records" "I" (.int w3)) (E_a1 : Exa Z h0 a1 "com/example/lodestone/lodestone/index/FieldStats") (g_a1 : n0 ≤ a1) (F_totalLength_a1 : Fld Z h0 a1 "com/example/lodestone/lodestone/index/FieldStats" "totalLength" "J" (.long w6)) (hc1 : ¬ ((0 : Int32) < p2)) :
    MetFree l (⟨"com/example/lodestone/lodestone/index/FieldStats", "add", "(I)V"⟩ : MethodName) (head1 (Jvm.Cond.code (⟨"com/example/lodestone/lodestone/index/FieldStats", "add", "(I)V"⟩ : MethodName) prog_2_method_2_code 2 none :: ws) ({ frames := 0, cells := 0, slots := 0, locals := 0 } : Room)) (fun a U => a = #[(.ref a1), (.int p2)] ∧ Z.Warmed39 U.vm ∧ U.heap = h0) (fun _ _ _ _ _ => True) (fun _ U o U' => ∃ v L, o = .returned v ∧ Q4 Z a1 p2 c_weight w3 w6 h0 n0 v U'.heap L ∧ FrameEnd U o U' L ({ frames := 0, cells := 0, slots := 0, locals := 0 } : Room).cells ({ frames := 0, cells := 0, slots := 0, locals := 0 } : Room).slots) := by
  refine MetFree.of_bodySF (plainFor_of_name pn_4) hisR ?_
  intro p e s m args below meth c s₁ Bd hml0 hP hK
  obtain ⟨rfl, hZ, hh⟩ := hP
  have hx := Bd.exec
  have hby := Bd.bytes
  have hml : c.maxLocals = 2 := hml0
  have hown : s.vm.findClass "com/example/lodestone/lodestone/index/FieldStats" = some m.cls := findClass_of_methodNamed Bd.named
  have hnm := (name_of_methodNamed Bd.named Bd.method).1
  have X0 : Stand p l e ({ frames := 0, cells := 0, slots := 0, locals := 0 } : Room) s m #[(.ref a1), (.int p2)] below meth c s₁ [] 0 0 := Stand.of_body Bd
  have e0 : s₁.heap = h0 := by rw [← hh, Bd.state]; rfl
  have N0 := Fr.nil n0
  have pre0 : ∀ t, Steps p.tables e below (s₁.setTop (mkF m 0 #[.val (.ref a1), .val (.int p2)] [])) t → Steps p.tables e below (s₁.setTop (entryFrame m #[(.ref a1), (.int p2)] 2)) t := fun t k => castTop (ef_4 m a1 p2) k
  -- 3. LAWS

  obtain ⟨fs, hr, hrun, hended, hW, hsame⟩ := X0.leave (v := none) (fun _ => rfl)
  refine ⟨_, _, pre0 _ ?_, hrun, hended, _, _, rfl, ?_, ⟨_, rfl⟩, hW, hsame.mono (by decide) (by decide)⟩
  -- 4. STEPS
  · show Steps p.tables e below (s₁.setTop (mkF m 0 #[.val (.ref a1), .val (.int p2)] [])) _
    refine XS.iloadN X0.here hx rfl (hb hby d4_0) rfl ?_
    show Steps p.tables e below (s₁.setTop (mkF m 1 #[.val (.ref a1), .val (.int p2)] [(.int p2)])) _
    refine XS.ifYes X0.here hx rfl (pc0 := 1) (pc' := 25) rfl (hb hby d4_1) rfl ((if0 _ _).trans (flt hc1).2.2.2) (by decide) (by decide) ?_
    show Steps p.tables e below (s₁.setTop (mkF m 25 #[.val (.ref a1), .val (.int p2)] [])) _
    exact X0.returnOut hx Bd.returns (hb hby d4_25) hr
  · show Q4 Z a1 p2 c_weight w3 w6 h0 n0 _ s₁.heap _
    rw [e0]
    have i1 : own_rec w3 p2 = w3 := if_neg hc1
    have i2 : own_tot w6 p2 = w6 := if_neg hc1
    unfold Q4
    rw [i1, i2]
    exact ⟨rfl, N0, Keep.refl _ _, E_a1, F_weight_a1, F_records_a1, F_totalLength_a1⟩
theorem rm4 (l : Launch) (Z : State) (a0 : Array Value) (hw : ∀ d ∈ tables_1, d.before a0 Z = true) (ws : List Jvm.Cond) (a1 : Addr) (p2 : Int32) (c_weight : UInt64) (w3 : Int32) (w6 : Int64) (h0 : Heap) (n0 : Nat) (Z0 : n0 ≤ h0.size) (F_weight_a1 : Fld Z h0 a1 "com/example/lodestone/lodestone/index/FieldStats" "weight" "D" (.double c_weight)) (F_records_a1 : Fld Z h0 a1 "com/example/lodestone/lodestone/index/FieldStats" "records" "I" (.int w3)) (E_a1 : Exa Z h0 a1 "com/example/lodestone/lodestone/index/FieldStats") (g_a1 : n0 ≤ a1) (F_totalLength_a1 : Fld Z h0 a1 "com/example/lodestone/lodestone/index/FieldStats" "totalLength" "J" (.long w6)) :
    MetFree l (⟨"com/example/lodestone/lodestone/index/FieldStats", "add", "(I)V"⟩ : MethodName) (head1 (Jvm.Cond.code (⟨"com/example/lodestone/lodestone/index/FieldStats", "add", "(I)V"⟩ : MethodName) prog_2_method_2_code 2 none :: ws) ({ frames := 0, cells := 0, slots := 0, locals := 0 } : Room)) (fun a U => a = #[(.ref a1), (.int p2)] ∧ Z.Warmed39 U.vm ∧ U.heap = h0) (fun _ _ _ _ _ => True) (fun _ U o U' => ∃ v L, o = .returned v ∧ Q4 Z a1 p2 c_weight w3 w6 h0 n0 v U'.heap L ∧ FrameEnd U o U' L ({ frames := 0, cells := 0, slots := 0, locals := 0 } : Room).cells ({ frames := 0, cells := 0, slots := 0, locals := 0 } : Room).slots) := by
  by_cases h : (0 : Int32) < p2
  · exact rm4_f l Z a0 hw ws a1 p2 c_weight w3 w6 h0 n0 Z0 F_weight_a1 F_records_a1 E_a1 g_a1 F_totalLength_a1 h
  · exact rm4_t l Z a0 hw ws a1 p2 c_weight w3 w6 h0 n0 Z0 F_weight_a1 F_records_a1 E_a1 g_a1 F_totalLength_a1 h
theorem d5_0 : decode prog_2_method_3_code 0 = .ok (.iload_n 1, 1) := by decide +kernel
theorem d5_1 : decode prog_2_method_3_code 1 = .ok (.ifCond .le 24, 3) := by decide +kernel
theorem d5_4 : decode prog_2_method_3_code 4 = .ok (.aload_n 0, 1) := by decide +kernel
theorem d5_5 : decode prog_2_method_3_code 5 = .ok (.dup, 1) := by decide +kernel
theorem d5_6 : decode prog_2_method_3_code 6 = .ok (.getfield 13, 3) := by decide +kernel
theorem d5_9 : decode prog_2_method_3_code 9 = .ok (.iconst 1, 1) := by decide +kernel
theorem d5_10 : decode prog_2_method_3_code 10 = .ok (.isub, 1) := by decide +kernel
theorem d5_11 : decode prog_2_method_3_code 11 = .ok (.putfield 13, 3) := by decide +kernel
theorem d5_14 : decode prog_2_method_3_code 14 = .ok (.aload_n 0, 1) := by decide +kernel
theorem d5_15 : decode prog_2_method_3_code 15 = .ok (.dup, 1) := by decide +kernel
theorem d5_16 : decode prog_2_method_3_code 16 = .ok (.getfield 17, 3) := by decide +kernel
theorem d5_19 : decode prog_2_method_3_code 19 = .ok (.iload_n 1, 1) := by decide +kernel
theorem d5_20 : decode prog_2_method_3_code 20 = .ok (.i2l, 1) := by decide +kernel
theorem d5_21 : decode prog_2_method_3_code 21 = .ok (.lsub, 1) := by decide +kernel
theorem d5_22 : decode prog_2_method_3_code 22 = .ok (.putfield 17, 3) := by decide +kernel
theorem d5_25 : decode prog_2_method_3_code 25 = .ok (.return_, 1) := by decide +kernel
theorem pn_5 : plainName "com/example/lodestone/lodestone/index/FieldStats" = true := by first | (simp [plainName, overriddenIn]; done) | decide +kernel
theorem ef_5 (m : MethodId) (x0 : Addr) (x1 : Int32) : entryFrame m #[(.ref x0), (.int x1)] 2 = mkF m 0 #[.val (.ref x0), .val (.int x1)] [] := by first | (simp [entryFrame, mkF, argsToLocals, Value.category]; done) | rfl
def Q5 (Z : State) (a1 : Addr) (p2 : Int32) (c_weight : UInt64) (w3 : Int32) (w6 : Int64) (h0 : Heap) (n0 : Nat) (v : Option Value) (h : Heap) (L : List Loc) : Prop := v = none ∧ Fr n0 L ∧ Keep h0 h [a1] ∧ Exa Z h a1 "com/example/lodestone/lodestone/index/FieldStats" ∧ Fld Z h a1 "com/example/lodestone/lodestone/index/FieldStats" "weight" "D" (.double c_weight) ∧ Fld Z h a1 "com/example/lodestone/lodestone/index/FieldStats" "records" "I" (.int (own_recm w3 p2)) ∧ Fld Z h a1 "com/example/lodestone/lodestone/index/FieldStats" "totalLength" "J" (.long (own_totm w6 p2))
set_option maxRecDepth 65536 in
set_option maxHeartbeats 40000000 in
theorem rm5_f (l : Launch) (Z : State) (a0 : Array Value) (hw : ∀ d ∈ tables_1, d.before a0 Z = true) (ws : List Jvm.Cond) (a1 : Addr) (p2 : Int32) (c_weight : UInt64) (w3 : Int32) (w6 : Int64) (h0 : Heap) (n0 : Nat) (Z0 : n0 ≤ h0.size) (F_weight_a1 : Fld Z h0 a1 "com/example/lodestone/lodestone/index/FieldStats" "weight" "D" (.double c_weight)) (F_records_a1 : Fld Z h0 a1 "com/example/lodestone/lodestone/index/FieldStats" "records" "I" (.int w3)) (E_a1 : Exa Z h0 a1 "com/example/lodestone/lodestone/index/FieldStats") (g_a1 : n0 ≤ a1) (F_totalLength_a1 : Fld Z h0 a1 "com/example/lodestone/lodestone/index/FieldStats" "totalLength" "J" (.long w6)) (hc1 : (0 : Int32) < p2) :
    MetFree l (⟨"com/example/lodestone/lodestone/index/FieldStats", "remove", "(I)V"⟩ : MethodName) (head1 (Jvm.Cond.code (⟨"com/example/lodestone/lodestone/index/FieldStats", "remove", "(I)V"⟩ : MethodName) prog_2_method_3_code 2 none :: ws) ({ frames := 0, cells := 0, slots := 0, locals := 0 } : Room)) (fun a U => a = #[(.ref a1), (.int p2)] ∧ Z.Warmed39 U.vm ∧ U.heap = h0) (fun _ _ _ _ _ => True) (fun _ U o U' => ∃ v L, o = .returned v ∧ Q5 Z a1 p2 c_weight w3 w6 h0 n0 v U'.heap L ∧ FrameEnd U o U' L ({ frames := 0, cells := 0, slots := 0, locals := 0 } : Room).cells ({ frames := 0, cells := 0, slots := 0, locals := 0 } : Room).slots) := by
  refine MetFree.of_bodySF (plainFor_of_name pn_5) hisR ?_
  intro p e s m args below meth c s₁ Bd hml0 hP hK
  obtain ⟨rfl, hZ, hh⟩ := hP
  have hx := Bd.exec
  have hby := Bd.bytes
  have hml : c.maxLocals = 2 := hml0
  have hown : s.vm.findClass "com/example/lodestone/lodestone/index/FieldStats" = some m.cls := findClass_of_methodNamed Bd.named
  have hnm := (name_of_methodNamed Bd.named Bd.method).1
  have X0 : Stand p l e ({ frames := 0, cells := 0, slots := 0, locals := 0 } : Room) s m #[(.ref a1), (.int p2)] below meth c s₁ [] 0 0 := Stand.of_body Bd
  have e0 : s₁.heap = h0 := by rw [← hh, Bd.state]; rfl
  have N0 := Fr.nil n0
  have pre0 : ∀ t, Steps p.tables e below (s₁.setTop (mkF m 0 #[.val (.ref a1), .val (.int p2)] [])) t → Steps p.tables e below (s₁.setTop (entryFrame m #[(.ref a1), (.int p2)] 2)) t := fun t k => castTop (ef_5 m a1 p2) k
  -- 3. LAWS
  obtain ⟨T4, X4, e4, st4⟩ := getF X0 hx hZ hown (host := "") (Or.inl (hw _ (List.mem_of_getElem? (i := 22) rfl))) Via.refl e0 F_records_a1 (g := (mkF m 6 #[.val (.ref a1), .val (.int p2)] [(.ref a1), (.ref a1)])) rfl rfl (hb hby d5_6)
  obtain ⟨T5, h5, X5, e5, W5, st5⟩ := putF X4 hx hZ hown (host := "") (Or.inl (hw _ (List.mem_of_getElem? (i := 22) rfl))) Via.refl e4 F_records_a1 E_a1 (Or.inl (hw _ (List.mem_of_getElem? (i := 23) rfl))) (hw _ (List.mem_of_getElem? (i := 7) rfl)) (ty := .int) (by decide) rfl rfl (g := (mkF m 11 #[.val (.ref a1), .val (.int p2)] [(.int (w3 - (1 : Int32))), (.ref a1)])) rfl rfl (hb hby d5_11)
  have Fw5 := F_records_a1.same W5      -- the field now holds (.int (w3 - (1 : Int32)))
  have K5 : Keep h0 h5 [a1] := (Keep.refl h0 [a1]).wr W5 (Or.inl (List.mem_of_getElem? (i := 0) rfl))
  have N5 := Fr.snoc X5 N0 g_a1
  obtain ⟨T7, X7, e7, st7⟩ := getF X5 hx hZ hown (host := "") (Or.inl (hw _ (List.mem_of_getElem? (i := 24) rfl))) Via.refl e5 (F_totalLength_a1.other W5 (Or.inr (slot_ne (Or.inl (hw _ (List.mem_of_getElem? (i := 25) rfl))) (Or.inl (hw _ (List.mem_of_getElem? (i := 23) rfl))) (by decide) (t := .long) (t' := .int) (by decide) (by decide)))) (g := (mkF m 16 #[.val (.ref a1), .val (.int p2)] [(.ref a1), (.ref a1)])) rfl rfl (hb hby d5_16)
  obtain ⟨T8, h8, X8, e8, W8, st8⟩ := putF X7 hx hZ hown (host := "") (Or.inl (hw _ (List.mem_of_getElem? (i := 24) rfl))) Via.refl e7 (F_totalLength_a1.other W5 (Or.inr (slot_ne (Or.inl (hw _ (List.mem_of_getElem? (i := 25) rfl))) (Or.inl (hw _ (List.mem_of_getElem? (i := 23) rfl))) (by decide) (t := .long) (t' := .int) (by decide) (by decide)))) (E_a1.wr W5) (Or.inl (hw _ (List.mem_of_getElem? (i := 25) rfl))) (hw _ (List.mem_of_getElem? (i := 7) rfl)) (ty := .long) (by decide) rfl rfl (g := (mkF m 22 #[.val (.ref a1), .val (.int p2)] [(.long (w6 - (p2.toInt64))), (.ref a1)])) rfl rfl (hb hby d5_22)
  have Fw8 := (F_totalLength_a1.other W5 (Or.inr (slot_ne (Or.inl (hw _ (List.mem_of_getElem? (i := 25) rfl))) (Or.inl (hw _ (List.mem_of_getElem? (i := 23) rfl))) (by decide) (t := .long) (t' := .int) (by decide) (by decide)))).same W8      -- the field now holds (.long (w6 - (p2.toInt64)))
  have K8 : Keep h0 h8 [a1] := K5.wr W8 (Or.inl (List.mem_of_getElem? (i := 0) rfl))
  have N8 := Fr.snoc X8 N5 g_a1
  obtain ⟨fs, hr, hrun, hended, hW, hsame⟩ := X8.leave (v := none) (fun _ => rfl)
  refine ⟨_, _, pre0 _ ?_, hrun, hended, _, _, rfl, ?_, ⟨_, rfl⟩, hW, hsame.mono (by decide) (by decide)⟩
  -- 4. STEPS
  · show Steps p.tables e below (s₁.setTop (mkF m 0 #[.val (.ref a1), .val (.int p2)] [])) _
    refine XS.iloadN X0.here hx rfl (hb hby d5_0) rfl ?_
    show Steps p.tables e below (s₁.setTop (mkF m 1 #[.val (.ref a1), .val (.int p2)] [(.int p2)])) _
    refine XS.ifNo X0.here hx rfl (hb hby d5_1) rfl ((if0 _ _).trans (tlt hc1).2.2.2) ?_
    show Steps p.tables e below (s₁.setTop (mkF m 4 #[.val (.ref a1), .val (.int p2)] [])) _
    refine XS.aloadN X0.here hx rfl (hb hby d5_4) rfl rfl ?_
    show Steps p.tables e below (s₁.setTop (mkF m 5 #[.val (.ref a1), .val (.int p2)] [(.ref a1)])) _
    refine XS.dup X0.here hx rfl (hb hby d5_5) rfl rfl ?_
    show Steps p.tables e below (s₁.setTop (mkF m 6 #[.val (.ref a1), .val (.int p2)] [(.ref a1), (.ref a1)])) _
    refine st4 _ ?_
    show Steps p.tables e below (T4.setTop (mkF m 9 #[.val (.ref a1), .val (.int p2)] [(.int w3), (.ref a1)])) _
    refine XS.iconst X4.here hx rfl (hb hby d5_9) ?_
    show Steps p.tables e below (T4.setTop (mkF m 10 #[.val (.ref a1), .val (.int p2)] [(.int (1 : Int32)), (.int w3), (.ref a1)])) _
    refine XS.isub X4.here hx rfl (hb hby d5_10) rfl ?_
    show Steps p.tables e below (T4.setTop (mkF m 11 #[.val (.ref a1), .val (.int p2)] [(.int (w3 - (1 : Int32))), (.ref a1)])) _
    refine st5 _ ?_
    show Steps p.tables e below (T5.setTop (mkF m 14 #[.val (.ref a1), .val (.int p2)] [])) _
    refine XS.aloadN X5.here hx rfl (hb hby d5_14) rfl rfl ?_
    show Steps p.tables e below (T5.setTop (mkF m 15 #[.val (.ref a1), .val (.int p2)] [(.ref a1)])) _
    refine XS.dup X5.here hx rfl (hb hby d5_15) rfl rfl ?_
    show Steps p.tables e below (T5.setTop (mkF m 16 #[.val (.ref a1), .val (.int p2)] [(.ref a1), (.ref a1)])) _
    refine st7 _ ?_
    show Steps p.tables e below (T7.setTop (mkF m 19 #[.val (.ref a1), .val (.int p2)] [(.long w6), (.ref a1)])) _
    refine XS.iloadN X7.here hx rfl (hb hby d5_19) rfl ?_
    show Steps p.tables e below (T7.setTop (mkF m 20 #[.val (.ref a1), .val (.int p2)] [(.int p2), (.long w6), (.ref a1)])) _
    refine XS.i2l X7.here hx rfl (hb hby d5_20) rfl ?_
    show Steps p.tables e below (T7.setTop (mkF m 21 #[.val (.ref a1), .val (.int p2)] [(.long (p2.toInt64)), (.long w6), (.ref a1)])) _
    refine XS.lsub X7.here hx rfl (hb hby d5_21) rfl ?_
    show Steps p.tables e below (T7.setTop (mkF m 22 #[.val (.ref a1), .val (.int p2)] [(.long (w6 - (p2.toInt64))), (.ref a1)])) _
    refine st8 _ ?_
    show Steps p.tables e below (T8.setTop (mkF m 25 #[.val (.ref a1), .val (.int p2)] [])) _
    exact X8.returnOut hx Bd.returns (hb hby d5_25) hr
  · have i1 : own_recm w3 p2 = _ := if_pos hc1
    have i2 : own_totm w6 p2 = _ := if_pos hc1
    show Q5 Z a1 p2 c_weight w3 w6 h0 n0 _ T8.heap _
    rw [e8]
    unfold Q5
    rw [i1, i2]
    exact ⟨rfl, N8, K8, ((E_a1.wr W5).wr W8), ((F_weight_a1.other W5 (Or.inr (slot_ne (Or.inr (hw _ (List.mem_of_getElem? (i := 16) rfl))) (Or.inl (hw _ (List.mem_of_getElem? (i := 23) rfl))) (by decide) (t := .double) (t' := .int) (by decide) (by decide)))).other W8 (Or.inr (slot_ne (Or.inr (hw _ (List.mem_of_getElem? (i := 16) rfl))) (Or.inl (hw _ (List.mem_of_getElem? (i := 25) rfl))) (by decide) (t := .double) (t' := .long) (by decide) (by decide)))), (Fw5.other W8 (Or.inr (slot_ne (Or.inl (hw _ (List.mem_of_getElem? (i := 23) rfl))) (Or.inl (hw _ (List.mem_of_getElem? (i := 25) rfl))) (by decide) (t := .int) (t' := .long) (by decide) (by decide)))), Fw8⟩
set_option maxRecDepth 65536 in
set_option maxHeartbeats 40000000 in
theorem rm5_t (l : Launch) (Z : State) (a0 : Array Value) (hw : ∀ d ∈ tables_1, d.before a0 Z = true) (ws : List Jvm.Cond) (a1 : Addr) (p2 : Int32) (c_weight : UInt64) (w3 : Int32) (w6 : Int64) (h0 : Heap) (n0 : Nat) (Z0 : n0 ≤ h0.size) (F_weight_a1 : Fld Z h0 a1 "com/example/lodestone/lodestone/index/FieldStats" "weight" "D" (.double c_weight)) (F_records_a1 : Fld Z h0 a1 "com/example/lodestone/lodestone/index/FieldStats" "records" "I" (.int w3)) (E_a1 : Exa Z h0 a1 "com/example/lodestone/lodestone/index/FieldStats") (g_a1 : n0 ≤ a1) (F_totalLength_a1 : Fld Z h0 a1 "com/example/lodestone/lodestone/index/FieldStats" "totalLength" "J" (.long w6)) (hc1 : ¬ ((0 : Int32) < p2)) :
    MetFree l (⟨"com/example/lodestone/lodestone/index/FieldStats", "remove", "(I)V"⟩ : MethodName) (head1 (Jvm.Cond.code (⟨"com/example/lodestone/lodestone/index/FieldStats", "remove", "(I)V"⟩ : MethodName) prog_2_method_3_code 2 none :: ws) ({ frames := 0, cells := 0, slots := 0, locals := 0 } : Room)) (fun a U => a = #[(.ref a1), (.int p2)] ∧ Z.Warmed39 U.vm ∧ U.heap = h0) (fun _ _ _ _ _ => True) (fun _ U o U' => ∃ v L, o = .returned v ∧ Q5 Z a1 p2 c_weight w3 w6 h0 n0 v U'.heap L ∧ FrameEnd U o U' L ({ frames := 0, cells := 0, slots := 0, locals := 0 } : Room).cells ({ frames := 0, cells := 0, slots := 0, locals := 0 } : Room).slots) := by
  refine MetFree.of_bodySF (plainFor_of_name pn_5) hisR ?_
  intro p e s m args below meth c s₁ Bd hml0 hP hK
  obtain ⟨rfl, hZ, hh⟩ := hP
  have hx := Bd.exec
  have hby := Bd.bytes
  have hml : c.maxLocals = 2 := hml0
  have hown : s.vm.findClass "com/example/lodestone/lodestone/index/FieldStats" = some m.cls := findClass_of_methodNamed Bd.named
  have hnm := (name_of_methodNamed Bd.named Bd.method).1
  have X0 : Stand p l e ({ frames := 0, cells := 0, slots := 0, locals := 0 } : Room) s m #[(.ref a1), (.int p2)] below meth c s₁ [] 0 0 := Stand.of_body Bd
  have e0 : s₁.heap = h0 := by rw [← hh, Bd.state]; rfl
  have N0 := Fr.nil n0
  have pre0 : ∀ t, Steps p.tables e below (s₁.setTop (mkF m 0 #[.val (.ref a1), .val (.int p2)] [])) t → Steps p.tables e below (s₁.setTop (entryFrame m #[(.ref a1), (.int p2)] 2)) t := fun t k => castTop (ef_5 m a1 p2) k
  -- 3. LAWS

  obtain ⟨fs, hr, hrun, hended, hW, hsame⟩ := X0.leave (v := none) (fun _ => rfl)
  refine ⟨_, _, pre0 _ ?_, hrun, hended, _, _, rfl, ?_, ⟨_, rfl⟩, hW, hsame.mono (by decide) (by decide)⟩
  -- 4. STEPS
  · show Steps p.tables e below (s₁.setTop (mkF m 0 #[.val (.ref a1), .val (.int p2)] [])) _
    refine XS.iloadN X0.here hx rfl (hb hby d5_0) rfl ?_
    show Steps p.tables e below (s₁.setTop (mkF m 1 #[.val (.ref a1), .val (.int p2)] [(.int p2)])) _
    refine XS.ifYes X0.here hx rfl (pc0 := 1) (pc' := 25) rfl (hb hby d5_1) rfl ((if0 _ _).trans (flt hc1).2.2.2) (by decide) (by decide) ?_
    show Steps p.tables e below (s₁.setTop (mkF m 25 #[.val (.ref a1), .val (.int p2)] [])) _
    exact X0.returnOut hx Bd.returns (hb hby d5_25) hr
  · show Q5 Z a1 p2 c_weight w3 w6 h0 n0 _ s₁.heap _
    rw [e0]
    have i1 : own_recm w3 p2 = w3 := if_neg hc1
    have i2 : own_totm w6 p2 = w6 := if_neg hc1
    unfold Q5
    rw [i1, i2]
    exact ⟨rfl, N0, Keep.refl _ _, E_a1, F_weight_a1, F_records_a1, F_totalLength_a1⟩
theorem rm5 (l : Launch) (Z : State) (a0 : Array Value) (hw : ∀ d ∈ tables_1, d.before a0 Z = true) (ws : List Jvm.Cond) (a1 : Addr) (p2 : Int32) (c_weight : UInt64) (w3 : Int32) (w6 : Int64) (h0 : Heap) (n0 : Nat) (Z0 : n0 ≤ h0.size) (F_weight_a1 : Fld Z h0 a1 "com/example/lodestone/lodestone/index/FieldStats" "weight" "D" (.double c_weight)) (F_records_a1 : Fld Z h0 a1 "com/example/lodestone/lodestone/index/FieldStats" "records" "I" (.int w3)) (E_a1 : Exa Z h0 a1 "com/example/lodestone/lodestone/index/FieldStats") (g_a1 : n0 ≤ a1) (F_totalLength_a1 : Fld Z h0 a1 "com/example/lodestone/lodestone/index/FieldStats" "totalLength" "J" (.long w6)) :
    MetFree l (⟨"com/example/lodestone/lodestone/index/FieldStats", "remove", "(I)V"⟩ : MethodName) (head1 (Jvm.Cond.code (⟨"com/example/lodestone/lodestone/index/FieldStats", "remove", "(I)V"⟩ : MethodName) prog_2_method_3_code 2 none :: ws) ({ frames := 0, cells := 0, slots := 0, locals := 0 } : Room)) (fun a U => a = #[(.ref a1), (.int p2)] ∧ Z.Warmed39 U.vm ∧ U.heap = h0) (fun _ _ _ _ _ => True) (fun _ U o U' => ∃ v L, o = .returned v ∧ Q5 Z a1 p2 c_weight w3 w6 h0 n0 v U'.heap L ∧ FrameEnd U o U' L ({ frames := 0, cells := 0, slots := 0, locals := 0 } : Room).cells ({ frames := 0, cells := 0, slots := 0, locals := 0 } : Room).slots) := by
  by_cases h : (0 : Int32) < p2
  · exact rm5_f l Z a0 hw ws a1 p2 c_weight w3 w6 h0 n0 Z0 F_weight_a1 F_records_a1 E_a1 g_a1 F_totalLength_a1 h
  · exact rm5_t l Z a0 hw ws a1 p2 c_weight w3 w6 h0 n0 Z0 F_weight_a1 F_records_a1 E_a1 g_a1 F_totalLength_a1 h
theorem d6_0 : decode prog_2_method_5_code 0 = .ok (.aload_n 0, 1) := by decide +kernel
theorem d6_1 : decode prog_2_method_5_code 1 = .ok (.getfield 17, 3) := by decide +kernel
theorem d6_4 : decode prog_2_method_5_code 4 = .ok (.l2d, 1) := by decide +kernel
theorem d6_5 : decode prog_2_method_5_code 5 = .ok (.aload_n 0, 1) := by decide +kernel
theorem d6_6 : decode prog_2_method_5_code 6 = .ok (.getfield 13, 3) := by decide +kernel
theorem d6_9 : decode prog_2_method_5_code 9 = .ok (.i2d, 1) := by decide +kernel
theorem d6_10 : decode prog_2_method_5_code 10 = .ok (.ddiv, 1) := by decide +kernel
theorem d6_11 : decode prog_2_method_5_code 11 = .ok (.dstore 5, 2) := by decide +kernel
theorem d6_13 : decode prog_2_method_5_code 13 = .ok (.iload_n 3, 1) := by decide +kernel
theorem d6_14 : decode prog_2_method_5_code 14 = .ok (.i2d, 1) := by decide +kernel
theorem d6_15 : decode prog_2_method_5_code 15 = .ok (.ldc2_w 29, 3) := by decide +kernel
theorem d6_18 : decode prog_2_method_5_code 18 = .ok (.ldc2_w 31, 3) := by decide +kernel
theorem d6_21 : decode prog_2_method_5_code 21 = .ok (.ldc2_w 33, 3) := by decide +kernel
theorem d6_24 : decode prog_2_method_5_code 24 = .ok (.iload 4, 2) := by decide +kernel
theorem d6_26 : decode prog_2_method_5_code 26 = .ok (.i2d, 1) := by decide +kernel
theorem d6_27 : decode prog_2_method_5_code 27 = .ok (.dmul, 1) := by decide +kernel
theorem d6_28 : decode prog_2_method_5_code 28 = .ok (.dload 5, 2) := by decide +kernel
theorem d6_30 : decode prog_2_method_5_code 30 = .ok (.ddiv, 1) := by decide +kernel
theorem d6_31 : decode prog_2_method_5_code 31 = .ok (.dadd, 1) := by decide +kernel
theorem d6_32 : decode prog_2_method_5_code 32 = .ok (.dmul, 1) := by decide +kernel
theorem d6_33 : decode prog_2_method_5_code 33 = .ok (.dadd, 1) := by decide +kernel
theorem d6_34 : decode prog_2_method_5_code 34 = .ok (.dstore 7, 2) := by decide +kernel
theorem d6_36 : decode prog_2_method_5_code 36 = .ok (.aload_n 0, 1) := by decide +kernel
theorem d6_37 : decode prog_2_method_5_code 37 = .ok (.getfield 7, 3) := by decide +kernel
theorem d6_40 : decode prog_2_method_5_code 40 = .ok (.dload_n 1, 1) := by decide +kernel
theorem d6_41 : decode prog_2_method_5_code 41 = .ok (.dmul, 1) := by decide +kernel
theorem d6_42 : decode prog_2_method_5_code 42 = .ok (.iload_n 3, 1) := by decide +kernel
theorem d6_43 : decode prog_2_method_5_code 43 = .ok (.i2d, 1) := by decide +kernel
theorem d6_44 : decode prog_2_method_5_code 44 = .ok (.dmul, 1) := by decide +kernel
theorem d6_45 : decode prog_2_method_5_code 45 = .ok (.ldc2_w 35, 3) := by decide +kernel
theorem d6_48 : decode prog_2_method_5_code 48 = .ok (.dmul, 1) := by decide +kernel
theorem d6_49 : decode prog_2_method_5_code 49 = .ok (.dload 7, 2) := by decide +kernel
theorem d6_51 : decode prog_2_method_5_code 51 = .ok (.ddiv, 1) := by decide +kernel
theorem d6_52 : decode prog_2_method_5_code 52 = .ok (.dreturn, 1) := by decide +kernel
theorem pn_6 : plainName "com/example/lodestone/lodestone/index/FieldStats" = true := by first | (simp [plainName, overriddenIn]; done) | decide +kernel
theorem ef_6 (m : MethodId) (x0 : Addr) (x1 : UInt64) (x2 : Int32) (x3 : Int32) : entryFrame m #[(.ref x0), (.double x1), (.int x2), (.int x3)] 9 = mkF m 0 #[.val (.ref x0), .val (.double x1), .second, .val (.int x2), .val (.int x3), .unset, .unset, .unset, .unset] [] := by first | (simp [entryFrame, mkF, argsToLocals, Value.category]; done) | rfl
def Q6 (Z : State) (a1 : Addr) (d2 : UInt64) (p3 : Int32) (p4 : Int32) (w5 : Int64) (t4 : UInt64) (w7 : Int32) (t9 : UInt64) (t10 : UInt64) (t14 : UInt64) (t26 : UInt64) (t27 : UInt64) (t30 : UInt64) (t31 : UInt64) (t32 : UInt64) (t33 : UInt64) (w9 : UInt64) (t41 : UInt64) (t43 : UInt64) (t44 : UInt64) (t48 : UInt64) (t51 : UInt64) (h0 : Heap) (n0 : Nat) (v : Option Value) (h : Heap) (L : List Loc) : Prop := v = some (.double t51) ∧ Fr n0 L ∧ h = h0
set_option maxRecDepth 65536 in
set_option maxHeartbeats 40000000 in
theorem rm6 (l : Launch) (Z : State) (a0 : Array Value) (hw : ∀ d ∈ tables_1, d.before a0 Z = true) (ws : List Jvm.Cond) (a1 : Addr) (d2 : UInt64) (p3 : Int32) (p4 : Int32) (w5 : Int64) (t4 : UInt64) (w7 : Int32) (t9 : UInt64) (t10 : UInt64) (t14 : UInt64) (t26 : UInt64) (t27 : UInt64) (t30 : UInt64) (t31 : UInt64) (t32 : UInt64) (t33 : UInt64) (w9 : UInt64) (t41 : UInt64) (t43 : UInt64) (t44 : UInt64) (t48 : UInt64) (t51 : UInt64) (h0 : Heap) (n0 : Nat) (Z0 : n0 ≤ h0.size) (F_totalLength_a1 : Fld Z h0 a1 "com/example/lodestone/lodestone/index/FieldStats" "totalLength" "J" (.long w5)) (F_records_a1 : Fld Z h0 a1 "com/example/lodestone/lodestone/index/FieldStats" "records" "I" (.int w7)) (F_weight_a1 : Fld Z h0 a1 "com/example/lodestone/lodestone/index/FieldStats" "weight" "D" (.double w9)) (ht4 : FP.l2d w5 = t4) (ht9 : FP.i2d w7 = t9) (hn10 : Jvm.Free.Fl.NoNaN64 (FP.ddiv t4 t9)) (ht10 : (FP.ddiv t4 t9) = t10) (ht14 : FP.i2d p3 = t14) (ht26 : FP.i2d p4 = t26) (hn27 : Jvm.Free.Fl.NoNaN64 (FP.dmul (4604930618986332160 : UInt64) t26)) (ht27 : (FP.dmul (4604930618986332160 : UInt64) t26) = t27) (hn30 : Jvm.Free.Fl.NoNaN64 (FP.ddiv t27 t10)) (ht30 : (FP.ddiv t27 t10) = t30) (hn31 : Jvm.Free.Fl.NoNaN64 (FP.dadd (4598175219545276416 : UInt64) t30)) (ht31 : (FP.dadd (4598175219545276416 : UInt64) t30) = t31) (hn32 : Jvm.Free.Fl.NoNaN64 (FP.dmul (4608083138725491507 : UInt64) t31)) (ht32 : (FP.dmul (4608083138725491507 : UInt64) t31) = t32) (hn33 : Jvm.Free.Fl.NoNaN64 (FP.dadd t14 t32)) (ht33 : (FP.dadd t14 t32) = t33) (hn41 : Jvm.Free.Fl.NoNaN64 (FP.dmul w9 d2)) (ht41 : (FP.dmul w9 d2) = t41) (ht43 : FP.i2d p3 = t43) (hn44 : Jvm.Free.Fl.NoNaN64 (FP.dmul t41 t43)) (ht44 : (FP.dmul t41 t43) = t44) (hn48 : Jvm.Free.Fl.NoNaN64 (FP.dmul t44 (4612136378390124954 : UInt64))) (ht48 : (FP.dmul t44 (4612136378390124954 : UInt64)) = t48) (hn51 : Jvm.Free.Fl.NoNaN64 (FP.ddiv t48 t33)) (ht51 : (FP.ddiv t48 t33) = t51) :
    MetFree l (⟨"com/example/lodestone/lodestone/index/FieldStats", "score", "(DII)D"⟩ : MethodName) (head1 (Jvm.Cond.code (⟨"com/example/lodestone/lodestone/index/FieldStats", "score", "(DII)D"⟩ : MethodName) prog_2_method_5_code 9 (some .double) :: ws) ({ frames := 0, cells := 0, slots := 0, locals := 0 } : Room)) (fun a U => a = #[(.ref a1), (.double d2), (.int p3), (.int p4)] ∧ Z.Warmed39 U.vm ∧ U.heap = h0) (fun _ _ _ _ _ => True) (fun _ U o U' => ∃ v L, o = .returned v ∧ Q6 Z a1 d2 p3 p4 w5 t4 w7 t9 t10 t14 t26 t27 t30 t31 t32 t33 w9 t41 t43 t44 t48 t51 h0 n0 v U'.heap L ∧ FrameEnd U o U' L ({ frames := 0, cells := 0, slots := 0, locals := 0 } : Room).cells ({ frames := 0, cells := 0, slots := 0, locals := 0 } : Room).slots) := by
  refine MetFree.of_bodySF (plainFor_of_name pn_6) hisR ?_
  intro p e s m args below meth c s₁ Bd hml0 hP hK
  obtain ⟨rfl, hZ, hh⟩ := hP
  have hx := Bd.exec
  have hby := Bd.bytes
  have hml : c.maxLocals = 9 := hml0
  have hown : s.vm.findClass "com/example/lodestone/lodestone/index/FieldStats" = some m.cls := findClass_of_methodNamed Bd.named
  have hnm := (name_of_methodNamed Bd.named Bd.method).1
  have X0 : Stand p l e ({ frames := 0, cells := 0, slots := 0, locals := 0 } : Room) s m #[(.ref a1), (.double d2), (.int p3), (.int p4)] below meth c s₁ [] 0 0 := Stand.of_body Bd
  have e0 : s₁.heap = h0 := by rw [← hh, Bd.state]; rfl
  have N0 := Fr.nil n0
  have pre0 : ∀ t, Steps p.tables e below (s₁.setTop (mkF m 0 #[.val (.ref a1), .val (.double d2), .second, .val (.int p3), .val (.int p4), .unset, .unset, .unset, .unset] [])) t → Steps p.tables e below (s₁.setTop (entryFrame m #[(.ref a1), (.double d2), (.int p3), (.int p4)] 9)) t := fun t k => castTop (ef_6 m a1 d2 p3 p4) k
  -- 3. LAWS
  obtain ⟨T6, X6, e6, st6⟩ := getF X0 hx hZ hown (host := "") (Or.inl (hw _ (List.mem_of_getElem? (i := 24) rfl))) Via.refl e0 F_totalLength_a1 (g := (mkF m 1 #[.val (.ref a1), .val (.double d2), .second, .val (.int p3), .val (.int p4), .unset, .unset, .unset, .unset] [(.ref a1)])) rfl rfl (hb hby d6_1)
  obtain ⟨T8, X8, e8, st8⟩ := getF X6 hx hZ hown (host := "") (Or.inl (hw _ (List.mem_of_getElem? (i := 22) rfl))) Via.refl e6 F_records_a1 (g := (mkF m 6 #[.val (.ref a1), .val (.double d2), .second, .val (.int p3), .val (.int p4), .unset, .unset, .unset, .unset] [(.ref a1), (.double t4)])) rfl rfl (hb hby d6_6)
  obtain ⟨T10, X10, e10, st10⟩ := getF X8 hx hZ hown (host := "") (Or.inl (hw _ (List.mem_of_getElem? (i := 15) rfl))) Via.refl e8 F_weight_a1 (g := (mkF m 37 #[.val (.ref a1), .val (.double d2), .second, .val (.int p3), .val (.int p4), .val (.double t10), .second, .val (.double t33), .second] [(.ref a1)])) rfl rfl (hb hby d6_37)
  obtain ⟨fs, hr, hrun, hended, hW, hsame⟩ := X10.leave (v := some (.double t51)) (fun h => by rw [Bd.returns] at h; cases h)
  refine ⟨_, _, pre0 _ ?_, hrun, hended, _, _, rfl, ?_, ⟨_, rfl⟩, hW, hsame.mono (by decide) (by decide)⟩
  -- 4. STEPS
  · show Steps p.tables e below (s₁.setTop (mkF m 0 #[.val (.ref a1), .val (.double d2), .second, .val (.int p3), .val (.int p4), .unset, .unset, .unset, .unset] [])) _
    refine XS.aloadN X0.here hx rfl (hb hby d6_0) rfl rfl ?_
    show Steps p.tables e below (s₁.setTop (mkF m 1 #[.val (.ref a1), .val (.double d2), .second, .val (.int p3), .val (.int p4), .unset, .unset, .unset, .unset] [(.ref a1)])) _
    refine st6 _ ?_
    show Steps p.tables e below (T6.setTop (mkF m 4 #[.val (.ref a1), .val (.double d2), .second, .val (.int p3), .val (.int p4), .unset, .unset, .unset, .unset] [(.long w5)])) _
    refine XS.l2dS X6.here hx rfl (hb hby d6_4) rfl ht4 ?_
    show Steps p.tables e below (T6.setTop (mkF m 5 #[.val (.ref a1), .val (.double d2), .second, .val (.int p3), .val (.int p4), .unset, .unset, .unset, .unset] [(.double t4)])) _
    refine XS.aloadN X6.here hx rfl (hb hby d6_5) rfl rfl ?_
    show Steps p.tables e below (T6.setTop (mkF m 6 #[.val (.ref a1), .val (.double d2), .second, .val (.int p3), .val (.int p4), .unset, .unset, .unset, .unset] [(.ref a1), (.double t4)])) _
    refine st8 _ ?_
    show Steps p.tables e below (T8.setTop (mkF m 9 #[.val (.ref a1), .val (.double d2), .second, .val (.int p3), .val (.int p4), .unset, .unset, .unset, .unset] [(.int w7), (.double t4)])) _
    refine XS.i2dS X8.here hx rfl (hb hby d6_9) rfl ht9 ?_
    show Steps p.tables e below (T8.setTop (mkF m 10 #[.val (.ref a1), .val (.double d2), .second, .val (.int p3), .val (.int p4), .unset, .unset, .unset, .unset] [(.double t9), (.double t4)])) _
    refine XS.ddivS X8.here hx rfl (hb hby d6_10) rfl hn10 ht10 ?_
    show Steps p.tables e below (T8.setTop (mkF m 11 #[.val (.ref a1), .val (.double d2), .second, .val (.int p3), .val (.int p4), .unset, .unset, .unset, .unset] [(.double t10)])) _
    refine XS.dstore X8.here hx rfl (hb hby d6_11) rfl (l' := #[.val (.ref a1), .val (.double d2), .second, .val (.int p3), .val (.int p4), .val (.double t10), .second, .unset, .unset]) rfl ?_
    show Steps p.tables e below (T8.setTop (mkF m 13 #[.val (.ref a1), .val (.double d2), .second, .val (.int p3), .val (.int p4), .val (.double t10), .second, .unset, .unset] [])) _
    refine XS.iloadN X8.here hx rfl (hb hby d6_13) rfl ?_
    show Steps p.tables e below (T8.setTop (mkF m 14 #[.val (.ref a1), .val (.double d2), .second, .val (.int p3), .val (.int p4), .val (.double t10), .second, .unset, .unset] [(.int p3)])) _
    refine XS.i2dS X8.here hx rfl (hb hby d6_14) rfl ht14 ?_
    show Steps p.tables e below (T8.setTop (mkF m 15 #[.val (.ref a1), .val (.double d2), .second, .val (.int p3), .val (.int p4), .val (.double t10), .second, .unset, .unset] [(.double t14)])) _
    refine X8.ldc2DoubleC hx hown (mvT hZ (hw _ (List.mem_of_getElem? (i := 36) rfl))) (g := (mkF m 15 #[.val (.ref a1), .val (.double d2), .second, .val (.int p3), .val (.int p4), .val (.double t10), .second, .unset, .unset] [(.double t14)])) rfl (hb hby d6_15) _ ?_
    show Steps p.tables e below (T8.setTop (mkF m 18 #[.val (.ref a1), .val (.double d2), .second, .val (.int p3), .val (.int p4), .val (.double t10), .second, .unset, .unset] [(.double (4608083138725491507 : UInt64)), (.double t14)])) _
    refine X8.ldc2DoubleC hx hown (mvT hZ (hw _ (List.mem_of_getElem? (i := 37) rfl))) (g := (mkF m 18 #[.val (.ref a1), .val (.double d2), .second, .val (.int p3), .val (.int p4), .val (.double t10), .second, .unset, .unset] [(.double (4608083138725491507 : UInt64)), (.double t14)])) rfl (hb hby d6_18) _ ?_
    show Steps p.tables e below (T8.setTop (mkF m 21 #[.val (.ref a1), .val (.double d2), .second, .val (.int p3), .val (.int p4), .val (.double t10), .second, .unset, .unset] [(.double (4598175219545276416 : UInt64)), (.double (4608083138725491507 : UInt64)), (.double t14)])) _
    refine X8.ldc2DoubleC hx hown (mvT hZ (hw _ (List.mem_of_getElem? (i := 38) rfl))) (g := (mkF m 21 #[.val (.ref a1), .val (.double d2), .second, .val (.int p3), .val (.int p4), .val (.double t10), .second, .unset, .unset] [(.double (4598175219545276416 : UInt64)), (.double (4608083138725491507 : UInt64)), (.double t14)])) rfl (hb hby d6_21) _ ?_
    show Steps p.tables e below (T8.setTop (mkF m 24 #[.val (.ref a1), .val (.double d2), .second, .val (.int p3), .val (.int p4), .val (.double t10), .second, .unset, .unset] [(.double (4604930618986332160 : UInt64)), (.double (4598175219545276416 : UInt64)), (.double (4608083138725491507 : UInt64)), (.double t14)])) _
    refine XS.iload X8.here hx rfl (hb hby d6_24) rfl ?_
    show Steps p.tables e below (T8.setTop (mkF m 26 #[.val (.ref a1), .val (.double d2), .second, .val (.int p3), .val (.int p4), .val (.double t10), .second, .unset, .unset] [(.int p4), (.double (4604930618986332160 : UInt64)), (.double (4598175219545276416 : UInt64)), (.double (4608083138725491507 : UInt64)), (.double t14)])) _
    refine XS.i2dS X8.here hx rfl (hb hby d6_26) rfl ht26 ?_
    show Steps p.tables e below (T8.setTop (mkF m 27 #[.val (.ref a1), .val (.double d2), .second, .val (.int p3), .val (.int p4), .val (.double t10), .second, .unset, .unset] [(.double t26), (.double (4604930618986332160 : UInt64)), (.double (4598175219545276416 : UInt64)), (.double (4608083138725491507 : UInt64)), (.double t14)])) _
    refine XS.dmulS X8.here hx rfl (hb hby d6_27) rfl hn27 ht27 ?_
    show Steps p.tables e below (T8.setTop (mkF m 28 #[.val (.ref a1), .val (.double d2), .second, .val (.int p3), .val (.int p4), .val (.double t10), .second, .unset, .unset] [(.double t27), (.double (4598175219545276416 : UInt64)), (.double (4608083138725491507 : UInt64)), (.double t14)])) _
    refine XS.dload X8.here hx rfl (hb hby d6_28) rfl ?_
    show Steps p.tables e below (T8.setTop (mkF m 30 #[.val (.ref a1), .val (.double d2), .second, .val (.int p3), .val (.int p4), .val (.double t10), .second, .unset, .unset] [(.double t10), (.double t27), (.double (4598175219545276416 : UInt64)), (.double (4608083138725491507 : UInt64)), (.double t14)])) _
    refine XS.ddivS X8.here hx rfl (hb hby d6_30) rfl hn30 ht30 ?_
    show Steps p.tables e below (T8.setTop (mkF m 31 #[.val (.ref a1), .val (.double d2), .second, .val (.int p3), .val (.int p4), .val (.double t10), .second, .unset, .unset] [(.double t30), (.double (4598175219545276416 : UInt64)), (.double (4608083138725491507 : UInt64)), (.double t14)])) _
    refine XS.daddS X8.here hx rfl (hb hby d6_31) rfl hn31 ht31 ?_
    show Steps p.tables e below (T8.setTop (mkF m 32 #[.val (.ref a1), .val (.double d2), .second, .val (.int p3), .val (.int p4), .val (.double t10), .second, .unset, .unset] [(.double t31), (.double (4608083138725491507 : UInt64)), (.double t14)])) _
    refine XS.dmulS X8.here hx rfl (hb hby d6_32) rfl hn32 ht32 ?_
    show Steps p.tables e below (T8.setTop (mkF m 33 #[.val (.ref a1), .val (.double d2), .second, .val (.int p3), .val (.int p4), .val (.double t10), .second, .unset, .unset] [(.double t32), (.double t14)])) _
    refine XS.daddS X8.here hx rfl (hb hby d6_33) rfl hn33 ht33 ?_
    show Steps p.tables e below (T8.setTop (mkF m 34 #[.val (.ref a1), .val (.double d2), .second, .val (.int p3), .val (.int p4), .val (.double t10), .second, .unset, .unset] [(.double t33)])) _
    refine XS.dstore X8.here hx rfl (hb hby d6_34) rfl (l' := #[.val (.ref a1), .val (.double d2), .second, .val (.int p3), .val (.int p4), .val (.double t10), .second, .val (.double t33), .second]) rfl ?_
    show Steps p.tables e below (T8.setTop (mkF m 36 #[.val (.ref a1), .val (.double d2), .second, .val (.int p3), .val (.int p4), .val (.double t10), .second, .val (.double t33), .second] [])) _
    refine XS.aloadN X8.here hx rfl (hb hby d6_36) rfl rfl ?_
    show Steps p.tables e below (T8.setTop (mkF m 37 #[.val (.ref a1), .val (.double d2), .second, .val (.int p3), .val (.int p4), .val (.double t10), .second, .val (.double t33), .second] [(.ref a1)])) _
    refine st10 _ ?_
    show Steps p.tables e below (T10.setTop (mkF m 40 #[.val (.ref a1), .val (.double d2), .second, .val (.int p3), .val (.int p4), .val (.double t10), .second, .val (.double t33), .second] [(.double w9)])) _
    refine XS.dloadN X10.here hx rfl (hb hby d6_40) rfl ?_
    show Steps p.tables e below (T10.setTop (mkF m 41 #[.val (.ref a1), .val (.double d2), .second, .val (.int p3), .val (.int p4), .val (.double t10), .second, .val (.double t33), .second] [(.double d2), (.double w9)])) _
    refine XS.dmulS X10.here hx rfl (hb hby d6_41) rfl hn41 ht41 ?_
    show Steps p.tables e below (T10.setTop (mkF m 42 #[.val (.ref a1), .val (.double d2), .second, .val (.int p3), .val (.int p4), .val (.double t10), .second, .val (.double t33), .second] [(.double t41)])) _
    refine XS.iloadN X10.here hx rfl (hb hby d6_42) rfl ?_
    show Steps p.tables e below (T10.setTop (mkF m 43 #[.val (.ref a1), .val (.double d2), .second, .val (.int p3), .val (.int p4), .val (.double t10), .second, .val (.double t33), .second] [(.int p3), (.double t41)])) _
    refine XS.i2dS X10.here hx rfl (hb hby d6_43) rfl ht43 ?_
    show Steps p.tables e below (T10.setTop (mkF m 44 #[.val (.ref a1), .val (.double d2), .second, .val (.int p3), .val (.int p4), .val (.double t10), .second, .val (.double t33), .second] [(.double t43), (.double t41)])) _
    refine XS.dmulS X10.here hx rfl (hb hby d6_44) rfl hn44 ht44 ?_
    show Steps p.tables e below (T10.setTop (mkF m 45 #[.val (.ref a1), .val (.double d2), .second, .val (.int p3), .val (.int p4), .val (.double t10), .second, .val (.double t33), .second] [(.double t44)])) _
    refine X10.ldc2DoubleC hx hown (mvT hZ (hw _ (List.mem_of_getElem? (i := 39) rfl))) (g := (mkF m 45 #[.val (.ref a1), .val (.double d2), .second, .val (.int p3), .val (.int p4), .val (.double t10), .second, .val (.double t33), .second] [(.double t44)])) rfl (hb hby d6_45) _ ?_
    show Steps p.tables e below (T10.setTop (mkF m 48 #[.val (.ref a1), .val (.double d2), .second, .val (.int p3), .val (.int p4), .val (.double t10), .second, .val (.double t33), .second] [(.double (4612136378390124954 : UInt64)), (.double t44)])) _
    refine XS.dmulS X10.here hx rfl (hb hby d6_48) rfl hn48 ht48 ?_
    show Steps p.tables e below (T10.setTop (mkF m 49 #[.val (.ref a1), .val (.double d2), .second, .val (.int p3), .val (.int p4), .val (.double t10), .second, .val (.double t33), .second] [(.double t48)])) _
    refine XS.dload X10.here hx rfl (hb hby d6_49) rfl ?_
    show Steps p.tables e below (T10.setTop (mkF m 51 #[.val (.ref a1), .val (.double d2), .second, .val (.int p3), .val (.int p4), .val (.double t10), .second, .val (.double t33), .second] [(.double t33), (.double t48)])) _
    refine XS.ddivS X10.here hx rfl (hb hby d6_51) rfl hn51 ht51 ?_
    show Steps p.tables e below (T10.setTop (mkF m 52 #[.val (.ref a1), .val (.double d2), .second, .val (.int p3), .val (.int p4), .val (.double t10), .second, .val (.double t33), .second] [(.double t51)])) _
    exact own_retD X10 hx Bd.returns (hb hby d6_52) hr
  · show Q6 Z a1 d2 p3 p4 w5 t4 w7 t9 t10 t14 t26 t27 t30 t31 t32 t33 w9 t41 t43 t44 t48 t51 h0 n0 _ T10.heap _
    rw [e10]
    exact ⟨rfl, N0, rfl⟩
theorem pn_0 : plainName "com/example/lodestone/lodestone/index/FieldStatsScorePinLaw" = true := by first | (simp [plainName, overriddenIn]; done) | decide +kernel
theorem pd_0_1 : parseMethodDescriptor "(D)V" = some ⟨[.double], none⟩ := by decide +kernel
theorem pd_0_3 : parseMethodDescriptor "(I)V" = some ⟨[.int], none⟩ := by decide +kernel
theorem pd_0_4 : parseMethodDescriptor "(DII)D" = some ⟨[.double, .int, .int], some .double⟩ := by decide +kernel
theorem ef_0 (m : MethodId) (x0 : Int64) (x1 : Int32) (x2 : Int32) (x3 : Int64) (x4 : Int32) : entryFrame m #[(.long x0), (.int x1), (.int x2), (.long x3), (.int x4)] maxLocals = mkF m 0 #[.val (.long x0), .second, .val (.int x1), .val (.int x2), .val (.long x3), .second, .val (.int x4), .unset, .unset, .unset, .unset, .unset, .unset, .unset, .unset, .unset, .unset, .unset, .unset, .unset, .unset, .unset, .unset, .unset, .unset] [] := by first | (simp [entryFrame, mkF, argsToLocals, Value.category, maxLocals]; done) | rfl
def Q0 (n0 : Nat) (v : Option Value) (L : List Loc) : Prop := v = some (.int (1 : Int32)) ∧ Fr n0 L
set_option maxRecDepth 65536 in
set_option maxHeartbeats 40000000 in
theorem rm0_f (l : Launch) (Z : State) (a0 : Array Value) (hw : ∀ d ∈ tables_1, d.before a0 Z = true) (ws : List Jvm.Cond) (q1 : Int64) (p2 : Int32) (p3 : Int32) (q4 : Int64) (p5 : Int32) (t2 : UInt64) (t6 : UInt64) (t14 : UInt64) (t18 : UInt64) (t131 : UInt64) (t135 : UInt64) (t148 : UInt64) (t160 : UInt64) (t161 : UInt64) (t164 : UInt64) (t165 : UInt64) (t166 : UInt64) (t167 : UInt64) (t174 : UInt64) (t177 : UInt64) (t178 : UInt64) (t182 : UInt64) (t185 : UInt64) (t192 : Int32) (h0 : Heap) (n0 : Nat) (Z0 : n0 ≤ h0.size) (ht2 : FP.i2d (q1.toInt32) = t2) (hn6 : Jvm.Free.Fl.NoNaN64 (FP.ddiv t2 (4625196817309499392 : UInt64))) (ht6 : (FP.ddiv t2 (4625196817309499392 : UInt64)) = t6) (ht14 : FP.i2d ((q1 >>> ((32 : Int32) &&& 0x3f).toInt64).toInt32) = t14) (hn18 : Jvm.Free.Fl.NoNaN64 (FP.ddiv t14 (4625196817309499392 : UInt64))) (ht18 : (FP.ddiv t14 (4625196817309499392 : UInt64)) = t18) (hc121 : (0 : Int32) < ((((q4.toUInt64 >>> ((32 : Int32) &&& 0x3f).toInt64.toUInt64).toInt64).toInt32) &&& (2147483647 : Int32))) (ht131 : FP.l2d (((own_max (1 : Int32) ((q4.toInt32) &&& (2147483647 : Int32))).toInt64) + (((((q4.toUInt64 >>> ((32 : Int32) &&& 0x3f).toInt64.toUInt64).toInt64).toInt32) &&& (2147483647 : Int32)).toInt64)) = t131) (hn135 : Jvm.Free.Fl.NoNaN64 (FP.ddiv t131 (4611686018427387904 : UInt64))) (ht135 : (FP.ddiv t131 (4611686018427387904 : UInt64)) = t135) (ht148 : FP.i2d (own_max (1 : Int32) (p2 &&& (2147483647 : Int32))) = t148) (ht160 : FP.i2d (p3 &&& (2147483647 : Int32)) = t160) (hn161 : Jvm.Free.Fl.NoNaN64 (FP.dmul (4604930618986332160 : UInt64) t160)) (ht161 : (FP.dmul (4604930618986332160 : UInt64) t160) = t161) (hn164 : Jvm.Free.Fl.NoNaN64 (FP.ddiv t161 t135)) (ht164 : (FP.ddiv t161 t135) = t164) (hn165 : Jvm.Free.Fl.NoNaN64 (FP.dadd (4598175219545276416 : UInt64) t164)) (ht165 : (FP.dadd (4598175219545276416 : UInt64) t164) = t165) (hn166 : Jvm.Free.Fl.NoNaN64 (FP.dmul (4608083138725491507 : UInt64) t165)) (ht166 : (FP.dmul (4608083138725491507 : UInt64) t165) = t166) (hn167 : Jvm.Free.Fl.NoNaN64 (FP.dadd t148 t166)) (ht167 : (FP.dadd t148 t166) = t167) (hn174 : Jvm.Free.Fl.NoNaN64 (FP.dmul t6 t18)) (ht174 : (FP.dmul t6 t18) = t174) (ht177 : FP.i2d (own_max (1 : Int32) (p2 &&& (2147483647 : Int32))) = t177) (hn178 : Jvm.Free.Fl.NoNaN64 (FP.dmul t174 t177)) (ht178 : (FP.dmul t174 t177) = t178) (hn182 : Jvm.Free.Fl.NoNaN64 (FP.dmul t178 (4612136378390124954 : UInt64))) (ht182 : (FP.dmul t178 (4612136378390124954 : UInt64)) = t182) (hn185 : Jvm.Free.Fl.NoNaN64 (FP.ddiv t182 t167)) (ht185 : (FP.ddiv t182 t167) = t185) (ht192 : cmpValue (FP.dcmp t185 t185) .l = t192) (hc193 : t192 = (0 : Int32)) (hT4 : FP.l2d (own_totm (own_tot (own_tot (own_tot (0 : Int64) (own_max (1 : Int32) ((q4.toInt32) &&& (2147483647 : Int32)))) ((((q4.toUInt64 >>> ((32 : Int32) &&& 0x3f).toInt64.toUInt64).toInt64).toInt32) &&& (2147483647 : Int32))) (p5 &&& (2147483647 : Int32))) (p5 &&& (2147483647 : Int32))) = t131) (hR9 : FP.i2d (own_recm (own_rec (own_rec (own_rec (0 : Int32) (own_max (1 : Int32) ((q4.toInt32) &&& (2147483647 : Int32)))) ((((q4.toUInt64 >>> ((32 : Int32) &&& 0x3f).toInt64.toUInt64).toInt64).toInt32) &&& (2147483647 : Int32))) (p5 &&& (2147483647 : Int32))) (p5 &&& (2147483647 : Int32))) = (4611686018427387904 : UInt64)) :
    MetFree l x (head1 (Jvm.Cond.code x code maxLocals ret :: ws) room_1) (fun a U => a = #[(.long q1), (.int p2), (.int p3), (.long q4), (.int p5)] ∧ Z.Warmed39 U.vm ∧ U.heap = h0) (fun _ _ _ _ _ => True) (fun _ U o U' => ∃ v L, o = .returned v ∧ Q0 n0 v L ∧ FrameEnd U o U' L room_1.cells room_1.slots) := by
  refine MetFree.of_bodySF (plainFor_of_name pn_0) hisR ?_
  intro p e s m args below meth c s₁ Bd hml0 hP hK
  obtain ⟨rfl, hZ, hh⟩ := hP
  have hx := Bd.exec
  have hby := Bd.bytes
  have hml : c.maxLocals = 25 := hml0
  have hown : s.vm.findClass "com/example/lodestone/lodestone/index/FieldStatsScorePinLaw" = some m.cls := findClass_of_methodNamed Bd.named
  have hnm := (name_of_methodNamed Bd.named Bd.method).1
  have X0 : Stand p l e room_1 s m #[(.long q1), (.int p2), (.int p3), (.long q4), (.int p5)] below meth c s₁ [] 0 0 := Stand.of_body Bd
  have e0 : s₁.heap = h0 := by rw [← hh, Bd.state]; rfl
  have N0 := Fr.nil n0
  have pre0 : ∀ t, Steps p.tables e below (s₁.setTop (mkF m 0 #[.val (.long q1), .second, .val (.int p2), .val (.int p3), .val (.long q4), .second, .val (.int p5), .unset, .unset, .unset, .unset, .unset, .unset, .unset, .unset, .unset, .unset, .unset, .unset, .unset, .unset, .unset, .unset, .unset, .unset] [])) t → Steps p.tables e below (s₁.setTop (entryFrame m #[(.long q1), (.int p2), (.int p3), (.long q4), (.int p5)] maxLocals)) t := fun t k => castTop (ef_0 m q1 p2 p3 q4 p5) k
  -- 3. LAWS
  -- pc 26: java/lang/Math.max
  obtain ⟨T6, X6, e6, st6⟩ := own_call_max X0 hx hZ hw hown (hw _ (List.mem_of_getElem? (i := 2) rfl)) (1 : Int32) (p2 &&& (2147483647 : Int32)) (W := 0) (g := (mkF m 26 #[.val (.long q1), .second, .val (.int p2), .val (.int p3), .val (.long q4), .second, .val (.int p5), .val (.double t6), .second, .val (.double t18), .second, .unset, .unset, .unset, .unset, .unset, .unset, .unset, .unset, .unset, .unset, .unset, .unset, .unset, .unset] [(.int (p2 &&& (2147483647 : Int32))), (.int (1 : Int32))])) rfl (by rw [hml]; rfl) (rest := []) rfl (by show 2 * 0 + _ ≤ _; exact Nat.le_of_eq rfl) (hb hby at_26) (by decide) (by decide) e0
  -- pc 44: java/lang/Math.max
  obtain ⟨T7, X7, e7, st7⟩ := own_call_max X6 hx hZ hw hown (hw _ (List.mem_of_getElem? (i := 2) rfl)) (1 : Int32) ((q4.toInt32) &&& (2147483647 : Int32)) (W := 0) (g := (mkF m 44 #[.val (.long q1), .second, .val (.int p2), .val (.int p3), .val (.long q4), .second, .val (.int p5), .val (.double t6), .second, .val (.double t18), .second, .val (.int (own_max (1 : Int32) (p2 &&& (2147483647 : Int32)))), .val (.int (p3 &&& (2147483647 : Int32))), .unset, .unset, .unset, .unset, .unset, .unset, .unset, .unset, .unset, .unset, .unset, .unset] [(.int ((q4.toInt32) &&& (2147483647 : Int32))), (.int (1 : Int32))])) rfl (by rw [hml]; rfl) (rest := []) rfl (by show 2 * 0 + _ ≤ _; exact Nat.le_of_eq rfl) (hb hby at_44) (by decide) (by decide) e6
  obtain ⟨T8, h8, X8, e8, E8, A8, D8, -, st8⟩ := newO X7 hx hZ hown (hw _ (List.mem_of_getElem? (i := 6) rfl)) (hw _ (List.mem_of_getElem? (i := 7) rfl)) (hw _ (List.mem_of_getElem? (i := 8) rfl)) e7 (g := (mkF m 67 #[.val (.long q1), .second, .val (.int p2), .val (.int p3), .val (.long q4), .second, .val (.int p5), .val (.double t6), .second, .val (.double t18), .second, .val (.int (own_max (1 : Int32) (p2 &&& (2147483647 : Int32)))), .val (.int (p3 &&& (2147483647 : Int32))), .val (.int (own_max (1 : Int32) ((q4.toInt32) &&& (2147483647 : Int32)))), .val (.int ((((q4.toUInt64 >>> ((32 : Int32) &&& 0x3f).toInt64.toUInt64).toInt64).toInt32) &&& (2147483647 : Int32))), .val (.int (p5 &&& (2147483647 : Int32))), .unset, .unset, .unset, .unset, .unset, .unset, .unset, .unset, .unset] [])) rfl (hb hby at_67) (by decide) (by decide)
  obtain ⟨b8, g8⟩ : ∃ z, z = h0.size := ⟨_, rfl⟩      -- the fresh object's address
  rw [← g8] at A8 D8 st8      -- A8 : Exa Z h8 b8 "com/example/lodestone/lodestone/index/FieldStats"; E8 : Ext h0 h8 (carries every older fact: .ext E8)
  have F_weight_b8 : Fld Z h8 b8 "com/example/lodestone/lodestone/index/FieldStats" "weight" "D" (.double (0 : UInt64)) := D8 (Or.inr (hw _ (List.mem_of_getElem? (i := 16) rfl))) (ty := .double) (by decide)
  have F_records_b8 : Fld Z h8 b8 "com/example/lodestone/lodestone/index/FieldStats" "records" "I" (.int (0 : Int32)) := D8 (Or.inl (hw _ (List.mem_of_getElem? (i := 23) rfl))) (ty := .int) (by decide)
  have F_totalLength_b8 : Fld Z h8 b8 "com/example/lodestone/lodestone/index/FieldStats" "totalLength" "J" (.long (0 : Int64)) := D8 (Or.inl (hw _ (List.mem_of_getElem? (i := 25) rfl))) (ty := .long) (by decide)
  have E_b8 := A8
  have g_b8 : n0 ≤ b8 := Nat.le_trans Z0 (Nat.le_of_eq g8.symm)
  have sz_b8 : h0.size ≤ b8 := (Nat.le_trans (Keep.refl h0 []).1 (Nat.le_of_eq g8.symm))
  have K8 : Keep h0 h8 [] := (Keep.refl h0 []).ext E8
  -- pc 73: the constructor of com/example/lodestone/lodestone/index/FieldStats by its contract rm2
  obtain ⟨_, _, ⟨T9, L9, k9, n9⟩, -, X9, ⟨Lc9, hQ9, l9, y9, z9⟩, st9⟩ := X8.specialBack hx (y := (⟨"com/example/lodestone/lodestone/index/FieldStats", "<init>", "(D)V"⟩ : MethodName)) rfl hown (mvT hZ (hw _ (List.mem_of_getElem? (i := 9) rfl))) (mvT hZ (hw _ (List.mem_of_getElem? (i := 10) rfl))) (mvT hZ (hw _ (List.mem_of_getElem? (i := 11) rfl))) (by decide) (backOf (W := 1) (rm2 l Z a0 hw [] b8 t6 (0 : Int32) (0 : Int64) (.double (0 : UInt64)) h8 n0 (Nat.le_trans g_b8 (Nat.le_of_lt (Exa.lt E_b8))) F_records_b8 F_totalLength_b8 E_b8 F_weight_b8 g_b8) hZ (hw _ (List.mem_of_getElem? (i := 11) rfl)) (hw _ (List.mem_of_getElem? (i := 8) rfl)) (by decide) (by decide)) (g := (mkF m 73 #[.val (.long q1), .second, .val (.int p2), .val (.int p3), .val (.long q4), .second, .val (.int p5), .val (.double t6), .second, .val (.double t18), .second, .val (.int (own_max (1 : Int32) (p2 &&& (2147483647 : Int32)))), .val (.int (p3 &&& (2147483647 : Int32))), .val (.int (own_max (1 : Int32) ((q4.toInt32) &&& (2147483647 : Int32)))), .val (.int ((((q4.toUInt64 >>> ((32 : Int32) &&& 0x3f).toInt64.toUInt64).toInt64).toInt32) &&& (2147483647 : Int32))), .val (.int (p5 &&& (2147483647 : Int32))), .unset, .unset, .unset, .unset, .unset, .unset, .unset, .unset, .unset] [(.double t6), (.ref b8), (.ref b8)])) rfl (by rw [hml]; rfl) (Steps.refl _) (a := b8) (argsL := [(.double t6)]) (rest := [(.ref b8)]) (lenOf pd_0_1 rfl) rfl (by show 2 * 0 + _ ≤ _; exact Nat.le_of_eq rfl) (hb hby at_73) (fun _ _ => ⟨rfl, e8, (by decide : 1 + 0 ≤ _), (by decide : 3 + 0 ≤ _)⟩)
  dsimp only [Pt.U, Pt.locs, Pt.cells, Pt.slots] at X9 l9 y9 z9 st9 hQ9
  subst l9 y9 z9
  obtain ⟨rfl, N9q, Kc9, -, Fr_9, Ft_9, Fw_9⟩ := hQ9      -- what it returned, that it wrote nothing old, and the rest of your Q2
  have N9 := Fr.app N0 N9q
  -- pc 82: com/example/lodestone/lodestone/index/FieldStats.add by the contract of the body that the receiver's class selects, rm4
  obtain ⟨cq10, kq10, q10a, q10b, q10c⟩ := isOf hZ rfl (E_b8.keep Kc9)
  obtain ⟨_, _, ⟨T10, L10, k10, n10⟩, -, X10, ⟨Lc10, hQ10, l10, y10, z10⟩, st10⟩ := X9.virtualBack hx (y := (⟨"com/example/lodestone/lodestone/index/FieldStats", "add", "(I)V"⟩ : MethodName)) (z := (⟨"com/example/lodestone/lodestone/index/FieldStats", "add", "(I)V"⟩ : MethodName)) hown (mvT hZ (hw _ (List.mem_of_getElem? (i := 17) rfl))) (mvT hZ (hw _ (List.mem_of_getElem? (i := 18) rfl))) (notFace_of_selects (args := #[]) (mvT hZ (hw _ (List.mem_of_getElem? (i := 20) rfl)))) (mvT hZ (hw _ (List.mem_of_getElem? (i := 20) rfl))) (mvT hZ (hw _ (List.mem_of_getElem? (i := 19) rfl))) (by decide) (backOf (W := 0) (rm4 l Z a0 hw [] b8 (own_max (1 : Int32) ((q4.toInt32) &&& (2147483647 : Int32))) t6 (0 : Int32) (0 : Int64) T9.heap n0 (Nat.le_trans g_b8 (Nat.le_of_lt (Exa.lt (E_b8.keep Kc9)))) Fw_9 Fr_9 (E_b8.keep Kc9) g_b8 Ft_9) hZ (hw _ (List.mem_of_getElem? (i := 21) rfl)) (hw _ (List.mem_of_getElem? (i := 8) rfl)) (by decide) (by decide)) q10a q10c (g := (mkF m 82 #[.val (.long q1), .second, .val (.int p2), .val (.int p3), .val (.long q4), .second, .val (.int p5), .val (.double t6), .second, .val (.double t18), .second, .val (.int (own_max (1 : Int32) (p2 &&& (2147483647 : Int32)))), .val (.int (p3 &&& (2147483647 : Int32))), .val (.int (own_max (1 : Int32) ((q4.toInt32) &&& (2147483647 : Int32)))), .val (.int ((((q4.toUInt64 >>> ((32 : Int32) &&& 0x3f).toInt64.toUInt64).toInt64).toInt32) &&& (2147483647 : Int32))), .val (.int (p5 &&& (2147483647 : Int32))), .val (.ref b8), .unset, .unset, .unset, .unset, .unset, .unset, .unset, .unset] [(.int (own_max (1 : Int32) ((q4.toInt32) &&& (2147483647 : Int32)))), (.ref b8)])) rfl (by rw [hml]; rfl) (Steps.refl _) (argsL := [(.int (own_max (1 : Int32) ((q4.toInt32) &&& (2147483647 : Int32))))]) (rest := []) (lenOf pd_0_3 rfl) rfl (by show 2 * 0 + _ ≤ _; exact Nat.le_of_eq rfl) (hb hby at_82) (fun _ _ => ⟨rfl, rfl, (by decide : 1 + 0 ≤ _), (by decide : 3 + 0 ≤ _)⟩)
  dsimp only [Pt.U, Pt.locs, Pt.cells, Pt.slots] at X10 l10 y10 z10 st10 hQ10
  subst l10 y10 z10
  obtain ⟨rfl, N10q, Kc10, -, Fw_10, Fr_10, Ft_10⟩ := hQ10      -- what it returned, that it wrote nothing old, and the rest of your Q4
  have N10 := Fr.app N9 N10q
  -- pc 89: com/example/lodestone/lodestone/index/FieldStats.add by the contract of the body that the receiver's class selects, rm4
  obtain ⟨cq11, kq11, q11a, q11b, q11c⟩ := isOf hZ rfl ((E_b8.keep Kc9).keep Kc10)
  obtain ⟨_, _, ⟨T11, L11, k11, n11⟩, -, X11, ⟨Lc11, hQ11, l11, y11, z11⟩, st11⟩ := X10.virtualBack hx (y := (⟨"com/example/lodestone/lodestone/index/FieldStats", "add", "(I)V"⟩ : MethodName)) (z := (⟨"com/example/lodestone/lodestone/index/FieldStats", "add", "(I)V"⟩ : MethodName)) hown (mvT hZ (hw _ (List.mem_of_getElem? (i := 17) rfl))) (mvT hZ (hw _ (List.mem_of_getElem? (i := 18) rfl))) (notFace_of_selects (args := #[]) (mvT hZ (hw _ (List.mem_of_getElem? (i := 20) rfl)))) (mvT hZ (hw _ (List.mem_of_getElem? (i := 20) rfl))) (mvT hZ (hw _ (List.mem_of_getElem? (i := 19) rfl))) (by decide) (backOf (W := 0) (rm4 l Z a0 hw [] b8 ((((q4.toUInt64 >>> ((32 : Int32) &&& 0x3f).toInt64.toUInt64).toInt64).toInt32) &&& (2147483647 : Int32)) t6 (own_rec (0 : Int32) (own_max (1 : Int32) ((q4.toInt32) &&& (2147483647 : Int32)))) (own_tot (0 : Int64) (own_max (1 : Int32) ((q4.toInt32) &&& (2147483647 : Int32)))) T10.heap n0 (Nat.le_trans g_b8 (Nat.le_of_lt (Exa.lt ((E_b8.keep Kc9).keep Kc10)))) Fw_10 Fr_10 ((E_b8.keep Kc9).keep Kc10) g_b8 Ft_10) hZ (hw _ (List.mem_of_getElem? (i := 21) rfl)) (hw _ (List.mem_of_getElem? (i := 8) rfl)) (by decide) (by decide)) q11a q11c (g := (mkF m 89 #[.val (.long q1), .second, .val (.int p2), .val (.int p3), .val (.long q4), .second, .val (.int p5), .val (.double t6), .second, .val (.double t18), .second, .val (.int (own_max (1 : Int32) (p2 &&& (2147483647 : Int32)))), .val (.int (p3 &&& (2147483647 : Int32))), .val (.int (own_max (1 : Int32) ((q4.toInt32) &&& (2147483647 : Int32)))), .val (.int ((((q4.toUInt64 >>> ((32 : Int32) &&& 0x3f).toInt64.toUInt64).toInt64).toInt32) &&& (2147483647 : Int32))), .val (.int (p5 &&& (2147483647 : Int32))), .val (.ref b8), .unset, .unset, .unset, .unset, .unset, .unset, .unset, .unset] [(.int ((((q4.toUInt64 >>> ((32 : Int32) &&& 0x3f).toInt64.toUInt64).toInt64).toInt32) &&& (2147483647 : Int32))), (.ref b8)])) rfl (by rw [hml]; rfl) (Steps.refl _) (argsL := [(.int ((((q4.toUInt64 >>> ((32 : Int32) &&& 0x3f).toInt64.toUInt64).toInt64).toInt32) &&& (2147483647 : Int32)))]) (rest := []) (lenOf pd_0_3 rfl) rfl (by show 2 * 0 + _ ≤ _; exact Nat.le_of_eq rfl) (hb hby at_89) (fun _ _ => ⟨rfl, rfl, (by decide : 1 + 0 ≤ _), (by decide : 3 + 0 ≤ _)⟩)
  dsimp only [Pt.U, Pt.locs, Pt.cells, Pt.slots] at X11 l11 y11 z11 st11 hQ11
  subst l11 y11 z11
  obtain ⟨rfl, N11q, Kc11, -, Fw_11, Fr_11, Ft_11⟩ := hQ11      -- what it returned, that it wrote nothing old, and the rest of your Q4
  have N11 := Fr.app N10 N11q
  -- pc 96: com/example/lodestone/lodestone/index/FieldStats.add by the contract of the body that the receiver's class selects, rm4
  obtain ⟨cq12, kq12, q12a, q12b, q12c⟩ := isOf hZ rfl (((E_b8.keep Kc9).keep Kc10).keep Kc11)
  obtain ⟨_, _, ⟨T12, L12, k12, n12⟩, -, X12, ⟨Lc12, hQ12, l12, y12, z12⟩, st12⟩ := X11.virtualBack hx (y := (⟨"com/example/lodestone/lodestone/index/FieldStats", "add", "(I)V"⟩ : MethodName)) (z := (⟨"com/example/lodestone/lodestone/index/FieldStats", "add", "(I)V"⟩ : MethodName)) hown (mvT hZ (hw _ (List.mem_of_getElem? (i := 17) rfl))) (mvT hZ (hw _ (List.mem_of_getElem? (i := 18) rfl))) (notFace_of_selects (args := #[]) (mvT hZ (hw _ (List.mem_of_getElem? (i := 20) rfl)))) (mvT hZ (hw _ (List.mem_of_getElem? (i := 20) rfl))) (mvT hZ (hw _ (List.mem_of_getElem? (i := 19) rfl))) (by decide) (backOf (W := 0) (rm4 l Z a0 hw [] b8 (p5 &&& (2147483647 : Int32)) t6 (own_rec (own_rec (0 : Int32) (own_max (1 : Int32) ((q4.toInt32) &&& (2147483647 : Int32)))) ((((q4.toUInt64 >>> ((32 : Int32) &&& 0x3f).toInt64.toUInt64).toInt64).toInt32) &&& (2147483647 : Int32))) (own_tot (own_tot (0 : Int64) (own_max (1 : Int32) ((q4.toInt32) &&& (2147483647 : Int32)))) ((((q4.toUInt64 >>> ((32 : Int32) &&& 0x3f).toInt64.toUInt64).toInt64).toInt32) &&& (2147483647 : Int32))) T11.heap n0 (Nat.le_trans g_b8 (Nat.le_of_lt (Exa.lt (((E_b8.keep Kc9).keep Kc10).keep Kc11)))) Fw_11 Fr_11 (((E_b8.keep Kc9).keep Kc10).keep Kc11) g_b8 Ft_11) hZ (hw _ (List.mem_of_getElem? (i := 21) rfl)) (hw _ (List.mem_of_getElem? (i := 8) rfl)) (by decide) (by decide)) q12a q12c (g := (mkF m 96 #[.val (.long q1), .second, .val (.int p2), .val (.int p3), .val (.long q4), .second, .val (.int p5), .val (.double t6), .second, .val (.double t18), .second, .val (.int (own_max (1 : Int32) (p2 &&& (2147483647 : Int32)))), .val (.int (p3 &&& (2147483647 : Int32))), .val (.int (own_max (1 : Int32) ((q4.toInt32) &&& (2147483647 : Int32)))), .val (.int ((((q4.toUInt64 >>> ((32 : Int32) &&& 0x3f).toInt64.toUInt64).toInt64).toInt32) &&& (2147483647 : Int32))), .val (.int (p5 &&& (2147483647 : Int32))), .val (.ref b8), .unset, .unset, .unset, .unset, .unset, .unset, .unset, .unset] [(.int (p5 &&& (2147483647 : Int32))), (.ref b8)])) rfl (by rw [hml]; rfl) (Steps.refl _) (argsL := [(.int (p5 &&& (2147483647 : Int32)))]) (rest := []) (lenOf pd_0_3 rfl) rfl (by show 2 * 0 + _ ≤ _; exact Nat.le_of_eq rfl) (hb hby at_96) (fun _ _ => ⟨rfl, rfl, (by decide : 1 + 0 ≤ _), (by decide : 3 + 0 ≤ _)⟩)
  dsimp only [Pt.U, Pt.locs, Pt.cells, Pt.slots] at X12 l12 y12 z12 st12 hQ12
  subst l12 y12 z12
  obtain ⟨rfl, N12q, Kc12, -, Fw_12, Fr_12, Ft_12⟩ := hQ12      -- what it returned, that it wrote nothing old, and the rest of your Q4
  have N12 := Fr.app N11 N12q
  -- pc 103: com/example/lodestone/lodestone/index/FieldStats.remove by the contract of the body that the receiver's class selects, rm5
  obtain ⟨cq13, kq13, q13a, q13b, q13c⟩ := isOf hZ rfl ((((E_b8.keep Kc9).keep Kc10).keep Kc11).keep Kc12)
  obtain ⟨_, _, ⟨T13, L13, k13, n13⟩, -, X13, ⟨Lc13, hQ13, l13, y13, z13⟩, st13⟩ := X12.virtualBack hx (y := (⟨"com/example/lodestone/lodestone/index/FieldStats", "remove", "(I)V"⟩ : MethodName)) (z := (⟨"com/example/lodestone/lodestone/index/FieldStats", "remove", "(I)V"⟩ : MethodName)) hown (mvT hZ (hw _ (List.mem_of_getElem? (i := 26) rfl))) (mvT hZ (hw _ (List.mem_of_getElem? (i := 27) rfl))) (notFace_of_selects (args := #[]) (mvT hZ (hw _ (List.mem_of_getElem? (i := 29) rfl)))) (mvT hZ (hw _ (List.mem_of_getElem? (i := 29) rfl))) (mvT hZ (hw _ (List.mem_of_getElem? (i := 28) rfl))) (by decide) (backOf (W := 0) (rm5 l Z a0 hw [] b8 (p5 &&& (2147483647 : Int32)) t6 (own_rec (own_rec (own_rec (0 : Int32) (own_max (1 : Int32) ((q4.toInt32) &&& (2147483647 : Int32)))) ((((q4.toUInt64 >>> ((32 : Int32) &&& 0x3f).toInt64.toUInt64).toInt64).toInt32) &&& (2147483647 : Int32))) (p5 &&& (2147483647 : Int32))) (own_tot (own_tot (own_tot (0 : Int64) (own_max (1 : Int32) ((q4.toInt32) &&& (2147483647 : Int32)))) ((((q4.toUInt64 >>> ((32 : Int32) &&& 0x3f).toInt64.toUInt64).toInt64).toInt32) &&& (2147483647 : Int32))) (p5 &&& (2147483647 : Int32))) T12.heap n0 (Nat.le_trans g_b8 (Nat.le_of_lt (Exa.lt ((((E_b8.keep Kc9).keep Kc10).keep Kc11).keep Kc12)))) Fw_12 Fr_12 ((((E_b8.keep Kc9).keep Kc10).keep Kc11).keep Kc12) g_b8 Ft_12) hZ (hw _ (List.mem_of_getElem? (i := 30) rfl)) (hw _ (List.mem_of_getElem? (i := 8) rfl)) (by decide) (by decide)) q13a q13c (g := (mkF m 103 #[.val (.long q1), .second, .val (.int p2), .val (.int p3), .val (.long q4), .second, .val (.int p5), .val (.double t6), .second, .val (.double t18), .second, .val (.int (own_max (1 : Int32) (p2 &&& (2147483647 : Int32)))), .val (.int (p3 &&& (2147483647 : Int32))), .val (.int (own_max (1 : Int32) ((q4.toInt32) &&& (2147483647 : Int32)))), .val (.int ((((q4.toUInt64 >>> ((32 : Int32) &&& 0x3f).toInt64.toUInt64).toInt64).toInt32) &&& (2147483647 : Int32))), .val (.int (p5 &&& (2147483647 : Int32))), .val (.ref b8), .unset, .unset, .unset, .unset, .unset, .unset, .unset, .unset] [(.int (p5 &&& (2147483647 : Int32))), (.ref b8)])) rfl (by rw [hml]; rfl) (Steps.refl _) (argsL := [(.int (p5 &&& (2147483647 : Int32)))]) (rest := []) (lenOf pd_0_3 rfl) rfl (by show 2 * 0 + _ ≤ _; exact Nat.le_of_eq rfl) (hb hby at_103) (fun _ _ => ⟨rfl, rfl, (by decide : 1 + 0 ≤ _), (by decide : 3 + 0 ≤ _)⟩)
  dsimp only [Pt.U, Pt.locs, Pt.cells, Pt.slots] at X13 l13 y13 z13 st13 hQ13
  subst l13 y13 z13
  obtain ⟨rfl, N13q, Kc13, -, Fw_13, Fr_13, Ft_13⟩ := hQ13      -- what it returned, that it wrote nothing old, and the rest of your Q5
  have N13 := Fr.app N12 N13q
  -- pc 114: com/example/lodestone/lodestone/index/FieldStats.score by the contract of the body that the receiver's class selects, rm6
  obtain ⟨cq14, kq14, q14a, q14b, q14c⟩ := isOf hZ rfl (((((E_b8.keep Kc9).keep Kc10).keep Kc11).keep Kc12).keep Kc13)
  obtain ⟨_, _, ⟨T14, L14, k14, n14⟩, -, X14, ⟨Lc14, hQ14, l14, y14, z14⟩, st14⟩ := X13.virtualBack hx (y := (⟨"com/example/lodestone/lodestone/index/FieldStats", "score", "(DII)D"⟩ : MethodName)) (z := (⟨"com/example/lodestone/lodestone/index/FieldStats", "score", "(DII)D"⟩ : MethodName)) hown (mvT hZ (hw _ (List.mem_of_getElem? (i := 31) rfl))) (mvT hZ (hw _ (List.mem_of_getElem? (i := 32) rfl))) (notFace_of_selects (args := #[]) (mvT hZ (hw _ (List.mem_of_getElem? (i := 34) rfl)))) (mvT hZ (hw _ (List.mem_of_getElem? (i := 34) rfl))) (mvT hZ (hw _ (List.mem_of_getElem? (i := 33) rfl))) (by decide) (backOf (W := 0) (rm6 l Z a0 hw [] b8 t18 (own_max (1 : Int32) (p2 &&& (2147483647 : Int32))) (p3 &&& (2147483647 : Int32)) (own_totm (own_tot (own_tot (own_tot (0 : Int64) (own_max (1 : Int32) ((q4.toInt32) &&& (2147483647 : Int32)))) ((((q4.toUInt64 >>> ((32 : Int32) &&& 0x3f).toInt64.toUInt64).toInt64).toInt32) &&& (2147483647 : Int32))) (p5 &&& (2147483647 : Int32))) (p5 &&& (2147483647 : Int32))) t131 (own_recm (own_rec (own_rec (own_rec (0 : Int32) (own_max (1 : Int32) ((q4.toInt32) &&& (2147483647 : Int32)))) ((((q4.toUInt64 >>> ((32 : Int32) &&& 0x3f).toInt64.toUInt64).toInt64).toInt32) &&& (2147483647 : Int32))) (p5 &&& (2147483647 : Int32))) (p5 &&& (2147483647 : Int32))) (4611686018427387904 : UInt64) t135 t148 t160 t161 t164 t165 t166 t167 t6 t174 t177 t178 t182 t185 T13.heap n0 (Nat.le_trans g_b8 (Nat.le_of_lt (Exa.lt (((((E_b8.keep Kc9).keep Kc10).keep Kc11).keep Kc12).keep Kc13)))) Ft_13 Fr_13 Fw_13 hT4 hR9 hn135 ht135 ht148 ht160 hn161 ht161 hn164 ht164 hn165 ht165 hn166 ht166 hn167 ht167 hn174 ht174 ht177 hn178 ht178 hn182 ht182 hn185 ht185) hZ (hw _ (List.mem_of_getElem? (i := 35) rfl)) (hw _ (List.mem_of_getElem? (i := 8) rfl)) (by decide) (by decide)) q14a q14c (g := (mkF m 114 #[.val (.long q1), .second, .val (.int p2), .val (.int p3), .val (.long q4), .second, .val (.int p5), .val (.double t6), .second, .val (.double t18), .second, .val (.int (own_max (1 : Int32) (p2 &&& (2147483647 : Int32)))), .val (.int (p3 &&& (2147483647 : Int32))), .val (.int (own_max (1 : Int32) ((q4.toInt32) &&& (2147483647 : Int32)))), .val (.int ((((q4.toUInt64 >>> ((32 : Int32) &&& 0x3f).toInt64.toUInt64).toInt64).toInt32) &&& (2147483647 : Int32))), .val (.int (p5 &&& (2147483647 : Int32))), .val (.ref b8), .unset, .unset, .unset, .unset, .unset, .unset, .unset, .unset] [(.int (p3 &&& (2147483647 : Int32))), (.int (own_max (1 : Int32) (p2 &&& (2147483647 : Int32)))), (.double t18), (.ref b8)])) rfl (by rw [hml]; rfl) (Steps.refl _) (argsL := [(.double t18), (.int (own_max (1 : Int32) (p2 &&& (2147483647 : Int32)))), (.int (p3 &&& (2147483647 : Int32)))]) (rest := []) (lenOf pd_0_4 rfl) rfl (by show 2 * 0 + _ ≤ _; exact Nat.le_of_eq rfl) (hb hby at_114) (fun _ _ => ⟨rfl, rfl, (by decide : 1 + 0 ≤ _), (by decide : 3 + 0 ≤ _)⟩)
  dsimp only [Pt.U, Pt.locs, Pt.cells, Pt.slots] at X14 l14 y14 z14 st14 hQ14
  subst l14 y14 z14
  obtain ⟨rfl, N14q, hh14⟩ := hQ14      -- what it returned, that it wrote nothing old, and the rest of your Q6
  have N14 := Fr.app N13 N14q
  obtain ⟨fs, hr, hrun, hended, hW, hsame⟩ := X14.leave (v := some (.int (1 : Int32))) (fun h => by rw [Bd.returns] at h; cases h)
  refine ⟨_, _, pre0 _ ?_, hrun, hended, _, _, rfl, ?_, ⟨_, rfl⟩, hW, hsame.mono (by decide) (by decide)⟩
  -- 4. STEPS
  · show Steps p.tables e below (s₁.setTop (mkF m 0 #[.val (.long q1), .second, .val (.int p2), .val (.int p3), .val (.long q4), .second, .val (.int p5), .unset, .unset, .unset, .unset, .unset, .unset, .unset, .unset, .unset, .unset, .unset, .unset, .unset, .unset, .unset, .unset, .unset, .unset] [])) _
    refine XS.lloadN X0.here hx rfl (hb hby at_0) rfl ?_
    show Steps p.tables e below (s₁.setTop (mkF m 1 #[.val (.long q1), .second, .val (.int p2), .val (.int p3), .val (.long q4), .second, .val (.int p5), .unset, .unset, .unset, .unset, .unset, .unset, .unset, .unset, .unset, .unset, .unset, .unset, .unset, .unset, .unset, .unset, .unset, .unset] [(.long q1)])) _
    refine XS.l2i X0.here hx rfl (hb hby at_1) rfl ?_
    show Steps p.tables e below (s₁.setTop (mkF m 2 #[.val (.long q1), .second, .val (.int p2), .val (.int p3), .val (.long q4), .second, .val (.int p5), .unset, .unset, .unset, .unset, .unset, .unset, .unset, .unset, .unset, .unset, .unset, .unset, .unset, .unset, .unset, .unset, .unset, .unset] [(.int (q1.toInt32))])) _
    refine XS.i2dS X0.here hx rfl (hb hby at_2) rfl ht2 ?_
    show Steps p.tables e below (s₁.setTop (mkF m 3 #[.val (.long q1), .second, .val (.int p2), .val (.int p3), .val (.long q4), .second, .val (.int p5), .unset, .unset, .unset, .unset, .unset, .unset, .unset, .unset, .unset, .unset, .unset, .unset, .unset, .unset, .unset, .unset, .unset, .unset] [(.double t2)])) _
    refine X0.ldc2DoubleC hx hown (mvT hZ (hw _ (List.mem_of_getElem? (i := 0) rfl))) (g := (mkF m 3 #[.val (.long q1), .second, .val (.int p2), .val (.int p3), .val (.long q4), .second, .val (.int p5), .unset, .unset, .unset, .unset, .unset, .unset, .unset, .unset, .unset, .unset, .unset, .unset, .unset, .unset, .unset, .unset, .unset, .unset] [(.double t2)])) rfl (hb hby at_3) _ ?_
    show Steps p.tables e below (s₁.setTop (mkF m 6 #[.val (.long q1), .second, .val (.int p2), .val (.int p3), .val (.long q4), .second, .val (.int p5), .unset, .unset, .unset, .unset, .unset, .unset, .unset, .unset, .unset, .unset, .unset, .unset, .unset, .unset, .unset, .unset, .unset, .unset] [(.double (4625196817309499392 : UInt64)), (.double t2)])) _
    refine XS.ddivS X0.here hx rfl (hb hby at_6) rfl hn6 ht6 ?_
    show Steps p.tables e below (s₁.setTop (mkF m 7 #[.val (.long q1), .second, .val (.int p2), .val (.int p3), .val (.long q4), .second, .val (.int p5), .unset, .unset, .unset, .unset, .unset, .unset, .unset, .unset, .unset, .unset, .unset, .unset, .unset, .unset, .unset, .unset, .unset, .unset] [(.double t6)])) _
    refine XS.dstore X0.here hx rfl (hb hby at_7) rfl (l' := #[.val (.long q1), .second, .val (.int p2), .val (.int p3), .val (.long q4), .second, .val (.int p5), .val (.double t6), .second, .unset, .unset, .unset, .unset, .unset, .unset, .unset, .unset, .unset, .unset, .unset, .unset, .unset, .unset, .unset, .unset]) rfl ?_
    show Steps p.tables e below (s₁.setTop (mkF m 9 #[.val (.long q1), .second, .val (.int p2), .val (.int p3), .val (.long q4), .second, .val (.int p5), .val (.double t6), .second, .unset, .unset, .unset, .unset, .unset, .unset, .unset, .unset, .unset, .unset, .unset, .unset, .unset, .unset, .unset, .unset] [])) _
    refine XS.lloadN X0.here hx rfl (hb hby at_9) rfl ?_
    show Steps p.tables e below (s₁.setTop (mkF m 10 #[.val (.long q1), .second, .val (.int p2), .val (.int p3), .val (.long q4), .second, .val (.int p5), .val (.double t6), .second, .unset, .unset, .unset, .unset, .unset, .unset, .unset, .unset, .unset, .unset, .unset, .unset, .unset, .unset, .unset, .unset] [(.long q1)])) _
    refine XS.bipush X0.here hx rfl (hb hby at_10) ?_
    show Steps p.tables e below (s₁.setTop (mkF m 12 #[.val (.long q1), .second, .val (.int p2), .val (.int p3), .val (.long q4), .second, .val (.int p5), .val (.double t6), .second, .unset, .unset, .unset, .unset, .unset, .unset, .unset, .unset, .unset, .unset, .unset, .unset, .unset, .unset, .unset, .unset] [(.int (32 : Int32)), (.long q1)])) _
    refine XS.lshr X0.here hx rfl (hb hby at_12) rfl ?_
    show Steps p.tables e below (s₁.setTop (mkF m 13 #[.val (.long q1), .second, .val (.int p2), .val (.int p3), .val (.long q4), .second, .val (.int p5), .val (.double t6), .second, .unset, .unset, .unset, .unset, .unset, .unset, .unset, .unset, .unset, .unset, .unset, .unset, .unset, .unset, .unset, .unset] [(.long (q1 >>> ((32 : Int32) &&& 0x3f).toInt64))])) _
    refine XS.l2i X0.here hx rfl (hb hby at_13) rfl ?_
    show Steps p.tables e below (s₁.setTop (mkF m 14 #[.val (.long q1), .second, .val (.int p2), .val (.int p3), .val (.long q4), .second, .val (.int p5), .val (.double t6), .second, .unset, .unset, .unset, .unset, .unset, .unset, .unset, .unset, .unset, .unset, .unset, .unset, .unset, .unset, .unset, .unset] [(.int ((q1 >>> ((32 : Int32) &&& 0x3f).toInt64).toInt32))])) _
    refine XS.i2dS X0.here hx rfl (hb hby at_14) rfl ht14 ?_
    show Steps p.tables e below (s₁.setTop (mkF m 15 #[.val (.long q1), .second, .val (.int p2), .val (.int p3), .val (.long q4), .second, .val (.int p5), .val (.double t6), .second, .unset, .unset, .unset, .unset, .unset, .unset, .unset, .unset, .unset, .unset, .unset, .unset, .unset, .unset, .unset, .unset] [(.double t14)])) _
    refine X0.ldc2DoubleC hx hown (mvT hZ (hw _ (List.mem_of_getElem? (i := 0) rfl))) (g := (mkF m 15 #[.val (.long q1), .second, .val (.int p2), .val (.int p3), .val (.long q4), .second, .val (.int p5), .val (.double t6), .second, .unset, .unset, .unset, .unset, .unset, .unset, .unset, .unset, .unset, .unset, .unset, .unset, .unset, .unset, .unset, .unset] [(.double t14)])) rfl (hb hby at_15) _ ?_
    show Steps p.tables e below (s₁.setTop (mkF m 18 #[.val (.long q1), .second, .val (.int p2), .val (.int p3), .val (.long q4), .second, .val (.int p5), .val (.double t6), .second, .unset, .unset, .unset, .unset, .unset, .unset, .unset, .unset, .unset, .unset, .unset, .unset, .unset, .unset, .unset, .unset] [(.double (4625196817309499392 : UInt64)), (.double t14)])) _
    refine XS.ddivS X0.here hx rfl (hb hby at_18) rfl hn18 ht18 ?_
    show Steps p.tables e below (s₁.setTop (mkF m 19 #[.val (.long q1), .second, .val (.int p2), .val (.int p3), .val (.long q4), .second, .val (.int p5), .val (.double t6), .second, .unset, .unset, .unset, .unset, .unset, .unset, .unset, .unset, .unset, .unset, .unset, .unset, .unset, .unset, .unset, .unset] [(.double t18)])) _
    refine XS.dstore X0.here hx rfl (hb hby at_19) rfl (l' := #[.val (.long q1), .second, .val (.int p2), .val (.int p3), .val (.long q4), .second, .val (.int p5), .val (.double t6), .second, .val (.double t18), .second, .unset, .unset, .unset, .unset, .unset, .unset, .unset, .unset, .unset, .unset, .unset, .unset, .unset, .unset]) rfl ?_
    show Steps p.tables e below (s₁.setTop (mkF m 21 #[.val (.long q1), .second, .val (.int p2), .val (.int p3), .val (.long q4), .second, .val (.int p5), .val (.double t6), .second, .val (.double t18), .second, .unset, .unset, .unset, .unset, .unset, .unset, .unset, .unset, .unset, .unset, .unset, .unset, .unset, .unset] [])) _
    refine XS.iconst X0.here hx rfl (hb hby at_21) ?_
    show Steps p.tables e below (s₁.setTop (mkF m 22 #[.val (.long q1), .second, .val (.int p2), .val (.int p3), .val (.long q4), .second, .val (.int p5), .val (.double t6), .second, .val (.double t18), .second, .unset, .unset, .unset, .unset, .unset, .unset, .unset, .unset, .unset, .unset, .unset, .unset, .unset, .unset] [(.int (1 : Int32))])) _
    refine XS.iloadN X0.here hx rfl (hb hby at_22) rfl ?_
    show Steps p.tables e below (s₁.setTop (mkF m 23 #[.val (.long q1), .second, .val (.int p2), .val (.int p3), .val (.long q4), .second, .val (.int p5), .val (.double t6), .second, .val (.double t18), .second, .unset, .unset, .unset, .unset, .unset, .unset, .unset, .unset, .unset, .unset, .unset, .unset, .unset, .unset] [(.int p2), (.int (1 : Int32))])) _
    refine X0.ldcInt hx hown (mvT hZ (hw _ (List.mem_of_getElem? (i := 1) rfl))) (g := (mkF m 23 #[.val (.long q1), .second, .val (.int p2), .val (.int p3), .val (.long q4), .second, .val (.int p5), .val (.double t6), .second, .val (.double t18), .second, .unset, .unset, .unset, .unset, .unset, .unset, .unset, .unset, .unset, .unset, .unset, .unset, .unset, .unset] [(.int p2), (.int (1 : Int32))])) rfl (hb hby at_23) _ ?_
    show Steps p.tables e below (s₁.setTop (mkF m 25 #[.val (.long q1), .second, .val (.int p2), .val (.int p3), .val (.long q4), .second, .val (.int p5), .val (.double t6), .second, .val (.double t18), .second, .unset, .unset, .unset, .unset, .unset, .unset, .unset, .unset, .unset, .unset, .unset, .unset, .unset, .unset] [(.int (2147483647 : Int32)), (.int p2), (.int (1 : Int32))])) _
    refine XS.iand X0.here hx rfl (hb hby at_25) rfl ?_
    show Steps p.tables e below (s₁.setTop (mkF m 26 #[.val (.long q1), .second, .val (.int p2), .val (.int p3), .val (.long q4), .second, .val (.int p5), .val (.double t6), .second, .val (.double t18), .second, .unset, .unset, .unset, .unset, .unset, .unset, .unset, .unset, .unset, .unset, .unset, .unset, .unset, .unset] [(.int (p2 &&& (2147483647 : Int32))), (.int (1 : Int32))])) _
    refine st6 _ ?_
    show Steps p.tables e below (T6.setTop (mkF m 29 #[.val (.long q1), .second, .val (.int p2), .val (.int p3), .val (.long q4), .second, .val (.int p5), .val (.double t6), .second, .val (.double t18), .second, .unset, .unset, .unset, .unset, .unset, .unset, .unset, .unset, .unset, .unset, .unset, .unset, .unset, .unset] [(.int (own_max (1 : Int32) (p2 &&& (2147483647 : Int32))))])) _
    refine XS.istore X6.here hx rfl (hb hby at_29) rfl (l' := #[.val (.long q1), .second, .val (.int p2), .val (.int p3), .val (.long q4), .second, .val (.int p5), .val (.double t6), .second, .val (.double t18), .second, .val (.int (own_max (1 : Int32) (p2 &&& (2147483647 : Int32)))), .unset, .unset, .unset, .unset, .unset, .unset, .unset, .unset, .unset, .unset, .unset, .unset, .unset]) rfl ?_
    show Steps p.tables e below (T6.setTop (mkF m 31 #[.val (.long q1), .second, .val (.int p2), .val (.int p3), .val (.long q4), .second, .val (.int p5), .val (.double t6), .second, .val (.double t18), .second, .val (.int (own_max (1 : Int32) (p2 &&& (2147483647 : Int32)))), .unset, .unset, .unset, .unset, .unset, .unset, .unset, .unset, .unset, .unset, .unset, .unset, .unset] [])) _
    refine XS.iloadN X6.here hx rfl (hb hby at_31) rfl ?_
    show Steps p.tables e below (T6.setTop (mkF m 32 #[.val (.long q1), .second, .val (.int p2), .val (.int p3), .val (.long q4), .second, .val (.int p5), .val (.double t6), .second, .val (.double t18), .second, .val (.int (own_max (1 : Int32) (p2 &&& (2147483647 : Int32)))), .unset, .unset, .unset, .unset, .unset, .unset, .unset, .unset, .unset, .unset, .unset, .unset, .unset] [(.int p3)])) _
    refine X6.ldcInt hx hown (mvT hZ (hw _ (List.mem_of_getElem? (i := 1) rfl))) (g := (mkF m 32 #[.val (.long q1), .second, .val (.int p2), .val (.int p3), .val (.long q4), .second, .val (.int p5), .val (.double t6), .second, .val (.double t18), .second, .val (.int (own_max (1 : Int32) (p2 &&& (2147483647 : Int32)))), .unset, .unset, .unset, .unset, .unset, .unset, .unset, .unset, .unset, .unset, .unset, .unset, .unset] [(.int p3)])) rfl (hb hby at_32) _ ?_
    show Steps p.tables e below (T6.setTop (mkF m 34 #[.val (.long q1), .second, .val (.int p2), .val (.int p3), .val (.long q4), .second, .val (.int p5), .val (.double t6), .second, .val (.double t18), .second, .val (.int (own_max (1 : Int32) (p2 &&& (2147483647 : Int32)))), .unset, .unset, .unset, .unset, .unset, .unset, .unset, .unset, .unset, .unset, .unset, .unset, .unset] [(.int (2147483647 : Int32)), (.int p3)])) _
    refine XS.iand X6.here hx rfl (hb hby at_34) rfl ?_
    show Steps p.tables e below (T6.setTop (mkF m 35 #[.val (.long q1), .second, .val (.int p2), .val (.int p3), .val (.long q4), .second, .val (.int p5), .val (.double t6), .second, .val (.double t18), .second, .val (.int (own_max (1 : Int32) (p2 &&& (2147483647 : Int32)))), .unset, .unset, .unset, .unset, .unset, .unset, .unset, .unset, .unset, .unset, .unset, .unset, .unset] [(.int (p3 &&& (2147483647 : Int32)))])) _
    refine XS.istore X6.here hx rfl (hb hby at_35) rfl (l' := #[.val (.long q1), .second, .val (.int p2), .val (.int p3), .val (.long q4), .second, .val (.int p5), .val (.double t6), .second, .val (.double t18), .second, .val (.int (own_max (1 : Int32) (p2 &&& (2147483647 : Int32)))), .val (.int (p3 &&& (2147483647 : Int32))), .unset, .unset, .unset, .unset, .unset, .unset, .unset, .unset, .unset, .unset, .unset, .unset]) rfl ?_
    show Steps p.tables e below (T6.setTop (mkF m 37 #[.val (.long q1), .second, .val (.int p2), .val (.int p3), .val (.long q4), .second, .val (.int p5), .val (.double t6), .second, .val (.double t18), .second, .val (.int (own_max (1 : Int32) (p2 &&& (2147483647 : Int32)))), .val (.int (p3 &&& (2147483647 : Int32))), .unset, .unset, .unset, .unset, .unset, .unset, .unset, .unset, .unset, .unset, .unset, .unset] [])) _
    refine XS.iconst X6.here hx rfl (hb hby at_37) ?_
    show Steps p.tables e below (T6.setTop (mkF m 38 #[.val (.long q1), .second, .val (.int p2), .val (.int p3), .val (.long q4), .second, .val (.int p5), .val (.double t6), .second, .val (.double t18), .second, .val (.int (own_max (1 : Int32) (p2 &&& (2147483647 : Int32)))), .val (.int (p3 &&& (2147483647 : Int32))), .unset, .unset, .unset, .unset, .unset, .unset, .unset, .unset, .unset, .unset, .unset, .unset] [(.int (1 : Int32))])) _
    refine XS.lload X6.here hx rfl (hb hby at_38) rfl ?_
    show Steps p.tables e below (T6.setTop (mkF m 40 #[.val (.long q1), .second, .val (.int p2), .val (.int p3), .val (.long q4), .second, .val (.int p5), .val (.double t6), .second, .val (.double t18), .second, .val (.int (own_max (1 : Int32) (p2 &&& (2147483647 : Int32)))), .val (.int (p3 &&& (2147483647 : Int32))), .unset, .unset, .unset, .unset, .unset, .unset, .unset, .unset, .unset, .unset, .unset, .unset] [(.long q4), (.int (1 : Int32))])) _
    refine XS.l2i X6.here hx rfl (hb hby at_40) rfl ?_
    show Steps p.tables e below (T6.setTop (mkF m 41 #[.val (.long q1), .second, .val (.int p2), .val (.int p3), .val (.long q4), .second, .val (.int p5), .val (.double t6), .second, .val (.double t18), .second, .val (.int (own_max (1 : Int32) (p2 &&& (2147483647 : Int32)))), .val (.int (p3 &&& (2147483647 : Int32))), .unset, .unset, .unset, .unset, .unset, .unset, .unset, .unset, .unset, .unset, .unset, .unset] [(.int (q4.toInt32)), (.int (1 : Int32))])) _
    refine X6.ldcInt hx hown (mvT hZ (hw _ (List.mem_of_getElem? (i := 1) rfl))) (g := (mkF m 41 #[.val (.long q1), .second, .val (.int p2), .val (.int p3), .val (.long q4), .second, .val (.int p5), .val (.double t6), .second, .val (.double t18), .second, .val (.int (own_max (1 : Int32) (p2 &&& (2147483647 : Int32)))), .val (.int (p3 &&& (2147483647 : Int32))), .unset, .unset, .unset, .unset, .unset, .unset, .unset, .unset, .unset, .unset, .unset, .unset] [(.int (q4.toInt32)), (.int (1 : Int32))])) rfl (hb hby at_41) _ ?_
    show Steps p.tables e below (T6.setTop (mkF m 43 #[.val (.long q1), .second, .val (.int p2), .val (.int p3), .val (.long q4), .second, .val (.int p5), .val (.double t6), .second, .val (.double t18), .second, .val (.int (own_max (1 : Int32) (p2 &&& (2147483647 : Int32)))), .val (.int (p3 &&& (2147483647 : Int32))), .unset, .unset, .unset, .unset, .unset, .unset, .unset, .unset, .unset, .unset, .unset, .unset] [(.int (2147483647 : Int32)), (.int (q4.toInt32)), (.int (1 : Int32))])) _
    refine XS.iand X6.here hx rfl (hb hby at_43) rfl ?_
    show Steps p.tables e below (T6.setTop (mkF m 44 #[.val (.long q1), .second, .val (.int p2), .val (.int p3), .val (.long q4), .second, .val (.int p5), .val (.double t6), .second, .val (.double t18), .second, .val (.int (own_max (1 : Int32) (p2 &&& (2147483647 : Int32)))), .val (.int (p3 &&& (2147483647 : Int32))), .unset, .unset, .unset, .unset, .unset, .unset, .unset, .unset, .unset, .unset, .unset, .unset] [(.int ((q4.toInt32) &&& (2147483647 : Int32))), (.int (1 : Int32))])) _
    refine st7 _ ?_
    show Steps p.tables e below (T7.setTop (mkF m 47 #[.val (.long q1), .second, .val (.int p2), .val (.int p3), .val (.long q4), .second, .val (.int p5), .val (.double t6), .second, .val (.double t18), .second, .val (.int (own_max (1 : Int32) (p2 &&& (2147483647 : Int32)))), .val (.int (p3 &&& (2147483647 : Int32))), .unset, .unset, .unset, .unset, .unset, .unset, .unset, .unset, .unset, .unset, .unset, .unset] [(.int (own_max (1 : Int32) ((q4.toInt32) &&& (2147483647 : Int32))))])) _
    refine XS.istore X7.here hx rfl (hb hby at_47) rfl (l' := #[.val (.long q1), .second, .val (.int p2), .val (.int p3), .val (.long q4), .second, .val (.int p5), .val (.double t6), .second, .val (.double t18), .second, .val (.int (own_max (1 : Int32) (p2 &&& (2147483647 : Int32)))), .val (.int (p3 &&& (2147483647 : Int32))), .val (.int (own_max (1 : Int32) ((q4.toInt32) &&& (2147483647 : Int32)))), .unset, .unset, .unset, .unset, .unset, .unset, .unset, .unset, .unset, .unset, .unset]) rfl ?_
    show Steps p.tables e below (T7.setTop (mkF m 49 #[.val (.long q1), .second, .val (.int p2), .val (.int p3), .val (.long q4), .second, .val (.int p5), .val (.double t6), .second, .val (.double t18), .second, .val (.int (own_max (1 : Int32) (p2 &&& (2147483647 : Int32)))), .val (.int (p3 &&& (2147483647 : Int32))), .val (.int (own_max (1 : Int32) ((q4.toInt32) &&& (2147483647 : Int32)))), .unset, .unset, .unset, .unset, .unset, .unset, .unset, .unset, .unset, .unset, .unset] [])) _
    refine XS.lload X7.here hx rfl (hb hby at_49) rfl ?_
    show Steps p.tables e below (T7.setTop (mkF m 51 #[.val (.long q1), .second, .val (.int p2), .val (.int p3), .val (.long q4), .second, .val (.int p5), .val (.double t6), .second, .val (.double t18), .second, .val (.int (own_max (1 : Int32) (p2 &&& (2147483647 : Int32)))), .val (.int (p3 &&& (2147483647 : Int32))), .val (.int (own_max (1 : Int32) ((q4.toInt32) &&& (2147483647 : Int32)))), .unset, .unset, .unset, .unset, .unset, .unset, .unset, .unset, .unset, .unset, .unset] [(.long q4)])) _
    refine XS.bipush X7.here hx rfl (hb hby at_51) ?_
    show Steps p.tables e below (T7.setTop (mkF m 53 #[.val (.long q1), .second, .val (.int p2), .val (.int p3), .val (.long q4), .second, .val (.int p5), .val (.double t6), .second, .val (.double t18), .second, .val (.int (own_max (1 : Int32) (p2 &&& (2147483647 : Int32)))), .val (.int (p3 &&& (2147483647 : Int32))), .val (.int (own_max (1 : Int32) ((q4.toInt32) &&& (2147483647 : Int32)))), .unset, .unset, .unset, .unset, .unset, .unset, .unset, .unset, .unset, .unset, .unset] [(.int (32 : Int32)), (.long q4)])) _
    refine XS.lushr X7.here hx rfl (hb hby at_53) rfl ?_
    show Steps p.tables e below (T7.setTop (mkF m 54 #[.val (.long q1), .second, .val (.int p2), .val (.int p3), .val (.long q4), .second, .val (.int p5), .val (.double t6), .second, .val (.double t18), .second, .val (.int (own_max (1 : Int32) (p2 &&& (2147483647 : Int32)))), .val (.int (p3 &&& (2147483647 : Int32))), .val (.int (own_max (1 : Int32) ((q4.toInt32) &&& (2147483647 : Int32)))), .unset, .unset, .unset, .unset, .unset, .unset, .unset, .unset, .unset, .unset, .unset] [(.long ((q4.toUInt64 >>> ((32 : Int32) &&& 0x3f).toInt64.toUInt64).toInt64))])) _
    refine XS.l2i X7.here hx rfl (hb hby at_54) rfl ?_
    show Steps p.tables e below (T7.setTop (mkF m 55 #[.val (.long q1), .second, .val (.int p2), .val (.int p3), .val (.long q4), .second, .val (.int p5), .val (.double t6), .second, .val (.double t18), .second, .val (.int (own_max (1 : Int32) (p2 &&& (2147483647 : Int32)))), .val (.int (p3 &&& (2147483647 : Int32))), .val (.int (own_max (1 : Int32) ((q4.toInt32) &&& (2147483647 : Int32)))), .unset, .unset, .unset, .unset, .unset, .unset, .unset, .unset, .unset, .unset, .unset] [(.int (((q4.toUInt64 >>> ((32 : Int32) &&& 0x3f).toInt64.toUInt64).toInt64).toInt32))])) _
    refine X7.ldcInt hx hown (mvT hZ (hw _ (List.mem_of_getElem? (i := 1) rfl))) (g := (mkF m 55 #[.val (.long q1), .second, .val (.int p2), .val (.int p3), .val (.long q4), .second, .val (.int p5), .val (.double t6), .second, .val (.double t18), .second, .val (.int (own_max (1 : Int32) (p2 &&& (2147483647 : Int32)))), .val (.int (p3 &&& (2147483647 : Int32))), .val (.int (own_max (1 : Int32) ((q4.toInt32) &&& (2147483647 : Int32)))), .unset, .unset, .unset, .unset, .unset, .unset, .unset, .unset, .unset, .unset, .unset] [(.int (((q4.toUInt64 >>> ((32 : Int32) &&& 0x3f).toInt64.toUInt64).toInt64).toInt32))])) rfl (hb hby at_55) _ ?_
    show Steps p.tables e below (T7.setTop (mkF m 57 #[.val (.long q1), .second, .val (.int p2), .val (.int p3), .val (.long q4), .second, .val (.int p5), .val (.double t6), .second, .val (.double t18), .second, .val (.int (own_max (1 : Int32) (p2 &&& (2147483647 : Int32)))), .val (.int (p3 &&& (2147483647 : Int32))), .val (.int (own_max (1 : Int32) ((q4.toInt32) &&& (2147483647 : Int32)))), .unset, .unset, .unset, .unset, .unset, .unset, .unset, .unset, .unset, .unset, .unset] [(.int (2147483647 : Int32)), (.int (((q4.toUInt64 >>> ((32 : Int32) &&& 0x3f).toInt64.toUInt64).toInt64).toInt32))])) _
    refine XS.iand X7.here hx rfl (hb hby at_57) rfl ?_
    show Steps p.tables e below (T7.setTop (mkF m 58 #[.val (.long q1), .second, .val (.int p2), .val (.int p3), .val (.long q4), .second, .val (.int p5), .val (.double t6), .second, .val (.double t18), .second, .val (.int (own_max (1 : Int32) (p2 &&& (2147483647 : Int32)))), .val (.int (p3 &&& (2147483647 : Int32))), .val (.int (own_max (1 : Int32) ((q4.toInt32) &&& (2147483647 : Int32)))), .unset, .unset, .unset, .unset, .unset, .unset, .unset, .unset, .unset, .unset, .unset] [(.int ((((q4.toUInt64 >>> ((32 : Int32) &&& 0x3f).toInt64.toUInt64).toInt64).toInt32) &&& (2147483647 : Int32)))])) _
    refine XS.istore X7.here hx rfl (hb hby at_58) rfl (l' := #[.val (.long q1), .second, .val (.int p2), .val (.int p3), .val (.long q4), .second, .val (.int p5), .val (.double t6), .second, .val (.double t18), .second, .val (.int (own_max (1 : Int32) (p2 &&& (2147483647 : Int32)))), .val (.int (p3 &&& (2147483647 : Int32))), .val (.int (own_max (1 : Int32) ((q4.toInt32) &&& (2147483647 : Int32)))), .val (.int ((((q4.toUInt64 >>> ((32 : Int32) &&& 0x3f).toInt64.toUInt64).toInt64).toInt32) &&& (2147483647 : Int32))), .unset, .unset, .unset, .unset, .unset, .unset, .unset, .unset, .unset, .unset]) rfl ?_
    show Steps p.tables e below (T7.setTop (mkF m 60 #[.val (.long q1), .second, .val (.int p2), .val (.int p3), .val (.long q4), .second, .val (.int p5), .val (.double t6), .second, .val (.double t18), .second, .val (.int (own_max (1 : Int32) (p2 &&& (2147483647 : Int32)))), .val (.int (p3 &&& (2147483647 : Int32))), .val (.int (own_max (1 : Int32) ((q4.toInt32) &&& (2147483647 : Int32)))), .val (.int ((((q4.toUInt64 >>> ((32 : Int32) &&& 0x3f).toInt64.toUInt64).toInt64).toInt32) &&& (2147483647 : Int32))), .unset, .unset, .unset, .unset, .unset, .unset, .unset, .unset, .unset, .unset] [])) _
    refine XS.iload X7.here hx rfl (hb hby at_60) rfl ?_
    show Steps p.tables e below (T7.setTop (mkF m 62 #[.val (.long q1), .second, .val (.int p2), .val (.int p3), .val (.long q4), .second, .val (.int p5), .val (.double t6), .second, .val (.double t18), .second, .val (.int (own_max (1 : Int32) (p2 &&& (2147483647 : Int32)))), .val (.int (p3 &&& (2147483647 : Int32))), .val (.int (own_max (1 : Int32) ((q4.toInt32) &&& (2147483647 : Int32)))), .val (.int ((((q4.toUInt64 >>> ((32 : Int32) &&& 0x3f).toInt64.toUInt64).toInt64).toInt32) &&& (2147483647 : Int32))), .unset, .unset, .unset, .unset, .unset, .unset, .unset, .unset, .unset, .unset] [(.int p5)])) _
    refine X7.ldcInt hx hown (mvT hZ (hw _ (List.mem_of_getElem? (i := 1) rfl))) (g := (mkF m 62 #[.val (.long q1), .second, .val (.int p2), .val (.int p3), .val (.long q4), .second, .val (.int p5), .val (.double t6), .second, .val (.double t18), .second, .val (.int (own_max (1 : Int32) (p2 &&& (2147483647 : Int32)))), .val (.int (p3 &&& (2147483647 : Int32))), .val (.int (own_max (1 : Int32) ((q4.toInt32) &&& (2147483647 : Int32)))), .val (.int ((((q4.toUInt64 >>> ((32 : Int32) &&& 0x3f).toInt64.toUInt64).toInt64).toInt32) &&& (2147483647 : Int32))), .unset, .unset, .unset, .unset, .unset, .unset, .unset, .unset, .unset, .unset] [(.int p5)])) rfl (hb hby at_62) _ ?_
    show Steps p.tables e below (T7.setTop (mkF m 64 #[.val (.long q1), .second, .val (.int p2), .val (.int p3), .val (.long q4), .second, .val (.int p5), .val (.double t6), .second, .val (.double t18), .second, .val (.int (own_max (1 : Int32) (p2 &&& (2147483647 : Int32)))), .val (.int (p3 &&& (2147483647 : Int32))), .val (.int (own_max (1 : Int32) ((q4.toInt32) &&& (2147483647 : Int32)))), .val (.int ((((q4.toUInt64 >>> ((32 : Int32) &&& 0x3f).toInt64.toUInt64).toInt64).toInt32) &&& (2147483647 : Int32))), .unset, .unset, .unset, .unset, .unset, .unset, .unset, .unset, .unset, .unset] [(.int (2147483647 : Int32)), (.int p5)])) _
    refine XS.iand X7.here hx rfl (hb hby at_64) rfl ?_
    show Steps p.tables e below (T7.setTop (mkF m 65 #[.val (.long q1), .second, .val (.int p2), .val (.int p3), .val (.long q4), .second, .val (.int p5), .val (.double t6), .second, .val (.double t18), .second, .val (.int (own_max (1 : Int32) (p2 &&& (2147483647 : Int32)))), .val (.int (p3 &&& (2147483647 : Int32))), .val (.int (own_max (1 : Int32) ((q4.toInt32) &&& (2147483647 : Int32)))), .val (.int ((((q4.toUInt64 >>> ((32 : Int32) &&& 0x3f).toInt64.toUInt64).toInt64).toInt32) &&& (2147483647 : Int32))), .unset, .unset, .unset, .unset, .unset, .unset, .unset, .unset, .unset, .unset] [(.int (p5 &&& (2147483647 : Int32)))])) _
    refine XS.istore X7.here hx rfl (hb hby at_65) rfl (l' := #[.val (.long q1), .second, .val (.int p2), .val (.int p3), .val (.long q4), .second, .val (.int p5), .val (.double t6), .second, .val (.double t18), .second, .val (.int (own_max (1 : Int32) (p2 &&& (2147483647 : Int32)))), .val (.int (p3 &&& (2147483647 : Int32))), .val (.int (own_max (1 : Int32) ((q4.toInt32) &&& (2147483647 : Int32)))), .val (.int ((((q4.toUInt64 >>> ((32 : Int32) &&& 0x3f).toInt64.toUInt64).toInt64).toInt32) &&& (2147483647 : Int32))), .val (.int (p5 &&& (2147483647 : Int32))), .unset, .unset, .unset, .unset, .unset, .unset, .unset, .unset, .unset]) rfl ?_
    show Steps p.tables e below (T7.setTop (mkF m 67 #[.val (.long q1), .second, .val (.int p2), .val (.int p3), .val (.long q4), .second, .val (.int p5), .val (.double t6), .second, .val (.double t18), .second, .val (.int (own_max (1 : Int32) (p2 &&& (2147483647 : Int32)))), .val (.int (p3 &&& (2147483647 : Int32))), .val (.int (own_max (1 : Int32) ((q4.toInt32) &&& (2147483647 : Int32)))), .val (.int ((((q4.toUInt64 >>> ((32 : Int32) &&& 0x3f).toInt64.toUInt64).toInt64).toInt32) &&& (2147483647 : Int32))), .val (.int (p5 &&& (2147483647 : Int32))), .unset, .unset, .unset, .unset, .unset, .unset, .unset, .unset, .unset] [])) _
    refine st8 _ ?_
    show Steps p.tables e below (T8.setTop (mkF m 70 #[.val (.long q1), .second, .val (.int p2), .val (.int p3), .val (.long q4), .second, .val (.int p5), .val (.double t6), .second, .val (.double t18), .second, .val (.int (own_max (1 : Int32) (p2 &&& (2147483647 : Int32)))), .val (.int (p3 &&& (2147483647 : Int32))), .val (.int (own_max (1 : Int32) ((q4.toInt32) &&& (2147483647 : Int32)))), .val (.int ((((q4.toUInt64 >>> ((32 : Int32) &&& 0x3f).toInt64.toUInt64).toInt64).toInt32) &&& (2147483647 : Int32))), .val (.int (p5 &&& (2147483647 : Int32))), .unset, .unset, .unset, .unset, .unset, .unset, .unset, .unset, .unset] [(.ref b8)])) _
    refine XS.dup X8.here hx rfl (hb hby at_70) rfl rfl ?_
    show Steps p.tables e below (T8.setTop (mkF m 71 #[.val (.long q1), .second, .val (.int p2), .val (.int p3), .val (.long q4), .second, .val (.int p5), .val (.double t6), .second, .val (.double t18), .second, .val (.int (own_max (1 : Int32) (p2 &&& (2147483647 : Int32)))), .val (.int (p3 &&& (2147483647 : Int32))), .val (.int (own_max (1 : Int32) ((q4.toInt32) &&& (2147483647 : Int32)))), .val (.int ((((q4.toUInt64 >>> ((32 : Int32) &&& 0x3f).toInt64.toUInt64).toInt64).toInt32) &&& (2147483647 : Int32))), .val (.int (p5 &&& (2147483647 : Int32))), .unset, .unset, .unset, .unset, .unset, .unset, .unset, .unset, .unset] [(.ref b8), (.ref b8)])) _
    refine XS.dload X8.here hx rfl (hb hby at_71) rfl ?_
    show Steps p.tables e below (T8.setTop (mkF m 73 #[.val (.long q1), .second, .val (.int p2), .val (.int p3), .val (.long q4), .second, .val (.int p5), .val (.double t6), .second, .val (.double t18), .second, .val (.int (own_max (1 : Int32) (p2 &&& (2147483647 : Int32)))), .val (.int (p3 &&& (2147483647 : Int32))), .val (.int (own_max (1 : Int32) ((q4.toInt32) &&& (2147483647 : Int32)))), .val (.int ((((q4.toUInt64 >>> ((32 : Int32) &&& 0x3f).toInt64.toUInt64).toInt64).toInt32) &&& (2147483647 : Int32))), .val (.int (p5 &&& (2147483647 : Int32))), .unset, .unset, .unset, .unset, .unset, .unset, .unset, .unset, .unset] [(.double t6), (.ref b8), (.ref b8)])) _
    refine st9.trans ?_
    show Steps p.tables e below (T9.setTop (mkF m 76 #[.val (.long q1), .second, .val (.int p2), .val (.int p3), .val (.long q4), .second, .val (.int p5), .val (.double t6), .second, .val (.double t18), .second, .val (.int (own_max (1 : Int32) (p2 &&& (2147483647 : Int32)))), .val (.int (p3 &&& (2147483647 : Int32))), .val (.int (own_max (1 : Int32) ((q4.toInt32) &&& (2147483647 : Int32)))), .val (.int ((((q4.toUInt64 >>> ((32 : Int32) &&& 0x3f).toInt64.toUInt64).toInt64).toInt32) &&& (2147483647 : Int32))), .val (.int (p5 &&& (2147483647 : Int32))), .unset, .unset, .unset, .unset, .unset, .unset, .unset, .unset, .unset] [(.ref b8)])) _
    refine XS.astore X9.here hx rfl (hb hby at_76) rfl rfl (l' := #[.val (.long q1), .second, .val (.int p2), .val (.int p3), .val (.long q4), .second, .val (.int p5), .val (.double t6), .second, .val (.double t18), .second, .val (.int (own_max (1 : Int32) (p2 &&& (2147483647 : Int32)))), .val (.int (p3 &&& (2147483647 : Int32))), .val (.int (own_max (1 : Int32) ((q4.toInt32) &&& (2147483647 : Int32)))), .val (.int ((((q4.toUInt64 >>> ((32 : Int32) &&& 0x3f).toInt64.toUInt64).toInt64).toInt32) &&& (2147483647 : Int32))), .val (.int (p5 &&& (2147483647 : Int32))), .val (.ref b8), .unset, .unset, .unset, .unset, .unset, .unset, .unset, .unset]) rfl ?_
    show Steps p.tables e below (T9.setTop (mkF m 78 #[.val (.long q1), .second, .val (.int p2), .val (.int p3), .val (.long q4), .second, .val (.int p5), .val (.double t6), .second, .val (.double t18), .second, .val (.int (own_max (1 : Int32) (p2 &&& (2147483647 : Int32)))), .val (.int (p3 &&& (2147483647 : Int32))), .val (.int (own_max (1 : Int32) ((q4.toInt32) &&& (2147483647 : Int32)))), .val (.int ((((q4.toUInt64 >>> ((32 : Int32) &&& 0x3f).toInt64.toUInt64).toInt64).toInt32) &&& (2147483647 : Int32))), .val (.int (p5 &&& (2147483647 : Int32))), .val (.ref b8), .unset, .unset, .unset, .unset, .unset, .unset, .unset, .unset] [])) _
    refine XS.aload X9.here hx rfl (hb hby at_78) rfl rfl ?_
    show Steps p.tables e below (T9.setTop (mkF m 80 #[.val (.long q1), .second, .val (.int p2), .val (.int p3), .val (.long q4), .second, .val (.int p5), .val (.double t6), .second, .val (.double t18), .second, .val (.int (own_max (1 : Int32) (p2 &&& (2147483647 : Int32)))), .val (.int (p3 &&& (2147483647 : Int32))), .val (.int (own_max (1 : Int32) ((q4.toInt32) &&& (2147483647 : Int32)))), .val (.int ((((q4.toUInt64 >>> ((32 : Int32) &&& 0x3f).toInt64.toUInt64).toInt64).toInt32) &&& (2147483647 : Int32))), .val (.int (p5 &&& (2147483647 : Int32))), .val (.ref b8), .unset, .unset, .unset, .unset, .unset, .unset, .unset, .unset] [(.ref b8)])) _
    refine XS.iload X9.here hx rfl (hb hby at_80) rfl ?_
    show Steps p.tables e below (T9.setTop (mkF m 82 #[.val (.long q1), .second, .val (.int p2), .val (.int p3), .val (.long q4), .second, .val (.int p5), .val (.double t6), .second, .val (.double t18), .second, .val (.int (own_max (1 : Int32) (p2 &&& (2147483647 : Int32)))), .val (.int (p3 &&& (2147483647 : Int32))), .val (.int (own_max (1 : Int32) ((q4.toInt32) &&& (2147483647 : Int32)))), .val (.int ((((q4.toUInt64 >>> ((32 : Int32) &&& 0x3f).toInt64.toUInt64).toInt64).toInt32) &&& (2147483647 : Int32))), .val (.int (p5 &&& (2147483647 : Int32))), .val (.ref b8), .unset, .unset, .unset, .unset, .unset, .unset, .unset, .unset] [(.int (own_max (1 : Int32) ((q4.toInt32) &&& (2147483647 : Int32)))), (.ref b8)])) _
    refine st10.trans ?_
    show Steps p.tables e below (T10.setTop (mkF m 85 #[.val (.long q1), .second, .val (.int p2), .val (.int p3), .val (.long q4), .second, .val (.int p5), .val (.double t6), .second, .val (.double t18), .second, .val (.int (own_max (1 : Int32) (p2 &&& (2147483647 : Int32)))), .val (.int (p3 &&& (2147483647 : Int32))), .val (.int (own_max (1 : Int32) ((q4.toInt32) &&& (2147483647 : Int32)))), .val (.int ((((q4.toUInt64 >>> ((32 : Int32) &&& 0x3f).toInt64.toUInt64).toInt64).toInt32) &&& (2147483647 : Int32))), .val (.int (p5 &&& (2147483647 : Int32))), .val (.ref b8), .unset, .unset, .unset, .unset, .unset, .unset, .unset, .unset] [])) _
    refine XS.aload X10.here hx rfl (hb hby at_85) rfl rfl ?_
    show Steps p.tables e below (T10.setTop (mkF m 87 #[.val (.long q1), .second, .val (.int p2), .val (.int p3), .val (.long q4), .second, .val (.int p5), .val (.double t6), .second, .val (.double t18), .second, .val (.int (own_max (1 : Int32) (p2 &&& (2147483647 : Int32)))), .val (.int (p3 &&& (2147483647 : Int32))), .val (.int (own_max (1 : Int32) ((q4.toInt32) &&& (2147483647 : Int32)))), .val (.int ((((q4.toUInt64 >>> ((32 : Int32) &&& 0x3f).toInt64.toUInt64).toInt64).toInt32) &&& (2147483647 : Int32))), .val (.int (p5 &&& (2147483647 : Int32))), .val (.ref b8), .unset, .unset, .unset, .unset, .unset, .unset, .unset, .unset] [(.ref b8)])) _
    refine XS.iload X10.here hx rfl (hb hby at_87) rfl ?_
    show Steps p.tables e below (T10.setTop (mkF m 89 #[.val (.long q1), .second, .val (.int p2), .val (.int p3), .val (.long q4), .second, .val (.int p5), .val (.double t6), .second, .val (.double t18), .second, .val (.int (own_max (1 : Int32) (p2 &&& (2147483647 : Int32)))), .val (.int (p3 &&& (2147483647 : Int32))), .val (.int (own_max (1 : Int32) ((q4.toInt32) &&& (2147483647 : Int32)))), .val (.int ((((q4.toUInt64 >>> ((32 : Int32) &&& 0x3f).toInt64.toUInt64).toInt64).toInt32) &&& (2147483647 : Int32))), .val (.int (p5 &&& (2147483647 : Int32))), .val (.ref b8), .unset, .unset, .unset, .unset, .unset, .unset, .unset, .unset] [(.int ((((q4.toUInt64 >>> ((32 : Int32) &&& 0x3f).toInt64.toUInt64).toInt64).toInt32) &&& (2147483647 : Int32))), (.ref b8)])) _
    refine st11.trans ?_
    show Steps p.tables e below (T11.setTop (mkF m 92 #[.val (.long q1), .second, .val (.int p2), .val (.int p3), .val (.long q4), .second, .val (.int p5), .val (.double t6), .second, .val (.double t18), .second, .val (.int (own_max (1 : Int32) (p2 &&& (2147483647 : Int32)))), .val (.int (p3 &&& (2147483647 : Int32))), .val (.int (own_max (1 : Int32) ((q4.toInt32) &&& (2147483647 : Int32)))), .val (.int ((((q4.toUInt64 >>> ((32 : Int32) &&& 0x3f).toInt64.toUInt64).toInt64).toInt32) &&& (2147483647 : Int32))), .val (.int (p5 &&& (2147483647 : Int32))), .val (.ref b8), .unset, .unset, .unset, .unset, .unset, .unset, .unset, .unset] [])) _
    refine XS.aload X11.here hx rfl (hb hby at_92) rfl rfl ?_
    show Steps p.tables e below (T11.setTop (mkF m 94 #[.val (.long q1), .second, .val (.int p2), .val (.int p3), .val (.long q4), .second, .val (.int p5), .val (.double t6), .second, .val (.double t18), .second, .val (.int (own_max (1 : Int32) (p2 &&& (2147483647 : Int32)))), .val (.int (p3 &&& (2147483647 : Int32))), .val (.int (own_max (1 : Int32) ((q4.toInt32) &&& (2147483647 : Int32)))), .val (.int ((((q4.toUInt64 >>> ((32 : Int32) &&& 0x3f).toInt64.toUInt64).toInt64).toInt32) &&& (2147483647 : Int32))), .val (.int (p5 &&& (2147483647 : Int32))), .val (.ref b8), .unset, .unset, .unset, .unset, .unset, .unset, .unset, .unset] [(.ref b8)])) _
    refine XS.iload X11.here hx rfl (hb hby at_94) rfl ?_
    show Steps p.tables e below (T11.setTop (mkF m 96 #[.val (.long q1), .second, .val (.int p2), .val (.int p3), .val (.long q4), .second, .val (.int p5), .val (.double t6), .second, .val (.double t18), .second, .val (.int (own_max (1 : Int32) (p2 &&& (2147483647 : Int32)))), .val (.int (p3 &&& (2147483647 : Int32))), .val (.int (own_max (1 : Int32) ((q4.toInt32) &&& (2147483647 : Int32)))), .val (.int ((((q4.toUInt64 >>> ((32 : Int32) &&& 0x3f).toInt64.toUInt64).toInt64).toInt32) &&& (2147483647 : Int32))), .val (.int (p5 &&& (2147483647 : Int32))), .val (.ref b8), .unset, .unset, .unset, .unset, .unset, .unset, .unset, .unset] [(.int (p5 &&& (2147483647 : Int32))), (.ref b8)])) _
    refine st12.trans ?_
    show Steps p.tables e below (T12.setTop (mkF m 99 #[.val (.long q1), .second, .val (.int p2), .val (.int p3), .val (.long q4), .second, .val (.int p5), .val (.double t6), .second, .val (.double t18), .second, .val (.int (own_max (1 : Int32) (p2 &&& (2147483647 : Int32)))), .val (.int (p3 &&& (2147483647 : Int32))), .val (.int (own_max (1 : Int32) ((q4.toInt32) &&& (2147483647 : Int32)))), .val (.int ((((q4.toUInt64 >>> ((32 : Int32) &&& 0x3f).toInt64.toUInt64).toInt64).toInt32) &&& (2147483647 : Int32))), .val (.int (p5 &&& (2147483647 : Int32))), .val (.ref b8), .unset, .unset, .unset, .unset, .unset, .unset, .unset, .unset] [])) _
    refine XS.aload X12.here hx rfl (hb hby at_99) rfl rfl ?_
    show Steps p.tables e below (T12.setTop (mkF m 101 #[.val (.long q1), .second, .val (.int p2), .val (.int p3), .val (.long q4), .second, .val (.int p5), .val (.double t6), .second, .val (.double t18), .second, .val (.int (own_max (1 : Int32) (p2 &&& (2147483647 : Int32)))), .val (.int (p3 &&& (2147483647 : Int32))), .val (.int (own_max (1 : Int32) ((q4.toInt32) &&& (2147483647 : Int32)))), .val (.int ((((q4.toUInt64 >>> ((32 : Int32) &&& 0x3f).toInt64.toUInt64).toInt64).toInt32) &&& (2147483647 : Int32))), .val (.int (p5 &&& (2147483647 : Int32))), .val (.ref b8), .unset, .unset, .unset, .unset, .unset, .unset, .unset, .unset] [(.ref b8)])) _
    refine XS.iload X12.here hx rfl (hb hby at_101) rfl ?_
    show Steps p.tables e below (T12.setTop (mkF m 103 #[.val (.long q1), .second, .val (.int p2), .val (.int p3), .val (.long q4), .second, .val (.int p5), .val (.double t6), .second, .val (.double t18), .second, .val (.int (own_max (1 : Int32) (p2 &&& (2147483647 : Int32)))), .val (.int (p3 &&& (2147483647 : Int32))), .val (.int (own_max (1 : Int32) ((q4.toInt32) &&& (2147483647 : Int32)))), .val (.int ((((q4.toUInt64 >>> ((32 : Int32) &&& 0x3f).toInt64.toUInt64).toInt64).toInt32) &&& (2147483647 : Int32))), .val (.int (p5 &&& (2147483647 : Int32))), .val (.ref b8), .unset, .unset, .unset, .unset, .unset, .unset, .unset, .unset] [(.int (p5 &&& (2147483647 : Int32))), (.ref b8)])) _
    refine st13.trans ?_
    show Steps p.tables e below (T13.setTop (mkF m 106 #[.val (.long q1), .second, .val (.int p2), .val (.int p3), .val (.long q4), .second, .val (.int p5), .val (.double t6), .second, .val (.double t18), .second, .val (.int (own_max (1 : Int32) (p2 &&& (2147483647 : Int32)))), .val (.int (p3 &&& (2147483647 : Int32))), .val (.int (own_max (1 : Int32) ((q4.toInt32) &&& (2147483647 : Int32)))), .val (.int ((((q4.toUInt64 >>> ((32 : Int32) &&& 0x3f).toInt64.toUInt64).toInt64).toInt32) &&& (2147483647 : Int32))), .val (.int (p5 &&& (2147483647 : Int32))), .val (.ref b8), .unset, .unset, .unset, .unset, .unset, .unset, .unset, .unset] [])) _
    refine XS.aload X13.here hx rfl (hb hby at_106) rfl rfl ?_
    show Steps p.tables e below (T13.setTop (mkF m 108 #[.val (.long q1), .second, .val (.int p2), .val (.int p3), .val (.long q4), .second, .val (.int p5), .val (.double t6), .second, .val (.double t18), .second, .val (.int (own_max (1 : Int32) (p2 &&& (2147483647 : Int32)))), .val (.int (p3 &&& (2147483647 : Int32))), .val (.int (own_max (1 : Int32) ((q4.toInt32) &&& (2147483647 : Int32)))), .val (.int ((((q4.toUInt64 >>> ((32 : Int32) &&& 0x3f).toInt64.toUInt64).toInt64).toInt32) &&& (2147483647 : Int32))), .val (.int (p5 &&& (2147483647 : Int32))), .val (.ref b8), .unset, .unset, .unset, .unset, .unset, .unset, .unset, .unset] [(.ref b8)])) _
    refine XS.dload X13.here hx rfl (hb hby at_108) rfl ?_
    show Steps p.tables e below (T13.setTop (mkF m 110 #[.val (.long q1), .second, .val (.int p2), .val (.int p3), .val (.long q4), .second, .val (.int p5), .val (.double t6), .second, .val (.double t18), .second, .val (.int (own_max (1 : Int32) (p2 &&& (2147483647 : Int32)))), .val (.int (p3 &&& (2147483647 : Int32))), .val (.int (own_max (1 : Int32) ((q4.toInt32) &&& (2147483647 : Int32)))), .val (.int ((((q4.toUInt64 >>> ((32 : Int32) &&& 0x3f).toInt64.toUInt64).toInt64).toInt32) &&& (2147483647 : Int32))), .val (.int (p5 &&& (2147483647 : Int32))), .val (.ref b8), .unset, .unset, .unset, .unset, .unset, .unset, .unset, .unset] [(.double t18), (.ref b8)])) _
    refine XS.iload X13.here hx rfl (hb hby at_110) rfl ?_
    show Steps p.tables e below (T13.setTop (mkF m 112 #[.val (.long q1), .second, .val (.int p2), .val (.int p3), .val (.long q4), .second, .val (.int p5), .val (.double t6), .second, .val (.double t18), .second, .val (.int (own_max (1 : Int32) (p2 &&& (2147483647 : Int32)))), .val (.int (p3 &&& (2147483647 : Int32))), .val (.int (own_max (1 : Int32) ((q4.toInt32) &&& (2147483647 : Int32)))), .val (.int ((((q4.toUInt64 >>> ((32 : Int32) &&& 0x3f).toInt64.toUInt64).toInt64).toInt32) &&& (2147483647 : Int32))), .val (.int (p5 &&& (2147483647 : Int32))), .val (.ref b8), .unset, .unset, .unset, .unset, .unset, .unset, .unset, .unset] [(.int (own_max (1 : Int32) (p2 &&& (2147483647 : Int32)))), (.double t18), (.ref b8)])) _
    refine XS.iload X13.here hx rfl (hb hby at_112) rfl ?_
    show Steps p.tables e below (T13.setTop (mkF m 114 #[.val (.long q1), .second, .val (.int p2), .val (.int p3), .val (.long q4), .second, .val (.int p5), .val (.double t6), .second, .val (.double t18), .second, .val (.int (own_max (1 : Int32) (p2 &&& (2147483647 : Int32)))), .val (.int (p3 &&& (2147483647 : Int32))), .val (.int (own_max (1 : Int32) ((q4.toInt32) &&& (2147483647 : Int32)))), .val (.int ((((q4.toUInt64 >>> ((32 : Int32) &&& 0x3f).toInt64.toUInt64).toInt64).toInt32) &&& (2147483647 : Int32))), .val (.int (p5 &&& (2147483647 : Int32))), .val (.ref b8), .unset, .unset, .unset, .unset, .unset, .unset, .unset, .unset] [(.int (p3 &&& (2147483647 : Int32))), (.int (own_max (1 : Int32) (p2 &&& (2147483647 : Int32)))), (.double t18), (.ref b8)])) _
    refine st14.trans ?_
    show Steps p.tables e below (T14.setTop (mkF m 117 #[.val (.long q1), .second, .val (.int p2), .val (.int p3), .val (.long q4), .second, .val (.int p5), .val (.double t6), .second, .val (.double t18), .second, .val (.int (own_max (1 : Int32) (p2 &&& (2147483647 : Int32)))), .val (.int (p3 &&& (2147483647 : Int32))), .val (.int (own_max (1 : Int32) ((q4.toInt32) &&& (2147483647 : Int32)))), .val (.int ((((q4.toUInt64 >>> ((32 : Int32) &&& 0x3f).toInt64.toUInt64).toInt64).toInt32) &&& (2147483647 : Int32))), .val (.int (p5 &&& (2147483647 : Int32))), .val (.ref b8), .unset, .unset, .unset, .unset, .unset, .unset, .unset, .unset] [(.double t185)])) _
    refine XS.dstore X14.here hx rfl (hb hby at_117) rfl (l' := #[.val (.long q1), .second, .val (.int p2), .val (.int p3), .val (.long q4), .second, .val (.int p5), .val (.double t6), .second, .val (.double t18), .second, .val (.int (own_max (1 : Int32) (p2 &&& (2147483647 : Int32)))), .val (.int (p3 &&& (2147483647 : Int32))), .val (.int (own_max (1 : Int32) ((q4.toInt32) &&& (2147483647 : Int32)))), .val (.int ((((q4.toUInt64 >>> ((32 : Int32) &&& 0x3f).toInt64.toUInt64).toInt64).toInt32) &&& (2147483647 : Int32))), .val (.int (p5 &&& (2147483647 : Int32))), .val (.ref b8), .val (.double t185), .second, .unset, .unset, .unset, .unset, .unset, .unset]) rfl ?_
    show Steps p.tables e below (T14.setTop (mkF m 119 #[.val (.long q1), .second, .val (.int p2), .val (.int p3), .val (.long q4), .second, .val (.int p5), .val (.double t6), .second, .val (.double t18), .second, .val (.int (own_max (1 : Int32) (p2 &&& (2147483647 : Int32)))), .val (.int (p3 &&& (2147483647 : Int32))), .val (.int (own_max (1 : Int32) ((q4.toInt32) &&& (2147483647 : Int32)))), .val (.int ((((q4.toUInt64 >>> ((32 : Int32) &&& 0x3f).toInt64.toUInt64).toInt64).toInt32) &&& (2147483647 : Int32))), .val (.int (p5 &&& (2147483647 : Int32))), .val (.ref b8), .val (.double t185), .second, .unset, .unset, .unset, .unset, .unset, .unset] [])) _
    refine XS.iload X14.here hx rfl (hb hby at_119) rfl ?_
    show Steps p.tables e below (T14.setTop (mkF m 121 #[.val (.long q1), .second, .val (.int p2), .val (.int p3), .val (.long q4), .second, .val (.int p5), .val (.double t6), .second, .val (.double t18), .second, .val (.int (own_max (1 : Int32) (p2 &&& (2147483647 : Int32)))), .val (.int (p3 &&& (2147483647 : Int32))), .val (.int (own_max (1 : Int32) ((q4.toInt32) &&& (2147483647 : Int32)))), .val (.int ((((q4.toUInt64 >>> ((32 : Int32) &&& 0x3f).toInt64.toUInt64).toInt64).toInt32) &&& (2147483647 : Int32))), .val (.int (p5 &&& (2147483647 : Int32))), .val (.ref b8), .val (.double t185), .second, .unset, .unset, .unset, .unset, .unset, .unset] [(.int ((((q4.toUInt64 >>> ((32 : Int32) &&& 0x3f).toInt64.toUInt64).toInt64).toInt32) &&& (2147483647 : Int32)))])) _
    refine XS.ifNo X14.here hx rfl (hb hby at_121) rfl ((if0 _ _).trans (tlt hc121).2.2.2) ?_
    show Steps p.tables e below (T14.setTop (mkF m 124 #[.val (.long q1), .second, .val (.int p2), .val (.int p3), .val (.long q4), .second, .val (.int p5), .val (.double t6), .second, .val (.double t18), .second, .val (.int (own_max (1 : Int32) (p2 &&& (2147483647 : Int32)))), .val (.int (p3 &&& (2147483647 : Int32))), .val (.int (own_max (1 : Int32) ((q4.toInt32) &&& (2147483647 : Int32)))), .val (.int ((((q4.toUInt64 >>> ((32 : Int32) &&& 0x3f).toInt64.toUInt64).toInt64).toInt32) &&& (2147483647 : Int32))), .val (.int (p5 &&& (2147483647 : Int32))), .val (.ref b8), .val (.double t185), .second, .unset, .unset, .unset, .unset, .unset, .unset] [])) _
    refine XS.iload X14.here hx rfl (hb hby at_124) rfl ?_
    show Steps p.tables e below (T14.setTop (mkF m 126 #[.val (.long q1), .second, .val (.int p2), .val (.int p3), .val (.long q4), .second, .val (.int p5), .val (.double t6), .second, .val (.double t18), .second, .val (.int (own_max (1 : Int32) (p2 &&& (2147483647 : Int32)))), .val (.int (p3 &&& (2147483647 : Int32))), .val (.int (own_max (1 : Int32) ((q4.toInt32) &&& (2147483647 : Int32)))), .val (.int ((((q4.toUInt64 >>> ((32 : Int32) &&& 0x3f).toInt64.toUInt64).toInt64).toInt32) &&& (2147483647 : Int32))), .val (.int (p5 &&& (2147483647 : Int32))), .val (.ref b8), .val (.double t185), .second, .unset, .unset, .unset, .unset, .unset, .unset] [(.int (own_max (1 : Int32) ((q4.toInt32) &&& (2147483647 : Int32))))])) _
    refine XS.i2l X14.here hx rfl (hb hby at_126) rfl ?_
    show Steps p.tables e below (T14.setTop (mkF m 127 #[.val (.long q1), .second, .val (.int p2), .val (.int p3), .val (.long q4), .second, .val (.int p5), .val (.double t6), .second, .val (.double t18), .second, .val (.int (own_max (1 : Int32) (p2 &&& (2147483647 : Int32)))), .val (.int (p3 &&& (2147483647 : Int32))), .val (.int (own_max (1 : Int32) ((q4.toInt32) &&& (2147483647 : Int32)))), .val (.int ((((q4.toUInt64 >>> ((32 : Int32) &&& 0x3f).toInt64.toUInt64).toInt64).toInt32) &&& (2147483647 : Int32))), .val (.int (p5 &&& (2147483647 : Int32))), .val (.ref b8), .val (.double t185), .second, .unset, .unset, .unset, .unset, .unset, .unset] [(.long ((own_max (1 : Int32) ((q4.toInt32) &&& (2147483647 : Int32))).toInt64))])) _
    refine XS.iload X14.here hx rfl (hb hby at_127) rfl ?_
    show Steps p.tables e below (T14.setTop (mkF m 129 #[.val (.long q1), .second, .val (.int p2), .val (.int p3), .val (.long q4), .second, .val (.int p5), .val (.double t6), .second, .val (.double t18), .second, .val (.int (own_max (1 : Int32) (p2 &&& (2147483647 : Int32)))), .val (.int (p3 &&& (2147483647 : Int32))), .val (.int (own_max (1 : Int32) ((q4.toInt32) &&& (2147483647 : Int32)))), .val (.int ((((q4.toUInt64 >>> ((32 : Int32) &&& 0x3f).toInt64.toUInt64).toInt64).toInt32) &&& (2147483647 : Int32))), .val (.int (p5 &&& (2147483647 : Int32))), .val (.ref b8), .val (.double t185), .second, .unset, .unset, .unset, .unset, .unset, .unset] [(.int ((((q4.toUInt64 >>> ((32 : Int32) &&& 0x3f).toInt64.toUInt64).toInt64).toInt32) &&& (2147483647 : Int32))), (.long ((own_max (1 : Int32) ((q4.toInt32) &&& (2147483647 : Int32))).toInt64))])) _
    refine XS.i2l X14.here hx rfl (hb hby at_129) rfl ?_
    show Steps p.tables e below (T14.setTop (mkF m 130 #[.val (.long q1), .second, .val (.int p2), .val (.int p3), .val (.long q4), .second, .val (.int p5), .val (.double t6), .second, .val (.double t18), .second, .val (.int (own_max (1 : Int32) (p2 &&& (2147483647 : Int32)))), .val (.int (p3 &&& (2147483647 : Int32))), .val (.int (own_max (1 : Int32) ((q4.toInt32) &&& (2147483647 : Int32)))), .val (.int ((((q4.toUInt64 >>> ((32 : Int32) &&& 0x3f).toInt64.toUInt64).toInt64).toInt32) &&& (2147483647 : Int32))), .val (.int (p5 &&& (2147483647 : Int32))), .val (.ref b8), .val (.double t185), .second, .unset, .unset, .unset, .unset, .unset, .unset] [(.long (((((q4.toUInt64 >>> ((32 : Int32) &&& 0x3f).toInt64.toUInt64).toInt64).toInt32) &&& (2147483647 : Int32)).toInt64)), (.long ((own_max (1 : Int32) ((q4.toInt32) &&& (2147483647 : Int32))).toInt64))])) _
    refine XS.ladd X14.here hx rfl (hb hby at_130) rfl ?_
    show Steps p.tables e below (T14.setTop (mkF m 131 #[.val (.long q1), .second, .val (.int p2), .val (.int p3), .val (.long q4), .second, .val (.int p5), .val (.double t6), .second, .val (.double t18), .second, .val (.int (own_max (1 : Int32) (p2 &&& (2147483647 : Int32)))), .val (.int (p3 &&& (2147483647 : Int32))), .val (.int (own_max (1 : Int32) ((q4.toInt32) &&& (2147483647 : Int32)))), .val (.int ((((q4.toUInt64 >>> ((32 : Int32) &&& 0x3f).toInt64.toUInt64).toInt64).toInt32) &&& (2147483647 : Int32))), .val (.int (p5 &&& (2147483647 : Int32))), .val (.ref b8), .val (.double t185), .second, .unset, .unset, .unset, .unset, .unset, .unset] [(.long (((own_max (1 : Int32) ((q4.toInt32) &&& (2147483647 : Int32))).toInt64) + (((((q4.toUInt64 >>> ((32 : Int32) &&& 0x3f).toInt64.toUInt64).toInt64).toInt32) &&& (2147483647 : Int32)).toInt64)))])) _
    refine XS.l2dS X14.here hx rfl (hb hby at_131) rfl ht131 ?_
    show Steps p.tables e below (T14.setTop (mkF m 132 #[.val (.long q1), .second, .val (.int p2), .val (.int p3), .val (.long q4), .second, .val (.int p5), .val (.double t6), .second, .val (.double t18), .second, .val (.int (own_max (1 : Int32) (p2 &&& (2147483647 : Int32)))), .val (.int (p3 &&& (2147483647 : Int32))), .val (.int (own_max (1 : Int32) ((q4.toInt32) &&& (2147483647 : Int32)))), .val (.int ((((q4.toUInt64 >>> ((32 : Int32) &&& 0x3f).toInt64.toUInt64).toInt64).toInt32) &&& (2147483647 : Int32))), .val (.int (p5 &&& (2147483647 : Int32))), .val (.ref b8), .val (.double t185), .second, .unset, .unset, .unset, .unset, .unset, .unset] [(.double t131)])) _
    refine X14.ldc2DoubleC hx hown (mvT hZ (hw _ (List.mem_of_getElem? (i := 40) rfl))) (g := (mkF m 132 #[.val (.long q1), .second, .val (.int p2), .val (.int p3), .val (.long q4), .second, .val (.int p5), .val (.double t6), .second, .val (.double t18), .second, .val (.int (own_max (1 : Int32) (p2 &&& (2147483647 : Int32)))), .val (.int (p3 &&& (2147483647 : Int32))), .val (.int (own_max (1 : Int32) ((q4.toInt32) &&& (2147483647 : Int32)))), .val (.int ((((q4.toUInt64 >>> ((32 : Int32) &&& 0x3f).toInt64.toUInt64).toInt64).toInt32) &&& (2147483647 : Int32))), .val (.int (p5 &&& (2147483647 : Int32))), .val (.ref b8), .val (.double t185), .second, .unset, .unset, .unset, .unset, .unset, .unset] [(.double t131)])) rfl (hb hby at_132) _ ?_
    show Steps p.tables e below (T14.setTop (mkF m 135 #[.val (.long q1), .second, .val (.int p2), .val (.int p3), .val (.long q4), .second, .val (.int p5), .val (.double t6), .second, .val (.double t18), .second, .val (.int (own_max (1 : Int32) (p2 &&& (2147483647 : Int32)))), .val (.int (p3 &&& (2147483647 : Int32))), .val (.int (own_max (1 : Int32) ((q4.toInt32) &&& (2147483647 : Int32)))), .val (.int ((((q4.toUInt64 >>> ((32 : Int32) &&& 0x3f).toInt64.toUInt64).toInt64).toInt32) &&& (2147483647 : Int32))), .val (.int (p5 &&& (2147483647 : Int32))), .val (.ref b8), .val (.double t185), .second, .unset, .unset, .unset, .unset, .unset, .unset] [(.double (4611686018427387904 : UInt64)), (.double t131)])) _
    refine XS.ddivS X14.here hx rfl (hb hby at_135) rfl hn135 ht135 ?_
    show Steps p.tables e below (T14.setTop (mkF m 136 #[.val (.long q1), .second, .val (.int p2), .val (.int p3), .val (.long q4), .second, .val (.int p5), .val (.double t6), .second, .val (.double t18), .second, .val (.int (own_max (1 : Int32) (p2 &&& (2147483647 : Int32)))), .val (.int (p3 &&& (2147483647 : Int32))), .val (.int (own_max (1 : Int32) ((q4.toInt32) &&& (2147483647 : Int32)))), .val (.int ((((q4.toUInt64 >>> ((32 : Int32) &&& 0x3f).toInt64.toUInt64).toInt64).toInt32) &&& (2147483647 : Int32))), .val (.int (p5 &&& (2147483647 : Int32))), .val (.ref b8), .val (.double t185), .second, .unset, .unset, .unset, .unset, .unset, .unset] [(.double t135)])) _
    refine XS.goto X14.here hx rfl (pc0 := 136) (pc' := 144) rfl (hb hby at_136) (by decide) (by decide) ?_
    show Steps p.tables e below (T14.setTop (mkF m 144 #[.val (.long q1), .second, .val (.int p2), .val (.int p3), .val (.long q4), .second, .val (.int p5), .val (.double t6), .second, .val (.double t18), .second, .val (.int (own_max (1 : Int32) (p2 &&& (2147483647 : Int32)))), .val (.int (p3 &&& (2147483647 : Int32))), .val (.int (own_max (1 : Int32) ((q4.toInt32) &&& (2147483647 : Int32)))), .val (.int ((((q4.toUInt64 >>> ((32 : Int32) &&& 0x3f).toInt64.toUInt64).toInt64).toInt32) &&& (2147483647 : Int32))), .val (.int (p5 &&& (2147483647 : Int32))), .val (.ref b8), .val (.double t185), .second, .unset, .unset, .unset, .unset, .unset, .unset] [(.double t135)])) _
    refine XS.dstore X14.here hx rfl (hb hby at_144) rfl (l' := #[.val (.long q1), .second, .val (.int p2), .val (.int p3), .val (.long q4), .second, .val (.int p5), .val (.double t6), .second, .val (.double t18), .second, .val (.int (own_max (1 : Int32) (p2 &&& (2147483647 : Int32)))), .val (.int (p3 &&& (2147483647 : Int32))), .val (.int (own_max (1 : Int32) ((q4.toInt32) &&& (2147483647 : Int32)))), .val (.int ((((q4.toUInt64 >>> ((32 : Int32) &&& 0x3f).toInt64.toUInt64).toInt64).toInt32) &&& (2147483647 : Int32))), .val (.int (p5 &&& (2147483647 : Int32))), .val (.ref b8), .val (.double t185), .second, .val (.double t135), .second, .unset, .unset, .unset, .unset]) rfl ?_
    show Steps p.tables e below (T14.setTop (mkF m 146 #[.val (.long q1), .second, .val (.int p2), .val (.int p3), .val (.long q4), .second, .val (.int p5), .val (.double t6), .second, .val (.double t18), .second, .val (.int (own_max (1 : Int32) (p2 &&& (2147483647 : Int32)))), .val (.int (p3 &&& (2147483647 : Int32))), .val (.int (own_max (1 : Int32) ((q4.toInt32) &&& (2147483647 : Int32)))), .val (.int ((((q4.toUInt64 >>> ((32 : Int32) &&& 0x3f).toInt64.toUInt64).toInt64).toInt32) &&& (2147483647 : Int32))), .val (.int (p5 &&& (2147483647 : Int32))), .val (.ref b8), .val (.double t185), .second, .val (.double t135), .second, .unset, .unset, .unset, .unset] [])) _
    refine XS.iload X14.here hx rfl (hb hby at_146) rfl ?_
    show Steps p.tables e below (T14.setTop (mkF m 148 #[.val (.long q1), .second, .val (.int p2), .val (.int p3), .val (.long q4), .second, .val (.int p5), .val (.double t6), .second, .val (.double t18), .second, .val (.int (own_max (1 : Int32) (p2 &&& (2147483647 : Int32)))), .val (.int (p3 &&& (2147483647 : Int32))), .val (.int (own_max (1 : Int32) ((q4.toInt32) &&& (2147483647 : Int32)))), .val (.int ((((q4.toUInt64 >>> ((32 : Int32) &&& 0x3f).toInt64.toUInt64).toInt64).toInt32) &&& (2147483647 : Int32))), .val (.int (p5 &&& (2147483647 : Int32))), .val (.ref b8), .val (.double t185), .second, .val (.double t135), .second, .unset, .unset, .unset, .unset] [(.int (own_max (1 : Int32) (p2 &&& (2147483647 : Int32))))])) _
    refine XS.i2dS X14.here hx rfl (hb hby at_148) rfl ht148 ?_
    show Steps p.tables e below (T14.setTop (mkF m 149 #[.val (.long q1), .second, .val (.int p2), .val (.int p3), .val (.long q4), .second, .val (.int p5), .val (.double t6), .second, .val (.double t18), .second, .val (.int (own_max (1 : Int32) (p2 &&& (2147483647 : Int32)))), .val (.int (p3 &&& (2147483647 : Int32))), .val (.int (own_max (1 : Int32) ((q4.toInt32) &&& (2147483647 : Int32)))), .val (.int ((((q4.toUInt64 >>> ((32 : Int32) &&& 0x3f).toInt64.toUInt64).toInt64).toInt32) &&& (2147483647 : Int32))), .val (.int (p5 &&& (2147483647 : Int32))), .val (.ref b8), .val (.double t185), .second, .val (.double t135), .second, .unset, .unset, .unset, .unset] [(.double t148)])) _
    refine X14.ldc2DoubleC hx hown (mvT hZ (hw _ (List.mem_of_getElem? (i := 41) rfl))) (g := (mkF m 149 #[.val (.long q1), .second, .val (.int p2), .val (.int p3), .val (.long q4), .second, .val (.int p5), .val (.double t6), .second, .val (.double t18), .second, .val (.int (own_max (1 : Int32) (p2 &&& (2147483647 : Int32)))), .val (.int (p3 &&& (2147483647 : Int32))), .val (.int (own_max (1 : Int32) ((q4.toInt32) &&& (2147483647 : Int32)))), .val (.int ((((q4.toUInt64 >>> ((32 : Int32) &&& 0x3f).toInt64.toUInt64).toInt64).toInt32) &&& (2147483647 : Int32))), .val (.int (p5 &&& (2147483647 : Int32))), .val (.ref b8), .val (.double t185), .second, .val (.double t135), .second, .unset, .unset, .unset, .unset] [(.double t148)])) rfl (hb hby at_149) _ ?_
    show Steps p.tables e below (T14.setTop (mkF m 152 #[.val (.long q1), .second, .val (.int p2), .val (.int p3), .val (.long q4), .second, .val (.int p5), .val (.double t6), .second, .val (.double t18), .second, .val (.int (own_max (1 : Int32) (p2 &&& (2147483647 : Int32)))), .val (.int (p3 &&& (2147483647 : Int32))), .val (.int (own_max (1 : Int32) ((q4.toInt32) &&& (2147483647 : Int32)))), .val (.int ((((q4.toUInt64 >>> ((32 : Int32) &&& 0x3f).toInt64.toUInt64).toInt64).toInt32) &&& (2147483647 : Int32))), .val (.int (p5 &&& (2147483647 : Int32))), .val (.ref b8), .val (.double t185), .second, .val (.double t135), .second, .unset, .unset, .unset, .unset] [(.double (4608083138725491507 : UInt64)), (.double t148)])) _
    refine X14.ldc2DoubleC hx hown (mvT hZ (hw _ (List.mem_of_getElem? (i := 42) rfl))) (g := (mkF m 152 #[.val (.long q1), .second, .val (.int p2), .val (.int p3), .val (.long q4), .second, .val (.int p5), .val (.double t6), .second, .val (.double t18), .second, .val (.int (own_max (1 : Int32) (p2 &&& (2147483647 : Int32)))), .val (.int (p3 &&& (2147483647 : Int32))), .val (.int (own_max (1 : Int32) ((q4.toInt32) &&& (2147483647 : Int32)))), .val (.int ((((q4.toUInt64 >>> ((32 : Int32) &&& 0x3f).toInt64.toUInt64).toInt64).toInt32) &&& (2147483647 : Int32))), .val (.int (p5 &&& (2147483647 : Int32))), .val (.ref b8), .val (.double t185), .second, .val (.double t135), .second, .unset, .unset, .unset, .unset] [(.double (4608083138725491507 : UInt64)), (.double t148)])) rfl (hb hby at_152) _ ?_
    show Steps p.tables e below (T14.setTop (mkF m 155 #[.val (.long q1), .second, .val (.int p2), .val (.int p3), .val (.long q4), .second, .val (.int p5), .val (.double t6), .second, .val (.double t18), .second, .val (.int (own_max (1 : Int32) (p2 &&& (2147483647 : Int32)))), .val (.int (p3 &&& (2147483647 : Int32))), .val (.int (own_max (1 : Int32) ((q4.toInt32) &&& (2147483647 : Int32)))), .val (.int ((((q4.toUInt64 >>> ((32 : Int32) &&& 0x3f).toInt64.toUInt64).toInt64).toInt32) &&& (2147483647 : Int32))), .val (.int (p5 &&& (2147483647 : Int32))), .val (.ref b8), .val (.double t185), .second, .val (.double t135), .second, .unset, .unset, .unset, .unset] [(.double (4598175219545276416 : UInt64)), (.double (4608083138725491507 : UInt64)), (.double t148)])) _
    refine X14.ldc2DoubleC hx hown (mvT hZ (hw _ (List.mem_of_getElem? (i := 43) rfl))) (g := (mkF m 155 #[.val (.long q1), .second, .val (.int p2), .val (.int p3), .val (.long q4), .second, .val (.int p5), .val (.double t6), .second, .val (.double t18), .second, .val (.int (own_max (1 : Int32) (p2 &&& (2147483647 : Int32)))), .val (.int (p3 &&& (2147483647 : Int32))), .val (.int (own_max (1 : Int32) ((q4.toInt32) &&& (2147483647 : Int32)))), .val (.int ((((q4.toUInt64 >>> ((32 : Int32) &&& 0x3f).toInt64.toUInt64).toInt64).toInt32) &&& (2147483647 : Int32))), .val (.int (p5 &&& (2147483647 : Int32))), .val (.ref b8), .val (.double t185), .second, .val (.double t135), .second, .unset, .unset, .unset, .unset] [(.double (4598175219545276416 : UInt64)), (.double (4608083138725491507 : UInt64)), (.double t148)])) rfl (hb hby at_155) _ ?_
    show Steps p.tables e below (T14.setTop (mkF m 158 #[.val (.long q1), .second, .val (.int p2), .val (.int p3), .val (.long q4), .second, .val (.int p5), .val (.double t6), .second, .val (.double t18), .second, .val (.int (own_max (1 : Int32) (p2 &&& (2147483647 : Int32)))), .val (.int (p3 &&& (2147483647 : Int32))), .val (.int (own_max (1 : Int32) ((q4.toInt32) &&& (2147483647 : Int32)))), .val (.int ((((q4.toUInt64 >>> ((32 : Int32) &&& 0x3f).toInt64.toUInt64).toInt64).toInt32) &&& (2147483647 : Int32))), .val (.int (p5 &&& (2147483647 : Int32))), .val (.ref b8), .val (.double t185), .second, .val (.double t135), .second, .unset, .unset, .unset, .unset] [(.double (4604930618986332160 : UInt64)), (.double (4598175219545276416 : UInt64)), (.double (4608083138725491507 : UInt64)), (.double t148)])) _
    refine XS.iload X14.here hx rfl (hb hby at_158) rfl ?_
    show Steps p.tables e below (T14.setTop (mkF m 160 #[.val (.long q1), .second, .val (.int p2), .val (.int p3), .val (.long q4), .second, .val (.int p5), .val (.double t6), .second, .val (.double t18), .second, .val (.int (own_max (1 : Int32) (p2 &&& (2147483647 : Int32)))), .val (.int (p3 &&& (2147483647 : Int32))), .val (.int (own_max (1 : Int32) ((q4.toInt32) &&& (2147483647 : Int32)))), .val (.int ((((q4.toUInt64 >>> ((32 : Int32) &&& 0x3f).toInt64.toUInt64).toInt64).toInt32) &&& (2147483647 : Int32))), .val (.int (p5 &&& (2147483647 : Int32))), .val (.ref b8), .val (.double t185), .second, .val (.double t135), .second, .unset, .unset, .unset, .unset] [(.int (p3 &&& (2147483647 : Int32))), (.double (4604930618986332160 : UInt64)), (.double (4598175219545276416 : UInt64)), (.double (4608083138725491507 : UInt64)), (.double t148)])) _
    refine XS.i2dS X14.here hx rfl (hb hby at_160) rfl ht160 ?_
    show Steps p.tables e below (T14.setTop (mkF m 161 #[.val (.long q1), .second, .val (.int p2), .val (.int p3), .val (.long q4), .second, .val (.int p5), .val (.double t6), .second, .val (.double t18), .second, .val (.int (own_max (1 : Int32) (p2 &&& (2147483647 : Int32)))), .val (.int (p3 &&& (2147483647 : Int32))), .val (.int (own_max (1 : Int32) ((q4.toInt32) &&& (2147483647 : Int32)))), .val (.int ((((q4.toUInt64 >>> ((32 : Int32) &&& 0x3f).toInt64.toUInt64).toInt64).toInt32) &&& (2147483647 : Int32))), .val (.int (p5 &&& (2147483647 : Int32))), .val (.ref b8), .val (.double t185), .second, .val (.double t135), .second, .unset, .unset, .unset, .unset] [(.double t160), (.double (4604930618986332160 : UInt64)), (.double (4598175219545276416 : UInt64)), (.double (4608083138725491507 : UInt64)), (.double t148)])) _
    refine XS.dmulS X14.here hx rfl (hb hby at_161) rfl hn161 ht161 ?_
    show Steps p.tables e below (T14.setTop (mkF m 162 #[.val (.long q1), .second, .val (.int p2), .val (.int p3), .val (.long q4), .second, .val (.int p5), .val (.double t6), .second, .val (.double t18), .second, .val (.int (own_max (1 : Int32) (p2 &&& (2147483647 : Int32)))), .val (.int (p3 &&& (2147483647 : Int32))), .val (.int (own_max (1 : Int32) ((q4.toInt32) &&& (2147483647 : Int32)))), .val (.int ((((q4.toUInt64 >>> ((32 : Int32) &&& 0x3f).toInt64.toUInt64).toInt64).toInt32) &&& (2147483647 : Int32))), .val (.int (p5 &&& (2147483647 : Int32))), .val (.ref b8), .val (.double t185), .second, .val (.double t135), .second, .unset, .unset, .unset, .unset] [(.double t161), (.double (4598175219545276416 : UInt64)), (.double (4608083138725491507 : UInt64)), (.double t148)])) _
    refine XS.dload X14.here hx rfl (hb hby at_162) rfl ?_
    show Steps p.tables e below (T14.setTop (mkF m 164 #[.val (.long q1), .second, .val (.int p2), .val (.int p3), .val (.long q4), .second, .val (.int p5), .val (.double t6), .second, .val (.double t18), .second, .val (.int (own_max (1 : Int32) (p2 &&& (2147483647 : Int32)))), .val (.int (p3 &&& (2147483647 : Int32))), .val (.int (own_max (1 : Int32) ((q4.toInt32) &&& (2147483647 : Int32)))), .val (.int ((((q4.toUInt64 >>> ((32 : Int32) &&& 0x3f).toInt64.toUInt64).toInt64).toInt32) &&& (2147483647 : Int32))), .val (.int (p5 &&& (2147483647 : Int32))), .val (.ref b8), .val (.double t185), .second, .val (.double t135), .second, .unset, .unset, .unset, .unset] [(.double t135), (.double t161), (.double (4598175219545276416 : UInt64)), (.double (4608083138725491507 : UInt64)), (.double t148)])) _
    refine XS.ddivS X14.here hx rfl (hb hby at_164) rfl hn164 ht164 ?_
    show Steps p.tables e below (T14.setTop (mkF m 165 #[.val (.long q1), .second, .val (.int p2), .val (.int p3), .val (.long q4), .second, .val (.int p5), .val (.double t6), .second, .val (.double t18), .second, .val (.int (own_max (1 : Int32) (p2 &&& (2147483647 : Int32)))), .val (.int (p3 &&& (2147483647 : Int32))), .val (.int (own_max (1 : Int32) ((q4.toInt32) &&& (2147483647 : Int32)))), .val (.int ((((q4.toUInt64 >>> ((32 : Int32) &&& 0x3f).toInt64.toUInt64).toInt64).toInt32) &&& (2147483647 : Int32))), .val (.int (p5 &&& (2147483647 : Int32))), .val (.ref b8), .val (.double t185), .second, .val (.double t135), .second, .unset, .unset, .unset, .unset] [(.double t164), (.double (4598175219545276416 : UInt64)), (.double (4608083138725491507 : UInt64)), (.double t148)])) _
    refine XS.daddS X14.here hx rfl (hb hby at_165) rfl hn165 ht165 ?_
    show Steps p.tables e below (T14.setTop (mkF m 166 #[.val (.long q1), .second, .val (.int p2), .val (.int p3), .val (.long q4), .second, .val (.int p5), .val (.double t6), .second, .val (.double t18), .second, .val (.int (own_max (1 : Int32) (p2 &&& (2147483647 : Int32)))), .val (.int (p3 &&& (2147483647 : Int32))), .val (.int (own_max (1 : Int32) ((q4.toInt32) &&& (2147483647 : Int32)))), .val (.int ((((q4.toUInt64 >>> ((32 : Int32) &&& 0x3f).toInt64.toUInt64).toInt64).toInt32) &&& (2147483647 : Int32))), .val (.int (p5 &&& (2147483647 : Int32))), .val (.ref b8), .val (.double t185), .second, .val (.double t135), .second, .unset, .unset, .unset, .unset] [(.double t165), (.double (4608083138725491507 : UInt64)), (.double t148)])) _
    refine XS.dmulS X14.here hx rfl (hb hby at_166) rfl hn166 ht166 ?_
    show Steps p.tables e below (T14.setTop (mkF m 167 #[.val (.long q1), .second, .val (.int p2), .val (.int p3), .val (.long q4), .second, .val (.int p5), .val (.double t6), .second, .val (.double t18), .second, .val (.int (own_max (1 : Int32) (p2 &&& (2147483647 : Int32)))), .val (.int (p3 &&& (2147483647 : Int32))), .val (.int (own_max (1 : Int32) ((q4.toInt32) &&& (2147483647 : Int32)))), .val (.int ((((q4.toUInt64 >>> ((32 : Int32) &&& 0x3f).toInt64.toUInt64).toInt64).toInt32) &&& (2147483647 : Int32))), .val (.int (p5 &&& (2147483647 : Int32))), .val (.ref b8), .val (.double t185), .second, .val (.double t135), .second, .unset, .unset, .unset, .unset] [(.double t166), (.double t148)])) _
    refine XS.daddS X14.here hx rfl (hb hby at_167) rfl hn167 ht167 ?_
    show Steps p.tables e below (T14.setTop (mkF m 168 #[.val (.long q1), .second, .val (.int p2), .val (.int p3), .val (.long q4), .second, .val (.int p5), .val (.double t6), .second, .val (.double t18), .second, .val (.int (own_max (1 : Int32) (p2 &&& (2147483647 : Int32)))), .val (.int (p3 &&& (2147483647 : Int32))), .val (.int (own_max (1 : Int32) ((q4.toInt32) &&& (2147483647 : Int32)))), .val (.int ((((q4.toUInt64 >>> ((32 : Int32) &&& 0x3f).toInt64.toUInt64).toInt64).toInt32) &&& (2147483647 : Int32))), .val (.int (p5 &&& (2147483647 : Int32))), .val (.ref b8), .val (.double t185), .second, .val (.double t135), .second, .unset, .unset, .unset, .unset] [(.double t167)])) _
    refine XS.dstore X14.here hx rfl (hb hby at_168) rfl (l' := #[.val (.long q1), .second, .val (.int p2), .val (.int p3), .val (.long q4), .second, .val (.int p5), .val (.double t6), .second, .val (.double t18), .second, .val (.int (own_max (1 : Int32) (p2 &&& (2147483647 : Int32)))), .val (.int (p3 &&& (2147483647 : Int32))), .val (.int (own_max (1 : Int32) ((q4.toInt32) &&& (2147483647 : Int32)))), .val (.int ((((q4.toUInt64 >>> ((32 : Int32) &&& 0x3f).toInt64.toUInt64).toInt64).toInt32) &&& (2147483647 : Int32))), .val (.int (p5 &&& (2147483647 : Int32))), .val (.ref b8), .val (.double t185), .second, .val (.double t135), .second, .val (.double t167), .second, .unset, .unset]) rfl ?_
    show Steps p.tables e below (T14.setTop (mkF m 170 #[.val (.long q1), .second, .val (.int p2), .val (.int p3), .val (.long q4), .second, .val (.int p5), .val (.double t6), .second, .val (.double t18), .second, .val (.int (own_max (1 : Int32) (p2 &&& (2147483647 : Int32)))), .val (.int (p3 &&& (2147483647 : Int32))), .val (.int (own_max (1 : Int32) ((q4.toInt32) &&& (2147483647 : Int32)))), .val (.int ((((q4.toUInt64 >>> ((32 : Int32) &&& 0x3f).toInt64.toUInt64).toInt64).toInt32) &&& (2147483647 : Int32))), .val (.int (p5 &&& (2147483647 : Int32))), .val (.ref b8), .val (.double t185), .second, .val (.double t135), .second, .val (.double t167), .second, .unset, .unset] [])) _
    refine XS.dload X14.here hx rfl (hb hby at_170) rfl ?_
    show Steps p.tables e below (T14.setTop (mkF m 172 #[.val (.long q1), .second, .val (.int p2), .val (.int p3), .val (.long q4), .second, .val (.int p5), .val (.double t6), .second, .val (.double t18), .second, .val (.int (own_max (1 : Int32) (p2 &&& (2147483647 : Int32)))), .val (.int (p3 &&& (2147483647 : Int32))), .val (.int (own_max (1 : Int32) ((q4.toInt32) &&& (2147483647 : Int32)))), .val (.int ((((q4.toUInt64 >>> ((32 : Int32) &&& 0x3f).toInt64.toUInt64).toInt64).toInt32) &&& (2147483647 : Int32))), .val (.int (p5 &&& (2147483647 : Int32))), .val (.ref b8), .val (.double t185), .second, .val (.double t135), .second, .val (.double t167), .second, .unset, .unset] [(.double t6)])) _
    refine XS.dload X14.here hx rfl (hb hby at_172) rfl ?_
    show Steps p.tables e below (T14.setTop (mkF m 174 #[.val (.long q1), .second, .val (.int p2), .val (.int p3), .val (.long q4), .second, .val (.int p5), .val (.double t6), .second, .val (.double t18), .second, .val (.int (own_max (1 : Int32) (p2 &&& (2147483647 : Int32)))), .val (.int (p3 &&& (2147483647 : Int32))), .val (.int (own_max (1 : Int32) ((q4.toInt32) &&& (2147483647 : Int32)))), .val (.int ((((q4.toUInt64 >>> ((32 : Int32) &&& 0x3f).toInt64.toUInt64).toInt64).toInt32) &&& (2147483647 : Int32))), .val (.int (p5 &&& (2147483647 : Int32))), .val (.ref b8), .val (.double t185), .second, .val (.double t135), .second, .val (.double t167), .second, .unset, .unset] [(.double t18), (.double t6)])) _
    refine XS.dmulS X14.here hx rfl (hb hby at_174) rfl hn174 ht174 ?_
    show Steps p.tables e below (T14.setTop (mkF m 175 #[.val (.long q1), .second, .val (.int p2), .val (.int p3), .val (.long q4), .second, .val (.int p5), .val (.double t6), .second, .val (.double t18), .second, .val (.int (own_max (1 : Int32) (p2 &&& (2147483647 : Int32)))), .val (.int (p3 &&& (2147483647 : Int32))), .val (.int (own_max (1 : Int32) ((q4.toInt32) &&& (2147483647 : Int32)))), .val (.int ((((q4.toUInt64 >>> ((32 : Int32) &&& 0x3f).toInt64.toUInt64).toInt64).toInt32) &&& (2147483647 : Int32))), .val (.int (p5 &&& (2147483647 : Int32))), .val (.ref b8), .val (.double t185), .second, .val (.double t135), .second, .val (.double t167), .second, .unset, .unset] [(.double t174)])) _
    refine XS.iload X14.here hx rfl (hb hby at_175) rfl ?_
    show Steps p.tables e below (T14.setTop (mkF m 177 #[.val (.long q1), .second, .val (.int p2), .val (.int p3), .val (.long q4), .second, .val (.int p5), .val (.double t6), .second, .val (.double t18), .second, .val (.int (own_max (1 : Int32) (p2 &&& (2147483647 : Int32)))), .val (.int (p3 &&& (2147483647 : Int32))), .val (.int (own_max (1 : Int32) ((q4.toInt32) &&& (2147483647 : Int32)))), .val (.int ((((q4.toUInt64 >>> ((32 : Int32) &&& 0x3f).toInt64.toUInt64).toInt64).toInt32) &&& (2147483647 : Int32))), .val (.int (p5 &&& (2147483647 : Int32))), .val (.ref b8), .val (.double t185), .second, .val (.double t135), .second, .val (.double t167), .second, .unset, .unset] [(.int (own_max (1 : Int32) (p2 &&& (2147483647 : Int32)))), (.double t174)])) _
    refine XS.i2dS X14.here hx rfl (hb hby at_177) rfl ht177 ?_
    show Steps p.tables e below (T14.setTop (mkF m 178 #[.val (.long q1), .second, .val (.int p2), .val (.int p3), .val (.long q4), .second, .val (.int p5), .val (.double t6), .second, .val (.double t18), .second, .val (.int (own_max (1 : Int32) (p2 &&& (2147483647 : Int32)))), .val (.int (p3 &&& (2147483647 : Int32))), .val (.int (own_max (1 : Int32) ((q4.toInt32) &&& (2147483647 : Int32)))), .val (.int ((((q4.toUInt64 >>> ((32 : Int32) &&& 0x3f).toInt64.toUInt64).toInt64).toInt32) &&& (2147483647 : Int32))), .val (.int (p5 &&& (2147483647 : Int32))), .val (.ref b8), .val (.double t185), .second, .val (.double t135), .second, .val (.double t167), .second, .unset, .unset] [(.double t177), (.double t174)])) _
    refine XS.dmulS X14.here hx rfl (hb hby at_178) rfl hn178 ht178 ?_
    show Steps p.tables e below (T14.setTop (mkF m 179 #[.val (.long q1), .second, .val (.int p2), .val (.int p3), .val (.long q4), .second, .val (.int p5), .val (.double t6), .second, .val (.double t18), .second, .val (.int (own_max (1 : Int32) (p2 &&& (2147483647 : Int32)))), .val (.int (p3 &&& (2147483647 : Int32))), .val (.int (own_max (1 : Int32) ((q4.toInt32) &&& (2147483647 : Int32)))), .val (.int ((((q4.toUInt64 >>> ((32 : Int32) &&& 0x3f).toInt64.toUInt64).toInt64).toInt32) &&& (2147483647 : Int32))), .val (.int (p5 &&& (2147483647 : Int32))), .val (.ref b8), .val (.double t185), .second, .val (.double t135), .second, .val (.double t167), .second, .unset, .unset] [(.double t178)])) _
    refine X14.ldc2DoubleC hx hown (mvT hZ (hw _ (List.mem_of_getElem? (i := 44) rfl))) (g := (mkF m 179 #[.val (.long q1), .second, .val (.int p2), .val (.int p3), .val (.long q4), .second, .val (.int p5), .val (.double t6), .second, .val (.double t18), .second, .val (.int (own_max (1 : Int32) (p2 &&& (2147483647 : Int32)))), .val (.int (p3 &&& (2147483647 : Int32))), .val (.int (own_max (1 : Int32) ((q4.toInt32) &&& (2147483647 : Int32)))), .val (.int ((((q4.toUInt64 >>> ((32 : Int32) &&& 0x3f).toInt64.toUInt64).toInt64).toInt32) &&& (2147483647 : Int32))), .val (.int (p5 &&& (2147483647 : Int32))), .val (.ref b8), .val (.double t185), .second, .val (.double t135), .second, .val (.double t167), .second, .unset, .unset] [(.double t178)])) rfl (hb hby at_179) _ ?_
    show Steps p.tables e below (T14.setTop (mkF m 182 #[.val (.long q1), .second, .val (.int p2), .val (.int p3), .val (.long q4), .second, .val (.int p5), .val (.double t6), .second, .val (.double t18), .second, .val (.int (own_max (1 : Int32) (p2 &&& (2147483647 : Int32)))), .val (.int (p3 &&& (2147483647 : Int32))), .val (.int (own_max (1 : Int32) ((q4.toInt32) &&& (2147483647 : Int32)))), .val (.int ((((q4.toUInt64 >>> ((32 : Int32) &&& 0x3f).toInt64.toUInt64).toInt64).toInt32) &&& (2147483647 : Int32))), .val (.int (p5 &&& (2147483647 : Int32))), .val (.ref b8), .val (.double t185), .second, .val (.double t135), .second, .val (.double t167), .second, .unset, .unset] [(.double (4612136378390124954 : UInt64)), (.double t178)])) _
    refine XS.dmulS X14.here hx rfl (hb hby at_182) rfl hn182 ht182 ?_
    show Steps p.tables e below (T14.setTop (mkF m 183 #[.val (.long q1), .second, .val (.int p2), .val (.int p3), .val (.long q4), .second, .val (.int p5), .val (.double t6), .second, .val (.double t18), .second, .val (.int (own_max (1 : Int32) (p2 &&& (2147483647 : Int32)))), .val (.int (p3 &&& (2147483647 : Int32))), .val (.int (own_max (1 : Int32) ((q4.toInt32) &&& (2147483647 : Int32)))), .val (.int ((((q4.toUInt64 >>> ((32 : Int32) &&& 0x3f).toInt64.toUInt64).toInt64).toInt32) &&& (2147483647 : Int32))), .val (.int (p5 &&& (2147483647 : Int32))), .val (.ref b8), .val (.double t185), .second, .val (.double t135), .second, .val (.double t167), .second, .unset, .unset] [(.double t182)])) _
    refine XS.dload X14.here hx rfl (hb hby at_183) rfl ?_
    show Steps p.tables e below (T14.setTop (mkF m 185 #[.val (.long q1), .second, .val (.int p2), .val (.int p3), .val (.long q4), .second, .val (.int p5), .val (.double t6), .second, .val (.double t18), .second, .val (.int (own_max (1 : Int32) (p2 &&& (2147483647 : Int32)))), .val (.int (p3 &&& (2147483647 : Int32))), .val (.int (own_max (1 : Int32) ((q4.toInt32) &&& (2147483647 : Int32)))), .val (.int ((((q4.toUInt64 >>> ((32 : Int32) &&& 0x3f).toInt64.toUInt64).toInt64).toInt32) &&& (2147483647 : Int32))), .val (.int (p5 &&& (2147483647 : Int32))), .val (.ref b8), .val (.double t185), .second, .val (.double t135), .second, .val (.double t167), .second, .unset, .unset] [(.double t167), (.double t182)])) _
    refine XS.ddivS X14.here hx rfl (hb hby at_185) rfl hn185 ht185 ?_
    show Steps p.tables e below (T14.setTop (mkF m 186 #[.val (.long q1), .second, .val (.int p2), .val (.int p3), .val (.long q4), .second, .val (.int p5), .val (.double t6), .second, .val (.double t18), .second, .val (.int (own_max (1 : Int32) (p2 &&& (2147483647 : Int32)))), .val (.int (p3 &&& (2147483647 : Int32))), .val (.int (own_max (1 : Int32) ((q4.toInt32) &&& (2147483647 : Int32)))), .val (.int ((((q4.toUInt64 >>> ((32 : Int32) &&& 0x3f).toInt64.toUInt64).toInt64).toInt32) &&& (2147483647 : Int32))), .val (.int (p5 &&& (2147483647 : Int32))), .val (.ref b8), .val (.double t185), .second, .val (.double t135), .second, .val (.double t167), .second, .unset, .unset] [(.double t185)])) _
    refine XS.dstore X14.here hx rfl (hb hby at_186) rfl (l' := #[.val (.long q1), .second, .val (.int p2), .val (.int p3), .val (.long q4), .second, .val (.int p5), .val (.double t6), .second, .val (.double t18), .second, .val (.int (own_max (1 : Int32) (p2 &&& (2147483647 : Int32)))), .val (.int (p3 &&& (2147483647 : Int32))), .val (.int (own_max (1 : Int32) ((q4.toInt32) &&& (2147483647 : Int32)))), .val (.int ((((q4.toUInt64 >>> ((32 : Int32) &&& 0x3f).toInt64.toUInt64).toInt64).toInt32) &&& (2147483647 : Int32))), .val (.int (p5 &&& (2147483647 : Int32))), .val (.ref b8), .val (.double t185), .second, .val (.double t135), .second, .val (.double t167), .second, .val (.double t185), .second]) rfl ?_
    show Steps p.tables e below (T14.setTop (mkF m 188 #[.val (.long q1), .second, .val (.int p2), .val (.int p3), .val (.long q4), .second, .val (.int p5), .val (.double t6), .second, .val (.double t18), .second, .val (.int (own_max (1 : Int32) (p2 &&& (2147483647 : Int32)))), .val (.int (p3 &&& (2147483647 : Int32))), .val (.int (own_max (1 : Int32) ((q4.toInt32) &&& (2147483647 : Int32)))), .val (.int ((((q4.toUInt64 >>> ((32 : Int32) &&& 0x3f).toInt64.toUInt64).toInt64).toInt32) &&& (2147483647 : Int32))), .val (.int (p5 &&& (2147483647 : Int32))), .val (.ref b8), .val (.double t185), .second, .val (.double t135), .second, .val (.double t167), .second, .val (.double t185), .second] [])) _
    refine XS.dload X14.here hx rfl (hb hby at_188) rfl ?_
    show Steps p.tables e below (T14.setTop (mkF m 190 #[.val (.long q1), .second, .val (.int p2), .val (.int p3), .val (.long q4), .second, .val (.int p5), .val (.double t6), .second, .val (.double t18), .second, .val (.int (own_max (1 : Int32) (p2 &&& (2147483647 : Int32)))), .val (.int (p3 &&& (2147483647 : Int32))), .val (.int (own_max (1 : Int32) ((q4.toInt32) &&& (2147483647 : Int32)))), .val (.int ((((q4.toUInt64 >>> ((32 : Int32) &&& 0x3f).toInt64.toUInt64).toInt64).toInt32) &&& (2147483647 : Int32))), .val (.int (p5 &&& (2147483647 : Int32))), .val (.ref b8), .val (.double t185), .second, .val (.double t135), .second, .val (.double t167), .second, .val (.double t185), .second] [(.double t185)])) _
    refine XS.dload X14.here hx rfl (hb hby at_190) rfl ?_
    show Steps p.tables e below (T14.setTop (mkF m 192 #[.val (.long q1), .second, .val (.int p2), .val (.int p3), .val (.long q4), .second, .val (.int p5), .val (.double t6), .second, .val (.double t18), .second, .val (.int (own_max (1 : Int32) (p2 &&& (2147483647 : Int32)))), .val (.int (p3 &&& (2147483647 : Int32))), .val (.int (own_max (1 : Int32) ((q4.toInt32) &&& (2147483647 : Int32)))), .val (.int ((((q4.toUInt64 >>> ((32 : Int32) &&& 0x3f).toInt64.toUInt64).toInt64).toInt32) &&& (2147483647 : Int32))), .val (.int (p5 &&& (2147483647 : Int32))), .val (.ref b8), .val (.double t185), .second, .val (.double t135), .second, .val (.double t167), .second, .val (.double t185), .second] [(.double t185), (.double t185)])) _
    refine XS.dcmpS X14.here hx rfl (hb hby at_192) rfl ht192 ?_
    show Steps p.tables e below (T14.setTop (mkF m 193 #[.val (.long q1), .second, .val (.int p2), .val (.int p3), .val (.long q4), .second, .val (.int p5), .val (.double t6), .second, .val (.double t18), .second, .val (.int (own_max (1 : Int32) (p2 &&& (2147483647 : Int32)))), .val (.int (p3 &&& (2147483647 : Int32))), .val (.int (own_max (1 : Int32) ((q4.toInt32) &&& (2147483647 : Int32)))), .val (.int ((((q4.toUInt64 >>> ((32 : Int32) &&& 0x3f).toInt64.toUInt64).toInt64).toInt32) &&& (2147483647 : Int32))), .val (.int (p5 &&& (2147483647 : Int32))), .val (.ref b8), .val (.double t185), .second, .val (.double t135), .second, .val (.double t167), .second, .val (.double t185), .second] [(.int t192)])) _
    refine XS.ifNo X14.here hx rfl (hb hby at_193) rfl ((if0 _ _).trans (teq hc193).2) ?_
    show Steps p.tables e below (T14.setTop (mkF m 196 #[.val (.long q1), .second, .val (.int p2), .val (.int p3), .val (.long q4), .second, .val (.int p5), .val (.double t6), .second, .val (.double t18), .second, .val (.int (own_max (1 : Int32) (p2 &&& (2147483647 : Int32)))), .val (.int (p3 &&& (2147483647 : Int32))), .val (.int (own_max (1 : Int32) ((q4.toInt32) &&& (2147483647 : Int32)))), .val (.int ((((q4.toUInt64 >>> ((32 : Int32) &&& 0x3f).toInt64.toUInt64).toInt64).toInt32) &&& (2147483647 : Int32))), .val (.int (p5 &&& (2147483647 : Int32))), .val (.ref b8), .val (.double t185), .second, .val (.double t135), .second, .val (.double t167), .second, .val (.double t185), .second] [])) _
    refine XS.iconst X14.here hx rfl (hb hby at_196) ?_
    show Steps p.tables e below (T14.setTop (mkF m 197 #[.val (.long q1), .second, .val (.int p2), .val (.int p3), .val (.long q4), .second, .val (.int p5), .val (.double t6), .second, .val (.double t18), .second, .val (.int (own_max (1 : Int32) (p2 &&& (2147483647 : Int32)))), .val (.int (p3 &&& (2147483647 : Int32))), .val (.int (own_max (1 : Int32) ((q4.toInt32) &&& (2147483647 : Int32)))), .val (.int ((((q4.toUInt64 >>> ((32 : Int32) &&& 0x3f).toInt64.toUInt64).toInt64).toInt32) &&& (2147483647 : Int32))), .val (.int (p5 &&& (2147483647 : Int32))), .val (.ref b8), .val (.double t185), .second, .val (.double t135), .second, .val (.double t167), .second, .val (.double t185), .second] [(.int (1 : Int32))])) _
    refine XS.goto X14.here hx rfl (pc0 := 197) (pc' := 201) rfl (hb hby at_197) (by decide) (by decide) ?_
    show Steps p.tables e below (T14.setTop (mkF m 201 #[.val (.long q1), .second, .val (.int p2), .val (.int p3), .val (.long q4), .second, .val (.int p5), .val (.double t6), .second, .val (.double t18), .second, .val (.int (own_max (1 : Int32) (p2 &&& (2147483647 : Int32)))), .val (.int (p3 &&& (2147483647 : Int32))), .val (.int (own_max (1 : Int32) ((q4.toInt32) &&& (2147483647 : Int32)))), .val (.int ((((q4.toUInt64 >>> ((32 : Int32) &&& 0x3f).toInt64.toUInt64).toInt64).toInt32) &&& (2147483647 : Int32))), .val (.int (p5 &&& (2147483647 : Int32))), .val (.ref b8), .val (.double t185), .second, .val (.double t135), .second, .val (.double t167), .second, .val (.double t185), .second] [(.int (1 : Int32))])) _
    exact retN X14 hx (t := .boolean) Bd.returns (by simp) (hb hby at_201) hr
  · show Q0 n0 _ _
    exact ⟨rfl, N14⟩
set_option maxRecDepth 65536 in
set_option maxHeartbeats 40000000 in
theorem rm0_t (l : Launch) (Z : State) (a0 : Array Value) (hw : ∀ d ∈ tables_1, d.before a0 Z = true) (ws : List Jvm.Cond) (q1 : Int64) (p2 : Int32) (p3 : Int32) (q4 : Int64) (p5 : Int32) (t2 : UInt64) (t6 : UInt64) (t14 : UInt64) (t18 : UInt64) (t141 : UInt64) (t143 : UInt64) (t148 : UInt64) (t160 : UInt64) (t161 : UInt64) (t164 : UInt64) (t165 : UInt64) (t166 : UInt64) (t167 : UInt64) (t174 : UInt64) (t177 : UInt64) (t178 : UInt64) (t182 : UInt64) (t185 : UInt64) (t192 : Int32) (h0 : Heap) (n0 : Nat) (Z0 : n0 ≤ h0.size) (ht2 : FP.i2d (q1.toInt32) = t2) (hn6 : Jvm.Free.Fl.NoNaN64 (FP.ddiv t2 (4625196817309499392 : UInt64))) (ht6 : (FP.ddiv t2 (4625196817309499392 : UInt64)) = t6) (ht14 : FP.i2d ((q1 >>> ((32 : Int32) &&& 0x3f).toInt64).toInt32) = t14) (hn18 : Jvm.Free.Fl.NoNaN64 (FP.ddiv t14 (4625196817309499392 : UInt64))) (ht18 : (FP.ddiv t14 (4625196817309499392 : UInt64)) = t18) (hc121 : ¬ ((0 : Int32) < ((((q4.toUInt64 >>> ((32 : Int32) &&& 0x3f).toInt64.toUInt64).toInt64).toInt32) &&& (2147483647 : Int32)))) (ht141 : FP.i2d (own_max (1 : Int32) ((q4.toInt32) &&& (2147483647 : Int32))) = t141) (hn143 : Jvm.Free.Fl.NoNaN64 (FP.ddiv t141 FP.dconst1)) (ht143 : (FP.ddiv t141 FP.dconst1) = t143) (ht148 : FP.i2d (own_max (1 : Int32) (p2 &&& (2147483647 : Int32))) = t148) (ht160 : FP.i2d (p3 &&& (2147483647 : Int32)) = t160) (hn161 : Jvm.Free.Fl.NoNaN64 (FP.dmul (4604930618986332160 : UInt64) t160)) (ht161 : (FP.dmul (4604930618986332160 : UInt64) t160) = t161) (hn164 : Jvm.Free.Fl.NoNaN64 (FP.ddiv t161 t143)) (ht164 : (FP.ddiv t161 t143) = t164) (hn165 : Jvm.Free.Fl.NoNaN64 (FP.dadd (4598175219545276416 : UInt64) t164)) (ht165 : (FP.dadd (4598175219545276416 : UInt64) t164) = t165) (hn166 : Jvm.Free.Fl.NoNaN64 (FP.dmul (4608083138725491507 : UInt64) t165)) (ht166 : (FP.dmul (4608083138725491507 : UInt64) t165) = t166) (hn167 : Jvm.Free.Fl.NoNaN64 (FP.dadd t148 t166)) (ht167 : (FP.dadd t148 t166) = t167) (hn174 : Jvm.Free.Fl.NoNaN64 (FP.dmul t6 t18)) (ht174 : (FP.dmul t6 t18) = t174) (ht177 : FP.i2d (own_max (1 : Int32) (p2 &&& (2147483647 : Int32))) = t177) (hn178 : Jvm.Free.Fl.NoNaN64 (FP.dmul t174 t177)) (ht178 : (FP.dmul t174 t177) = t178) (hn182 : Jvm.Free.Fl.NoNaN64 (FP.dmul t178 (4612136378390124954 : UInt64))) (ht182 : (FP.dmul t178 (4612136378390124954 : UInt64)) = t182) (hn185 : Jvm.Free.Fl.NoNaN64 (FP.ddiv t182 t167)) (ht185 : (FP.ddiv t182 t167) = t185) (ht192 : cmpValue (FP.dcmp t185 t185) .l = t192) (hc193 : t192 = (0 : Int32)) (hT4 : FP.l2d (own_totm (own_tot (own_tot (own_tot (0 : Int64) (own_max (1 : Int32) ((q4.toInt32) &&& (2147483647 : Int32)))) ((((q4.toUInt64 >>> ((32 : Int32) &&& 0x3f).toInt64.toUInt64).toInt64).toInt32) &&& (2147483647 : Int32))) (p5 &&& (2147483647 : Int32))) (p5 &&& (2147483647 : Int32))) = t141) (hR9 : FP.i2d (own_recm (own_rec (own_rec (own_rec (0 : Int32) (own_max (1 : Int32) ((q4.toInt32) &&& (2147483647 : Int32)))) ((((q4.toUInt64 >>> ((32 : Int32) &&& 0x3f).toInt64.toUInt64).toInt64).toInt32) &&& (2147483647 : Int32))) (p5 &&& (2147483647 : Int32))) (p5 &&& (2147483647 : Int32))) = FP.dconst1) :
    MetFree l x (head1 (Jvm.Cond.code x code maxLocals ret :: ws) room_1) (fun a U => a = #[(.long q1), (.int p2), (.int p3), (.long q4), (.int p5)] ∧ Z.Warmed39 U.vm ∧ U.heap = h0) (fun _ _ _ _ _ => True) (fun _ U o U' => ∃ v L, o = .returned v ∧ Q0 n0 v L ∧ FrameEnd U o U' L room_1.cells room_1.slots) := by
  refine MetFree.of_bodySF (plainFor_of_name pn_0) hisR ?_
  intro p e s m args below meth c s₁ Bd hml0 hP hK
  obtain ⟨rfl, hZ, hh⟩ := hP
  have hx := Bd.exec
  have hby := Bd.bytes
  have hml : c.maxLocals = 25 := hml0
  have hown : s.vm.findClass "com/example/lodestone/lodestone/index/FieldStatsScorePinLaw" = some m.cls := findClass_of_methodNamed Bd.named
  have hnm := (name_of_methodNamed Bd.named Bd.method).1
  have X0 : Stand p l e room_1 s m #[(.long q1), (.int p2), (.int p3), (.long q4), (.int p5)] below meth c s₁ [] 0 0 := Stand.of_body Bd
  have e0 : s₁.heap = h0 := by rw [← hh, Bd.state]; rfl
  have N0 := Fr.nil n0
  have pre0 : ∀ t, Steps p.tables e below (s₁.setTop (mkF m 0 #[.val (.long q1), .second, .val (.int p2), .val (.int p3), .val (.long q4), .second, .val (.int p5), .unset, .unset, .unset, .unset, .unset, .unset, .unset, .unset, .unset, .unset, .unset, .unset, .unset, .unset, .unset, .unset, .unset, .unset] [])) t → Steps p.tables e below (s₁.setTop (entryFrame m #[(.long q1), (.int p2), (.int p3), (.long q4), (.int p5)] maxLocals)) t := fun t k => castTop (ef_0 m q1 p2 p3 q4 p5) k
  -- 3. LAWS
  -- pc 26: java/lang/Math.max
  obtain ⟨T6, X6, e6, st6⟩ := own_call_max X0 hx hZ hw hown (hw _ (List.mem_of_getElem? (i := 2) rfl)) (1 : Int32) (p2 &&& (2147483647 : Int32)) (W := 0) (g := (mkF m 26 #[.val (.long q1), .second, .val (.int p2), .val (.int p3), .val (.long q4), .second, .val (.int p5), .val (.double t6), .second, .val (.double t18), .second, .unset, .unset, .unset, .unset, .unset, .unset, .unset, .unset, .unset, .unset, .unset, .unset, .unset, .unset] [(.int (p2 &&& (2147483647 : Int32))), (.int (1 : Int32))])) rfl (by rw [hml]; rfl) (rest := []) rfl (by show 2 * 0 + _ ≤ _; exact Nat.le_of_eq rfl) (hb hby at_26) (by decide) (by decide) e0
  -- pc 44: java/lang/Math.max
  obtain ⟨T7, X7, e7, st7⟩ := own_call_max X6 hx hZ hw hown (hw _ (List.mem_of_getElem? (i := 2) rfl)) (1 : Int32) ((q4.toInt32) &&& (2147483647 : Int32)) (W := 0) (g := (mkF m 44 #[.val (.long q1), .second, .val (.int p2), .val (.int p3), .val (.long q4), .second, .val (.int p5), .val (.double t6), .second, .val (.double t18), .second, .val (.int (own_max (1 : Int32) (p2 &&& (2147483647 : Int32)))), .val (.int (p3 &&& (2147483647 : Int32))), .unset, .unset, .unset, .unset, .unset, .unset, .unset, .unset, .unset, .unset, .unset, .unset] [(.int ((q4.toInt32) &&& (2147483647 : Int32))), (.int (1 : Int32))])) rfl (by rw [hml]; rfl) (rest := []) rfl (by show 2 * 0 + _ ≤ _; exact Nat.le_of_eq rfl) (hb hby at_44) (by decide) (by decide) e6
  obtain ⟨T8, h8, X8, e8, E8, A8, D8, -, st8⟩ := newO X7 hx hZ hown (hw _ (List.mem_of_getElem? (i := 6) rfl)) (hw _ (List.mem_of_getElem? (i := 7) rfl)) (hw _ (List.mem_of_getElem? (i := 8) rfl)) e7 (g := (mkF m 67 #[.val (.long q1), .second, .val (.int p2), .val (.int p3), .val (.long q4), .second, .val (.int p5), .val (.double t6), .second, .val (.double t18), .second, .val (.int (own_max (1 : Int32) (p2 &&& (2147483647 : Int32)))), .val (.int (p3 &&& (2147483647 : Int32))), .val (.int (own_max (1 : Int32) ((q4.toInt32) &&& (2147483647 : Int32)))), .val (.int ((((q4.toUInt64 >>> ((32 : Int32) &&& 0x3f).toInt64.toUInt64).toInt64).toInt32) &&& (2147483647 : Int32))), .val (.int (p5 &&& (2147483647 : Int32))), .unset, .unset, .unset, .unset, .unset, .unset, .unset, .unset, .unset] [])) rfl (hb hby at_67) (by decide) (by decide)
  obtain ⟨b8, g8⟩ : ∃ z, z = h0.size := ⟨_, rfl⟩      -- the fresh object's address
  rw [← g8] at A8 D8 st8      -- A8 : Exa Z h8 b8 "com/example/lodestone/lodestone/index/FieldStats"; E8 : Ext h0 h8 (carries every older fact: .ext E8)
  have F_weight_b8 : Fld Z h8 b8 "com/example/lodestone/lodestone/index/FieldStats" "weight" "D" (.double (0 : UInt64)) := D8 (Or.inr (hw _ (List.mem_of_getElem? (i := 16) rfl))) (ty := .double) (by decide)
  have F_records_b8 : Fld Z h8 b8 "com/example/lodestone/lodestone/index/FieldStats" "records" "I" (.int (0 : Int32)) := D8 (Or.inl (hw _ (List.mem_of_getElem? (i := 23) rfl))) (ty := .int) (by decide)
  have F_totalLength_b8 : Fld Z h8 b8 "com/example/lodestone/lodestone/index/FieldStats" "totalLength" "J" (.long (0 : Int64)) := D8 (Or.inl (hw _ (List.mem_of_getElem? (i := 25) rfl))) (ty := .long) (by decide)
  have E_b8 := A8
  have g_b8 : n0 ≤ b8 := Nat.le_trans Z0 (Nat.le_of_eq g8.symm)
  have sz_b8 : h0.size ≤ b8 := (Nat.le_trans (Keep.refl h0 []).1 (Nat.le_of_eq g8.symm))
  have K8 : Keep h0 h8 [] := (Keep.refl h0 []).ext E8
  -- pc 73: the constructor of com/example/lodestone/lodestone/index/FieldStats by its contract rm2
  obtain ⟨_, _, ⟨T9, L9, k9, n9⟩, -, X9, ⟨Lc9, hQ9, l9, y9, z9⟩, st9⟩ := X8.specialBack hx (y := (⟨"com/example/lodestone/lodestone/index/FieldStats", "<init>", "(D)V"⟩ : MethodName)) rfl hown (mvT hZ (hw _ (List.mem_of_getElem? (i := 9) rfl))) (mvT hZ (hw _ (List.mem_of_getElem? (i := 10) rfl))) (mvT hZ (hw _ (List.mem_of_getElem? (i := 11) rfl))) (by decide) (backOf (W := 1) (rm2 l Z a0 hw [] b8 t6 (0 : Int32) (0 : Int64) (.double (0 : UInt64)) h8 n0 (Nat.le_trans g_b8 (Nat.le_of_lt (Exa.lt E_b8))) F_records_b8 F_totalLength_b8 E_b8 F_weight_b8 g_b8) hZ (hw _ (List.mem_of_getElem? (i := 11) rfl)) (hw _ (List.mem_of_getElem? (i := 8) rfl)) (by decide) (by decide)) (g := (mkF m 73 #[.val (.long q1), .second, .val (.int p2), .val (.int p3), .val (.long q4), .second, .val (.int p5), .val (.double t6), .second, .val (.double t18), .second, .val (.int (own_max (1 : Int32) (p2 &&& (2147483647 : Int32)))), .val (.int (p3 &&& (2147483647 : Int32))), .val (.int (own_max (1 : Int32) ((q4.toInt32) &&& (2147483647 : Int32)))), .val (.int ((((q4.toUInt64 >>> ((32 : Int32) &&& 0x3f).toInt64.toUInt64).toInt64).toInt32) &&& (2147483647 : Int32))), .val (.int (p5 &&& (2147483647 : Int32))), .unset, .unset, .unset, .unset, .unset, .unset, .unset, .unset, .unset] [(.double t6), (.ref b8), (.ref b8)])) rfl (by rw [hml]; rfl) (Steps.refl _) (a := b8) (argsL := [(.double t6)]) (rest := [(.ref b8)]) (lenOf pd_0_1 rfl) rfl (by show 2 * 0 + _ ≤ _; exact Nat.le_of_eq rfl) (hb hby at_73) (fun _ _ => ⟨rfl, e8, (by decide : 1 + 0 ≤ _), (by decide : 3 + 0 ≤ _)⟩)
  dsimp only [Pt.U, Pt.locs, Pt.cells, Pt.slots] at X9 l9 y9 z9 st9 hQ9
  subst l9 y9 z9
  obtain ⟨rfl, N9q, Kc9, -, Fr_9, Ft_9, Fw_9⟩ := hQ9      -- what it returned, that it wrote nothing old, and the rest of your Q2
  have N9 := Fr.app N0 N9q
  -- pc 82: com/example/lodestone/lodestone/index/FieldStats.add by the contract of the body that the receiver's class selects, rm4
  obtain ⟨cq10, kq10, q10a, q10b, q10c⟩ := isOf hZ rfl (E_b8.keep Kc9)
  obtain ⟨_, _, ⟨T10, L10, k10, n10⟩, -, X10, ⟨Lc10, hQ10, l10, y10, z10⟩, st10⟩ := X9.virtualBack hx (y := (⟨"com/example/lodestone/lodestone/index/FieldStats", "add", "(I)V"⟩ : MethodName)) (z := (⟨"com/example/lodestone/lodestone/index/FieldStats", "add", "(I)V"⟩ : MethodName)) hown (mvT hZ (hw _ (List.mem_of_getElem? (i := 17) rfl))) (mvT hZ (hw _ (List.mem_of_getElem? (i := 18) rfl))) (notFace_of_selects (args := #[]) (mvT hZ (hw _ (List.mem_of_getElem? (i := 20) rfl)))) (mvT hZ (hw _ (List.mem_of_getElem? (i := 20) rfl))) (mvT hZ (hw _ (List.mem_of_getElem? (i := 19) rfl))) (by decide) (backOf (W := 0) (rm4 l Z a0 hw [] b8 (own_max (1 : Int32) ((q4.toInt32) &&& (2147483647 : Int32))) t6 (0 : Int32) (0 : Int64) T9.heap n0 (Nat.le_trans g_b8 (Nat.le_of_lt (Exa.lt (E_b8.keep Kc9)))) Fw_9 Fr_9 (E_b8.keep Kc9) g_b8 Ft_9) hZ (hw _ (List.mem_of_getElem? (i := 21) rfl)) (hw _ (List.mem_of_getElem? (i := 8) rfl)) (by decide) (by decide)) q10a q10c (g := (mkF m 82 #[.val (.long q1), .second, .val (.int p2), .val (.int p3), .val (.long q4), .second, .val (.int p5), .val (.double t6), .second, .val (.double t18), .second, .val (.int (own_max (1 : Int32) (p2 &&& (2147483647 : Int32)))), .val (.int (p3 &&& (2147483647 : Int32))), .val (.int (own_max (1 : Int32) ((q4.toInt32) &&& (2147483647 : Int32)))), .val (.int ((((q4.toUInt64 >>> ((32 : Int32) &&& 0x3f).toInt64.toUInt64).toInt64).toInt32) &&& (2147483647 : Int32))), .val (.int (p5 &&& (2147483647 : Int32))), .val (.ref b8), .unset, .unset, .unset, .unset, .unset, .unset, .unset, .unset] [(.int (own_max (1 : Int32) ((q4.toInt32) &&& (2147483647 : Int32)))), (.ref b8)])) rfl (by rw [hml]; rfl) (Steps.refl _) (argsL := [(.int (own_max (1 : Int32) ((q4.toInt32) &&& (2147483647 : Int32))))]) (rest := []) (lenOf pd_0_3 rfl) rfl (by show 2 * 0 + _ ≤ _; exact Nat.le_of_eq rfl) (hb hby at_82) (fun _ _ => ⟨rfl, rfl, (by decide : 1 + 0 ≤ _), (by decide : 3 + 0 ≤ _)⟩)
  dsimp only [Pt.U, Pt.locs, Pt.cells, Pt.slots] at X10 l10 y10 z10 st10 hQ10
  subst l10 y10 z10
  obtain ⟨rfl, N10q, Kc10, -, Fw_10, Fr_10, Ft_10⟩ := hQ10      -- what it returned, that it wrote nothing old, and the rest of your Q4
  have N10 := Fr.app N9 N10q
  -- pc 89: com/example/lodestone/lodestone/index/FieldStats.add by the contract of the body that the receiver's class selects, rm4
  obtain ⟨cq11, kq11, q11a, q11b, q11c⟩ := isOf hZ rfl ((E_b8.keep Kc9).keep Kc10)
  obtain ⟨_, _, ⟨T11, L11, k11, n11⟩, -, X11, ⟨Lc11, hQ11, l11, y11, z11⟩, st11⟩ := X10.virtualBack hx (y := (⟨"com/example/lodestone/lodestone/index/FieldStats", "add", "(I)V"⟩ : MethodName)) (z := (⟨"com/example/lodestone/lodestone/index/FieldStats", "add", "(I)V"⟩ : MethodName)) hown (mvT hZ (hw _ (List.mem_of_getElem? (i := 17) rfl))) (mvT hZ (hw _ (List.mem_of_getElem? (i := 18) rfl))) (notFace_of_selects (args := #[]) (mvT hZ (hw _ (List.mem_of_getElem? (i := 20) rfl)))) (mvT hZ (hw _ (List.mem_of_getElem? (i := 20) rfl))) (mvT hZ (hw _ (List.mem_of_getElem? (i := 19) rfl))) (by decide) (backOf (W := 0) (rm4 l Z a0 hw [] b8 ((((q4.toUInt64 >>> ((32 : Int32) &&& 0x3f).toInt64.toUInt64).toInt64).toInt32) &&& (2147483647 : Int32)) t6 (own_rec (0 : Int32) (own_max (1 : Int32) ((q4.toInt32) &&& (2147483647 : Int32)))) (own_tot (0 : Int64) (own_max (1 : Int32) ((q4.toInt32) &&& (2147483647 : Int32)))) T10.heap n0 (Nat.le_trans g_b8 (Nat.le_of_lt (Exa.lt ((E_b8.keep Kc9).keep Kc10)))) Fw_10 Fr_10 ((E_b8.keep Kc9).keep Kc10) g_b8 Ft_10) hZ (hw _ (List.mem_of_getElem? (i := 21) rfl)) (hw _ (List.mem_of_getElem? (i := 8) rfl)) (by decide) (by decide)) q11a q11c (g := (mkF m 89 #[.val (.long q1), .second, .val (.int p2), .val (.int p3), .val (.long q4), .second, .val (.int p5), .val (.double t6), .second, .val (.double t18), .second, .val (.int (own_max (1 : Int32) (p2 &&& (2147483647 : Int32)))), .val (.int (p3 &&& (2147483647 : Int32))), .val (.int (own_max (1 : Int32) ((q4.toInt32) &&& (2147483647 : Int32)))), .val (.int ((((q4.toUInt64 >>> ((32 : Int32) &&& 0x3f).toInt64.toUInt64).toInt64).toInt32) &&& (2147483647 : Int32))), .val (.int (p5 &&& (2147483647 : Int32))), .val (.ref b8), .unset, .unset, .unset, .unset, .unset, .unset, .unset, .unset] [(.int ((((q4.toUInt64 >>> ((32 : Int32) &&& 0x3f).toInt64.toUInt64).toInt64).toInt32) &&& (2147483647 : Int32))), (.ref b8)])) rfl (by rw [hml]; rfl) (Steps.refl _) (argsL := [(.int ((((q4.toUInt64 >>> ((32 : Int32) &&& 0x3f).toInt64.toUInt64).toInt64).toInt32) &&& (2147483647 : Int32)))]) (rest := []) (lenOf pd_0_3 rfl) rfl (by show 2 * 0 + _ ≤ _; exact Nat.le_of_eq rfl) (hb hby at_89) (fun _ _ => ⟨rfl, rfl, (by decide : 1 + 0 ≤ _), (by decide : 3 + 0 ≤ _)⟩)
  dsimp only [Pt.U, Pt.locs, Pt.cells, Pt.slots] at X11 l11 y11 z11 st11 hQ11
  subst l11 y11 z11
  obtain ⟨rfl, N11q, Kc11, -, Fw_11, Fr_11, Ft_11⟩ := hQ11      -- what it returned, that it wrote nothing old, and the rest of your Q4
  have N11 := Fr.app N10 N11q
  -- pc 96: com/example/lodestone/lodestone/index/FieldStats.add by the contract of the body that the receiver's class selects, rm4
  obtain ⟨cq12, kq12, q12a, q12b, q12c⟩ := isOf hZ rfl (((E_b8.keep Kc9).keep Kc10).keep Kc11)
  obtain ⟨_, _, ⟨T12, L12, k12, n12⟩, -, X12, ⟨Lc12, hQ12, l12, y12, z12⟩, st12⟩ := X11.virtualBack hx (y := (⟨"com/example/lodestone/lodestone/index/FieldStats", "add", "(I)V"⟩ : MethodName)) (z := (⟨"com/example/lodestone/lodestone/index/FieldStats", "add", "(I)V"⟩ : MethodName)) hown (mvT hZ (hw _ (List.mem_of_getElem? (i := 17) rfl))) (mvT hZ (hw _ (List.mem_of_getElem? (i := 18) rfl))) (notFace_of_selects (args := #[]) (mvT hZ (hw _ (List.mem_of_getElem? (i := 20) rfl)))) (mvT hZ (hw _ (List.mem_of_getElem? (i := 20) rfl))) (mvT hZ (hw _ (List.mem_of_getElem? (i := 19) rfl))) (by decide) (backOf (W := 0) (rm4 l Z a0 hw [] b8 (p5 &&& (2147483647 : Int32)) t6 (own_rec (own_rec (0 : Int32) (own_max (1 : Int32) ((q4.toInt32) &&& (2147483647 : Int32)))) ((((q4.toUInt64 >>> ((32 : Int32) &&& 0x3f).toInt64.toUInt64).toInt64).toInt32) &&& (2147483647 : Int32))) (own_tot (own_tot (0 : Int64) (own_max (1 : Int32) ((q4.toInt32) &&& (2147483647 : Int32)))) ((((q4.toUInt64 >>> ((32 : Int32) &&& 0x3f).toInt64.toUInt64).toInt64).toInt32) &&& (2147483647 : Int32))) T11.heap n0 (Nat.le_trans g_b8 (Nat.le_of_lt (Exa.lt (((E_b8.keep Kc9).keep Kc10).keep Kc11)))) Fw_11 Fr_11 (((E_b8.keep Kc9).keep Kc10).keep Kc11) g_b8 Ft_11) hZ (hw _ (List.mem_of_getElem? (i := 21) rfl)) (hw _ (List.mem_of_getElem? (i := 8) rfl)) (by decide) (by decide)) q12a q12c (g := (mkF m 96 #[.val (.long q1), .second, .val (.int p2), .val (.int p3), .val (.long q4), .second, .val (.int p5), .val (.double t6), .second, .val (.double t18), .second, .val (.int (own_max (1 : Int32) (p2 &&& (2147483647 : Int32)))), .val (.int (p3 &&& (2147483647 : Int32))), .val (.int (own_max (1 : Int32) ((q4.toInt32) &&& (2147483647 : Int32)))), .val (.int ((((q4.toUInt64 >>> ((32 : Int32) &&& 0x3f).toInt64.toUInt64).toInt64).toInt32) &&& (2147483647 : Int32))), .val (.int (p5 &&& (2147483647 : Int32))), .val (.ref b8), .unset, .unset, .unset, .unset, .unset, .unset, .unset, .unset] [(.int (p5 &&& (2147483647 : Int32))), (.ref b8)])) rfl (by rw [hml]; rfl) (Steps.refl _) (argsL := [(.int (p5 &&& (2147483647 : Int32)))]) (rest := []) (lenOf pd_0_3 rfl) rfl (by show 2 * 0 + _ ≤ _; exact Nat.le_of_eq rfl) (hb hby at_96) (fun _ _ => ⟨rfl, rfl, (by decide : 1 + 0 ≤ _), (by decide : 3 + 0 ≤ _)⟩)
  dsimp only [Pt.U, Pt.locs, Pt.cells, Pt.slots] at X12 l12 y12 z12 st12 hQ12
  subst l12 y12 z12
  obtain ⟨rfl, N12q, Kc12, -, Fw_12, Fr_12, Ft_12⟩ := hQ12      -- what it returned, that it wrote nothing old, and the rest of your Q4
  have N12 := Fr.app N11 N12q
  -- pc 103: com/example/lodestone/lodestone/index/FieldStats.remove by the contract of the body that the receiver's class selects, rm5
  obtain ⟨cq13, kq13, q13a, q13b, q13c⟩ := isOf hZ rfl ((((E_b8.keep Kc9).keep Kc10).keep Kc11).keep Kc12)
  obtain ⟨_, _, ⟨T13, L13, k13, n13⟩, -, X13, ⟨Lc13, hQ13, l13, y13, z13⟩, st13⟩ := X12.virtualBack hx (y := (⟨"com/example/lodestone/lodestone/index/FieldStats", "remove", "(I)V"⟩ : MethodName)) (z := (⟨"com/example/lodestone/lodestone/index/FieldStats", "remove", "(I)V"⟩ : MethodName)) hown (mvT hZ (hw _ (List.mem_of_getElem? (i := 26) rfl))) (mvT hZ (hw _ (List.mem_of_getElem? (i := 27) rfl))) (notFace_of_selects (args := #[]) (mvT hZ (hw _ (List.mem_of_getElem? (i := 29) rfl)))) (mvT hZ (hw _ (List.mem_of_getElem? (i := 29) rfl))) (mvT hZ (hw _ (List.mem_of_getElem? (i := 28) rfl))) (by decide) (backOf (W := 0) (rm5 l Z a0 hw [] b8 (p5 &&& (2147483647 : Int32)) t6 (own_rec (own_rec (own_rec (0 : Int32) (own_max (1 : Int32) ((q4.toInt32) &&& (2147483647 : Int32)))) ((((q4.toUInt64 >>> ((32 : Int32) &&& 0x3f).toInt64.toUInt64).toInt64).toInt32) &&& (2147483647 : Int32))) (p5 &&& (2147483647 : Int32))) (own_tot (own_tot (own_tot (0 : Int64) (own_max (1 : Int32) ((q4.toInt32) &&& (2147483647 : Int32)))) ((((q4.toUInt64 >>> ((32 : Int32) &&& 0x3f).toInt64.toUInt64).toInt64).toInt32) &&& (2147483647 : Int32))) (p5 &&& (2147483647 : Int32))) T12.heap n0 (Nat.le_trans g_b8 (Nat.le_of_lt (Exa.lt ((((E_b8.keep Kc9).keep Kc10).keep Kc11).keep Kc12)))) Fw_12 Fr_12 ((((E_b8.keep Kc9).keep Kc10).keep Kc11).keep Kc12) g_b8 Ft_12) hZ (hw _ (List.mem_of_getElem? (i := 30) rfl)) (hw _ (List.mem_of_getElem? (i := 8) rfl)) (by decide) (by decide)) q13a q13c (g := (mkF m 103 #[.val (.long q1), .second, .val (.int p2), .val (.int p3), .val (.long q4), .second, .val (.int p5), .val (.double t6), .second, .val (.double t18), .second, .val (.int (own_max (1 : Int32) (p2 &&& (2147483647 : Int32)))), .val (.int (p3 &&& (2147483647 : Int32))), .val (.int (own_max (1 : Int32) ((q4.toInt32) &&& (2147483647 : Int32)))), .val (.int ((((q4.toUInt64 >>> ((32 : Int32) &&& 0x3f).toInt64.toUInt64).toInt64).toInt32) &&& (2147483647 : Int32))), .val (.int (p5 &&& (2147483647 : Int32))), .val (.ref b8), .unset, .unset, .unset, .unset, .unset, .unset, .unset, .unset] [(.int (p5 &&& (2147483647 : Int32))), (.ref b8)])) rfl (by rw [hml]; rfl) (Steps.refl _) (argsL := [(.int (p5 &&& (2147483647 : Int32)))]) (rest := []) (lenOf pd_0_3 rfl) rfl (by show 2 * 0 + _ ≤ _; exact Nat.le_of_eq rfl) (hb hby at_103) (fun _ _ => ⟨rfl, rfl, (by decide : 1 + 0 ≤ _), (by decide : 3 + 0 ≤ _)⟩)
  dsimp only [Pt.U, Pt.locs, Pt.cells, Pt.slots] at X13 l13 y13 z13 st13 hQ13
  subst l13 y13 z13
  obtain ⟨rfl, N13q, Kc13, -, Fw_13, Fr_13, Ft_13⟩ := hQ13      -- what it returned, that it wrote nothing old, and the rest of your Q5
  have N13 := Fr.app N12 N13q
  -- pc 114: com/example/lodestone/lodestone/index/FieldStats.score by the contract of the body that the receiver's class selects, rm6
  obtain ⟨cq14, kq14, q14a, q14b, q14c⟩ := isOf hZ rfl (((((E_b8.keep Kc9).keep Kc10).keep Kc11).keep Kc12).keep Kc13)
  obtain ⟨_, _, ⟨T14, L14, k14, n14⟩, -, X14, ⟨Lc14, hQ14, l14, y14, z14⟩, st14⟩ := X13.virtualBack hx (y := (⟨"com/example/lodestone/lodestone/index/FieldStats", "score", "(DII)D"⟩ : MethodName)) (z := (⟨"com/example/lodestone/lodestone/index/FieldStats", "score", "(DII)D"⟩ : MethodName)) hown (mvT hZ (hw _ (List.mem_of_getElem? (i := 31) rfl))) (mvT hZ (hw _ (List.mem_of_getElem? (i := 32) rfl))) (notFace_of_selects (args := #[]) (mvT hZ (hw _ (List.mem_of_getElem? (i := 34) rfl)))) (mvT hZ (hw _ (List.mem_of_getElem? (i := 34) rfl))) (mvT hZ (hw _ (List.mem_of_getElem? (i := 33) rfl))) (by decide) (backOf (W := 0) (rm6 l Z a0 hw [] b8 t18 (own_max (1 : Int32) (p2 &&& (2147483647 : Int32))) (p3 &&& (2147483647 : Int32)) (own_totm (own_tot (own_tot (own_tot (0 : Int64) (own_max (1 : Int32) ((q4.toInt32) &&& (2147483647 : Int32)))) ((((q4.toUInt64 >>> ((32 : Int32) &&& 0x3f).toInt64.toUInt64).toInt64).toInt32) &&& (2147483647 : Int32))) (p5 &&& (2147483647 : Int32))) (p5 &&& (2147483647 : Int32))) t141 (own_recm (own_rec (own_rec (own_rec (0 : Int32) (own_max (1 : Int32) ((q4.toInt32) &&& (2147483647 : Int32)))) ((((q4.toUInt64 >>> ((32 : Int32) &&& 0x3f).toInt64.toUInt64).toInt64).toInt32) &&& (2147483647 : Int32))) (p5 &&& (2147483647 : Int32))) (p5 &&& (2147483647 : Int32))) FP.dconst1 t143 t148 t160 t161 t164 t165 t166 t167 t6 t174 t177 t178 t182 t185 T13.heap n0 (Nat.le_trans g_b8 (Nat.le_of_lt (Exa.lt (((((E_b8.keep Kc9).keep Kc10).keep Kc11).keep Kc12).keep Kc13)))) Ft_13 Fr_13 Fw_13 hT4 hR9 hn143 ht143 ht148 ht160 hn161 ht161 hn164 ht164 hn165 ht165 hn166 ht166 hn167 ht167 hn174 ht174 ht177 hn178 ht178 hn182 ht182 hn185 ht185) hZ (hw _ (List.mem_of_getElem? (i := 35) rfl)) (hw _ (List.mem_of_getElem? (i := 8) rfl)) (by decide) (by decide)) q14a q14c (g := (mkF m 114 #[.val (.long q1), .second, .val (.int p2), .val (.int p3), .val (.long q4), .second, .val (.int p5), .val (.double t6), .second, .val (.double t18), .second, .val (.int (own_max (1 : Int32) (p2 &&& (2147483647 : Int32)))), .val (.int (p3 &&& (2147483647 : Int32))), .val (.int (own_max (1 : Int32) ((q4.toInt32) &&& (2147483647 : Int32)))), .val (.int ((((q4.toUInt64 >>> ((32 : Int32) &&& 0x3f).toInt64.toUInt64).toInt64).toInt32) &&& (2147483647 : Int32))), .val (.int (p5 &&& (2147483647 : Int32))), .val (.ref b8), .unset, .unset, .unset, .unset, .unset, .unset, .unset, .unset] [(.int (p3 &&& (2147483647 : Int32))), (.int (own_max (1 : Int32) (p2 &&& (2147483647 : Int32)))), (.double t18), (.ref b8)])) rfl (by rw [hml]; rfl) (Steps.refl _) (argsL := [(.double t18), (.int (own_max (1 : Int32) (p2 &&& (2147483647 : Int32)))), (.int (p3 &&& (2147483647 : Int32)))]) (rest := []) (lenOf pd_0_4 rfl) rfl (by show 2 * 0 + _ ≤ _; exact Nat.le_of_eq rfl) (hb hby at_114) (fun _ _ => ⟨rfl, rfl, (by decide : 1 + 0 ≤ _), (by decide : 3 + 0 ≤ _)⟩)
  dsimp only [Pt.U, Pt.locs, Pt.cells, Pt.slots] at X14 l14 y14 z14 st14 hQ14
  subst l14 y14 z14
  obtain ⟨rfl, N14q, hh14⟩ := hQ14      -- what it returned, that it wrote nothing old, and the rest of your Q6
  have N14 := Fr.app N13 N14q
  obtain ⟨fs, hr, hrun, hended, hW, hsame⟩ := X14.leave (v := some (.int (1 : Int32))) (fun h => by rw [Bd.returns] at h; cases h)
  refine ⟨_, _, pre0 _ ?_, hrun, hended, _, _, rfl, ?_, ⟨_, rfl⟩, hW, hsame.mono (by decide) (by decide)⟩
  -- 4. STEPS
  · show Steps p.tables e below (s₁.setTop (mkF m 0 #[.val (.long q1), .second, .val (.int p2), .val (.int p3), .val (.long q4), .second, .val (.int p5), .unset, .unset, .unset, .unset, .unset, .unset, .unset, .unset, .unset, .unset, .unset, .unset, .unset, .unset, .unset, .unset, .unset, .unset] [])) _
    refine XS.lloadN X0.here hx rfl (hb hby at_0) rfl ?_
    show Steps p.tables e below (s₁.setTop (mkF m 1 #[.val (.long q1), .second, .val (.int p2), .val (.int p3), .val (.long q4), .second, .val (.int p5), .unset, .unset, .unset, .unset, .unset, .unset, .unset, .unset, .unset, .unset, .unset, .unset, .unset, .unset, .unset, .unset, .unset, .unset] [(.long q1)])) _
    refine XS.l2i X0.here hx rfl (hb hby at_1) rfl ?_
    show Steps p.tables e below (s₁.setTop (mkF m 2 #[.val (.long q1), .second, .val (.int p2), .val (.int p3), .val (.long q4), .second, .val (.int p5), .unset, .unset, .unset, .unset, .unset, .unset, .unset, .unset, .unset, .unset, .unset, .unset, .unset, .unset, .unset, .unset, .unset, .unset] [(.int (q1.toInt32))])) _
    refine XS.i2dS X0.here hx rfl (hb hby at_2) rfl ht2 ?_
    show Steps p.tables e below (s₁.setTop (mkF m 3 #[.val (.long q1), .second, .val (.int p2), .val (.int p3), .val (.long q4), .second, .val (.int p5), .unset, .unset, .unset, .unset, .unset, .unset, .unset, .unset, .unset, .unset, .unset, .unset, .unset, .unset, .unset, .unset, .unset, .unset] [(.double t2)])) _
    refine X0.ldc2DoubleC hx hown (mvT hZ (hw _ (List.mem_of_getElem? (i := 0) rfl))) (g := (mkF m 3 #[.val (.long q1), .second, .val (.int p2), .val (.int p3), .val (.long q4), .second, .val (.int p5), .unset, .unset, .unset, .unset, .unset, .unset, .unset, .unset, .unset, .unset, .unset, .unset, .unset, .unset, .unset, .unset, .unset, .unset] [(.double t2)])) rfl (hb hby at_3) _ ?_
    show Steps p.tables e below (s₁.setTop (mkF m 6 #[.val (.long q1), .second, .val (.int p2), .val (.int p3), .val (.long q4), .second, .val (.int p5), .unset, .unset, .unset, .unset, .unset, .unset, .unset, .unset, .unset, .unset, .unset, .unset, .unset, .unset, .unset, .unset, .unset, .unset] [(.double (4625196817309499392 : UInt64)), (.double t2)])) _
    refine XS.ddivS X0.here hx rfl (hb hby at_6) rfl hn6 ht6 ?_
    show Steps p.tables e below (s₁.setTop (mkF m 7 #[.val (.long q1), .second, .val (.int p2), .val (.int p3), .val (.long q4), .second, .val (.int p5), .unset, .unset, .unset, .unset, .unset, .unset, .unset, .unset, .unset, .unset, .unset, .unset, .unset, .unset, .unset, .unset, .unset, .unset] [(.double t6)])) _
    refine XS.dstore X0.here hx rfl (hb hby at_7) rfl (l' := #[.val (.long q1), .second, .val (.int p2), .val (.int p3), .val (.long q4), .second, .val (.int p5), .val (.double t6), .second, .unset, .unset, .unset, .unset, .unset, .unset, .unset, .unset, .unset, .unset, .unset, .unset, .unset, .unset, .unset, .unset]) rfl ?_
    show Steps p.tables e below (s₁.setTop (mkF m 9 #[.val (.long q1), .second, .val (.int p2), .val (.int p3), .val (.long q4), .second, .val (.int p5), .val (.double t6), .second, .unset, .unset, .unset, .unset, .unset, .unset, .unset, .unset, .unset, .unset, .unset, .unset, .unset, .unset, .unset, .unset] [])) _
    refine XS.lloadN X0.here hx rfl (hb hby at_9) rfl ?_
    show Steps p.tables e below (s₁.setTop (mkF m 10 #[.val (.long q1), .second, .val (.int p2), .val (.int p3), .val (.long q4), .second, .val (.int p5), .val (.double t6), .second, .unset, .unset, .unset, .unset, .unset, .unset, .unset, .unset, .unset, .unset, .unset, .unset, .unset, .unset, .unset, .unset] [(.long q1)])) _
    refine XS.bipush X0.here hx rfl (hb hby at_10) ?_
    show Steps p.tables e below (s₁.setTop (mkF m 12 #[.val (.long q1), .second, .val (.int p2), .val (.int p3), .val (.long q4), .second, .val (.int p5), .val (.double t6), .second, .unset, .unset, .unset, .unset, .unset, .unset, .unset, .unset, .unset, .unset, .unset, .unset, .unset, .unset, .unset, .unset] [(.int (32 : Int32)), (.long q1)])) _
    refine XS.lshr X0.here hx rfl (hb hby at_12) rfl ?_
    show Steps p.tables e below (s₁.setTop (mkF m 13 #[.val (.long q1), .second, .val (.int p2), .val (.int p3), .val (.long q4), .second, .val (.int p5), .val (.double t6), .second, .unset, .unset, .unset, .unset, .unset, .unset, .unset, .unset, .unset, .unset, .unset, .unset, .unset, .unset, .unset, .unset] [(.long (q1 >>> ((32 : Int32) &&& 0x3f).toInt64))])) _
    refine XS.l2i X0.here hx rfl (hb hby at_13) rfl ?_
    show Steps p.tables e below (s₁.setTop (mkF m 14 #[.val (.long q1), .second, .val (.int p2), .val (.int p3), .val (.long q4), .second, .val (.int p5), .val (.double t6), .second, .unset, .unset, .unset, .unset, .unset, .unset, .unset, .unset, .unset, .unset, .unset, .unset, .unset, .unset, .unset, .unset] [(.int ((q1 >>> ((32 : Int32) &&& 0x3f).toInt64).toInt32))])) _
    refine XS.i2dS X0.here hx rfl (hb hby at_14) rfl ht14 ?_
    show Steps p.tables e below (s₁.setTop (mkF m 15 #[.val (.long q1), .second, .val (.int p2), .val (.int p3), .val (.long q4), .second, .val (.int p5), .val (.double t6), .second, .unset, .unset, .unset, .unset, .unset, .unset, .unset, .unset, .unset, .unset, .unset, .unset, .unset, .unset, .unset, .unset] [(.double t14)])) _
    refine X0.ldc2DoubleC hx hown (mvT hZ (hw _ (List.mem_of_getElem? (i := 0) rfl))) (g := (mkF m 15 #[.val (.long q1), .second, .val (.int p2), .val (.int p3), .val (.long q4), .second, .val (.int p5), .val (.double t6), .second, .unset, .unset, .unset, .unset, .unset, .unset, .unset, .unset, .unset, .unset, .unset, .unset, .unset, .unset, .unset, .unset] [(.double t14)])) rfl (hb hby at_15) _ ?_
    show Steps p.tables e below (s₁.setTop (mkF m 18 #[.val (.long q1), .second, .val (.int p2), .val (.int p3), .val (.long q4), .second, .val (.int p5), .val (.double t6), .second, .unset, .unset, .unset, .unset, .unset, .unset, .unset, .unset, .unset, .unset, .unset, .unset, .unset, .unset, .unset, .unset] [(.double (4625196817309499392 : UInt64)), (.double t14)])) _
    refine XS.ddivS X0.here hx rfl (hb hby at_18) rfl hn18 ht18 ?_
    show Steps p.tables e below (s₁.setTop (mkF m 19 #[.val (.long q1), .second, .val (.int p2), .val (.int p3), .val (.long q4), .second, .val (.int p5), .val (.double t6), .second, .unset, .unset, .unset, .unset, .unset, .unset, .unset, .unset, .unset, .unset, .unset, .unset, .unset, .unset, .unset, .unset] [(.double t18)])) _
    refine XS.dstore X0.here hx rfl (hb hby at_19) rfl (l' := #[.val (.long q1), .second, .val (.int p2), .val (.int p3), .val (.long q4), .second, .val (.int p5), .val (.double t6), .second, .val (.double t18), .second, .unset, .unset, .unset, .unset, .unset, .unset, .unset, .unset, .unset, .unset, .unset, .unset, .unset, .unset]) rfl ?_
    show Steps p.tables e below (s₁.setTop (mkF m 21 #[.val (.long q1), .second, .val (.int p2), .val (.int p3), .val (.long q4), .second, .val (.int p5), .val (.double t6), .second, .val (.double t18), .second, .unset, .unset, .unset, .unset, .unset, .unset, .unset, .unset, .unset, .unset, .unset, .unset, .unset, .unset] [])) _
    refine XS.iconst X0.here hx rfl (hb hby at_21) ?_
    show Steps p.tables e below (s₁.setTop (mkF m 22 #[.val (.long q1), .second, .val (.int p2), .val (.int p3), .val (.long q4), .second, .val (.int p5), .val (.double t6), .second, .val (.double t18), .second, .unset, .unset, .unset, .unset, .unset, .unset, .unset, .unset, .unset, .unset, .unset, .unset, .unset, .unset] [(.int (1 : Int32))])) _
    refine XS.iloadN X0.here hx rfl (hb hby at_22) rfl ?_
    show Steps p.tables e below (s₁.setTop (mkF m 23 #[.val (.long q1), .second, .val (.int p2), .val (.int p3), .val (.long q4), .second, .val (.int p5), .val (.double t6), .second, .val (.double t18), .second, .unset, .unset, .unset, .unset, .unset, .unset, .unset, .unset, .unset, .unset, .unset, .unset, .unset, .unset] [(.int p2), (.int (1 : Int32))])) _
    refine X0.ldcInt hx hown (mvT hZ (hw _ (List.mem_of_getElem? (i := 1) rfl))) (g := (mkF m 23 #[.val (.long q1), .second, .val (.int p2), .val (.int p3), .val (.long q4), .second, .val (.int p5), .val (.double t6), .second, .val (.double t18), .second, .unset, .unset, .unset, .unset, .unset, .unset, .unset, .unset, .unset, .unset, .unset, .unset, .unset, .unset] [(.int p2), (.int (1 : Int32))])) rfl (hb hby at_23) _ ?_
    show Steps p.tables e below (s₁.setTop (mkF m 25 #[.val (.long q1), .second, .val (.int p2), .val (.int p3), .val (.long q4), .second, .val (.int p5), .val (.double t6), .second, .val (.double t18), .second, .unset, .unset, .unset, .unset, .unset, .unset, .unset, .unset, .unset, .unset, .unset, .unset, .unset, .unset] [(.int (2147483647 : Int32)), (.int p2), (.int (1 : Int32))])) _
    refine XS.iand X0.here hx rfl (hb hby at_25) rfl ?_
    show Steps p.tables e below (s₁.setTop (mkF m 26 #[.val (.long q1), .second, .val (.int p2), .val (.int p3), .val (.long q4), .second, .val (.int p5), .val (.double t6), .second, .val (.double t18), .second, .unset, .unset, .unset, .unset, .unset, .unset, .unset, .unset, .unset, .unset, .unset, .unset, .unset, .unset] [(.int (p2 &&& (2147483647 : Int32))), (.int (1 : Int32))])) _
    refine st6 _ ?_
    show Steps p.tables e below (T6.setTop (mkF m 29 #[.val (.long q1), .second, .val (.int p2), .val (.int p3), .val (.long q4), .second, .val (.int p5), .val (.double t6), .second, .val (.double t18), .second, .unset, .unset, .unset, .unset, .unset, .unset, .unset, .unset, .unset, .unset, .unset, .unset, .unset, .unset] [(.int (own_max (1 : Int32) (p2 &&& (2147483647 : Int32))))])) _
    refine XS.istore X6.here hx rfl (hb hby at_29) rfl (l' := #[.val (.long q1), .second, .val (.int p2), .val (.int p3), .val (.long q4), .second, .val (.int p5), .val (.double t6), .second, .val (.double t18), .second, .val (.int (own_max (1 : Int32) (p2 &&& (2147483647 : Int32)))), .unset, .unset, .unset, .unset, .unset, .unset, .unset, .unset, .unset, .unset, .unset, .unset, .unset]) rfl ?_
    show Steps p.tables e below (T6.setTop (mkF m 31 #[.val (.long q1), .second, .val (.int p2), .val (.int p3), .val (.long q4), .second, .val (.int p5), .val (.double t6), .second, .val (.double t18), .second, .val (.int (own_max (1 : Int32) (p2 &&& (2147483647 : Int32)))), .unset, .unset, .unset, .unset, .unset, .unset, .unset, .unset, .unset, .unset, .unset, .unset, .unset] [])) _
    refine XS.iloadN X6.here hx rfl (hb hby at_31) rfl ?_
    show Steps p.tables e below (T6.setTop (mkF m 32 #[.val (.long q1), .second, .val (.int p2), .val (.int p3), .val (.long q4), .second, .val (.int p5), .val (.double t6), .second, .val (.double t18), .second, .val (.int (own_max (1 : Int32) (p2 &&& (2147483647 : Int32)))), .unset, .unset, .unset, .unset, .unset, .unset, .unset, .unset, .unset, .unset, .unset, .unset, .unset] [(.int p3)])) _
    refine X6.ldcInt hx hown (mvT hZ (hw _ (List.mem_of_getElem? (i := 1) rfl))) (g := (mkF m 32 #[.val (.long q1), .second, .val (.int p2), .val (.int p3), .val (.long q4), .second, .val (.int p5), .val (.double t6), .second, .val (.double t18), .second, .val (.int (own_max (1 : Int32) (p2 &&& (2147483647 : Int32)))), .unset, .unset, .unset, .unset, .unset, .unset, .unset, .unset, .unset, .unset, .unset, .unset, .unset] [(.int p3)])) rfl (hb hby at_32) _ ?_
    show Steps p.tables e below (T6.setTop (mkF m 34 #[.val (.long q1), .second, .val (.int p2), .val (.int p3), .val (.long q4), .second, .val (.int p5), .val (.double t6), .second, .val (.double t18), .second, .val (.int (own_max (1 : Int32) (p2 &&& (2147483647 : Int32)))), .unset, .unset, .unset, .unset, .unset, .unset, .unset, .unset, .unset, .unset, .unset, .unset, .unset] [(.int (2147483647 : Int32)), (.int p3)])) _
    refine XS.iand X6.here hx rfl (hb hby at_34) rfl ?_
    show Steps p.tables e below (T6.setTop (mkF m 35 #[.val (.long q1), .second, .val (.int p2), .val (.int p3), .val (.long q4), .second, .val (.int p5), .val (.double t6), .second, .val (.double t18), .second, .val (.int (own_max (1 : Int32) (p2 &&& (2147483647 : Int32)))), .unset, .unset, .unset, .unset, .unset, .unset, .unset, .unset, .unset, .unset, .unset, .unset, .unset] [(.int (p3 &&& (2147483647 : Int32)))])) _
    refine XS.istore X6.here hx rfl (hb hby at_35) rfl (l' := #[.val (.long q1), .second, .val (.int p2), .val (.int p3), .val (.long q4), .second, .val (.int p5), .val (.double t6), .second, .val (.double t18), .second, .val (.int (own_max (1 : Int32) (p2 &&& (2147483647 : Int32)))), .val (.int (p3 &&& (2147483647 : Int32))), .unset, .unset, .unset, .unset, .unset, .unset, .unset, .unset, .unset, .unset, .unset, .unset]) rfl ?_
    show Steps p.tables e below (T6.setTop (mkF m 37 #[.val (.long q1), .second, .val (.int p2), .val (.int p3), .val (.long q4), .second, .val (.int p5), .val (.double t6), .second, .val (.double t18), .second, .val (.int (own_max (1 : Int32) (p2 &&& (2147483647 : Int32)))), .val (.int (p3 &&& (2147483647 : Int32))), .unset, .unset, .unset, .unset, .unset, .unset, .unset, .unset, .unset, .unset, .unset, .unset] [])) _
    refine XS.iconst X6.here hx rfl (hb hby at_37) ?_
    show Steps p.tables e below (T6.setTop (mkF m 38 #[.val (.long q1), .second, .val (.int p2), .val (.int p3), .val (.long q4), .second, .val (.int p5), .val (.double t6), .second, .val (.double t18), .second, .val (.int (own_max (1 : Int32) (p2 &&& (2147483647 : Int32)))), .val (.int (p3 &&& (2147483647 : Int32))), .unset, .unset, .unset, .unset, .unset, .unset, .unset, .unset, .unset, .unset, .unset, .unset] [(.int (1 : Int32))])) _
    refine XS.lload X6.here hx rfl (hb hby at_38) rfl ?_
    show Steps p.tables e below (T6.setTop (mkF m 40 #[.val (.long q1), .second, .val (.int p2), .val (.int p3), .val (.long q4), .second, .val (.int p5), .val (.double t6), .second, .val (.double t18), .second, .val (.int (own_max (1 : Int32) (p2 &&& (2147483647 : Int32)))), .val (.int (p3 &&& (2147483647 : Int32))), .unset, .unset, .unset, .unset, .unset, .unset, .unset, .unset, .unset, .unset, .unset, .unset] [(.long q4), (.int (1 : Int32))])) _
    refine XS.l2i X6.here hx rfl (hb hby at_40) rfl ?_
    show Steps p.tables e below (T6.setTop (mkF m 41 #[.val (.long q1), .second, .val (.int p2), .val (.int p3), .val (.long q4), .second, .val (.int p5), .val (.double t6), .second, .val (.double t18), .second, .val (.int (own_max (1 : Int32) (p2 &&& (2147483647 : Int32)))), .val (.int (p3 &&& (2147483647 : Int32))), .unset, .unset, .unset, .unset, .unset, .unset, .unset, .unset, .unset, .unset, .unset, .unset] [(.int (q4.toInt32)), (.int (1 : Int32))])) _
    refine X6.ldcInt hx hown (mvT hZ (hw _ (List.mem_of_getElem? (i := 1) rfl))) (g := (mkF m 41 #[.val (.long q1), .second, .val (.int p2), .val (.int p3), .val (.long q4), .second, .val (.int p5), .val (.double t6), .second, .val (.double t18), .second, .val (.int (own_max (1 : Int32) (p2 &&& (2147483647 : Int32)))), .val (.int (p3 &&& (2147483647 : Int32))), .unset, .unset, .unset, .unset, .unset, .unset, .unset, .unset, .unset, .unset, .unset, .unset] [(.int (q4.toInt32)), (.int (1 : Int32))])) rfl (hb hby at_41) _ ?_
    show Steps p.tables e below (T6.setTop (mkF m 43 #[.val (.long q1), .second, .val (.int p2), .val (.int p3), .val (.long q4), .second, .val (.int p5), .val (.double t6), .second, .val (.double t18), .second, .val (.int (own_max (1 : Int32) (p2 &&& (2147483647 : Int32)))), .val (.int (p3 &&& (2147483647 : Int32))), .unset, .unset, .unset, .unset, .unset, .unset, .unset, .unset, .unset, .unset, .unset, .unset] [(.int (2147483647 : Int32)), (.int (q4.toInt32)), (.int (1 : Int32))])) _
    refine XS.iand X6.here hx rfl (hb hby at_43) rfl ?_
    show Steps p.tables e below (T6.setTop (mkF m 44 #[.val (.long q1), .second, .val (.int p2), .val (.int p3), .val (.long q4), .second, .val (.int p5), .val (.double t6), .second, .val (.double t18), .second, .val (.int (own_max (1 : Int32) (p2 &&& (2147483647 : Int32)))), .val (.int (p3 &&& (2147483647 : Int32))), .unset, .unset, .unset, .unset, .unset, .unset, .unset, .unset, .unset, .unset, .unset, .unset] [(.int ((q4.toInt32) &&& (2147483647 : Int32))), (.int (1 : Int32))])) _
    refine st7 _ ?_
    show Steps p.tables e below (T7.setTop (mkF m 47 #[.val (.long q1), .second, .val (.int p2), .val (.int p3), .val (.long q4), .second, .val (.int p5), .val (.double t6), .second, .val (.double t18), .second, .val (.int (own_max (1 : Int32) (p2 &&& (2147483647 : Int32)))), .val (.int (p3 &&& (2147483647 : Int32))), .unset, .unset, .unset, .unset, .unset, .unset, .unset, .unset, .unset, .unset, .unset, .unset] [(.int (own_max (1 : Int32) ((q4.toInt32) &&& (2147483647 : Int32))))])) _
    refine XS.istore X7.here hx rfl (hb hby at_47) rfl (l' := #[.val (.long q1), .second, .val (.int p2), .val (.int p3), .val (.long q4), .second, .val (.int p5), .val (.double t6), .second, .val (.double t18), .second, .val (.int (own_max (1 : Int32) (p2 &&& (2147483647 : Int32)))), .val (.int (p3 &&& (2147483647 : Int32))), .val (.int (own_max (1 : Int32) ((q4.toInt32) &&& (2147483647 : Int32)))), .unset, .unset, .unset, .unset, .unset, .unset, .unset, .unset, .unset, .unset, .unset]) rfl ?_
    show Steps p.tables e below (T7.setTop (mkF m 49 #[.val (.long q1), .second, .val (.int p2), .val (.int p3), .val (.long q4), .second, .val (.int p5), .val (.double t6), .second, .val (.double t18), .second, .val (.int (own_max (1 : Int32) (p2 &&& (2147483647 : Int32)))), .val (.int (p3 &&& (2147483647 : Int32))), .val (.int (own_max (1 : Int32) ((q4.toInt32) &&& (2147483647 : Int32)))), .unset, .unset, .unset, .unset, .unset, .unset, .unset, .unset, .unset, .unset, .unset] [])) _
    refine XS.lload X7.here hx rfl (hb hby at_49) rfl ?_
    show Steps p.tables e below (T7.setTop (mkF m 51 #[.val (.long q1), .second, .val (.int p2), .val (.int p3), .val (.long q4), .second, .val (.int p5), .val (.double t6), .second, .val (.double t18), .second, .val (.int (own_max (1 : Int32) (p2 &&& (2147483647 : Int32)))), .val (.int (p3 &&& (2147483647 : Int32))), .val (.int (own_max (1 : Int32) ((q4.toInt32) &&& (2147483647 : Int32)))), .unset, .unset, .unset, .unset, .unset, .unset, .unset, .unset, .unset, .unset, .unset] [(.long q4)])) _
    refine XS.bipush X7.here hx rfl (hb hby at_51) ?_
    show Steps p.tables e below (T7.setTop (mkF m 53 #[.val (.long q1), .second, .val (.int p2), .val (.int p3), .val (.long q4), .second, .val (.int p5), .val (.double t6), .second, .val (.double t18), .second, .val (.int (own_max (1 : Int32) (p2 &&& (2147483647 : Int32)))), .val (.int (p3 &&& (2147483647 : Int32))), .val (.int (own_max (1 : Int32) ((q4.toInt32) &&& (2147483647 : Int32)))), .unset, .unset, .unset, .unset, .unset, .unset, .unset, .unset, .unset, .unset, .unset] [(.int (32 : Int32)), (.long q4)])) _
    refine XS.lushr X7.here hx rfl (hb hby at_53) rfl ?_
    show Steps p.tables e below (T7.setTop (mkF m 54 #[.val (.long q1), .second, .val (.int p2), .val (.int p3), .val (.long q4), .second, .val (.int p5), .val (.double t6), .second, .val (.double t18), .second, .val (.int (own_max (1 : Int32) (p2 &&& (2147483647 : Int32)))), .val (.int (p3 &&& (2147483647 : Int32))), .val (.int (own_max (1 : Int32) ((q4.toInt32) &&& (2147483647 : Int32)))), .unset, .unset, .unset, .unset, .unset, .unset, .unset, .unset, .unset, .unset, .unset] [(.long ((q4.toUInt64 >>> ((32 : Int32) &&& 0x3f).toInt64.toUInt64).toInt64))])) _
    refine XS.l2i X7.here hx rfl (hb hby at_54) rfl ?_
    show Steps p.tables e below (T7.setTop (mkF m 55 #[.val (.long q1), .second, .val (.int p2), .val (.int p3), .val (.long q4), .second, .val (.int p5), .val (.double t6), .second, .val (.double t18), .second, .val (.int (own_max (1 : Int32) (p2 &&& (2147483647 : Int32)))), .val (.int (p3 &&& (2147483647 : Int32))), .val (.int (own_max (1 : Int32) ((q4.toInt32) &&& (2147483647 : Int32)))), .unset, .unset, .unset, .unset, .unset, .unset, .unset, .unset, .unset, .unset, .unset] [(.int (((q4.toUInt64 >>> ((32 : Int32) &&& 0x3f).toInt64.toUInt64).toInt64).toInt32))])) _
    refine X7.ldcInt hx hown (mvT hZ (hw _ (List.mem_of_getElem? (i := 1) rfl))) (g := (mkF m 55 #[.val (.long q1), .second, .val (.int p2), .val (.int p3), .val (.long q4), .second, .val (.int p5), .val (.double t6), .second, .val (.double t18), .second, .val (.int (own_max (1 : Int32) (p2 &&& (2147483647 : Int32)))), .val (.int (p3 &&& (2147483647 : Int32))), .val (.int (own_max (1 : Int32) ((q4.toInt32) &&& (2147483647 : Int32)))), .unset, .unset, .unset, .unset, .unset, .unset, .unset, .unset, .unset, .unset, .unset] [(.int (((q4.toUInt64 >>> ((32 : Int32) &&& 0x3f).toInt64.toUInt64).toInt64).toInt32))])) rfl (hb hby at_55) _ ?_
    show Steps p.tables e below (T7.setTop (mkF m 57 #[.val (.long q1), .second, .val (.int p2), .val (.int p3), .val (.long q4), .second, .val (.int p5), .val (.double t6), .second, .val (.double t18), .second, .val (.int (own_max (1 : Int32) (p2 &&& (2147483647 : Int32)))), .val (.int (p3 &&& (2147483647 : Int32))), .val (.int (own_max (1 : Int32) ((q4.toInt32) &&& (2147483647 : Int32)))), .unset, .unset, .unset, .unset, .unset, .unset, .unset, .unset, .unset, .unset, .unset] [(.int (2147483647 : Int32)), (.int (((q4.toUInt64 >>> ((32 : Int32) &&& 0x3f).toInt64.toUInt64).toInt64).toInt32))])) _
    refine XS.iand X7.here hx rfl (hb hby at_57) rfl ?_
    show Steps p.tables e below (T7.setTop (mkF m 58 #[.val (.long q1), .second, .val (.int p2), .val (.int p3), .val (.long q4), .second, .val (.int p5), .val (.double t6), .second, .val (.double t18), .second, .val (.int (own_max (1 : Int32) (p2 &&& (2147483647 : Int32)))), .val (.int (p3 &&& (2147483647 : Int32))), .val (.int (own_max (1 : Int32) ((q4.toInt32) &&& (2147483647 : Int32)))), .unset, .unset, .unset, .unset, .unset, .unset, .unset, .unset, .unset, .unset, .unset] [(.int ((((q4.toUInt64 >>> ((32 : Int32) &&& 0x3f).toInt64.toUInt64).toInt64).toInt32) &&& (2147483647 : Int32)))])) _
    refine XS.istore X7.here hx rfl (hb hby at_58) rfl (l' := #[.val (.long q1), .second, .val (.int p2), .val (.int p3), .val (.long q4), .second, .val (.int p5), .val (.double t6), .second, .val (.double t18), .second, .val (.int (own_max (1 : Int32) (p2 &&& (2147483647 : Int32)))), .val (.int (p3 &&& (2147483647 : Int32))), .val (.int (own_max (1 : Int32) ((q4.toInt32) &&& (2147483647 : Int32)))), .val (.int ((((q4.toUInt64 >>> ((32 : Int32) &&& 0x3f).toInt64.toUInt64).toInt64).toInt32) &&& (2147483647 : Int32))), .unset, .unset, .unset, .unset, .unset, .unset, .unset, .unset, .unset, .unset]) rfl ?_
    show Steps p.tables e below (T7.setTop (mkF m 60 #[.val (.long q1), .second, .val (.int p2), .val (.int p3), .val (.long q4), .second, .val (.int p5), .val (.double t6), .second, .val (.double t18), .second, .val (.int (own_max (1 : Int32) (p2 &&& (2147483647 : Int32)))), .val (.int (p3 &&& (2147483647 : Int32))), .val (.int (own_max (1 : Int32) ((q4.toInt32) &&& (2147483647 : Int32)))), .val (.int ((((q4.toUInt64 >>> ((32 : Int32) &&& 0x3f).toInt64.toUInt64).toInt64).toInt32) &&& (2147483647 : Int32))), .unset, .unset, .unset, .unset, .unset, .unset, .unset, .unset, .unset, .unset] [])) _
    refine XS.iload X7.here hx rfl (hb hby at_60) rfl ?_
    show Steps p.tables e below (T7.setTop (mkF m 62 #[.val (.long q1), .second, .val (.int p2), .val (.int p3), .val (.long q4), .second, .val (.int p5), .val (.double t6), .second, .val (.double t18), .second, .val (.int (own_max (1 : Int32) (p2 &&& (2147483647 : Int32)))), .val (.int (p3 &&& (2147483647 : Int32))), .val (.int (own_max (1 : Int32) ((q4.toInt32) &&& (2147483647 : Int32)))), .val (.int ((((q4.toUInt64 >>> ((32 : Int32) &&& 0x3f).toInt64.toUInt64).toInt64).toInt32) &&& (2147483647 : Int32))), .unset, .unset, .unset, .unset, .unset, .unset, .unset, .unset, .unset, .unset] [(.int p5)])) _
    refine X7.ldcInt hx hown (mvT hZ (hw _ (List.mem_of_getElem? (i := 1) rfl))) (g := (mkF m 62 #[.val (.long q1), .second, .val (.int p2), .val (.int p3), .val (.long q4), .second, .val (.int p5), .val (.double t6), .second, .val (.double t18), .second, .val (.int (own_max (1 : Int32) (p2 &&& (2147483647 : Int32)))), .val (.int (p3 &&& (2147483647 : Int32))), .val (.int (own_max (1 : Int32) ((q4.toInt32) &&& (2147483647 : Int32)))), .val (.int ((((q4.toUInt64 >>> ((32 : Int32) &&& 0x3f).toInt64.toUInt64).toInt64).toInt32) &&& (2147483647 : Int32))), .unset, .unset, .unset, .unset, .unset, .unset, .unset, .unset, .unset, .unset] [(.int p5)])) rfl (hb hby at_62) _ ?_
    show Steps p.tables e below (T7.setTop (mkF m 64 #[.val (.long q1), .second, .val (.int p2), .val (.int p3), .val (.long q4), .second, .val (.int p5), .val (.double t6), .second, .val (.double t18), .second, .val (.int (own_max (1 : Int32) (p2 &&& (2147483647 : Int32)))), .val (.int (p3 &&& (2147483647 : Int32))), .val (.int (own_max (1 : Int32) ((q4.toInt32) &&& (2147483647 : Int32)))), .val (.int ((((q4.toUInt64 >>> ((32 : Int32) &&& 0x3f).toInt64.toUInt64).toInt64).toInt32) &&& (2147483647 : Int32))), .unset, .unset, .unset, .unset, .unset, .unset, .unset, .unset, .unset, .unset] [(.int (2147483647 : Int32)), (.int p5)])) _
    refine XS.iand X7.here hx rfl (hb hby at_64) rfl ?_
    show Steps p.tables e below (T7.setTop (mkF m 65 #[.val (.long q1), .second, .val (.int p2), .val (.int p3), .val (.long q4), .second, .val (.int p5), .val (.double t6), .second, .val (.double t18), .second, .val (.int (own_max (1 : Int32) (p2 &&& (2147483647 : Int32)))), .val (.int (p3 &&& (2147483647 : Int32))), .val (.int (own_max (1 : Int32) ((q4.toInt32) &&& (2147483647 : Int32)))), .val (.int ((((q4.toUInt64 >>> ((32 : Int32) &&& 0x3f).toInt64.toUInt64).toInt64).toInt32) &&& (2147483647 : Int32))), .unset, .unset, .unset, .unset, .unset, .unset, .unset, .unset, .unset, .unset] [(.int (p5 &&& (2147483647 : Int32)))])) _
    refine XS.istore X7.here hx rfl (hb hby at_65) rfl (l' := #[.val (.long q1), .second, .val (.int p2), .val (.int p3), .val (.long q4), .second, .val (.int p5), .val (.double t6), .second, .val (.double t18), .second, .val (.int (own_max (1 : Int32) (p2 &&& (2147483647 : Int32)))), .val (.int (p3 &&& (2147483647 : Int32))), .val (.int (own_max (1 : Int32) ((q4.toInt32) &&& (2147483647 : Int32)))), .val (.int ((((q4.toUInt64 >>> ((32 : Int32) &&& 0x3f).toInt64.toUInt64).toInt64).toInt32) &&& (2147483647 : Int32))), .val (.int (p5 &&& (2147483647 : Int32))), .unset, .unset, .unset, .unset, .unset, .unset, .unset, .unset, .unset]) rfl ?_
    show Steps p.tables e below (T7.setTop (mkF m 67 #[.val (.long q1), .second, .val (.int p2), .val (.int p3), .val (.long q4), .second, .val (.int p5), .val (.double t6), .second, .val (.double t18), .second, .val (.int (own_max (1 : Int32) (p2 &&& (2147483647 : Int32)))), .val (.int (p3 &&& (2147483647 : Int32))), .val (.int (own_max (1 : Int32) ((q4.toInt32) &&& (2147483647 : Int32)))), .val (.int ((((q4.toUInt64 >>> ((32 : Int32) &&& 0x3f).toInt64.toUInt64).toInt64).toInt32) &&& (2147483647 : Int32))), .val (.int (p5 &&& (2147483647 : Int32))), .unset, .unset, .unset, .unset, .unset, .unset, .unset, .unset, .unset] [])) _
    refine st8 _ ?_
    show Steps p.tables e below (T8.setTop (mkF m 70 #[.val (.long q1), .second, .val (.int p2), .val (.int p3), .val (.long q4), .second, .val (.int p5), .val (.double t6), .second, .val (.double t18), .second, .val (.int (own_max (1 : Int32) (p2 &&& (2147483647 : Int32)))), .val (.int (p3 &&& (2147483647 : Int32))), .val (.int (own_max (1 : Int32) ((q4.toInt32) &&& (2147483647 : Int32)))), .val (.int ((((q4.toUInt64 >>> ((32 : Int32) &&& 0x3f).toInt64.toUInt64).toInt64).toInt32) &&& (2147483647 : Int32))), .val (.int (p5 &&& (2147483647 : Int32))), .unset, .unset, .unset, .unset, .unset, .unset, .unset, .unset, .unset] [(.ref b8)])) _
    refine XS.dup X8.here hx rfl (hb hby at_70) rfl rfl ?_
    show Steps p.tables e below (T8.setTop (mkF m 71 #[.val (.long q1), .second, .val (.int p2), .val (.int p3), .val (.long q4), .second, .val (.int p5), .val (.double t6), .second, .val (.double t18), .second, .val (.int (own_max (1 : Int32) (p2 &&& (2147483647 : Int32)))), .val (.int (p3 &&& (2147483647 : Int32))), .val (.int (own_max (1 : Int32) ((q4.toInt32) &&& (2147483647 : Int32)))), .val (.int ((((q4.toUInt64 >>> ((32 : Int32) &&& 0x3f).toInt64.toUInt64).toInt64).toInt32) &&& (2147483647 : Int32))), .val (.int (p5 &&& (2147483647 : Int32))), .unset, .unset, .unset, .unset, .unset, .unset, .unset, .unset, .unset] [(.ref b8), (.ref b8)])) _
    refine XS.dload X8.here hx rfl (hb hby at_71) rfl ?_
    show Steps p.tables e below (T8.setTop (mkF m 73 #[.val (.long q1), .second, .val (.int p2), .val (.int p3), .val (.long q4), .second, .val (.int p5), .val (.double t6), .second, .val (.double t18), .second, .val (.int (own_max (1 : Int32) (p2 &&& (2147483647 : Int32)))), .val (.int (p3 &&& (2147483647 : Int32))), .val (.int (own_max (1 : Int32) ((q4.toInt32) &&& (2147483647 : Int32)))), .val (.int ((((q4.toUInt64 >>> ((32 : Int32) &&& 0x3f).toInt64.toUInt64).toInt64).toInt32) &&& (2147483647 : Int32))), .val (.int (p5 &&& (2147483647 : Int32))), .unset, .unset, .unset, .unset, .unset, .unset, .unset, .unset, .unset] [(.double t6), (.ref b8), (.ref b8)])) _
    refine st9.trans ?_
    show Steps p.tables e below (T9.setTop (mkF m 76 #[.val (.long q1), .second, .val (.int p2), .val (.int p3), .val (.long q4), .second, .val (.int p5), .val (.double t6), .second, .val (.double t18), .second, .val (.int (own_max (1 : Int32) (p2 &&& (2147483647 : Int32)))), .val (.int (p3 &&& (2147483647 : Int32))), .val (.int (own_max (1 : Int32) ((q4.toInt32) &&& (2147483647 : Int32)))), .val (.int ((((q4.toUInt64 >>> ((32 : Int32) &&& 0x3f).toInt64.toUInt64).toInt64).toInt32) &&& (2147483647 : Int32))), .val (.int (p5 &&& (2147483647 : Int32))), .unset, .unset, .unset, .unset, .unset, .unset, .unset, .unset, .unset] [(.ref b8)])) _
    refine XS.astore X9.here hx rfl (hb hby at_76) rfl rfl (l' := #[.val (.long q1), .second, .val (.int p2), .val (.int p3), .val (.long q4), .second, .val (.int p5), .val (.double t6), .second, .val (.double t18), .second, .val (.int (own_max (1 : Int32) (p2 &&& (2147483647 : Int32)))), .val (.int (p3 &&& (2147483647 : Int32))), .val (.int (own_max (1 : Int32) ((q4.toInt32) &&& (2147483647 : Int32)))), .val (.int ((((q4.toUInt64 >>> ((32 : Int32) &&& 0x3f).toInt64.toUInt64).toInt64).toInt32) &&& (2147483647 : Int32))), .val (.int (p5 &&& (2147483647 : Int32))), .val (.ref b8), .unset, .unset, .unset, .unset, .unset, .unset, .unset, .unset]) rfl ?_
    show Steps p.tables e below (T9.setTop (mkF m 78 #[.val (.long q1), .second, .val (.int p2), .val (.int p3), .val (.long q4), .second, .val (.int p5), .val (.double t6), .second, .val (.double t18), .second, .val (.int (own_max (1 : Int32) (p2 &&& (2147483647 : Int32)))), .val (.int (p3 &&& (2147483647 : Int32))), .val (.int (own_max (1 : Int32) ((q4.toInt32) &&& (2147483647 : Int32)))), .val (.int ((((q4.toUInt64 >>> ((32 : Int32) &&& 0x3f).toInt64.toUInt64).toInt64).toInt32) &&& (2147483647 : Int32))), .val (.int (p5 &&& (2147483647 : Int32))), .val (.ref b8), .unset, .unset, .unset, .unset, .unset, .unset, .unset, .unset] [])) _
    refine XS.aload X9.here hx rfl (hb hby at_78) rfl rfl ?_
    show Steps p.tables e below (T9.setTop (mkF m 80 #[.val (.long q1), .second, .val (.int p2), .val (.int p3), .val (.long q4), .second, .val (.int p5), .val (.double t6), .second, .val (.double t18), .second, .val (.int (own_max (1 : Int32) (p2 &&& (2147483647 : Int32)))), .val (.int (p3 &&& (2147483647 : Int32))), .val (.int (own_max (1 : Int32) ((q4.toInt32) &&& (2147483647 : Int32)))), .val (.int ((((q4.toUInt64 >>> ((32 : Int32) &&& 0x3f).toInt64.toUInt64).toInt64).toInt32) &&& (2147483647 : Int32))), .val (.int (p5 &&& (2147483647 : Int32))), .val (.ref b8), .unset, .unset, .unset, .unset, .unset, .unset, .unset, .unset] [(.ref b8)])) _
    refine XS.iload X9.here hx rfl (hb hby at_80) rfl ?_
    show Steps p.tables e below (T9.setTop (mkF m 82 #[.val (.long q1), .second, .val (.int p2), .val (.int p3), .val (.long q4), .second, .val (.int p5), .val (.double t6), .second, .val (.double t18), .second, .val (.int (own_max (1 : Int32) (p2 &&& (2147483647 : Int32)))), .val (.int (p3 &&& (2147483647 : Int32))), .val (.int (own_max (1 : Int32) ((q4.toInt32) &&& (2147483647 : Int32)))), .val (.int ((((q4.toUInt64 >>> ((32 : Int32) &&& 0x3f).toInt64.toUInt64).toInt64).toInt32) &&& (2147483647 : Int32))), .val (.int (p5 &&& (2147483647 : Int32))), .val (.ref b8), .unset, .unset, .unset, .unset, .unset, .unset, .unset, .unset] [(.int (own_max (1 : Int32) ((q4.toInt32) &&& (2147483647 : Int32)))), (.ref b8)])) _
    refine st10.trans ?_
    show Steps p.tables e below (T10.setTop (mkF m 85 #[.val (.long q1), .second, .val (.int p2), .val (.int p3), .val (.long q4), .second, .val (.int p5), .val (.double t6), .second, .val (.double t18), .second, .val (.int (own_max (1 : Int32) (p2 &&& (2147483647 : Int32)))), .val (.int (p3 &&& (2147483647 : Int32))), .val (.int (own_max (1 : Int32) ((q4.toInt32) &&& (2147483647 : Int32)))), .val (.int ((((q4.toUInt64 >>> ((32 : Int32) &&& 0x3f).toInt64.toUInt64).toInt64).toInt32) &&& (2147483647 : Int32))), .val (.int (p5 &&& (2147483647 : Int32))), .val (.ref b8), .unset, .unset, .unset, .unset, .unset, .unset, .unset, .unset] [])) _
    refine XS.aload X10.here hx rfl (hb hby at_85) rfl rfl ?_
    show Steps p.tables e below (T10.setTop (mkF m 87 #[.val (.long q1), .second, .val (.int p2), .val (.int p3), .val (.long q4), .second, .val (.int p5), .val (.double t6), .second, .val (.double t18), .second, .val (.int (own_max (1 : Int32) (p2 &&& (2147483647 : Int32)))), .val (.int (p3 &&& (2147483647 : Int32))), .val (.int (own_max (1 : Int32) ((q4.toInt32) &&& (2147483647 : Int32)))), .val (.int ((((q4.toUInt64 >>> ((32 : Int32) &&& 0x3f).toInt64.toUInt64).toInt64).toInt32) &&& (2147483647 : Int32))), .val (.int (p5 &&& (2147483647 : Int32))), .val (.ref b8), .unset, .unset, .unset, .unset, .unset, .unset, .unset, .unset] [(.ref b8)])) _
    refine XS.iload X10.here hx rfl (hb hby at_87) rfl ?_
    show Steps p.tables e below (T10.setTop (mkF m 89 #[.val (.long q1), .second, .val (.int p2), .val (.int p3), .val (.long q4), .second, .val (.int p5), .val (.double t6), .second, .val (.double t18), .second, .val (.int (own_max (1 : Int32) (p2 &&& (2147483647 : Int32)))), .val (.int (p3 &&& (2147483647 : Int32))), .val (.int (own_max (1 : Int32) ((q4.toInt32) &&& (2147483647 : Int32)))), .val (.int ((((q4.toUInt64 >>> ((32 : Int32) &&& 0x3f).toInt64.toUInt64).toInt64).toInt32) &&& (2147483647 : Int32))), .val (.int (p5 &&& (2147483647 : Int32))), .val (.ref b8), .unset, .unset, .unset, .unset, .unset, .unset, .unset, .unset] [(.int ((((q4.toUInt64 >>> ((32 : Int32) &&& 0x3f).toInt64.toUInt64).toInt64).toInt32) &&& (2147483647 : Int32))), (.ref b8)])) _
    refine st11.trans ?_
    show Steps p.tables e below (T11.setTop (mkF m 92 #[.val (.long q1), .second, .val (.int p2), .val (.int p3), .val (.long q4), .second, .val (.int p5), .val (.double t6), .second, .val (.double t18), .second, .val (.int (own_max (1 : Int32) (p2 &&& (2147483647 : Int32)))), .val (.int (p3 &&& (2147483647 : Int32))), .val (.int (own_max (1 : Int32) ((q4.toInt32) &&& (2147483647 : Int32)))), .val (.int ((((q4.toUInt64 >>> ((32 : Int32) &&& 0x3f).toInt64.toUInt64).toInt64).toInt32) &&& (2147483647 : Int32))), .val (.int (p5 &&& (2147483647 : Int32))), .val (.ref b8), .unset, .unset, .unset, .unset, .unset, .unset, .unset, .unset] [])) _
    refine XS.aload X11.here hx rfl (hb hby at_92) rfl rfl ?_
    show Steps p.tables e below (T11.setTop (mkF m 94 #[.val (.long q1), .second, .val (.int p2), .val (.int p3), .val (.long q4), .second, .val (.int p5), .val (.double t6), .second, .val (.double t18), .second, .val (.int (own_max (1 : Int32) (p2 &&& (2147483647 : Int32)))), .val (.int (p3 &&& (2147483647 : Int32))), .val (.int (own_max (1 : Int32) ((q4.toInt32) &&& (2147483647 : Int32)))), .val (.int ((((q4.toUInt64 >>> ((32 : Int32) &&& 0x3f).toInt64.toUInt64).toInt64).toInt32) &&& (2147483647 : Int32))), .val (.int (p5 &&& (2147483647 : Int32))), .val (.ref b8), .unset, .unset, .unset, .unset, .unset, .unset, .unset, .unset] [(.ref b8)])) _
    refine XS.iload X11.here hx rfl (hb hby at_94) rfl ?_
    show Steps p.tables e below (T11.setTop (mkF m 96 #[.val (.long q1), .second, .val (.int p2), .val (.int p3), .val (.long q4), .second, .val (.int p5), .val (.double t6), .second, .val (.double t18), .second, .val (.int (own_max (1 : Int32) (p2 &&& (2147483647 : Int32)))), .val (.int (p3 &&& (2147483647 : Int32))), .val (.int (own_max (1 : Int32) ((q4.toInt32) &&& (2147483647 : Int32)))), .val (.int ((((q4.toUInt64 >>> ((32 : Int32) &&& 0x3f).toInt64.toUInt64).toInt64).toInt32) &&& (2147483647 : Int32))), .val (.int (p5 &&& (2147483647 : Int32))), .val (.ref b8), .unset, .unset, .unset, .unset, .unset, .unset, .unset, .unset] [(.int (p5 &&& (2147483647 : Int32))), (.ref b8)])) _
    refine st12.trans ?_
    show Steps p.tables e below (T12.setTop (mkF m 99 #[.val (.long q1), .second, .val (.int p2), .val (.int p3), .val (.long q4), .second, .val (.int p5), .val (.double t6), .second, .val (.double t18), .second, .val (.int (own_max (1 : Int32) (p2 &&& (2147483647 : Int32)))), .val (.int (p3 &&& (2147483647 : Int32))), .val (.int (own_max (1 : Int32) ((q4.toInt32) &&& (2147483647 : Int32)))), .val (.int ((((q4.toUInt64 >>> ((32 : Int32) &&& 0x3f).toInt64.toUInt64).toInt64).toInt32) &&& (2147483647 : Int32))), .val (.int (p5 &&& (2147483647 : Int32))), .val (.ref b8), .unset, .unset, .unset, .unset, .unset, .unset, .unset, .unset] [])) _
    refine XS.aload X12.here hx rfl (hb hby at_99) rfl rfl ?_
    show Steps p.tables e below (T12.setTop (mkF m 101 #[.val (.long q1), .second, .val (.int p2), .val (.int p3), .val (.long q4), .second, .val (.int p5), .val (.double t6), .second, .val (.double t18), .second, .val (.int (own_max (1 : Int32) (p2 &&& (2147483647 : Int32)))), .val (.int (p3 &&& (2147483647 : Int32))), .val (.int (own_max (1 : Int32) ((q4.toInt32) &&& (2147483647 : Int32)))), .val (.int ((((q4.toUInt64 >>> ((32 : Int32) &&& 0x3f).toInt64.toUInt64).toInt64).toInt32) &&& (2147483647 : Int32))), .val (.int (p5 &&& (2147483647 : Int32))), .val (.ref b8), .unset, .unset, .unset, .unset, .unset, .unset, .unset, .unset] [(.ref b8)])) _
    refine XS.iload X12.here hx rfl (hb hby at_101) rfl ?_
    show Steps p.tables e below (T12.setTop (mkF m 103 #[.val (.long q1), .second, .val (.int p2), .val (.int p3), .val (.long q4), .second, .val (.int p5), .val (.double t6), .second, .val (.double t18), .second, .val (.int (own_max (1 : Int32) (p2 &&& (2147483647 : Int32)))), .val (.int (p3 &&& (2147483647 : Int32))), .val (.int (own_max (1 : Int32) ((q4.toInt32) &&& (2147483647 : Int32)))), .val (.int ((((q4.toUInt64 >>> ((32 : Int32) &&& 0x3f).toInt64.toUInt64).toInt64).toInt32) &&& (2147483647 : Int32))), .val (.int (p5 &&& (2147483647 : Int32))), .val (.ref b8), .unset, .unset, .unset, .unset, .unset, .unset, .unset, .unset] [(.int (p5 &&& (2147483647 : Int32))), (.ref b8)])) _
    refine st13.trans ?_
    show Steps p.tables e below (T13.setTop (mkF m 106 #[.val (.long q1), .second, .val (.int p2), .val (.int p3), .val (.long q4), .second, .val (.int p5), .val (.double t6), .second, .val (.double t18), .second, .val (.int (own_max (1 : Int32) (p2 &&& (2147483647 : Int32)))), .val (.int (p3 &&& (2147483647 : Int32))), .val (.int (own_max (1 : Int32) ((q4.toInt32) &&& (2147483647 : Int32)))), .val (.int ((((q4.toUInt64 >>> ((32 : Int32) &&& 0x3f).toInt64.toUInt64).toInt64).toInt32) &&& (2147483647 : Int32))), .val (.int (p5 &&& (2147483647 : Int32))), .val (.ref b8), .unset, .unset, .unset, .unset, .unset, .unset, .unset, .unset] [])) _
    refine XS.aload X13.here hx rfl (hb hby at_106) rfl rfl ?_
    show Steps p.tables e below (T13.setTop (mkF m 108 #[.val (.long q1), .second, .val (.int p2), .val (.int p3), .val (.long q4), .second, .val (.int p5), .val (.double t6), .second, .val (.double t18), .second, .val (.int (own_max (1 : Int32) (p2 &&& (2147483647 : Int32)))), .val (.int (p3 &&& (2147483647 : Int32))), .val (.int (own_max (1 : Int32) ((q4.toInt32) &&& (2147483647 : Int32)))), .val (.int ((((q4.toUInt64 >>> ((32 : Int32) &&& 0x3f).toInt64.toUInt64).toInt64).toInt32) &&& (2147483647 : Int32))), .val (.int (p5 &&& (2147483647 : Int32))), .val (.ref b8), .unset, .unset, .unset, .unset, .unset, .unset, .unset, .unset] [(.ref b8)])) _
    refine XS.dload X13.here hx rfl (hb hby at_108) rfl ?_
    show Steps p.tables e below (T13.setTop (mkF m 110 #[.val (.long q1), .second, .val (.int p2), .val (.int p3), .val (.long q4), .second, .val (.int p5), .val (.double t6), .second, .val (.double t18), .second, .val (.int (own_max (1 : Int32) (p2 &&& (2147483647 : Int32)))), .val (.int (p3 &&& (2147483647 : Int32))), .val (.int (own_max (1 : Int32) ((q4.toInt32) &&& (2147483647 : Int32)))), .val (.int ((((q4.toUInt64 >>> ((32 : Int32) &&& 0x3f).toInt64.toUInt64).toInt64).toInt32) &&& (2147483647 : Int32))), .val (.int (p5 &&& (2147483647 : Int32))), .val (.ref b8), .unset, .unset, .unset, .unset, .unset, .unset, .unset, .unset] [(.double t18), (.ref b8)])) _
    refine XS.iload X13.here hx rfl (hb hby at_110) rfl ?_
    show Steps p.tables e below (T13.setTop (mkF m 112 #[.val (.long q1), .second, .val (.int p2), .val (.int p3), .val (.long q4), .second, .val (.int p5), .val (.double t6), .second, .val (.double t18), .second, .val (.int (own_max (1 : Int32) (p2 &&& (2147483647 : Int32)))), .val (.int (p3 &&& (2147483647 : Int32))), .val (.int (own_max (1 : Int32) ((q4.toInt32) &&& (2147483647 : Int32)))), .val (.int ((((q4.toUInt64 >>> ((32 : Int32) &&& 0x3f).toInt64.toUInt64).toInt64).toInt32) &&& (2147483647 : Int32))), .val (.int (p5 &&& (2147483647 : Int32))), .val (.ref b8), .unset, .unset, .unset, .unset, .unset, .unset, .unset, .unset] [(.int (own_max (1 : Int32) (p2 &&& (2147483647 : Int32)))), (.double t18), (.ref b8)])) _
    refine XS.iload X13.here hx rfl (hb hby at_112) rfl ?_
    show Steps p.tables e below (T13.setTop (mkF m 114 #[.val (.long q1), .second, .val (.int p2), .val (.int p3), .val (.long q4), .second, .val (.int p5), .val (.double t6), .second, .val (.double t18), .second, .val (.int (own_max (1 : Int32) (p2 &&& (2147483647 : Int32)))), .val (.int (p3 &&& (2147483647 : Int32))), .val (.int (own_max (1 : Int32) ((q4.toInt32) &&& (2147483647 : Int32)))), .val (.int ((((q4.toUInt64 >>> ((32 : Int32) &&& 0x3f).toInt64.toUInt64).toInt64).toInt32) &&& (2147483647 : Int32))), .val (.int (p5 &&& (2147483647 : Int32))), .val (.ref b8), .unset, .unset, .unset, .unset, .unset, .unset, .unset, .unset] [(.int (p3 &&& (2147483647 : Int32))), (.int (own_max (1 : Int32) (p2 &&& (2147483647 : Int32)))), (.double t18), (.ref b8)])) _
    refine st14.trans ?_
    show Steps p.tables e below (T14.setTop (mkF m 117 #[.val (.long q1), .second, .val (.int p2), .val (.int p3), .val (.long q4), .second, .val (.int p5), .val (.double t6), .second, .val (.double t18), .second, .val (.int (own_max (1 : Int32) (p2 &&& (2147483647 : Int32)))), .val (.int (p3 &&& (2147483647 : Int32))), .val (.int (own_max (1 : Int32) ((q4.toInt32) &&& (2147483647 : Int32)))), .val (.int ((((q4.toUInt64 >>> ((32 : Int32) &&& 0x3f).toInt64.toUInt64).toInt64).toInt32) &&& (2147483647 : Int32))), .val (.int (p5 &&& (2147483647 : Int32))), .val (.ref b8), .unset, .unset, .unset, .unset, .unset, .unset, .unset, .unset] [(.double t185)])) _
    refine XS.dstore X14.here hx rfl (hb hby at_117) rfl (l' := #[.val (.long q1), .second, .val (.int p2), .val (.int p3), .val (.long q4), .second, .val (.int p5), .val (.double t6), .second, .val (.double t18), .second, .val (.int (own_max (1 : Int32) (p2 &&& (2147483647 : Int32)))), .val (.int (p3 &&& (2147483647 : Int32))), .val (.int (own_max (1 : Int32) ((q4.toInt32) &&& (2147483647 : Int32)))), .val (.int ((((q4.toUInt64 >>> ((32 : Int32) &&& 0x3f).toInt64.toUInt64).toInt64).toInt32) &&& (2147483647 : Int32))), .val (.int (p5 &&& (2147483647 : Int32))), .val (.ref b8), .val (.double t185), .second, .unset, .unset, .unset, .unset, .unset, .unset]) rfl ?_
    show Steps p.tables e below (T14.setTop (mkF m 119 #[.val (.long q1), .second, .val (.int p2), .val (.int p3), .val (.long q4), .second, .val (.int p5), .val (.double t6), .second, .val (.double t18), .second, .val (.int (own_max (1 : Int32) (p2 &&& (2147483647 : Int32)))), .val (.int (p3 &&& (2147483647 : Int32))), .val (.int (own_max (1 : Int32) ((q4.toInt32) &&& (2147483647 : Int32)))), .val (.int ((((q4.toUInt64 >>> ((32 : Int32) &&& 0x3f).toInt64.toUInt64).toInt64).toInt32) &&& (2147483647 : Int32))), .val (.int (p5 &&& (2147483647 : Int32))), .val (.ref b8), .val (.double t185), .second, .unset, .unset, .unset, .unset, .unset, .unset] [])) _
    refine XS.iload X14.here hx rfl (hb hby at_119) rfl ?_
    show Steps p.tables e below (T14.setTop (mkF m 121 #[.val (.long q1), .second, .val (.int p2), .val (.int p3), .val (.long q4), .second, .val (.int p5), .val (.double t6), .second, .val (.double t18), .second, .val (.int (own_max (1 : Int32) (p2 &&& (2147483647 : Int32)))), .val (.int (p3 &&& (2147483647 : Int32))), .val (.int (own_max (1 : Int32) ((q4.toInt32) &&& (2147483647 : Int32)))), .val (.int ((((q4.toUInt64 >>> ((32 : Int32) &&& 0x3f).toInt64.toUInt64).toInt64).toInt32) &&& (2147483647 : Int32))), .val (.int (p5 &&& (2147483647 : Int32))), .val (.ref b8), .val (.double t185), .second, .unset, .unset, .unset, .unset, .unset, .unset] [(.int ((((q4.toUInt64 >>> ((32 : Int32) &&& 0x3f).toInt64.toUInt64).toInt64).toInt32) &&& (2147483647 : Int32)))])) _
    refine XS.ifYes X14.here hx rfl (pc0 := 121) (pc' := 139) rfl (hb hby at_121) rfl ((if0 _ _).trans (flt hc121).2.2.2) (by decide) (by decide) ?_
    show Steps p.tables e below (T14.setTop (mkF m 139 #[.val (.long q1), .second, .val (.int p2), .val (.int p3), .val (.long q4), .second, .val (.int p5), .val (.double t6), .second, .val (.double t18), .second, .val (.int (own_max (1 : Int32) (p2 &&& (2147483647 : Int32)))), .val (.int (p3 &&& (2147483647 : Int32))), .val (.int (own_max (1 : Int32) ((q4.toInt32) &&& (2147483647 : Int32)))), .val (.int ((((q4.toUInt64 >>> ((32 : Int32) &&& 0x3f).toInt64.toUInt64).toInt64).toInt32) &&& (2147483647 : Int32))), .val (.int (p5 &&& (2147483647 : Int32))), .val (.ref b8), .val (.double t185), .second, .unset, .unset, .unset, .unset, .unset, .unset] [])) _
    refine XS.iload X14.here hx rfl (hb hby at_139) rfl ?_
    show Steps p.tables e below (T14.setTop (mkF m 141 #[.val (.long q1), .second, .val (.int p2), .val (.int p3), .val (.long q4), .second, .val (.int p5), .val (.double t6), .second, .val (.double t18), .second, .val (.int (own_max (1 : Int32) (p2 &&& (2147483647 : Int32)))), .val (.int (p3 &&& (2147483647 : Int32))), .val (.int (own_max (1 : Int32) ((q4.toInt32) &&& (2147483647 : Int32)))), .val (.int ((((q4.toUInt64 >>> ((32 : Int32) &&& 0x3f).toInt64.toUInt64).toInt64).toInt32) &&& (2147483647 : Int32))), .val (.int (p5 &&& (2147483647 : Int32))), .val (.ref b8), .val (.double t185), .second, .unset, .unset, .unset, .unset, .unset, .unset] [(.int (own_max (1 : Int32) ((q4.toInt32) &&& (2147483647 : Int32))))])) _
    refine XS.i2dS X14.here hx rfl (hb hby at_141) rfl ht141 ?_
    show Steps p.tables e below (T14.setTop (mkF m 142 #[.val (.long q1), .second, .val (.int p2), .val (.int p3), .val (.long q4), .second, .val (.int p5), .val (.double t6), .second, .val (.double t18), .second, .val (.int (own_max (1 : Int32) (p2 &&& (2147483647 : Int32)))), .val (.int (p3 &&& (2147483647 : Int32))), .val (.int (own_max (1 : Int32) ((q4.toInt32) &&& (2147483647 : Int32)))), .val (.int ((((q4.toUInt64 >>> ((32 : Int32) &&& 0x3f).toInt64.toUInt64).toInt64).toInt32) &&& (2147483647 : Int32))), .val (.int (p5 &&& (2147483647 : Int32))), .val (.ref b8), .val (.double t185), .second, .unset, .unset, .unset, .unset, .unset, .unset] [(.double t141)])) _
    refine XS.dconst1 X14.here hx rfl (hb hby at_142) rfl ?_
    show Steps p.tables e below (T14.setTop (mkF m 143 #[.val (.long q1), .second, .val (.int p2), .val (.int p3), .val (.long q4), .second, .val (.int p5), .val (.double t6), .second, .val (.double t18), .second, .val (.int (own_max (1 : Int32) (p2 &&& (2147483647 : Int32)))), .val (.int (p3 &&& (2147483647 : Int32))), .val (.int (own_max (1 : Int32) ((q4.toInt32) &&& (2147483647 : Int32)))), .val (.int ((((q4.toUInt64 >>> ((32 : Int32) &&& 0x3f).toInt64.toUInt64).toInt64).toInt32) &&& (2147483647 : Int32))), .val (.int (p5 &&& (2147483647 : Int32))), .val (.ref b8), .val (.double t185), .second, .unset, .unset, .unset, .unset, .unset, .unset] [(.double FP.dconst1), (.double t141)])) _
    refine XS.ddivS X14.here hx rfl (hb hby at_143) rfl hn143 ht143 ?_
    show Steps p.tables e below (T14.setTop (mkF m 144 #[.val (.long q1), .second, .val (.int p2), .val (.int p3), .val (.long q4), .second, .val (.int p5), .val (.double t6), .second, .val (.double t18), .second, .val (.int (own_max (1 : Int32) (p2 &&& (2147483647 : Int32)))), .val (.int (p3 &&& (2147483647 : Int32))), .val (.int (own_max (1 : Int32) ((q4.toInt32) &&& (2147483647 : Int32)))), .val (.int ((((q4.toUInt64 >>> ((32 : Int32) &&& 0x3f).toInt64.toUInt64).toInt64).toInt32) &&& (2147483647 : Int32))), .val (.int (p5 &&& (2147483647 : Int32))), .val (.ref b8), .val (.double t185), .second, .unset, .unset, .unset, .unset, .unset, .unset] [(.double t143)])) _
    refine XS.dstore X14.here hx rfl (hb hby at_144) rfl (l' := #[.val (.long q1), .second, .val (.int p2), .val (.int p3), .val (.long q4), .second, .val (.int p5), .val (.double t6), .second, .val (.double t18), .second, .val (.int (own_max (1 : Int32) (p2 &&& (2147483647 : Int32)))), .val (.int (p3 &&& (2147483647 : Int32))), .val (.int (own_max (1 : Int32) ((q4.toInt32) &&& (2147483647 : Int32)))), .val (.int ((((q4.toUInt64 >>> ((32 : Int32) &&& 0x3f).toInt64.toUInt64).toInt64).toInt32) &&& (2147483647 : Int32))), .val (.int (p5 &&& (2147483647 : Int32))), .val (.ref b8), .val (.double t185), .second, .val (.double t143), .second, .unset, .unset, .unset, .unset]) rfl ?_
    show Steps p.tables e below (T14.setTop (mkF m 146 #[.val (.long q1), .second, .val (.int p2), .val (.int p3), .val (.long q4), .second, .val (.int p5), .val (.double t6), .second, .val (.double t18), .second, .val (.int (own_max (1 : Int32) (p2 &&& (2147483647 : Int32)))), .val (.int (p3 &&& (2147483647 : Int32))), .val (.int (own_max (1 : Int32) ((q4.toInt32) &&& (2147483647 : Int32)))), .val (.int ((((q4.toUInt64 >>> ((32 : Int32) &&& 0x3f).toInt64.toUInt64).toInt64).toInt32) &&& (2147483647 : Int32))), .val (.int (p5 &&& (2147483647 : Int32))), .val (.ref b8), .val (.double t185), .second, .val (.double t143), .second, .unset, .unset, .unset, .unset] [])) _
    refine XS.iload X14.here hx rfl (hb hby at_146) rfl ?_
    show Steps p.tables e below (T14.setTop (mkF m 148 #[.val (.long q1), .second, .val (.int p2), .val (.int p3), .val (.long q4), .second, .val (.int p5), .val (.double t6), .second, .val (.double t18), .second, .val (.int (own_max (1 : Int32) (p2 &&& (2147483647 : Int32)))), .val (.int (p3 &&& (2147483647 : Int32))), .val (.int (own_max (1 : Int32) ((q4.toInt32) &&& (2147483647 : Int32)))), .val (.int ((((q4.toUInt64 >>> ((32 : Int32) &&& 0x3f).toInt64.toUInt64).toInt64).toInt32) &&& (2147483647 : Int32))), .val (.int (p5 &&& (2147483647 : Int32))), .val (.ref b8), .val (.double t185), .second, .val (.double t143), .second, .unset, .unset, .unset, .unset] [(.int (own_max (1 : Int32) (p2 &&& (2147483647 : Int32))))])) _
    refine XS.i2dS X14.here hx rfl (hb hby at_148) rfl ht148 ?_
    show Steps p.tables e below (T14.setTop (mkF m 149 #[.val (.long q1), .second, .val (.int p2), .val (.int p3), .val (.long q4), .second, .val (.int p5), .val (.double t6), .second, .val (.double t18), .second, .val (.int (own_max (1 : Int32) (p2 &&& (2147483647 : Int32)))), .val (.int (p3 &&& (2147483647 : Int32))), .val (.int (own_max (1 : Int32) ((q4.toInt32) &&& (2147483647 : Int32)))), .val (.int ((((q4.toUInt64 >>> ((32 : Int32) &&& 0x3f).toInt64.toUInt64).toInt64).toInt32) &&& (2147483647 : Int32))), .val (.int (p5 &&& (2147483647 : Int32))), .val (.ref b8), .val (.double t185), .second, .val (.double t143), .second, .unset, .unset, .unset, .unset] [(.double t148)])) _
    refine X14.ldc2DoubleC hx hown (mvT hZ (hw _ (List.mem_of_getElem? (i := 41) rfl))) (g := (mkF m 149 #[.val (.long q1), .second, .val (.int p2), .val (.int p3), .val (.long q4), .second, .val (.int p5), .val (.double t6), .second, .val (.double t18), .second, .val (.int (own_max (1 : Int32) (p2 &&& (2147483647 : Int32)))), .val (.int (p3 &&& (2147483647 : Int32))), .val (.int (own_max (1 : Int32) ((q4.toInt32) &&& (2147483647 : Int32)))), .val (.int ((((q4.toUInt64 >>> ((32 : Int32) &&& 0x3f).toInt64.toUInt64).toInt64).toInt32) &&& (2147483647 : Int32))), .val (.int (p5 &&& (2147483647 : Int32))), .val (.ref b8), .val (.double t185), .second, .val (.double t143), .second, .unset, .unset, .unset, .unset] [(.double t148)])) rfl (hb hby at_149) _ ?_
    show Steps p.tables e below (T14.setTop (mkF m 152 #[.val (.long q1), .second, .val (.int p2), .val (.int p3), .val (.long q4), .second, .val (.int p5), .val (.double t6), .second, .val (.double t18), .second, .val (.int (own_max (1 : Int32) (p2 &&& (2147483647 : Int32)))), .val (.int (p3 &&& (2147483647 : Int32))), .val (.int (own_max (1 : Int32) ((q4.toInt32) &&& (2147483647 : Int32)))), .val (.int ((((q4.toUInt64 >>> ((32 : Int32) &&& 0x3f).toInt64.toUInt64).toInt64).toInt32) &&& (2147483647 : Int32))), .val (.int (p5 &&& (2147483647 : Int32))), .val (.ref b8), .val (.double t185), .second, .val (.double t143), .second, .unset, .unset, .unset, .unset] [(.double (4608083138725491507 : UInt64)), (.double t148)])) _
    refine X14.ldc2DoubleC hx hown (mvT hZ (hw _ (List.mem_of_getElem? (i := 42) rfl))) (g := (mkF m 152 #[.val (.long q1), .second, .val (.int p2), .val (.int p3), .val (.long q4), .second, .val (.int p5), .val (.double t6), .second, .val (.double t18), .second, .val (.int (own_max (1 : Int32) (p2 &&& (2147483647 : Int32)))), .val (.int (p3 &&& (2147483647 : Int32))), .val (.int (own_max (1 : Int32) ((q4.toInt32) &&& (2147483647 : Int32)))), .val (.int ((((q4.toUInt64 >>> ((32 : Int32) &&& 0x3f).toInt64.toUInt64).toInt64).toInt32) &&& (2147483647 : Int32))), .val (.int (p5 &&& (2147483647 : Int32))), .val (.ref b8), .val (.double t185), .second, .val (.double t143), .second, .unset, .unset, .unset, .unset] [(.double (4608083138725491507 : UInt64)), (.double t148)])) rfl (hb hby at_152) _ ?_
    show Steps p.tables e below (T14.setTop (mkF m 155 #[.val (.long q1), .second, .val (.int p2), .val (.int p3), .val (.long q4), .second, .val (.int p5), .val (.double t6), .second, .val (.double t18), .second, .val (.int (own_max (1 : Int32) (p2 &&& (2147483647 : Int32)))), .val (.int (p3 &&& (2147483647 : Int32))), .val (.int (own_max (1 : Int32) ((q4.toInt32) &&& (2147483647 : Int32)))), .val (.int ((((q4.toUInt64 >>> ((32 : Int32) &&& 0x3f).toInt64.toUInt64).toInt64).toInt32) &&& (2147483647 : Int32))), .val (.int (p5 &&& (2147483647 : Int32))), .val (.ref b8), .val (.double t185), .second, .val (.double t143), .second, .unset, .unset, .unset, .unset] [(.double (4598175219545276416 : UInt64)), (.double (4608083138725491507 : UInt64)), (.double t148)])) _
    refine X14.ldc2DoubleC hx hown (mvT hZ (hw _ (List.mem_of_getElem? (i := 43) rfl))) (g := (mkF m 155 #[.val (.long q1), .second, .val (.int p2), .val (.int p3), .val (.long q4), .second, .val (.int p5), .val (.double t6), .second, .val (.double t18), .second, .val (.int (own_max (1 : Int32) (p2 &&& (2147483647 : Int32)))), .val (.int (p3 &&& (2147483647 : Int32))), .val (.int (own_max (1 : Int32) ((q4.toInt32) &&& (2147483647 : Int32)))), .val (.int ((((q4.toUInt64 >>> ((32 : Int32) &&& 0x3f).toInt64.toUInt64).toInt64).toInt32) &&& (2147483647 : Int32))), .val (.int (p5 &&& (2147483647 : Int32))), .val (.ref b8), .val (.double t185), .second, .val (.double t143), .second, .unset, .unset, .unset, .unset] [(.double (4598175219545276416 : UInt64)), (.double (4608083138725491507 : UInt64)), (.double t148)])) rfl (hb hby at_155) _ ?_
    show Steps p.tables e below (T14.setTop (mkF m 158 #[.val (.long q1), .second, .val (.int p2), .val (.int p3), .val (.long q4), .second, .val (.int p5), .val (.double t6), .second, .val (.double t18), .second, .val (.int (own_max (1 : Int32) (p2 &&& (2147483647 : Int32)))), .val (.int (p3 &&& (2147483647 : Int32))), .val (.int (own_max (1 : Int32) ((q4.toInt32) &&& (2147483647 : Int32)))), .val (.int ((((q4.toUInt64 >>> ((32 : Int32) &&& 0x3f).toInt64.toUInt64).toInt64).toInt32) &&& (2147483647 : Int32))), .val (.int (p5 &&& (2147483647 : Int32))), .val (.ref b8), .val (.double t185), .second, .val (.double t143), .second, .unset, .unset, .unset, .unset] [(.double (4604930618986332160 : UInt64)), (.double (4598175219545276416 : UInt64)), (.double (4608083138725491507 : UInt64)), (.double t148)])) _
    refine XS.iload X14.here hx rfl (hb hby at_158) rfl ?_
    show Steps p.tables e below (T14.setTop (mkF m 160 #[.val (.long q1), .second, .val (.int p2), .val (.int p3), .val (.long q4), .second, .val (.int p5), .val (.double t6), .second, .val (.double t18), .second, .val (.int (own_max (1 : Int32) (p2 &&& (2147483647 : Int32)))), .val (.int (p3 &&& (2147483647 : Int32))), .val (.int (own_max (1 : Int32) ((q4.toInt32) &&& (2147483647 : Int32)))), .val (.int ((((q4.toUInt64 >>> ((32 : Int32) &&& 0x3f).toInt64.toUInt64).toInt64).toInt32) &&& (2147483647 : Int32))), .val (.int (p5 &&& (2147483647 : Int32))), .val (.ref b8), .val (.double t185), .second, .val (.double t143), .second, .unset, .unset, .unset, .unset] [(.int (p3 &&& (2147483647 : Int32))), (.double (4604930618986332160 : UInt64)), (.double (4598175219545276416 : UInt64)), (.double (4608083138725491507 : UInt64)), (.double t148)])) _
    refine XS.i2dS X14.here hx rfl (hb hby at_160) rfl ht160 ?_
    show Steps p.tables e below (T14.setTop (mkF m 161 #[.val (.long q1), .second, .val (.int p2), .val (.int p3), .val (.long q4), .second, .val (.int p5), .val (.double t6), .second, .val (.double t18), .second, .val (.int (own_max (1 : Int32) (p2 &&& (2147483647 : Int32)))), .val (.int (p3 &&& (2147483647 : Int32))), .val (.int (own_max (1 : Int32) ((q4.toInt32) &&& (2147483647 : Int32)))), .val (.int ((((q4.toUInt64 >>> ((32 : Int32) &&& 0x3f).toInt64.toUInt64).toInt64).toInt32) &&& (2147483647 : Int32))), .val (.int (p5 &&& (2147483647 : Int32))), .val (.ref b8), .val (.double t185), .second, .val (.double t143), .second, .unset, .unset, .unset, .unset] [(.double t160), (.double (4604930618986332160 : UInt64)), (.double (4598175219545276416 : UInt64)), (.double (4608083138725491507 : UInt64)), (.double t148)])) _
    refine XS.dmulS X14.here hx rfl (hb hby at_161) rfl hn161 ht161 ?_
    show Steps p.tables e below (T14.setTop (mkF m 162 #[.val (.long q1), .second, .val (.int p2), .val (.int p3), .val (.long q4), .second, .val (.int p5), .val (.double t6), .second, .val (.double t18), .second, .val (.int (own_max (1 : Int32) (p2 &&& (2147483647 : Int32)))), .val (.int (p3 &&& (2147483647 : Int32))), .val (.int (own_max (1 : Int32) ((q4.toInt32) &&& (2147483647 : Int32)))), .val (.int ((((q4.toUInt64 >>> ((32 : Int32) &&& 0x3f).toInt64.toUInt64).toInt64).toInt32) &&& (2147483647 : Int32))), .val (.int (p5 &&& (2147483647 : Int32))), .val (.ref b8), .val (.double t185), .second, .val (.double t143), .second, .unset, .unset, .unset, .unset] [(.double t161), (.double (4598175219545276416 : UInt64)), (.double (4608083138725491507 : UInt64)), (.double t148)])) _
    refine XS.dload X14.here hx rfl (hb hby at_162) rfl ?_
    show Steps p.tables e below (T14.setTop (mkF m 164 #[.val (.long q1), .second, .val (.int p2), .val (.int p3), .val (.long q4), .second, .val (.int p5), .val (.double t6), .second, .val (.double t18), .second, .val (.int (own_max (1 : Int32) (p2 &&& (2147483647 : Int32)))), .val (.int (p3 &&& (2147483647 : Int32))), .val (.int (own_max (1 : Int32) ((q4.toInt32) &&& (2147483647 : Int32)))), .val (.int ((((q4.toUInt64 >>> ((32 : Int32) &&& 0x3f).toInt64.toUInt64).toInt64).toInt32) &&& (2147483647 : Int32))), .val (.int (p5 &&& (2147483647 : Int32))), .val (.ref b8), .val (.double t185), .second, .val (.double t143), .second, .unset, .unset, .unset, .unset] [(.double t143), (.double t161), (.double (4598175219545276416 : UInt64)), (.double (4608083138725491507 : UInt64)), (.double t148)])) _
    refine XS.ddivS X14.here hx rfl (hb hby at_164) rfl hn164 ht164 ?_
    show Steps p.tables e below (T14.setTop (mkF m 165 #[.val (.long q1), .second, .val (.int p2), .val (.int p3), .val (.long q4), .second, .val (.int p5), .val (.double t6), .second, .val (.double t18), .second, .val (.int (own_max (1 : Int32) (p2 &&& (2147483647 : Int32)))), .val (.int (p3 &&& (2147483647 : Int32))), .val (.int (own_max (1 : Int32) ((q4.toInt32) &&& (2147483647 : Int32)))), .val (.int ((((q4.toUInt64 >>> ((32 : Int32) &&& 0x3f).toInt64.toUInt64).toInt64).toInt32) &&& (2147483647 : Int32))), .val (.int (p5 &&& (2147483647 : Int32))), .val (.ref b8), .val (.double t185), .second, .val (.double t143), .second, .unset, .unset, .unset, .unset] [(.double t164), (.double (4598175219545276416 : UInt64)), (.double (4608083138725491507 : UInt64)), (.double t148)])) _
    refine XS.daddS X14.here hx rfl (hb hby at_165) rfl hn165 ht165 ?_
    show Steps p.tables e below (T14.setTop (mkF m 166 #[.val (.long q1), .second, .val (.int p2), .val (.int p3), .val (.long q4), .second, .val (.int p5), .val (.double t6), .second, .val (.double t18), .second, .val (.int (own_max (1 : Int32) (p2 &&& (2147483647 : Int32)))), .val (.int (p3 &&& (2147483647 : Int32))), .val (.int (own_max (1 : Int32) ((q4.toInt32) &&& (2147483647 : Int32)))), .val (.int ((((q4.toUInt64 >>> ((32 : Int32) &&& 0x3f).toInt64.toUInt64).toInt64).toInt32) &&& (2147483647 : Int32))), .val (.int (p5 &&& (2147483647 : Int32))), .val (.ref b8), .val (.double t185), .second, .val (.double t143), .second, .unset, .unset, .unset, .unset] [(.double t165), (.double (4608083138725491507 : UInt64)), (.double t148)])) _
    refine XS.dmulS X14.here hx rfl (hb hby at_166) rfl hn166 ht166 ?_
    show Steps p.tables e below (T14.setTop (mkF m 167 #[.val (.long q1), .second, .val (.int p2), .val (.int p3), .val (.long q4), .second, .val (.int p5), .val (.double t6), .second, .val (.double t18), .second, .val (.int (own_max (1 : Int32) (p2 &&& (2147483647 : Int32)))), .val (.int (p3 &&& (2147483647 : Int32))), .val (.int (own_max (1 : Int32) ((q4.toInt32) &&& (2147483647 : Int32)))), .val (.int ((((q4.toUInt64 >>> ((32 : Int32) &&& 0x3f).toInt64.toUInt64).toInt64).toInt32) &&& (2147483647 : Int32))), .val (.int (p5 &&& (2147483647 : Int32))), .val (.ref b8), .val (.double t185), .second, .val (.double t143), .second, .unset, .unset, .unset, .unset] [(.double t166), (.double t148)])) _
    refine XS.daddS X14.here hx rfl (hb hby at_167) rfl hn167 ht167 ?_
    show Steps p.tables e below (T14.setTop (mkF m 168 #[.val (.long q1), .second, .val (.int p2), .val (.int p3), .val (.long q4), .second, .val (.int p5), .val (.double t6), .second, .val (.double t18), .second, .val (.int (own_max (1 : Int32) (p2 &&& (2147483647 : Int32)))), .val (.int (p3 &&& (2147483647 : Int32))), .val (.int (own_max (1 : Int32) ((q4.toInt32) &&& (2147483647 : Int32)))), .val (.int ((((q4.toUInt64 >>> ((32 : Int32) &&& 0x3f).toInt64.toUInt64).toInt64).toInt32) &&& (2147483647 : Int32))), .val (.int (p5 &&& (2147483647 : Int32))), .val (.ref b8), .val (.double t185), .second, .val (.double t143), .second, .unset, .unset, .unset, .unset] [(.double t167)])) _
    refine XS.dstore X14.here hx rfl (hb hby at_168) rfl (l' := #[.val (.long q1), .second, .val (.int p2), .val (.int p3), .val (.long q4), .second, .val (.int p5), .val (.double t6), .second, .val (.double t18), .second, .val (.int (own_max (1 : Int32) (p2 &&& (2147483647 : Int32)))), .val (.int (p3 &&& (2147483647 : Int32))), .val (.int (own_max (1 : Int32) ((q4.toInt32) &&& (2147483647 : Int32)))), .val (.int ((((q4.toUInt64 >>> ((32 : Int32) &&& 0x3f).toInt64.toUInt64).toInt64).toInt32) &&& (2147483647 : Int32))), .val (.int (p5 &&& (2147483647 : Int32))), .val (.ref b8), .val (.double t185), .second, .val (.double t143), .second, .val (.double t167), .second, .unset, .unset]) rfl ?_
    show Steps p.tables e below (T14.setTop (mkF m 170 #[.val (.long q1), .second, .val (.int p2), .val (.int p3), .val (.long q4), .second, .val (.int p5), .val (.double t6), .second, .val (.double t18), .second, .val (.int (own_max (1 : Int32) (p2 &&& (2147483647 : Int32)))), .val (.int (p3 &&& (2147483647 : Int32))), .val (.int (own_max (1 : Int32) ((q4.toInt32) &&& (2147483647 : Int32)))), .val (.int ((((q4.toUInt64 >>> ((32 : Int32) &&& 0x3f).toInt64.toUInt64).toInt64).toInt32) &&& (2147483647 : Int32))), .val (.int (p5 &&& (2147483647 : Int32))), .val (.ref b8), .val (.double t185), .second, .val (.double t143), .second, .val (.double t167), .second, .unset, .unset] [])) _
    refine XS.dload X14.here hx rfl (hb hby at_170) rfl ?_
    show Steps p.tables e below (T14.setTop (mkF m 172 #[.val (.long q1), .second, .val (.int p2), .val (.int p3), .val (.long q4), .second, .val (.int p5), .val (.double t6), .second, .val (.double t18), .second, .val (.int (own_max (1 : Int32) (p2 &&& (2147483647 : Int32)))), .val (.int (p3 &&& (2147483647 : Int32))), .val (.int (own_max (1 : Int32) ((q4.toInt32) &&& (2147483647 : Int32)))), .val (.int ((((q4.toUInt64 >>> ((32 : Int32) &&& 0x3f).toInt64.toUInt64).toInt64).toInt32) &&& (2147483647 : Int32))), .val (.int (p5 &&& (2147483647 : Int32))), .val (.ref b8), .val (.double t185), .second, .val (.double t143), .second, .val (.double t167), .second, .unset, .unset] [(.double t6)])) _
    refine XS.dload X14.here hx rfl (hb hby at_172) rfl ?_
    show Steps p.tables e below (T14.setTop (mkF m 174 #[.val (.long q1), .second, .val (.int p2), .val (.int p3), .val (.long q4), .second, .val (.int p5), .val (.double t6), .second, .val (.double t18), .second, .val (.int (own_max (1 : Int32) (p2 &&& (2147483647 : Int32)))), .val (.int (p3 &&& (2147483647 : Int32))), .val (.int (own_max (1 : Int32) ((q4.toInt32) &&& (2147483647 : Int32)))), .val (.int ((((q4.toUInt64 >>> ((32 : Int32) &&& 0x3f).toInt64.toUInt64).toInt64).toInt32) &&& (2147483647 : Int32))), .val (.int (p5 &&& (2147483647 : Int32))), .val (.ref b8), .val (.double t185), .second, .val (.double t143), .second, .val (.double t167), .second, .unset, .unset] [(.double t18), (.double t6)])) _
    refine XS.dmulS X14.here hx rfl (hb hby at_174) rfl hn174 ht174 ?_
    show Steps p.tables e below (T14.setTop (mkF m 175 #[.val (.long q1), .second, .val (.int p2), .val (.int p3), .val (.long q4), .second, .val (.int p5), .val (.double t6), .second, .val (.double t18), .second, .val (.int (own_max (1 : Int32) (p2 &&& (2147483647 : Int32)))), .val (.int (p3 &&& (2147483647 : Int32))), .val (.int (own_max (1 : Int32) ((q4.toInt32) &&& (2147483647 : Int32)))), .val (.int ((((q4.toUInt64 >>> ((32 : Int32) &&& 0x3f).toInt64.toUInt64).toInt64).toInt32) &&& (2147483647 : Int32))), .val (.int (p5 &&& (2147483647 : Int32))), .val (.ref b8), .val (.double t185), .second, .val (.double t143), .second, .val (.double t167), .second, .unset, .unset] [(.double t174)])) _
    refine XS.iload X14.here hx rfl (hb hby at_175) rfl ?_
    show Steps p.tables e below (T14.setTop (mkF m 177 #[.val (.long q1), .second, .val (.int p2), .val (.int p3), .val (.long q4), .second, .val (.int p5), .val (.double t6), .second, .val (.double t18), .second, .val (.int (own_max (1 : Int32) (p2 &&& (2147483647 : Int32)))), .val (.int (p3 &&& (2147483647 : Int32))), .val (.int (own_max (1 : Int32) ((q4.toInt32) &&& (2147483647 : Int32)))), .val (.int ((((q4.toUInt64 >>> ((32 : Int32) &&& 0x3f).toInt64.toUInt64).toInt64).toInt32) &&& (2147483647 : Int32))), .val (.int (p5 &&& (2147483647 : Int32))), .val (.ref b8), .val (.double t185), .second, .val (.double t143), .second, .val (.double t167), .second, .unset, .unset] [(.int (own_max (1 : Int32) (p2 &&& (2147483647 : Int32)))), (.double t174)])) _
    refine XS.i2dS X14.here hx rfl (hb hby at_177) rfl ht177 ?_
    show Steps p.tables e below (T14.setTop (mkF m 178 #[.val (.long q1), .second, .val (.int p2), .val (.int p3), .val (.long q4), .second, .val (.int p5), .val (.double t6), .second, .val (.double t18), .second, .val (.int (own_max (1 : Int32) (p2 &&& (2147483647 : Int32)))), .val (.int (p3 &&& (2147483647 : Int32))), .val (.int (own_max (1 : Int32) ((q4.toInt32) &&& (2147483647 : Int32)))), .val (.int ((((q4.toUInt64 >>> ((32 : Int32) &&& 0x3f).toInt64.toUInt64).toInt64).toInt32) &&& (2147483647 : Int32))), .val (.int (p5 &&& (2147483647 : Int32))), .val (.ref b8), .val (.double t185), .second, .val (.double t143), .second, .val (.double t167), .second, .unset, .unset] [(.double t177), (.double t174)])) _
    refine XS.dmulS X14.here hx rfl (hb hby at_178) rfl hn178 ht178 ?_
    show Steps p.tables e below (T14.setTop (mkF m 179 #[.val (.long q1), .second, .val (.int p2), .val (.int p3), .val (.long q4), .second, .val (.int p5), .val (.double t6), .second, .val (.double t18), .second, .val (.int (own_max (1 : Int32) (p2 &&& (2147483647 : Int32)))), .val (.int (p3 &&& (2147483647 : Int32))), .val (.int (own_max (1 : Int32) ((q4.toInt32) &&& (2147483647 : Int32)))), .val (.int ((((q4.toUInt64 >>> ((32 : Int32) &&& 0x3f).toInt64.toUInt64).toInt64).toInt32) &&& (2147483647 : Int32))), .val (.int (p5 &&& (2147483647 : Int32))), .val (.ref b8), .val (.double t185), .second, .val (.double t143), .second, .val (.double t167), .second, .unset, .unset] [(.double t178)])) _
    refine X14.ldc2DoubleC hx hown (mvT hZ (hw _ (List.mem_of_getElem? (i := 44) rfl))) (g := (mkF m 179 #[.val (.long q1), .second, .val (.int p2), .val (.int p3), .val (.long q4), .second, .val (.int p5), .val (.double t6), .second, .val (.double t18), .second, .val (.int (own_max (1 : Int32) (p2 &&& (2147483647 : Int32)))), .val (.int (p3 &&& (2147483647 : Int32))), .val (.int (own_max (1 : Int32) ((q4.toInt32) &&& (2147483647 : Int32)))), .val (.int ((((q4.toUInt64 >>> ((32 : Int32) &&& 0x3f).toInt64.toUInt64).toInt64).toInt32) &&& (2147483647 : Int32))), .val (.int (p5 &&& (2147483647 : Int32))), .val (.ref b8), .val (.double t185), .second, .val (.double t143), .second, .val (.double t167), .second, .unset, .unset] [(.double t178)])) rfl (hb hby at_179) _ ?_
    show Steps p.tables e below (T14.setTop (mkF m 182 #[.val (.long q1), .second, .val (.int p2), .val (.int p3), .val (.long q4), .second, .val (.int p5), .val (.double t6), .second, .val (.double t18), .second, .val (.int (own_max (1 : Int32) (p2 &&& (2147483647 : Int32)))), .val (.int (p3 &&& (2147483647 : Int32))), .val (.int (own_max (1 : Int32) ((q4.toInt32) &&& (2147483647 : Int32)))), .val (.int ((((q4.toUInt64 >>> ((32 : Int32) &&& 0x3f).toInt64.toUInt64).toInt64).toInt32) &&& (2147483647 : Int32))), .val (.int (p5 &&& (2147483647 : Int32))), .val (.ref b8), .val (.double t185), .second, .val (.double t143), .second, .val (.double t167), .second, .unset, .unset] [(.double (4612136378390124954 : UInt64)), (.double t178)])) _
    refine XS.dmulS X14.here hx rfl (hb hby at_182) rfl hn182 ht182 ?_
    show Steps p.tables e below (T14.setTop (mkF m 183 #[.val (.long q1), .second, .val (.int p2), .val (.int p3), .val (.long q4), .second, .val (.int p5), .val (.double t6), .second, .val (.double t18), .second, .val (.int (own_max (1 : Int32) (p2 &&& (2147483647 : Int32)))), .val (.int (p3 &&& (2147483647 : Int32))), .val (.int (own_max (1 : Int32) ((q4.toInt32) &&& (2147483647 : Int32)))), .val (.int ((((q4.toUInt64 >>> ((32 : Int32) &&& 0x3f).toInt64.toUInt64).toInt64).toInt32) &&& (2147483647 : Int32))), .val (.int (p5 &&& (2147483647 : Int32))), .val (.ref b8), .val (.double t185), .second, .val (.double t143), .second, .val (.double t167), .second, .unset, .unset] [(.double t182)])) _
    refine XS.dload X14.here hx rfl (hb hby at_183) rfl ?_
    show Steps p.tables e below (T14.setTop (mkF m 185 #[.val (.long q1), .second, .val (.int p2), .val (.int p3), .val (.long q4), .second, .val (.int p5), .val (.double t6), .second, .val (.double t18), .second, .val (.int (own_max (1 : Int32) (p2 &&& (2147483647 : Int32)))), .val (.int (p3 &&& (2147483647 : Int32))), .val (.int (own_max (1 : Int32) ((q4.toInt32) &&& (2147483647 : Int32)))), .val (.int ((((q4.toUInt64 >>> ((32 : Int32) &&& 0x3f).toInt64.toUInt64).toInt64).toInt32) &&& (2147483647 : Int32))), .val (.int (p5 &&& (2147483647 : Int32))), .val (.ref b8), .val (.double t185), .second, .val (.double t143), .second, .val (.double t167), .second, .unset, .unset] [(.double t167), (.double t182)])) _
    refine XS.ddivS X14.here hx rfl (hb hby at_185) rfl hn185 ht185 ?_
    show Steps p.tables e below (T14.setTop (mkF m 186 #[.val (.long q1), .second, .val (.int p2), .val (.int p3), .val (.long q4), .second, .val (.int p5), .val (.double t6), .second, .val (.double t18), .second, .val (.int (own_max (1 : Int32) (p2 &&& (2147483647 : Int32)))), .val (.int (p3 &&& (2147483647 : Int32))), .val (.int (own_max (1 : Int32) ((q4.toInt32) &&& (2147483647 : Int32)))), .val (.int ((((q4.toUInt64 >>> ((32 : Int32) &&& 0x3f).toInt64.toUInt64).toInt64).toInt32) &&& (2147483647 : Int32))), .val (.int (p5 &&& (2147483647 : Int32))), .val (.ref b8), .val (.double t185), .second, .val (.double t143), .second, .val (.double t167), .second, .unset, .unset] [(.double t185)])) _
    refine XS.dstore X14.here hx rfl (hb hby at_186) rfl (l' := #[.val (.long q1), .second, .val (.int p2), .val (.int p3), .val (.long q4), .second, .val (.int p5), .val (.double t6), .second, .val (.double t18), .second, .val (.int (own_max (1 : Int32) (p2 &&& (2147483647 : Int32)))), .val (.int (p3 &&& (2147483647 : Int32))), .val (.int (own_max (1 : Int32) ((q4.toInt32) &&& (2147483647 : Int32)))), .val (.int ((((q4.toUInt64 >>> ((32 : Int32) &&& 0x3f).toInt64.toUInt64).toInt64).toInt32) &&& (2147483647 : Int32))), .val (.int (p5 &&& (2147483647 : Int32))), .val (.ref b8), .val (.double t185), .second, .val (.double t143), .second, .val (.double t167), .second, .val (.double t185), .second]) rfl ?_
    show Steps p.tables e below (T14.setTop (mkF m 188 #[.val (.long q1), .second, .val (.int p2), .val (.int p3), .val (.long q4), .second, .val (.int p5), .val (.double t6), .second, .val (.double t18), .second, .val (.int (own_max (1 : Int32) (p2 &&& (2147483647 : Int32)))), .val (.int (p3 &&& (2147483647 : Int32))), .val (.int (own_max (1 : Int32) ((q4.toInt32) &&& (2147483647 : Int32)))), .val (.int ((((q4.toUInt64 >>> ((32 : Int32) &&& 0x3f).toInt64.toUInt64).toInt64).toInt32) &&& (2147483647 : Int32))), .val (.int (p5 &&& (2147483647 : Int32))), .val (.ref b8), .val (.double t185), .second, .val (.double t143), .second, .val (.double t167), .second, .val (.double t185), .second] [])) _
    refine XS.dload X14.here hx rfl (hb hby at_188) rfl ?_
    show Steps p.tables e below (T14.setTop (mkF m 190 #[.val (.long q1), .second, .val (.int p2), .val (.int p3), .val (.long q4), .second, .val (.int p5), .val (.double t6), .second, .val (.double t18), .second, .val (.int (own_max (1 : Int32) (p2 &&& (2147483647 : Int32)))), .val (.int (p3 &&& (2147483647 : Int32))), .val (.int (own_max (1 : Int32) ((q4.toInt32) &&& (2147483647 : Int32)))), .val (.int ((((q4.toUInt64 >>> ((32 : Int32) &&& 0x3f).toInt64.toUInt64).toInt64).toInt32) &&& (2147483647 : Int32))), .val (.int (p5 &&& (2147483647 : Int32))), .val (.ref b8), .val (.double t185), .second, .val (.double t143), .second, .val (.double t167), .second, .val (.double t185), .second] [(.double t185)])) _
    refine XS.dload X14.here hx rfl (hb hby at_190) rfl ?_
    show Steps p.tables e below (T14.setTop (mkF m 192 #[.val (.long q1), .second, .val (.int p2), .val (.int p3), .val (.long q4), .second, .val (.int p5), .val (.double t6), .second, .val (.double t18), .second, .val (.int (own_max (1 : Int32) (p2 &&& (2147483647 : Int32)))), .val (.int (p3 &&& (2147483647 : Int32))), .val (.int (own_max (1 : Int32) ((q4.toInt32) &&& (2147483647 : Int32)))), .val (.int ((((q4.toUInt64 >>> ((32 : Int32) &&& 0x3f).toInt64.toUInt64).toInt64).toInt32) &&& (2147483647 : Int32))), .val (.int (p5 &&& (2147483647 : Int32))), .val (.ref b8), .val (.double t185), .second, .val (.double t143), .second, .val (.double t167), .second, .val (.double t185), .second] [(.double t185), (.double t185)])) _
    refine XS.dcmpS X14.here hx rfl (hb hby at_192) rfl ht192 ?_
    show Steps p.tables e below (T14.setTop (mkF m 193 #[.val (.long q1), .second, .val (.int p2), .val (.int p3), .val (.long q4), .second, .val (.int p5), .val (.double t6), .second, .val (.double t18), .second, .val (.int (own_max (1 : Int32) (p2 &&& (2147483647 : Int32)))), .val (.int (p3 &&& (2147483647 : Int32))), .val (.int (own_max (1 : Int32) ((q4.toInt32) &&& (2147483647 : Int32)))), .val (.int ((((q4.toUInt64 >>> ((32 : Int32) &&& 0x3f).toInt64.toUInt64).toInt64).toInt32) &&& (2147483647 : Int32))), .val (.int (p5 &&& (2147483647 : Int32))), .val (.ref b8), .val (.double t185), .second, .val (.double t143), .second, .val (.double t167), .second, .val (.double t185), .second] [(.int t192)])) _
    refine XS.ifNo X14.here hx rfl (hb hby at_193) rfl ((if0 _ _).trans (teq hc193).2) ?_
    show Steps p.tables e below (T14.setTop (mkF m 196 #[.val (.long q1), .second, .val (.int p2), .val (.int p3), .val (.long q4), .second, .val (.int p5), .val (.double t6), .second, .val (.double t18), .second, .val (.int (own_max (1 : Int32) (p2 &&& (2147483647 : Int32)))), .val (.int (p3 &&& (2147483647 : Int32))), .val (.int (own_max (1 : Int32) ((q4.toInt32) &&& (2147483647 : Int32)))), .val (.int ((((q4.toUInt64 >>> ((32 : Int32) &&& 0x3f).toInt64.toUInt64).toInt64).toInt32) &&& (2147483647 : Int32))), .val (.int (p5 &&& (2147483647 : Int32))), .val (.ref b8), .val (.double t185), .second, .val (.double t143), .second, .val (.double t167), .second, .val (.double t185), .second] [])) _
    refine XS.iconst X14.here hx rfl (hb hby at_196) ?_
    show Steps p.tables e below (T14.setTop (mkF m 197 #[.val (.long q1), .second, .val (.int p2), .val (.int p3), .val (.long q4), .second, .val (.int p5), .val (.double t6), .second, .val (.double t18), .second, .val (.int (own_max (1 : Int32) (p2 &&& (2147483647 : Int32)))), .val (.int (p3 &&& (2147483647 : Int32))), .val (.int (own_max (1 : Int32) ((q4.toInt32) &&& (2147483647 : Int32)))), .val (.int ((((q4.toUInt64 >>> ((32 : Int32) &&& 0x3f).toInt64.toUInt64).toInt64).toInt32) &&& (2147483647 : Int32))), .val (.int (p5 &&& (2147483647 : Int32))), .val (.ref b8), .val (.double t185), .second, .val (.double t143), .second, .val (.double t167), .second, .val (.double t185), .second] [(.int (1 : Int32))])) _
    refine XS.goto X14.here hx rfl (pc0 := 197) (pc' := 201) rfl (hb hby at_197) (by decide) (by decide) ?_
    show Steps p.tables e below (T14.setTop (mkF m 201 #[.val (.long q1), .second, .val (.int p2), .val (.int p3), .val (.long q4), .second, .val (.int p5), .val (.double t6), .second, .val (.double t18), .second, .val (.int (own_max (1 : Int32) (p2 &&& (2147483647 : Int32)))), .val (.int (p3 &&& (2147483647 : Int32))), .val (.int (own_max (1 : Int32) ((q4.toInt32) &&& (2147483647 : Int32)))), .val (.int ((((q4.toUInt64 >>> ((32 : Int32) &&& 0x3f).toInt64.toUInt64).toInt64).toInt32) &&& (2147483647 : Int32))), .val (.int (p5 &&& (2147483647 : Int32))), .val (.ref b8), .val (.double t185), .second, .val (.double t143), .second, .val (.double t167), .second, .val (.double t185), .second] [(.int (1 : Int32))])) _
    exact retN X14 hx (t := .boolean) Bd.returns (by simp) (hb hby at_201) hr
  · show Q0 n0 _ _
    exact ⟨rfl, N14⟩
section OwnFp
open Jvm.Free.Fl
def own_Pl (x : UInt64) : Prop := ∃ c q, FP.Core.val64 x = .fin false c q
theorem own_pl_of {x : UInt64} (hf : Fin64 x) {A B : Nat} {e : Int} (h : FP.Core.val64 x = FP.Core.roundRatio FP.Core.b64 false A B e) : own_Pl x := by
  obtain ⟨s, c, q, hq⟩ := fin64_core.mp hf
  have k := FP.Core.sgn_roundRatio FP.Core.b64 false A B e
  rw [← h, hq] at k
  have k' : s = false := k
  subst k'
  exact ⟨c, q, hq⟩
theorem own_pl_mul {a b : UInt64} (ha : own_Pl a) (hb : own_Pl b) (hf : Fin64 (FP.dmul a b)) : own_Pl (FP.dmul a b) := by
  obtain ⟨c, q, h1⟩ := ha
  obtain ⟨d, r, h2⟩ := hb
  refine own_pl_of hf (A := c * d) (B := 1) (e := q + r) ?_
  rw [FP.Core.val64_dmul, h1, h2]
  rfl
theorem own_pl_div {a b : UInt64} (ha : own_Pl a) (hb : own_Pl b) (hz : Nz64 b) (hf : Fin64 (FP.ddiv a b)) : own_Pl (FP.ddiv a b) := by
  obtain ⟨c, q, h1⟩ := ha
  obtain ⟨d, r, h2⟩ := hb
  have hd : d ≠ 0 := fun k => nz64_core.mp hz ⟨false, r, by rw [h2, k]⟩
  refine own_pl_of hf (A := c) (B := d) (e := q - r) ?_
  rw [FP.Core.val64_ddiv, h1, h2]
  show (if d = 0 then (if c = 0 then FP.Core.Datum.nan else .inf (false != false)) else FP.Core.roundRatio FP.Core.b64 (false != false) c d (q - r)) = _
  rw [if_neg hd]
  rfl
theorem own_sum_sign (c d : Nat) (q r e : Int) : FP.Core.sumSign false false (FP.Core.sumUnits false c q false d r e) = false := by
  have h0 : (0 : Int) ≤ FP.Core.sumUnits false c q false d r e := by
    show (0 : Int) ≤ ((FP.Core.inUnits c q e : Nat) : Int) + ((FP.Core.inUnits d r e : Nat) : Int)
    omega
  generalize FP.Core.sumUnits false c q false d r e = v at *
  show (if v = 0 then (false && false) else decide (v < 0)) = false
  split
  · rfl
  · exact decide_eq_false (by omega)
theorem own_pl_add {a b : UInt64} (ha : own_Pl a) (hb : own_Pl b) (hf : Fin64 (FP.dadd a b)) : own_Pl (FP.dadd a b) := by
  obtain ⟨c, q, h1⟩ := ha
  obtain ⟨d, r, h2⟩ := hb
  refine own_pl_of hf (A := (FP.Core.sumUnits false c q false d r (min q r)).natAbs) (B := 1) (e := min q r) ?_
  rw [FP.Core.val64_dadd, h1, h2]
  show FP.Core.roundRatio FP.Core.b64 (FP.Core.sumSign false false (FP.Core.sumUnits false c q false d r (min q r))) _ 1 _ = _
  rw [own_sum_sign]
theorem own_pl_l2d {a : Int64} (h : 0 ≤ a.toInt) : own_Pl (FP.l2d a) := by
  obtain ⟨c, q, h1⟩ := FP.Core.l2d_shape a
  rw [decide_eq_false (by omega)] at h1
  exact ⟨c, q, h1⟩
theorem own_pl_i2d {a : Int32} (h : 0 ≤ a.toInt) : own_Pl (FP.i2d a) := by
  rw [i2d_w]
  exact own_pl_l2d (by rw [Int32.toInt_toInt64]; exact h)
theorem own_norm_nz {tf : Int32} (h : 1 ≤ tf.toInt) {t : UInt64} (ht : own_Pl t) (hf : Fin64 (FP.dadd (FP.i2d tf) t)) : Nz64 (FP.dadd (FP.i2d tf) t) := by
  have z1 : FP.Core.zval FP.Core.b64 (FP.Core.val64 (FP.i2d tf)) = tf.toInt * (FP.Core.one64 : Int) := FP.Core.DInt_zval (FP.Core.i2d_int tf)
  have z2 := FP.Core.DInt_zval FP.Core.dint_one
  obtain ⟨c, q, h2⟩ := ht
  have z3 : (0 : Int) ≤ FP.Core.zval FP.Core.b64 (FP.Core.val64 t) := by
    rw [h2]
    show (0 : Int) ≤ ((FP.Core.zmag FP.Core.b64 (.fin false c q) : Nat) : Int)
    omega
  have hp := FP.Core.one64_pos
  have hm : (1 : Int) * (FP.Core.one64 : Int) ≤ tf.toInt * (FP.Core.one64 : Int) := Int.mul_le_mul_of_nonneg_right h (Int.natCast_nonneg _)
  have g := FP.Core.sum_ge FP.Core.good_b64 (x := FP.Core.val64 (FP.i2d tf)) (y := FP.Core.val64 t) (V := FP.Core.val64 4607182418800017408) (fin64_core.mp (i2d_fin tf)) ⟨_, _, _, h2⟩ (FP.Core.val64_fits _) (FP.Core.val64_fits _) (FP.Core.val64_fits _) (FP.Core.DInt_ne_nan FP.Core.dint_one) (by rw [z2]; omega)
  rw [← FP.Core.val64_dadd, z2] at g
  have g' : 1 * (FP.Core.one64 : Int) ≤ FP.Core.zval FP.Core.b64 (FP.Core.val64 (FP.dadd (FP.i2d tf) t)) := g
  refine nz64_core.mpr (FP.Core.dnot_zero ?_ (by omega))
  obtain ⟨s, c', q', h3⟩ := fin64_core.mp hf
  rw [h3]
  exact nofun
theorem own_div_ge {a b : UInt64} {Ka L K : Nat} (ha : Big64 Ka a) (hb : Mag64 L b) (hz : Nz64 b) (hKa : 1 ≤ Ka) (hL : L ≤ 2047) (hK1 : 1 ≤ K) (hK2 : K ≤ 2047) (h : K + 52 + L ≤ Ka + 1075) : K * 4503599627370496 ≤ (FP.ddiv a b).toNat % 9223372036854775808 := by
  have g := FP.Core.good_b64
  have ha1 := ha.1
  have ha2 := ha.2
  unfold Mag64 at hb
  have hxf : FP.Core.mag FP.Core.b64 a.toNat < FP.Core.infBits FP.Core.b64 := by rw [FP.Core.mag_toNat64, FP.Core.infBits_b64]; omega
  have hyf : FP.Core.mag FP.Core.b64 b.toNat < FP.Core.infBits FP.Core.b64 := by rw [FP.Core.mag_toNat64, FP.Core.infBits_b64]; omega
  have hxK : Ka * FP.Core.b64.tails ≤ FP.Core.mag FP.Core.b64 a.toNat := by rw [FP.Core.mag_toNat64, FP.Core.tails_b64]; omega
  have hyK : FP.Core.mag FP.Core.b64 b.toNat < L * FP.Core.b64.tails := by rw [FP.Core.mag_toNat64, FP.Core.tails_b64]; omega
  obtain ⟨s, c, q, x1, x2, x3⟩ := FP.Core.fin_of_mag g hxf
  obtain ⟨t, d, r, y1, y2, y3⟩ := FP.Core.fin_of_mag g hyf
  have hx1 := x2.2.1
  have hy1 := y2.2.1
  have hq := FP.Core.qmin_neg g
  have hd0 : d ≠ 0 := by
    intro k
    rw [k] at y1
    exact nz64_core.mp hz ⟨t, r, y1⟩
  have hd : FP.Core.decode FP.Core.b64 (FP.ddiv a b).toNat = FP.Core.roundRatio FP.Core.b64 (s != t) c d (q - r) := by
    show FP.Core.val64 (FP.Core.ddiv a b) = _
    rw [FP.Core.val64_ddiv]
    show FP.Core.quotient FP.Core.b64 (FP.Core.decode FP.Core.b64 a.toNat) (FP.Core.decode FP.Core.b64 b.toNat) = _
    rw [x1, y1]
    show (if d = 0 then (if c = 0 then FP.Core.Datum.nan else .inf (s != t)) else FP.Core.roundRatio FP.Core.b64 (s != t) c d (q - r)) = _
    rw [if_neg hd0]
  obtain ⟨k1, l1⟩ := FP.Core.units_lt_start hyK
  have l2 : FP.Core.b64.tails * 2 ^ (Ka - 1) ≤ FP.Core.zmag FP.Core.b64 (.fin s c q) := by
    rw [x3, ← FP.Core.unitsOf_start hKa]; exact FP.Core.unitsOf_le_iff.mpr hxK
  have e1 : FP.Core.inUnits c (q - r) (2 * FP.Core.b64.qmin - r) = FP.Core.zmag FP.Core.b64 (.fin s c q) * 2 ^ (-FP.Core.b64.qmin).toNat := by
    show c * _ = c * _ * _
    rw [Nat.mul_assoc, ← Nat.pow_add]; congr 2; omega
  have e2 : 2 ^ (FP.Core.b64.qmin - (2 * FP.Core.b64.qmin - r)).toNat * d = FP.Core.zmag FP.Core.b64 (.fin t d r) := by
    show _ = d * _
    rw [Nat.mul_comm]; congr 2; omega
  have k := FP.Core.mag_ge g hd (by omega) (e0 := 2 * FP.Core.b64.qmin - r) (m := K * FP.Core.b64.tails) (by omega) (by omega) (Nat.mul_le_mul_right _ (by rw [FP.Core.exps_b64]; exact hK2)) (by
    rw [FP.Core.unitsOf_start hK1, e1, Nat.mul_assoc, e2, y3]
    have hqm : (-FP.Core.b64.qmin).toNat = 1074 := by rw [FP.Core.qmin_b64]; rfl
    rw [hqm]
    calc FP.Core.b64.tails * 2 ^ (K - 1) * FP.Core.unitsOf FP.Core.b64 (FP.Core.mag FP.Core.b64 b.toNat) ≤ FP.Core.b64.tails * 2 ^ (K - 1) * (FP.Core.b64.tails * 2 ^ (L - 1)) := Nat.mul_le_mul_left _ (Nat.le_of_lt l1)
      _ = FP.Core.b64.tails * 2 ^ (K - 1 + 52 + (L - 1)) := by
        rw [Nat.pow_add, Nat.pow_add, show 2 ^ 52 = FP.Core.b64.tails from rfl]; ac_rfl
      _ ≤ FP.Core.b64.tails * 2 ^ (Ka - 1 + 1074) := Nat.mul_le_mul_left _ (Nat.pow_le_pow_right (by decide) (by omega))
      _ = FP.Core.b64.tails * 2 ^ (Ka - 1) * 2 ^ 1074 := by rw [Nat.pow_add, Nat.mul_assoc]
      _ ≤ FP.Core.zmag FP.Core.b64 (.fin s c q) * 2 ^ 1074 := Nat.mul_le_mul_right _ l2)
  rw [FP.Core.mag_toNat64, FP.Core.tails_b64] at k
  omega
theorem own_big_nz {K : Nat} {x : UInt64} (h : Big64 K x) (hK : 1 ≤ K) : Nz64 x := by
  rw [nz64_iff]; have := h.1; omega
/-- the average: not small, not great, not below nought -/
theorem own_average {T : Int64} (hT : 0 < T.toInt) {y : UInt64} (my : Mag64 1025 y) (by_ : Big64 1023 y) (py : own_Pl y) : Mag64 1089 (FP.ddiv (FP.l2d T) y) ∧ Big64 1021 (FP.ddiv (FP.l2d T) y) ∧ own_Pl (FP.ddiv (FP.l2d T) y) := by
  have m := (ddiv_mag (l2d_mag T) by_ (by decide) (by decide) : Mag64 (1088 + 1021 - 1023 + 3) _)
  have hz := own_big_nz by_ (by decide)
  have b := own_div_ge (K := 1021) (l2d_big (v := T) (fun k => by rw [k, Int64.toInt_zero] at hT; omega)) my hz (by decide) (by decide) (by decide) (by decide) (by decide)
  refine ⟨m, ⟨b, ?_⟩, own_pl_div (own_pl_l2d (by omega)) py hz (m.fin (by decide))⟩
  unfold Mag64 at m
  omega
theorem own_nums {t2 t6 t14 t18 av t148 t160 t161 t164 t165 t166 t167 t174 t178 t182 : UInt64} {x y tf len : Int32} (ht2 : FP.i2d x = t2) (ht6 : FP.ddiv t2 (4625196817309499392 : UInt64) = t6) (ht14 : FP.i2d y = t14) (ht18 : FP.ddiv t14 (4625196817309499392 : UInt64) = t18) (ht148 : FP.i2d tf = t148) (ht160 : FP.i2d len = t160)
    (ht161 : FP.dmul (4604930618986332160 : UInt64) t160 = t161) (ht164 : FP.ddiv t161 av = t164) (ht165 : FP.dadd (4598175219545276416 : UInt64) t164 = t165) (ht166 : FP.dmul (4608083138725491507 : UInt64) t165 = t166) (ht167 : FP.dadd t148 t166 = t167) (ht174 : FP.dmul t6 t18 = t174) (ht178 : FP.dmul t174 t148 = t178) (ht182 : FP.dmul t178 (4612136378390124954 : UInt64) = t182)
    (h1 : 1 ≤ tf.toInt) (h2 : 0 ≤ len.toInt) (mav : Mag64 1089 av) (bav : Big64 1021 av) (pav : own_Pl av) :
    NoNaN64 (FP.ddiv t2 (4625196817309499392 : UInt64)) ∧ NoNaN64 (FP.ddiv t14 (4625196817309499392 : UInt64)) ∧ NoNaN64 (FP.dmul (4604930618986332160 : UInt64) t160) ∧ NoNaN64 (FP.ddiv t161 av) ∧ NoNaN64 (FP.dadd (4598175219545276416 : UInt64) t164) ∧ NoNaN64 (FP.dmul (4608083138725491507 : UInt64) t165) ∧ NoNaN64 (FP.dadd t148 t166) ∧ NoNaN64 (FP.dmul t6 t18) ∧ NoNaN64 (FP.dmul t174 t148) ∧ NoNaN64 (FP.dmul t178 (4612136378390124954 : UInt64)) ∧ NoNaN64 (FP.ddiv t182 t167) := by
  have b16 : Big64 1027 (4625196817309499392 : UInt64) := by unfold Big64; decide
  have c75 : Mag64 1023 (4604930618986332160 : UInt64) := by unfold Mag64; decide
  have c25 : Mag64 1060 (4598175219545276416 : UInt64) := by unfold Mag64; decide
  have c12 : Mag64 1024 (4608083138725491507 : UInt64) := by unfold Mag64; decide
  have c22 : Mag64 1025 (4612136378390124954 : UInt64) := by unfold Mag64; decide
  have p75 : own_Pl (4604930618986332160 : UInt64) := ⟨_, _, (by decide +kernel : FP.Core.val64 4604930618986332160 = .fin false 6755399441055744 (-53))⟩
  have p25 : own_Pl (4598175219545276416 : UInt64) := ⟨_, _, (by decide +kernel : FP.Core.val64 4598175219545276416 = .fin false 4503599627370496 (-54))⟩
  have p12 : own_Pl (4608083138725491507 : UInt64) := ⟨_, _, (by decide +kernel : FP.Core.val64 4608083138725491507 = .fin false 5404319552844595 (-52))⟩
  have m2 : Mag64 1056 t2 := ht2 ▸ i2d_mag x
  have m14 : Mag64 1056 t14 := ht14 ▸ i2d_mag y
  have m148 : Mag64 1056 t148 := ht148 ▸ i2d_mag tf
  have m160 : Mag64 1056 t160 := ht160 ▸ i2d_mag len
  have p160 : own_Pl t160 := ht160 ▸ own_pl_i2d h2
  have m6 : Mag64 1053 t6 := ht6 ▸ (ddiv_mag m2 b16 (by decide) (by decide) : Mag64 (1056 + 1021 - 1027 + 3) _)
  have m18 : Mag64 1053 t18 := ht18 ▸ (ddiv_mag m14 b16 (by decide) (by decide) : Mag64 (1056 + 1021 - 1027 + 3) _)
  have m161 : Mag64 1057 t161 := ht161 ▸ (dmul_mag c75 m160 (by decide) (by decide) : Mag64 (1023 + 1056 - 1025 + 3) _)
  have p161 : own_Pl t161 := ht161 ▸ own_pl_mul p75 p160 (ht161 ▸ m161.fin (by decide))
  have m164 : Mag64 1060 t164 := ht164 ▸ (ddiv_mag m161 bav (by decide) (by decide) : Mag64 (1057 + 1021 - 1021 + 3) _)
  have p164 : own_Pl t164 := ht164 ▸ own_pl_div p161 pav (own_big_nz bav (by decide)) (ht164 ▸ m164.fin (by decide))
  have m165 : Mag64 1062 t165 := ht165 ▸ dadd_mag c25 m164 (by decide)
  have p165 : own_Pl t165 := ht165 ▸ own_pl_add p25 p164 (ht165 ▸ m165.fin (by decide))
  have m166 : Mag64 1064 t166 := ht166 ▸ (dmul_mag c12 m165 (by decide) (by decide) : Mag64 (1024 + 1062 - 1025 + 3) _)
  have p166 : own_Pl t166 := ht166 ▸ own_pl_mul p12 p165 (ht166 ▸ m166.fin (by decide))
  have m167 : Mag64 1066 t167 := ht167 ▸ dadd_mag (m148.mono (by decide)) m166 (by decide)
  have z167 : Nz64 t167 := by
    subst ht148
    rw [← ht167]
    exact own_norm_nz h1 p166 (ht167 ▸ m167.fin (by decide))
  have m174 : Mag64 1084 t174 := ht174 ▸ (dmul_mag m6 m18 (by decide) (by decide) : Mag64 (1053 + 1053 - 1025 + 3) _)
  have m178 : Mag64 1118 t178 := ht178 ▸ (dmul_mag m174 m148 (by decide) (by decide) : Mag64 (1084 + 1056 - 1025 + 3) _)
  have m182 : Mag64 1121 t182 := ht182 ▸ (dmul_mag m178 c22 (by decide) (by decide) : Mag64 (1118 + 1025 - 1025 + 3) _)
  refine ⟨ht6 ▸ (m6.fin (by decide)).noNaN, ht18 ▸ (m18.fin (by decide)).noNaN, ht161 ▸ (m161.fin (by decide)).noNaN, ht164 ▸ (m164.fin (by decide)).noNaN, ht165 ▸ (m165.fin (by decide)).noNaN, ht166 ▸ (m166.fin (by decide)).noNaN, ht167 ▸ (m167.fin (by decide)).noNaN, ht174 ▸ (m174.fin (by decide)).noNaN, ht178 ▸ (m178.fin (by decide)).noNaN, ht182 ▸ (m182.fin (by decide)).noNaN, ?_⟩
  exact ddiv_out (m182.fin (by decide)).noNaN (m167.fin (by decide)) z167
theorem own_max_ge (x : Int32) : 1 ≤ (own_max (1 : Int32) x).toInt := by
  unfold own_max
  split
  · rename_i h
    have := Int32.lt_iff_toInt_lt.mp h
    rw [show (1 : Int32).toInt = 1 from rfl] at this
    omega
  · decide
theorem own_and_nn (x : Int32) : 0 ≤ (x &&& (2147483647 : Int32)).toInt := (c_andS x 2147483647).2.2 (by decide)
theorem own_pos {a : Int32} (h : 1 ≤ a.toInt) : (0 : Int32) < a := by
  rw [Int32.lt_iff_toInt_lt, show (0 : Int32).toInt = 0 from rfl]; omega
theorem own_toint {a : Int32} (h : (0 : Int32) < a) : 1 ≤ a.toInt := by
  have := Int32.lt_iff_toInt_lt.mp h
  rw [show (0 : Int32).toInt = 0 from rfl] at this; omega
theorem own_tot_f {a b c : Int32} (ha : (0 : Int32) < a) (hb : (0 : Int32) < b) : own_totm (own_tot (own_tot (own_tot (0 : Int64) a) b) c) c = a.toInt64 + b.toInt64 := by
  unfold own_totm own_tot
  rw [if_pos ha, if_pos hb]
  split
  · rw [Int64.add_sub_cancel, Int64.zero_add]
  · rw [Int64.zero_add]
theorem own_tot_t {a b c : Int32} (ha : (0 : Int32) < a) (hb : ¬ (0 : Int32) < b) : own_totm (own_tot (own_tot (own_tot (0 : Int64) a) b) c) c = a.toInt64 := by
  unfold own_totm own_tot
  rw [if_pos ha, if_neg hb]
  split
  · rw [Int64.add_sub_cancel, Int64.zero_add]
  · rw [Int64.zero_add]
theorem own_rec_f {a b c : Int32} (ha : (0 : Int32) < a) (hb : (0 : Int32) < b) : own_recm (own_rec (own_rec (own_rec (0 : Int32) a) b) c) c = 2 := by
  unfold own_recm own_rec
  rw [if_pos ha, if_pos hb]
  split
  · rw [Int32.add_sub_cancel]; rfl
  · rfl
theorem own_rec_t {a b c : Int32} (ha : (0 : Int32) < a) (hb : ¬ (0 : Int32) < b) : own_recm (own_rec (own_rec (own_rec (0 : Int32) a) b) c) c = 1 := by
  unfold own_recm own_rec
  rw [if_pos ha, if_neg hb]
  split
  · rw [Int32.add_sub_cancel]; rfl
  · rfl
theorem own_sum_pos {a b : Int32} (ha : 1 ≤ a.toInt) (hb : 0 ≤ b.toInt) : 0 < (a.toInt64 + b.toInt64).toInt := by
  have h1 := Int32.toInt_lt a
  have h2 := Int32.toInt_lt b
  rw [Int64.toInt_add, Int32.toInt_toInt64, Int32.toInt_toInt64, Int.bmod_eq_of_le (by omega) (by omega)]
  omega
end OwnFp
theorem rm0 (l : Launch) (Z : State) (a0 : Array Value) (hw : ∀ d ∈ tables_1, d.before a0 Z = true) (ws : List Jvm.Cond) (q1 : Int64) (p2 : Int32) (p3 : Int32) (q4 : Int64) (p5 : Int32) (h0 : Heap) (n0 : Nat) (Z0 : n0 ≤ h0.size) :
    MetFree l x (head1 (Jvm.Cond.code x code maxLocals ret :: ws) room_1) (fun a U => a = #[(.long q1), (.int p2), (.int p3), (.long q4), (.int p5)] ∧ Z.Warmed39 U.vm ∧ U.heap = h0) (fun _ _ _ _ _ => True) (fun _ U o U' => ∃ v L, o = .returned v ∧ Q0 n0 v L ∧ FrameEnd U o U' L room_1.cells room_1.slots) := by
  have ka : 1 ≤ (own_max (1 : Int32) ((q4.toInt32) &&& (2147483647 : Int32))).toInt := own_max_ge _
  have kb : 0 ≤ ((((q4.toUInt64 >>> ((32 : Int32) &&& 0x3f).toInt64.toUInt64).toInt64).toInt32) &&& (2147483647 : Int32)).toInt := own_and_nn _
  by_cases hb : (0 : Int32) < ((((q4.toUInt64 >>> ((32 : Int32) &&& 0x3f).toInt64.toUInt64).toInt64).toInt32) &&& (2147483647 : Int32))
  · have eT := own_tot_f (c := (p5 &&& (2147483647 : Int32))) (own_pos ka) hb
    have eR := own_rec_f (c := (p5 &&& (2147483647 : Int32))) (own_pos ka) hb
    obtain ⟨t2, ht2⟩ : ∃ t, FP.i2d (q1.toInt32) = t := ⟨_, rfl⟩
    obtain ⟨t6, ht6⟩ : ∃ t, (FP.ddiv t2 (4625196817309499392 : UInt64)) = t := ⟨_, rfl⟩
    obtain ⟨t14, ht14⟩ : ∃ t, FP.i2d ((q1 >>> ((32 : Int32) &&& 0x3f).toInt64).toInt32) = t := ⟨_, rfl⟩
    obtain ⟨t18, ht18⟩ : ∃ t, (FP.ddiv t14 (4625196817309499392 : UInt64)) = t := ⟨_, rfl⟩
    obtain ⟨t131, ht131⟩ : ∃ t, FP.l2d (((own_max (1 : Int32) ((q4.toInt32) &&& (2147483647 : Int32))).toInt64) + (((((q4.toUInt64 >>> ((32 : Int32) &&& 0x3f).toInt64.toUInt64).toInt64).toInt32) &&& (2147483647 : Int32)).toInt64)) = t := ⟨_, rfl⟩
    obtain ⟨t135, ht135⟩ : ∃ t, (FP.ddiv t131 (4611686018427387904 : UInt64)) = t := ⟨_, rfl⟩
    obtain ⟨t148, ht148⟩ : ∃ t, FP.i2d (own_max (1 : Int32) (p2 &&& (2147483647 : Int32))) = t := ⟨_, rfl⟩
    obtain ⟨t160, ht160⟩ : ∃ t, FP.i2d (p3 &&& (2147483647 : Int32)) = t := ⟨_, rfl⟩
    obtain ⟨t161, ht161⟩ : ∃ t, (FP.dmul (4604930618986332160 : UInt64) t160) = t := ⟨_, rfl⟩
    obtain ⟨t164, ht164⟩ : ∃ t, (FP.ddiv t161 t135) = t := ⟨_, rfl⟩
    obtain ⟨t165, ht165⟩ : ∃ t, (FP.dadd (4598175219545276416 : UInt64) t164) = t := ⟨_, rfl⟩
    obtain ⟨t166, ht166⟩ : ∃ t, (FP.dmul (4608083138725491507 : UInt64) t165) = t := ⟨_, rfl⟩
    obtain ⟨t167, ht167⟩ : ∃ t, (FP.dadd t148 t166) = t := ⟨_, rfl⟩
    obtain ⟨t174, ht174⟩ : ∃ t, (FP.dmul t6 t18) = t := ⟨_, rfl⟩
    obtain ⟨t178, ht178⟩ : ∃ t, (FP.dmul t174 t148) = t := ⟨_, rfl⟩
    obtain ⟨t182, ht182⟩ : ∃ t, (FP.dmul t178 (4612136378390124954 : UInt64)) = t := ⟨_, rfl⟩
    obtain ⟨t185, ht185⟩ : ∃ t, (FP.ddiv t182 t167) = t := ⟨_, rfl⟩
    obtain ⟨mav, bav, pav⟩ : Jvm.Free.Fl.Mag64 1089 t135 ∧ Big64 1021 t135 ∧ own_Pl t135 := by
      rw [← ht135, ← ht131]
      exact own_average (own_sum_pos ka kb) (by unfold Jvm.Free.Fl.Mag64; decide) (by unfold Big64; decide) ⟨_, _, (by decide +kernel : FP.Core.val64 4611686018427387904 = .fin false 4503599627370496 (-51))⟩
    obtain ⟨hn6, hn18, hn161, hn164, hn165, hn166, hn167, hn174, hn178, hn182, hn185⟩ := own_nums ht2 ht6 ht14 ht18 ht148 ht160 ht161 ht164 ht165 ht166 ht167 ht174 ht178 ht182 (own_max_ge _) (own_and_nn _) mav bav pav
    have hn135 : Jvm.Free.Fl.NoNaN64 (FP.ddiv t131 (4611686018427387904 : UInt64)) := ht135 ▸ (mav.fin (by decide)).noNaN
    have hT4 := (congrArg FP.l2d eT).trans ht131
    have hR9 := (congrArg FP.i2d eR).trans (by decide +kernel : FP.i2d (2 : Int32) = (4611686018427387904 : UInt64))
    exact rm0_f l Z a0 hw ws q1 p2 p3 q4 p5 t2 t6 t14 t18 t131 t135 t148 t160 t161 t164 t165 t166 t167 t174 t148 t178 t182 t185 0 h0 n0 Z0 ht2 hn6 ht6 ht14 hn18 ht18 hb ht131 hn135 ht135 ht148 ht160 hn161 ht161 hn164 ht164 hn165 ht165 hn166 ht166 hn167 ht167 hn174 ht174 ht148 hn178 ht178 hn182 ht182 hn185 ht185 (dcmpV_self (ht185 ▸ hn185) _) rfl hT4 hR9
  · have eT := own_tot_t (c := (p5 &&& (2147483647 : Int32))) (own_pos ka) hb
    have eR := own_rec_t (c := (p5 &&& (2147483647 : Int32))) (own_pos ka) hb
    obtain ⟨t2, ht2⟩ : ∃ t, FP.i2d (q1.toInt32) = t := ⟨_, rfl⟩
    obtain ⟨t6, ht6⟩ : ∃ t, (FP.ddiv t2 (4625196817309499392 : UInt64)) = t := ⟨_, rfl⟩
    obtain ⟨t14, ht14⟩ : ∃ t, FP.i2d ((q1 >>> ((32 : Int32) &&& 0x3f).toInt64).toInt32) = t := ⟨_, rfl⟩
    obtain ⟨t18, ht18⟩ : ∃ t, (FP.ddiv t14 (4625196817309499392 : UInt64)) = t := ⟨_, rfl⟩
    obtain ⟨t141, ht141⟩ : ∃ t, FP.i2d (own_max (1 : Int32) ((q4.toInt32) &&& (2147483647 : Int32))) = t := ⟨_, rfl⟩
    obtain ⟨t143, ht143⟩ : ∃ t, (FP.ddiv t141 FP.dconst1) = t := ⟨_, rfl⟩
    obtain ⟨t148, ht148⟩ : ∃ t, FP.i2d (own_max (1 : Int32) (p2 &&& (2147483647 : Int32))) = t := ⟨_, rfl⟩
    obtain ⟨t160, ht160⟩ : ∃ t, FP.i2d (p3 &&& (2147483647 : Int32)) = t := ⟨_, rfl⟩
    obtain ⟨t161, ht161⟩ : ∃ t, (FP.dmul (4604930618986332160 : UInt64) t160) = t := ⟨_, rfl⟩
    obtain ⟨t164, ht164⟩ : ∃ t, (FP.ddiv t161 t143) = t := ⟨_, rfl⟩
    obtain ⟨t165, ht165⟩ : ∃ t, (FP.dadd (4598175219545276416 : UInt64) t164) = t := ⟨_, rfl⟩
    obtain ⟨t166, ht166⟩ : ∃ t, (FP.dmul (4608083138725491507 : UInt64) t165) = t := ⟨_, rfl⟩
    obtain ⟨t167, ht167⟩ : ∃ t, (FP.dadd t148 t166) = t := ⟨_, rfl⟩
    obtain ⟨t174, ht174⟩ : ∃ t, (FP.dmul t6 t18) = t := ⟨_, rfl⟩
    obtain ⟨t178, ht178⟩ : ∃ t, (FP.dmul t174 t148) = t := ⟨_, rfl⟩
    obtain ⟨t182, ht182⟩ : ∃ t, (FP.dmul t178 (4612136378390124954 : UInt64)) = t := ⟨_, rfl⟩
    obtain ⟨t185, ht185⟩ : ∃ t, (FP.ddiv t182 t167) = t := ⟨_, rfl⟩
    have hT4 := (congrArg FP.l2d eT).trans ((i2d_w _).symm.trans ht141)
    obtain ⟨mav, bav, pav⟩ : Jvm.Free.Fl.Mag64 1089 t143 ∧ Big64 1021 t143 ∧ own_Pl t143 := by
      rw [← ht143, ← ht141, i2d_w]
      exact own_average (by rw [Int32.toInt_toInt64]; omega) (by unfold Jvm.Free.Fl.Mag64 FP.dconst1; decide) (by unfold Big64 FP.dconst1; decide) ⟨_, _, FP.Core.val64_dconst1⟩
    obtain ⟨hn6, hn18, hn161, hn164, hn165, hn166, hn167, hn174, hn178, hn182, hn185⟩ := own_nums ht2 ht6 ht14 ht18 ht148 ht160 ht161 ht164 ht165 ht166 ht167 ht174 ht178 ht182 (own_max_ge _) (own_and_nn _) mav bav pav
    have hn143 : Jvm.Free.Fl.NoNaN64 (FP.ddiv t141 FP.dconst1) := ht143 ▸ (mav.fin (by decide)).noNaN
    have hR9 := (congrArg FP.i2d eR).trans (by decide +kernel : FP.i2d (1 : Int32) = FP.dconst1)
    exact rm0_t l Z a0 hw ws q1 p2 p3 q4 p5 t2 t6 t14 t18 t141 t143 t148 t160 t161 t164 t165 t166 t167 t174 t148 t178 t182 t185 0 h0 n0 Z0 ht2 hn6 ht6 ht14 hn18 ht18 hb ht141 hn143 ht143 ht148 ht160 hn161 ht161 hn164 ht164 hn165 ht165 hn166 ht166 hn167 ht167 hn174 ht174 ht148 hn178 ht178 hn182 ht182 hn185 ht185 (dcmpV_self (ht185 ▸ hn185) _) rfl hT4 hR9
set_option maxRecDepth 65536 in
set_option maxHeartbeats 40000000 in
theorem comes_1 {Post : Tables → Env → Array Value → State → Outcome → State → Prop} (hpost : ∀ tb e args s v u, (limb_1_1.after args s (.returned v) u = true ∧ limb_1_2.after args s (.returned v) u = true ∧ True) → FrameEnd s (.returned v) u (Jvm.fieldLocs frame_1_writes args s ++ Jvm.arrayLocs frame_1_arrays args s ++ Jvm.staticLocs frame_1_statics s) 16 128 → Post tb e args s (.returned v) u) :
    ArmFor flags0 classFile x code maxLocals ret World_1 tables_1 room_1 Calls_1 rest_1 Pre_1 Post := by
  intro l hfl _ _ p e ha hc hk s m args below hf hA hF happ hP
  obtain ⟨hcalls, hrest, hpre⟩ := hP
  obtain ⟨-, -, -, hnamed, -, -, -, hat⟩ := (Spec.applies_iff hf).mp happ
  obtain ⟨hg, hn⟩ := and_e (Cond.before_iff.mp (show (Jvm.Cond.and given_1 narrow_1).before args s = true from hpre))
  obtain ⟨g15, g16⟩ := and_e hg
  obtain ⟨g17, g18⟩ := and_e g16
  obtain ⟨g19, g20⟩ := and_e g18
  obtain ⟨g21, g22⟩ := and_e g20
  obtain ⟨g23, g24⟩ := and_e g22
  obtain ⟨w0, w1, w2, w3, w4, rfl⟩ : ∃ w0 w1 w2 w3 w4 : Value, args = #[w0, w1, w2, w3, w4] := by
    have hs : args.size = 5 := by simpa [Cond.value, given_1] using g15
    obtain ⟨L⟩ := args
    match L, hs with
    | [w0, w1, w2, w3, w4], _ => exact ⟨w0, w1, w2, w3, w4, rfl⟩
  have hw := fun d (hd : d ∈ tables_1) => atoms_spec (ws := Jvm.Cond.code x code maxLocals ret :: tables_1) hat d (List.mem_cons_of_mem _ hd)
  have hfit : Fit s := fun {y c} hc i hi => by
    obtain ⟨ha, rfl⟩ := Array.getElem?_eq_some_iff.mp hc
    have q := List.all_eq_true.mp ((Array.all_eq_true_iff_forall_mem.mp hF) _ (Array.getElem_mem ha)) i (List.mem_range.mpr hi)
    simpa [Array.getElem?_eq_getElem hi] using q
  obtain ⟨i0, ei0⟩ := isL_v g17
  obtain rfl : w0 = (.long i0) := Option.some.inj ei0
  obtain ⟨i1, ei1⟩ := is_v g19
  obtain rfl : w1 = (.int i1) := Option.some.inj ei1
  obtain ⟨i2, ei2⟩ := is_v g21
  obtain rfl : w2 = (.int i2) := Option.some.inj ei2
  obtain ⟨i3, ei3⟩ := isL_v g23
  obtain rfl : w3 = (.long i3) := Option.some.inj ei3
  obtain ⟨i4, ei4⟩ := is_v g24
  obtain rfl : w4 = (.int i4) := Option.some.inj ei4
  obtain ⟨n, o, h1, h2, h3, _, L, rfl, ⟨rfl, N⟩, hq⟩ := rm0 l s _ hw tables_1 i0 i1 i2 i3 i4 s.heap s.heap.size (Nat.le_refl _) p e ha hc hk s m _ below hf ((Spec.applies_iff_loose hf).mp happ).1 ⟨rfl, State.Warmed39.refl s, rfl⟩ trivial
  refine ⟨n, _, h1, h2, h3, hpost _ _ _ _ _ _ ⟨Cond.after_iff.mpr rfl, Cond.after_iff.mpr (eq_i res_at (Term.int_eval (1)) rfl), trivial⟩ ⟨hq.1, hq.2.1, (hq.2.2.sift fun y hy => Or.inr (N y hy)).mono (by decide) (by decide)⟩⟩
theorem main_1_1 : Claimed_1_1 := comes_1 fun _ _ _ _ _ _ h hF => ⟨h.1, hF⟩
theorem main_1_2 : Claimed_1_2 := comes_1 fun _ _ _ _ _ _ h hF => ⟨h.2.1, hF⟩
end Jvm.Pilot.@@N@@
namespace Jvm.Pilot.@@N@@
open Jvm Jvm.ClassFile Sem Op Lib Jvm.Free Jvm.Stand Jvm.Pilot.@@N@@.Jvm.D
/-! MADE BY PROGRAM (witnessworld.py) out of the Statement's table words and the real class files: 10 classes; the members and pool entries that the words name. The judged class is class 1, her method 1. -/
namespace start1
open Jvm.ClassFile
def u (s : String) : CpInfo := .utf8 (stringToUtf16 s)
/-- a pool by its gaps: so many unusable entries, then the entry; so many at the end -/
def gap : Nat → List CpInfo → List CpInfo
  | 0, r => r
  | n + 1, r => .unusable :: gap n r
def poolList (es : List (Nat × CpInfo)) (last : Nat) : List CpInfo := es.foldr (fun e r => gap e.1 (e.2 :: r)) (gap last [])
def pool (es : List (Nat × CpInfo)) (last : Nat) : Array CpInfo := ⟨poolList es last⟩
def fileOf (pool : Array CpInfo) (this : Nat) (attrs : Array Attribute := #[]) (ms : Array MethodInfo := #[]) (fl : Nat := 33) (sup : Nat := 0) (ifs : Array Nat := #[]) (fds : Array FieldInfo := #[]) : ClassFile where
  minorVersion := 0
  majorVersion := 65
  constantPool := pool
  accessFlags := fl
  thisClass := this
  superClass := sup
  interfaces := ifs
  fields := fds
  methods := ms
  attributes := attrs
def plain (name : String) (sup : Option ClassId) : Class where
  name := name
  kind := .ordinary
  loader := none
  accessFlags := 33
  super := sup
  interfaces := #[]
  cf := none
  fields := #[]
  methods := #[]
  instanceTypes := #[]
  staticTypes := #[]
  resolved := #[]
  callSites := []
  init := .initialized
  statics := none
  mirror := none

def pool0 : Array CpInfo := pool [(5, u "<init>"), (0, u "()V"), (1, .class_ 10), (1, u "java/lang/Object")] 113

def k0c0 : Code := { maxStack := 0, maxLocals := 1, code := object_method_1_code, exceptionTable := #[], attributes := #[] }
def k0m0 : Method := { name := "<init>", desc := "()V", sig := { parameters := [], returnType := none }, accessFlags := 1, code := some k0c0 }
/-- java/lang/Object -/
def k0 : Class := { plain "java/lang/Object" none with
  accessFlags := 33
  interfaces := #[]
  cf := some (fileOf pool0 8 #[] #[{ accessFlags := 1, nameIndex := 5, descriptorIndex := 6, attributes := #[] }] 33 0 #[] #[])
  fields := #[]
  methods := #[k0m0]
  instanceTypes := #[]
  staticTypes := #[]
  resolved := Array.replicate 124 none
  statics := none }

def pool1 : Array CpInfo := pool [(2, .class_ 4), (1, u "java/lang/Object"), (0, u "<init>"), (0, u "()V"), (0, .double 4625196817309499392), (1, .integer 2147483647), (0, .methodref 11 12), (0, .class_ 13), (0, .nameAndType 14 15), (0, u "java/lang/Math"), (0, u "max"), (0, u "(II)I"), (0, .class_ 17), (0, u "com/example/lodestone/lodestone/index/FieldStats"), (0, .methodref 16 19), (0, .nameAndType 5 20), (0, u "(D)V"), (0, .methodref 16 22), (0, .nameAndType 23 24), (0, u "add"), (0, u "(I)V"), (0, .methodref 16 26), (0, .nameAndType 27 24), (0, u "remove"), (0, .methodref 16 29), (0, .nameAndType 30 31), (0, u "score"), (0, u "(DII)D"), (0, .double 4611686018427387904), (1, .double 4608083138725491507), (1, .double 4598175219545276416), (1, .double 4604930618986332160), (1, .double 4612136378390124954), (1, .class_ 43), (0, u "com/example/lodestone/lodestone/index/FieldStatsScorePinLaw"), (2, u "law"), (0, u "(JIIJI)Z")] 3

def k1m0 : Method := { name := "<init>", desc := "()V", sig := { parameters := [], returnType := none }, accessFlags := 1, code := none }
def k1c1 : Code := { maxStack := 10, maxLocals := 25, code := code, exceptionTable := #[], attributes := #[] }
def k1m1 : Method := { name := "law", desc := "(JIIJI)Z", sig := { parameters := [.long, .int, .int, .long, .int], returnType := some .boolean }, accessFlags := 9, code := some k1c1 }
/-- com/example/lodestone/lodestone/index/FieldStatsScorePinLaw -/
def k1 : Class := { plain "com/example/lodestone/lodestone/index/FieldStatsScorePinLaw" (some 0) with
  accessFlags := 49
  interfaces := #[]
  cf := some (fileOf pool1 42 #[] #[{ accessFlags := 1, nameIndex := 5, descriptorIndex := 6, attributes := #[] }, { accessFlags := 9, nameIndex := 46, descriptorIndex := 47, attributes := #[] }] 49 2 #[] #[])
  fields := #[]
  methods := #[k1m0, k1m1]
  instanceTypes := #[]
  staticTypes := #[]
  resolved := Array.replicate 51 none
  statics := none }

def pool2 : Array CpInfo := pool [(1, .class_ 2), (0, u "java/lang/Math"), (1, .class_ 6), (1, u "java/lang/Object"), (0, u "<init>"), (0, u "()V"), (89, .class_ 100), (1, u "java/lang/Math$RandomNumberGeneratorHolder"), (71, u "negativeZeroFloatBits"), (0, u "J"), (2, u "negativeZeroDoubleBits"), (21, u "max"), (46, u "$assertionsDisabled"), (0, u "Z"), (88, u "(II)I"), (2, u "twoToTheDoubleScaleDown"), (0, u "D"), (4, u "twoToTheDoubleScaleUp"), (9, u "E"), (3, u "PI"), (2, u "TAU"), (2, u "DEGREES_TO_RADIANS"), (0, u "RADIANS_TO_DEGREES")] 94

def k2m0 : Method := { name := "<init>", desc := "()V", sig := { parameters := [], returnType := none }, accessFlags := 2, code := none }
def k2c1 : Code := { maxStack := 2, maxLocals := 2, code := jdk_29_method_65_code, exceptionTable := #[], attributes := #[] }
def k2m1 : Method := { name := "max", desc := "(II)I", sig := { parameters := [.int, .int], returnType := some .int }, accessFlags := 9, code := some k2c1 }
/-- java/lang/Math -/
def k2 : Class := { plain "java/lang/Math" (some 0) with
  accessFlags := 49
  interfaces := #[]
  cf := some (fileOf pool2 1 #[.nestMembers #[98]] #[{ accessFlags := 2, nameIndex := 7, descriptorIndex := 8, attributes := #[] }, { accessFlags := 9, nameIndex := 198, descriptorIndex := 335, attributes := #[] }] 49 4 #[] #[{ accessFlags := 25, nameIndex := 354, descriptorIndex := 339, attributes := #[] }, { accessFlags := 25, nameIndex := 358, descriptorIndex := 339, attributes := #[] }, { accessFlags := 25, nameIndex := 361, descriptorIndex := 339, attributes := #[] }, { accessFlags := 26, nameIndex := 364, descriptorIndex := 339, attributes := #[] }, { accessFlags := 26, nameIndex := 365, descriptorIndex := 339, attributes := #[] }, { accessFlags := 26, nameIndex := 172, descriptorIndex := 173, attributes := #[] }, { accessFlags := 26, nameIndex := 176, descriptorIndex := 173, attributes := #[] }, { accessFlags := 8, nameIndex := 344, descriptorIndex := 339, attributes := #[] }, { accessFlags := 8, nameIndex := 338, descriptorIndex := 339, attributes := #[] }, { accessFlags := 4120, nameIndex := 245, descriptorIndex := 246, attributes := #[] }])
  fields := #[{ name := "E", type := .double, accessFlags := 25, slot := 0, constantValue := 0 }, { name := "PI", type := .double, accessFlags := 25, slot := 1, constantValue := 0 }, { name := "TAU", type := .double, accessFlags := 25, slot := 2, constantValue := 0 }, { name := "DEGREES_TO_RADIANS", type := .double, accessFlags := 26, slot := 3, constantValue := 0 }, { name := "RADIANS_TO_DEGREES", type := .double, accessFlags := 26, slot := 4, constantValue := 0 }, { name := "negativeZeroFloatBits", type := .long, accessFlags := 26, slot := 5, constantValue := 0 }, { name := "negativeZeroDoubleBits", type := .long, accessFlags := 26, slot := 6, constantValue := 0 }, { name := "twoToTheDoubleScaleUp", type := .double, accessFlags := 8, slot := 7, constantValue := 0 }, { name := "twoToTheDoubleScaleDown", type := .double, accessFlags := 8, slot := 8, constantValue := 0 }, { name := "$assertionsDisabled", type := .boolean, accessFlags := 4120, slot := 9, constantValue := 0 }]
  methods := #[k2m0, k2m1]
  instanceTypes := #[]
  staticTypes := #[.double, .double, .double, .double, .double, .long, .long, .double, .double, .boolean]
  resolved := Array.replicate 460 none
  statics := none }

def pool3 : Array CpInfo := pool [(1, .methodref 2 3), (0, .class_ 4), (0, .nameAndType 5 6), (0, u "java/lang/Object"), (0, u "<init>"), (0, u "()V"), (0, .fieldref 8 9), (0, .class_ 10), (0, .nameAndType 11 12), (0, u "com/example/lodestone/lodestone/index/FieldStats"), (0, u "weight"), (0, u "D"), (0, .fieldref 8 14), (0, .nameAndType 15 16), (0, u "records"), (0, u "I"), (0, .fieldref 8 18), (0, .nameAndType 19 20), (0, u "totalLength"), (0, u "J"), (8, .double 4608083138725491507), (1, .double 4598175219545276416), (1, .double 4604930618986332160), (1, .double 4612136378390124954), (1, u "K1"), (1, u "B"), (0, u "(D)V"), (2, u "add"), (0, u "(I)V"), (1, u "remove"), (2, u "score"), (0, u "(DII)D")] 2

def k3c0 : Code := { maxStack := 3, maxLocals := 3, code := prog_2_method_1_code, exceptionTable := #[], attributes := #[] }
def k3m0 : Method := { name := "<init>", desc := "(D)V", sig := { parameters := [.double], returnType := none }, accessFlags := 0, code := some k3c0 }
def k3c1 : Code := { maxStack := 5, maxLocals := 2, code := prog_2_method_2_code, exceptionTable := #[], attributes := #[] }
def k3m1 : Method := { name := "add", desc := "(I)V", sig := { parameters := [.int], returnType := none }, accessFlags := 0, code := some k3c1 }
def k3c2 : Code := { maxStack := 5, maxLocals := 2, code := prog_2_method_3_code, exceptionTable := #[], attributes := #[] }
def k3m2 : Method := { name := "remove", desc := "(I)V", sig := { parameters := [.int], returnType := none }, accessFlags := 0, code := some k3c2 }
def k3c3 : Code := { maxStack := 10, maxLocals := 9, code := prog_2_method_5_code, exceptionTable := #[], attributes := #[] }
def k3m3 : Method := { name := "score", desc := "(DII)D", sig := { parameters := [.double, .int, .int], returnType := some .double }, accessFlags := 0, code := some k3c3 }
/-- com/example/lodestone/lodestone/index/FieldStats -/
def k3 : Class := { plain "com/example/lodestone/lodestone/index/FieldStats" (some 0) with
  accessFlags := 32
  interfaces := #[]
  cf := some (fileOf pool3 8 #[] #[{ accessFlags := 0, nameIndex := 5, descriptorIndex := 40, attributes := #[] }, { accessFlags := 0, nameIndex := 43, descriptorIndex := 44, attributes := #[] }, { accessFlags := 0, nameIndex := 46, descriptorIndex := 44, attributes := #[] }, { accessFlags := 0, nameIndex := 49, descriptorIndex := 50, attributes := #[] }] 32 2 #[] #[{ accessFlags := 26, nameIndex := 37, descriptorIndex := 12, attributes := #[] }, { accessFlags := 26, nameIndex := 39, descriptorIndex := 12, attributes := #[] }, { accessFlags := 18, nameIndex := 11, descriptorIndex := 12, attributes := #[] }, { accessFlags := 2, nameIndex := 15, descriptorIndex := 16, attributes := #[] }, { accessFlags := 2, nameIndex := 19, descriptorIndex := 20, attributes := #[] }])
  fields := #[{ name := "K1", type := .double, accessFlags := 26, slot := 0, constantValue := 0 }, { name := "B", type := .double, accessFlags := 26, slot := 1, constantValue := 0 }, { name := "weight", type := .double, accessFlags := 18, slot := 0, constantValue := 0 }, { name := "records", type := .int, accessFlags := 2, slot := 1, constantValue := 0 }, { name := "totalLength", type := .long, accessFlags := 2, slot := 2, constantValue := 0 }]
  methods := #[k3m0, k3m1, k3m2, k3m3]
  instanceTypes := #[.double, .int, .long]
  staticTypes := #[.double, .double]
  resolved := Array.replicate 53 none
  statics := none }

def pool4 : Array CpInfo := pool [(1, u "java/lang/Cloneable"), (0, .class_ 1), (0, u "java/lang/Object"), (0, .class_ 3)] 3

/-- java/lang/Cloneable -/
def k4 : Class := { plain "java/lang/Cloneable" (some 0) with
  accessFlags := 1537
  interfaces := #[]
  cf := some (fileOf pool4 2 #[] #[] 1537 4 #[] #[])
  fields := #[]
  methods := #[]
  instanceTypes := #[]
  staticTypes := #[]
  resolved := Array.replicate 8 none
  statics := none }

def pool5 : Array CpInfo := pool [(1, u "java/io/Serializable"), (0, .class_ 1), (0, u "java/lang/Object"), (0, .class_ 3)] 3

/-- java/io/Serializable -/
def k5 : Class := { plain "java/io/Serializable" (some 0) with
  accessFlags := 1537
  interfaces := #[]
  cf := some (fileOf pool5 2 #[] #[] 1537 4 #[] #[])
  fields := #[]
  methods := #[]
  instanceTypes := #[]
  staticTypes := #[]
  resolved := Array.replicate 8 none
  statics := none }

/-- the primitive byte -/
def k6 : Class := { plain "byte" none with kind := .primitive 'B', accessFlags := 0x411 }
/-- [B -/
def k7 : Class := { plain "[B" (some 0) with kind := .array 6 .byte, interfaces := #[4, 5], accessFlags := 1041 }

/-- the primitive int -/
def k8 : Class := { plain "int" none with kind := .primitive 'I', accessFlags := 0x411 }
/-- [I -/
def k9 : Class := { plain "[I" (some 0) with kind := .array 8 .int, interfaces := #[4, 5], accessFlags := 1041 }

def heap : Heap := #[]
def classes : Array Class := #[k0, k1, k2, k3, k4, k5, k6, k7, k8, k9]
def interned : List (Array UInt16 × Addr) := []
def slotsUsed : Nat := 0
def theMethod : MethodId := ⟨1, 1⟩
def args0 : Array Value := #[.long 5, .int 7, .int 1, .long 3, .int 3]
def aboutOver (below : List Frame) : State where
  vm := { classes := classes, interned := interned.toArray }
  heap := heap
  slotsUsed := slotsUsed
  threads := #[{ frames := .invoking theMethod args0 :: below }]
def below0 : List Frame := [.native { method := ⟨0, 0⟩, args := #[] }]
def about1 : State := aboutOver below0
def p0 : Program := .bare "" "" ""
def e0 : Env := launch0.env 0 0 0
theorem w_frames : about1.frames = Frame.invoking theMethod args0 :: below0 := rfl
set_option maxRecDepth 65536 in
theorem w_args : argsFit about1.vm theMethod args0 = true := by decide +kernel
set_option maxRecDepth 65536 in
theorem w_heap : heapFits about1 = true := by decide +kernel
set_option maxRecDepth 65536 in
theorem w_runnable : about1.curStatus? = some .runnable := by decide +kernel
set_option maxRecDepth 65536 in
theorem w_alone : about1.alone = true := by decide +kernel
set_option maxRecDepth 65536 in
theorem w_named : about1.methodNamed? x = some theMethod := by decide +kernel
set_option maxRecDepth 65536 in
theorem w_hears : about1.hears theMethod below0 = true := by decide +kernel
set_option maxRecDepth 65536 in
theorem w_ripe : about1.ripe theMethod args0 below0 = true := by decide +kernel
theorem w_running : about1.status = .running := rfl
set_option maxRecDepth 65536 in
theorem w_room : about1.hasRoom e0.platform room_1 = true :=
  launch0.hasRoom_least _ room_1 (by decide +kernel) (by decide +kernel) (by decide +kernel) (by decide +kernel) (by decide +kernel) (by decide +kernel)
theorem allAtoms_all (ts : List Jvm.Cond) (a : Array Jvm.Value) (st : Jvm.State) : (allAtoms ts).before a st = ts.all (fun c => c.before a st) := by
  induction ts with
  | nil => rfl
  | cons c t ih =>
    show (Jvm.Cond.and c (allAtoms t)).before a st = _
    rw [Jvm.Cond.before_and, ih, List.all_cons]
def words1 : List Jvm.Cond := Jvm.Cond.code x code maxLocals ret :: tables_1
/-- a 'code' word, met by the world's own term for the bytes: nothing is compared byte by byte -/
theorem code_word {y : MethodName} {bytes : ByteArray} {mx : Nat} {rt : Option FieldType} {a : Array Value} {s : State} {m : MethodId} {meth : Method} {c : Code} (h1 : s.methodNamed? y = some m) (h2 : s.vm.method? m = some meth) (h3 : meth.code = some c) (h4 : c.code = bytes)
    (h5 : (c.maxLocals == mx && c.exceptionTable.isEmpty && decide (c.maxStack ≤ mostOperands) && decide (meth.sig.returnType = rt) && !meth.locks && decide (parseMethodDescriptor y.desc = some meth.sig)) = true) : (Jvm.Cond.code y bytes mx rt).before a s = true := by
  simp only [Bool.and_eq_true, beq_iff_eq, Bool.not_eq_true', decide_eq_true_eq] at h5
  obtain ⟨⟨⟨⟨⟨g1, g2⟩, g3⟩, g4⟩, g5⟩, g6⟩ := h5
  simp [Cond.before, Cond.holds, Cond.value, h1, h2, h3, h4, g1, g2, g3, g4, g5, g6]
def isCode : Jvm.Cond → Bool
  | .code _ _ _ _ => true
  | _ => false
theorem all_split {L : List Jvm.Cond} {P : Jvm.Cond → Bool} (h1 : L.all (fun c => isCode c || P c) = true) (h2 : ∀ c ∈ L.filter isCode, P c = true) : L.all P = true := by
  refine List.all_eq_true.mpr fun c hc => ?_
  have h := List.all_eq_true.mp h1 c hc
  rcases Bool.eq_false_or_eq_true (isCode c) with hi | hi
  · exact h2 c (List.mem_filter.mpr ⟨hc, hi⟩)
  · simpa [hi] using h
set_option maxRecDepth 65536 in
theorem w_c0 : (Jvm.Cond.code x code maxLocals ret).before args0 about1 = true := code_word (m := ⟨1, 1⟩) (meth := k1m1) (c := k1c1) (by decide +kernel) rfl rfl rfl (by decide +kernel)
set_option maxRecDepth 65536 in
theorem w_c1 : (Jvm.Cond.code ({ cls := "java/lang/Math", name := "max", desc := "(II)I" } : Jvm.MethodName) jdk_29_method_65_code (2 : Nat) (Option.some Jvm.ClassFile.FieldType.int)).before args0 about1 = true := code_word (m := ⟨2, 1⟩) (meth := k2m1) (c := k2c1) (by decide +kernel) rfl rfl rfl (by decide +kernel)
set_option maxRecDepth 65536 in
theorem w_c2 : (Jvm.Cond.code ({ cls := "com/example/lodestone/lodestone/index/FieldStats", name := "<init>", desc := "(D)V" } : Jvm.MethodName) prog_2_method_1_code (3 : Nat) (Option.none : Option Jvm.ClassFile.FieldType)).before args0 about1 = true := code_word (m := ⟨3, 0⟩) (meth := k3m0) (c := k3c0) (by decide +kernel) rfl rfl rfl (by decide +kernel)
set_option maxRecDepth 65536 in
theorem w_c3 : (Jvm.Cond.code ({ cls := "java/lang/Object", name := "<init>", desc := "()V" } : Jvm.MethodName) object_method_1_code (1 : Nat) (Option.none : Option Jvm.ClassFile.FieldType)).before args0 about1 = true := code_word (m := ⟨0, 0⟩) (meth := k0m0) (c := k0c0) (by decide +kernel) rfl rfl rfl (by decide +kernel)
set_option maxRecDepth 65536 in
theorem w_c4 : (Jvm.Cond.code ({ cls := "com/example/lodestone/lodestone/index/FieldStats", name := "add", desc := "(I)V" } : Jvm.MethodName) prog_2_method_2_code (2 : Nat) (Option.none : Option Jvm.ClassFile.FieldType)).before args0 about1 = true := code_word (m := ⟨3, 1⟩) (meth := k3m1) (c := k3c1) (by decide +kernel) rfl rfl rfl (by decide +kernel)
set_option maxRecDepth 65536 in
theorem w_c5 : (Jvm.Cond.code ({ cls := "com/example/lodestone/lodestone/index/FieldStats", name := "remove", desc := "(I)V" } : Jvm.MethodName) prog_2_method_3_code (2 : Nat) (Option.none : Option Jvm.ClassFile.FieldType)).before args0 about1 = true := code_word (m := ⟨3, 2⟩) (meth := k3m2) (c := k3c2) (by decide +kernel) rfl rfl rfl (by decide +kernel)
set_option maxRecDepth 65536 in
theorem w_c6 : (Jvm.Cond.code ({ cls := "com/example/lodestone/lodestone/index/FieldStats", name := "score", desc := "(DII)D" } : Jvm.MethodName) prog_2_method_5_code (9 : Nat) (Option.some Jvm.ClassFile.FieldType.double)).before args0 about1 = true := code_word (m := ⟨3, 3⟩) (meth := k3m3) (c := k3c3) (by decide +kernel) rfl rfl rfl (by decide +kernel)
def codes1 : List Jvm.Cond := [Jvm.Cond.code x code maxLocals ret, Jvm.Cond.code ({ cls := "java/lang/Math", name := "max", desc := "(II)I" } : Jvm.MethodName) jdk_29_method_65_code (2 : Nat) (Option.some Jvm.ClassFile.FieldType.int), Jvm.Cond.code ({ cls := "com/example/lodestone/lodestone/index/FieldStats", name := "<init>", desc := "(D)V" } : Jvm.MethodName) prog_2_method_1_code (3 : Nat) (Option.none : Option Jvm.ClassFile.FieldType), Jvm.Cond.code ({ cls := "java/lang/Object", name := "<init>", desc := "()V" } : Jvm.MethodName) object_method_1_code (1 : Nat) (Option.none : Option Jvm.ClassFile.FieldType), Jvm.Cond.code ({ cls := "com/example/lodestone/lodestone/index/FieldStats", name := "add", desc := "(I)V" } : Jvm.MethodName) prog_2_method_2_code (2 : Nat) (Option.none : Option Jvm.ClassFile.FieldType), Jvm.Cond.code ({ cls := "com/example/lodestone/lodestone/index/FieldStats", name := "remove", desc := "(I)V" } : Jvm.MethodName) prog_2_method_3_code (2 : Nat) (Option.none : Option Jvm.ClassFile.FieldType), Jvm.Cond.code ({ cls := "com/example/lodestone/lodestone/index/FieldStats", name := "score", desc := "(DII)D" } : Jvm.MethodName) prog_2_method_5_code (9 : Nat) (Option.some Jvm.ClassFile.FieldType.double)]
set_option maxRecDepth 65536 in
theorem codes_eq : words1.filter isCode = codes1 := rfl
theorem w_codes : ∀ c ∈ words1.filter isCode, c.before args0 about1 = true := by
  rw [codes_eq]
  intro c hc
  simp only [codes1, List.mem_cons, List.not_mem_nil, or_false] at hc
  rcases hc with rfl | rfl | rfl | rfl | rfl | rfl | rfl
  · exact w_c0
  · exact w_c1
  · exact w_c2
  · exact w_c3
  · exact w_c4
  · exact w_c5
  · exact w_c6
set_option maxRecDepth 65536 in
theorem w_t1 : (words1.take 24).all (fun c => isCode c || c.before args0 about1) = true := by decide +kernel
set_option maxRecDepth 65536 in
theorem w_t2 : (words1.drop 24).all (fun c => isCode c || c.before args0 about1) = true := by decide +kernel
theorem w_tables : (allAtoms (Jvm.Cond.code x code maxLocals ret :: tables_1)).before args0 about1 = true := by
  rw [allAtoms_all]
  show words1.all (fun c => c.before args0 about1) = true
  refine all_split ?_ w_codes
  rw [← List.take_append_drop 24 words1, List.all_append, w_t1, w_t2]
  rfl
set_option maxRecDepth 65536 in
theorem w_case : (Jvm.Cond.and given_1 narrow_1).before args0 about1 = true := by decide +kernel
theorem w_applies : (headSpec (Jvm.Cond.code x code maxLocals ret :: tables_1) room_1).applies x e0.platform about1 = true :=
  (Spec.applies_iff w_frames).mpr ⟨w_running, w_runnable, w_alone, w_named, w_hears, w_ripe, w_room, w_tables⟩
theorem atStart : AtStart classFile x code maxLocals ret World_1 tables_1 room_1 Calls_1 rest_1 Pre_1 launch0 p0 e0 about1 theMethod args0 below0 :=
  ⟨lists_1, trivial, launch0.admits_env _ _ _, launch0.least_env, fairChoices_fair.cas, fairChoices_fair.clock, w_frames, w_args, w_heap, w_applies, trivial, trivial, w_case⟩
end start1
theorem witness_1 : WitnessClaimed_1 := ⟨start1.p0, start1.e0, start1.about1, start1.theMethod, start1.args0, start1.below0, start1.atStart⟩
end Jvm.Pilot.@@N@@
